import PyProof.Rows.All
import Wide.All
import OpenK.AllK
import Wide.FinOn
import PySem.Challenge.RW_op0109_01
open PySem PySem.W PyProof.Rows PySem.Calls
set_option Elab.async false
set_option linter.unusedVariables false

namespace Mine
set_option maxRecDepth 100000
set_option maxHeartbeats 8000000
open_top hd for PySem.Challenge.rw_op0109_01
end Mine

namespace Mine
set_option maxRecDepth 100000


section
variable {prog : Program} {w : World} {A A₀ : Around} {E : Value → Shared → Prop} {s : Shared} {K : Frag} {L : Addr} {h₀ base : Heap} {m mg mb : Str → Option Value} {news : List (Addr × Obj)} {p : Program} {loose : List Str} {mean : ExcName → Option Value} {Q : Value → Shared → Prop}

theorem hidden_stays {h h' : Heap} (hk : (hideAll h (news.map (·.1))).StaysIn h') (hn : ∀ p ∈ news, h.get? p.1 = some p.2) (hn' : ∀ p ∈ news, h'.get? p.1 = some p.2) : h.StaysIn h' := by
  intro b o e
  by_cases hb : b ∈ news.map (·.1)
  · obtain ⟨p, hp, rfl⟩ := List.mem_map.mp hb
    rw [hn p hp] at e
    rw [hn' p hp, e]
  · exact hk b o (hideAll_get _ e hb)

theorem hidden_none {h : Heap} (b : Addr) (e : (hideAll h (news.map (·.1))).get? b = none) (hn : ∀ p ∈ news, p.1 ≠ b) : h.get? b = none := by
  cases q : h.get? b with
  | none => rfl
  | some o =>
    rw [hideAll_get _ q fun hb => by obtain ⟨p, hp, e'⟩ := List.mem_map.mp hb; exact hn p hp e'] at e
    cases e
/-- all of h stands in whatever keeps g and the ledger -/
def Kept (g : Heap) (news : List (Addr × Obj)) (h : Heap) : Prop := (∀ h', g.StaysIn h' → (∀ p ∈ news, h'.get? p.1 = some p.2) → h.StaysIn h') ∧ ∀ b, g.get? b = none → (∀ p ∈ news, p.1 ≠ b) → h.get? b = none

/-- the call of a def of the written part; behind it every object stands as it stood -/
theorem enter {env : Env} {outer : List Env} {name qual : Str} {params : Arguments} {body : List Stmt} {scope : Scope} {dV kV doc pm cdv ct oc : Value} {an od : Option Addr} {osl : Array (Option Value)} {f : Addr} {args : Args} {binds : List (Str × Value)} {R : Result → Shared → Prop}
    (B : Below A₀ base outer h₀) (F : Fr h₀ L s.heap m) (X₀ : K.In h₀) (N : News h₀ L s.heap news) (T : Top p loose mean mg mb h₀) (hA : A.frames = some (env :: outer)) (hf : env.frame = some L) (hke : env.scope.kind = .function)
    (ho : K.lookup f = some ⟨oc, od, .func (fnOf name qual params body scope dV kV doc pm an cdv ct), osl⟩) (hcd : codeIn K cdv qual = true) (hroom : A.depth < recursionLimit)
    (hbind : BindsTo s (fnOf name qual params body scope dV kV doc pm an cdv ct) args binds) (hloc : ∀ y ∈ binds, scope.names.lookup y.1 = some .local)
    (h : ∀ g L' h₁, Kept g news s.heap → Fr g L' h₁ (fun y => binds.reverse.lookup y) → News g L' h₁ news → Below A base (env :: outer) g → K.In g → Top p loose mean mg mb g → (∀ p ∈ news, p.1 < L') → 
      wpAny (model prog w) (A.deeper (envOf qual scope L' f cdv)) (execs body (envOf qual scope L' f cdv))
        (fun fl s' => R (.ok (.ret (match fl with | .ret v => v | _ => .none))) s')
        (fun _ _ => False)
        { s with heap := h₁, toks := s.toks + binds.length })
    (hco : scope.isCoroutine = false) (hgen : scope.isGenerator = false) (hk : scope.kind = .function)
    (hcell : ∀ x ∈ scope.names, x.2 ≠ .cell) : codeAny (model prog w) A (.call (.ref f) args) R s := by
  obtain ⟨FG, BG, st, lv⟩ := groundX (R := R) B F N hA hf hke
  have XG := X₀.keeps st
  refine codeAny_call_def (fd := fnOf name qual params body scope dV kV doc pm an cdv ct) (body := body) (binds := binds) hroom ((X₀.keeps F.keep) _ _ ho) rfl (T.nolimit.keeps F.keep) (codeRec_of (X₀.keeps F.keep) hcd) rfl hbind hcell hloc (fun h₁ hns hk₁ => ?_) hco hgen hk
  exact wpAny_mono (h _ s.heap.objs.size h₁ ⟨(fun h' a b => hidden_stays a (fun p hp => (N p hp).1) b), hidden_none⟩ ⟨hns, fun b o e => hk₁ b o (of_hideAll _ e), Nat.le_of_eq (hideAll_size _ _)⟩
    (fun p hp => ⟨hk₁ _ _ (N p hp).1, Nat.ne_of_lt (Heap.lt_size (N p hp).1), hideAll_none _ (List.mem_map_of_mem hp)⟩) BG XG (T.keeps st) (fun p hp => Heap.lt_size (N p hp).1)) (fun fl s' hl => hl) fun _ _ y => y.elim

theorem Kept.out {g h h' : Heap} {L' : Addr} {m' : Str → Option Value} {news' : List (Addr × Obj)} (K : Kept g news h) (F : Fr g L' h' m') (N : News g L' h' news') (hs : ∀ p ∈ news, p ∈ news') :
    h.StaysIn h' := K.1 h' F.keep fun p hp => (N p (hs p hp)).1
theorem Kept.out0 {g h h' : Heap} {L' : Addr} {m' : Str → Option Value} (K : Kept g [] h) (F : Fr g L' h' m') : h.StaysIn h' := K.1 h' F.keep fun p hp => nomatch hp
theorem Kept.fresh0 {g h h' : Heap} {L' : Addr} {news' : List (Addr × Obj)} {b : Addr} {o : Obj} (K : Kept g [] h) (N : News g L' h' news') (hm : (b, o) ∈ news') : h.get? b = none ∧ h'.get? b = some o := ⟨K.2 b (N _ hm).2.2 (fun p hp => nomatch hp), (N _ hm).1⟩

theorem fr_stays {h h' : Heap} (F : Fr h₀ L h m) (k : h.StaysIn h') : Fr h₀ L h' m := by
  obtain ⟨oL, a1, a2, hL, a3⟩ := F.ns
  exact ⟨⟨oL, a1, a2, k _ _ hL, a3⟩, fun b o' e => k _ _ (F.keep b o' e), F.above⟩
theorem news_stays {h h' : Heap} (N : News h₀ L h news) (k : h.StaysIn h') : News h₀ L h' news := fun p hp => ⟨k _ _ (N p hp).1, (N p hp).2⟩
theorem news_more {h h' : Heap} {a : Addr} {o : Obj} (F : Fr h₀ L h m) (N : News h₀ L h' news) (e : h'.get? a = some o) (n : h.get? a = none) : News h₀ L h' ((a, o) :: news) := by
  intro p hp
  rcases List.mem_cons.mp hp with rfl | hp
  · refine ⟨e, ?_, ?_⟩
    · intro q
      obtain ⟨oL, _, _, hL, _⟩ := F.ns
      have q' : a = L := q
      rw [q', hL] at n; cases n
    · cases q : h₀.get? a with
      | none => rfl
      | some o' => rw [F.keep _ _ q] at n; cases n
  · exact N p hp
end

/-- what a def of the text gives, all else standing as it stood -/
def Ctr (k : Nat) (w : World) (mean : ExcName → Option Value) (mg mb : Str → Option Value) (f : Addr) (news : List (Addr × Obj)) (vs : List Value) (Post : Value → Heap → Heap → Prop) : Prop :=
  ∀ (dp un : Nat) (gd : Option (List Code)) (cn : Str) (cs : Scope) (a : Addr) (ccd : Value) (cl : List (Str × Addr)) (outer : List Env) (A₀ : Around) (base h₀ : Heap) (L : Addr) (m : Str → Option Value) (s : Shared) (Q E : Value → Shared → Prop),
    Below A₀ base outer h₀ → Fr h₀ L s.heap m → (hd.heap_39 w.params).In h₀ → News h₀ L s.heap news → Top hd.view_39 (looseW hd.view_39 [Str.ofString "_filemode_table"]) mean mg mb h₀ → cs.kind = .function → dp + k < recursionLimit → un + 20 * k < cLine →
    (∀ v h' tk', s.heap.StaysIn h' → Post v s.heap h' → Q v { s with heap := h', toks := tk' }) →
    wpAny (model PySem.Challenge.rw_op0109_01.row.prog w) (ktrTop dp un gd cn cs L a ccd cl outer) (call (.ref f) vs) Q E s


section
variable {k k' : Nat} {w : World} {mean : ExcName → Option Value} {mg mb : Str → Option Value} {f : Addr} {news news₀ : List (Addr × Obj)} {vs : List Value} {Post : Value → Heap → Heap → Prop} {R : Tok → Value}
  {dp un : Nat} {gd : Option (List Code)} {cn : Str} {cs : Scope} {a : Addr} {ccd : Value} {cl : List (Str × Addr)} {outer : List Env} {A₀ : Around} {base h₀ : Heap} {L : Addr} {m : Str → Option Value} {s : Shared} {Q E : Value → Shared → Prop}
/-- a call by its contract -/
theorem Ctr.use (C : Ctr k w mean mg mb f news₀ vs Post) (B : Below A₀ base outer h₀) (F : Fr h₀ L s.heap m) (X : (hd.heap_39 w.params).In h₀) (N : News h₀ L s.heap news) (T : Top hd.view_39 (looseW hd.view_39 [Str.ofString "_filemode_table"]) mean mg mb h₀)
    (hk : cs.kind = .function) (hd : dp + k < recursionLimit) (hu : un + 20 * k < cLine) (hs : ∀ p ∈ news₀, p ∈ news)
    (ret : ∀ v h' tk', s.heap.StaysIn h' → Fr h₀ L h' m → News h₀ L h' news → Post v s.heap h' → Q v { s with heap := h', toks := tk' }) :
    wpAny (model PySem.Challenge.rw_op0109_01.row.prog w) (ktrTop dp un gd cn cs L a ccd cl outer) (call (.ref f) vs) Q E s :=
  C dp un gd cn cs a ccd cl outer A₀ base h₀ L m s Q E B F X (fun p hp => N p (hs p hp)) T hk hd hu fun v h' tk' st po => ret v h' tk' st (fr_stays F st) (news_stays N st) po
/-- of a value -/
theorem Ctr.useV (C : Ctr k w mean mg mb f [] vs (fun v _ _ => ∃ t, v = R t)) (B : Below A₀ base outer h₀) (F : Fr h₀ L s.heap m) (X : (hd.heap_39 w.params).In h₀) (N : News h₀ L s.heap news) (T : Top hd.view_39 (looseW hd.view_39 [Str.ofString "_filemode_table"]) mean mg mb h₀)
    (hk : cs.kind = .function) (hd : dp + k < recursionLimit) (hu : un + 20 * k < cLine)
    (ret : ∀ t h' tk', Fr h₀ L h' m → News h₀ L h' news → Q (R t) { s with heap := h', toks := tk' }) :
    wpAny (model PySem.Challenge.rw_op0109_01.row.prog w) (ktrTop dp un gd cn cs L a ccd cl outer) (call (.ref f) vs) Q E s :=
  C.use B F X N T hk hd hu (fun _ h => nomatch h) fun v h' tk' _ F' N' ⟨t, e⟩ => e ▸ ret t h' tk' F' N'
end

/-- stops of the walk -/
def Hold (p : Prop) : Prop := p
section
variable {M : Model} {A : Around} {E : Value → Shared → Prop} {s : Shared}
theorem hold_for {Q : Flow → Shared → Prop} {t i : Expr} {b o : List Stmt} {p : Pos} {env : Env} (h : Hold (wpAny M A (exec (.For t i b o p) env) Q E s)) : wpAny M A (exec (.For t i b o p) env) Q E s := h
theorem hold_type {Q : Value → Shared → Prop} {T : String} {args : List Value} {kw : List (Str × Value)} (h : Hold (wpAny M A (call (.type T) args kw) Q E s)) : wpAny M A (call (.type T) args kw) Q E s := h
theorem hold_ref {Q : Value → Shared → Prop} {a : Addr} {args : List Value} {kw : List (Str × Value)} (h : Hold (wpAny M A (call (.ref a) args kw) Q E s)) : wpAny M A (call (.ref a) args kw) Q E s := h
theorem hold_pow {Q : Value → Shared → Prop} {a b : Value} (h : Hold (wpAny M A (binaryOp .Pow a b) Q E s)) : wpAny M A (binaryOp .Pow a b) Q E s := h
theorem hold_sub {Q : Value → Shared → Prop} {v i : Expr} {a : Addr} {b : Value} (h : Hold (wpAny M A (subscriptTail v i (.ref a) b) Q E s)) : wpAny M A (subscriptTail v i (.ref a) b) Q E s := h
end
end Mine

namespace Mine
set_option maxRecDepth 100000
set_option maxHeartbeats 1000000

/-- a tree with no end at all has none -/
theorem no_end {α : Type} {M : Model} {Γ : Ctx} : ∀ {t : Sem α} {p : Pos} {s : Shared}, Sem.wp M Γ t (fun _ _ _ => False) (fun _ _ _ => False) p s → False := by
  intro t
  induction t <;> intro p s h <;> simp only [Sem.wp] at h
  all_goals first
    | (rename_i ih; exact ih _ h)
    | (rename_i ih; exact ih _ h.2)
    | (rename_i ih; obtain ⟨_, _, h⟩ := h; exact ih _ h)
    | (rename_i ih; obtain ⟨_, _, _, h⟩ := h; exact ih _ h)

/-- what a for's step draws, the bare next draws too -/
theorem next_bare {prog : Program} {w : World} {A : Around} {E : Value → Shared → Prop} {s : Shared} {it : Value} {Q : Value → Shared → Prop}
    (h : wpAny (model prog w) A (pyNext it) (fun o s' => ∃ v, o = some v ∧ Q v s') (fun _ _ => False) s) : wpAny (model prog w) A (Builtin.SmallTypes.nextOf it) Q E s := by
  intro Γ p hΓ
  have k := h Γ p hΓ
  unfold pyNext at k
  rw [Sem.wp_bind', Sem.wp_attempt] at k
  unfold Builtin.SmallTypes.nextOf
  rw [Sem.wp_bind']
  refine Sem.wp_mono _ _ _ (fun o p' s' x => ?_) (fun e p' s' x => ?_) _ _ k
  · cases o with
    | none => exact absurd x (by simp [PySem.unsupported])
    | some v =>
      obtain ⟨v', e, q⟩ := x
      cases e
      exact q
  · dsimp only at x
    rw [Sem.wp_bind'] at x
    refine (no_end (Sem.wp_mono _ _ _ (fun b p₂ s₂ y => ?_) (fun _ _ _ y => y) _ _ x)).elim
    cases b
    · exact y
    · obtain ⟨_, e, _⟩ := y
      cases e

theorem draws_tup {prog : Program} {w : World} {A : Around} (hh : A.handled = none) (it l : Addr) (hne : l ≠ it) (items : Array Value) :
    Draws prog w A it [it, l] items.size (fun i v => items[i]? = some v) (fun i h => h.IsTupleIter it l i ∧ h.IsTuple l items) where
  live := fun _ _ st => st.1.imp fun _ x => x.1
  frame := fun _ _ _ st k => ⟨st.1.at (k it (List.mem_cons_self ..)), st.2.at (k l (List.mem_cons_of_mem _ (List.mem_cons_self ..)))⟩
  item := fun i s Q E hi st hQ => next_bare (wpAny_pyNext_tuple_item st.1 st.2 (Array.getElem?_eq_getElem hi) fun h' a b =>
    ⟨_, rfl, hQ _ h' s.toks (Array.getElem?_eq_getElem hi) ⟨a, st.2.extBut b.extBut hne⟩ b⟩)
  done := fun s Q E st hE => by
    obtain ⟨hp, g, d, tk, os⟩ := s
    have hT := st.1.typeIs
    obtain ⟨⟨⟨c, od, dd, sl⟩, ho, hc, hd⟩, ⟨⟨c2, od2, dd2, sl2⟩, hot, hc2, nt, hdt⟩⟩ := st
    dsimp only at hc hd hc2 hdt ho hot
    subst hc hd hc2 hdt
    refine wpAny_bind (wpAny_callSpecial?_slot hT F.slot_tuple_iterator_next (wpAny_call_entry F.slot_tuple_iterator_next hT F.entry_tuple_iterator_next ?_ (F.args_tuple_iterator_next_1 _)))
    have hx : items[((items.size : Nat) : Int).toNat]? = none := by simp
    have hh' : A.in1.handled = none := hh
    wp_walk
    rw [hx]
    wp_walk
    refine wpAny_raiseNew_none hh (hE _ _ (fun b x hb e => ?_) ⟨_, Heap.get?_push_size _ rfl, rfl⟩)
    exact Heap.get?_push_of_some _ (Heap.get?_push_of_some _ (Heap.get?_update_of_ne _ (Ne.symm hb) e))

theorem any_bool {M : Model} {A : Around} {E : Value → Shared → Prop} {s : Shared} {b : Bool} {Q : Bool → Shared → Prop} (h : ∀ b, Q b s) : wpAny M A (pure b) Q E s := wpAny_pure (h b)

/-- enumerate's making, over a tuple -/
theorem made_enum {l : Addr} {items : Array Value} {n : Nat} {od : Option Addr} {sl : Array (Option Value)} :
    Meets (Builtin.«enumerate.__new__» ⟨[.type "enumerate", .ref l], []⟩) (fun _ R s => ∃ hp g d tk os, s = ⟨hp, g, d, tk, os⟩ ∧ hp.get? l = some { cls := .type "tuple", dict := od, data := .seq items n, slots := sl } ∧
      R (.ok (.ret (.ref (hp.objs.size + 1)))) ⟨(hp.push { cls := .type "tuple_iterator", data := .fields #[.ref l, .int 0 0] }).push { cls := .type "enumerate", data := .fields #[.none, .bool false, .ref hp.objs.size, rawInt 0, .none, .none] }, g, d, tk, os⟩) :=
  .of_wp fun prog w A R s h => by
    obtain ⟨hp, g, d, tk, os, rfl, ho, hR⟩ := h
    have hs := sub_enumerate
    have ht : Heap.IsTuple (Shared.heap ⟨hp, g, d, tk, os⟩) l items := ⟨_, ho, rfl, n, rfl⟩
    have hz : (hp.push { cls := .type "tuple_iterator", data := .fields #[.ref l, .int 0 0] }).objs.size = hp.objs.size + 1 := Heap.size_push ..
    wp_walk
    refine wpAny_stack_any fun _ => any_bool fun b => ?_
    rw [← hz] at hR
    cases b <;> (wp_walk using wpAny_pyIter_tuple ht; exact ⟨_, rfl, hR⟩)

theorem call_enum_tuple {prog : Program} {w : World} {A : Around} {E : Value → Shared → Prop} {s : Shared} {l : Addr} {items : Array Value} {Q : Value → Shared → Prop} (hL : s.heap.IsTuple l items)
    (h : ∀ h', IsEnum h' (s.heap.objs.size + 1) s.heap.objs.size 0 .none → h'.IsTupleIter s.heap.objs.size l 0 → s.heap.StaysIn h' → Q (.ref (s.heap.objs.size + 1)) { s with heap := h' }) :
    wpAny (model prog w) A (call (.type "enumerate") [.ref l]) Q E s := by
  obtain ⟨hp, g, d, tk, os⟩ := s
  obtain ⟨⟨c, od, dd, sl⟩, hl, hc, n, hd⟩ := hL
  dsimp only at hc hd
  subst hc hd
  have e : IsEnum ((hp.push { cls := .type "tuple_iterator", data := .fields #[.ref l, .int 0 0] }).push { cls := .type "enumerate", data := .fields #[.none, .bool false, .ref hp.objs.size, rawInt 0, .none, .none] }) (hp.objs.size + 1) hp.objs.size 0 .none :=
    Heap.get?_push_at (Heap.size_push ..).symm rfl
  exact callType_new F.called_enumerate (by decide) (F.typeCall_enumerate_1 _) (F.newCall_enumerate_1 _) (fun _ => F.args_object_init_2 _ _) F.entry_enumerate_new made_enum
    ⟨hp, g, d, tk, os, rfl, hl, ⟨_, e, rfl⟩, h _ e ⟨_, Heap.get?_push_of_some _ (Heap.get?_push_size _ rfl), rfl, rfl⟩ fun _ _ x => Heap.get?_push_of_some _ (Heap.get?_push_of_some _ x)⟩
end Mine

namespace Mine
set_option maxRecDepth 100000
set_option maxHeartbeats 1000000

section
variable {prog : Program} {w : World} {A : Around} {E : Value → Shared → Prop} {s : Shared} {h₀ : Heap} {env : Env} {m : Str → Option Value} {news : List (Addr × Obj)} {Q : Flow → Shared → Prop}

/-- what a turn leaves behind it -/
def Left (h₀ : Heap) (L : Addr) (own : List (Addr × Obj)) (J : (Str → Option Value) → List (Addr × Obj) → Prop) (s s₃ : Shared) : Prop :=
  ∃ h' tk m' news', s₃ = { s with heap := h', toks := tk } ∧ Fr h₀ L h' m' ∧ News h₀ L h' (own ++ news') ∧ (∀ p ∈ news', ∀ q ∈ own, p.1 ≠ q.1) ∧ J m' news'
/-- a turn's end within a loop whose own objects are own -/
def TurnEnd (h₀ : Heap) (L : Addr) (own : List (Addr × Obj)) (J : (Str → Option Value) → List (Addr × Obj) → Prop) (s : Shared) (Q : Flow → Shared → Prop) (f : Flow) (s₃ : Shared) : Prop :=
  match f with
  | .ret v => Q (.ret v) s₃
  | .brk => Q .next s₃
  | _ => Left h₀ L own J s s₃

/-- the objects at some addresses -/
theorem owned {h : Heap} : ∀ {wr : List Addr}, (∀ b ∈ wr, ∃ o, h.get? b = some o) → ∃ own : List (Addr × Obj), own.map (·.1) = wr ∧ ∀ p ∈ own, h.get? p.1 = some p.2
  | [], _ => ⟨[], rfl, fun _ h => nomatch h⟩
  | b :: r, k => by
    obtain ⟨o, e⟩ := k b (.head _)
    obtain ⟨own, e', k'⟩ := owned fun c hc => k c (.tail _ hc)
    exact ⟨(b, o) :: own, by rw [List.map_cons, e'], List.forall_mem_cons.mpr ⟨e, k'⟩⟩

/-- a loop between two turns, k of them still to come -/
def Between (h₀ : Heap) (L : Addr) (s : Shared) (wr : List Addr) (It : Nat → Heap → Prop) (J : Nat → (Str → Option Value) → List (Addr × Obj) → Prop) (n k : Nat) (s' : Shared) : Prop :=
  ∃ j m₁ news₁ h₁ tk₁, j + k = n ∧ s' = { s with heap := h₁, toks := tk₁ } ∧ J j m₁ news₁ ∧ It j h₁ ∧ Fr h₀ L h₁ m₁ ∧ News h₀ L h₁ news₁ ∧ ∀ p ∈ news₁, p.1 ∉ wr
/-- a turn's end, told by the turns still to come -/
def Turned (P : Nat → Shared → Prop) (k : Nat) (Q : Flow → Shared → Prop) (f : Flow) (s' : Shared) : Prop :=
  match f with
  | .ret v => Q (.ret v) s'
  | .brk => Q .next s'
  | _ => ∃ k', k' < k + 1 ∧ P k' s'

/-- a for, with its else, by what its iterator does: it writes at wr alone; It tells where it stands -/
theorem for_core {target : Expr} {body orelse : List Stmt} {I : Addr} {wr : List Addr} {n : Nat} {It : Nat → Heap → Prop} {V : Nat → Value → Heap → Prop}
    (J : Nat → (Str → Option Value) → List (Addr × Obj) → Prop)
    (live : ∀ j h, It j h → ∀ b ∈ wr, ∃ o, h.get? b = some o) (stay : ∀ j h h', It j h → (∀ b ∈ wr, ∀ o, h.get? b = some o → h'.get? b = some o) → It j h')
    (next : ∀ j m₁ news₁ (s₁ : Shared) (Q' : Value → Shared → Prop), j < n → It j s₁.heap → Fr h₀ env.locals s₁.heap m₁ → News h₀ env.locals s₁.heap news₁ → J j m₁ news₁ →
      (∀ v h' tk, V j v h' → It (j + 1) h' → (∀ b o, b ∉ wr → s₁.heap.get? b = some o → h'.get? b = some o) → Q' v { s₁ with heap := h', toks := tk }) →
      wpAny (model prog w) A (pyNext (.ref I)) (fun r s₂ => ∃ v, r = some v ∧ wpAny (model prog w) A (letOwnedTupleGo target (.ref I) v) (fun _ s₃ => Q' v s₃) (fun _ _ => False) s₂) (fun _ _ => False) s₁)
    (stop : ∀ m₁ news₁ (s₁ : Shared) (Q' : Shared → Prop), It n s₁.heap → Fr h₀ env.locals s₁.heap m₁ → News h₀ env.locals s₁.heap news₁ → J n m₁ news₁ →
      (∀ h' tk, (∀ b o, b ∉ wr → s₁.heap.get? b = some o → h'.get? b = some o) → Q' { s₁ with heap := h', toks := tk }) → wpAny (model prog w) A (pyNext (.ref I)) (fun r s₂ => r = none ∧ Q' s₂) (fun _ _ => False) s₁)
    (hL : env.locals ∉ wr) (hw : ∀ b ∈ wr, h₀.get? b = none) (hn : ∀ p ∈ news, p.1 ∉ wr) (hI : It 0 s.heap) (F : Fr h₀ env.locals s.heap m) (N : News h₀ env.locals s.heap news) (h0 : J 0 m news)
    (step : ∀ j v m₁ news₁ h₁ tk₁ own, own.map (·.1) = wr → V j v h₁ → J j m₁ news₁ → Fr h₀ env.locals h₁ m₁ → News h₀ env.locals h₁ (own ++ news₁) → (∀ p ∈ news₁, p.1 ∉ wr) →
      wpAny (model prog w) A (assign target env v) (fun _ s₂ => wpAny (model prog w) A (execs body env) (TurnEnd h₀ env.locals own (J (j + 1)) s Q) (fun _ _ => False) s₂) (fun _ _ => False) { s with heap := h₁, toks := tk₁ })
    (fin : ∀ m₁ news₁ h₁ tk₁, J n m₁ news₁ → Fr h₀ env.locals h₁ m₁ → News h₀ env.locals h₁ news₁ → wpAny (model prog w) A (execs orelse env) Q (fun _ _ => False) { s with heap := h₁, toks := tk₁ }) :
    codeAny (model prog w) A (.forLoop target (.ref I) body orelse env) (fun r s' => match r with | .ok f => Q f s' | .error e => cameBackBy (model prog w) A env E e s') s := by
  have no : ∀ {α : Type} {E' : α → Shared → Prop} (e : α) (s : Shared), (fun _ _ => False) e s → E' e s := fun _ _ h => h.elim
  have moved : ∀ {m₁ news₁} {h h₁ : Heap}, Fr h₀ env.locals h m₁ → News h₀ env.locals h news₁ → (∀ p ∈ news₁, p.1 ∉ wr) → (∀ b o, b ∉ wr → h.get? b = some o → h₁.get? b = some o) → Fr h₀ env.locals h₁ m₁ ∧ News h₀ env.locals h₁ news₁ := fun F' N' hn' k => by
    obtain ⟨oL, a, b, c, d⟩ := F'.ns
    exact ⟨⟨⟨oL, a, b, k _ _ hL c, d⟩, fun b o e => k b o (fun hb => by rw [hw b hb] at e; cases e) (F'.keep b o e), F'.above⟩, fun p hp => ⟨k _ _ (hn' p hp) (N' p hp).1, (N' p hp).2⟩⟩
  refine codeAny_forLoop_any (Between h₀ env.locals s wr It J n)
    ?_ n ⟨0, m, news, s.heap, s.toks, Nat.zero_add n, rfl, h0, hI, F, N, hn⟩
  rintro k _ ⟨j, m₁, news₁, h₁, tk₁, hk, rfl, hJ, hIt, F₁, N₁, hn₁⟩
  cases k with
  | zero =>
    obtain rfl : j = n := hk
    refine wpAny_mono (stop m₁ news₁ _ _ hIt F₁ N₁ hJ fun h₂ tk₂ k₂ => (moved F₁ N₁ hn₁ k₂).elim fun F₂ N₂ => fin m₁ news₁ h₂ tk₂ hJ F₂ N₂) (fun r s₂ x => ?_) no
    obtain ⟨rfl, x⟩ := x
    exact wpAny_mono x (fun _ _ x => x) no
  | succ k =>
    refine wpAny_mono (next j m₁ news₁ _ (fun v s₃ => wpAny (model prog w) A (assign target env v) (fun _ s₄ => wpAny (model prog w) A (execs body env) (Turned (Between h₀ env.locals s wr It J n) k Q) (fun _ _ => False) s₄) (fun _ _ => False) s₃) (by omega) hIt F₁ N₁ hJ ?_)
      (fun r s₂ x => ?_) no
    · intro v h₂ tk₂ hV hIt₂ k₂
      obtain ⟨F₂, N₂⟩ := moved F₁ N₁ hn₁ k₂
      obtain ⟨own, hown, hat⟩ := owned (live _ _ hIt₂)
      have hmem : ∀ p ∈ own, p.1 ∈ wr := fun p hp => hown ▸ List.mem_map_of_mem hp
      have N₃ : News h₀ env.locals h₂ (own ++ news₁) := fun p hp => (List.mem_append.mp hp).elim (fun hp => ⟨hat p hp, fun e => hL (e ▸ hmem p hp), hw _ (hmem p hp)⟩) (N₂ p)
      refine wpAny_mono (step j v m₁ news₁ h₂ tk₂ own hown hV hJ F₂ N₃ hn₁) (fun _ s₄ x => wpAny_mono x (fun f s₅ y => ?_) no) no
      have go : Left h₀ env.locals own (J (j + 1)) s s₅ → ∃ k', k' < k + 1 ∧ Between h₀ env.locals s wr It J n k' s₅ := by
        rintro ⟨h₃, tk₃, m₃, news₃, rfl, F₃, N₃, a₃, J₃⟩
        refine ⟨k, Nat.lt_succ_self k, j + 1, m₃, news₃, h₃, tk₃, by omega, rfl, J₃, stay _ _ _ hIt₂ fun b hb o e => ?_, F₃, fun p hp => N₃ p (List.mem_append_right _ hp), fun p hp hb => ?_⟩
        · rw [← hown] at hb
          obtain ⟨p, hp, rfl⟩ := List.mem_map.mp hb
          rw [← e, hat p hp]
          exact (N₃ p (List.mem_append_left _ hp)).1
        · rw [← hown] at hb
          obtain ⟨q, hq, e⟩ := List.mem_map.mp hb
          exact a₃ p hp q hq e.symm
      cases f with
      | ret v => exact y
      | brk => exact y
      | cont => exact go y
      | next => exact go y
    · obtain ⟨v, rfl, x⟩ := x
      refine wpAny_mono x (fun _ s₃ y => wpAny_mono y (fun _ s₄ z => wpAny_mono z (fun f s₅ u => ?_) no) no) no
      cases f <;> exact u
end
end Mine

namespace Mine
set_option maxRecDepth 100000
set_option maxHeartbeats 1000000

section
variable {prog : Program} {w : World} {A : Around} {E : Value → Shared → Prop} {s : Shared} {h₀ : Heap} {env : Env} {m : Str → Option Value} {news : List (Addr × Obj)} {Q : Flow → Shared → Prop} {target : Expr} {body orelse : List Stmt}

theorem own_one {own : List (Addr × Obj)} {I : Addr} (h : own.map (·.1) = [I]) : ∃ o, own = [(I, o)] := by
  match own with
  | [] => cases h
  | [(a, o)] => cases h; exact ⟨o, rfl⟩
  | _ :: _ :: _ => cases h
theorem own_two {own : List (Addr × Obj)} {I K : Addr} (h : own.map (·.1) = [I, K]) : ∃ o u, own = [(I, o), (K, u)] := by
  match own with
  | [] => cases h
  | [_] => cases h
  | [(a, o), (b, u)] => cases h; exact ⟨o, u, rfl⟩
  | _ :: _ :: _ :: _ => cases h
/-- the same for an iterator that is one new object -/
theorem for_one {o₀ : Obj} {n : Nat} {It : Nat → Heap → Prop} {V : Nat → Value → Prop}
    (J : Nat → (Str → Option Value) → List (Addr × Obj) → Prop)
    (live : ∀ j h, It j h → ∃ o, h.get? s.heap.objs.size = some o) (stay : ∀ j h h', It j h → (∀ o, h.get? s.heap.objs.size = some o → h'.get? s.heap.objs.size = some o) → It j h')
    (next : ∀ j m₁ news₁ (s₁ : Shared) (Q' : Value → Shared → Prop), j < n → It j s₁.heap → Fr h₀ env.locals s₁.heap m₁ → News h₀ env.locals s₁.heap news₁ → J j m₁ news₁ →
      (∀ v h' tk, V j v → It (j + 1) h' → Heap.ExtBut s.heap.objs.size s₁.heap h' → Q' v { s₁ with heap := h', toks := tk }) →
      wpAny (model prog w) A (pyNext (.ref s.heap.objs.size)) (fun r s₂ => ∃ v, r = some v ∧ wpAny (model prog w) A (letOwnedTupleGo target (.ref s.heap.objs.size) v) (fun _ s₃ => Q' v s₃) (fun _ _ => False) s₂) (fun _ _ => False) s₁)
    (stop : ∀ m₁ news₁ (s₁ : Shared) (Q' : Shared → Prop), It n s₁.heap → Fr h₀ env.locals s₁.heap m₁ → News h₀ env.locals s₁.heap news₁ → J n m₁ news₁ →
      (∀ h' tk, Heap.ExtBut s.heap.objs.size s₁.heap h' → Q' { s₁ with heap := h', toks := tk }) → wpAny (model prog w) A (pyNext (.ref s.heap.objs.size)) (fun r s₂ => r = none ∧ Q' s₂) (fun _ _ => False) s₁)
    (hI : It 0 (s.heap.push o₀)) (F : Fr h₀ env.locals s.heap m) (N : News h₀ env.locals s.heap news) (h0 : J 0 m news)
    (step : ∀ j v m₁ news₁ h₁ tk₁ I oI, V j v → J j m₁ news₁ → Fr h₀ env.locals h₁ m₁ → News h₀ env.locals h₁ ((I, oI) :: news₁) → (∀ p ∈ news₁, p.1 ≠ I) →
      wpAny (model prog w) A (assign target env v) (fun _ s₂ => wpAny (model prog w) A (execs body env) (TurnEnd h₀ env.locals [(I, oI)] (J (j + 1)) s Q) (fun _ _ => False) s₂) (fun _ _ => False) { s with heap := h₁, toks := tk₁ })
    (fin : ∀ m₁ news₁ h₁ tk₁, J n m₁ news₁ → Fr h₀ env.locals h₁ m₁ → News h₀ env.locals h₁ news₁ → wpAny (model prog w) A (execs orelse env) Q (fun _ _ => False) { s with heap := h₁, toks := tk₁ }) :
    codeAny (model prog w) A (.forLoop target (.ref s.heap.objs.size) body orelse env) (fun r s' => match r with | .ok f => Q f s' | .error e => cameBackBy (model prog w) A env E e s') { s with heap := s.heap.push o₀ } := by
  have off : ∀ {b : Addr}, b ∉ [s.heap.objs.size] → b ≠ s.heap.objs.size := fun h e => h (List.mem_singleton.mpr e)
  refine for_core (s := { s with heap := s.heap.push o₀ }) (h₀ := h₀) (m := m) (news := news) (n := n) (It := It) (wr := [s.heap.objs.size]) (V := fun j v _ => V j v) J (fun j h x b hb => List.mem_singleton.mp hb ▸ live j h x) (fun j h h' x k => stay j h h' x (k _ (List.mem_singleton.mpr rfl)))
    (fun j m₁ news₁ s₁ Q' hj a b c d k => next j m₁ news₁ s₁ Q' hj a b c d fun v h' tk x y z => k v h' tk x y fun b o hb => z b o (off hb))
    (fun m₁ news₁ s₁ Q' a b c d k => stop m₁ news₁ s₁ Q' a b c d fun h' tk z => k h' tk fun b o hb => z b o (off hb))
    (fun h => Nat.ne_of_lt F.ns.lt (List.mem_singleton.mp h)) (fun b hb => List.mem_singleton.mp hb ▸ next_is_new F) (fun p hp h => Nat.ne_of_lt (Heap.lt_size (N p hp).1) (List.mem_singleton.mp h)) hI (F.push _) (fun p hp => ⟨Heap.get?_push_of_some _ (N p hp).1, (N p hp).2⟩) h0 ?_ fin
  intro j v m₁ news₁ h₁ tk₁ own hown hV hJ F₁ N₁ hn
  obtain ⟨oI, rfl⟩ := own_one hown
  exact step j v m₁ news₁ h₁ tk₁ _ oI hV hJ F₁ N₁ fun p hp => off (hn p hp)

/-- over a tuple that stood before the frame, with its else -/
theorem for_tup {r : Addr} {items : Array Value} (hh : A.handled = none) (hr : h₀.IsTuple r items) (F : Fr h₀ env.locals s.heap m) (N : News h₀ env.locals s.heap news)
    (J : Nat → (Str → Option Value) → List (Addr × Obj) → Prop) (h0 : J 0 m news)
    (step : ∀ j v m₁ news₁ h₁ tk₁ I oI, items[j]? = some v → J j m₁ news₁ → Fr h₀ env.locals h₁ m₁ → News h₀ env.locals h₁ ((I, oI) :: news₁) → (∀ p ∈ news₁, p.1 ≠ I) →
      wpAny (model prog w) A (assign target env v) (fun _ s₂ => wpAny (model prog w) A (execs body env) (TurnEnd h₀ env.locals [(I, oI)] (J (j + 1)) s Q) (fun _ _ => False) s₂) (fun _ _ => False) { s with heap := h₁, toks := tk₁ })
    (fin : ∀ m₁ news₁ h₁ tk₁, J items.size m₁ news₁ → Fr h₀ env.locals h₁ m₁ → News h₀ env.locals h₁ news₁ → wpAny (model prog w) A (execs orelse env) Q (fun _ _ => False) { s with heap := h₁, toks := tk₁ }) :
    wpAny (model prog w) A (pyIter (.ref r)) (fun it s₂ => codeAny (model prog w) A (.forLoop target it body orelse env) (fun r s' => match r with | .ok f => Q f s' | .error e => cameBackBy (model prog w) A env E e s') s₂) E s :=
  wpAny_pyIter_tuple (hr.at (F.keep _)) (for_one (V := fun j v => items[j]? = some v) (It := fun j h => h.IsTupleIter s.heap.objs.size r j) J (fun _ _ x => x.imp fun _ y => y.1) (fun _ _ _ x k => x.at k)
    (fun j m₁ news₁ s₁ Q' hj a b _ _ k => wpAny_pyNext_tuple_item a (hr.at (b.keep _)) (Array.getElem?_eq_getElem hj) fun h' x y => ⟨_, rfl, letGo_tupleiter x (k _ h' s₁.toks (Array.getElem?_eq_getElem hj) x y.extBut)⟩)
    (fun m₁ news₁ s₁ Q' a b _ _ k => wpAny_pyNext_tuple_end hh a (hr.at (b.keep _)) (Array.getElem?_eq_none (Nat.le_refl _)) fun h' y => ⟨rfl, k h' s₁.toks y⟩)
    ⟨_, Heap.get?_push_size _ rfl, rfl, rfl⟩ F N h0 step fin)

/-- over a list of the ledger's, whose turns leave the ledger as it was -/
theorem for_same {r : Addr} {lo : Obj} {items : Array Value} {nn : Nat} (hh : A.handled = none) (hc : lo.cls = .type "list") (hd : lo.data = .seq items nn) (hm : (r, lo) ∈ news) (F : Fr h₀ env.locals s.heap m) (N : News h₀ env.locals s.heap news)
    (P : (Str → Option Value) → Prop) (h0 : P m)
    (step : ∀ (j : Nat) v m₁ h₁ tk₁ I oI, items[j]? = some v → P m₁ → Fr h₀ env.locals h₁ m₁ → News h₀ env.locals h₁ ((I, oI) :: news) → (∀ p ∈ news, p.1 ≠ I) →
      wpAny (model prog w) A (assign target env v) (fun _ s₂ => wpAny (model prog w) A (execs body env) (TurnEnd h₀ env.locals [(I, oI)] (fun m' n' => P m' ∧ n' = news) s Q) (fun _ _ => False) s₂) (fun _ _ => False) { s with heap := h₁, toks := tk₁ })
    (fin : ∀ m₁ h₁ tk₁, P m₁ → Fr h₀ env.locals h₁ m₁ → News h₀ env.locals h₁ news → wpAny (model prog w) A (execs orelse env) Q (fun _ _ => False) { s with heap := h₁, toks := tk₁ }) :
    wpAny (model prog w) A (pyIter (.ref r)) (fun it s₂ => codeAny (model prog w) A (.forLoop target it body orelse env) (fun r s' => match r with | .ok f => Q f s' | .error e => cameBackBy (model prog w) A env E e s') s₂) E s :=
  have at_ : ∀ {h}, News h₀ env.locals h news → h.IsList r items := fun N => ⟨lo, (N _ hm).1, hc, nn, hd⟩
  wpAny_pyIter_list (at_ N) (for_one (V := fun j v => items[j]? = some v) (It := fun j h => h.IsListIter s.heap.objs.size r j) (fun _ m' n' => P m' ∧ n' = news) (fun _ _ x => x.imp fun _ y => y.1) (fun _ _ _ x k => x.at k)
    (fun j m₁ news₁ s₁ Q' hj a _ c d k => wpAny_pyNext_list_item a (at_ (d.2 ▸ c)) (Array.getElem?_eq_getElem hj) fun h' x y => ⟨_, rfl, letGo_listiter x (k _ h' s₁.toks (Array.getElem?_eq_getElem hj) x y.extBut)⟩)
    (fun m₁ news₁ s₁ Q' a _ c d k => wpAny_pyNext_list_end hh a (at_ (d.2 ▸ c)) (Array.getElem?_eq_none (Nat.le_refl _)) fun h' y => ⟨rfl, k h' s₁.toks y⟩)
    ⟨_, Heap.get?_push_size _ rfl, rfl, rfl⟩ F N ⟨h0, rfl⟩
    (fun j v m₁ news₁ h₁ tk₁ I oI hx hJ F₁ N₁ hn => by obtain ⟨hP, rfl⟩ := hJ; exact step j v m₁ h₁ tk₁ I oI hx hP F₁ N₁ hn)
    (fun m₁ news₁ h₁ tk₁ hJ F₁ N₁ => by obtain ⟨hP, rfl⟩ := hJ; exact fin m₁ h₁ tk₁ hP F₁ N₁))

/-- over range(n), from its call on; the turns leave the ledger as it was -/
theorem for_range_call {x : Str} {px : Pos} {n : Nat} {t : Tok} (J : Nat → (Str → Option Value) → Prop) (hh : A.handled = none) (hn : n ≤ 1000) (F : Fr h₀ env.locals s.heap m) (N : News h₀ env.locals s.heap news) (h0 : J 0 m)
    (step : ∀ (j : Nat) t m₁ h₁ tk₁ I oI, j < n → J j m₁ → Fr h₀ env.locals h₁ m₁ → News h₀ env.locals h₁ ((I, oI) :: news) → (∀ p ∈ news, p.1 ≠ I) →
      wpAny (model prog w) A (assign (.Name x px) env (.int (j : Int) t)) (fun _ s₂ => wpAny (model prog w) A (execs body env) (TurnEnd h₀ env.locals [(I, oI)] (fun m' n' => J (j + 1) m' ∧ n' = news) s Q) (fun _ _ => False) s₂) (fun _ _ => False) { s with heap := h₁, toks := tk₁ })
    (fin : ∀ m₁ h₁ tk₁, J n m₁ → Fr h₀ env.locals h₁ m₁ → News h₀ env.locals h₁ news → wpAny (model prog w) A (execs orelse env) Q (fun _ _ => False) { s with heap := h₁, toks := tk₁ }) :
    wpAny (model prog w) A (call (.type "range") [.int (n : Int) t]) (fun xv s₁ => wpAny (model prog w) A (pyIter xv) (fun it s₂ => codeAny (model prog w) A (.forLoop (.Name x px) it body orelse env) (fun r s' => match r with | .ok f => Q f s' | .error e => cameBackBy (model prog w) A env E e s') s₂) E s₁) E s := by
  refine call_range_1 (wpAny_pyIter_range (IsRange.new ..) (small_one (by decide) (by decide) (by omega) (by omega)) ?_)
  rw [show Builtin.Range.rangeSize 0 (n : Int) 1 = (n : Int) by rw [rangeSize_one]; split <;> omega]
  refine for_one (s := { s with heap := s.heap.push _, toks := _ }) (It := fun j h => IsRangeIter h (s.heap.push _).objs.size ((j : Nat) : Int) ((n : Int) - (j : Nat)) 1) (V := fun j v => j < n ∧ ∃ t, v = .int ((j : Nat) : Int) t) (fun j m' n' => J j m' ∧ n' = news) (fun _ _ x => ⟨_, x⟩) (fun _ _ _ x k => k _ x)
    (fun j m₁ news₁ s₁ Q' hj a b c d k => wpAny_pyNext_range_item a (by omega) fun h' x y => ⟨_, rfl, wpAny_pure (k _ h' _ ⟨hj, _, rfl⟩ ?_ y.extBut)⟩)
    (fun m₁ news₁ s₁ Q' a b c d k => wpAny_pyNext_range_end hh a (by omega) fun h' y => ⟨rfl, k h' s₁.toks y⟩)
    (by show IsRangeIter _ _ _ _ _; rw [show ((n : Nat) : Int) - ((0 : Nat) : Int) = (n : Int) by omega]; exact Heap.get?_push_size _ rfl) (F.push _) (fun p hp => ⟨Heap.get?_push_of_some _ (N p hp).1, (N p hp).2⟩) ⟨h0, rfl⟩
    (fun j v m₁ news₁ h₁ tk₁ I oI hx hJ F₁ N₁ hn => ?_) (fun m₁ news₁ h₁ tk₁ hJ F₁ N₁ => ?_)
  · rw [show ((j + 1 : Nat) : Int) = (j : Int) + 1 by omega, show (n : Int) - ((j : Int) + 1) = (n : Int) - (j : Nat) - 1 by omega]
    exact x
  · obtain ⟨hP, rfl⟩ := hJ
    obtain ⟨hj, t', rfl⟩ := hx
    exact step j t' m₁ h₁ tk₁ I oI hj hP F₁ N₁ hn
  · obtain ⟨hP, rfl⟩ := hJ
    exact fin m₁ h₁ tk₁ hP F₁ N₁

/-- over enumerate(a tuple that stood before the frame), from its call on -/
theorem for_enum {elts : List Expr} {kk : Nat} {pos : Pos} {r : Addr} {items : Array Value} (hh : A.handled = none) (hr : h₀.IsTuple r items) (F : Fr h₀ env.locals s.heap m) (N : News h₀ env.locals s.heap news)
    (J : Nat → (Str → Option Value) → List (Addr × Obj) → Prop) (h0 : J 0 m news)
    (step : ∀ j v m₁ news₁ h₁ tk₁ e it oe oi T t, items[j]? = some v → J j m₁ news₁ → Fr h₀ env.locals h₁ m₁ → News h₀ env.locals h₁ ((e, oe) :: (it, oi) :: news₁) → (∀ p ∈ news₁, p.1 ≠ e ∧ p.1 ≠ it) → IsTup h₁ T #[.int (j : Int) t, v] →
      wpAny (model prog w) A (assign (.Tuple elts kk pos) env (.ref T)) (fun _ s₂ => wpAny (model prog w) A (execs body env) (TurnEnd h₀ env.locals [(e, oe), (it, oi)] (J (j + 1)) s Q) (fun _ _ => False) s₂) (fun _ _ => False) { s with heap := h₁, toks := tk₁ })
    (fin : ∀ m₁ news₁ h₁ tk₁, J items.size m₁ news₁ → Fr h₀ env.locals h₁ m₁ → News h₀ env.locals h₁ news₁ → wpAny (model prog w) A (execs orelse env) Q (fun _ _ => False) { s with heap := h₁, toks := tk₁ }) :
    wpAny (model prog w) A (call (.type "enumerate") [.ref r]) (fun xv s₁ => wpAny (model prog w) A (pyIter xv) (fun it s₂ => codeAny (model prog w) A (.forLoop (.Tuple elts kk pos) it body orelse env) (fun r s' => match r with | .ok f => Q f s' | .error e => cameBackBy (model prog w) A env E e s') s₂) E s₁) E s := by
  have hrs := hr.at (F.keep _)
  have hr0 : r < s.heap.objs.size := by obtain ⟨o, ho, _⟩ := hrs; exact Heap.lt_size ho
  have hLs := F.ns.lt
  refine call_enum_tuple hrs fun hp hE hI hk => wpAny_pyIter_enum hE ?_
  have D := draws_tup (prog := prog) (w := w) (A := A.in1) hh s.heap.objs.size r (Nat.ne_of_lt hr0) items
  have hef : s.heap.objs.size + 1 ∉ [s.heap.objs.size, r] := by
    intro h
    rcases List.mem_cons.mp h with h | h
    · exact absurd h (Nat.succ_ne_self _)
    · rw [← List.mem_singleton.mp h] at hr0
      exact absurd hr0 (Nat.not_lt.mpr (Nat.le_succ _))
  have two : ∀ {b : Addr}, b ∉ [s.heap.objs.size + 1, s.heap.objs.size] → b ≠ s.heap.objs.size + 1 ∧ b ≠ s.heap.objs.size := fun h => ⟨fun e => h (e ▸ .head _), fun e => h (e ▸ .tail _ (.head _))⟩
  have small : ∀ {b : Nat}, b < s.heap.objs.size → b ∉ [s.heap.objs.size + 1, s.heap.objs.size] := fun h k => by
    rcases List.mem_cons.mp k with k | k
    · exact absurd h (by rw [k]; exact Nat.not_lt.mpr (Nat.le_succ _))
    · exact absurd h (by rw [List.mem_singleton.mp k]; exact Nat.lt_irrefl _)
  refine for_core (s := { s with heap := hp }) (h₀ := h₀) (m := m) (news := news) (n := items.size) (wr := [s.heap.objs.size + 1, s.heap.objs.size]) (It := fun j h => (∃ old, IsEnum h (s.heap.objs.size + 1) s.heap.objs.size ((j : Nat) : Int) old) ∧ h.IsTupleIter s.heap.objs.size r j)
    (V := fun j v h => ∃ T t x, v = .ref T ∧ items[j]? = some x ∧ IsTup h T #[.int ((j : Nat) : Int) t, x]) J ?_ (fun j h h' x k => ⟨x.1.imp fun _ y => k _ (.head _) _ y, x.2.at (k _ (.tail _ (.head _)))⟩) ?_ ?_ (small hLs)
    ?_ (fun p hp => small (Heap.lt_size (N p hp).1)) ⟨⟨_, hE⟩, hI⟩ (F.keeps hk) (N.grown hk) h0 ?_ fin
  · intro j h x b hb
    rcases List.mem_cons.mp hb with rfl | hb
    · exact x.1.elim fun _ y => ⟨_, y⟩
    · rw [List.mem_singleton.mp hb]
      exact x.2.imp fun _ y => y.1
  · rintro j m₁ news₁ s₁ Q' hj ⟨⟨old, he⟩, hi⟩ F₁ N₁ hJ k
    refine wpAny_pyNext_enum_itemD D he ⟨hi, hr.at (F₁.keep _)⟩ hj (Nat.succ_ne_self _) hef fun x h₂ tk hx ho st hT hz hk₂ => ⟨_, rfl, wpAny_letOwnedTupleGo_enum ho fun h₃ he₃ hs₃ => ?_⟩
    have hne : s₁.heap.objs.size ≠ s.heap.objs.size + 1 := Nat.ne_of_gt (Heap.lt_size he)
    exact k _ h₃ _ ⟨_, _, x, rfl, hx, _, (hs₃.2 _ hne).trans hT, rfl, _, rfl⟩ ⟨⟨_, he₃⟩, st.1.at fun o e => (hs₃.2 _ (Nat.succ_ne_self _).symm).trans e⟩ fun b o hb e => (hs₃.2 _ (two hb).1).trans (hk₂ b o (two hb).1 (two hb).2 e)
  · rintro m₁ news₁ s₁ Q' ⟨⟨old, he⟩, hi⟩ F₁ N₁ hJ k
    exact wpAny_pyNext_enum_endD D he ⟨hi, hr.at (F₁.keep _)⟩ fun h' y => ⟨rfl, k h' s₁.toks fun b o hb => y b o (two hb).2⟩
  · intro b hb
    rcases List.mem_cons.mp hb with rfl | hb
    · exact ktu_new F (Nat.le_add_right _ _)
    · rw [List.mem_singleton.mp hb]
      exact next_is_new F
  · rintro j v m₁ news₁ h₁ tk₁ own hown ⟨T, t, x, rfl, hx, hT⟩ hJ F₁ N₁ hn
    obtain ⟨o, u, rfl⟩ := own_two hown
    exact step j x m₁ news₁ h₁ tk₁ _ _ o u T t hx hJ F₁ N₁ (fun p hp => two (hn p hp)) hT
end
end Mine

namespace Mine
set_option maxRecDepth 100000
set_option maxHeartbeats 1000000

section
variable {prog : Program} {w : World} {A : Around} {s : Shared} {h₀ : Heap} {L : Addr} {m : Str → Option Value} {env : Env}
/-- a comprehension's turns by what holds between them -/
theorem comp_inv {elt : Expr} {x : Str} {scope : Scope} {cl : List (Str × Addr)} {S : List (Addr × Obj) → Prop} {P : Nat → Value → Prop} {Fin : List Value → List (Addr × Obj) → Prop} {n : Nat} {news : List (Addr × Obj)}
    (J : Nat → List Value → List (Addr × Obj) → Prop) (h0 : J 0 [] news)
    (step : ∀ i ys news₁ v I oI C oC D m₂ h tk (E' : Value → Shared → Prop), J i ys news₁ → P i v → LCg.NsObj oC m₂ → m₂ x = some v → Fr h₀ L h m → News h₀ L h ((I, oI) :: (C, oC) :: (D, LCg.lst ys) :: news₁) → LCg.Off3 I C D news₁ → ((@Ne Nat I C) ∧ (@Ne Nat I D) ∧ (@Ne Nat C D)) →
      wpAny (model prog w) A (eval elt (compEnvC scope cl C env)) (LCg.CompEnd h₀ L m { s with heap := h, toks := tk } I oI C oC D (LCg.lst ys) S (fun y news' => J (i + 1) (ys ++ [y]) news')) E' { s with heap := h, toks := tk })
    (fin : ∀ ys news₁, J n ys news₁ → Fin ys news₁) : LCg.CompRest prog w A h₀ L m env elt x scope cl s S P Fin n 0 [] news := by
  have key : ∀ k i ys news₁, i + k = n → J i ys news₁ → LCg.CompRest prog w A h₀ L m env elt x scope cl s S P Fin k i ys news₁ := by
    intro k
    induction k with
    | zero => intro i ys news₁ e hJ; exact LCg.CompRest.zero (fin _ _ (by rw [Nat.add_zero] at e; exact e ▸ hJ))
    | succ k ih =>
      intro i ys news₁ e hJ
      refine LCg.CompRest.succ ?_
      intro v I oI C oC D m₂ h tk E' hP hC hx F N off ne
      refine wpAny_mono (step i ys news₁ v I oI C oC D m₂ h tk E' hJ hP hC hx F N off ne) (fun y s₂ h₂ => ?_) fun _ _ e => e
      obtain ⟨h', tk', news', e', F', N', off', hS, hJ'⟩ := h₂
      exact ⟨h', tk', news', e', F', N', off', hS, ih (i + 1) _ _ (by omega) hJ'⟩
  exact key n 0 [] news (Nat.zero_add n) h0
end
end Mine

namespace Mine
set_option maxRecDepth 100000
set_option maxHeartbeats 1000000

theorem c_ifmt {w mean mg mb} (mode : Int) (t : Tok) : Ctr 1 w mean mg mb 21 [] [.int mode t] (fun v _ _ => ∃ t, v = .int (Builtin.bitAnd mode 61440) t) := by
  unfold Ctr
  intro dp un gd cn cs a ccd cl outer A₀ base h₀ L m s Q E B F X N T hk hroom hu hret
  w_on
  refine wpAny_call ?_
  k_dflt (refine' enter ?k1 ?k2 ?k3 ?k4 ?k5 ?kA ?kF ?kK ?k6 ?k7 ?k8 ?k9 ?kB ?_ ?c2 ?c3 ?c4 ?c5; (case kA => exact rfl); (case kF => exact rfl); (case kK => assumption); (case k1 => k_asm); (case k2 => k_asm); (case k3 => k_asm); (case k4 => k_asm); (case k5 => k_asm); (case k6 => k_is); (case k7 => k_is); (case k8 => ktr_room); (case k9 => exact BindsTo.of_eq rfl); (case c5 => decide); (case kB => exact locs rfl); (case c2 => exact rfl); (case c3 => exact rfl); (case c4 => exact rfl); k_whole)
  intro g L₁ h₁ KG F₁ N₁ B₁ X₁ T₁ hlt
  clear F N B X T hlt
  dsimp only
  k_fold
  k_steps
  all_goals ((try dsimp only); (try k_unfold); (try dsimp only))
  refine hret _ _ _ (Kept.out0 KG (by k_asm)) ?_
  exact ⟨_, rfl⟩

noncomputable def rwS (i : Int) : Str := [Str.ofString "--", Str.ofString "-w", Str.ofString "r-", Str.ofString "rw"].getD i.toNat Str.empty
theorem rwS_len {i : Int} (h0 : 0 ≤ i) (h1 : i < 4) : (rwS i).length = 2 := by
  have : i = 0 ∨ i = 1 ∨ i = 2 ∨ i = 3 := by omega
  rcases this with rfl | rfl | rfl | rfl <;> decide +kernel

section
variable {prog : Program} {w : World} {A : Around} {E : Value → Shared → Prop} {s : Shared} {value slice : PySem.Expr} {l : Addr} {vs : List Value} {u : Tok} {Q : Value → Shared → Prop}
theorem item_rw {i : Int} (hl : s.heap.IsList l vs.toArray) (hw : StrsAre vs [Str.ofString "--", Str.ofString "-w", Str.ofString "r-", Str.ofString "rw"]) (h0 : 0 ≤ i) (h1 : i < 4) (h : ∀ t', (rwS i).length = 2 → Q (.str (rwS i) t') s)
    (hs : subscripted slice false (.ref l) (.int i u) = operate [.ref l, .int i u] (getItem (.ref l) (.int i u)) := by with_unfolding_all rfl) :
    wpAny (model prog w) A (subscriptTail value slice (.ref l) (.int i u)) Q E s := KTb.item_list hl hw h0 h1 (Int.lt_trans h1 (by decide)) (fun t' _ => h t' (rwS_len h0 h1)) hs
end
noncomputable def fig (n : Int) (p : Int) : Int := (n.fdiv p).fmod 16
noncomputable def kindS (n : Int) : Str := Txt.item (Str.ofString "-?bcdlps") ((n.fdiv 4096).fmod 8)
noncomputable def xS (i : Int) : Str := Txt.item (Str.ofString "-Ssx") i
noncomputable def xT (i : Int) : Str := Txt.item (Str.ofString "-Ttx") i
/-- the text told -/
noncomputable def toldS (n : Int) : Str :=
  kindS n ++ (rwS ((fig n 256).fdiv 4) ++ xS ((fig n 256).fmod 4)) ++ (rwS ((fig n 16).fdiv 4) ++ xS ((fig n 16).fmod 4)) ++ (rwS ((fig n 1).fdiv 4) ++ xT ((fig n 1).fmod 4))


theorem fr_norm {h₀ h : Heap} {L : Addr} {m : Str → Option Value} {x : Str} {v : Value} (F : Fr h₀ L h m) (hv : m x = some v) : Fr h₀ L h (fun y => if y = x then some v else m y) := by
  rw [show (fun y => if y = x then some v else m y) = m from funext fun y => by by_cases q : y = x <;> simp [q, hv]]
  exact F
theorem pow_any {prog : Program} {w : World} {A : Around} {E : Value → Shared → Prop} {s : Shared} {b n : Int} {t u : Tok} {Q : Value → Shared → Prop} (h0 : 0 ≤ n) (h1 : n ≤ 2) (h2 : b.natAbs < 2 ^ 64) (h : ∀ r, r = b ^ n.toNat → Q (.int r s.toks) { s with toks := s.toks + 1 }) :
    wpAny (model prog w) A (binaryOp .Pow (.int b t) (.int n u)) Q E s := pow_int_small h0 (by omega) h2 (h _ rfl)
noncomputable def xtab (j : Nat) : Str := [Str.ofString "-Ssx", Str.ofString "-Ssx", Str.ofString "-Ttx"].getD j Str.empty
theorem xtab_len {j : Nat} (h : j < 3) : (xtab j).length = 4 := (by decide +kernel : ∀ j, j < 3 → (xtab j).length = 4) j h
/-- a turn's figure, and its piece -/
noncomputable def figJ (n : Int) (j : Nat) : Int := fig n (16 ^ (2 - (j : Int)).toNat)
noncomputable def pieceS (n : Int) (j : Nat) : Str := rwS ((figJ n j).fdiv 4) ++ Txt.item (xtab j) ((figJ n j).fmod 4)
noncomputable def preS (n : Int) : Nat → Str
  | 0 => kindS n
  | j + 1 => preS n j ++ pieceS n j

theorem fmod4_bd (a : Int) : 0 ≤ a.fmod 4 ∧ a.fmod 4 < 4 := by rw [Int.fmod_eq_emod_of_nonneg _ (by decide)]; omega
theorem nop16 {j : Nat} {a p : Int} (hj : j < 3) (hp : p = 16 ^ (2 - (j : Int)).toNat) : Builtin.divisionGoesByPylong a p = false := by
  subst hp
  match j, hj with
  | 0, _ => exact PyProof.noPylong_of_log2 (by decide +kernel)
  | 1, _ => exact PyProof.noPylong_of_log2 (by decide +kernel)
  | 2, _ => exact PyProof.noPylong_of_log2 (by decide +kernel)
theorem pieceS_len {n : Int} {j : Nat} : (pieceS n j).length = 3 := by
  have b : 0 ≤ (figJ n j).fdiv 4 ∧ (figJ n j).fdiv 4 < 4 := by
    unfold figJ fig
    rw [Int.fmod_eq_emod_of_nonneg _ (by decide), Int.fdiv_eq_ediv_of_nonneg _ (by decide)]
    omega
  show (rwS _ ++ Txt.item _ _).length = 3
  rw [Str.length_append, rwS_len b.1 b.2]
  rfl
theorem preS_len (n : Int) : ∀ {j : Nat}, j ≤ 3 → (preS n j).length ≤ 13
  | j, h => by
    have key : ∀ j, j ≤ 3 → (preS n j).length = 1 + 3 * j := by
      intro j
      induction j with
      | zero => intro _; rfl
      | succ j ih => intro h; show (preS n j ++ pieceS n j).length = _; rw [Str.length_append, ih (by omega), pieceS_len]; omega
    rw [key j h]
    omega
theorem item_x {prog : Program} {w : World} {A : Around} {E : Value → Shared → Prop} {s : Shared} {value slice : PySem.Expr} {l : Addr} {j : Nat} {vs : List Value} {u : Tok} {Q : Value → Shared → Prop}
    (hl : s.heap.IsList l vs.toArray) (hw : StrsAre vs [Str.ofString "-Ssx", Str.ofString "-Ssx", Str.ofString "-Ttx"]) (hj : j < 3) (h : ∀ t', Q (.str (xtab j) t') s)
    (hs : subscripted slice false (.ref l) (.int (j : Int) u) = operate [.ref l, .int (j : Int) u] (getItem (.ref l) (.int (j : Int) u)) := by with_unfolding_all rfl) :
    wpAny (model prog w) A (subscriptTail value slice (.ref l) (.int (j : Int) u)) Q E s :=
  KTb.item_list hl hw (Int.natCast_nonneg j) (Int.ofNat_lt.mpr hj) (Int.lt_trans (Int.ofNat_lt.mpr hj) (by decide)) (fun t' _ => h t') hs

section
variable {prog : Program} {w : World} {A : Around} {E : Value → Shared → Prop} {h₀ : Heap} {L a : Addr} {m : Str → Option Value} {cn : Str} {cs : Scope} {ccd : Value} {cl : List (Str × Addr)} {es : List Expr} {k : Nat} {p : Pos}
/-- a display of values that are told; the heap stands -/
def Disp (prog : Program) (w : World) (A : Around) (E : Value → Shared → Prop) (h₀ : Heap) (L : Addr) (m : Str → Option Value) (env : Env) (es : List Expr) (P : List Value → Prop) : Prop :=
  ∀ (s : Shared) (pos : Pos) (Q : List Value → Shared → Prop), Fr h₀ L s.heap m → (∀ vs tk, P vs → Q vs { s with toks := tk }) → wpAny (model prog w) A (spliced (backTo pos (starEach es env))) Q E s
theorem Disp.run {P : List Value → Prop} {env : Env} {s : Shared} {pos : Pos} {Q : List Value → Shared → Prop} (D : Disp prog w A E h₀ L m env es P) (F : Fr h₀ L s.heap m) (h : ∀ vs tk, P vs → Q vs { s with toks := tk }) : wpAny (model prog w) A (spliced (backTo pos (starEach es env))) Q E s := D _ _ _ F h
theorem Disp.inil {env : Env} : Disp prog w A E h₀ L m env [] (IntsAre · []) := fun s _ _ _ h => spliced_none (h [] s.toks .nil)
theorem Disp.int {env : Env} {i : Int} {ns : List Int} (D : Disp prog w A E h₀ L m env es (IntsAre · ns)) : Disp prog w A E h₀ L m env (.Constant (.int i) k p :: es) (IntsAre · (i :: ns)) :=
  fun _ _ _ F h => spliced_more (wpAny_Constant_int (D _ _ _ F fun vs tk hI => h _ tk (.cons _ _ hI)))
theorem Disp.name {x : Str} {i : Int} {t : Tok} {ns : List Int} (hv : m x = some (.int i t)) (hk : cs.kind = .function) (hx : (envX cn cs L a ccd cl).kindOf x = some .local) (hd : (x == ("__debug__" : Str)) = false) (D : Disp prog w A E h₀ L m (envX cn cs L a ccd cl) es (IntsAre · ns)) :
    Disp prog w A E h₀ L m (envX cn cs L a ccd cl) (.Name x p :: es) (IntsAre · (i :: ns)) :=
  fun _ _ _ F h => spliced_more (nameX_L F hv (D _ _ _ F fun vs tk hI => h _ tk (.cons _ _ hI)) hk hx hd)
theorem Disp.snil {env : Env} : Disp prog w A E h₀ L m env [] (StrsAre · []) := fun s _ _ _ h => spliced_none (h [] s.toks .nil)
theorem Disp.str {env : Env} {x : Str} {ws : List Str} (D : Disp prog w A E h₀ L m env es (StrsAre · ws)) : Disp prog w A E h₀ L m env (.Constant (.str x) k p :: es) (StrsAre · (x :: ws)) :=
  fun _ _ _ F h => spliced_more (Calls.Constant_str (D _ _ _ F fun vs tk hI => h _ tk (.cons _ _ hI)))
end
theorem hold_list {M : Model} {A : Around} {E : Value → Shared → Prop} {s : Shared} {Q : Value → Shared → Prop} {es : List Expr} {pos : Pos} {env : Env} (h : Hold (wpAny M A (eval (.List es pos) env) Q E s)) : wpAny M A (eval (.List es pos) env) Q E s := h
set_option maxHeartbeats 4000000 in
theorem c_told {w mean mg mb} (n : Int) (t : Tok)  : Ctr 2 w mean mg mb 237 [] [.int n t] (fun v _ _ => ∃ t, v = .str (toldS n) t) := by
  unfold Ctr
  intro dp un gd cn cs a ccd cl outer A₀ base h₀ L m s Q E B F X N T hk hroom hu hret
  w_on
  refine wpAny_call ?_
  k_dflt (refine' enter ?k1 ?k2 ?k3 ?k4 ?k5 ?kA ?kF ?kK ?k6 ?k7 ?k8 ?k9 ?kB ?_ ?c2 ?c3 ?c4 ?c5; (case kA => exact rfl); (case kF => exact rfl); (case kK => assumption); (case k1 => k_asm); (case k2 => k_asm); (case k3 => k_asm); (case k4 => k_asm); (case k5 => k_asm); (case k6 => k_is); (case k7 => k_is); (case k8 => ktr_room); (case k9 => exact BindsTo.of_eq rfl); (case c5 => decide); (case kB => exact locs rfl); (case c2 => exact rfl); (case c3 => exact rfl); (case c4 => exact rfl); k_whole)
  intro g L₁ h₁ KG F₁ N₁ B₁ X₁ T₁ hlt
  clear F N B X T hlt
  dsimp only
  k_fold
  repeat' (first | (with_reducible refine hold_for ?_) | (with_reducible refine hold_type ?_) | (with_reducible refine hold_pow ?_) | (k_unfold; (try dsimp only)) | (k_end; wrow_close) | ((first | walk1 | (dsimp only; walk1)); (try dsimp only at *)) | (leave1; try dsimp only))
  unfold Hold
  refine wpAny_For ?_ (fun _ => rfl)
  repeat' (first | (with_reducible refine hold_type ?_) | (k_unfold; (try dsimp only)) | (k_end; wrow_close) | ((first | walk1 | (dsimp only; walk1)); (try dsimp only at *)) | (leave1; try dsimp only))
  unfold Hold
  rename News _ _ _ _ => Nq
  rename Fr _ _ _ _ => Fq
  refine for_range_call (n := 3) (fun j m' => m' (Str.ofString "number") = some (.int n t) ∧ ∃ u, m' (Str.ofString "text") = some (.str (preS n j) u)) rfl (by decide) Fq Nq ⟨rfl, _, rfl⟩ ?step ?fin
  case fin =>
    rintro m₂ h₂ tk₂ ⟨hn, u, hx⟩ F₂ N₂
    have F₃ := fr_norm F₂ hx
    clear F₂ Fq Nq
    dsimp only
    repeat' (first | (k_unfold; (try dsimp only)) | (k_end; wrow_close) | ((first | walk1 | (dsimp only; walk1)); (try dsimp only at *)) | (leave1; try dsimp only))
    exact hret _ _ _ (Kept.out0 KG F₃) ⟨_, rfl⟩
  case step =>
    rintro j t' m₂ h₂ tk₂ I oI hj ⟨hn, u, hx⟩ F₂ N₂ hne
    have F₃ := fr_norm (x := Str.ofString "number") (fr_norm F₂ hx) ((if_neg (by decide)).trans hn)
    clear F₂ Fq Nq
    dsimp only
    repeat' (first | (with_reducible refine hold_pow ?_) | (k_unfold; (try dsimp only)) | (k_end; wrow_close) | ((first | walk1 | (dsimp only; walk1)); (try dsimp only at *)) | (leave1; try dsimp only))
    unfold Hold
    refine pow_any (by omega) (by omega) (by decide) ?_
    intro p hp
    dsimp only
    refine floordiv_int (Int.ne_of_gt (hp ▸ Int.pow_pos (by decide))) ?_ (Or.inl (nop16 hj hp))
    repeat' (first | (with_reducible refine hold_list ?_) | (k_unfold; (try dsimp only)) | (k_end; wrow_close) | ((first | walk1 | (dsimp only; walk1)); (try dsimp only at *)) | (leave1; try dsimp only))
    unfold Hold
    rename News _ _ _ _ => Nq
    rename Fr _ _ _ _ => Fq
    refine' List_ (Disp.run ?D7 Fq ?_)
    case D7 => repeat' (first | exact Disp.snil | refine' Disp.str ?_)
    intro vs7 tk7 hS7
    try dsimp only
    refine newList_K Fq Nq ?_ (by rw [hS7.length]; decide)
    intro l7 h7 F7 N7 _
    clear Fq Nq
    try dsimp only at *
    repeat' (first | (with_reducible refine hold_sub ?_) | (k_unfold; (try dsimp only)) | (k_end; wrow_close) | ((first | walk1 | (dsimp only; walk1)); (try dsimp only at *)) | (leave1; try dsimp only))
    unfold Hold
    k_dflt (refine' item_rw ?ktbl hS7 ?ktb0 ?ktb1 ?_; (case ktbl => ktb_isList); (case ktb0 => ktb_idx); (case ktb1 => ktb_idx))
    intro _ hXl
    generalize hX : rwS _ = X at *
    try dsimp only at *
    repeat' (first | (with_reducible refine hold_list ?_) | (k_unfold; (try dsimp only)) | (k_end; wrow_close) | ((first | walk1 | (dsimp only; walk1)); (try dsimp only at *)) | (leave1; try dsimp only))
    unfold Hold
    rename News _ _ _ _ => Nq
    rename Fr _ _ _ _ => Fq
    refine' List_ (Disp.run ?D8 Fq ?_)
    case D8 => repeat' (first | exact Disp.snil | refine' Disp.str ?_)
    intro vs8 tk8 hS8
    try dsimp only
    refine newList_K Fq Nq ?_ (by rw [hS8.length]; decide)
    intro l8 h8 F8 N8 _
    clear Fq Nq
    try dsimp only at *
    repeat' (first | (with_reducible refine hold_sub ?_) | (k_unfold; (try dsimp only)) | (k_end; wrow_close) | ((first | walk1 | (dsimp only; walk1)); (try dsimp only at *)) | (leave1; try dsimp only))
    unfold Hold
    k_dflt (refine' item_x ?ktbl hS8 hj ?_; (case ktbl => ktb_isList))
    intro _
    have hY := xtab_len hj
    have hP : rwS (((n.fdiv p).fmod 16).fdiv 4) ++ Txt.item (xtab j) (((n.fdiv p).fmod 16).fmod 4) = pieceS n j := by rw [hp]; rfl
    generalize xtab j = Y at *
    try dsimp only at *
    repeat' (first | (k_unfold; (try dsimp only)) | (k_end; wrow_close) | ((first | walk1 | (dsimp only; walk1)); (try dsimp only at *)) | (leave1; try dsimp only))
    refine PySem.W.KXi.item hY ?_ ?_ (by decide) ?_
    · exact Int.le_trans (by decide) (fmod4_bd _).1
    · exact (fmod4_bd _).2
    intro hZ
    try dsimp only at *
    repeat' (first | (k_unfold; (try dsimp only)) | (k_end; wrow_close) | ((first | walk1 | (dsimp only; walk1)); (try dsimp only at *)) | (leave1; try dsimp only))
    refine SBL.iadd (hsz := ?hsz) ?_
    case hsz =>
      have := preS_len n (Nat.le_of_lt hj)
      rw [Str.length_append, hXl, hZ, sizeLine_eq]
      omega
    intro _ _ _
    rw [← hX, hP]
    try dsimp only at *
    repeat' (first | (k_unfold; (try dsimp only)) | (k_end; wrow_close) | ((first | walk1 | (dsimp only; walk1)); (try dsimp only at *)) | (leave1; try dsimp only))
    rename News _ _ _ _ => Nz
    rename Fr _ _ _ _ => Fz
    refine ⟨_, _, _, _, rfl, Fz, fun p hp => Nz p (by rw [List.append_nil] at hp; rw [List.mem_singleton.mp hp]; k_mem), fun p hp => absurd hp List.not_mem_nil, ⟨rfl, _, rfl⟩, rfl⟩
end Mine

namespace Mine
set_option maxRecDepth 100000
set_option maxHeartbeats 1000000
noncomputable def unkZ (i : Int) : Int := [0, 3, 5, 7, 9, 11, 13, 14, 15].getD i.toNat 0
noncomputable def kindZ (u i : Int) : Int := [8, u, 6, 2, 4, 10, 1, 12].getD i.toNat 0

theorem item_ints {prog : Program} {w : World} {A : Around} {E : Value → Shared → Prop} {s : Shared} {value slice : PySem.Expr} {l : Addr} {i : Int} {u : Tok} {vs : List Value} {xs : List Int} {Q : Value → Shared → Prop}
    (hl : s.heap.IsList l vs.toArray) (hi : IntsAre vs xs) (h0 : 0 ≤ i) (h1 : i < (xs.length : Int)) (hf : i < 2 ^ 63) (h : ∀ t' X, X = xs.getD i.toNat 0 → Q (.int X t') s)
    (hs : subscripted slice false (.ref l) (.int i u) = operate [.ref l, .int i u] (getItem (.ref l) (.int i u)) := by with_unfolding_all rfl) :
    wpAny (model prog w) A (subscriptTail value slice (.ref l) (.int i u)) Q E s := by
  have hlt : i.toNat < xs.length := by omega
  obtain ⟨t', e⟩ := IntsAre.get hi i.toNat (xs.getD i.toNat 0) (by rw [List.getD_eq_getElem?_getD, List.getElem?_eq_getElem hlt]; rfl)
  exact tail_any hl.typeIs slot_list_getitem.lookup (wpAny_getItem_list hl h0 hf (x := .int _ t') (by simpa using e) (h t' _ rfl)) hs

theorem unkZ_bd {i : Int} (h0 : 0 ≤ i) (h1 : i < 9) : 0 ≤ unkZ i ∧ unkZ i ≤ 15 := by
  obtain ⟨k, rfl⟩ := Int.eq_ofNat_of_zero_le h0
  exact (by decide +kernel : ∀ k, k < 9 → 0 ≤ unkZ ((k : Nat) : Int) ∧ unkZ ((k : Nat) : Int) ≤ 15) k (by omega)
theorem kindZ_bd {u i : Int} (h0 : 0 ≤ i) (h1 : i < 8) (hu : 0 ≤ u) (hu' : u ≤ 15) : 0 ≤ kindZ u i ∧ kindZ u i ≤ 15 := by
  obtain ⟨k, rfl⟩ := Int.eq_ofNat_of_zero_le h0
  have h : k < 8 := by omega
  match k, h with
  | 1, _ => exact ⟨hu, hu'⟩
  | 0, _ => exact (by decide : (0 : Int) ≤ 8 ∧ (8 : Int) ≤ 15)
  | 2, _ => exact (by decide : (0 : Int) ≤ 6 ∧ (6 : Int) ≤ 15)
  | 3, _ => exact (by decide : (0 : Int) ≤ 2 ∧ (2 : Int) ≤ 15)
  | 4, _ => exact (by decide : (0 : Int) ≤ 4 ∧ (4 : Int) ≤ 15)
  | 5, _ => exact (by decide : (0 : Int) ≤ 10 ∧ (10 : Int) ≤ 15)
  | 6, _ => exact (by decide : (0 : Int) ≤ 1 ∧ (1 : Int) ≤ 15)
  | 7, _ => exact (by decide : (0 : Int) ≤ 12 ∧ (12 : Int) ≤ 15)

theorem in_12 {prog : Program} {w : World} {A : Around} {E : Value → Shared → Prop} {s : Shared} {l : Addr} {k : Int} {t t1 t2 : Tok} {Q : Value → Shared → Prop} (hl : s.heap.IsList l #[.int 1 t1, .int 2 t2]) (h : Q (.bool (decide (k = 1 ∨ k = 2))) s) :
    wpAny (model prog w) A (compareOp .In (.int k t) (.ref l)) Q E s := by
  refine in_list_ints (vs := [.int 1 t1, .int 2 t2]) (ns := [1, 2]) hl (by repeat constructor) ?_
  have e : ([1, 2] : List Int).any (· == k) = decide (k = 1 ∨ k = 2) := by
    rw [Bool.eq_iff_iff]
    simp only [List.any_cons, List.any_nil, Bool.or_false, Bool.or_eq_true, beq_iff_eq, decide_eq_true_eq]
    exact ⟨fun x => x.imp Eq.symm Eq.symm, fun x => x.imp Eq.symm Eq.symm⟩
  first | exact e ▸ h | exact h
noncomputable def figZ (f p q : Int) : Int := (f.fdiv 4 * 2 + (f.fmod 4).fdiv 2) * p + (if f.fmod 4 = 1 ∨ f.fmod 4 = 2 then q else 0)
/-- the mode -/
noncomputable def modeZ (n : Int) : Int :=
  ((n.fdiv 65536).fmod 9 * 16 + kindZ (unkZ ((n.fdiv 65536).fmod 9)) ((n.fdiv 4096).fmod 8)) * 4096 + figZ (fig n 256) 64 2048 + figZ (fig n 16) 8 1024 + figZ (fig n 1) 1 512

noncomputable def modeJ (n : Int) : Nat → Int
  | 0 => ((n.fdiv 65536).fmod 9 * 16 + kindZ (unkZ ((n.fdiv 65536).fmod 9)) ((n.fdiv 4096).fmod 8)) * 4096
  | j + 1 => modeJ n j + figZ (figJ n j) (8 ^ (2 - (j : Int)).toNat) (512 * 2 ^ (2 - (j : Int)).toNat)
theorem modeJ_yes {n : Int} {j : Nat} (h : (figJ n j).fmod 4 = 1 ∨ (figJ n j).fmod 4 = 2) : modeJ n (j + 1) = modeJ n j + ((figJ n j).fdiv 4 * 2 + ((figJ n j).fmod 4).fdiv 2) * 8 ^ (2 - (j : Int)).toNat + 512 * 2 ^ (2 - (j : Int)).toNat := by
  show modeJ n j + figZ _ _ _ = _
  rw [figZ, if_pos h, Int.add_assoc]
theorem modeJ_no {n : Int} {j : Nat} (h : ¬ ((figJ n j).fmod 4 = 1 ∨ (figJ n j).fmod 4 = 2)) : modeJ n (j + 1) = modeJ n j + ((figJ n j).fdiv 4 * 2 + ((figJ n j).fmod 4).fdiv 2) * 8 ^ (2 - (j : Int)).toNat := by
  show modeJ n j + figZ _ _ _ = _
  rw [figZ, if_neg h, Int.add_zero]
theorem hold_in {M : Model} {A : Around} {E : Value → Shared → Prop} {s : Shared} {Q : Value → Shared → Prop} {a b : Value} (h : Hold (wpAny M A (compareOp .In a b) Q E s)) : wpAny M A (compareOp .In a b) Q E s := h

set_option maxHeartbeats 4000000 in
theorem c_mode {w mean mg mb} (n : Int) (t : Tok)  : Ctr 2 w mean mg mb 230 [] [.int n t] (fun v _ _ => ∃ t, v = .int (modeZ n) t) := by
  unfold Ctr
  intro dp un gd cn cs a ccd cl outer A₀ base h₀ L m s Q E B F X N T hk hroom hu hret
  w_on
  refine wpAny_call ?_
  k_dflt (refine' enter ?k1 ?k2 ?k3 ?k4 ?k5 ?kA ?kF ?kK ?k6 ?k7 ?k8 ?k9 ?kB ?_ ?c2 ?c3 ?c4 ?c5; (case kA => exact rfl); (case kF => exact rfl); (case kK => assumption); (case k1 => k_asm); (case k2 => k_asm); (case k3 => k_asm); (case k4 => k_asm); (case k5 => k_asm); (case k6 => k_is); (case k7 => k_is); (case k8 => ktr_room); (case k9 => exact BindsTo.of_eq rfl); (case c5 => decide); (case kB => exact locs rfl); (case c2 => exact rfl); (case c3 => exact rfl); (case c4 => exact rfl); k_whole)
  intro g L₁ h₁ KG F₁ N₁ B₁ X₁ T₁ hlt
  clear F N B X T hlt
  dsimp only
  k_fold
  repeat' (first | (with_reducible refine hold_for ?_) | (with_reducible refine hold_list ?_) | (k_unfold; (try dsimp only)) | (k_end; wrow_close) | ((first | walk1 | (dsimp only; walk1)); (try dsimp only at *)) | (leave1; try dsimp only))
  unfold Hold
  rename News _ _ _ _ => Nq
  rename Fr _ _ _ _ => Fq
  refine' List_ (Disp.run ?D7 Fq ?_)
  case D7 => repeat' (first | exact Disp.inil | refine' Disp.int ?_ | (refine' Disp.name ?v ?k ?x ?d ?_; (case v => exact rfl); (case k => exact rfl); (case x => exact rfl); (case d => decide)))
  intro vs7 tk7 hS7
  try dsimp only
  refine newList_K Fq Nq ?_ (by rw [hS7.length]; show 9 ≤ sizeLine; decide)
  intro l7 h7 F7 N7 _
  clear Fq Nq
  try dsimp only at *
  repeat' (first | (with_reducible refine hold_sub ?_) | (k_unfold; (try dsimp only)) | (k_end; wrow_close) | ((first | walk1 | (dsimp only; walk1)); (try dsimp only at *)) | (leave1; try dsimp only))
  unfold Hold
  k_dflt (refine' item_ints ?ktbl hS7 ?ktb0 ?ktb1 ?ktb2 ?_; (case ktbl => ktb_isList); (case ktb0 => ktb_idx); (case ktb1 => ktb_idx); (case ktb2 => ktb_idx))
  intro _ X hX
  replace hX : X = unkZ ((n.fdiv 65536).fmod 9) := hX
  try dsimp only at *
  repeat' (first | (with_reducible refine hold_for ?_) | (with_reducible refine hold_list ?_) | (k_unfold; (try dsimp only)) | (k_end; wrow_close) | ((first | walk1 | (dsimp only; walk1)); (try dsimp only at *)) | (leave1; try dsimp only))
  unfold Hold
  rename News _ _ _ _ => Nq
  rename Fr _ _ _ _ => Fq
  refine' List_ (Disp.run ?D8 Fq ?_)
  case D8 => repeat' (first | exact Disp.inil | refine' Disp.int ?_ | (refine' Disp.name ?v ?k ?x ?d ?_; (case v => exact rfl); (case k => exact rfl); (case x => exact rfl); (case d => decide)))
  intro vs8 tk8 hS8
  try dsimp only
  refine newList_K Fq Nq ?_ (by rw [hS8.length]; show 8 ≤ sizeLine; decide)
  intro l8 h8 F8 N8 _
  clear Fq Nq
  try dsimp only at *
  repeat' (first | (with_reducible refine hold_sub ?_) | (k_unfold; (try dsimp only)) | (k_end; wrow_close) | ((first | walk1 | (dsimp only; walk1)); (try dsimp only at *)) | (leave1; try dsimp only))
  unfold Hold
  k_dflt (refine' item_ints ?ktbl hS8 ?ktb0 ?ktb1 ?ktb2 ?_; (case ktbl => ktb_isList); (case ktb0 => ktb_idx); (case ktb1 => ktb_idx); (case ktb2 => ktb_idx))
  intro _ Y hY
  replace hY : Y = kindZ X ((n.fdiv 4096).fmod 8) := hY
  try dsimp only at *
  repeat' (first | (with_reducible refine hold_for ?_) | (k_unfold; (try dsimp only)) | (k_end; wrow_close) | ((first | walk1 | (dsimp only; walk1)); (try dsimp only at *)) | (leave1; try dsimp only))
  unfold Hold
  refine wpAny_For ?_ (fun _ => rfl)
  repeat' (first | (with_reducible refine hold_type ?_) | (k_unfold; (try dsimp only)) | (k_end; wrow_close) | ((first | walk1 | (dsimp only; walk1)); (try dsimp only at *)) | (leave1; try dsimp only))
  unfold Hold
  rename News _ _ _ _ => Nq
  rename Fr _ _ _ _ => Fq
  refine for_range_call (n := 3) (fun j m' => m' (Str.ofString "number") = some (.int n t) ∧ ∃ u, m' (Str.ofString "mode") = some (.int (modeJ n j) u)) rfl (by decide) Fq (fun _ h => absurd h List.not_mem_nil) ⟨rfl, _, by rw [modeJ, ← hX, ← hY]; rfl⟩ ?step ?fin
  case fin =>
    rintro m₂ h₂ tk₂ ⟨hn, u, hx⟩ F₂ N₂
    have F₃ := fr_norm F₂ hx
    clear F₂ Fq Nq
    dsimp only
    repeat' (first | (k_unfold; (try dsimp only)) | (k_end; wrow_close) | ((first | walk1 | (dsimp only; walk1)); (try dsimp only at *)) | (leave1; try dsimp only))
    exact hret _ _ _ (Kept.out0 KG F₃) ⟨_, rfl⟩
  case step =>
    rintro j t' m₂ h₂ tk₂ I oI hj ⟨hn, u, hx⟩ F₂ N₂ hne
    have F₃ := fr_norm (x := Str.ofString "number") (fr_norm F₂ hx) ((if_neg (by decide)).trans hn)
    clear F₂ Fq Nq hX hY
    dsimp only
    repeat' (first | (with_reducible refine hold_pow ?_) | (k_unfold; (try dsimp only)) | (k_end; wrow_close) | ((first | walk1 | (dsimp only; walk1)); (try dsimp only at *)) | (leave1; try dsimp only))
    unfold Hold
    refine pow_any (by omega) (by omega) (by decide) ?_
    intro p hp
    dsimp only
    refine floordiv_int (Int.ne_of_gt (hp ▸ Int.pow_pos (by decide))) ?_ (Or.inl (nop16 hj hp))
    try dsimp only at *
    repeat' (first | (with_reducible refine hold_pow ?_) | (k_unfold; (try dsimp only)) | (k_end; wrow_close) | ((first | walk1 | (dsimp only; walk1)); (try dsimp only at *)) | (leave1; try dsimp only))
    unfold Hold
    refine pow_any (by omega) (by omega) (by decide) ?_
    intro p8 hp8
    try dsimp only at *
    repeat' (first | (with_reducible refine hold_pow ?_) | (with_reducible refine hold_in ?_) | (k_unfold; (try dsimp only)) | (k_end; wrow_close) | ((first | walk1 | (dsimp only; walk1)); (try dsimp only at *)) | (leave1; try dsimp only))
    unfold Hold
    k_dflt (refine' in_12 ?ktbl ?_; (case ktbl => ktb_isList))
    try dsimp only at *
    repeat' (first | (with_reducible refine hold_pow ?_) | (k_unfold; (try dsimp only)) | (k_end; wrow_close) | ((first | walk1 | (dsimp only; walk1)); (try dsimp only at *)) | (leave1; try dsimp only))
    · unfold Hold
      refine pow_any (by omega) (by omega) (by decide) ?_
      intro p2 hp2
      try dsimp only at *
      repeat' (first | (k_unfold; (try dsimp only)) | (k_end; wrow_close) | ((first | walk1 | (dsimp only; walk1)); (try dsimp only at *)) | (leave1; try dsimp only))
      rename News _ _ _ _ => Nz
      rename Fr _ _ _ _ => Fz
      subst hp hp8 hp2
      refine ⟨_, _, _, _, rfl, Fz, fun p hp => Nz p (by rw [List.append_nil] at hp; rw [List.mem_singleton.mp hp]; k_mem), fun p hp => absurd hp List.not_mem_nil, ⟨rfl, _, by rw [modeJ_yes (by assumption)]; rfl⟩, rfl⟩
    · rename News _ _ _ _ => Nz
      rename Fr _ _ _ _ => Fz
      subst hp hp8
      refine ⟨_, _, _, _, rfl, Fz, fun p hp => Nz p (by rw [List.append_nil] at hp; rw [List.mem_singleton.mp hp]; k_mem), fun p hp => absurd hp List.not_mem_nil, ⟨rfl, _, by rw [modeJ_no (by assumption)]; rfl⟩, rfl⟩
end Mine

namespace Mine
set_option maxRecDepth 100000
set_option maxHeartbeats 1000000

/-- the sign of a row: the first bits that stand -/
noncomputable def pick0 (v : Int) : List (Int × Str) → Str
  | [] => Str.ofString "?"
  | (b, c) :: r => if v = b then c else pick0 v r
noncomputable def pick1 (mode : Int) : List (Int × Str) → Str
  | [] => Str.ofString "-"
  | (b, c) :: r => if Builtin.bitAnd mode b = b then c else pick1 mode r
noncomputable def row0 : List (Int × Str) := [(40960, Str.ofString "l"), (49152, Str.ofString "s"), (32768, Str.ofString "-"), (24576, Str.ofString "b"), (16384, Str.ofString "d"), (8192, Str.ofString "c"), (4096, Str.ofString "p")]
noncomputable def rows1 : List (List (Int × Str)) :=
  [[(256, Str.ofString "r")], [(128, Str.ofString "w")], [(2112, Str.ofString "s"), (2048, Str.ofString "S"), (64, Str.ofString "x")],
   [(32, Str.ofString "r")], [(16, Str.ofString "w")], [(1032, Str.ofString "s"), (1024, Str.ofString "S"), (8, Str.ofString "x")],
   [(4, Str.ofString "r")], [(2, Str.ofString "w")], [(513, Str.ofString "t"), (512, Str.ofString "T"), (1, Str.ofString "x")]]
noncomputable def chars (mode : Int) : List Str := pick0 (Builtin.bitAnd mode 61440) row0 :: rows1.map (pick1 mode)

def PairsAre (h : Heap) (vs : List Value) (ps : List (Int × Str)) : Prop :=
  vs.length = ps.length ∧ ∀ (j : Nat) v, vs[j]? = some v → ∃ a b c tb tc, v = .ref a ∧ ps.drop j = (b, c) :: ps.drop (j + 1) ∧ IsTup h a #[.int b tb, .str c tc]
theorem PairsAre.nil {h : Heap} : PairsAre h [] [] := ⟨rfl, fun _ _ e => nomatch e⟩
theorem PairsAre.cons {h : Heap} {a : Addr} {b : Int} {c : Str} {tb tc : Tok} {vs ps} (x : IsTup h a #[.int b tb, .str c tc]) (q : PairsAre h vs ps) : PairsAre h (.ref a :: vs) ((b, c) :: ps) :=
  ⟨congrArg Nat.succ q.1, fun | 0, _, e => ⟨a, b, c, tb, tc, (Option.some.inj e).symm, rfl, x⟩ | j + 1, v, e => q.2 j v e⟩
def RowsAre (h : Heap) (ws : List Value) (pss : List (List (Int × Str))) : Prop :=
  ∀ (j : Nat) v, ws[j]? = some v → ∃ r vs ps, v = .ref r ∧ pss[j]? = some ps ∧ IsTup h r vs.toArray ∧ PairsAre h vs ps
theorem RowsAre.nil {h : Heap} : RowsAre h [] [] := fun _ _ e => nomatch e
theorem RowsAre.cons {h : Heap} {r : Addr} {vs : List Value} {ps} {ws pss} (x : IsTup h r vs.toArray) (p : PairsAre h vs ps) (q : RowsAre h ws pss) : RowsAre h (.ref r :: ws) (ps :: pss)
  | 0, _, e => ⟨r, vs, ps, (Option.some.inj e).symm, rfl, x, p⟩
  | j + 1, v, e => q j v e

theorem tab_rows {w : World} {h : Heap} (X : (hd.heap_39 w.params).In h) : RowsAre h [.ref 29, .ref 31, .ref 33, .ref 37, .ref 39, .ref 41, .ref 45, .ref 47, .ref 49, .ref 53] (row0 :: rows1) := by
  unfold row0 rows1
  repeat' (first | exact RowsAre.nil | exact PairsAre.nil | refine RowsAre.cons (tupK X (by k_is)) ?_ ?_ | refine PairsAre.cons (tupK X (by k_is)) ?_)
theorem tab_tup {w : World} {h : Heap} (X : (hd.heap_39 w.params).In h) : h.IsTuple 54 (List.toArray [.ref 29, .ref 31, .ref 33, .ref 37, .ref 39, .ref 41, .ref 45, .ref 47, .ref 49, .ref 53]) := tupK X (by k_is)

def fmJ (n : Int) (t : Tok) (p : Addr) (j : Nat) (m₁ : Str → Option Value) (news₁ : List (Addr × Obj)) : Prop :=
  m₁ (Str.ofString "mode") = some (.int n t) ∧ m₁ (Str.ofString "perm") = some (.ref p) ∧ ∃ vs : List Value, news₁ = [(p, W.listOf vs.toArray j)] ∧ StrsAre vs ((chars n).take j)
theorem strs_snoc {x : Str} {t : Tok} : ∀ {vs : List Value} {ws : List Str}, StrsAre vs ws → StrsAre (vs ++ [Value.str x t]) (ws ++ [x])
  | _, _, .nil => .cons _ _ .nil
  | _, _, .cons _ _ q => .cons _ _ (strs_snoc q)
theorem outer_end {n : Int} {t tc : Tok} {p e it L : Addr} {oe oi : Obj} {own : List (Addr × Obj)} {j tk : Nat} {g h' : Heap} {m' : Str → Option Value} {vs : List Value} {c C : Str} {s : Shared} {Q : Flow → Shared → Prop}
    (F : Fr g L h' m') (N : News g L h' (own ++ [(e, oe), (it, oi), (p, W.listOf (vs.toArray.push (.str c tc)) (j + 1))])) (hpe : @Ne Nat p e) (hpi : @Ne Nat p it)
    (hm : m' (Str.ofString "mode") = some (.int n t)) (hp : m' (Str.ofString "perm") = some (.ref p)) (hS : StrsAre vs ((chars n).take j)) (hC : (chars n)[j]? = some C) (hc : C = c) :
    TurnEnd g L [(e, oe), (it, oi)] (fmJ n t p (j + 1)) s Q .next { s with heap := h', toks := tk } := by
  subst hc
  refine ⟨h', tk, m', [(p, W.listOf (vs ++ [Value.str C tc]).toArray (j + 1))], rfl, F, fun q hq => ?_, ?_, hm, hp, vs ++ [.str C tc], rfl, ?_⟩
  · refine N q (List.mem_append_right _ ?_)
    rw [List.push_toArray]
    exact hq
  · intro q hq r hr
    rw [List.mem_singleton.mp hq]
    rcases List.mem_cons.mp hr with rfl | hr
    · exact hpe
    · rw [List.mem_singleton.mp hr]; exact hpi
  · rw [List.take_succ, hC]
    exact strs_snoc hS
theorem pick0_len {v : Int} : ∀ {ps : List (Int × Str)}, (∀ q ∈ ps, q.2.length = 1) → (pick0 v ps).length = 1
  | [], _ => (by decide +kernel : (Str.ofString "?").length = 1)
  | (b, c) :: r, h => by
    unfold pick0
    split
    · exact h _ (List.mem_cons_self ..)
    · exact pick0_len fun q hq => h q (List.mem_cons_of_mem _ hq)
theorem pick1_len {v : Int} : ∀ {ps : List (Int × Str)}, (∀ q ∈ ps, q.2.length = 1) → (pick1 v ps).length = 1
  | [], _ => (by decide +kernel : (Str.ofString "-").length = 1)
  | (b, c) :: r, h => by
    unfold pick1
    split
    · exact h _ (List.mem_cons_self ..)
    · exact pick1_len fun q hq => h q (List.mem_cons_of_mem _ hq)
theorem chars_len {n : Int} : ∀ c ∈ chars n, c.length = 1 := by
  intro c hc
  rcases List.mem_cons.mp hc with rfl | hc
  · exact pick0_len (by decide +kernel)
  · obtain ⟨ps, hps, rfl⟩ := List.mem_map.mp hc
    exact pick1_len ((by decide +kernel : ∀ ps ∈ rows1, ∀ q ∈ ps, q.2.length = 1) ps hps)
theorem sum_ones : ∀ {l : List Str}, (∀ c ∈ l, c.length = 1) → (l.map (·.length)).sum = l.length
  | [], _ => rfl
  | c :: r, h => by
    rw [List.map_cons, List.sum_cons, h c (List.mem_cons_self ..), sum_ones fun d hd => h d (List.mem_cons_of_mem _ hd), List.length_cons]
    omega
noncomputable def fmS (n : Int) : Str := Txt.join (Str.ofString "") (chars n)
/-- a row's sign, whichever row -/
noncomputable def pickX (n : Int) (j : Nat) (ps : List (Int × Str)) : Str := if (j : Int) = 0 then pick0 (Builtin.bitAnd n 61440) ps else pick1 n ps
theorem chars_at {n : Int} {ps} : ∀ {j : Nat}, (row0 :: rows1)[j]? = some ps → (chars n)[j]? = some (pickX n j ps)
  | 0, h => by
    cases h
    rfl
  | j + 1, h => by
    rw [List.getElem?_cons_succ] at h
    rw [pickX, if_neg (by omega), chars, List.getElem?_cons_succ, List.getElem?_map, h, Option.map_some]
theorem pickX_nil {n : Int} {j : Nat} : pickX n j [] = if (j : Int) = 0 then Str.ofString "?" else Str.ofString "-" := rfl
theorem pickX_0 {n : Int} {j : Nat} {b : Int} {c : Str} {ps} (h : (j : Int) = 0) : pickX n j ((b, c) :: ps) = if Builtin.bitAnd n 61440 = b then c else pickX n j ps := by
  rw [pickX, pickX, if_pos h, if_pos h, pick0]
theorem pickX_1 {n : Int} {j : Nat} {b : Int} {c : Str} {ps} (h : ¬ (j : Int) = 0) : pickX n j ((b, c) :: ps) = if Builtin.bitAnd n b = b then c else pickX n j ps := by
  rw [pickX, pickX, if_neg h, if_neg h, pick1]
theorem hold_append {M : Model} {A : Around} {E : Value → Shared → Prop} {s : Shared} {Q : Value → Shared → Prop} {args : List Value} {kw : List (Str × Value)} (h : Hold (wpAny M A (call (.builtin "list.append") args kw) Q E s)) : wpAny M A (call (.builtin "list.append") args kw) Q E s := h

set_option maxHeartbeats 4000000 in
theorem c_fm {w mean mg mb} (n : Int) (t : Tok)  : Ctr 3 w mean mg mb 61 [] [.int n t] (fun v _ _ => ∃ t, v = .str (fmS n) t) := by
  unfold Ctr
  intro dp un gd cn cs a ccd cl outer A₀ base h₀ L m s Q E B F X N T hk hroom hu hret
  w_on
  refine wpAny_call ?_
  k_dflt (refine' enter ?k1 ?k2 ?k3 ?k4 ?k5 ?kA ?kF ?kK ?k6 ?k7 ?k8 ?k9 ?kB ?_ ?c2 ?c3 ?c4 ?c5; (case kA => exact rfl); (case kF => exact rfl); (case kK => assumption); (case k1 => k_asm); (case k2 => k_asm); (case k3 => k_asm); (case k4 => k_asm); (case k5 => k_asm); (case k6 => k_is); (case k7 => k_is); (case k8 => ktr_room); (case k9 => exact BindsTo.of_eq rfl); (case c5 => decide); (case kB => exact locs rfl); (case c2 => exact rfl); (case c3 => exact rfl); (case c4 => exact rfl); k_whole)
  intro g L₁ h₁ KG F₁ N₁ B₁ X₁ T₁ hlt
  clear F N B X T hlt
  dsimp only
  k_fold
  repeat' (first | (with_reducible refine hold_for ?_) | (k_unfold; (try dsimp only)) | (k_end; wrow_close) | walk1 | (dsimp only; walk1) | (leave1; try dsimp only))
  unfold Hold
  refine wpAny_For ?_ (fun _ => rfl)
  repeat' (first | (with_reducible refine hold_type ?_) | (k_unfold; (try dsimp only)) | (k_end; wrow_close) | walk1 | (dsimp only; walk1) | (leave1; try dsimp only))
  unfold Hold
  have hrows := tab_rows X₁
  rename News _ _ _ _ => Nq
  rename Fr _ _ _ _ => Fq
  rename_i p _ _ _
  refine for_enum (h₀ := g) rfl (tab_tup X₁) Fq Nq (fmJ n t p) ⟨rfl, rfl, [], rfl, StrsAre.nil⟩ ?step ?fin
  case step =>
    intro j v m₁ news₁ h₂ tk₂ e it oe oi T' t' hx hJ F₂ N₂ hap hT
    obtain ⟨hm, hp, vs, rfl, hvs⟩ := hJ
    have F₃ := fr_norm (x := Str.ofString "mode") (fr_norm F₂ hp) ((if_neg (by decide)).trans hm)
    obtain ⟨r, ws, ps, rfl, hps, hr, hpa⟩ := hrows j v (by simpa using hx)
    clear F₂ Fq Nq hx hrows
    obtain ⟨hpe, hpi⟩ := hap _ (List.mem_singleton.mpr rfl)
    clear hap
    replace hpe : @Ne Nat p e := hpe
    replace hpi : @Ne Nat p it := hpi
    have hvl : vs.toArray.size ≤ sizeLine := by
      have := hvs.length
      have h10 : (chars n).length = 10 := rfl
      rw [List.length_take, h10] at this
      rw [List.size_toArray, this, sizeLine_eq]
      omega
    dsimp only
    repeat' (first | (with_reducible refine hold_for ?_) | (k_unfold; (try dsimp only)) | (k_end; wrow_close) | walk1 | (dsimp only; walk1) | (leave1; try dsimp only))
    unfold Hold
    refine wpAny_For ?_ (fun _ => rfl)
    repeat' (first | (k_unfold; (try dsimp only)) | (k_end; wrow_close) | walk1 | (dsimp only; walk1) | (leave1; try dsimp only))
    rename News _ _ _ _ => Ni
    rename Fr _ _ _ _ => Fi
    have hlen := hpa.1
    have hC := chars_at (n := n) hps
    refine for_tup (h₀ := g) rfl hr Fi Ni (fun i m₂ news₂ => m₂ (Str.ofString "mode") = some (.int n t) ∧ m₂ (Str.ofString "perm") = some (.ref p) ∧ m₂ (Str.ofString "index") = some (.int (j : Int) t') ∧ news₂ = [(e, oe), (it, oi), (p, W.listOf vs.toArray j)] ∧ pickX n j ps = pickX n j (ps.drop i)) ⟨rfl, rfl, rfl, rfl, by rw [List.drop_zero]⟩ ?_ ?_
    · intro i v m₂ news₂ h₃ tk₃ I oI hx₂ hJ₂ F₄ N₄ hapI
      obtain ⟨hm2, hp2, hi2, rfl, hpick⟩ := hJ₂
      obtain ⟨a', b', c', tb, tc, rfl, hdrop, hT2⟩ := hpa.2 i v (by simpa using hx₂)
      have F₅ := fr_norm (x := Str.ofString "mode") (fr_norm (x := Str.ofString "perm") (fr_norm F₄ hi2) ((if_neg (by decide)).trans hp2)) ((if_neg (by decide)).trans ((if_neg (by decide)).trans hm2))
      have hT3 : IsTup h₃ a' #[.int b' tb, .str c' tc] := IsTup.keeps hT2 F₄.keep
      have hpI : @Ne Nat p I := hapI (p, W.listOf vs.toArray j) (by simp)
      rw [hdrop] at hpick
      clear F₄ Fi Ni hx₂ hm2 hp2 hi2 hm hp hlen hdrop hpa hps hT2
      dsimp only
      repeat' (first | (with_reducible refine hold_ref ?_) | (with_reducible refine hold_append ?_) | (k_unfold; (try dsimp only)) | (k_end; wrow_close) | walk1 | (dsimp only; walk1) | (leave1; try dsimp only))
      · unfold Hold
        k_dflt (refine' Ctr.useV (c_ifmt _ _) ?k1 ?k2 ?k3 ?k4 ?k5 ?kK ?kd ?ku ?_; (case k1 => k_asm); (case k2 => k_asm); (case k3 => k_asm); (case k4 => k_asm); (case k5 => k_asm); (case kK => exact rfl); (case kd => ktr_room); (case ku => ktr_units))
        intro _ _ _ _ _
        try dsimp only
        try k_sweep
        repeat' (first | (with_reducible refine hold_append ?_) | (k_unfold; (try dsimp only)) | (k_end; wrow_close) | walk1 | (dsimp only; walk1) | (leave1; try dsimp only))
        · unfold Hold
          k_dflt (refine' append_K ?k1 ?k2 ?k3 ?_ ?z; (case k1 => k_asm); (case k2 => k_asm); (case k3 => k_upd); (case z => assumption); k_whole)
          intro _ _ _
          try dsimp only
          repeat' (first | (k_unfold; (try dsimp only)) | (k_end; wrow_close) | walk1 | (dsimp only; walk1) | (leave1; try dsimp only))
          rename News _ _ _ _ => Nz
          rename Fr _ _ _ _ => Fz
          refine wpAny_execs_nil ?_
          exact outer_end (own := [(I, oI)]) Fz Nz hpe hpi rfl rfl hvs hC (by rw [hpick, pickX_0 (by assumption), if_pos (by assumption)])
        · rename News _ _ _ _ => Nz
          rename Fr _ _ _ _ => Fz
          refine ⟨_, _, _, [(e, oe), (it, oi), (p, W.listOf vs.toArray j)], rfl, Fz, Nz, ?_, rfl, rfl, rfl, rfl, by rw [hpick, pickX_0 (by assumption), if_neg (by assumption)]⟩
          intro q hq u hu
          rw [List.mem_singleton.mp hu]
          exact hapI q hq
      · unfold Hold
        k_dflt (refine' append_K ?k1 ?k2 ?k3 ?_ ?z; (case k1 => k_asm); (case k2 => k_asm); (case k3 => k_upd); (case z => assumption); k_whole)
        intro _ _ _
        try dsimp only
        repeat' (first | (k_unfold; (try dsimp only)) | (k_end; wrow_close) | walk1 | (dsimp only; walk1) | (leave1; try dsimp only))
        rename News _ _ _ _ => Nz
        rename Fr _ _ _ _ => Fz
        refine wpAny_execs_nil ?_
        exact outer_end (own := [(I, oI)]) Fz Nz hpe hpi rfl rfl hvs hC (by rw [hpick, pickX_1 (by assumption), if_pos (by assumption)])
      · rename News _ _ _ _ => Nz
        rename Fr _ _ _ _ => Fz
        refine ⟨_, _, _, [(e, oe), (it, oi), (p, W.listOf vs.toArray j)], rfl, Fz, Nz, ?_, rfl, rfl, rfl, rfl, by rw [hpick, pickX_1 (by assumption), if_neg (by assumption)]⟩
        intro q hq u hu
        rw [List.mem_singleton.mp hu]
        exact hapI q hq
    · intro m₂ news₂ h₃ tk₃ hJ₂ F₄ N₄
      obtain ⟨hm2, hp2, hi2, rfl, hpick⟩ := hJ₂
      have F₅ := fr_norm (x := Str.ofString "mode") (fr_norm (x := Str.ofString "perm") (fr_norm F₄ hi2) ((if_neg (by decide)).trans hp2)) ((if_neg (by decide)).trans ((if_neg (by decide)).trans hm2))
      rw [List.size_toArray, hlen, List.drop_length, pickX_nil] at hpick
      clear F₄ Fi Ni hm2 hp2 hi2 hm hp hlen hpa hps
      dsimp only
      repeat' (first | (with_reducible refine hold_ref ?_) | (with_reducible refine hold_append ?_) | (k_unfold; (try dsimp only)) | (k_end; wrow_close) | walk1 | (dsimp only; walk1) | (leave1; try dsimp only))
      · unfold Hold
        k_dflt (refine' append_K ?k1 ?k2 ?k3 ?_ ?z; (case k1 => k_asm); (case k2 => k_asm); (case k3 => k_upd); (case z => assumption); k_whole)
        intro _ _ _
        try dsimp only
        repeat' (first | (k_unfold; (try dsimp only)) | (k_end; wrow_close) | walk1 | (dsimp only; walk1) | (leave1; try dsimp only))
        rename News _ _ _ _ => Nz
        rename Fr _ _ _ _ => Fz
        exact outer_end (own := []) Fz Nz hpe hpi rfl rfl hvs hC (by rw [hpick, if_pos (by assumption)])
      · unfold Hold
        k_dflt (refine' append_K ?k1 ?k2 ?k3 ?_ ?z; (case k1 => k_asm); (case k2 => k_asm); (case k3 => k_upd); (case z => assumption); k_whole)
        intro _ _ _
        try dsimp only
        repeat' (first | (k_unfold; (try dsimp only)) | (k_end; wrow_close) | walk1 | (dsimp only; walk1) | (leave1; try dsimp only))
        rename News _ _ _ _ => Nz
        rename Fr _ _ _ _ => Fz
        exact outer_end (own := []) Fz Nz hpe hpi rfl rfl hvs hC (by rw [hpick, if_neg (by assumption)])
  case fin =>
    intro m₁ news₁ h₂ tk₂ hJ F₂ N₂
    obtain ⟨hm, hp, vs, rfl, hvs⟩ := hJ
    have F₃ := fr_norm (x := Str.ofString "mode") (fr_norm F₂ hp) ((if_neg (by decide)).trans hm)
    clear F₂ Fq Nq
    dsimp only
    repeat' (first | (k_unfold; (try dsimp only)) | (k_end; wrow_close) | walk1 | (dsimp only; walk1) | (leave1; try dsimp only))
    have h10 : (chars n).length = 10 := rfl
    have hvs' : StrsAre vs.toArray.toList (chars n) := by
      have e : (chars n).take 10 = chars n := List.take_of_length_le (by rw [h10]; decide)
      have h := hvs
      rw [show (List.toArray [Value.ref 29, .ref 31, .ref 33, .ref 37, .ref 39, .ref 41, .ref 45, .ref 47, .ref 49, .ref 53]).size = 10 from rfl, e] at h
      exact h
    refine join_listC (News.isList N₂ (List.mem_singleton.mpr rfl)) hvs' (by decide +kernel) (by rw [sum_ones chars_len, h10]; decide) ?_
    intro t₉ k₉
    dsimp only
    k_unfold
    dsimp only
    exact hret _ _ _ (Kept.out0 KG F₃) ⟨_, rfl⟩
end Mine

namespace Mine
/-- bits -/
theorem band_even (x y : Int) : Builtin.bitAnd x (2 * y) = 2 * Builtin.bitAnd (x / 2) y := by
  have h := kbt_halves x (2 * y)
  rw [show 2 * y / 2 = y by omega, if_neg (by omega)] at h
  omega
theorem band_odd (x y : Int) : Builtin.bitAnd x (2 * y + 1) = 2 * Builtin.bitAnd (x / 2) y + x % 2 := by
  have h := kbt_halves x (2 * y + 1)
  rw [show (2 * y + 1) / 2 = y by omega] at h
  rw [h]
  split <;> omega
theorem band_pow (k : Nat) : ∀ x y : Int, Builtin.bitAnd x (2 ^ k * y) = 2 ^ k * Builtin.bitAnd (x / 2 ^ k) y := by
  induction k with
  | zero => intro x y; simp
  | succ k ih =>
    intro x y
    rw [Int.pow_succ, Int.mul_assoc, ih, band_even, Int.mul_assoc, Int.ediv_ediv_of_nonneg (by exact Int.le_of_lt (kbt_pos k))]
theorem bit_two (x : Int) : x % 2 = 0 ∨ x % 2 = 1 := by omega
theorem one_num {p b : Int} (hp : 0 < p) (hb : b = 0 ∨ b = 1) : b * p = p ↔ b = 1 := by
  rcases hb with rfl | rfl
  · rw [Int.zero_mul]; omega
  · rw [Int.one_mul]; exact ⟨fun _ => rfl, fun _ => rfl⟩
theorem one_iff (x : Int) (k : Nat) : Builtin.bitAnd x (2 ^ k) = 2 ^ k ↔ x / 2 ^ k % 2 = 1 := by
  rw [kbt_bit]
  exact one_num (kbt_pos k) (bit_two _)
theorem two_num {p a b : Int} (hp : 0 < p) (ha : a = 0 ∨ a = 1) (hb : b = 0 ∨ b = 1) : 2 * (b * p) + a = 2 * p + 1 ↔ a = 1 ∧ b = 1 := by
  rcases hb with rfl | rfl
  · rw [Int.zero_mul]; omega
  · rw [Int.one_mul]; omega
theorem two_iff (x : Int) (j k : Nat) : Builtin.bitAnd x (2 ^ j * (2 * 2 ^ k + 1)) = 2 ^ j * (2 * 2 ^ k + 1) ↔ x / 2 ^ j % 2 = 1 ∧ x / 2 ^ j / 2 / 2 ^ k % 2 = 1 := by
  rw [band_pow, band_odd, kbt_bit]
  exact ⟨fun h => (two_num (kbt_pos k) (bit_two _) (bit_two _)).mp (Int.eq_of_mul_eq_mul_left (Int.ne_of_gt (kbt_pos j)) h), fun h => congrArg _ ((two_num (kbt_pos k) (bit_two _) (bit_two _)).mpr h)⟩
theorem nib_eq (x : Int) : Builtin.bitAnd x 61440 = x / 4096 % 16 * 4096 := by
  have h := band_pow 12 x 15
  rw [show (2 : Int) ^ 12 = 4096 by decide, bitAnd_m4] at h
  rw [show (61440 : Int) = 4096 * 15 by decide, h, Int.mul_comm]

/-- order: of lists of signs -/
def Mono (M : Nat) (f : Nat → List Nat) : Prop := (∀ a, a < M → ∀ b, b < M → (f a).length = (f b).length) ∧ ∀ a, a < M → ∀ b, b < M → a < b → f a < f b

theorem app_lt_left {a b c d : List Nat} (hl : a.length = b.length) (h : a < b) : a ++ c < b ++ d := by
  induction a generalizing b with
  | nil => cases b with
    | nil => exact absurd h (List.not_lt_nil _)
    | cons y ys => simp at hl
  | cons x xs ih => cases b with
    | nil => simp at hl
    | cons y ys =>
      simp only [List.cons_append, List.cons_lt_cons_iff] at h ⊢
      rcases h with h | ⟨rfl, h⟩
      · exact .inl h
      · exact .inr ⟨rfl, ih (by simpa using hl) h⟩
theorem app_lt_right {a c d : List Nat} (h : c < d) : a ++ c < a ++ d := by
  induction a with
  | nil => exact h
  | cons x xs ih => rw [List.cons_append, List.cons_append, List.cons_lt_cons_iff]; exact .inr ⟨rfl, ih⟩
theorem Mono.app {M K : Nat} {f g : Nat → List Nat} (hf : Mono M f) (hg : Mono K g) (hK : 0 < K) : Mono (M * K) (fun n => f (n / K) ++ g (n % K)) := by
  have q : ∀ a, a < M * K → a / K < M := fun a h => Nat.div_lt_of_lt_mul (by rw [Nat.mul_comm]; exact h)
  refine ⟨fun a ha b hb => ?_, fun a ha b hb h => ?_⟩
  · simp only [List.length_append]
    rw [hf.1 _ (q a ha) _ (q b hb), hg.1 _ (Nat.mod_lt _ hK) _ (Nat.mod_lt _ hK)]
  · rcases Nat.lt_or_ge (a / K) (b / K) with e | e
    · exact app_lt_left (hf.1 _ (q a ha) _ (q b hb)) (hf.2 _ (q a ha) _ (q b hb) e)
    · have e' : a / K = b / K := Nat.le_antisymm (Nat.div_le_div_right (Nat.le_of_lt h)) e
      have ea := Nat.div_add_mod a K
      have eb := Nat.div_add_mod b K
      have el : a % K < b % K := by rw [e'] at ea; omega
      show f (a / K) ++ g (a % K) < f (b / K) ++ g (b % K)
      rw [e']
      exact app_lt_right (hg.2 _ (Nat.mod_lt _ hK) _ (Nat.mod_lt _ hK) el)
end Mine

namespace Mine
set_option maxRecDepth 100000
set_option maxHeartbeats 1000000
noncomputable def sgn (b : Int) (c : Str) : Str := if b = 1 then c else Str.ofString "-"
noncomputable def sgx (x s : Int) (c C : Str) : Str := if x = 1 ∧ s = 1 then c else if s = 1 then C else if x = 1 then Str.ofString "x" else Str.ofString "-"
/-- a number by its last bits -/
noncomputable def num : List Int → Int → Int
  | [], z => z
  | b :: r, z => b + 2 * num r z
theorem num_bit : ∀ {l : List Int} {z : Int} {k : Nat}, (∀ b ∈ l, 0 ≤ b ∧ b ≤ 1) → k < l.length → num l z / 2 ^ k % 2 = l.getD k 0
  | b :: r, z, 0, hb, _ => by
    have h := hb b (.head _)
    show (b + 2 * num r z) / 1 % 2 = b
    omega
  | b :: r, z, k + 1, hb, hk => by
    have h := hb b (.head _)
    rw [Int.pow_succ, Int.mul_comm, ← Int.ediv_ediv_of_nonneg (by decide), show num (b :: r) z / 2 = num r z by show (b + 2 * num r z) / 2 = _; omega]
    exact num_bit (fun c hc => hb c (.tail _ hc)) (Nat.lt_of_succ_lt_succ hk)
theorem num_top : ∀ {l : List Int} {z : Int}, (∀ b ∈ l, 0 ≤ b ∧ b ≤ 1) → num l z / 2 ^ l.length = z
  | [], z, _ => Int.ediv_one z
  | b :: r, z, hb => by
    have h := hb b (.head _)
    rw [List.length_cons, Int.pow_succ, Int.mul_comm, ← Int.ediv_ediv_of_nonneg (by decide), show num (b :: r) z / 2 = num r z by show (b + 2 * num r z) / 2 = _; omega]
    exact num_top fun c hc => hb c (.tail _ hc)
theorem num_high {l : List Int} {z v : Int} {k : Nat} (hb : ∀ b ∈ l, 0 ≤ b ∧ b ≤ 1) (hk : l.length = k) (hv : v = 2 ^ k) : num l z / v = z := by
  subst hk hv
  exact num_top hb
theorem pick_one {l : List Int} {z : Int} (hb : ∀ b ∈ l, 0 ≤ b ∧ b ≤ 1) (k : Nat) {v : Int} {c : Str} (hv : v = 2 ^ k) (hk : k < l.length) : pick1 (num l z) [(v, c)] = sgn (l.getD k 0) c := by
  subst hv
  rw [← num_bit hb hk (z := z)]
  simp only [pick1, sgn, one_iff]
theorem pick_three {l : List Int} {z : Int} (hb : ∀ b ∈ l, 0 ≤ b ∧ b ≤ 1) (j k : Nat) {u v w : Int} {c C : Str} (hu : u = 2 ^ j * (2 * 2 ^ k + 1)) (hv : v = 2 ^ (j + 1 + k)) (hw : w = 2 ^ j) (hk : j + 1 + k < l.length) :
    pick1 (num l z) [(u, c), (v, C), (w, Str.ofString "x")] = sgx (l.getD j 0) (l.getD (j + 1 + k) 0) c C := by
  rw [← num_bit hb hk (z := z), ← num_bit hb (Nat.lt_of_le_of_lt (Nat.le_trans (Nat.le_succ j) (Nat.le_add_right _ _)) hk) (z := z)]
  have e : num l z / 2 ^ j / 2 / 2 ^ k = num l z / 2 ^ (j + 1 + k) := by
    rw [Int.ediv_ediv_of_nonneg (Int.le_of_lt (kbt_pos j)), Int.ediv_ediv_of_nonneg (Int.mul_nonneg (Int.le_of_lt (kbt_pos j)) (by decide)), ← Int.pow_succ, ← Int.pow_add]
  subst hu hv hw
  simp only [pick1, sgx, two_iff, one_iff, e]

/-- a figure's bits -/
noncomputable def bitI (f d : Nat) : Int := ((f / d % 2 : Nat) : Int)
noncomputable def bitS (f : Nat) : Int := if (f : Int).fmod 4 = 1 ∨ (f : Int).fmod 4 = 2 then 1 else 0
theorem bitI_bd (f d : Nat) : 0 ≤ bitI f d ∧ bitI f d ≤ 1 := ⟨Int.natCast_nonneg _, Int.ofNat_le.mpr (Nat.le_of_lt_succ (Nat.mod_lt _ (by decide)))⟩
theorem bitS_bd (f : Nat) : 0 ≤ bitS f ∧ bitS f ≤ 1 := by unfold bitS; split <;> decide
theorem fig_tab : ∀ f : Nat, f < 16 → ((f : Int).fdiv 4 * 2 + ((f : Int).fmod 4).fdiv 2 = 4 * bitI f 8 + 2 * bitI f 4 + bitI f 2) ∧
    rwS ((f : Int).fdiv 4) ++ xS ((f : Int).fmod 4) = sgn (bitI f 8) (Str.ofString "r") ++ sgn (bitI f 4) (Str.ofString "w") ++ sgx (bitI f 2) (bitS f) (Str.ofString "s") (Str.ofString "S") ∧
    rwS ((f : Int).fdiv 4) ++ xT ((f : Int).fmod 4) = sgn (bitI f 8) (Str.ofString "r") ++ sgn (bitI f 4) (Str.ofString "w") ++ sgx (bitI f 2) (bitS f) (Str.ofString "t") (Str.ofString "T") := by decide +kernel
theorem fig_val {f : Nat} (h : f < 16) (p q : Int) : figZ (f : Int) p q = (4 * bitI f 8 + 2 * bitI f 4 + bitI f 2) * p + bitS f * q := by
  unfold figZ bitS
  rw [(fig_tab f h).1]
  split
  · rw [Int.one_mul]
  · rw [Int.zero_mul]

theorem kind_sign : ∀ j, j < 9 → ∀ i, i < 8 → pick0 (kindZ (unkZ ((j : Nat) : Int)) ((i : Nat) : Int) * 4096) row0 = Txt.item (Str.ofString "-?bcdlps") ((i : Nat) : Int) := by decide +kernel

theorem glue_ten (a b c d e f g h i j : Str) : Txt.join (Str.ofString "") [a, b, c, d, e, f, g, h, i, j] = a ++ (b ++ c ++ d) ++ (e ++ f ++ g) ++ (h ++ i ++ j) := by
  have e : (Str.ofString "").cps = #[] := by decide +kernel
  show (⟨_⟩ : Str) = ⟨_⟩
  congr 1
  simp only [List.drop, List.foldl, List.headD, e, Array.append_empty]
  show _ = a.cps ++ (b.cps ++ c.cps ++ d.cps) ++ (_ ++ f.cps ++ g.cps) ++ (h.cps ++ i.cps ++ j.cps)
  simp only [Array.append_assoc]

theorem fig_nat (n p : Int) : ∃ f : Nat, f < 16 ∧ fig n p = (f : Int) := by
  have h : 0 ≤ fig n p ∧ fig n p < 16 := by
    unfold fig
    rw [Int.fmod_eq_emod_of_nonneg _ (by decide)]
    exact ⟨Int.emod_nonneg _ (by decide), Int.emod_lt_of_pos _ (by decide)⟩
  obtain ⟨f, e⟩ := Int.eq_ofNat_of_zero_le h.1
  exact ⟨f, Int.ofNat_lt.mp (e ▸ h.2), e⟩
theorem num_three (x w r t : Int) : x + 2 * (w + 2 * (r + 2 * t)) = 4 * r + 2 * w + x + 8 * t := by omega
theorem num_twelve (r1 w1 x1 s1 r2 w2 x2 s2 r3 w3 x3 s3 z : Int) :
    z * 4096 + ((4 * r1 + 2 * w1 + x1) * 64 + s1 * 2048) + ((4 * r2 + 2 * w2 + x2) * 8 + s2 * 1024) + ((4 * r3 + 2 * w3 + x3) * 1 + s3 * 512) = num [x3, w3, r3, x2, w2, r2, x1, w1, r1, s3, s2, s1] z := by
  simp only [num, num_three]
  generalize 4 * r1 + 2 * w1 + x1 = f1
  generalize 4 * r2 + 2 * w2 + x2 = f2
  generalize 4 * r3 + 2 * w3 + x3 = f3
  clear r1 w1 x1 r2 w2 x2 r3 w3 x3
  omega
theorem fm_mode (n : Int) : fmS (modeZ n) = toldS n := by
  obtain ⟨f1, h1, e1⟩ := fig_nat n 256
  obtain ⟨f2, h2, e2⟩ := fig_nat n 16
  obtain ⟨f3, h3, e3⟩ := fig_nat n 1
  have hM : 0 ≤ (n.fdiv 65536).fmod 9 ∧ (n.fdiv 65536).fmod 9 < 9 := by rw [Int.fmod_eq_emod_of_nonneg _ (by decide)]; exact ⟨Int.emod_nonneg _ (by decide), Int.emod_lt_of_pos _ (by decide)⟩
  have hI : 0 ≤ (n.fdiv 4096).fmod 8 ∧ (n.fdiv 4096).fmod 8 < 8 := by rw [Int.fmod_eq_emod_of_nonneg _ (by decide)]; exact ⟨Int.emod_nonneg _ (by decide), Int.emod_lt_of_pos _ (by decide)⟩
  obtain ⟨j, hj⟩ := Int.eq_ofNat_of_zero_le hM.1
  obtain ⟨i, hi⟩ := Int.eq_ofNat_of_zero_le hI.1
  have hk := kind_sign j (Int.ofNat_lt.mp (hj ▸ hM.2)) i (Int.ofNat_lt.mp (hi ▸ hI.2))
  have hu := unkZ_bd hM.1 hM.2
  have hz := kindZ_bd (u := unkZ ((n.fdiv 65536).fmod 9)) hI.1 hI.2 hu.1 hu.2
  rw [← hj, ← hi] at hk
  have hb : ∀ b ∈ [bitI f3 2, bitI f3 4, bitI f3 8, bitI f2 2, bitI f2 4, bitI f2 8, bitI f1 2, bitI f1 4, bitI f1 8, bitS f3, bitS f2, bitS f1], 0 ≤ b ∧ b ≤ 1 := by
    repeat' (first | exact List.forall_mem_nil _ | refine List.forall_mem_cons.mpr ⟨by first | exact bitI_bd _ _ | exact bitS_bd _, ?_⟩)
  unfold toldS kindS modeZ
  rw [e1, e2, e3, (fig_tab f1 h1).2.1, (fig_tab f2 h2).2.1, (fig_tab f3 h3).2.2, fig_val h1, fig_val h2, fig_val h3, num_twelve, ← hk]
  generalize kindZ (unkZ ((n.fdiv 65536).fmod 9)) ((n.fdiv 4096).fmod 8) = z at *
  unfold fmS chars rows1
  simp only [List.map]
  rw [pick_one hb 8 (v := 256) (by decide) (show 8 < 12 by decide), pick_one hb 7 (v := 128) (by decide) (show 7 < 12 by decide), pick_one hb 5 (v := 32) (by decide) (show 5 < 12 by decide), pick_one hb 4 (v := 16) (by decide) (show 4 < 12 by decide), pick_one hb 2 (v := 4) (by decide) (show 2 < 12 by decide), pick_one hb 1 (v := 2) (by decide) (show 1 < 12 by decide),
    pick_three hb 6 4 (u := 2112) (v := 2048) (w := 64) (by decide) (by decide) (by decide) (show 6 + 1 + 4 < 12 by decide), pick_three hb 3 6 (u := 1032) (v := 1024) (w := 8) (by decide) (by decide) (by decide) (show 3 + 1 + 6 < 12 by decide), pick_three hb 0 8 (u := 513) (v := 512) (w := 1) (by decide) (by decide) (by decide) (show 0 + 1 + 8 < 12 by decide), nib_eq, glue_ten]
  rw [num_high hb (k := 12) (v := 4096) rfl (by decide), show ((n.fdiv 65536).fmod 9 * 16 + z) % 16 = z by omega]
  simp only [List.getD_cons_zero, List.getD_cons_succ, Nat.reduceAdd]
theorem fm_len (n : Int) : (fmS n).length = 10 := by
  have h := size_glued (Str.ofString "") (chars n)
  rw [sum_ones chars_len] at h
  have h10 : (chars n).length = 10 := rfl
  have h0 : (Str.ofString "").length = 0 := by decide +kernel
  rw [h10, h0] at h
  exact h
/-- a name's text, as the law makes it -/
noncomputable def nameS (n : Int) : Str := if n.fmod 65536 < 32768 then toldS n else Str.ofString "{u}" ++ toldS n
theorem told_len (n : Int) : (toldS n).length = 10 := by rw [← fm_mode]; exact fm_len _
end Mine

namespace Mine
set_option maxRecDepth 100000
set_option maxHeartbeats 1000000
noncomputable def kindL (i : Nat) : List Nat := (Txt.item (Str.ofString "-?bcdlps") (i : Int)).cps.toList
noncomputable def pieS (i : Nat) : List Nat := (rwS ((i : Int).fdiv 4) ++ xS ((i : Int).fmod 4)).cps.toList
noncomputable def pieT (i : Nat) : List Nat := (rwS ((i : Int).fdiv 4) ++ xT ((i : Int).fmod 4)).cps.toList
theorem mono_kind : Mono 8 kindL := by unfold Mono; decide +kernel
theorem mono_S : Mono 16 pieS := by unfold Mono; decide +kernel
theorem mono_T : Mono 16 pieT := by unfold Mono; decide +kernel
noncomputable def toldL (k : Nat) : List Nat := ((kindL (k / 16 / 16 / 16) ++ pieS (k / 16 / 16 % 16)) ++ pieS (k / 16 % 16)) ++ pieT (k % 16)
theorem mono_told : Mono (8 * 16 * 16 * 16) toldL := ((mono_kind.app mono_S (by decide)).app mono_S (by decide)).app mono_T (by decide)
theorem kind_head : ∀ i, i < 8 → (match kindL i with | [c] => decide (c < 123) | _ => false) = true := by decide +kernel
theorem told_below {k : Nat} (hk : k < 32768) {X : List Nat} : toldL k < 123 :: X := by
  have h := kind_head (k / 16 / 16 / 16) (by omega)
  unfold toldL
  generalize kindL (k / 16 / 16 / 16) = l at *
  match l, h with
  | [c], h =>
    simp only [decide_eq_true_eq] at h
    simp only [List.cons_append, List.nil_append]
    rw [List.cons_lt_cons_iff]
    exact .inl h
noncomputable def nameL (k : Nat) : List Nat := if k < 32768 then toldL k else 123 :: 117 :: 125 :: toldL (k - 32768)
theorem name_lt {a b : Nat} (hb : b < 65536) (h : a < b) : nameL a < nameL b := by
  unfold nameL
  by_cases h1 : a < 32768
  · rw [if_pos h1]
    by_cases h2 : b < 32768
    · rw [if_pos h2]
      exact mono_told.2 _ h1 _ h2 h
    · rw [if_neg h2]
      exact told_below h1
  · rw [if_neg h1, if_neg (by omega)]
    exact app_lt_right (a := [123, 117, 125]) (mono_told.2 _ (by omega) _ (by omega) (by omega))
/-- a digit asks the last places alone -/
theorem dig (n : Int) {a b c : Nat} (ha : 0 < a) (hM : 0 < a * b * c) : (n.fdiv a).fmod b = (((n % ((a * b * c : Nat) : Int)).toNat / a % b : Nat) : Int) := by
  rw [Int.fmod_eq_emod_of_nonneg _ (Int.natCast_nonneg _), Int.fdiv_eq_ediv_of_nonneg _ (Int.natCast_nonneg _)]
  have hr : ((n % ((a * b * c : Nat) : Int)).toNat : Int) = n % ((a * b * c : Nat) : Int) := Int.toNat_of_nonneg (Int.emod_nonneg _ (Int.ne_of_gt (Int.ofNat_lt.mpr hM)))
  have hn : n = n % ((a * b * c : Nat) : Int) + (a : Int) * ((b : Int) * ((c : Int) * (n / ((a * b * c : Nat) : Int)))) := by
    have := Int.emod_add_mul_ediv n ((a * b * c : Nat) : Int)
    rw [Int.natCast_mul, Int.natCast_mul] at this ⊢
    rw [← Int.mul_assoc, ← Int.mul_assoc]
    exact this.symm
  rw [Int.natCast_emod, Int.natCast_ediv, hr]
  conv => lhs; rw [hn]
  rw [Int.add_mul_ediv_left _ _ (Int.ne_of_gt (Int.ofNat_lt.mpr ha)), Int.add_mul_emod_self_left]
theorem told_list (n : Int) : (toldS n).cps.toList = toldL (n % 32768).toNat := by
  have e1 : (n.fdiv 4096).fmod 8 = (((n % 32768).toNat / 16 / 16 / 16 : Nat) : Int) := by
    have h := dig n (a := 4096) (b := 8) (c := 1) (by decide) (by decide)
    have k := Int.emod_lt_of_pos n (b := 32768) (by decide)
    rw [Nat.div_div_eq_div_mul, Nat.div_div_eq_div_mul]
    refine h.trans (congrArg _ (Nat.mod_eq_of_lt ?_))
    show (n % 32768).toNat / 4096 < 8
    omega
  have e2 : fig n 256 = (((n % 32768).toNat / 16 / 16 % 16 : Nat) : Int) := by
    rw [Nat.div_div_eq_div_mul]
    exact dig n (a := 256) (b := 16) (c := 8) (by decide) (by decide)
  have e3 : fig n 16 = (((n % 32768).toNat / 16 % 16 : Nat) : Int) := dig n (a := 16) (b := 16) (c := 128) (by decide) (by decide)
  have e4 : fig n 1 = (((n % 32768).toNat % 16 : Nat) : Int) := by
    have h := dig n (a := 1) (b := 16) (c := 2048) (by decide) (by decide)
    rw [Nat.div_one] at h
    exact h
  unfold toldS kindS
  rw [e1, e2, e3, e4]
  have ap : ∀ a b : Str, (a ++ b).cps.toList = a.cps.toList ++ b.cps.toList := fun a b => by
    show (a.cps ++ b.cps).toList = _
    exact Array.toList_append
  rw [ap, ap, ap]
  rfl
theorem low_yes {r : Int} (h0 : 0 ≤ r) (h : r < 32768) : r.toNat < 32768 ∧ r % 32768 = r := ⟨by omega, Int.emod_eq_of_lt h0 h⟩
theorem low_no {r : Int} (h1 : r < 65536) (h : ¬ r < 32768) : ¬ r.toNat < 32768 ∧ (r % 32768).toNat = r.toNat - 32768 := by
  have e : r % 32768 = r - 32768 := by omega
  rw [e]
  omega
theorem name_list (n : Int) : (nameS n).cps.toList = nameL (n.fmod 65536).toNat := by
  unfold nameS nameL
  have e0 : n.fmod 65536 = n % 65536 := Int.fmod_eq_emod_of_nonneg _ (by decide)
  have e1 : n % 32768 = n % 65536 % 32768 := (Int.emod_emod_of_dvd n (by decide)).symm
  have b0 := Int.emod_nonneg n (b := 65536) (by decide)
  have b1 := Int.emod_lt_of_pos n (b := 65536) (by decide)
  rw [e0]
  by_cases h : n % 65536 < 32768
  · obtain ⟨k1, k2⟩ := low_yes b0 h
    rw [if_pos h, if_pos k1, told_list, e1, k2]
  · obtain ⟨k1, k2⟩ := low_no b1 h
    rw [if_neg h, if_neg k1]
    have e : (Str.ofString "{u}").cps = #[123, 117, 125] := by decide +kernel
    show ((Str.ofString "{u}").cps ++ (toldS n).cps).toList = _
    rw [Array.toList_append, e, told_list, e1, k2]
    rfl
theorem fm_bd (n : Int) : 0 ≤ n.fmod 65536 ∧ n.fmod 65536 < 65536 := by
  rw [Int.fmod_eq_emod_of_nonneg _ (by decide)]; omega
theorem name_iff (n m : Int) : (nameS n).cps.toList < (nameS m).cps.toList ↔ n.fmod 65536 < m.fmod 65536 := by
  have bn := fm_bd n
  have bm := fm_bd m
  rw [name_list, name_list]
  constructor
  · intro h
    rcases Nat.lt_trichotomy (n.fmod 65536).toNat (m.fmod 65536).toNat with c | c | c
    · omega
    · rw [c] at h; exact absurd h (List.lt_irrefl _)
    · exact absurd h (List.lt_asymm (name_lt (by omega) c))
  · intro h
    exact name_lt (by omega) (by omega)
theorem name_eq (n m : Int) : (nameS n == nameS m) = (n.fmod 65536 == m.fmod 65536) := by
  have bn := fm_bd n
  have bm := fm_bd m
  have a := name_iff n m
  have b := name_iff m n
  rw [Bool.eq_iff_iff, beq_iff_eq, beq_iff_eq]
  constructor
  · intro h
    rw [h] at a b
    have i : ¬ n.fmod 65536 < m.fmod 65536 := fun q => List.lt_irrefl (nameS m).cps.toList (a.mpr q)
    have i' : ¬ m.fmod 65536 < n.fmod 65536 := fun q => List.lt_irrefl (nameS m).cps.toList (b.mpr q)
    omega
  · intro h
    have e : (nameS n).cps.toList = (nameS m).cps.toList := by rw [name_list, name_list, h]
    have e' := Array.toList_inj.mp e
    cases hn : nameS n
    cases hm : nameS m
    rw [hn, hm] at e'
    exact congrArg Str.mk e'
end Mine

namespace Mine
set_option maxRecDepth 100000
set_option maxHeartbeats 1000000

theorem truthy_ten {prog : Program} {w : World} {A : Around} {E : Value → Shared → Prop} {s : Shared} {n : Int} {t : Tok} {Q : Bool → Shared → Prop} (h : Q true { s with toks := s.toks + 1 + 1 }) : wpAny (model prog w) A (truthy (.str (fmS n) t)) Q E s :=
  P.truthy_str (by rw [fm_len]; decide) (by rw [fm_len]; exact h)
noncomputable def qdict (w : World) (x : Str) (t t' : Tok) : Obj := dictOf [{ hash := PyData.keyHash w.params (Str.ofString "text"), key := Value.str (Str.ofString "text") t, val := Value.str x t' }] 1
noncomputable def pairObj (q : Addr) (x : Str) (t : Tok) : Obj := { cls := .type "tuple", data := .seq #[.ref q, .str x t] }
/-- what _law_named hands back -/
def NamedPost (w : World) (n : Int) (v : Value) (h h' : Heap) : Prop :=
  ∃ D q d t1 t2 t3, v = .ref D ∧ (h.get? D = none ∧ h'.get? D = some (pairObj q (nameS n) t1)) ∧ (h.get? q = none ∧ h'.get? q = some (instObj 219 d)) ∧ (h.get? d = none ∧ h'.get? d = some (qdict w (nameS n) t2 t3))

theorem named_end {w : World} {n : Int} {g h h' : Heap} {L D q d : Addr} {t1 t2 t3 : Tok} {x y : Str} (KG : Kept g [] h)
    (N : News g L h' [(D, { cls := .type "tuple", data := .seq #[.ref q, .str x t1] }), (q, instObj 219 d), (d, dictOf [{ hash := PyData.keyHash w.params (Str.ofString "text"), key := Value.str (Str.ofString "text") t2, val := Value.str y t3 }] 1)]) (hx : x = nameS n) (hy : y = nameS n) :
    NamedPost w n (.ref D) h h' := by
  subst hx hy
  exact ⟨D, q, d, t1, t2, t3, rfl, Kept.fresh0 KG N (List.mem_cons_self ..), Kept.fresh0 KG N (List.mem_cons_of_mem _ (List.mem_cons_self ..)), Kept.fresh0 KG N (List.mem_cons_of_mem _ (List.mem_cons_of_mem _ (List.mem_cons_self ..)))⟩

theorem hold_truthy {M : Model} {A : Around} {E : Value → Shared → Prop} {s : Shared} {Q : Bool → Shared → Prop} {x : Str} {t : Tok} (h : Hold (wpAny M A (truthy (.str x t)) Q E s)) : wpAny M A (truthy (.str x t)) Q E s := h
set_option maxHeartbeats 4000000 in
theorem c_named {w mean mg mb} (n : Int) (t : Tok)  : Ctr 5 w mean mg mb 244 [] [.int n t] (NamedPost w n) := by
  unfold Ctr
  intro dp un gd cn cs a ccd cl outer A₀ base h₀ L m s Q E B F X N T hk hroom hu hret
  w_on
  refine wpAny_call ?_
  k_dflt (refine' enter ?k1 ?k2 ?k3 ?k4 ?k5 ?kA ?kF ?kK ?k6 ?k7 ?k8 ?k9 ?kB ?_ ?c2 ?c3 ?c4 ?c5; (case kA => exact rfl); (case kF => exact rfl); (case kK => assumption); (case k1 => k_asm); (case k2 => k_asm); (case k3 => k_asm); (case k4 => k_asm); (case k5 => k_asm); (case k6 => k_is); (case k7 => k_is); (case k8 => ktr_room); (case k9 => exact BindsTo.of_eq rfl); (case c5 => decide); (case kB => exact locs rfl); (case c2 => exact rfl); (case c3 => exact rfl); (case c4 => exact rfl); k_whole)
  intro g L₁ h₁ KG F₁ N₁ B₁ X₁ T₁ hlt
  clear F N B X T hlt
  dsimp only
  k_fold
  have hl1 : (fmS (modeZ n)).length = 10 := fm_len _
  have hl2 : (toldS n).length = 10 := told_len n
  repeat' (first | (with_reducible refine hold_ref ?_) | (k_unfold; (try dsimp only)) | (k_end; wrow_close) | walk1 | (dsimp only; walk1) | (leave1; try dsimp only))
  unfold Hold
  k_dflt (refine' Ctr.useV (c_mode _ _) ?k1 ?k2 ?k3 ?k4 ?k5 ?kK ?kd ?ku ?_; (case k1 => k_asm); (case k2 => k_asm); (case k3 => k_asm); (case k4 => k_asm); (case k5 => k_asm); (case kK => exact rfl); (case kd => ktr_room); (case ku => ktr_units))
  intro _ _ _ _ _
  try dsimp only
  try k_sweep
  repeat' (first | (with_reducible refine hold_ref ?_) | (k_unfold; (try dsimp only)) | (k_end; wrow_close) | walk1 | (dsimp only; walk1) | (leave1; try dsimp only))
  unfold Hold
  k_dflt (refine' Ctr.useV (c_fm _ _) ?k1 ?k2 ?k3 ?k4 ?k5 ?kK ?kd ?ku ?_; (case k1 => k_asm); (case k2 => k_asm); (case k3 => k_asm); (case k4 => k_asm); (case k5 => k_asm); (case kK => exact rfl); (case kd => ktr_room); (case ku => ktr_units))
  intro _ _ _ _ _
  try dsimp only
  try k_sweep
  repeat' (first | (with_reducible refine hold_ref ?_) | (k_unfold; (try dsimp only)) | (k_end; wrow_close) | walk1 | (dsimp only; walk1) | (leave1; try dsimp only))
  · unfold Hold
    k_dflt (refine' call_cls ?k1 ?k2 ?k3 ?k4 ?k5 ?k6 ?_; (case k1 => k_asm); (case k2 => k_asm); (case k3 => k_asm); (case k4 => k_is); (case k5 => k_is); (case k6 => k_is); k_whole; intro x' d' h' F' N' l1 l2; (try k_lt l1); (try k_lt2 l2); (try k_sweep); (refine' code_def ?k1 ?k2 ?k3 ?k4 ?k5 ?kA ?kF ?kK ?k6 ?k7 ?k8 ?k9 ?kB ?_ ?c2 ?c3 ?c4 ?c5; (case kA => exact rfl); (case kF => exact rfl); (case kK => exact rfl); (case k1 => k_asm); (case k2 => k_asm); (case k3 => k_asm); (case k4 => k_asm); (case k5 => k_asm); (case k6 => k_is); (case k7 => k_is); (case k8 => ktr_room); (case k9 => first | exact BindsTo.of_eq rfl | exact binds_K (by k_in) rfl (by k_is) rfl rfl rfl); (case c5 => decide); (case kB => exact locs rfl); (case c2 => exact rfl); (case c3 => exact rfl); (case c4 => exact rfl); k_whole; intro g' L' h' FG' F' N' B' X' T'; (try dsimp only); (try k_lift B'); (try k_fold)))
    repeat' (first | (with_reducible refine hold_ref ?_) | (with_reducible refine hold_truthy ?_) | (k_unfold; (try dsimp only)) | (k_end; wrow_close) | walk1 | (dsimp only; walk1) | (leave1; try dsimp only))
    unfold Hold
    k_dflt (refine' Ctr.useV (c_told _ _) ?k1 ?k2 ?k3 ?k4 ?k5 ?kK ?kd ?ku ?_; (case k1 => k_asm); (case k2 => k_asm); (case k3 => k_asm); (case k4 => k_asm); (case k5 => k_asm); (case kK => exact rfl); (case kd => ktr_room); (case ku => ktr_units))
    intro _ _ _ _ _
    try dsimp only
    try k_sweep
    repeat' (first | (k_unfold; (try dsimp only)) | (k_end; wrow_close) | walk1 | (dsimp only; walk1) | (leave1; try dsimp only))
    rename News _ _ _ _ => Nz
    rename Fr _ _ _ _ => Fz
    refine hret _ _ _ (Kept.out0 KG Fz) (named_end KG Nz ?_ ?_)
    · exact (if_pos (by assumption)).symm
    · rw [fm_mode]; exact (if_pos (by assumption)).symm
  · unfold Hold
    k_dflt (refine' call_cls ?k1 ?k2 ?k3 ?k4 ?k5 ?k6 ?_; (case k1 => k_asm); (case k2 => k_asm); (case k3 => k_asm); (case k4 => k_is); (case k5 => k_is); (case k6 => k_is); k_whole; intro x' d' h' F' N' l1 l2; (try k_lt l1); (try k_lt2 l2); (try k_sweep); (refine' code_def ?k1 ?k2 ?k3 ?k4 ?k5 ?kA ?kF ?kK ?k6 ?k7 ?k8 ?k9 ?kB ?_ ?c2 ?c3 ?c4 ?c5; (case kA => exact rfl); (case kF => exact rfl); (case kK => exact rfl); (case k1 => k_asm); (case k2 => k_asm); (case k3 => k_asm); (case k4 => k_asm); (case k5 => k_asm); (case k6 => k_is); (case k7 => k_is); (case k8 => ktr_room); (case k9 => first | exact BindsTo.of_eq rfl | exact binds_K (by k_in) rfl (by k_is) rfl rfl rfl); (case c5 => decide); (case kB => exact locs rfl); (case c2 => exact rfl); (case c3 => exact rfl); (case c4 => exact rfl); k_whole; intro g' L' h' FG' F' N' B' X' T'; (try dsimp only); (try k_lift B'); (try k_fold)))
    repeat' (first | (with_reducible refine hold_ref ?_) | (with_reducible refine hold_truthy ?_) | (k_unfold; (try dsimp only)) | (k_end; wrow_close) | walk1 | (dsimp only; walk1) | (leave1; try dsimp only))
    unfold Hold
    refine truthy_ten ?_
    try dsimp only
    repeat' (first | (with_reducible refine hold_ref ?_) | (k_unfold; (try dsimp only)) | (k_end; wrow_close) | walk1 | (dsimp only; walk1) | (leave1; try dsimp only))
    unfold Hold
    k_dflt (refine' Ctr.useV (c_told _ _) ?k1 ?k2 ?k3 ?k4 ?k5 ?kK ?kd ?ku ?_; (case k1 => k_asm); (case k2 => k_asm); (case k3 => k_asm); (case k4 => k_asm); (case k5 => k_asm); (case kK => exact rfl); (case kd => ktr_room); (case ku => ktr_units))
    intro _ _ _ _ _
    try dsimp only
    try k_sweep
    repeat' (first | (k_unfold; (try dsimp only)) | (k_end; wrow_close) | walk1 | (dsimp only; walk1) | (leave1; try dsimp only))
    rename News _ _ _ _ => Nz
    rename Fr _ _ _ _ => Fz
    refine hret _ _ _ (Kept.out0 KG Fz) (named_end KG Nz ?_ ?_)
    · exact (if_neg (by omega)).symm
    · rw [fm_mode]; exact (if_neg (by omega)).symm
end Mine

namespace Mine
set_option maxRecDepth 100000
set_option maxHeartbeats 1000000

theorem m_lt_q {w mean mg mb} {q d q2 d2 : Addr} {x y : Str} {t1 t2 t3 t4 : Tok} : Ctr 2 w mean mg mb 195 [(q, instObj 219 d), (d, qdict w x t1 t2), (q2, instObj 219 d2), (d2, qdict w y t3 t4)] [.ref q, .ref q2] (fun v _ _ => v = .bool (decide (x.cps.toList < y.cps.toList))) := by
  unfold Ctr qdict
  intro dp un gd cn cs a ccd cl outer A₀ base h₀ L m s Q E B F X N T hk hroom hu hret
  w_on
  refine wpAny_call ?_
  k_dflt (refine' enter ?k1 ?k2 ?k3 ?k4 ?k5 ?kA ?kF ?kK ?k6 ?k7 ?k8 ?k9 ?kB ?_ ?c2 ?c3 ?c4 ?c5; (case kA => exact rfl); (case kF => exact rfl); (case kK => assumption); (case k1 => k_asm); (case k2 => k_asm); (case k3 => k_asm); (case k4 => k_asm); (case k5 => k_asm); (case k6 => k_is); (case k7 => k_is); (case k8 => ktr_room); (case k9 => exact BindsTo.of_eq rfl); (case c5 => decide); (case kB => exact locs rfl); (case c2 => exact rfl); (case c3 => exact rfl); (case c4 => exact rfl); k_whole)
  intro g L₁ h₁ KG F₁ N₁ B₁ X₁ T₁ hlt
  clear F N B X T hlt
  dsimp only
  k_fold
  repeat' (first | (k_unfold; (try dsimp only)) | (k_end; wrow_close) | walk1 | (dsimp only; walk1) | (leave1; try dsimp only))
  all_goals ((try dsimp only); (try k_unfold); (try dsimp only))
  rename News _ _ _ _ => Nz
  rename Fr _ _ _ _ => Fz
  exact hret _ _ _ (Kept.out KG Fz Nz fun _ h => h) rfl
theorem m_lt_s {w mean mg mb} {q d : Addr} {x y : Str} {t1 t2 t4 : Tok} : Ctr 2 w mean mg mb 195 [(q, instObj 219 d), (d, qdict w x t1 t2)] [.ref q, .str y t4] (fun v _ _ => v = .bool (decide (x.cps.toList < y.cps.toList))) := by
  unfold Ctr qdict
  intro dp un gd cn cs a ccd cl outer A₀ base h₀ L m s Q E B F X N T hk hroom hu hret
  w_on
  refine wpAny_call ?_
  k_dflt (refine' enter ?k1 ?k2 ?k3 ?k4 ?k5 ?kA ?kF ?kK ?k6 ?k7 ?k8 ?k9 ?kB ?_ ?c2 ?c3 ?c4 ?c5; (case kA => exact rfl); (case kF => exact rfl); (case kK => assumption); (case k1 => k_asm); (case k2 => k_asm); (case k3 => k_asm); (case k4 => k_asm); (case k5 => k_asm); (case k6 => k_is); (case k7 => k_is); (case k8 => ktr_room); (case k9 => exact BindsTo.of_eq rfl); (case c5 => decide); (case kB => exact locs rfl); (case c2 => exact rfl); (case c3 => exact rfl); (case c4 => exact rfl); k_whole)
  intro g L₁ h₁ KG F₁ N₁ B₁ X₁ T₁ hlt
  clear F N B X T hlt
  dsimp only
  k_fold
  repeat' (first | (k_unfold; (try dsimp only)) | (k_end; wrow_close) | walk1 | (dsimp only; walk1) | (leave1; try dsimp only))
  all_goals ((try dsimp only); (try k_unfold); (try dsimp only))
  rename News _ _ _ _ => Nz
  rename Fr _ _ _ _ => Fz
  exact hret _ _ _ (Kept.out KG Fz Nz fun _ h => h) rfl
theorem m_le_q {w mean mg mb} {q d q2 d2 : Addr} {x y : Str} {t1 t2 t3 t4 : Tok} : Ctr 2 w mean mg mb 188 [(q, instObj 219 d), (d, qdict w x t1 t2), (q2, instObj 219 d2), (d2, qdict w y t3 t4)] [.ref q, .ref q2] (fun v _ _ => v = .bool (!decide (y.cps.toList < x.cps.toList))) := by
  unfold Ctr qdict
  intro dp un gd cn cs a ccd cl outer A₀ base h₀ L m s Q E B F X N T hk hroom hu hret
  w_on
  refine wpAny_call ?_
  k_dflt (refine' enter ?k1 ?k2 ?k3 ?k4 ?k5 ?kA ?kF ?kK ?k6 ?k7 ?k8 ?k9 ?kB ?_ ?c2 ?c3 ?c4 ?c5; (case kA => exact rfl); (case kF => exact rfl); (case kK => assumption); (case k1 => k_asm); (case k2 => k_asm); (case k3 => k_asm); (case k4 => k_asm); (case k5 => k_asm); (case k6 => k_is); (case k7 => k_is); (case k8 => ktr_room); (case k9 => exact BindsTo.of_eq rfl); (case c5 => decide); (case kB => exact locs rfl); (case c2 => exact rfl); (case c3 => exact rfl); (case c4 => exact rfl); k_whole)
  intro g L₁ h₁ KG F₁ N₁ B₁ X₁ T₁ hlt
  clear F N B X T hlt
  dsimp only
  k_fold
  repeat' (first | (k_unfold; (try dsimp only)) | (k_end; wrow_close) | walk1 | (dsimp only; walk1) | (leave1; try dsimp only))
  all_goals ((try dsimp only); (try k_unfold); (try dsimp only))
  rename News _ _ _ _ => Nz
  rename Fr _ _ _ _ => Fz
  exact hret _ _ _ (Kept.out KG Fz Nz fun _ h => h) rfl
theorem m_le_s {w mean mg mb} {q d : Addr} {x y : Str} {t1 t2 t4 : Tok} : Ctr 2 w mean mg mb 188 [(q, instObj 219 d), (d, qdict w x t1 t2)] [.ref q, .str y t4] (fun v _ _ => v = .bool (!decide (y.cps.toList < x.cps.toList))) := by
  unfold Ctr qdict
  intro dp un gd cn cs a ccd cl outer A₀ base h₀ L m s Q E B F X N T hk hroom hu hret
  w_on
  refine wpAny_call ?_
  k_dflt (refine' enter ?k1 ?k2 ?k3 ?k4 ?k5 ?kA ?kF ?kK ?k6 ?k7 ?k8 ?k9 ?kB ?_ ?c2 ?c3 ?c4 ?c5; (case kA => exact rfl); (case kF => exact rfl); (case kK => assumption); (case k1 => k_asm); (case k2 => k_asm); (case k3 => k_asm); (case k4 => k_asm); (case k5 => k_asm); (case k6 => k_is); (case k7 => k_is); (case k8 => ktr_room); (case k9 => exact BindsTo.of_eq rfl); (case c5 => decide); (case kB => exact locs rfl); (case c2 => exact rfl); (case c3 => exact rfl); (case c4 => exact rfl); k_whole)
  intro g L₁ h₁ KG F₁ N₁ B₁ X₁ T₁ hlt
  clear F N B X T hlt
  dsimp only
  k_fold
  repeat' (first | (k_unfold; (try dsimp only)) | (k_end; wrow_close) | walk1 | (dsimp only; walk1) | (leave1; try dsimp only))
  all_goals ((try dsimp only); (try k_unfold); (try dsimp only))
  rename News _ _ _ _ => Nz
  rename Fr _ _ _ _ => Fz
  exact hret _ _ _ (Kept.out KG Fz Nz fun _ h => h) rfl
theorem m_gt_q {w mean mg mb} {q d q2 d2 : Addr} {x y : Str} {t1 t2 t3 t4 : Tok} : Ctr 2 w mean mg mb 209 [(q, instObj 219 d), (d, qdict w x t1 t2), (q2, instObj 219 d2), (d2, qdict w y t3 t4)] [.ref q, .ref q2] (fun v _ _ => v = .bool (decide (y.cps.toList < x.cps.toList))) := by
  unfold Ctr qdict
  intro dp un gd cn cs a ccd cl outer A₀ base h₀ L m s Q E B F X N T hk hroom hu hret
  w_on
  refine wpAny_call ?_
  k_dflt (refine' enter ?k1 ?k2 ?k3 ?k4 ?k5 ?kA ?kF ?kK ?k6 ?k7 ?k8 ?k9 ?kB ?_ ?c2 ?c3 ?c4 ?c5; (case kA => exact rfl); (case kF => exact rfl); (case kK => assumption); (case k1 => k_asm); (case k2 => k_asm); (case k3 => k_asm); (case k4 => k_asm); (case k5 => k_asm); (case k6 => k_is); (case k7 => k_is); (case k8 => ktr_room); (case k9 => exact BindsTo.of_eq rfl); (case c5 => decide); (case kB => exact locs rfl); (case c2 => exact rfl); (case c3 => exact rfl); (case c4 => exact rfl); k_whole)
  intro g L₁ h₁ KG F₁ N₁ B₁ X₁ T₁ hlt
  clear F N B X T hlt
  dsimp only
  k_fold
  repeat' (first | (k_unfold; (try dsimp only)) | (k_end; wrow_close) | walk1 | (dsimp only; walk1) | (leave1; try dsimp only))
  all_goals ((try dsimp only); (try k_unfold); (try dsimp only))
  rename News _ _ _ _ => Nz
  rename Fr _ _ _ _ => Fz
  exact hret _ _ _ (Kept.out KG Fz Nz fun _ h => h) rfl
theorem m_gt_s {w mean mg mb} {q d : Addr} {x y : Str} {t1 t2 t4 : Tok} : Ctr 2 w mean mg mb 209 [(q, instObj 219 d), (d, qdict w x t1 t2)] [.ref q, .str y t4] (fun v _ _ => v = .bool (decide (y.cps.toList < x.cps.toList))) := by
  unfold Ctr qdict
  intro dp un gd cn cs a ccd cl outer A₀ base h₀ L m s Q E B F X N T hk hroom hu hret
  w_on
  refine wpAny_call ?_
  k_dflt (refine' enter ?k1 ?k2 ?k3 ?k4 ?k5 ?kA ?kF ?kK ?k6 ?k7 ?k8 ?k9 ?kB ?_ ?c2 ?c3 ?c4 ?c5; (case kA => exact rfl); (case kF => exact rfl); (case kK => assumption); (case k1 => k_asm); (case k2 => k_asm); (case k3 => k_asm); (case k4 => k_asm); (case k5 => k_asm); (case k6 => k_is); (case k7 => k_is); (case k8 => ktr_room); (case k9 => exact BindsTo.of_eq rfl); (case c5 => decide); (case kB => exact locs rfl); (case c2 => exact rfl); (case c3 => exact rfl); (case c4 => exact rfl); k_whole)
  intro g L₁ h₁ KG F₁ N₁ B₁ X₁ T₁ hlt
  clear F N B X T hlt
  dsimp only
  k_fold
  repeat' (first | (k_unfold; (try dsimp only)) | (k_end; wrow_close) | walk1 | (dsimp only; walk1) | (leave1; try dsimp only))
  all_goals ((try dsimp only); (try k_unfold); (try dsimp only))
  rename News _ _ _ _ => Nz
  rename Fr _ _ _ _ => Fz
  exact hret _ _ _ (Kept.out KG Fz Nz fun _ h => h) rfl
theorem m_ge_q {w mean mg mb} {q d q2 d2 : Addr} {x y : Str} {t1 t2 t3 t4 : Tok} : Ctr 2 w mean mg mb 202 [(q, instObj 219 d), (d, qdict w x t1 t2), (q2, instObj 219 d2), (d2, qdict w y t3 t4)] [.ref q, .ref q2] (fun v _ _ => v = .bool (!decide (x.cps.toList < y.cps.toList))) := by
  unfold Ctr qdict
  intro dp un gd cn cs a ccd cl outer A₀ base h₀ L m s Q E B F X N T hk hroom hu hret
  w_on
  refine wpAny_call ?_
  k_dflt (refine' enter ?k1 ?k2 ?k3 ?k4 ?k5 ?kA ?kF ?kK ?k6 ?k7 ?k8 ?k9 ?kB ?_ ?c2 ?c3 ?c4 ?c5; (case kA => exact rfl); (case kF => exact rfl); (case kK => assumption); (case k1 => k_asm); (case k2 => k_asm); (case k3 => k_asm); (case k4 => k_asm); (case k5 => k_asm); (case k6 => k_is); (case k7 => k_is); (case k8 => ktr_room); (case k9 => exact BindsTo.of_eq rfl); (case c5 => decide); (case kB => exact locs rfl); (case c2 => exact rfl); (case c3 => exact rfl); (case c4 => exact rfl); k_whole)
  intro g L₁ h₁ KG F₁ N₁ B₁ X₁ T₁ hlt
  clear F N B X T hlt
  dsimp only
  k_fold
  repeat' (first | (k_unfold; (try dsimp only)) | (k_end; wrow_close) | walk1 | (dsimp only; walk1) | (leave1; try dsimp only))
  all_goals ((try dsimp only); (try k_unfold); (try dsimp only))
  rename News _ _ _ _ => Nz
  rename Fr _ _ _ _ => Fz
  exact hret _ _ _ (Kept.out KG Fz Nz fun _ h => h) rfl
theorem m_ge_s {w mean mg mb} {q d : Addr} {x y : Str} {t1 t2 t4 : Tok} : Ctr 2 w mean mg mb 202 [(q, instObj 219 d), (d, qdict w x t1 t2)] [.ref q, .str y t4] (fun v _ _ => v = .bool (!decide (x.cps.toList < y.cps.toList))) := by
  unfold Ctr qdict
  intro dp un gd cn cs a ccd cl outer A₀ base h₀ L m s Q E B F X N T hk hroom hu hret
  w_on
  refine wpAny_call ?_
  k_dflt (refine' enter ?k1 ?k2 ?k3 ?k4 ?k5 ?kA ?kF ?kK ?k6 ?k7 ?k8 ?k9 ?kB ?_ ?c2 ?c3 ?c4 ?c5; (case kA => exact rfl); (case kF => exact rfl); (case kK => assumption); (case k1 => k_asm); (case k2 => k_asm); (case k3 => k_asm); (case k4 => k_asm); (case k5 => k_asm); (case k6 => k_is); (case k7 => k_is); (case k8 => ktr_room); (case k9 => exact BindsTo.of_eq rfl); (case c5 => decide); (case kB => exact locs rfl); (case c2 => exact rfl); (case c3 => exact rfl); (case c4 => exact rfl); k_whole)
  intro g L₁ h₁ KG F₁ N₁ B₁ X₁ T₁ hlt
  clear F N B X T hlt
  dsimp only
  k_fold
  repeat' (first | (k_unfold; (try dsimp only)) | (k_end; wrow_close) | walk1 | (dsimp only; walk1) | (leave1; try dsimp only))
  all_goals ((try dsimp only); (try k_unfold); (try dsimp only))
  rename News _ _ _ _ => Nz
  rename Fr _ _ _ _ => Fz
  exact hret _ _ _ (Kept.out KG Fz Nz fun _ h => h) rfl
theorem m_eq_q {w mean mg mb} {q d q2 d2 : Addr} {x y : Str} {t1 t2 t3 t4 : Tok} : Ctr 2 w mean mg mb 216 [(q, instObj 219 d), (d, qdict w x t1 t2), (q2, instObj 219 d2), (d2, qdict w y t3 t4)] [.ref q, .ref q2] (fun v _ _ => v = .bool (x == y)) := by
  unfold Ctr qdict
  intro dp un gd cn cs a ccd cl outer A₀ base h₀ L m s Q E B F X N T hk hroom hu hret
  w_on
  refine wpAny_call ?_
  k_dflt (refine' enter ?k1 ?k2 ?k3 ?k4 ?k5 ?kA ?kF ?kK ?k6 ?k7 ?k8 ?k9 ?kB ?_ ?c2 ?c3 ?c4 ?c5; (case kA => exact rfl); (case kF => exact rfl); (case kK => assumption); (case k1 => k_asm); (case k2 => k_asm); (case k3 => k_asm); (case k4 => k_asm); (case k5 => k_asm); (case k6 => k_is); (case k7 => k_is); (case k8 => ktr_room); (case k9 => exact BindsTo.of_eq rfl); (case c5 => decide); (case kB => exact locs rfl); (case c2 => exact rfl); (case c3 => exact rfl); (case c4 => exact rfl); k_whole)
  intro g L₁ h₁ KG F₁ N₁ B₁ X₁ T₁ hlt
  clear F N B X T hlt
  dsimp only
  k_fold
  repeat' (first | (k_unfold; (try dsimp only)) | (k_end; wrow_close) | walk1 | (dsimp only; walk1) | (leave1; try dsimp only))
  all_goals ((try dsimp only); (try k_unfold); (try dsimp only))
  rename News _ _ _ _ => Nz
  rename Fr _ _ _ _ => Fz
  exact hret _ _ _ (Kept.out KG Fz Nz fun _ h => h) rfl
theorem m_eq_s {w mean mg mb} {q d : Addr} {x y : Str} {t1 t2 t4 : Tok} : Ctr 2 w mean mg mb 216 [(q, instObj 219 d), (d, qdict w x t1 t2)] [.ref q, .str y t4] (fun v _ _ => v = .bool (x == y)) := by
  unfold Ctr qdict
  intro dp un gd cn cs a ccd cl outer A₀ base h₀ L m s Q E B F X N T hk hroom hu hret
  w_on
  refine wpAny_call ?_
  k_dflt (refine' enter ?k1 ?k2 ?k3 ?k4 ?k5 ?kA ?kF ?kK ?k6 ?k7 ?k8 ?k9 ?kB ?_ ?c2 ?c3 ?c4 ?c5; (case kA => exact rfl); (case kF => exact rfl); (case kK => assumption); (case k1 => k_asm); (case k2 => k_asm); (case k3 => k_asm); (case k4 => k_asm); (case k5 => k_asm); (case k6 => k_is); (case k7 => k_is); (case k8 => ktr_room); (case k9 => exact BindsTo.of_eq rfl); (case c5 => decide); (case kB => exact locs rfl); (case c2 => exact rfl); (case c3 => exact rfl); (case c4 => exact rfl); k_whole)
  intro g L₁ h₁ KG F₁ N₁ B₁ X₁ T₁ hlt
  clear F N B X T hlt
  dsimp only
  k_fold
  repeat' (first | (k_unfold; (try dsimp only)) | (k_end; wrow_close) | walk1 | (dsimp only; walk1) | (leave1; try dsimp only))
  all_goals ((try dsimp only); (try k_unfold); (try dsimp only))
  rename News _ _ _ _ => Nz
  rename Fr _ _ _ _ => Fz
  exact hret _ _ _ (Kept.out KG Fz Nz fun _ h => h) rfl
end Mine

namespace Mine
set_option maxRecDepth 100000
set_option maxHeartbeats 1000000

theorem bind_ne (self : Value) : bindSpecial (.builtin "object.__ne__") self = pure (.builtin "object.__ne__", [self]) := PySem.F.slot_tuple_iterator_ne.bind self

section
variable {prog : Program} {w : World} {A A₀ : Around} {E : Value → Shared → Prop} {s : Shared} {K : Frag} {x C L f : Addr} {h₀ : Heap} {m : Str → Option Value} {ox : Obj} {od : Option Obj} {b tb : Value}
theorem ifBound_ne {M : Model} {args : List Value} {Q : Option Value → Shared → Prop} (X : K.In s.heap) (I : InstAt s.heap x ox C od) (hs : findIn K (.ref C) "__ne__" = some (some (.builtin "object.__ne__")))
    (h : wpAny M A (call (.builtin "object.__ne__") (.ref x :: args)) (fun v => Q (some v)) E s) : wpAny M A (callSpecialIfBound? (.ref x) "__ne__" args) Q E s := by
  have sp : Looks M s.heap (specialOf (.ref x) "__ne__") (some (.builtin "object.__ne__")) := I.type.andThen (looks_findIn X hs)
  unfold callSpecialIfBound? bindSpecialIfBound?
  refine wpAny_holding (wpAny_bind (wpAny_bind (sp.here ?_)))
  dsimp only
  rw [bind_ne]
  refine wpAny_bind (wpAny_askSetting ?_)
  cases M.w.params.followText "special-get-raises"
  all_goals
    simp only [Bool.false_eq_true, if_false, if_true]
    first | refine wpAny_tryCatch ?_ | skip
    exact wpAny_bind (wpAny_pure (wpAny_pure (wpAny_bind (wpAny_mono h (fun _ _ q => wpAny_pure q) fun _ _ q => q))))

/-- the built-in != by the class's own == -/
theorem objNe_own {Q : Fin → Shared → Prop} (hu : A.units < cLine) (X : K.In s.heap) (I : InstAt s.heap x ox C od) (he : findIn K (.ref C) "__eq__" = some (some (.ref f))) (hf : isFn K (.ref f) = true)
    (hcall : wpAny (model prog w) A (call (.ref f) [.ref x, b]) (fun v s' => ∃ c, v = .bool c ∧ Q (.done (.ret (.bool (!c)))) s') E s) :
    wpAny (model prog w) A (Builtin.«object.__ne__» ⟨[.ref x, b], []⟩) Q E s := by
  show wpAny (model prog w) A (cRoomFor "comparison" [.ref x, b] >>= _) Q E s
  refine wpAny_bind (wpAny_cRoomFor hu (wpAny_bind (ifBound_K X I he hf (wpAny_mono hcall (fun v s' hv => ?_) fun _ _ q => q))))
  obtain ⟨c, rfl, hq⟩ := hv
  exact wpAny_bind (wpAny_truthy_bool (wpAny_pure hq))

/-- a choice of two read-only trees that both tell False -/
theorem no_reflect {M : Model} {α : Type} {c : Prop} [Decidable c] {t u : Sem Bool} {k : Bool → Sem α} {Q : α → Shared → Prop} (ht : c → Looks M s.heap t false) (hu : ¬ c → Looks M s.heap u false) (h : wpAny M A (k false) Q E s) :
    wpAny M A (if c then t >>= k else u >>= k) Q E s := by
  by_cases q : c
  · rw [if_pos q]; exact wpAny_bind ((ht q).here h)
  · rw [if_neg q]; exact wpAny_bind ((hu q).here h)
theorem ne_K {Q : Value → Shared → Prop} (hu : A.units + 1 < cLine) (F : Fr h₀ L s.heap m) (X₀ : K.In h₀) (I : InstAt s.heap x ox C od) (hb : Looks (model prog w) s.heap (typeOf b) tb) (hn : notFirst K C tb = true)
    (hs : findIn K (.ref C) "__ne__" = some (some (.builtin "object.__ne__"))) (he : findIn K (.ref C) "__eq__" = some (some (.ref f))) (hf : isFn K (.ref f) = true) (hm : mroIn K C (.type "object") = some true)
    (h : wpAny (model prog w) A.in1 (call (.ref f) [.ref x, b]) (fun v s' => ∃ c, v = .bool c ∧ Q (.bool (!c)) s') E s) : wpAny (model prog w) A (richCompare .NotEq (.ref x) b) Q E s := by
  have X := X₀.keeps F.keep
  unfold richCompare
  simp only [oneThing_ref]
  refine wpAny_holding (wpAny_bind (wpAny_cRoomFor (Nat.lt_of_succ_lt hu) (wpAny_bind (I.type.here (wpAny_bind (hb.here (no_reflect (fun q => looks_subIn X ?sub) (fun _ => Looks.of_pure rfl) ?_)))))))
  case sub =>
    simp only [notFirst, Bool.or_eq_true, beq_iff_eq] at hn
    exact hn.resolve_left fun e => by simp [e] at q
  unfold tryCompare
  refine wpAny_bind (wpAny_bind (ifBound_ne X I hs (wpAny_call (codeAny_call_builtin (by decide +kernel) PySem.F.cmpEntry_ne (check_slot PySem.F.cmpKind_ne PySem.F.cmpSplit_ne (I.type.andThen (looks_mroIn X hm)) (PySem.F.cmpArgs_ne _ _) (objNe_own (A := A.in1) hu X I he hf (wpAny_mono h (fun v s' hv => ?_) fun _ _ q => q)))))))
  obtain ⟨c, rfl, hq⟩ := hv
  exact ⟨c, rfl, wpAny_pure (wpAny_pure hq)⟩
end
end Mine

namespace Mine
set_option maxRecDepth 100000
set_option maxHeartbeats 1000000

/-- what stands beside a name: a value whose comparisons with the name are told -/
structure Oth (w : World) (mean : ExcName → Option Value) (mg mb : Str → Option Value) (news : List (Addr × Obj)) (q : Addr) (o tb : Value) (blt ble bgt bge beq : Bool) : Prop where
  lt : Ctr 2 w mean mg mb 195 news [.ref q, o] (fun v _ _ => v = .bool blt)
  le : Ctr 2 w mean mg mb 188 news [.ref q, o] (fun v _ _ => v = .bool ble)
  gt : Ctr 2 w mean mg mb 209 news [.ref q, o] (fun v _ _ => v = .bool bgt)
  ge : Ctr 2 w mean mg mb 202 news [.ref q, o] (fun v _ _ => v = .bool bge)
  eq : Ctr 2 w mean mg mb 216 news [.ref q, o] (fun v _ _ => v = .bool beq)
  ty : ∀ (M : Model) (h₀ : Heap) (L : Addr) (h : Heap), News h₀ L h news → Looks M h (typeOf o) tb
  nf : notFirst (hd.heap_39 w.params) 219 tb = true

section
variable {k : Nat} {w : World} {mean : ExcName → Option Value} {mg mb : Str → Option Value} {f : Addr} {news news₀ : List (Addr × Obj)} {vs : List Value} {b : Bool}
  {dp un : Nat} {gd : Option (List Code)} {cn : Str} {cs : Scope} {a : Addr} {ccd : Value} {cl : List (Str × Addr)} {outer : List Env} {A₀ : Around} {base h₀ : Heap} {L : Addr} {m : Str → Option Value} {s : Shared} {Q E : Value → Shared → Prop}
theorem Ctr.useB (C : Ctr k w mean mg mb f news₀ vs (fun v _ _ => v = .bool b)) (B : Below A₀ base outer h₀) (F : Fr h₀ L s.heap m) (X : (hd.heap_39 w.params).In h₀) (N : News h₀ L s.heap news) (T : Top hd.view_39 (looseW hd.view_39 [Str.ofString "_filemode_table"]) mean mg mb h₀)
    (hk : cs.kind = .function) (hd : dp + k < recursionLimit) (hu : un + 20 * k < cLine) (hs : ∀ p ∈ news₀, p ∈ news)
    (ret : ∀ h' tk', Fr h₀ L h' m → News h₀ L h' news → Q (.bool b) { s with heap := h', toks := tk' }) :
    wpAny (model PySem.Challenge.rw_op0109_01.row.prog w) (ktrTop dp un gd cn cs L a ccd cl outer) (call (.ref f) vs) Q E s :=
  C.use B F X N T hk hd hu hs fun v h' tk' _ F' N' e => e ▸ ret h' tk' F' N'
variable {q d : Addr} {ox : List DictEntry} {nx : Nat} {o tb : Value} {blt ble bgt bge beq : Bool} {rest : List (Addr × Obj)}
theorem q_eq (H : Oth w mean mg mb ((q, instObj 219 d) :: (d, dictOf ox nx) :: rest) q o tb blt ble bgt bge beq) (B : Below A₀ base outer h₀) (F : Fr h₀ L s.heap m) (X : (hd.heap_39 w.params).In h₀) (N : News h₀ L s.heap ((q, instObj 219 d) :: (d, dictOf ox nx) :: rest)) (T : Top hd.view_39 (looseW hd.view_39 [Str.ofString "_filemode_table"]) mean mg mb h₀)
    (hk : cs.kind = .function) (hd : dp + 2 < recursionLimit) (hu : un + 60 < cLine)
    (ret : ∀ h' tk', Fr h₀ L h' m → News h₀ L h' ((q, instObj 219 d) :: (d, dictOf ox nx) :: rest) → Q (.bool beq) { s with heap := h', toks := tk' }) :
    wpAny (model PySem.Challenge.rw_op0109_01.row.prog w) (ktrTop dp un gd cn cs L a ccd cl outer) (compareOp .Eq (.ref q) o) Q E s :=
  cmp_ofEq (cmp_K (f := 216) (Nat.lt_of_le_of_lt (Nat.le_add_right un 60) hu) F X (InstAt.of_news N (List.mem_cons_self ..) (List.mem_cons_of_mem _ (List.mem_cons_self ..))) (H.ty _ _ _ _ N) H.nf (by k_is) (by k_is)
    (H.eq.useB B F X N T hk hd (by omega) (fun _ h => h) fun h' tk' F' N' => ret h' tk' F' N'))
theorem q_ne (H : Oth w mean mg mb ((q, instObj 219 d) :: (d, dictOf ox nx) :: rest) q o tb blt ble bgt bge beq) (B : Below A₀ base outer h₀) (F : Fr h₀ L s.heap m) (X : (hd.heap_39 w.params).In h₀) (N : News h₀ L s.heap ((q, instObj 219 d) :: (d, dictOf ox nx) :: rest)) (T : Top hd.view_39 (looseW hd.view_39 [Str.ofString "_filemode_table"]) mean mg mb h₀)
    (hk : cs.kind = .function) (hd : dp + 2 < recursionLimit) (hu : un + 60 < cLine)
    (ret : ∀ h' tk', Fr h₀ L h' m → News h₀ L h' ((q, instObj 219 d) :: (d, dictOf ox nx) :: rest) → Q (.bool (!beq)) { s with heap := h', toks := tk' }) :
    wpAny (model PySem.Challenge.rw_op0109_01.row.prog w) (ktrTop dp un gd cn cs L a ccd cl outer) (compareOp .NotEq (.ref q) o) Q E s :=
  cmp_ofNotEq (ne_K (f := 216) (Nat.lt_of_le_of_lt (Nat.add_le_add_left (by decide) un) hu) F X (InstAt.of_news N (List.mem_cons_self ..) (List.mem_cons_of_mem _ (List.mem_cons_self ..))) (H.ty _ _ _ _ N) H.nf (by k_is) (by k_is) (by k_is) (by k_is)
    (H.eq.useB (un := un + 1) B F X N T hk hd (by omega) (fun _ h => h) fun h' tk' F' N' => ⟨_, rfl, ret h' tk' F' N'⟩))
end

section
variable {M : Model} {A : Around} {E : Value → Shared → Prop} {s : Shared} {Q : Value → Shared → Prop}
theorem is_bool_ni {b : Bool} (h : Q (.bool false) s) : wpAny M A (compareOp .Is (.bool b) .notImplemented) Q E s := wpAny_pure h
theorem is_ni_ni (h : Q (.bool true) s) : wpAny M A (compareOp .Is .notImplemented .notImplemented) Q E s := wpAny_pure h
theorem isNot_ni_ni (h : Q (.bool false) s) : wpAny M A (compareOp .IsNot .notImplemented .notImplemented) Q E s := wpAny_pure h
end
section
variable {M : Model} {A : Around} {E : Value → Shared → Prop} {s : Shared} {Q : Value → Shared → Prop} {a b : Value} {q : Addr}
theorem hold_is (h : Hold (wpAny M A (compareOp .Is a b) Q E s)) : wpAny M A (compareOp .Is a b) Q E s := h
theorem hold_eq (h : Hold (wpAny M A (compareOp .Eq (.ref q) b) Q E s)) : wpAny M A (compareOp .Eq (.ref q) b) Q E s := h
theorem hold_ne (h : Hold (wpAny M A (compareOp .NotEq (.ref q) b) Q E s)) : wpAny M A (compareOp .NotEq (.ref q) b) Q E s := h
end

theorem f_gt_lt {w mean mg mb} {q d : Addr} {ox : List DictEntry} {nx : Nat} {o tb : Value} {blt ble bgt bge beq : Bool} {rest : List (Addr × Obj)} (H : Oth w mean mg mb ((q, instObj 219 d) :: (d, dictOf ox nx) :: rest) q o tb blt ble bgt bge beq) :
    Ctr 4 w mean mg mb 68 ((q, instObj 219 d) :: (d, dictOf ox nx) :: rest) [.ref q, o] (fun v _ _ => v = .bool (!blt && !beq)) := by
  unfold Ctr
  intro dp un gd cn cs a ccd cl outer A₀ base h₀ L m s Q E B F X N T hk hroom hu hret
  w_on
  refine wpAny_call ?_
  k_dflt (refine' enter ?k1 ?k2 ?k3 ?k4 ?k5 ?kA ?kF ?kK ?k6 ?k7 ?k8 ?k9 ?kB ?_ ?c2 ?c3 ?c4 ?c5; (case kA => exact rfl); (case kF => exact rfl); (case kK => assumption); (case k1 => k_asm); (case k2 => k_asm); (case k3 => k_asm); (case k4 => k_asm); (case k5 => k_asm); (case k6 => k_is); (case k7 => k_is); (case k8 => ktr_room); (case k9 => exact BindsTo.of_eq rfl); (case c5 => decide); (case kB => exact locs rfl); (case c2 => exact rfl); (case c3 => exact rfl); (case c4 => exact rfl); k_whole)
  intro g L₁ h₁ KG F₁ N₁ B₁ X₁ T₁ hlt
  clear F N B X T hlt
  dsimp only
  k_fold
  repeat' (first | (with_reducible refine hold_ref ?_) | (with_reducible refine hold_is ?_) | (with_reducible refine hold_eq ?_) | (with_reducible refine hold_ne ?_) | (k_unfold; (try dsimp only)) | (k_end; wrow_close) | walk1 | (dsimp only; walk1) | (leave1; try dsimp only))
  unfold Hold
  k_dflt (refine' Ctr.useB H.lt ?k1 ?k2 ?k3 ?k4 ?k5 ?kK ?kd ?ku ?ks ?_; (case k1 => k_asm); (case k2 => k_asm); (case k3 => k_asm); (case k4 => k_asm); (case k5 => k_asm); (case kK => exact rfl); (case kd => ktr_room); (case ku => ktr_units); (case ks => exact fun _ h => h))
  intro _ _ _ _
  try dsimp only
  try k_sweep
  repeat' (first | (with_reducible refine hold_is ?_) | (with_reducible refine hold_eq ?_) | (with_reducible refine hold_ne ?_) | (k_unfold; (try dsimp only)) | (k_end; wrow_close) | walk1 | (dsimp only; walk1) | (leave1; try dsimp only))
  unfold Hold
  refine is_bool_ni ?_
  try dsimp only
  repeat' (first | (with_reducible refine hold_eq ?_) | (with_reducible refine hold_ne ?_) | (k_unfold; (try dsimp only)) | (k_end; wrow_close) | walk1 | (dsimp only; walk1) | (leave1; try dsimp only))
  all_goals (try (unfold Hold; k_dflt (refine' q_ne H ?k1 ?k2 ?k3 ?k4 ?k5 ?kK ?kd ?ku ?_; (case k1 => k_asm); (case k2 => k_asm); (case k3 => k_asm); (case k4 => k_asm); (case k5 => k_asm); (case kK => exact rfl); (case kd => ktr_room); (case ku => ktr_units)); intro _ _ _ _; (try dsimp only); (try k_sweep); (repeat' (first | (k_unfold; (try dsimp only)) | (k_end; wrow_close) | walk1 | (dsimp only; walk1) | (leave1; try dsimp only)))))
  all_goals ((try dsimp only); (try k_unfold); (try dsimp only))
  all_goals (
    rename News _ _ _ _ => Nz
    rename Fr _ _ _ _ => Fz
    refine hret _ _ _ (Kept.out KG Fz Nz fun _ h => h) ?_
    simp_all)
theorem f_le_lt {w mean mg mb} {q d : Addr} {ox : List DictEntry} {nx : Nat} {o tb : Value} {blt ble bgt bge beq : Bool} {rest : List (Addr × Obj)} (H : Oth w mean mg mb ((q, instObj 219 d) :: (d, dictOf ox nx) :: rest) q o tb blt ble bgt bge beq) :
    Ctr 4 w mean mg mb 75 ((q, instObj 219 d) :: (d, dictOf ox nx) :: rest) [.ref q, o] (fun v _ _ => v = .bool (blt || beq)) := by
  unfold Ctr
  intro dp un gd cn cs a ccd cl outer A₀ base h₀ L m s Q E B F X N T hk hroom hu hret
  w_on
  refine wpAny_call ?_
  k_dflt (refine' enter ?k1 ?k2 ?k3 ?k4 ?k5 ?kA ?kF ?kK ?k6 ?k7 ?k8 ?k9 ?kB ?_ ?c2 ?c3 ?c4 ?c5; (case kA => exact rfl); (case kF => exact rfl); (case kK => assumption); (case k1 => k_asm); (case k2 => k_asm); (case k3 => k_asm); (case k4 => k_asm); (case k5 => k_asm); (case k6 => k_is); (case k7 => k_is); (case k8 => ktr_room); (case k9 => exact BindsTo.of_eq rfl); (case c5 => decide); (case kB => exact locs rfl); (case c2 => exact rfl); (case c3 => exact rfl); (case c4 => exact rfl); k_whole)
  intro g L₁ h₁ KG F₁ N₁ B₁ X₁ T₁ hlt
  clear F N B X T hlt
  dsimp only
  k_fold
  repeat' (first | (with_reducible refine hold_ref ?_) | (with_reducible refine hold_is ?_) | (with_reducible refine hold_eq ?_) | (with_reducible refine hold_ne ?_) | (k_unfold; (try dsimp only)) | (k_end; wrow_close) | walk1 | (dsimp only; walk1) | (leave1; try dsimp only))
  unfold Hold
  k_dflt (refine' Ctr.useB H.lt ?k1 ?k2 ?k3 ?k4 ?k5 ?kK ?kd ?ku ?ks ?_; (case k1 => k_asm); (case k2 => k_asm); (case k3 => k_asm); (case k4 => k_asm); (case k5 => k_asm); (case kK => exact rfl); (case kd => ktr_room); (case ku => ktr_units); (case ks => exact fun _ h => h))
  intro _ _ _ _
  try dsimp only
  try k_sweep
  repeat' (first | (with_reducible refine hold_is ?_) | (with_reducible refine hold_eq ?_) | (with_reducible refine hold_ne ?_) | (k_unfold; (try dsimp only)) | (k_end; wrow_close) | walk1 | (dsimp only; walk1) | (leave1; try dsimp only))
  unfold Hold
  refine is_bool_ni ?_
  try dsimp only
  repeat' (first | (with_reducible refine hold_eq ?_) | (with_reducible refine hold_ne ?_) | (k_unfold; (try dsimp only)) | (k_end; wrow_close) | walk1 | (dsimp only; walk1) | (leave1; try dsimp only))
  all_goals (try (unfold Hold; k_dflt (refine' q_eq H ?k1 ?k2 ?k3 ?k4 ?k5 ?kK ?kd ?ku ?_; (case k1 => k_asm); (case k2 => k_asm); (case k3 => k_asm); (case k4 => k_asm); (case k5 => k_asm); (case kK => exact rfl); (case kd => ktr_room); (case ku => ktr_units)); intro _ _ _ _; (try dsimp only); (try k_sweep); (repeat' (first | (k_unfold; (try dsimp only)) | (k_end; wrow_close) | walk1 | (dsimp only; walk1) | (leave1; try dsimp only)))))
  all_goals ((try dsimp only); (try k_unfold); (try dsimp only))
  all_goals (
    rename News _ _ _ _ => Nz
    rename Fr _ _ _ _ => Fz
    refine hret _ _ _ (Kept.out KG Fz Nz fun _ h => h) ?_
    simp_all)
theorem f_ge_lt {w mean mg mb} {q d : Addr} {ox : List DictEntry} {nx : Nat} {o tb : Value} {blt ble bgt bge beq : Bool} {rest : List (Addr × Obj)} (H : Oth w mean mg mb ((q, instObj 219 d) :: (d, dictOf ox nx) :: rest) q o tb blt ble bgt bge beq) :
    Ctr 4 w mean mg mb 82 ((q, instObj 219 d) :: (d, dictOf ox nx) :: rest) [.ref q, o] (fun v _ _ => v = .bool (!blt)) := by
  unfold Ctr
  intro dp un gd cn cs a ccd cl outer A₀ base h₀ L m s Q E B F X N T hk hroom hu hret
  w_on
  refine wpAny_call ?_
  k_dflt (refine' enter ?k1 ?k2 ?k3 ?k4 ?k5 ?kA ?kF ?kK ?k6 ?k7 ?k8 ?k9 ?kB ?_ ?c2 ?c3 ?c4 ?c5; (case kA => exact rfl); (case kF => exact rfl); (case kK => assumption); (case k1 => k_asm); (case k2 => k_asm); (case k3 => k_asm); (case k4 => k_asm); (case k5 => k_asm); (case k6 => k_is); (case k7 => k_is); (case k8 => ktr_room); (case k9 => exact BindsTo.of_eq rfl); (case c5 => decide); (case kB => exact locs rfl); (case c2 => exact rfl); (case c3 => exact rfl); (case c4 => exact rfl); k_whole)
  intro g L₁ h₁ KG F₁ N₁ B₁ X₁ T₁ hlt
  clear F N B X T hlt
  dsimp only
  k_fold
  repeat' (first | (with_reducible refine hold_ref ?_) | (with_reducible refine hold_is ?_) | (with_reducible refine hold_eq ?_) | (with_reducible refine hold_ne ?_) | (k_unfold; (try dsimp only)) | (k_end; wrow_close) | walk1 | (dsimp only; walk1) | (leave1; try dsimp only))
  unfold Hold
  k_dflt (refine' Ctr.useB H.lt ?k1 ?k2 ?k3 ?k4 ?k5 ?kK ?kd ?ku ?ks ?_; (case k1 => k_asm); (case k2 => k_asm); (case k3 => k_asm); (case k4 => k_asm); (case k5 => k_asm); (case kK => exact rfl); (case kd => ktr_room); (case ku => ktr_units); (case ks => exact fun _ h => h))
  intro _ _ _ _
  try dsimp only
  try k_sweep
  repeat' (first | (with_reducible refine hold_is ?_) | (with_reducible refine hold_eq ?_) | (with_reducible refine hold_ne ?_) | (k_unfold; (try dsimp only)) | (k_end; wrow_close) | walk1 | (dsimp only; walk1) | (leave1; try dsimp only))
  unfold Hold
  refine is_bool_ni ?_
  try dsimp only
  repeat' (first | (with_reducible refine hold_eq ?_) | (with_reducible refine hold_ne ?_) | (k_unfold; (try dsimp only)) | (k_end; wrow_close) | walk1 | (dsimp only; walk1) | (leave1; try dsimp only))
  all_goals (try (unfold Hold; k_dflt (refine' q_eq H ?k1 ?k2 ?k3 ?k4 ?k5 ?kK ?kd ?ku ?_; (case k1 => k_asm); (case k2 => k_asm); (case k3 => k_asm); (case k4 => k_asm); (case k5 => k_asm); (case kK => exact rfl); (case kd => ktr_room); (case ku => ktr_units)); intro _ _ _ _; (try dsimp only); (try k_sweep); (repeat' (first | (k_unfold; (try dsimp only)) | (k_end; wrow_close) | walk1 | (dsimp only; walk1) | (leave1; try dsimp only)))))
  all_goals ((try dsimp only); (try k_unfold); (try dsimp only))
  all_goals (
    rename News _ _ _ _ => Nz
    rename Fr _ _ _ _ => Fz
    refine hret _ _ _ (Kept.out KG Fz Nz fun _ h => h) ?_
    simp_all)
theorem f_ge_le {w mean mg mb} {q d : Addr} {ox : List DictEntry} {nx : Nat} {o tb : Value} {blt ble bgt bge beq : Bool} {rest : List (Addr × Obj)} (H : Oth w mean mg mb ((q, instObj 219 d) :: (d, dictOf ox nx) :: rest) q o tb blt ble bgt bge beq) :
    Ctr 4 w mean mg mb 89 ((q, instObj 219 d) :: (d, dictOf ox nx) :: rest) [.ref q, o] (fun v _ _ => v = .bool (!ble || beq)) := by
  unfold Ctr
  intro dp un gd cn cs a ccd cl outer A₀ base h₀ L m s Q E B F X N T hk hroom hu hret
  w_on
  refine wpAny_call ?_
  k_dflt (refine' enter ?k1 ?k2 ?k3 ?k4 ?k5 ?kA ?kF ?kK ?k6 ?k7 ?k8 ?k9 ?kB ?_ ?c2 ?c3 ?c4 ?c5; (case kA => exact rfl); (case kF => exact rfl); (case kK => assumption); (case k1 => k_asm); (case k2 => k_asm); (case k3 => k_asm); (case k4 => k_asm); (case k5 => k_asm); (case k6 => k_is); (case k7 => k_is); (case k8 => ktr_room); (case k9 => exact BindsTo.of_eq rfl); (case c5 => decide); (case kB => exact locs rfl); (case c2 => exact rfl); (case c3 => exact rfl); (case c4 => exact rfl); k_whole)
  intro g L₁ h₁ KG F₁ N₁ B₁ X₁ T₁ hlt
  clear F N B X T hlt
  dsimp only
  k_fold
  repeat' (first | (with_reducible refine hold_ref ?_) | (with_reducible refine hold_is ?_) | (with_reducible refine hold_eq ?_) | (with_reducible refine hold_ne ?_) | (k_unfold; (try dsimp only)) | (k_end; wrow_close) | walk1 | (dsimp only; walk1) | (leave1; try dsimp only))
  unfold Hold
  k_dflt (refine' Ctr.useB H.le ?k1 ?k2 ?k3 ?k4 ?k5 ?kK ?kd ?ku ?ks ?_; (case k1 => k_asm); (case k2 => k_asm); (case k3 => k_asm); (case k4 => k_asm); (case k5 => k_asm); (case kK => exact rfl); (case kd => ktr_room); (case ku => ktr_units); (case ks => exact fun _ h => h))
  intro _ _ _ _
  try dsimp only
  try k_sweep
  repeat' (first | (with_reducible refine hold_is ?_) | (with_reducible refine hold_eq ?_) | (with_reducible refine hold_ne ?_) | (k_unfold; (try dsimp only)) | (k_end; wrow_close) | walk1 | (dsimp only; walk1) | (leave1; try dsimp only))
  unfold Hold
  refine is_bool_ni ?_
  try dsimp only
  repeat' (first | (with_reducible refine hold_eq ?_) | (with_reducible refine hold_ne ?_) | (k_unfold; (try dsimp only)) | (k_end; wrow_close) | walk1 | (dsimp only; walk1) | (leave1; try dsimp only))
  all_goals (try (unfold Hold; k_dflt (refine' q_eq H ?k1 ?k2 ?k3 ?k4 ?k5 ?kK ?kd ?ku ?_; (case k1 => k_asm); (case k2 => k_asm); (case k3 => k_asm); (case k4 => k_asm); (case k5 => k_asm); (case kK => exact rfl); (case kd => ktr_room); (case ku => ktr_units)); intro _ _ _ _; (try dsimp only); (try k_sweep); (repeat' (first | (k_unfold; (try dsimp only)) | (k_end; wrow_close) | walk1 | (dsimp only; walk1) | (leave1; try dsimp only)))))
  all_goals ((try dsimp only); (try k_unfold); (try dsimp only))
  all_goals (
    rename News _ _ _ _ => Nz
    rename Fr _ _ _ _ => Fz
    refine hret _ _ _ (Kept.out KG Fz Nz fun _ h => h) ?_
    simp_all)
theorem f_lt_le {w mean mg mb} {q d : Addr} {ox : List DictEntry} {nx : Nat} {o tb : Value} {blt ble bgt bge beq : Bool} {rest : List (Addr × Obj)} (H : Oth w mean mg mb ((q, instObj 219 d) :: (d, dictOf ox nx) :: rest) q o tb blt ble bgt bge beq) :
    Ctr 4 w mean mg mb 96 ((q, instObj 219 d) :: (d, dictOf ox nx) :: rest) [.ref q, o] (fun v _ _ => v = .bool (ble && !beq)) := by
  unfold Ctr
  intro dp un gd cn cs a ccd cl outer A₀ base h₀ L m s Q E B F X N T hk hroom hu hret
  w_on
  refine wpAny_call ?_
  k_dflt (refine' enter ?k1 ?k2 ?k3 ?k4 ?k5 ?kA ?kF ?kK ?k6 ?k7 ?k8 ?k9 ?kB ?_ ?c2 ?c3 ?c4 ?c5; (case kA => exact rfl); (case kF => exact rfl); (case kK => assumption); (case k1 => k_asm); (case k2 => k_asm); (case k3 => k_asm); (case k4 => k_asm); (case k5 => k_asm); (case k6 => k_is); (case k7 => k_is); (case k8 => ktr_room); (case k9 => exact BindsTo.of_eq rfl); (case c5 => decide); (case kB => exact locs rfl); (case c2 => exact rfl); (case c3 => exact rfl); (case c4 => exact rfl); k_whole)
  intro g L₁ h₁ KG F₁ N₁ B₁ X₁ T₁ hlt
  clear F N B X T hlt
  dsimp only
  k_fold
  repeat' (first | (with_reducible refine hold_ref ?_) | (with_reducible refine hold_is ?_) | (with_reducible refine hold_eq ?_) | (with_reducible refine hold_ne ?_) | (k_unfold; (try dsimp only)) | (k_end; wrow_close) | walk1 | (dsimp only; walk1) | (leave1; try dsimp only))
  unfold Hold
  k_dflt (refine' Ctr.useB H.le ?k1 ?k2 ?k3 ?k4 ?k5 ?kK ?kd ?ku ?ks ?_; (case k1 => k_asm); (case k2 => k_asm); (case k3 => k_asm); (case k4 => k_asm); (case k5 => k_asm); (case kK => exact rfl); (case kd => ktr_room); (case ku => ktr_units); (case ks => exact fun _ h => h))
  intro _ _ _ _
  try dsimp only
  try k_sweep
  repeat' (first | (with_reducible refine hold_is ?_) | (with_reducible refine hold_eq ?_) | (with_reducible refine hold_ne ?_) | (k_unfold; (try dsimp only)) | (k_end; wrow_close) | walk1 | (dsimp only; walk1) | (leave1; try dsimp only))
  unfold Hold
  refine is_bool_ni ?_
  try dsimp only
  repeat' (first | (with_reducible refine hold_eq ?_) | (with_reducible refine hold_ne ?_) | (k_unfold; (try dsimp only)) | (k_end; wrow_close) | walk1 | (dsimp only; walk1) | (leave1; try dsimp only))
  all_goals (try (unfold Hold; k_dflt (refine' q_ne H ?k1 ?k2 ?k3 ?k4 ?k5 ?kK ?kd ?ku ?_; (case k1 => k_asm); (case k2 => k_asm); (case k3 => k_asm); (case k4 => k_asm); (case k5 => k_asm); (case kK => exact rfl); (case kd => ktr_room); (case ku => ktr_units)); intro _ _ _ _; (try dsimp only); (try k_sweep); (repeat' (first | (k_unfold; (try dsimp only)) | (k_end; wrow_close) | walk1 | (dsimp only; walk1) | (leave1; try dsimp only)))))
  all_goals ((try dsimp only); (try k_unfold); (try dsimp only))
  all_goals (
    rename News _ _ _ _ => Nz
    rename Fr _ _ _ _ => Fz
    refine hret _ _ _ (Kept.out KG Fz Nz fun _ h => h) ?_
    simp_all)
theorem f_gt_le {w mean mg mb} {q d : Addr} {ox : List DictEntry} {nx : Nat} {o tb : Value} {blt ble bgt bge beq : Bool} {rest : List (Addr × Obj)} (H : Oth w mean mg mb ((q, instObj 219 d) :: (d, dictOf ox nx) :: rest) q o tb blt ble bgt bge beq) :
    Ctr 4 w mean mg mb 103 ((q, instObj 219 d) :: (d, dictOf ox nx) :: rest) [.ref q, o] (fun v _ _ => v = .bool (!ble)) := by
  unfold Ctr
  intro dp un gd cn cs a ccd cl outer A₀ base h₀ L m s Q E B F X N T hk hroom hu hret
  w_on
  refine wpAny_call ?_
  k_dflt (refine' enter ?k1 ?k2 ?k3 ?k4 ?k5 ?kA ?kF ?kK ?k6 ?k7 ?k8 ?k9 ?kB ?_ ?c2 ?c3 ?c4 ?c5; (case kA => exact rfl); (case kF => exact rfl); (case kK => assumption); (case k1 => k_asm); (case k2 => k_asm); (case k3 => k_asm); (case k4 => k_asm); (case k5 => k_asm); (case k6 => k_is); (case k7 => k_is); (case k8 => ktr_room); (case k9 => exact BindsTo.of_eq rfl); (case c5 => decide); (case kB => exact locs rfl); (case c2 => exact rfl); (case c3 => exact rfl); (case c4 => exact rfl); k_whole)
  intro g L₁ h₁ KG F₁ N₁ B₁ X₁ T₁ hlt
  clear F N B X T hlt
  dsimp only
  k_fold
  repeat' (first | (with_reducible refine hold_ref ?_) | (with_reducible refine hold_is ?_) | (with_reducible refine hold_eq ?_) | (with_reducible refine hold_ne ?_) | (k_unfold; (try dsimp only)) | (k_end; wrow_close) | walk1 | (dsimp only; walk1) | (leave1; try dsimp only))
  unfold Hold
  k_dflt (refine' Ctr.useB H.le ?k1 ?k2 ?k3 ?k4 ?k5 ?kK ?kd ?ku ?ks ?_; (case k1 => k_asm); (case k2 => k_asm); (case k3 => k_asm); (case k4 => k_asm); (case k5 => k_asm); (case kK => exact rfl); (case kd => ktr_room); (case ku => ktr_units); (case ks => exact fun _ h => h))
  intro _ _ _ _
  try dsimp only
  try k_sweep
  repeat' (first | (with_reducible refine hold_is ?_) | (with_reducible refine hold_eq ?_) | (with_reducible refine hold_ne ?_) | (k_unfold; (try dsimp only)) | (k_end; wrow_close) | walk1 | (dsimp only; walk1) | (leave1; try dsimp only))
  unfold Hold
  refine is_bool_ni ?_
  try dsimp only
  repeat' (first | (with_reducible refine hold_eq ?_) | (with_reducible refine hold_ne ?_) | (k_unfold; (try dsimp only)) | (k_end; wrow_close) | walk1 | (dsimp only; walk1) | (leave1; try dsimp only))
  all_goals (try (unfold Hold; k_dflt (refine' q_eq H ?k1 ?k2 ?k3 ?k4 ?k5 ?kK ?kd ?ku ?_; (case k1 => k_asm); (case k2 => k_asm); (case k3 => k_asm); (case k4 => k_asm); (case k5 => k_asm); (case kK => exact rfl); (case kd => ktr_room); (case ku => ktr_units)); intro _ _ _ _; (try dsimp only); (try k_sweep); (repeat' (first | (k_unfold; (try dsimp only)) | (k_end; wrow_close) | walk1 | (dsimp only; walk1) | (leave1; try dsimp only)))))
  all_goals ((try dsimp only); (try k_unfold); (try dsimp only))
  all_goals (
    rename News _ _ _ _ => Nz
    rename Fr _ _ _ _ => Fz
    refine hret _ _ _ (Kept.out KG Fz Nz fun _ h => h) ?_
    simp_all)
theorem f_lt_gt {w mean mg mb} {q d : Addr} {ox : List DictEntry} {nx : Nat} {o tb : Value} {blt ble bgt bge beq : Bool} {rest : List (Addr × Obj)} (H : Oth w mean mg mb ((q, instObj 219 d) :: (d, dictOf ox nx) :: rest) q o tb blt ble bgt bge beq) :
    Ctr 4 w mean mg mb 110 ((q, instObj 219 d) :: (d, dictOf ox nx) :: rest) [.ref q, o] (fun v _ _ => v = .bool (!bgt && !beq)) := by
  unfold Ctr
  intro dp un gd cn cs a ccd cl outer A₀ base h₀ L m s Q E B F X N T hk hroom hu hret
  w_on
  refine wpAny_call ?_
  k_dflt (refine' enter ?k1 ?k2 ?k3 ?k4 ?k5 ?kA ?kF ?kK ?k6 ?k7 ?k8 ?k9 ?kB ?_ ?c2 ?c3 ?c4 ?c5; (case kA => exact rfl); (case kF => exact rfl); (case kK => assumption); (case k1 => k_asm); (case k2 => k_asm); (case k3 => k_asm); (case k4 => k_asm); (case k5 => k_asm); (case k6 => k_is); (case k7 => k_is); (case k8 => ktr_room); (case k9 => exact BindsTo.of_eq rfl); (case c5 => decide); (case kB => exact locs rfl); (case c2 => exact rfl); (case c3 => exact rfl); (case c4 => exact rfl); k_whole)
  intro g L₁ h₁ KG F₁ N₁ B₁ X₁ T₁ hlt
  clear F N B X T hlt
  dsimp only
  k_fold
  repeat' (first | (with_reducible refine hold_ref ?_) | (with_reducible refine hold_is ?_) | (with_reducible refine hold_eq ?_) | (with_reducible refine hold_ne ?_) | (k_unfold; (try dsimp only)) | (k_end; wrow_close) | walk1 | (dsimp only; walk1) | (leave1; try dsimp only))
  unfold Hold
  k_dflt (refine' Ctr.useB H.gt ?k1 ?k2 ?k3 ?k4 ?k5 ?kK ?kd ?ku ?ks ?_; (case k1 => k_asm); (case k2 => k_asm); (case k3 => k_asm); (case k4 => k_asm); (case k5 => k_asm); (case kK => exact rfl); (case kd => ktr_room); (case ku => ktr_units); (case ks => exact fun _ h => h))
  intro _ _ _ _
  try dsimp only
  try k_sweep
  repeat' (first | (with_reducible refine hold_is ?_) | (with_reducible refine hold_eq ?_) | (with_reducible refine hold_ne ?_) | (k_unfold; (try dsimp only)) | (k_end; wrow_close) | walk1 | (dsimp only; walk1) | (leave1; try dsimp only))
  unfold Hold
  refine is_bool_ni ?_
  try dsimp only
  repeat' (first | (with_reducible refine hold_eq ?_) | (with_reducible refine hold_ne ?_) | (k_unfold; (try dsimp only)) | (k_end; wrow_close) | walk1 | (dsimp only; walk1) | (leave1; try dsimp only))
  all_goals (try (unfold Hold; k_dflt (refine' q_ne H ?k1 ?k2 ?k3 ?k4 ?k5 ?kK ?kd ?ku ?_; (case k1 => k_asm); (case k2 => k_asm); (case k3 => k_asm); (case k4 => k_asm); (case k5 => k_asm); (case kK => exact rfl); (case kd => ktr_room); (case ku => ktr_units)); intro _ _ _ _; (try dsimp only); (try k_sweep); (repeat' (first | (k_unfold; (try dsimp only)) | (k_end; wrow_close) | walk1 | (dsimp only; walk1) | (leave1; try dsimp only)))))
  all_goals ((try dsimp only); (try k_unfold); (try dsimp only))
  all_goals (
    rename News _ _ _ _ => Nz
    rename Fr _ _ _ _ => Fz
    refine hret _ _ _ (Kept.out KG Fz Nz fun _ h => h) ?_
    simp_all)
theorem f_ge_gt {w mean mg mb} {q d : Addr} {ox : List DictEntry} {nx : Nat} {o tb : Value} {blt ble bgt bge beq : Bool} {rest : List (Addr × Obj)} (H : Oth w mean mg mb ((q, instObj 219 d) :: (d, dictOf ox nx) :: rest) q o tb blt ble bgt bge beq) :
    Ctr 4 w mean mg mb 117 ((q, instObj 219 d) :: (d, dictOf ox nx) :: rest) [.ref q, o] (fun v _ _ => v = .bool (bgt || beq)) := by
  unfold Ctr
  intro dp un gd cn cs a ccd cl outer A₀ base h₀ L m s Q E B F X N T hk hroom hu hret
  w_on
  refine wpAny_call ?_
  k_dflt (refine' enter ?k1 ?k2 ?k3 ?k4 ?k5 ?kA ?kF ?kK ?k6 ?k7 ?k8 ?k9 ?kB ?_ ?c2 ?c3 ?c4 ?c5; (case kA => exact rfl); (case kF => exact rfl); (case kK => assumption); (case k1 => k_asm); (case k2 => k_asm); (case k3 => k_asm); (case k4 => k_asm); (case k5 => k_asm); (case k6 => k_is); (case k7 => k_is); (case k8 => ktr_room); (case k9 => exact BindsTo.of_eq rfl); (case c5 => decide); (case kB => exact locs rfl); (case c2 => exact rfl); (case c3 => exact rfl); (case c4 => exact rfl); k_whole)
  intro g L₁ h₁ KG F₁ N₁ B₁ X₁ T₁ hlt
  clear F N B X T hlt
  dsimp only
  k_fold
  repeat' (first | (with_reducible refine hold_ref ?_) | (with_reducible refine hold_is ?_) | (with_reducible refine hold_eq ?_) | (with_reducible refine hold_ne ?_) | (k_unfold; (try dsimp only)) | (k_end; wrow_close) | walk1 | (dsimp only; walk1) | (leave1; try dsimp only))
  unfold Hold
  k_dflt (refine' Ctr.useB H.gt ?k1 ?k2 ?k3 ?k4 ?k5 ?kK ?kd ?ku ?ks ?_; (case k1 => k_asm); (case k2 => k_asm); (case k3 => k_asm); (case k4 => k_asm); (case k5 => k_asm); (case kK => exact rfl); (case kd => ktr_room); (case ku => ktr_units); (case ks => exact fun _ h => h))
  intro _ _ _ _
  try dsimp only
  try k_sweep
  repeat' (first | (with_reducible refine hold_is ?_) | (with_reducible refine hold_eq ?_) | (with_reducible refine hold_ne ?_) | (k_unfold; (try dsimp only)) | (k_end; wrow_close) | walk1 | (dsimp only; walk1) | (leave1; try dsimp only))
  unfold Hold
  refine is_bool_ni ?_
  try dsimp only
  repeat' (first | (with_reducible refine hold_eq ?_) | (with_reducible refine hold_ne ?_) | (k_unfold; (try dsimp only)) | (k_end; wrow_close) | walk1 | (dsimp only; walk1) | (leave1; try dsimp only))
  all_goals (try (unfold Hold; k_dflt (refine' q_eq H ?k1 ?k2 ?k3 ?k4 ?k5 ?kK ?kd ?ku ?_; (case k1 => k_asm); (case k2 => k_asm); (case k3 => k_asm); (case k4 => k_asm); (case k5 => k_asm); (case kK => exact rfl); (case kd => ktr_room); (case ku => ktr_units)); intro _ _ _ _; (try dsimp only); (try k_sweep); (repeat' (first | (k_unfold; (try dsimp only)) | (k_end; wrow_close) | walk1 | (dsimp only; walk1) | (leave1; try dsimp only)))))
  all_goals ((try dsimp only); (try k_unfold); (try dsimp only))
  all_goals (
    rename News _ _ _ _ => Nz
    rename Fr _ _ _ _ => Fz
    refine hret _ _ _ (Kept.out KG Fz Nz fun _ h => h) ?_
    simp_all)
theorem f_le_gt {w mean mg mb} {q d : Addr} {ox : List DictEntry} {nx : Nat} {o tb : Value} {blt ble bgt bge beq : Bool} {rest : List (Addr × Obj)} (H : Oth w mean mg mb ((q, instObj 219 d) :: (d, dictOf ox nx) :: rest) q o tb blt ble bgt bge beq) :
    Ctr 4 w mean mg mb 124 ((q, instObj 219 d) :: (d, dictOf ox nx) :: rest) [.ref q, o] (fun v _ _ => v = .bool (!bgt)) := by
  unfold Ctr
  intro dp un gd cn cs a ccd cl outer A₀ base h₀ L m s Q E B F X N T hk hroom hu hret
  w_on
  refine wpAny_call ?_
  k_dflt (refine' enter ?k1 ?k2 ?k3 ?k4 ?k5 ?kA ?kF ?kK ?k6 ?k7 ?k8 ?k9 ?kB ?_ ?c2 ?c3 ?c4 ?c5; (case kA => exact rfl); (case kF => exact rfl); (case kK => assumption); (case k1 => k_asm); (case k2 => k_asm); (case k3 => k_asm); (case k4 => k_asm); (case k5 => k_asm); (case k6 => k_is); (case k7 => k_is); (case k8 => ktr_room); (case k9 => exact BindsTo.of_eq rfl); (case c5 => decide); (case kB => exact locs rfl); (case c2 => exact rfl); (case c3 => exact rfl); (case c4 => exact rfl); k_whole)
  intro g L₁ h₁ KG F₁ N₁ B₁ X₁ T₁ hlt
  clear F N B X T hlt
  dsimp only
  k_fold
  repeat' (first | (with_reducible refine hold_ref ?_) | (with_reducible refine hold_is ?_) | (with_reducible refine hold_eq ?_) | (with_reducible refine hold_ne ?_) | (k_unfold; (try dsimp only)) | (k_end; wrow_close) | walk1 | (dsimp only; walk1) | (leave1; try dsimp only))
  unfold Hold
  k_dflt (refine' Ctr.useB H.gt ?k1 ?k2 ?k3 ?k4 ?k5 ?kK ?kd ?ku ?ks ?_; (case k1 => k_asm); (case k2 => k_asm); (case k3 => k_asm); (case k4 => k_asm); (case k5 => k_asm); (case kK => exact rfl); (case kd => ktr_room); (case ku => ktr_units); (case ks => exact fun _ h => h))
  intro _ _ _ _
  try dsimp only
  try k_sweep
  repeat' (first | (with_reducible refine hold_is ?_) | (with_reducible refine hold_eq ?_) | (with_reducible refine hold_ne ?_) | (k_unfold; (try dsimp only)) | (k_end; wrow_close) | walk1 | (dsimp only; walk1) | (leave1; try dsimp only))
  unfold Hold
  refine is_bool_ni ?_
  try dsimp only
  repeat' (first | (with_reducible refine hold_eq ?_) | (with_reducible refine hold_ne ?_) | (k_unfold; (try dsimp only)) | (k_end; wrow_close) | walk1 | (dsimp only; walk1) | (leave1; try dsimp only))
  all_goals (try (unfold Hold; k_dflt (refine' q_eq H ?k1 ?k2 ?k3 ?k4 ?k5 ?kK ?kd ?ku ?_; (case k1 => k_asm); (case k2 => k_asm); (case k3 => k_asm); (case k4 => k_asm); (case k5 => k_asm); (case kK => exact rfl); (case kd => ktr_room); (case ku => ktr_units)); intro _ _ _ _; (try dsimp only); (try k_sweep); (repeat' (first | (k_unfold; (try dsimp only)) | (k_end; wrow_close) | walk1 | (dsimp only; walk1) | (leave1; try dsimp only)))))
  all_goals ((try dsimp only); (try k_unfold); (try dsimp only))
  all_goals (
    rename News _ _ _ _ => Nz
    rename Fr _ _ _ _ => Fz
    refine hret _ _ _ (Kept.out KG Fz Nz fun _ h => h) ?_
    simp_all)
theorem f_le_ge {w mean mg mb} {q d : Addr} {ox : List DictEntry} {nx : Nat} {o tb : Value} {blt ble bgt bge beq : Bool} {rest : List (Addr × Obj)} (H : Oth w mean mg mb ((q, instObj 219 d) :: (d, dictOf ox nx) :: rest) q o tb blt ble bgt bge beq) :
    Ctr 4 w mean mg mb 131 ((q, instObj 219 d) :: (d, dictOf ox nx) :: rest) [.ref q, o] (fun v _ _ => v = .bool (!bge || beq)) := by
  unfold Ctr
  intro dp un gd cn cs a ccd cl outer A₀ base h₀ L m s Q E B F X N T hk hroom hu hret
  w_on
  refine wpAny_call ?_
  k_dflt (refine' enter ?k1 ?k2 ?k3 ?k4 ?k5 ?kA ?kF ?kK ?k6 ?k7 ?k8 ?k9 ?kB ?_ ?c2 ?c3 ?c4 ?c5; (case kA => exact rfl); (case kF => exact rfl); (case kK => assumption); (case k1 => k_asm); (case k2 => k_asm); (case k3 => k_asm); (case k4 => k_asm); (case k5 => k_asm); (case k6 => k_is); (case k7 => k_is); (case k8 => ktr_room); (case k9 => exact BindsTo.of_eq rfl); (case c5 => decide); (case kB => exact locs rfl); (case c2 => exact rfl); (case c3 => exact rfl); (case c4 => exact rfl); k_whole)
  intro g L₁ h₁ KG F₁ N₁ B₁ X₁ T₁ hlt
  clear F N B X T hlt
  dsimp only
  k_fold
  repeat' (first | (with_reducible refine hold_ref ?_) | (with_reducible refine hold_is ?_) | (with_reducible refine hold_eq ?_) | (with_reducible refine hold_ne ?_) | (k_unfold; (try dsimp only)) | (k_end; wrow_close) | walk1 | (dsimp only; walk1) | (leave1; try dsimp only))
  unfold Hold
  k_dflt (refine' Ctr.useB H.ge ?k1 ?k2 ?k3 ?k4 ?k5 ?kK ?kd ?ku ?ks ?_; (case k1 => k_asm); (case k2 => k_asm); (case k3 => k_asm); (case k4 => k_asm); (case k5 => k_asm); (case kK => exact rfl); (case kd => ktr_room); (case ku => ktr_units); (case ks => exact fun _ h => h))
  intro _ _ _ _
  try dsimp only
  try k_sweep
  repeat' (first | (with_reducible refine hold_is ?_) | (with_reducible refine hold_eq ?_) | (with_reducible refine hold_ne ?_) | (k_unfold; (try dsimp only)) | (k_end; wrow_close) | walk1 | (dsimp only; walk1) | (leave1; try dsimp only))
  unfold Hold
  refine is_bool_ni ?_
  try dsimp only
  repeat' (first | (with_reducible refine hold_eq ?_) | (with_reducible refine hold_ne ?_) | (k_unfold; (try dsimp only)) | (k_end; wrow_close) | walk1 | (dsimp only; walk1) | (leave1; try dsimp only))
  all_goals (try (unfold Hold; k_dflt (refine' q_eq H ?k1 ?k2 ?k3 ?k4 ?k5 ?kK ?kd ?ku ?_; (case k1 => k_asm); (case k2 => k_asm); (case k3 => k_asm); (case k4 => k_asm); (case k5 => k_asm); (case kK => exact rfl); (case kd => ktr_room); (case ku => ktr_units)); intro _ _ _ _; (try dsimp only); (try k_sweep); (repeat' (first | (k_unfold; (try dsimp only)) | (k_end; wrow_close) | walk1 | (dsimp only; walk1) | (leave1; try dsimp only)))))
  all_goals ((try dsimp only); (try k_unfold); (try dsimp only))
  all_goals (
    rename News _ _ _ _ => Nz
    rename Fr _ _ _ _ => Fz
    refine hret _ _ _ (Kept.out KG Fz Nz fun _ h => h) ?_
    simp_all)
theorem f_gt_ge {w mean mg mb} {q d : Addr} {ox : List DictEntry} {nx : Nat} {o tb : Value} {blt ble bgt bge beq : Bool} {rest : List (Addr × Obj)} (H : Oth w mean mg mb ((q, instObj 219 d) :: (d, dictOf ox nx) :: rest) q o tb blt ble bgt bge beq) :
    Ctr 4 w mean mg mb 138 ((q, instObj 219 d) :: (d, dictOf ox nx) :: rest) [.ref q, o] (fun v _ _ => v = .bool (bge && !beq)) := by
  unfold Ctr
  intro dp un gd cn cs a ccd cl outer A₀ base h₀ L m s Q E B F X N T hk hroom hu hret
  w_on
  refine wpAny_call ?_
  k_dflt (refine' enter ?k1 ?k2 ?k3 ?k4 ?k5 ?kA ?kF ?kK ?k6 ?k7 ?k8 ?k9 ?kB ?_ ?c2 ?c3 ?c4 ?c5; (case kA => exact rfl); (case kF => exact rfl); (case kK => assumption); (case k1 => k_asm); (case k2 => k_asm); (case k3 => k_asm); (case k4 => k_asm); (case k5 => k_asm); (case k6 => k_is); (case k7 => k_is); (case k8 => ktr_room); (case k9 => exact BindsTo.of_eq rfl); (case c5 => decide); (case kB => exact locs rfl); (case c2 => exact rfl); (case c3 => exact rfl); (case c4 => exact rfl); k_whole)
  intro g L₁ h₁ KG F₁ N₁ B₁ X₁ T₁ hlt
  clear F N B X T hlt
  dsimp only
  k_fold
  repeat' (first | (with_reducible refine hold_ref ?_) | (with_reducible refine hold_is ?_) | (with_reducible refine hold_eq ?_) | (with_reducible refine hold_ne ?_) | (k_unfold; (try dsimp only)) | (k_end; wrow_close) | walk1 | (dsimp only; walk1) | (leave1; try dsimp only))
  unfold Hold
  k_dflt (refine' Ctr.useB H.ge ?k1 ?k2 ?k3 ?k4 ?k5 ?kK ?kd ?ku ?ks ?_; (case k1 => k_asm); (case k2 => k_asm); (case k3 => k_asm); (case k4 => k_asm); (case k5 => k_asm); (case kK => exact rfl); (case kd => ktr_room); (case ku => ktr_units); (case ks => exact fun _ h => h))
  intro _ _ _ _
  try dsimp only
  try k_sweep
  repeat' (first | (with_reducible refine hold_is ?_) | (with_reducible refine hold_eq ?_) | (with_reducible refine hold_ne ?_) | (k_unfold; (try dsimp only)) | (k_end; wrow_close) | walk1 | (dsimp only; walk1) | (leave1; try dsimp only))
  unfold Hold
  refine is_bool_ni ?_
  try dsimp only
  repeat' (first | (with_reducible refine hold_eq ?_) | (with_reducible refine hold_ne ?_) | (k_unfold; (try dsimp only)) | (k_end; wrow_close) | walk1 | (dsimp only; walk1) | (leave1; try dsimp only))
  all_goals (try (unfold Hold; k_dflt (refine' q_ne H ?k1 ?k2 ?k3 ?k4 ?k5 ?kK ?kd ?ku ?_; (case k1 => k_asm); (case k2 => k_asm); (case k3 => k_asm); (case k4 => k_asm); (case k5 => k_asm); (case kK => exact rfl); (case kd => ktr_room); (case ku => ktr_units)); intro _ _ _ _; (try dsimp only); (try k_sweep); (repeat' (first | (k_unfold; (try dsimp only)) | (k_end; wrow_close) | walk1 | (dsimp only; walk1) | (leave1; try dsimp only)))))
  all_goals ((try dsimp only); (try k_unfold); (try dsimp only))
  all_goals (
    rename News _ _ _ _ => Nz
    rename Fr _ _ _ _ => Fz
    refine hret _ _ _ (Kept.out KG Fz Nz fun _ h => h) ?_
    simp_all)
theorem f_lt_ge {w mean mg mb} {q d : Addr} {ox : List DictEntry} {nx : Nat} {o tb : Value} {blt ble bgt bge beq : Bool} {rest : List (Addr × Obj)} (H : Oth w mean mg mb ((q, instObj 219 d) :: (d, dictOf ox nx) :: rest) q o tb blt ble bgt bge beq) :
    Ctr 4 w mean mg mb 145 ((q, instObj 219 d) :: (d, dictOf ox nx) :: rest) [.ref q, o] (fun v _ _ => v = .bool (!bge)) := by
  unfold Ctr
  intro dp un gd cn cs a ccd cl outer A₀ base h₀ L m s Q E B F X N T hk hroom hu hret
  w_on
  refine wpAny_call ?_
  k_dflt (refine' enter ?k1 ?k2 ?k3 ?k4 ?k5 ?kA ?kF ?kK ?k6 ?k7 ?k8 ?k9 ?kB ?_ ?c2 ?c3 ?c4 ?c5; (case kA => exact rfl); (case kF => exact rfl); (case kK => assumption); (case k1 => k_asm); (case k2 => k_asm); (case k3 => k_asm); (case k4 => k_asm); (case k5 => k_asm); (case k6 => k_is); (case k7 => k_is); (case k8 => ktr_room); (case k9 => exact BindsTo.of_eq rfl); (case c5 => decide); (case kB => exact locs rfl); (case c2 => exact rfl); (case c3 => exact rfl); (case c4 => exact rfl); k_whole)
  intro g L₁ h₁ KG F₁ N₁ B₁ X₁ T₁ hlt
  clear F N B X T hlt
  dsimp only
  k_fold
  repeat' (first | (with_reducible refine hold_ref ?_) | (with_reducible refine hold_is ?_) | (with_reducible refine hold_eq ?_) | (with_reducible refine hold_ne ?_) | (k_unfold; (try dsimp only)) | (k_end; wrow_close) | walk1 | (dsimp only; walk1) | (leave1; try dsimp only))
  unfold Hold
  k_dflt (refine' Ctr.useB H.ge ?k1 ?k2 ?k3 ?k4 ?k5 ?kK ?kd ?ku ?ks ?_; (case k1 => k_asm); (case k2 => k_asm); (case k3 => k_asm); (case k4 => k_asm); (case k5 => k_asm); (case kK => exact rfl); (case kd => ktr_room); (case ku => ktr_units); (case ks => exact fun _ h => h))
  intro _ _ _ _
  try dsimp only
  try k_sweep
  repeat' (first | (with_reducible refine hold_is ?_) | (with_reducible refine hold_eq ?_) | (with_reducible refine hold_ne ?_) | (k_unfold; (try dsimp only)) | (k_end; wrow_close) | walk1 | (dsimp only; walk1) | (leave1; try dsimp only))
  unfold Hold
  refine is_bool_ni ?_
  try dsimp only
  repeat' (first | (with_reducible refine hold_eq ?_) | (with_reducible refine hold_ne ?_) | (k_unfold; (try dsimp only)) | (k_end; wrow_close) | walk1 | (dsimp only; walk1) | (leave1; try dsimp only))
  all_goals (try (unfold Hold; k_dflt (refine' q_eq H ?k1 ?k2 ?k3 ?k4 ?k5 ?kK ?kd ?ku ?_; (case k1 => k_asm); (case k2 => k_asm); (case k3 => k_asm); (case k4 => k_asm); (case k5 => k_asm); (case kK => exact rfl); (case kd => ktr_room); (case ku => ktr_units)); intro _ _ _ _; (try dsimp only); (try k_sweep); (repeat' (first | (k_unfold; (try dsimp only)) | (k_end; wrow_close) | walk1 | (dsimp only; walk1) | (leave1; try dsimp only)))))
  all_goals ((try dsimp only); (try k_unfold); (try dsimp only))
  all_goals (
    rename News _ _ _ _ => Nz
    rename Fr _ _ _ _ => Fz
    refine hret _ _ _ (Kept.out KG Fz Nz fun _ h => h) ?_
    simp_all)
end Mine

namespace Mine
set_option maxRecDepth 100000
set_option maxHeartbeats 1000000


section
variable {prog : Program} {w : World} {A : Around} {E : Value → Shared → Prop} {s : Shared} {x : Str} {t : Tok} {q d : Addr}
theorem str_lt_inst {M : Model} {Q : Fin → Shared → Prop} (hq : s.heap.get? q = some (instObj 219 d)) (h : Q (.done (.ret .notImplemented)) s) :
    wpAny M A (Builtin.«str.__lt__» ⟨[.str x t, .ref q], []⟩) Q E s := by
  show wpAny M A (asStr? (.ref q) >>= _) Q E s
  refine wpAny_bind ?_
  show wpAny M A (load q >>= _) _ E s
  refine wpAny_bind (wpAny_load hq (wpAny_pure ?_))
  exact wpAny_bind (wpAny_rule (wpAny_pure h))
theorem call_str_lt {Q : Value → Shared → Prop} (hq : s.heap.get? q = some (instObj 219 d)) (h : Q .notImplemented s) :
    wpAny (model prog w) A (call (.builtin "str.__lt__") [.str x t, .ref q]) Q E s :=
  wpAny_call_entry PySem.F.slot_str_lt (typeIs_str s x t) PySem.F.entry_str_lt (str_lt_inst hq ⟨_, rfl, h⟩) (PySem.F.args_str_lt_2 _ _)
theorem str_le_inst {M : Model} {Q : Fin → Shared → Prop} (hq : s.heap.get? q = some (instObj 219 d)) (h : Q (.done (.ret .notImplemented)) s) :
    wpAny M A (Builtin.«str.__le__» ⟨[.str x t, .ref q], []⟩) Q E s := by
  show wpAny M A (asStr? (.ref q) >>= _) Q E s
  refine wpAny_bind ?_
  show wpAny M A (load q >>= _) _ E s
  refine wpAny_bind (wpAny_load hq (wpAny_pure ?_))
  exact wpAny_bind (wpAny_rule (wpAny_pure h))
theorem call_str_le {Q : Value → Shared → Prop} (hq : s.heap.get? q = some (instObj 219 d)) (h : Q .notImplemented s) :
    wpAny (model prog w) A (call (.builtin "str.__le__") [.str x t, .ref q]) Q E s :=
  wpAny_call_entry PySem.F.slot_str_le (typeIs_str s x t) PySem.F.entry_str_le (str_le_inst hq ⟨_, rfl, h⟩) (PySem.F.args_str_le_2 _ _)
theorem str_gt_inst {M : Model} {Q : Fin → Shared → Prop} (hq : s.heap.get? q = some (instObj 219 d)) (h : Q (.done (.ret .notImplemented)) s) :
    wpAny M A (Builtin.«str.__gt__» ⟨[.str x t, .ref q], []⟩) Q E s := by
  show wpAny M A (asStr? (.ref q) >>= _) Q E s
  refine wpAny_bind ?_
  show wpAny M A (load q >>= _) _ E s
  refine wpAny_bind (wpAny_load hq (wpAny_pure ?_))
  exact wpAny_bind (wpAny_rule (wpAny_pure h))
theorem call_str_gt {Q : Value → Shared → Prop} (hq : s.heap.get? q = some (instObj 219 d)) (h : Q .notImplemented s) :
    wpAny (model prog w) A (call (.builtin "str.__gt__") [.str x t, .ref q]) Q E s :=
  wpAny_call_entry PySem.F.slot_str_gt (typeIs_str s x t) PySem.F.entry_str_gt (str_gt_inst hq ⟨_, rfl, h⟩) (PySem.F.args_str_gt_2 _ _)
theorem str_ge_inst {M : Model} {Q : Fin → Shared → Prop} (hq : s.heap.get? q = some (instObj 219 d)) (h : Q (.done (.ret .notImplemented)) s) :
    wpAny M A (Builtin.«str.__ge__» ⟨[.str x t, .ref q], []⟩) Q E s := by
  show wpAny M A (asStr? (.ref q) >>= _) Q E s
  refine wpAny_bind ?_
  show wpAny M A (load q >>= _) _ E s
  refine wpAny_bind (wpAny_load hq (wpAny_pure ?_))
  exact wpAny_bind (wpAny_rule (wpAny_pure h))
theorem call_str_ge {Q : Value → Shared → Prop} (hq : s.heap.get? q = some (instObj 219 d)) (h : Q .notImplemented s) :
    wpAny (model prog w) A (call (.builtin "str.__ge__") [.str x t, .ref q]) Q E s :=
  wpAny_call_entry PySem.F.slot_str_ge (typeIs_str s x t) PySem.F.entry_str_ge (str_ge_inst hq ⟨_, rfl, h⟩) (PySem.F.args_str_ge_2 _ _)
end
section
variable {M : Model} {A : Around} {E : Value → Shared → Prop} {s : Shared}
theorem hold_getm {Q : Value × List Value → Shared → Prop} {T : String} {n : Str} {p : Sem Bool} (h : Hold (wpAny M A (getMethod (.type T) n p) Q E s)) : wpAny M A (getMethod (.type T) n p) Q E s := h
theorem hold_builtin {Q : Value → Shared → Prop} {f : String} {x : Str} {t : Tok} {args : List Value} (h : Hold (wpAny M A (call (.builtin f) (.str x t :: args)) Q E s)) : wpAny M A (call (.builtin f) (.str x t :: args)) Q E s := h
end

theorem g_gt_lt {w mean mg mb} {q d : Addr} {ox : List DictEntry} {nx : Nat} {x : Str} {t : Tok} :
    Ctr 4 w mean mg mb 68 [(q, instObj 219 d), (d, dictOf ox nx)] [.str x t, .ref q] (fun v _ _ => v = .notImplemented) := by
  unfold Ctr
  intro dp un gd cn cs a ccd cl outer A₀ base h₀ L m s Q E B F X N T hk hroom hu hret
  w_on
  refine wpAny_call ?_
  k_dflt (refine' enter ?k1 ?k2 ?k3 ?k4 ?k5 ?kA ?kF ?kK ?k6 ?k7 ?k8 ?k9 ?kB ?_ ?c2 ?c3 ?c4 ?c5; (case kA => exact rfl); (case kF => exact rfl); (case kK => assumption); (case k1 => k_asm); (case k2 => k_asm); (case k3 => k_asm); (case k4 => k_asm); (case k5 => k_asm); (case k6 => k_is); (case k7 => k_is); (case k8 => ktr_room); (case k9 => exact BindsTo.of_eq rfl); (case c5 => decide); (case kB => exact locs rfl); (case c2 => exact rfl); (case c3 => exact rfl); (case c4 => exact rfl); k_whole)
  intro g L₁ h₁ KG F₁ N₁ B₁ X₁ T₁ hlt
  clear F N B X T hlt
  dsimp only
  k_fold
  repeat' (first | (with_reducible refine hold_getm ?_) | (with_reducible refine hold_builtin ?_) | (with_reducible refine hold_is ?_) | (k_unfold; (try dsimp only)) | (k_end; wrow_close) | walk1 | (dsimp only; walk1) | (leave1; try dsimp only))
  unfold Hold
  with_reducible refine' method_type ?F ?X ?m (by decide +kernel) ?e ?h ?_
  case F => k_asm
  case X => k_asm
  case m => exact PySem.F.isi_meta_str
  case e => k_dflt k_is
  case h => k_handed
  repeat' (first | (with_reducible refine hold_builtin ?_) | (with_reducible refine hold_is ?_) | (k_unfold; (try dsimp only)) | (k_end; wrow_close) | walk1 | (dsimp only; walk1) | (leave1; try dsimp only))
  unfold Hold
  refine call_str_lt (News.get (by k_asm) (by k_mem)) ?_
  try dsimp only
  repeat' (first | (with_reducible refine hold_is ?_) | (k_unfold; (try dsimp only)) | (k_end; wrow_close) | walk1 | (dsimp only; walk1) | (leave1; try dsimp only))
  unfold Hold
  refine is_ni_ni ?_
  try dsimp only
  repeat' (first | (k_unfold; (try dsimp only)) | (k_end; wrow_close) | walk1 | (dsimp only; walk1) | (leave1; try dsimp only))
  all_goals ((try dsimp only); (try k_unfold); (try dsimp only))
  rename News _ _ _ _ => Nz
  rename Fr _ _ _ _ => Fz
  exact hret _ _ _ (Kept.out KG Fz Nz fun _ h => h) rfl
theorem g_le_lt {w mean mg mb} {q d : Addr} {ox : List DictEntry} {nx : Nat} {x : Str} {t : Tok} :
    Ctr 4 w mean mg mb 75 [(q, instObj 219 d), (d, dictOf ox nx)] [.str x t, .ref q] (fun v _ _ => v = .notImplemented) := by
  unfold Ctr
  intro dp un gd cn cs a ccd cl outer A₀ base h₀ L m s Q E B F X N T hk hroom hu hret
  w_on
  refine wpAny_call ?_
  k_dflt (refine' enter ?k1 ?k2 ?k3 ?k4 ?k5 ?kA ?kF ?kK ?k6 ?k7 ?k8 ?k9 ?kB ?_ ?c2 ?c3 ?c4 ?c5; (case kA => exact rfl); (case kF => exact rfl); (case kK => assumption); (case k1 => k_asm); (case k2 => k_asm); (case k3 => k_asm); (case k4 => k_asm); (case k5 => k_asm); (case k6 => k_is); (case k7 => k_is); (case k8 => ktr_room); (case k9 => exact BindsTo.of_eq rfl); (case c5 => decide); (case kB => exact locs rfl); (case c2 => exact rfl); (case c3 => exact rfl); (case c4 => exact rfl); k_whole)
  intro g L₁ h₁ KG F₁ N₁ B₁ X₁ T₁ hlt
  clear F N B X T hlt
  dsimp only
  k_fold
  repeat' (first | (with_reducible refine hold_getm ?_) | (with_reducible refine hold_builtin ?_) | (with_reducible refine hold_is ?_) | (k_unfold; (try dsimp only)) | (k_end; wrow_close) | walk1 | (dsimp only; walk1) | (leave1; try dsimp only))
  unfold Hold
  with_reducible refine' method_type ?F ?X ?m (by decide +kernel) ?e ?h ?_
  case F => k_asm
  case X => k_asm
  case m => exact PySem.F.isi_meta_str
  case e => k_dflt k_is
  case h => k_handed
  repeat' (first | (with_reducible refine hold_builtin ?_) | (with_reducible refine hold_is ?_) | (k_unfold; (try dsimp only)) | (k_end; wrow_close) | walk1 | (dsimp only; walk1) | (leave1; try dsimp only))
  unfold Hold
  refine call_str_lt (News.get (by k_asm) (by k_mem)) ?_
  try dsimp only
  repeat' (first | (with_reducible refine hold_is ?_) | (k_unfold; (try dsimp only)) | (k_end; wrow_close) | walk1 | (dsimp only; walk1) | (leave1; try dsimp only))
  unfold Hold
  refine is_ni_ni ?_
  try dsimp only
  repeat' (first | (k_unfold; (try dsimp only)) | (k_end; wrow_close) | walk1 | (dsimp only; walk1) | (leave1; try dsimp only))
  all_goals ((try dsimp only); (try k_unfold); (try dsimp only))
  rename News _ _ _ _ => Nz
  rename Fr _ _ _ _ => Fz
  exact hret _ _ _ (Kept.out KG Fz Nz fun _ h => h) rfl
theorem g_ge_lt {w mean mg mb} {q d : Addr} {ox : List DictEntry} {nx : Nat} {x : Str} {t : Tok} :
    Ctr 4 w mean mg mb 82 [(q, instObj 219 d), (d, dictOf ox nx)] [.str x t, .ref q] (fun v _ _ => v = .notImplemented) := by
  unfold Ctr
  intro dp un gd cn cs a ccd cl outer A₀ base h₀ L m s Q E B F X N T hk hroom hu hret
  w_on
  refine wpAny_call ?_
  k_dflt (refine' enter ?k1 ?k2 ?k3 ?k4 ?k5 ?kA ?kF ?kK ?k6 ?k7 ?k8 ?k9 ?kB ?_ ?c2 ?c3 ?c4 ?c5; (case kA => exact rfl); (case kF => exact rfl); (case kK => assumption); (case k1 => k_asm); (case k2 => k_asm); (case k3 => k_asm); (case k4 => k_asm); (case k5 => k_asm); (case k6 => k_is); (case k7 => k_is); (case k8 => ktr_room); (case k9 => exact BindsTo.of_eq rfl); (case c5 => decide); (case kB => exact locs rfl); (case c2 => exact rfl); (case c3 => exact rfl); (case c4 => exact rfl); k_whole)
  intro g L₁ h₁ KG F₁ N₁ B₁ X₁ T₁ hlt
  clear F N B X T hlt
  dsimp only
  k_fold
  repeat' (first | (with_reducible refine hold_getm ?_) | (with_reducible refine hold_builtin ?_) | (with_reducible refine hold_is ?_) | (k_unfold; (try dsimp only)) | (k_end; wrow_close) | walk1 | (dsimp only; walk1) | (leave1; try dsimp only))
  unfold Hold
  with_reducible refine' method_type ?F ?X ?m (by decide +kernel) ?e ?h ?_
  case F => k_asm
  case X => k_asm
  case m => exact PySem.F.isi_meta_str
  case e => k_dflt k_is
  case h => k_handed
  repeat' (first | (with_reducible refine hold_builtin ?_) | (with_reducible refine hold_is ?_) | (k_unfold; (try dsimp only)) | (k_end; wrow_close) | walk1 | (dsimp only; walk1) | (leave1; try dsimp only))
  unfold Hold
  refine call_str_lt (News.get (by k_asm) (by k_mem)) ?_
  try dsimp only
  repeat' (first | (with_reducible refine hold_is ?_) | (k_unfold; (try dsimp only)) | (k_end; wrow_close) | walk1 | (dsimp only; walk1) | (leave1; try dsimp only))
  unfold Hold
  refine is_ni_ni ?_
  try dsimp only
  repeat' (first | (k_unfold; (try dsimp only)) | (k_end; wrow_close) | walk1 | (dsimp only; walk1) | (leave1; try dsimp only))
  all_goals ((try dsimp only); (try k_unfold); (try dsimp only))
  rename News _ _ _ _ => Nz
  rename Fr _ _ _ _ => Fz
  exact hret _ _ _ (Kept.out KG Fz Nz fun _ h => h) rfl
theorem g_ge_le {w mean mg mb} {q d : Addr} {ox : List DictEntry} {nx : Nat} {x : Str} {t : Tok} :
    Ctr 4 w mean mg mb 89 [(q, instObj 219 d), (d, dictOf ox nx)] [.str x t, .ref q] (fun v _ _ => v = .notImplemented) := by
  unfold Ctr
  intro dp un gd cn cs a ccd cl outer A₀ base h₀ L m s Q E B F X N T hk hroom hu hret
  w_on
  refine wpAny_call ?_
  k_dflt (refine' enter ?k1 ?k2 ?k3 ?k4 ?k5 ?kA ?kF ?kK ?k6 ?k7 ?k8 ?k9 ?kB ?_ ?c2 ?c3 ?c4 ?c5; (case kA => exact rfl); (case kF => exact rfl); (case kK => assumption); (case k1 => k_asm); (case k2 => k_asm); (case k3 => k_asm); (case k4 => k_asm); (case k5 => k_asm); (case k6 => k_is); (case k7 => k_is); (case k8 => ktr_room); (case k9 => exact BindsTo.of_eq rfl); (case c5 => decide); (case kB => exact locs rfl); (case c2 => exact rfl); (case c3 => exact rfl); (case c4 => exact rfl); k_whole)
  intro g L₁ h₁ KG F₁ N₁ B₁ X₁ T₁ hlt
  clear F N B X T hlt
  dsimp only
  k_fold
  repeat' (first | (with_reducible refine hold_getm ?_) | (with_reducible refine hold_builtin ?_) | (with_reducible refine hold_is ?_) | (k_unfold; (try dsimp only)) | (k_end; wrow_close) | walk1 | (dsimp only; walk1) | (leave1; try dsimp only))
  unfold Hold
  with_reducible refine' method_type ?F ?X ?m (by decide +kernel) ?e ?h ?_
  case F => k_asm
  case X => k_asm
  case m => exact PySem.F.isi_meta_str
  case e => k_dflt k_is
  case h => k_handed
  repeat' (first | (with_reducible refine hold_builtin ?_) | (with_reducible refine hold_is ?_) | (k_unfold; (try dsimp only)) | (k_end; wrow_close) | walk1 | (dsimp only; walk1) | (leave1; try dsimp only))
  unfold Hold
  refine call_str_le (News.get (by k_asm) (by k_mem)) ?_
  try dsimp only
  repeat' (first | (with_reducible refine hold_is ?_) | (k_unfold; (try dsimp only)) | (k_end; wrow_close) | walk1 | (dsimp only; walk1) | (leave1; try dsimp only))
  unfold Hold
  refine is_ni_ni ?_
  try dsimp only
  repeat' (first | (k_unfold; (try dsimp only)) | (k_end; wrow_close) | walk1 | (dsimp only; walk1) | (leave1; try dsimp only))
  all_goals ((try dsimp only); (try k_unfold); (try dsimp only))
  rename News _ _ _ _ => Nz
  rename Fr _ _ _ _ => Fz
  exact hret _ _ _ (Kept.out KG Fz Nz fun _ h => h) rfl
theorem g_lt_le {w mean mg mb} {q d : Addr} {ox : List DictEntry} {nx : Nat} {x : Str} {t : Tok} :
    Ctr 4 w mean mg mb 96 [(q, instObj 219 d), (d, dictOf ox nx)] [.str x t, .ref q] (fun v _ _ => v = .notImplemented) := by
  unfold Ctr
  intro dp un gd cn cs a ccd cl outer A₀ base h₀ L m s Q E B F X N T hk hroom hu hret
  w_on
  refine wpAny_call ?_
  k_dflt (refine' enter ?k1 ?k2 ?k3 ?k4 ?k5 ?kA ?kF ?kK ?k6 ?k7 ?k8 ?k9 ?kB ?_ ?c2 ?c3 ?c4 ?c5; (case kA => exact rfl); (case kF => exact rfl); (case kK => assumption); (case k1 => k_asm); (case k2 => k_asm); (case k3 => k_asm); (case k4 => k_asm); (case k5 => k_asm); (case k6 => k_is); (case k7 => k_is); (case k8 => ktr_room); (case k9 => exact BindsTo.of_eq rfl); (case c5 => decide); (case kB => exact locs rfl); (case c2 => exact rfl); (case c3 => exact rfl); (case c4 => exact rfl); k_whole)
  intro g L₁ h₁ KG F₁ N₁ B₁ X₁ T₁ hlt
  clear F N B X T hlt
  dsimp only
  k_fold
  repeat' (first | (with_reducible refine hold_getm ?_) | (with_reducible refine hold_builtin ?_) | (with_reducible refine hold_is ?_) | (k_unfold; (try dsimp only)) | (k_end; wrow_close) | walk1 | (dsimp only; walk1) | (leave1; try dsimp only))
  unfold Hold
  with_reducible refine' method_type ?F ?X ?m (by decide +kernel) ?e ?h ?_
  case F => k_asm
  case X => k_asm
  case m => exact PySem.F.isi_meta_str
  case e => k_dflt k_is
  case h => k_handed
  repeat' (first | (with_reducible refine hold_builtin ?_) | (with_reducible refine hold_is ?_) | (k_unfold; (try dsimp only)) | (k_end; wrow_close) | walk1 | (dsimp only; walk1) | (leave1; try dsimp only))
  unfold Hold
  refine call_str_le (News.get (by k_asm) (by k_mem)) ?_
  try dsimp only
  repeat' (first | (with_reducible refine hold_is ?_) | (k_unfold; (try dsimp only)) | (k_end; wrow_close) | walk1 | (dsimp only; walk1) | (leave1; try dsimp only))
  unfold Hold
  refine is_ni_ni ?_
  try dsimp only
  repeat' (first | (k_unfold; (try dsimp only)) | (k_end; wrow_close) | walk1 | (dsimp only; walk1) | (leave1; try dsimp only))
  all_goals ((try dsimp only); (try k_unfold); (try dsimp only))
  rename News _ _ _ _ => Nz
  rename Fr _ _ _ _ => Fz
  exact hret _ _ _ (Kept.out KG Fz Nz fun _ h => h) rfl
theorem g_gt_le {w mean mg mb} {q d : Addr} {ox : List DictEntry} {nx : Nat} {x : Str} {t : Tok} :
    Ctr 4 w mean mg mb 103 [(q, instObj 219 d), (d, dictOf ox nx)] [.str x t, .ref q] (fun v _ _ => v = .notImplemented) := by
  unfold Ctr
  intro dp un gd cn cs a ccd cl outer A₀ base h₀ L m s Q E B F X N T hk hroom hu hret
  w_on
  refine wpAny_call ?_
  k_dflt (refine' enter ?k1 ?k2 ?k3 ?k4 ?k5 ?kA ?kF ?kK ?k6 ?k7 ?k8 ?k9 ?kB ?_ ?c2 ?c3 ?c4 ?c5; (case kA => exact rfl); (case kF => exact rfl); (case kK => assumption); (case k1 => k_asm); (case k2 => k_asm); (case k3 => k_asm); (case k4 => k_asm); (case k5 => k_asm); (case k6 => k_is); (case k7 => k_is); (case k8 => ktr_room); (case k9 => exact BindsTo.of_eq rfl); (case c5 => decide); (case kB => exact locs rfl); (case c2 => exact rfl); (case c3 => exact rfl); (case c4 => exact rfl); k_whole)
  intro g L₁ h₁ KG F₁ N₁ B₁ X₁ T₁ hlt
  clear F N B X T hlt
  dsimp only
  k_fold
  repeat' (first | (with_reducible refine hold_getm ?_) | (with_reducible refine hold_builtin ?_) | (with_reducible refine hold_is ?_) | (k_unfold; (try dsimp only)) | (k_end; wrow_close) | walk1 | (dsimp only; walk1) | (leave1; try dsimp only))
  unfold Hold
  with_reducible refine' method_type ?F ?X ?m (by decide +kernel) ?e ?h ?_
  case F => k_asm
  case X => k_asm
  case m => exact PySem.F.isi_meta_str
  case e => k_dflt k_is
  case h => k_handed
  repeat' (first | (with_reducible refine hold_builtin ?_) | (with_reducible refine hold_is ?_) | (k_unfold; (try dsimp only)) | (k_end; wrow_close) | walk1 | (dsimp only; walk1) | (leave1; try dsimp only))
  unfold Hold
  refine call_str_le (News.get (by k_asm) (by k_mem)) ?_
  try dsimp only
  repeat' (first | (with_reducible refine hold_is ?_) | (k_unfold; (try dsimp only)) | (k_end; wrow_close) | walk1 | (dsimp only; walk1) | (leave1; try dsimp only))
  unfold Hold
  refine is_ni_ni ?_
  try dsimp only
  repeat' (first | (k_unfold; (try dsimp only)) | (k_end; wrow_close) | walk1 | (dsimp only; walk1) | (leave1; try dsimp only))
  all_goals ((try dsimp only); (try k_unfold); (try dsimp only))
  rename News _ _ _ _ => Nz
  rename Fr _ _ _ _ => Fz
  exact hret _ _ _ (Kept.out KG Fz Nz fun _ h => h) rfl
theorem g_lt_gt {w mean mg mb} {q d : Addr} {ox : List DictEntry} {nx : Nat} {x : Str} {t : Tok} :
    Ctr 4 w mean mg mb 110 [(q, instObj 219 d), (d, dictOf ox nx)] [.str x t, .ref q] (fun v _ _ => v = .notImplemented) := by
  unfold Ctr
  intro dp un gd cn cs a ccd cl outer A₀ base h₀ L m s Q E B F X N T hk hroom hu hret
  w_on
  refine wpAny_call ?_
  k_dflt (refine' enter ?k1 ?k2 ?k3 ?k4 ?k5 ?kA ?kF ?kK ?k6 ?k7 ?k8 ?k9 ?kB ?_ ?c2 ?c3 ?c4 ?c5; (case kA => exact rfl); (case kF => exact rfl); (case kK => assumption); (case k1 => k_asm); (case k2 => k_asm); (case k3 => k_asm); (case k4 => k_asm); (case k5 => k_asm); (case k6 => k_is); (case k7 => k_is); (case k8 => ktr_room); (case k9 => exact BindsTo.of_eq rfl); (case c5 => decide); (case kB => exact locs rfl); (case c2 => exact rfl); (case c3 => exact rfl); (case c4 => exact rfl); k_whole)
  intro g L₁ h₁ KG F₁ N₁ B₁ X₁ T₁ hlt
  clear F N B X T hlt
  dsimp only
  k_fold
  repeat' (first | (with_reducible refine hold_getm ?_) | (with_reducible refine hold_builtin ?_) | (with_reducible refine hold_is ?_) | (k_unfold; (try dsimp only)) | (k_end; wrow_close) | walk1 | (dsimp only; walk1) | (leave1; try dsimp only))
  unfold Hold
  with_reducible refine' method_type ?F ?X ?m (by decide +kernel) ?e ?h ?_
  case F => k_asm
  case X => k_asm
  case m => exact PySem.F.isi_meta_str
  case e => k_dflt k_is
  case h => k_handed
  repeat' (first | (with_reducible refine hold_builtin ?_) | (with_reducible refine hold_is ?_) | (k_unfold; (try dsimp only)) | (k_end; wrow_close) | walk1 | (dsimp only; walk1) | (leave1; try dsimp only))
  unfold Hold
  refine call_str_gt (News.get (by k_asm) (by k_mem)) ?_
  try dsimp only
  repeat' (first | (with_reducible refine hold_is ?_) | (k_unfold; (try dsimp only)) | (k_end; wrow_close) | walk1 | (dsimp only; walk1) | (leave1; try dsimp only))
  unfold Hold
  refine is_ni_ni ?_
  try dsimp only
  repeat' (first | (k_unfold; (try dsimp only)) | (k_end; wrow_close) | walk1 | (dsimp only; walk1) | (leave1; try dsimp only))
  all_goals ((try dsimp only); (try k_unfold); (try dsimp only))
  rename News _ _ _ _ => Nz
  rename Fr _ _ _ _ => Fz
  exact hret _ _ _ (Kept.out KG Fz Nz fun _ h => h) rfl
theorem g_ge_gt {w mean mg mb} {q d : Addr} {ox : List DictEntry} {nx : Nat} {x : Str} {t : Tok} :
    Ctr 4 w mean mg mb 117 [(q, instObj 219 d), (d, dictOf ox nx)] [.str x t, .ref q] (fun v _ _ => v = .notImplemented) := by
  unfold Ctr
  intro dp un gd cn cs a ccd cl outer A₀ base h₀ L m s Q E B F X N T hk hroom hu hret
  w_on
  refine wpAny_call ?_
  k_dflt (refine' enter ?k1 ?k2 ?k3 ?k4 ?k5 ?kA ?kF ?kK ?k6 ?k7 ?k8 ?k9 ?kB ?_ ?c2 ?c3 ?c4 ?c5; (case kA => exact rfl); (case kF => exact rfl); (case kK => assumption); (case k1 => k_asm); (case k2 => k_asm); (case k3 => k_asm); (case k4 => k_asm); (case k5 => k_asm); (case k6 => k_is); (case k7 => k_is); (case k8 => ktr_room); (case k9 => exact BindsTo.of_eq rfl); (case c5 => decide); (case kB => exact locs rfl); (case c2 => exact rfl); (case c3 => exact rfl); (case c4 => exact rfl); k_whole)
  intro g L₁ h₁ KG F₁ N₁ B₁ X₁ T₁ hlt
  clear F N B X T hlt
  dsimp only
  k_fold
  repeat' (first | (with_reducible refine hold_getm ?_) | (with_reducible refine hold_builtin ?_) | (with_reducible refine hold_is ?_) | (k_unfold; (try dsimp only)) | (k_end; wrow_close) | walk1 | (dsimp only; walk1) | (leave1; try dsimp only))
  unfold Hold
  with_reducible refine' method_type ?F ?X ?m (by decide +kernel) ?e ?h ?_
  case F => k_asm
  case X => k_asm
  case m => exact PySem.F.isi_meta_str
  case e => k_dflt k_is
  case h => k_handed
  repeat' (first | (with_reducible refine hold_builtin ?_) | (with_reducible refine hold_is ?_) | (k_unfold; (try dsimp only)) | (k_end; wrow_close) | walk1 | (dsimp only; walk1) | (leave1; try dsimp only))
  unfold Hold
  refine call_str_gt (News.get (by k_asm) (by k_mem)) ?_
  try dsimp only
  repeat' (first | (with_reducible refine hold_is ?_) | (k_unfold; (try dsimp only)) | (k_end; wrow_close) | walk1 | (dsimp only; walk1) | (leave1; try dsimp only))
  unfold Hold
  refine is_ni_ni ?_
  try dsimp only
  repeat' (first | (k_unfold; (try dsimp only)) | (k_end; wrow_close) | walk1 | (dsimp only; walk1) | (leave1; try dsimp only))
  all_goals ((try dsimp only); (try k_unfold); (try dsimp only))
  rename News _ _ _ _ => Nz
  rename Fr _ _ _ _ => Fz
  exact hret _ _ _ (Kept.out KG Fz Nz fun _ h => h) rfl
theorem g_le_gt {w mean mg mb} {q d : Addr} {ox : List DictEntry} {nx : Nat} {x : Str} {t : Tok} :
    Ctr 4 w mean mg mb 124 [(q, instObj 219 d), (d, dictOf ox nx)] [.str x t, .ref q] (fun v _ _ => v = .notImplemented) := by
  unfold Ctr
  intro dp un gd cn cs a ccd cl outer A₀ base h₀ L m s Q E B F X N T hk hroom hu hret
  w_on
  refine wpAny_call ?_
  k_dflt (refine' enter ?k1 ?k2 ?k3 ?k4 ?k5 ?kA ?kF ?kK ?k6 ?k7 ?k8 ?k9 ?kB ?_ ?c2 ?c3 ?c4 ?c5; (case kA => exact rfl); (case kF => exact rfl); (case kK => assumption); (case k1 => k_asm); (case k2 => k_asm); (case k3 => k_asm); (case k4 => k_asm); (case k5 => k_asm); (case k6 => k_is); (case k7 => k_is); (case k8 => ktr_room); (case k9 => exact BindsTo.of_eq rfl); (case c5 => decide); (case kB => exact locs rfl); (case c2 => exact rfl); (case c3 => exact rfl); (case c4 => exact rfl); k_whole)
  intro g L₁ h₁ KG F₁ N₁ B₁ X₁ T₁ hlt
  clear F N B X T hlt
  dsimp only
  k_fold
  repeat' (first | (with_reducible refine hold_getm ?_) | (with_reducible refine hold_builtin ?_) | (with_reducible refine hold_is ?_) | (k_unfold; (try dsimp only)) | (k_end; wrow_close) | walk1 | (dsimp only; walk1) | (leave1; try dsimp only))
  unfold Hold
  with_reducible refine' method_type ?F ?X ?m (by decide +kernel) ?e ?h ?_
  case F => k_asm
  case X => k_asm
  case m => exact PySem.F.isi_meta_str
  case e => k_dflt k_is
  case h => k_handed
  repeat' (first | (with_reducible refine hold_builtin ?_) | (with_reducible refine hold_is ?_) | (k_unfold; (try dsimp only)) | (k_end; wrow_close) | walk1 | (dsimp only; walk1) | (leave1; try dsimp only))
  unfold Hold
  refine call_str_gt (News.get (by k_asm) (by k_mem)) ?_
  try dsimp only
  repeat' (first | (with_reducible refine hold_is ?_) | (k_unfold; (try dsimp only)) | (k_end; wrow_close) | walk1 | (dsimp only; walk1) | (leave1; try dsimp only))
  unfold Hold
  refine is_ni_ni ?_
  try dsimp only
  repeat' (first | (k_unfold; (try dsimp only)) | (k_end; wrow_close) | walk1 | (dsimp only; walk1) | (leave1; try dsimp only))
  all_goals ((try dsimp only); (try k_unfold); (try dsimp only))
  rename News _ _ _ _ => Nz
  rename Fr _ _ _ _ => Fz
  exact hret _ _ _ (Kept.out KG Fz Nz fun _ h => h) rfl
theorem g_le_ge {w mean mg mb} {q d : Addr} {ox : List DictEntry} {nx : Nat} {x : Str} {t : Tok} :
    Ctr 4 w mean mg mb 131 [(q, instObj 219 d), (d, dictOf ox nx)] [.str x t, .ref q] (fun v _ _ => v = .notImplemented) := by
  unfold Ctr
  intro dp un gd cn cs a ccd cl outer A₀ base h₀ L m s Q E B F X N T hk hroom hu hret
  w_on
  refine wpAny_call ?_
  k_dflt (refine' enter ?k1 ?k2 ?k3 ?k4 ?k5 ?kA ?kF ?kK ?k6 ?k7 ?k8 ?k9 ?kB ?_ ?c2 ?c3 ?c4 ?c5; (case kA => exact rfl); (case kF => exact rfl); (case kK => assumption); (case k1 => k_asm); (case k2 => k_asm); (case k3 => k_asm); (case k4 => k_asm); (case k5 => k_asm); (case k6 => k_is); (case k7 => k_is); (case k8 => ktr_room); (case k9 => exact BindsTo.of_eq rfl); (case c5 => decide); (case kB => exact locs rfl); (case c2 => exact rfl); (case c3 => exact rfl); (case c4 => exact rfl); k_whole)
  intro g L₁ h₁ KG F₁ N₁ B₁ X₁ T₁ hlt
  clear F N B X T hlt
  dsimp only
  k_fold
  repeat' (first | (with_reducible refine hold_getm ?_) | (with_reducible refine hold_builtin ?_) | (with_reducible refine hold_is ?_) | (k_unfold; (try dsimp only)) | (k_end; wrow_close) | walk1 | (dsimp only; walk1) | (leave1; try dsimp only))
  unfold Hold
  with_reducible refine' method_type ?F ?X ?m (by decide +kernel) ?e ?h ?_
  case F => k_asm
  case X => k_asm
  case m => exact PySem.F.isi_meta_str
  case e => k_dflt k_is
  case h => k_handed
  repeat' (first | (with_reducible refine hold_builtin ?_) | (with_reducible refine hold_is ?_) | (k_unfold; (try dsimp only)) | (k_end; wrow_close) | walk1 | (dsimp only; walk1) | (leave1; try dsimp only))
  unfold Hold
  refine call_str_ge (News.get (by k_asm) (by k_mem)) ?_
  try dsimp only
  repeat' (first | (with_reducible refine hold_is ?_) | (k_unfold; (try dsimp only)) | (k_end; wrow_close) | walk1 | (dsimp only; walk1) | (leave1; try dsimp only))
  unfold Hold
  refine is_ni_ni ?_
  try dsimp only
  repeat' (first | (k_unfold; (try dsimp only)) | (k_end; wrow_close) | walk1 | (dsimp only; walk1) | (leave1; try dsimp only))
  all_goals ((try dsimp only); (try k_unfold); (try dsimp only))
  rename News _ _ _ _ => Nz
  rename Fr _ _ _ _ => Fz
  exact hret _ _ _ (Kept.out KG Fz Nz fun _ h => h) rfl
theorem g_gt_ge {w mean mg mb} {q d : Addr} {ox : List DictEntry} {nx : Nat} {x : Str} {t : Tok} :
    Ctr 4 w mean mg mb 138 [(q, instObj 219 d), (d, dictOf ox nx)] [.str x t, .ref q] (fun v _ _ => v = .notImplemented) := by
  unfold Ctr
  intro dp un gd cn cs a ccd cl outer A₀ base h₀ L m s Q E B F X N T hk hroom hu hret
  w_on
  refine wpAny_call ?_
  k_dflt (refine' enter ?k1 ?k2 ?k3 ?k4 ?k5 ?kA ?kF ?kK ?k6 ?k7 ?k8 ?k9 ?kB ?_ ?c2 ?c3 ?c4 ?c5; (case kA => exact rfl); (case kF => exact rfl); (case kK => assumption); (case k1 => k_asm); (case k2 => k_asm); (case k3 => k_asm); (case k4 => k_asm); (case k5 => k_asm); (case k6 => k_is); (case k7 => k_is); (case k8 => ktr_room); (case k9 => exact BindsTo.of_eq rfl); (case c5 => decide); (case kB => exact locs rfl); (case c2 => exact rfl); (case c3 => exact rfl); (case c4 => exact rfl); k_whole)
  intro g L₁ h₁ KG F₁ N₁ B₁ X₁ T₁ hlt
  clear F N B X T hlt
  dsimp only
  k_fold
  repeat' (first | (with_reducible refine hold_getm ?_) | (with_reducible refine hold_builtin ?_) | (with_reducible refine hold_is ?_) | (k_unfold; (try dsimp only)) | (k_end; wrow_close) | walk1 | (dsimp only; walk1) | (leave1; try dsimp only))
  unfold Hold
  with_reducible refine' method_type ?F ?X ?m (by decide +kernel) ?e ?h ?_
  case F => k_asm
  case X => k_asm
  case m => exact PySem.F.isi_meta_str
  case e => k_dflt k_is
  case h => k_handed
  repeat' (first | (with_reducible refine hold_builtin ?_) | (with_reducible refine hold_is ?_) | (k_unfold; (try dsimp only)) | (k_end; wrow_close) | walk1 | (dsimp only; walk1) | (leave1; try dsimp only))
  unfold Hold
  refine call_str_ge (News.get (by k_asm) (by k_mem)) ?_
  try dsimp only
  repeat' (first | (with_reducible refine hold_is ?_) | (k_unfold; (try dsimp only)) | (k_end; wrow_close) | walk1 | (dsimp only; walk1) | (leave1; try dsimp only))
  unfold Hold
  refine is_ni_ni ?_
  try dsimp only
  repeat' (first | (k_unfold; (try dsimp only)) | (k_end; wrow_close) | walk1 | (dsimp only; walk1) | (leave1; try dsimp only))
  all_goals ((try dsimp only); (try k_unfold); (try dsimp only))
  rename News _ _ _ _ => Nz
  rename Fr _ _ _ _ => Fz
  exact hret _ _ _ (Kept.out KG Fz Nz fun _ h => h) rfl
theorem g_lt_ge {w mean mg mb} {q d : Addr} {ox : List DictEntry} {nx : Nat} {x : Str} {t : Tok} :
    Ctr 4 w mean mg mb 145 [(q, instObj 219 d), (d, dictOf ox nx)] [.str x t, .ref q] (fun v _ _ => v = .notImplemented) := by
  unfold Ctr
  intro dp un gd cn cs a ccd cl outer A₀ base h₀ L m s Q E B F X N T hk hroom hu hret
  w_on
  refine wpAny_call ?_
  k_dflt (refine' enter ?k1 ?k2 ?k3 ?k4 ?k5 ?kA ?kF ?kK ?k6 ?k7 ?k8 ?k9 ?kB ?_ ?c2 ?c3 ?c4 ?c5; (case kA => exact rfl); (case kF => exact rfl); (case kK => assumption); (case k1 => k_asm); (case k2 => k_asm); (case k3 => k_asm); (case k4 => k_asm); (case k5 => k_asm); (case k6 => k_is); (case k7 => k_is); (case k8 => ktr_room); (case k9 => exact BindsTo.of_eq rfl); (case c5 => decide); (case kB => exact locs rfl); (case c2 => exact rfl); (case c3 => exact rfl); (case c4 => exact rfl); k_whole)
  intro g L₁ h₁ KG F₁ N₁ B₁ X₁ T₁ hlt
  clear F N B X T hlt
  dsimp only
  k_fold
  repeat' (first | (with_reducible refine hold_getm ?_) | (with_reducible refine hold_builtin ?_) | (with_reducible refine hold_is ?_) | (k_unfold; (try dsimp only)) | (k_end; wrow_close) | walk1 | (dsimp only; walk1) | (leave1; try dsimp only))
  unfold Hold
  with_reducible refine' method_type ?F ?X ?m (by decide +kernel) ?e ?h ?_
  case F => k_asm
  case X => k_asm
  case m => exact PySem.F.isi_meta_str
  case e => k_dflt k_is
  case h => k_handed
  repeat' (first | (with_reducible refine hold_builtin ?_) | (with_reducible refine hold_is ?_) | (k_unfold; (try dsimp only)) | (k_end; wrow_close) | walk1 | (dsimp only; walk1) | (leave1; try dsimp only))
  unfold Hold
  refine call_str_ge (News.get (by k_asm) (by k_mem)) ?_
  try dsimp only
  repeat' (first | (with_reducible refine hold_is ?_) | (k_unfold; (try dsimp only)) | (k_end; wrow_close) | walk1 | (dsimp only; walk1) | (leave1; try dsimp only))
  unfold Hold
  refine is_ni_ni ?_
  try dsimp only
  repeat' (first | (k_unfold; (try dsimp only)) | (k_end; wrow_close) | walk1 | (dsimp only; walk1) | (leave1; try dsimp only))
  all_goals ((try dsimp only); (try k_unfold); (try dsimp only))
  rename News _ _ _ _ => Nz
  rename Fr _ _ _ _ => Fz
  exact hret _ _ _ (Kept.out KG Fz Nz fun _ h => h) rfl
end Mine

namespace Mine
set_option maxRecDepth 100000
set_option maxHeartbeats 1000000

theorem Ctr.mono {k : Nat} {w mean mg mb} {f : Addr} {news₀ news : List (Addr × Obj)} {vs : List Value} {Post : Value → Heap → Heap → Prop} (C : Ctr k w mean mg mb f news₀ vs Post) (hs : ∀ p ∈ news₀, p ∈ news) : Ctr k w mean mg mb f news vs Post :=
  fun dp un gd cn cs a ccd cl outer A₀ base h₀ L m s Q E B F X N T hk hd hu hret => C dp un gd cn cs a ccd cl outer A₀ base h₀ L m s Q E B F X (fun p hp => N p (hs p hp)) T hk hd hu hret

/-- one of the twelve, over two names and their plain texts -/
structure Good (w : World) (mean : ExcName → Option Value) (mg mb : Str → Option Value) (news : List (Addr × Obj)) (q1 q2 : Addr) (x y : Str) (tx ty : Tok) (f : Addr) (b : Bool) : Prop where
  qq : Ctr 4 w mean mg mb f news [.ref q1, .ref q2] (fun v _ _ => v = .bool b)
  qs : Ctr 4 w mean mg mb f news [.ref q1, .str y ty] (fun v _ _ => v = .bool b)
  sq : Ctr 4 w mean mg mb f news [.str x tx, .ref q2] (fun v _ _ => v = .notImplemented)
  keep : keepIn (hd.heap_39 w.params) (.ref f) = true

section
variable {k : Nat} {w : World} {mean : ExcName → Option Value} {mg mb : Str → Option Value} {f : Addr} {news news₀ : List (Addr × Obj)} {vs : List Value}
  {dp un : Nat} {gd : Option (List Code)} {cn : Str} {cs : Scope} {a : Addr} {ccd : Value} {cl : List (Str × Addr)} {outer : List Env} {A₀ : Around} {base h₀ : Heap} {L : Addr} {m : Str → Option Value} {s : Shared} {Q E : Value → Shared → Prop}
theorem Ctr.useN (C : Ctr k w mean mg mb f news₀ vs (fun v _ _ => v = .notImplemented)) (B : Below A₀ base outer h₀) (F : Fr h₀ L s.heap m) (X : (hd.heap_39 w.params).In h₀) (N : News h₀ L s.heap news) (T : Top hd.view_39 (looseW hd.view_39 [Str.ofString "_filemode_table"]) mean mg mb h₀)
    (hk : cs.kind = .function) (hd : dp + k < recursionLimit) (hu : un + 20 * k < cLine) (hs : ∀ p ∈ news₀, p ∈ news)
    (ret : ∀ h' tk', Fr h₀ L h' m → News h₀ L h' news → Q .notImplemented { s with heap := h', toks := tk' }) :
    wpAny (model PySem.Challenge.rw_op0109_01.row.prog w) (ktrTop dp un gd cn cs L a ccd cl outer) (call (.ref f) vs) Q E s :=
  C.use B F X N T hk hd hu hs fun v h' tk' _ F' N' e => e ▸ ret h' tk' F' N'
end

/-- the list of pairs that the law makes -/
def Made (news : List (Addr × Obj)) (G : Addr → Bool → Prop) (vs : List Value) : Prop := ∀ (j : Nat) v, vs[j]? = some v → ∃ a f b, v = .ref a ∧ (a, ({ cls := .type "tuple", data := .seq #[.ref f, .bool b] } : Obj)) ∈ news ∧ G f b
theorem Made.cons {news : List (Addr × Obj)} {G : Addr → Bool → Prop} {a f : Addr} {b : Bool} {vs : List Value} (h : (a, ({ cls := .type "tuple", data := .seq #[.ref f, .bool b] } : Obj)) ∈ news) (g : G f b) (m : Made news G vs) : Made news G (.ref a :: vs)
  | 0, _, e => ⟨a, f, b, (Option.some.inj e).symm, h, g⟩
  | j + 1, v, e => m j v e
theorem Made.more {news news' : List (Addr × Obj)} {G : Addr → Bool → Prop} {vs : List Value} (h : ∀ p ∈ news, p ∈ news') (m : Made news G vs) : Made news' G vs := fun j v e => by
  obtain ⟨a, f, b, e', i, g⟩ := m j v e
  exact ⟨a, f, b, e', h _ i, g⟩
theorem for_made {prog : Program} {w : World} {A : Around} {E : Value → Shared → Prop} {s : Shared} {h₀ : Heap} {env : Env} {m : Str → Option Value} {news : List (Addr × Obj)} {Q : Flow → Shared → Prop} {target : Expr} {body orelse : List Stmt} {r : Addr} {lo : Obj} {vs : List Value} {nn : Nat} (G : Addr → Bool → Prop) (hh : A.handled = none) (hc : lo.cls = .type "list") (hd : lo.data = .seq vs.toArray nn) (hm : (r, lo) ∈ news) (F : Fr h₀ env.locals s.heap m) (N : News h₀ env.locals s.heap news) (hM : Made news G vs)
    (P : (Str → Option Value) → Prop) (h0 : P m)
    (step : ∀ a f b m₁ h₁ tk₁ I oI, IsTup h₁ a #[.ref f, .bool b] → G f b → P m₁ → Fr h₀ env.locals h₁ m₁ → News h₀ env.locals h₁ ((I, oI) :: news) → (∀ p ∈ news, p.1 ≠ I) →
      wpAny (model prog w) A (assign target env (.ref a)) (fun _ s₂ => wpAny (model prog w) A (execs body env) (TurnEnd h₀ env.locals [(I, oI)] (fun m' n' => P m' ∧ n' = news) s Q) (fun _ _ => False) s₂) (fun _ _ => False) { s with heap := h₁, toks := tk₁ })
    (fin : ∀ m₁ h₁ tk₁, P m₁ → Fr h₀ env.locals h₁ m₁ → News h₀ env.locals h₁ news → wpAny (model prog w) A (execs orelse env) Q (fun _ _ => False) { s with heap := h₁, toks := tk₁ }) :
    wpAny (model prog w) A (pyIter (.ref r)) (fun it s₂ => codeAny (model prog w) A (.forLoop target it body orelse env) (fun r s' => match r with | .ok f => Q f s' | .error e => cameBackBy (model prog w) A env E e s') s₂) E s :=
  for_same hh hc hd hm F N P h0 (fun j v m₁ h₁ tk₁ I oI hx hP F₁ N₁ hn => by
    obtain ⟨a, f, b, rfl, ha, hG⟩ := hM j v (by simpa using hx)
    exact step a f b m₁ h₁ tk₁ I oI ⟨_, (N₁ _ (List.mem_cons_of_mem _ ha)).1, rfl, _, rfl⟩ hG hP F₁ N₁ hn) fin

section
variable {prog : Program} {w : World} {A : Around} {E : Value → Shared → Prop} {s : Shared} {h₀ : Heap} {L : Addr} {m : Str → Option Value} {env : Env} {G : Addr → Bool → Prop}
/-- an element of the display: a new pair, all else standing as it stood -/
def Pair (prog : Program) (w : World) (A : Around) (E : Value → Shared → Prop) (h₀ : Heap) (L : Addr) (m : Str → Option Value) (env : Env) (es : List Expr) (f : Addr) (b : Bool) : Prop :=
  ∀ (s : Shared) (Q : List Value → Shared → Prop) (pos : Pos), Fr h₀ L s.heap m → Q [.ref f, .bool b] s → wpAny (model prog w) A (spliced (backTo pos (starEach es env))) Q E s
/-- a display of such elements -/
def Pairs (prog : Program) (w : World) (A : Around) (E : Value → Shared → Prop) (h₀ : Heap) (L : Addr) (m : Str → Option Value) (env : Env) (G : Addr → Bool → Prop) (es : List Expr) : Prop :=
  ∀ (s : Shared) (news : List (Addr × Obj)) (pos : Pos) (Q : List Value → Shared → Prop), Fr h₀ L s.heap m → News h₀ L s.heap news →
    (∀ vs own h', Fr h₀ L h' m → News h₀ L h' (own ++ news) → Made own G vs → vs.length = es.length → Q vs { s with heap := h' }) → wpAny (model prog w) A (spliced (backTo pos (starEach es env))) Q E s
theorem pairs_run {es : List Expr} {news : List (Addr × Obj)} {pos : Pos} {Q : List Value → Shared → Prop} (P : Pairs prog w A E h₀ L m env G es) (F : Fr h₀ L s.heap m) (N : News h₀ L s.heap news)
    (k : ∀ vs own h', Fr h₀ L h' m → News h₀ L h' (own ++ news) → Made own G vs → vs.length = es.length → Q vs { s with heap := h' }) : wpAny (model prog w) A (spliced (backTo pos (starEach es env))) Q E s := P _ _ _ _ F N k
theorem Pairs.nil : Pairs prog w A E h₀ L m env G [] := fun _ _ _ _ F N k => spliced_none (k [] [] _ F N (fun _ _ h => by simp at h) rfl)
theorem Pairs.cons {es : List Expr} {k : Nat} {pos : Pos} {f : Addr} {b : Bool} {r : List Expr} (p : Pair prog w A E h₀ L m env es f b) (g : G f b) (r' : Pairs prog w A E h₀ L m env G r) : Pairs prog w A E h₀ L m env G (.Tuple es k pos :: r) :=
  fun _ _ _ _ F N k => spliced_more (Tuple_ (p _ _ _ F (newTuple_N F N (fun h' F' N' => r' _ _ _ _ F' N' fun vs own h'' F'' N'' M e => by
    refine k (_ :: vs) (own ++ [(_, { cls := .type "tuple", data := .seq #[.ref f, .bool b] })]) h'' F'' (fun q hq => N'' q ?_) (.cons (List.mem_append_right _ (List.mem_singleton.mpr rfl)) g (M.more fun q hq => List.mem_append_left _ hq)) (by rw [List.length_cons, List.length_cons, e])
    rw [List.append_assoc] at hq
    exact hq) (by show 2 ≤ sizeLine; rw [sizeLine_eq]; decide))))
end
section
variable {prog : Program} {w : World} {A : Around} {E : Value → Shared → Prop} {K : Frag} {h₀ : Heap} {L a : Addr} {m mg mb : Str → Option Value} {p : Program} {loose : List Str} {cn x y z : Str} {cs : Scope} {ccd : Value} {cl : List (Str × Addr)} {px py pz pos : Pos} {f : Addr} {b c : Bool}
theorem pair_one (X : K.In h₀) (T : TopRead p loose mg mb h₀) (e : nsIn K mainGlobals x = some (some (.ref f))) (hv : m y = some (.bool b)) (hk : cs.kind = .function)
    (hx : (envX cn cs L a ccd cl).kindOf x = some .globalImplicit) (hd : (x == ("__debug__" : Str)) = false) (hy : (envX cn cs L a ccd cl).kindOf y = some .local) (hd' : (y == ("__debug__" : Str)) = false) :
    Pair prog w A E h₀ L m (envX cn cs L a ccd cl) [.Name x px, .Name y py] f b :=
  fun _ _ _ F h => spliced_more (nameX_K F X T e (spliced_more (nameX_L F hv (spliced_none h) hk hy hd')) hk hx hd)
theorem pair_or (X : K.In h₀) (T : TopRead p loose mg mb h₀) (e : nsIn K mainGlobals x = some (some (.ref f))) (hv : m y = some (.bool b)) (hw : m z = some (.bool c)) (hk : cs.kind = .function)
    (hx : (envX cn cs L a ccd cl).kindOf x = some .globalImplicit) (hd : (x == ("__debug__" : Str)) = false) (hy : (envX cn cs L a ccd cl).kindOf y = some .local) (hd' : (y == ("__debug__" : Str)) = false) (hz : (envX cn cs L a ccd cl).kindOf z = some .local) (hd'' : (z == ("__debug__" : Str)) = false) :
    Pair prog w A E h₀ L m (envX cn cs L a ccd cl) [.Name x px, .BoolOp .Or [.Name y py, .Name z pz] pos] f (b || c) :=
  fun _ _ _ F h => spliced_more (nameX_K F X T e (spliced_more (BoolOp_or (nameX_L F hv (wpAny_truthy_bool (by
    cases b
    · exact BoolOp_one (nameX_L F hw (by simpa using spliced_none h) hk hz hd'')
    · simpa using spliced_none h)) hk hy hd'))) hk hx hd)
end
theorem two_bools {b : Bool} {j : Nat} {v : Value} (h : (#[Value.bool b, Value.bool b] : Array Value)[j]? = some v) : v = .bool b :=
  match j, h with
  | 0, h => (Option.some.inj h).symm
  | 1, h => (Option.some.inj h).symm
  | _ + 2, h => by simp at h
theorem hold_cw {M : Model} {A : Around} {E : Value → Shared → Prop} {s : Shared} {Q : Value → Shared → Prop} {pos : Pos} {f : Addr} {fs : List Value} {as : List (Bool × Sem Value)} {ks} (h : Hold (wpAny M A (callWith pos (.ref f) fs as ks) Q E s)) : wpAny M A (callWith pos (.ref f) fs as ks) Q E s := h
theorem hold_isnot {M : Model} {A : Around} {E : Value → Shared → Prop} {s : Shared} {Q : Value → Shared → Prop} {a b : Value} (h : Hold (wpAny M A (compareOp .IsNot a b) Q E s)) : wpAny M A (compareOp .IsNot a b) Q E s := h

set_option maxHeartbeats 8000000 in
theorem c_agrees {w mean mg mb} {p1 q1 d1 p2 q2 d2 : Addr} {o1 o2 : Obj} {x y : Str} {tx ty t1 t2 : Tok} {l r : Int} {NN : List (Addr × Obj)}
    (hNN : NN = [(p1, { cls := .type "tuple", data := .seq #[.ref q1, .str x tx] }), (q1, instObj 219 d1), (d1, o1), (p2, { cls := .type "tuple", data := .seq #[.ref q2, .str y ty] }), (q2, instObj 219 d2), (d2, o2)])
    (G1 : Good w mean mg mb NN q1 q2 x y tx ty 96 (decide (l < r))) (G2 : Good w mean mg mb NN q1 q2 x y tx ty 110 (decide (l < r))) (G3 : Good w mean mg mb NN q1 q2 x y tx ty 145 (decide (l < r)))
    (G4 : Good w mean mg mb NN q1 q2 x y tx ty 75 (decide (l < r) || l == r)) (G5 : Good w mean mg mb NN q1 q2 x y tx ty 124 (decide (l < r) || l == r)) (G6 : Good w mean mg mb NN q1 q2 x y tx ty 131 (decide (l < r) || l == r))
    (G7 : Good w mean mg mb NN q1 q2 x y tx ty 68 (decide (r < l))) (G8 : Good w mean mg mb NN q1 q2 x y tx ty 103 (decide (r < l))) (G9 : Good w mean mg mb NN q1 q2 x y tx ty 138 (decide (r < l)))
    (G10 : Good w mean mg mb NN q1 q2 x y tx ty 82 (decide (r < l) || l == r)) (G11 : Good w mean mg mb NN q1 q2 x y tx ty 89 (decide (r < l) || l == r)) (G12 : Good w mean mg mb NN q1 q2 x y tx ty 117 (decide (r < l) || l == r)) :
    Ctr 8 w mean mg mb 251 NN [.ref p1, .ref p2, .int l t1, .int r t2] (fun v _ _ => v = .bool true) := by
  unfold Ctr
  intro dp un gd cn cs a ccd cl outer A₀ base h₀ L m s Q E B F X N T hk hroom hu hret
  w_on
  refine wpAny_call ?_
  k_dflt (refine' enter ?k1 ?k2 ?k3 ?k4 ?k5 ?kA ?kF ?kK ?k6 ?k7 ?k8 ?k9 ?kB ?_ ?c2 ?c3 ?c4 ?c5; (case kA => exact rfl); (case kF => exact rfl); (case kK => assumption); (case k1 => k_asm); (case k2 => k_asm); (case k3 => k_asm); (case k4 => k_asm); (case k5 => k_asm); (case k6 => k_is); (case k7 => k_is); (case k8 => ktr_room); (case k9 => exact BindsTo.of_eq rfl); (case c5 => decide); (case kB => exact locs rfl); (case c2 => exact rfl); (case c3 => exact rfl); (case c4 => exact rfl); k_whole)
  intro g L₁ h₁ KG F₁ N₁ B₁ X₁ T₁ hlt
  clear F N B X T hlt
  dsimp only
  k_fold
  repeat' (first | (with_reducible refine hold_list ?_) | (with_reducible refine hold_for ?_) | (k_unfold; (try dsimp only)) | (k_end; wrow_close) | walk1 | (dsimp only; walk1) | (leave1; try dsimp only))
  unfold Hold
  rename News _ _ _ _ => Nq
  rename Fr _ _ _ _ => Fq
  refine List_ (pairs_run (G := Good w mean mg mb NN q1 q2 x y tx ty) ?pairs Fq Nq ?_)
  case pairs =>
    iterate 3 (k_dflt (refine' Pairs.cons (pair_one X₁ (topRead_of T₁) ?e ?v ?k ?x ?d ?y ?d2) ?g ?_); (case e => k_is); (case v => exact rfl); (case k => exact rfl); (case x => exact rfl); (case d => decide); (case y => exact rfl); (case d2 => decide); (case g => assumption))
    iterate 3 (k_dflt (refine' Pairs.cons (pair_or X₁ (topRead_of T₁) ?e ?v ?v2 ?k ?x ?d ?y ?d2 ?z ?d3) ?g ?_); (case e => k_is); (case v => exact rfl); (case v2 => exact rfl); (case k => exact rfl); (case x => exact rfl); (case d => decide); (case y => exact rfl); (case d2 => decide); (case z => exact rfl); (case d3 => decide); (case g => assumption))
    iterate 3 (k_dflt (refine' Pairs.cons (pair_one X₁ (topRead_of T₁) ?e ?v ?k ?x ?d ?y ?d2) ?g ?_); (case e => k_is); (case v => exact rfl); (case k => exact rfl); (case x => exact rfl); (case d => decide); (case y => exact rfl); (case d2 => decide); (case g => assumption))
    iterate 3 (k_dflt (refine' Pairs.cons (pair_or X₁ (topRead_of T₁) ?e ?v ?v2 ?k ?x ?d ?y ?d2 ?z ?d3) ?g ?_); (case e => k_is); (case v => exact rfl); (case v2 => exact rfl); (case k => exact rfl); (case x => exact rfl); (case d => decide); (case y => exact rfl); (case d2 => decide); (case z => exact rfl); (case d3 => decide); (case g => assumption))
    exact Pairs.nil
  intro vs own hm Fm Nm hM hvl
  clear Fq Nq G1 G2 G3 G4 G5 G6 G7 G8 G9 G10 G11 G12
  replace hvl : vs.length = 12 := hvl
  dsimp only
  refine newList_K Fm Nm ?_ (by rw [hvl, sizeLine_eq]; decide)
  intro ml hm' F₃ N₃ _
  have N₄ : News g L₁ hm' ((ml, W.listOf vs.toArray 0) :: (NN ++ own)) := fun q hq => N₃ q (by
    simp only [List.mem_cons, List.mem_append] at hq ⊢
    rcases hq with h | h | h
    · exact .inl h
    · exact .inr (.inr (by first | exact h | exact .inr h))
    · exact .inr (.inl h))
  clear Fm Nm N₃
  try dsimp only
  repeat' (first | (with_reducible refine hold_for ?_) | (k_unfold; (try dsimp only)) | (k_end; wrow_close) | walk1 | (dsimp only; walk1) | (leave1; try dsimp only))
  unfold Hold
  refine wpAny_For ?_ (fun _ => rfl)
  repeat' (first | (k_unfold; (try dsimp only)) | (k_end; wrow_close) | walk1 | (dsimp only; walk1) | (leave1; try dsimp only))
  rename News _ _ _ _ => Nq
  rename Fr _ _ _ _ => Fq
  refine for_made (h₀ := g) (Good w mean mg mb NN q1 q2 x y tx ty) rfl rfl rfl (List.mem_cons_self ..) Fq Nq (hM.more fun q hq => List.mem_cons_of_mem _ (List.mem_append_right _ hq)) (fun m₁ => m₁ (Str.ofString "one") = some (.ref p1) ∧ m₁ (Str.ofString "other") = some (.ref p2)) ⟨rfl, rfl⟩ ?step ?fin
  case fin =>
    intro m₁ h₂ tk₂ hP F₂ N₂
    clear Fq Nq
    dsimp only
    repeat' (first | (k_unfold; (try dsimp only)) | (k_end; wrow_close) | walk1 | (dsimp only; walk1) | (leave1; try dsimp only))
    all_goals ((try dsimp only); (try k_unfold); (try dsimp only))
    exact hret _ _ _ (Kept.out KG F₂ N₂ fun q hq => List.mem_cons_of_mem _ (List.mem_append_left _ hq)) rfl
  case step =>
    intro a' f b m₁ h₂ tk₂ I oI hT hG hP F₂ N₂ hn
    obtain ⟨hone, hoth⟩ := hP
    have F₃ := fr_norm (x := Str.ofString "one") (fr_norm F₂ hoth) ((if_neg (by decide)).trans hone)
    clear F₂ Fq Nq hM hvl hone hoth
    subst hNN
    simp only [List.cons_append, List.nil_append] at N₂
    dsimp only
    repeat' (first | (with_reducible refine hold_for ?_) | (k_unfold; (try dsimp only)) | (k_end; wrow_close) | walk1 | (dsimp only; walk1) | (leave1; try dsimp only))
    unfold Hold
    refine wpAny_For ?_ (fun _ => rfl)
    repeat' (first | (with_reducible refine hold_cw ?_) | (k_unfold; (try dsimp only)) | (k_end; wrow_close) | walk1 | (dsimp only; walk1) | (leave1; try dsimp only))
    unfold Hold
    k_dflt (refine' callWith_K ?k1 ?k2 ?_; (case k1 => k_asm); (case k2 => exact Good.keep hG); k_whole)
    repeat' (first | (with_reducible refine hold_ref ?_) | (k_unfold; (try dsimp only)) | (k_end; wrow_close) | walk1 | (dsimp only; walk1) | (leave1; try dsimp only))
    unfold Hold
    k_dflt (first
      | refine' Ctr.useB (Good.qq hG) ?k1 ?k2 ?k3 ?k4 ?k5 ?kK ?kd ?ku ?ks ?_
      | refine' Ctr.useB (Good.qs hG) ?k1 ?k2 ?k3 ?k4 ?k5 ?kK ?kd ?ku ?ks ?_
      | refine' Ctr.useN (Good.sq hG) ?k1 ?k2 ?k3 ?k4 ?k5 ?kK ?kd ?ku ?ks ?_)
    k_dflt ((case k1 => k_asm); (case k2 => k_asm); (case k3 => k_asm); (case k4 => k_asm); (case k5 => k_asm); (case kK => exact rfl); (case kd => ktr_room); (case ku => ktr_units); (case ks => kcj_all))
    intro _ _ _ _
    try dsimp only
    try k_sweep
    repeat' (first | (with_reducible refine hold_cw ?_) | (k_unfold; (try dsimp only)) | (k_end; wrow_close) | walk1 | (dsimp only; walk1) | (leave1; try dsimp only))
    unfold Hold
    k_dflt (refine' callWith_K ?k1 ?k2 ?_; (case k1 => k_asm); (case k2 => exact Good.keep hG); k_whole)
    repeat' (first | (with_reducible refine hold_ref ?_) | (k_unfold; (try dsimp only)) | (k_end; wrow_close) | walk1 | (dsimp only; walk1) | (leave1; try dsimp only))
    unfold Hold
    k_dflt (first
      | refine' Ctr.useB (Good.qq hG) ?k1 ?k2 ?k3 ?k4 ?k5 ?kK ?kd ?ku ?ks ?_
      | refine' Ctr.useB (Good.qs hG) ?k1 ?k2 ?k3 ?k4 ?k5 ?kK ?kd ?ku ?ks ?_
      | refine' Ctr.useN (Good.sq hG) ?k1 ?k2 ?k3 ?k4 ?k5 ?kK ?kd ?ku ?ks ?_)
    k_dflt ((case k1 => k_asm); (case k2 => k_asm); (case k3 => k_asm); (case k4 => k_asm); (case k5 => k_asm); (case kK => exact rfl); (case kd => ktr_room); (case ku => ktr_units); (case ks => kcj_all))
    intro _ _ _ _
    try dsimp only
    try k_sweep
    repeat' (first | (k_unfold; (try dsimp only)) | (k_end; wrow_close) | walk1 | (dsimp only; walk1) | (leave1; try dsimp only))
    rename News _ _ _ _ => Nr
    rename Fr _ _ _ _ => Fr'
    refine for_same (h₀ := g) rfl rfl rfl (List.mem_cons_self ..) Fr' Nr (fun m₁ => m₁ (Str.ofString "one") = some (.ref p1) ∧ m₁ (Str.ofString "other") = some (.ref p2) ∧ m₁ (Str.ofString "compared") = some (.ref f) ∧ m₁ (Str.ofString "due") = some (.bool b)) ⟨rfl, rfl, rfl, rfl⟩ ?jstep ?jfin
    case jstep =>
      rintro j v m₃ h₃ tk₃ I₃ oI₃ hx ⟨h1, h2, h3, h4⟩ F₄ N₄ hn₃
      obtain rfl := two_bools hx
      have F₅ := fr_norm (x := Str.ofString "due") (fr_norm (x := Str.ofString "compared") (fr_norm (x := Str.ofString "other") (fr_norm F₄ h1) ((if_neg (by decide)).trans h2)) ((if_neg (by decide)).trans ((if_neg (by decide)).trans h3))) ((if_neg (by decide)).trans ((if_neg (by decide)).trans ((if_neg (by decide)).trans h4)))
      clear Fr' F₄ Nr h1 h2 h3 h4 hx
      dsimp only
      repeat' (first | (k_unfold; (try dsimp only)) | (k_end; wrow_close) | walk1 | (dsimp only; walk1) | (leave1; try dsimp only))
      · rename (b != b) = true => hb
        simp at hb
      · rename News _ _ _ _ => Nz
        rename Fr _ _ _ _ => Fz
        exact ⟨_, _, _, _, rfl, Fz, Nz, fun p hp u hu => by rw [List.mem_singleton.mp hu]; exact hn₃ p hp, ⟨rfl, rfl, rfl, rfl⟩, rfl⟩
    case jfin =>
      rintro m₃ h₃ tk₃ ⟨h1, h2, h3, h4⟩ F₄ N₄
      have F₅ := fr_norm (x := Str.ofString "compared") (fr_norm (x := Str.ofString "other") (fr_norm F₄ h1) ((if_neg (by decide)).trans h2)) ((if_neg (by decide)).trans ((if_neg (by decide)).trans h3))
      clear Fr' F₄ Nr h1 h2 h3 h4
      dsimp only
      repeat' (first | (with_reducible refine hold_cw ?_) | (k_unfold; (try dsimp only)) | (k_end; wrow_close) | walk1 | (dsimp only; walk1) | (leave1; try dsimp only))
      unfold Hold
      k_dflt (refine' callWith_K ?k1 ?k2 ?_; (case k1 => k_asm); (case k2 => exact Good.keep hG); k_whole)
      repeat' (first | (with_reducible refine hold_ref ?_) | (k_unfold; (try dsimp only)) | (k_end; wrow_close) | walk1 | (dsimp only; walk1) | (leave1; try dsimp only))
      unfold Hold
      k_dflt (first
        | refine' Ctr.useB (Good.qq hG) ?k1 ?k2 ?k3 ?k4 ?k5 ?kK ?kd ?ku ?ks ?_
        | refine' Ctr.useB (Good.qs hG) ?k1 ?k2 ?k3 ?k4 ?k5 ?kK ?kd ?ku ?ks ?_
        | refine' Ctr.useN (Good.sq hG) ?k1 ?k2 ?k3 ?k4 ?k5 ?kK ?kd ?ku ?ks ?_)
      k_dflt ((case k1 => k_asm); (case k2 => k_asm); (case k3 => k_asm); (case k4 => k_asm); (case k5 => k_asm); (case kK => exact rfl); (case kd => ktr_room); (case ku => ktr_units); (case ks => kcj_all))
      intro _ _ _ _
      try dsimp only
      try k_sweep
      repeat' (first | (with_reducible refine hold_isnot ?_) | (k_unfold; (try dsimp only)) | (k_end; wrow_close) | walk1 | (dsimp only; walk1) | (leave1; try dsimp only))
      unfold Hold
      refine isNot_ni_ni ?_
      try dsimp only
      repeat' (first | (k_unfold; (try dsimp only)) | (k_end; wrow_close) | walk1 | (dsimp only; walk1) | (leave1; try dsimp only))
      rename News _ _ _ _ => Nz
      rename Fr _ _ _ _ => Fz
      exact ⟨_, _, _, _, rfl, Fz, fun p hp => Nz p (List.mem_cons_of_mem _ hp), fun p hp u hu => by rw [List.mem_singleton.mp hu]; exact hn p hp, ⟨rfl, rfl⟩, rfl⟩
end Mine

namespace Mine
set_option maxRecDepth 100000
set_option maxHeartbeats 1000000

theorem Ctr.asB {k : Nat} {w mean mg mb} {f : Addr} {news : List (Addr × Obj)} {vs : List Value} {b b' : Bool} (C : Ctr k w mean mg mb f news vs (fun v _ _ => v = .bool b)) (e : b = b') : Ctr k w mean mg mb f news vs (fun v _ _ => v = .bool b') := e ▸ C

section
variable {w : World} {mean : ExcName → Option Value} {mg mb : Str → Option Value} {p1 q1 d1 p2 q2 d2 : Addr} {x y : Str} {t1 t2 t3 t4 tx ty : Tok}
theorem oth_q : Oth w mean mg mb [(q1, instObj 219 d1), (d1, qdict w x t1 t2), (q2, instObj 219 d2), (d2, qdict w y t3 t4)] q1 (.ref q2) (.ref 219)
    (decide (x.cps.toList < y.cps.toList)) (!decide (y.cps.toList < x.cps.toList)) (decide (y.cps.toList < x.cps.toList)) (!decide (x.cps.toList < y.cps.toList)) (x == y) where
  lt := m_lt_q
  le := m_le_q
  gt := m_gt_q
  ge := m_ge_q
  eq := m_eq_q
  ty := fun _ _ _ _ N => InstAt.type (InstAt.of_news N (List.Mem.tail _ (List.Mem.tail _ (List.Mem.head _))) (List.Mem.tail _ (List.Mem.tail _ (List.Mem.tail _ (List.Mem.head _)))))
  nf := by k_is
theorem oth_s : Oth w mean mg mb [(q1, instObj 219 d1), (d1, qdict w x t1 t2)] q1 (.str y ty) (.type "str")
    (decide (x.cps.toList < y.cps.toList)) (!decide (y.cps.toList < x.cps.toList)) (decide (y.cps.toList < x.cps.toList)) (!decide (x.cps.toList < y.cps.toList)) (x == y) where
  lt := m_lt_s
  le := m_le_s
  gt := m_gt_s
  ge := m_ge_s
  eq := m_eq_s
  ty := fun _ _ _ _ _ => Looks.of_pure rfl
  nf := by k_is

/-- the ledger of two names beside each other -/
noncomputable abbrev twoN (w : World) (p1 q1 d1 p2 q2 d2 : Addr) (x y : Str) (t1 t2 t3 t4 tx ty : Tok) : List (Addr × Obj) :=
  [(p1, { cls := .type "tuple", data := .seq #[.ref q1, .str x tx] }), (q1, instObj 219 d1), (d1, qdict w x t1 t2), (p2, { cls := .type "tuple", data := .seq #[.ref q2, .str y ty] }), (q2, instObj 219 d2), (d2, qdict w y t3 t4)]
theorem sub_q : ∀ p ∈ [(q1, instObj 219 d1), (d1, qdict w x t1 t2), (q2, instObj 219 d2), (d2, qdict w y t3 t4)], p ∈ twoN w p1 q1 d1 p2 q2 d2 x y t1 t2 t3 t4 tx ty := by kcj_all
theorem sub_s : ∀ p ∈ [(q1, instObj 219 d1), (d1, qdict w x t1 t2)], p ∈ twoN w p1 q1 d1 p2 q2 d2 x y t1 t2 t3 t4 tx ty := by kcj_all
theorem sub_r : ∀ p ∈ [(q2, instObj 219 d2), (d2, qdict w y t3 t4)], p ∈ twoN w p1 q1 d1 p2 q2 d2 x y t1 t2 t3 t4 tx ty := by kcj_all
variable {l r : Int}
theorem agrees_two (hlt : decide (x.cps.toList < y.cps.toList) = decide (l < r)) (hgt : decide (y.cps.toList < x.cps.toList) = decide (r < l)) (heq : (x == y) = (l == r)) {u1 u2 : Tok} :
    Ctr 8 w mean mg mb 251 (twoN w p1 q1 d1 p2 q2 d2 x y t1 t2 t3 t4 tx ty) [.ref p1, .ref p2, .int l u1, .int r u2] (fun v _ _ => v = .bool true) := by
  have c1 : (!decide (r < l) && !(l == r)) = decide (l < r) := by rw [Bool.eq_iff_iff]; simp; omega
  have c2 : (decide (l < r) || l == r) = !decide (r < l) := by rw [Bool.eq_iff_iff]; simp; omega
  have c3 : (!decide (l < r) && !(l == r)) = decide (r < l) := by rw [Bool.eq_iff_iff]; simp; omega
  have c4 : (decide (r < l) || l == r) = !decide (l < r) := by rw [Bool.eq_iff_iff]; simp; omega
  have c5 : (!!decide (l < r)) = decide (l < r) := Bool.not_not _
  have c6 : (!!decide (r < l)) = decide (r < l) := Bool.not_not _
  refine c_agrees rfl
    ⟨((f_lt_le oth_q).mono sub_q).asB (by rw [hgt, heq]; exact c1), ((f_lt_le oth_s).mono sub_s).asB (by rw [hgt, heq]; exact c1), g_lt_le.mono sub_r, by k_is⟩
    ⟨((f_lt_gt oth_q).mono sub_q).asB (by rw [hgt, heq]; exact c1), ((f_lt_gt oth_s).mono sub_s).asB (by rw [hgt, heq]; exact c1), g_lt_gt.mono sub_r, by k_is⟩
    ⟨((f_lt_ge oth_q).mono sub_q).asB (by rw [hlt]; exact c5), ((f_lt_ge oth_s).mono sub_s).asB (by rw [hlt]; exact c5), g_lt_ge.mono sub_r, by k_is⟩
    ⟨((f_le_lt oth_q).mono sub_q).asB (by rw [hlt, heq]), ((f_le_lt oth_s).mono sub_s).asB (by rw [hlt, heq]), g_le_lt.mono sub_r, by k_is⟩
    ⟨((f_le_gt oth_q).mono sub_q).asB (by rw [hgt]; exact c2.symm), ((f_le_gt oth_s).mono sub_s).asB (by rw [hgt]; exact c2.symm), g_le_gt.mono sub_r, by k_is⟩
    ⟨((f_le_ge oth_q).mono sub_q).asB (by rw [hlt, heq]; exact (by rw [c5])), ((f_le_ge oth_s).mono sub_s).asB (by rw [hlt, heq]; exact (by rw [c5])), g_le_ge.mono sub_r, by k_is⟩
    ⟨((f_gt_lt oth_q).mono sub_q).asB (by rw [hlt, heq]; exact c3), ((f_gt_lt oth_s).mono sub_s).asB (by rw [hlt, heq]; exact c3), g_gt_lt.mono sub_r, by k_is⟩
    ⟨((f_gt_le oth_q).mono sub_q).asB (by rw [hgt]; exact c6), ((f_gt_le oth_s).mono sub_s).asB (by rw [hgt]; exact c6), g_gt_le.mono sub_r, by k_is⟩
    ⟨((f_gt_ge oth_q).mono sub_q).asB (by rw [hlt, heq]; exact c3), ((f_gt_ge oth_s).mono sub_s).asB (by rw [hlt, heq]; exact c3), g_gt_ge.mono sub_r, by k_is⟩
    ⟨((f_ge_lt oth_q).mono sub_q).asB (by rw [hlt]; exact c4.symm), ((f_ge_lt oth_s).mono sub_s).asB (by rw [hlt]; exact c4.symm), g_ge_lt.mono sub_r, by k_is⟩
    ⟨((f_ge_le oth_q).mono sub_q).asB (by rw [hgt, heq]; exact (by rw [c6])), ((f_ge_le oth_s).mono sub_s).asB (by rw [hgt, heq]; exact (by rw [c6])), g_ge_le.mono sub_r, by k_is⟩
    ⟨((f_ge_gt oth_q).mono sub_q).asB (by rw [hgt, heq]), ((f_ge_gt oth_s).mono sub_s).asB (by rw [hgt, heq]), g_ge_gt.mono sub_r, by k_is⟩
end
end Mine

namespace Mine
set_option maxRecDepth 100000
set_option maxHeartbeats 4000000
theorem news_cons {h₀ h : Heap} {L : Addr} {news : List (Addr × Obj)} {p : Addr × Obj} (N : News h₀ L h news) (hp : p ∈ news) : News h₀ L h (p :: news) := fun q hq => by
  rcases List.mem_cons.mp hq with rfl | hq
  · exact N _ hp
  · exact N q hq
theorem two_items {a n : Int} {t u : Tok} {j : Nat} {v : Value} (h0 : 0 ≤ a) (h1 : a < n) (h : (#[Value.int a t, Value.int ((a + 1).fmod n) u] : Array Value)[j]? = some v) : ∃ i ti, v = .int i ti ∧ 0 ≤ i ∧ i < n := by
  have hb : 0 ≤ (a + 1).fmod n ∧ (a + 1).fmod n < n := by
    rw [Int.fmod_eq_emod_of_nonneg _ (by omega)]
    exact ⟨Int.emod_nonneg _ (by omega), Int.emod_lt_of_pos _ (by omega)⟩
  match j, h with
  | 0, h => exact ⟨a, t, (Option.some.inj (by simpa using h)).symm, h0, h1⟩
  | 1, h => exact ⟨_, u, (Option.some.inj (by simpa using h)).symm, hb.1, hb.2⟩
  | j + 2, h => simp at h
section
variable {M : Model} {A : Around} {E : Value → Shared → Prop} {s : Shared}
theorem hold_len {Q : Value → Shared → Prop} {args : List Value} {kw : List (Str × Value)} (h : Hold (wpAny M A (call (.builtin "len") args kw) Q E s)) : wpAny M A (call (.builtin "len") args kw) Q E s := h
theorem hold_execs {Q : Flow → Shared → Prop} {b : List Stmt} {env : Env} (h : Hold (wpAny M A (execs b env) Q E s)) : wpAny M A (execs b env) Q E s := h
def LawEnd (h₀ : Heap) (L : Addr) (s : Shared) (f : Flow) (s' : Shared) : Prop := f = .ret (.bool true) ∧ ∃ h' tk m', s' = { s with heap := h', toks := tk } ∧ Fr h₀ L h' m'
theorem small {h₀ : Heap} {L : Addr} {m : Str → Option Value} {b : List Stmt} {env : Env} {Q : Flow → Shared → Prop} (F : Fr h₀ L s.heap m)
    (body : wpAny M A (execs b env) (LawEnd h₀ L s) (fun _ _ => False) s)
    (post : ∀ h' tk m', Fr h₀ L h' m' → Q (.ret (.bool true)) { s with heap := h', toks := tk }) : wpAny M A (execs b env) Q E s :=
  wpAny_mono body (fun f s' h => by
    obtain ⟨rfl, h', tk, m', rfl, F'⟩ := h
    exact post h' tk m' F') fun _ _ h => h.elim
theorem hold_lc {Q : Flow → Shared → Prop} {ts : List Expr} {e : Expr} {gs : List Comprehension} {sc : Scope} {p p' : Pos} {env : Env} (h : Hold (wpAny M A (exec (.Assign ts (.ListComp e gs sc p) p') env) Q E s)) : wpAny M A (exec (.Assign ts (.ListComp e gs sc p) p') env) Q E s := h
theorem hold_iter {Q : Value → Shared → Prop} {a : Addr} (h : Hold (wpAny M A (pyIter (.ref a)) Q E s)) : wpAny M A (pyIter (.ref a)) Q E s := h
theorem hold_src {prog : Program} {w : World} {h₀ : Heap} {L : Addr} {m : Str → Option Value} {env : Env} {elt : Expr} {x : Str} {sc : Scope} {cl : List (Str × Addr)} {Fin : Shared → List Value → List (Addr × Obj) → Prop} {xv : Value} (h : Hold (LCg.CompSrc prog w A h₀ L m env elt x sc cl Fin xv s)) : LCg.CompSrc prog w A h₀ L m env elt x sc cl Fin xv s := h
end

section
variable {w : World} {mean : ExcName → Option Value} {mg mb : Str → Option Value} {news : List (Addr × Obj)} {n : Int} {t : Tok}
  {dp un : Nat} {gd : Option (List Code)} {cn : Str} {cs : Scope} {a : Addr} {ccd : Value} {cl : List (Str × Addr)} {outer : List Env} {A₀ : Around} {base h₀ : Heap} {L : Addr} {m : Str → Option Value} {s : Shared} {Q E : Value → Shared → Prop}
theorem named_use (B : Below A₀ base outer h₀) (F : Fr h₀ L s.heap m) (X : (hd.heap_39 w.params).In h₀) (N : News h₀ L s.heap news) (T : Top hd.view_39 (looseW hd.view_39 [Str.ofString "_filemode_table"]) mean mg mb h₀)
    (hk : cs.kind = .function) (hd : dp + 5 < recursionLimit) (hu : un + 20 * 5 < cLine)
    (ret : ∀ D q d t1 t2 t3 h' tk', Fr h₀ L h' m → News h₀ L h' ((D, pairObj q (nameS n) t1) :: (q, instObj 219 d) :: (d, qdict w (nameS n) t2 t3) :: news) → (∀ p ∈ news, p.1 ≠ D ∧ p.1 ≠ q ∧ p.1 ≠ d) → Q (.ref D) { s with heap := h', toks := tk' }) :
    wpAny (model PySem.Challenge.rw_op0109_01.row.prog w) (ktrTop dp un gd cn cs L a ccd cl outer) (call (.ref 244) [.int n t]) Q E s :=
  (c_named n t).use B F X N T hk hd hu (fun _ h => nomatch h) fun v h' tk' st F' N' po => by
    obtain ⟨D, q, d, t1, t2, t3, rfl, ⟨hD, hD'⟩, ⟨hq, hq'⟩, ⟨hd, hd'⟩⟩ := po
    have ne : ∀ b, s.heap.get? b = none → ∀ p ∈ news, p.1 ≠ b := fun b hb p hp e => by
      have := (N p hp).1
      rw [e, hb] at this; cases this
    exact ret D q d t1 t2 t3 h' tk' F' (news_more F (news_more F (news_more F N' hd' hd) hq' hq) hD' hD) fun p hp => ⟨ne D hD p hp, ne q hq p hp, ne d hd p hp⟩
end

/-- a name of the ledger's -/
def NameAt (w : World) (news : List (Addr × Obj)) (v : Value) (n : Int) : Prop :=
  ∃ D q d t1 t2 t3, v = .ref D ∧ (D, pairObj q (nameS n) t1) ∈ news ∧ (q, instObj 219 d) ∈ news ∧ (d, qdict w (nameS n) t2 t3) ∈ news
theorem NameAt.mono {w : World} {news news' : List (Addr × Obj)} {v : Value} {n : Int} (h : NameAt w news v n) (hs : ∀ p ∈ news, p ∈ news') : NameAt w news' v n := by
  obtain ⟨D, q, d, t1, t2, t3, e, a, b, c⟩ := h
  exact ⟨D, q, d, t1, t2, t3, e, hs _ a, hs _ b, hs _ c⟩
def NamesAre (w : World) (news : List (Addr × Obj)) (ys : List Value) (ns : List Int) : Prop := ∀ (j : Nat) v, ys[j]? = some v → ∃ n, ns[j]? = some n ∧ NameAt w news v n
/-- between the comprehension's turns -/
def CompJ (w : World) (nu : Addr × Obj) (ns : List Int) (i : Nat) (ys : List Value) (news : List (Addr × Obj)) : Prop := nu ∈ news ∧ ys.length = i ∧ NamesAre w news ys ns
theorem CompJ.step {w : World} {nu : Addr × Obj} {ns : List Int} {i : Nat} {ys : List Value} {news : List (Addr × Obj)} {n : Int} {D q d : Addr} {t1 t2 t3 : Tok} (h : CompJ w nu ns i ys news) (hn : ns[i]? = some n) :
    CompJ w nu ns (i + 1) (ys ++ [.ref D]) ((D, pairObj q (nameS n) t1) :: (q, instObj 219 d) :: (d, qdict w (nameS n) t2 t3) :: news) := by
  obtain ⟨h1, h2, h3⟩ := h
  have up : ∀ p ∈ news, p ∈ ((D, pairObj q (nameS n) t1) :: (q, instObj 219 d) :: (d, qdict w (nameS n) t2 t3) :: news) := fun p hp => List.mem_cons_of_mem _ (List.mem_cons_of_mem _ (List.mem_cons_of_mem _ hp))
  refine ⟨up _ h1, by simp [h2], fun j v hj => ?_⟩
  by_cases c : j < ys.length
  · rw [List.getElem?_append_left c] at hj
    obtain ⟨k, hk, hv⟩ := h3 j v hj
    exact ⟨k, hk, hv.mono up⟩
  · have cj : j = ys.length := by
      have := (List.getElem?_eq_some_iff.mp hj).1
      simp at this
      omega
    subst cj
    rw [List.getElem?_append_right (Nat.le_refl _)] at hj
    simp at hj
    subst hj h2
    exact ⟨n, hn, D, q, d, t1, t2, t3, rfl, List.mem_cons_self .., List.mem_cons_of_mem _ (List.mem_cons_self ..), List.mem_cons_of_mem _ (List.mem_cons_of_mem _ (List.mem_cons_self ..))⟩
theorem off3_of {I C D0 : Addr} {oI oC oD a b c : Obj} {D q d : Addr} {news : List (Addr × Obj)} (off : LCg.Off3 I C D0 news) (ne : ∀ p ∈ (I, oI) :: (C, oC) :: (D0, oD) :: news, p.1 ≠ D ∧ p.1 ≠ q ∧ p.1 ≠ d) :
    LCg.Off3 I C D0 ((D, a) :: (q, b) :: (d, c) :: news) := by
  have h1 := ne (I, oI) (by simp)
  have h2 := ne (C, oC) (by simp)
  have h3 := ne (D0, oD) (by simp)
  exact ⟨⟨h1.1.symm, h2.1.symm, h3.1.symm⟩, ⟨h1.2.1.symm, h2.2.1.symm, h3.2.1.symm⟩, ⟨h1.2.2.symm, h2.2.2.symm, h3.2.2.symm⟩, off⟩

section
variable {prog : Program} {w : World} {A : Around} {s : Shared} {h₀ : Heap} {L : Addr} {m : Str → Option Value} {env : Env}
theorem ints_at : ∀ {vs : List Value} {ns : List Int} {j : Nat} {v : Value}, IntsAre vs ns → vs[j]? = some v → ∃ n t, v = .int n t ∧ ns[j]? = some n
  | _, _, _, _, .nil, e => by simp at e
  | _, _, 0, _, .cons _ _ _, e => by
    simp only [List.getElem?_cons_zero, Option.some.injEq] at e
    exact ⟨_, _, e.symm, rfl⟩
  | _, _, j + 1, _, .cons _ _ q, e => by
    simp only [List.getElem?_cons_succ] at e ⊢
    exact ints_at q e
theorem comp_names {elt : Expr} {x : Str} {scope : Scope} {cl : List (Str × Addr)} {Fin : List Value → List (Addr × Obj) → Prop} {news : List (Addr × Obj)} {ws : List Value} {ns : List Int} {nu : Addr} {k : Nat}
    (hI : IntsAre ws ns) (hm : (nu, W.listOf ws.toArray k) ∈ news)
    (step : ∀ i n t ys news₁ I oI C oC D m₂ h tk (E' : Value → Shared → Prop), CompJ w (nu, W.listOf ws.toArray k) ns i ys news₁ → ns[i]? = some n → LCg.NsObj oC m₂ → m₂ x = some (.int n t) → Fr h₀ L h m → News h₀ L h ((I, oI) :: (C, oC) :: (D, LCg.lst ys) :: news₁) → LCg.Off3 I C D news₁ → ((@Ne Nat I C) ∧ (@Ne Nat I D) ∧ (@Ne Nat C D)) →
      wpAny (model prog w) A (eval elt (compEnvC scope cl C env)) (LCg.CompEnd h₀ L m { s with heap := h, toks := tk } I oI C oC D (LCg.lst ys) (LCg.SrcAt h₀ nu ws.toArray) (fun y news' => CompJ w (nu, W.listOf ws.toArray k) ns (i + 1) (ys ++ [y]) news')) E' { s with heap := h, toks := tk })
    (hb : 3 ≤ ns.length ∧ ns.length ≤ 6)
    (fin : ∀ ns' ys news₁, IntsAre ws ns' → 3 ≤ ns'.length → ns'.length ≤ 6 → (nu, W.listOf ws.toArray k) ∈ news₁ → ys.length = ns'.length → NamesAre w news₁ ys ns' → Fin ys news₁) : LCg.CompRest prog w A h₀ L m env elt x scope cl s (LCg.SrcAt h₀ nu ws.toArray) (fun i v => ws.toArray[i]? = some v) Fin ws.toArray.size 0 [] news := by
  refine comp_inv (CompJ w (nu, W.listOf ws.toArray k) ns) ⟨hm, rfl, fun j v h => by simp at h⟩ ?_ ?_
  · intro i ys news₁ v I oI C oC D m₂ h tk E' hJ hP hC hx F N off ne
    obtain ⟨n, t, rfl, hn⟩ := ints_at hI (by simpa using hP)
    exact step i n t ys news₁ I oI C oC D m₂ h tk E' hJ hn hC hx F N off ne
  · rintro ys news₁ ⟨a, b, c⟩
    rw [List.size_toArray, hI.length] at b
    exact fin ns ys news₁ hI hb.1 hb.2 a b c
end

theorem ints_bd {ns : List Int} : 3 ≤ ([19409, 19410, 62899] ++ List.take 3 ns).length ∧ ([19409, 19410, 62899] ++ List.take 3 ns).length ≤ 6 := by
  rw [List.length_append, List.length_take]
  show 3 ≤ 3 + _ ∧ 3 + _ ≤ 6
  omega
theorem ints_sz {ws : List Value} {ns : List Int} (hI : IntsAre ws ([19409, 19410, 62899] ++ List.take 3 ns)) : ws.toArray.size ≤ sizeLine := by
  have := ints_bd (ns := ns)
  rw [List.size_toArray, hI.length, sizeLine_eq]
  omega

section
variable {prog : Program} {w : World} {A : Around} {E : Value → Shared → Prop} {s : Shared} {h₀ : Heap} {L : Addr} {news : List (Addr × Obj)} {Q : Value → Shared → Prop} {value slice : Expr} {l : Addr} {ys ws : List Value} {ns : List Int} {k : Int} {u : Tok}
theorem len_names (N : News h₀ L s.heap news) (hm : (l, LCg.lst ys) ∈ news) (hl : ys.length = ns.length) (hb : ns.length ≤ 6) (h : ∀ t tk, Q (.int (ns.length : Int) t) { s with toks := tk }) : wpAny (model prog w) A (call (.builtin "len") [.ref l]) Q E s := by
  have e : s.heap.IsList l ys.toArray := ⟨_, (N _ hm).1, rfl, _, rfl⟩
  refine len_list e (by rw [List.size_toArray, hl]; omega) ?_
  rw [List.size_toArray, hl]
  exact h _ _
theorem item_names {news₀ : List (Addr × Obj)} (H : NamesAre w news₀ ys ns) (N : News h₀ L s.heap news) (hm : (l, LCg.lst ys) ∈ news) (hl : ys.length = ns.length) (hb : ns.length ≤ 6) (h0 : 0 ≤ k) (h1 : k < (ns.length : Int))
    (h : ∀ D q d t1 t2 t3 n, ns[k.toNat]? = some n → (D, pairObj q (nameS n) t1) ∈ news₀ → (q, instObj 219 d) ∈ news₀ → (d, qdict w (nameS n) t2 t3) ∈ news₀ → Q (.ref D) s)
    (hs : subscripted slice false (.ref l) (.int k u) = operate [.ref l, .int k u] (getItem (.ref l) (.int k u)) := by with_unfolding_all rfl) :
    wpAny (model prog w) A (subscriptTail value slice (.ref l) (.int k u)) Q E s := by
  have e : s.heap.IsList l ys.toArray := ⟨_, (N _ hm).1, rfl, _, rfl⟩
  have hlt : k.toNat < ys.length := by omega
  have hx : ys[k.toNat]? = some ys[k.toNat] := List.getElem?_eq_getElem hlt
  obtain ⟨n, hn, D, q, d, t1, t2, t3, ev, a, b, c⟩ := H _ _ hx
  exact tail_any e.typeIs slot_list_getitem.lookup (wpAny_getItem_list e h0 (by omega) (by simpa using hx) (ev ▸ h D q d t1 t2 t3 n hn a b c)) hs
theorem item_nums {o : Nat} (hI : IntsAre ws ns) (N : News h₀ L s.heap news) (hm : (l, W.listOf ws.toArray o) ∈ news) (hb : ns.length ≤ 6) (h0 : 0 ≤ k) (h1 : k < (ns.length : Int))
    (h : ∀ n t, ns[k.toNat]? = some n → Q (.int n t) s)
    (hs : subscripted slice false (.ref l) (.int k u) = operate [.ref l, .int k u] (getItem (.ref l) (.int k u)) := by with_unfolding_all rfl) :
    wpAny (model prog w) A (subscriptTail value slice (.ref l) (.int k u)) Q E s := by
  have e : s.heap.IsList l ws.toArray := ⟨_, (N _ hm).1, rfl, _, rfl⟩
  have hlt : k.toNat < ws.length := by have := hI.length; omega
  have hx : ws[k.toNat]? = some ws[k.toNat] := List.getElem?_eq_getElem hlt
  obtain ⟨n, t, ev, hn⟩ := ints_at hI hx
  exact tail_any e.typeIs slot_list_getitem.lookup (wpAny_getItem_list e h0 (by omega) (by simpa using hx) (ev ▸ h n t hn)) hs
end

theorem agrees_names {w : World} {mean : ExcName → Option Value} {mg mb : Str → Option Value} {p1 q1 d1 p2 q2 d2 : Addr} {n1 n2 : Int} {t1 t2 t3 t4 tx ty u1 u2 : Tok} :
    Ctr 8 w mean mg mb 251 (twoN w p1 q1 d1 p2 q2 d2 (nameS n1) (nameS n2) t1 t2 t3 t4 tx ty) [.ref p1, .ref p2, .int (n1.fmod 65536) u1, .int (n2.fmod 65536) u2] (fun v _ _ => v = .bool true) :=
  agrees_two (decide_eq_decide.mpr (name_iff n1 n2)) (decide_eq_decide.mpr (name_iff n2 n1)) (name_eq n1 n2)
section
variable {w : World} {mean : ExcName → Option Value} {mg mb : Str → Option Value} {news news₀ : List (Addr × Obj)} {p1 q1 d1 p2 q2 d2 : Addr} {n1 n2 : Int} {t1 t2 t3 t4 tx ty u1 u2 : Tok}
  {dp un : Nat} {gd : Option (List Code)} {cn : Str} {cs : Scope} {a : Addr} {ccd : Value} {cl : List (Str × Addr)} {outer : List Env} {A₀ : Around} {base h₀ : Heap} {L : Addr} {m : Str → Option Value} {s : Shared} {Q E : Value → Shared → Prop}
theorem agrees_use (e1 : (p1, pairObj q1 (nameS n1) tx) ∈ news₀) (e2 : (q1, instObj 219 d1) ∈ news₀) (e3 : (d1, qdict w (nameS n1) t1 t2) ∈ news₀) (f1 : (p2, pairObj q2 (nameS n2) ty) ∈ news₀) (f2 : (q2, instObj 219 d2) ∈ news₀) (f3 : (d2, qdict w (nameS n2) t3 t4) ∈ news₀)
    (B : Below A₀ base outer h₀) (F : Fr h₀ L s.heap m) (X : (hd.heap_39 w.params).In h₀) (N : News h₀ L s.heap news) (T : Top hd.view_39 (looseW hd.view_39 [Str.ofString "_filemode_table"]) mean mg mb h₀)
    (hk : cs.kind = .function) (hd : dp + 8 < recursionLimit) (hu : un + 20 * 8 < cLine) (hs : ∀ p ∈ news₀, p ∈ news)
    (ret : ∀ h' tk', Fr h₀ L h' m → News h₀ L h' news → Q (.bool true) { s with heap := h', toks := tk' }) :
    wpAny (model PySem.Challenge.rw_op0109_01.row.prog w) (ktrTop dp un gd cn cs L a ccd cl outer) (call (.ref 251) [.ref p1, .ref p2, .int (n1.fmod 65536) u1, .int (n2.fmod 65536) u2]) Q E s :=
  agrees_names.useB B F X N T hk hd hu (fun p hp => by
    simp only [twoN, List.mem_cons, List.not_mem_nil, or_false] at hp
    rcases hp with rfl | rfl | rfl | rfl | rfl | rfl
    · exact hs _ e1
    · exact hs _ e2
    · exact hs _ e3
    · exact hs _ f1
    · exact hs _ f2
    · exact hs _ f3) ret
end
theorem holds : PySem.Challenge.rw_op0109_01.Holds := hd (by
  w_on
  w_strict (k_go0; (all_goals try k_fold); (repeat' (first | (with_reducible refine hold_execs ?_) | (k_unfold; (try dsimp only)) | (k_end; wrow_close) | walk1 | (dsimp only; walk1) | (leave1; try dsimp only))))
  unfold Hold
  rename Fr _ _ _ _ => F₀
  refine small F₀ ?body ?post
  case post =>
    intro h' tk m' F'
    clear F₀
    dsimp only
    repeat' (first | (k_unfold; (try dsimp only)) | (k_end; wrow_close) | walk1 | (dsimp only; walk1) | (leave1; try dsimp only))
  repeat' (first | (with_reducible refine hold_lc ?_) | (k_unfold; (try dsimp only)) | (k_end; wrow_close) | walk1 | (dsimp only; walk1) | (leave1; try dsimp only))
  unfold Hold
  rename IntsAre _ _ => hI
  rename Fr _ _ _ _ => F
  rename News _ _ _ _ => N
  rename_i nu ws _ _ _
  k_dflt (refine LCg.Assign_ListComp_U (F₀ := F) (by rfl) (by with_unfolding_all rfl) (by rfl) (by decide) (by rfl) (by decide) (by rfl) (by rfl) (by rfl) ?_)
  repeat' (first | (with_reducible refine hold_src ?_) | (k_unfold; (try dsimp only)) | (k_end; wrow_close) | walk1 | (dsimp only; walk1) | (leave1; try dsimp only))
  unfold Hold
  k_dflt (refine LCg.CompSrc.ledger (by rfl) F N (List.mem_cons_self ..) (ints_sz hI) ?_)
  intro g
  refine comp_names hI (List.mem_cons_self ..) ?step ints_bd ?fin
  case step =>
    intro i n t ys news₁ I oI C oC D m₂ h tk E' hJ hn hC hx F₁ N₁ off ne
    clear F N
    repeat' (first | (with_reducible refine hold_ref ?_) | (k_unfold; (try dsimp only)) | (k_end; wrow_close) | walk1 | (dsimp only; walk1) | (leave1; try dsimp only))
    unfold Hold
    k_dflt (refine' named_use ?k1 F₁ ?k3 N₁ ?k5 ?kK ?kd ?ku ?_)
    case k1 => k_asm
    case k3 => k_asm
    case k5 => k_asm
    case kK => exact rfl
    case kd => ktr_room
    case ku => ktr_units
    intro D' q d t1 t2 t3 h' tk' F' N' ne'
    refine LCg.CompEnd.intro F' N' ((D', pairObj q (nameS n) t1) :: (q, instObj 219 d) :: (d, qdict _ (nameS n) t2 t3) :: news₁) ?_ (off3_of off ne') (.inr ⟨_, (hJ.step hn).1, rfl, _, rfl⟩) (hJ.step hn)
    intro p hp
    simp only [List.mem_cons] at hp ⊢
    rcases hp with hp | hp | hp | hp | hp | hp | hp <;> simp [hp]
  intro ns ys news₁ hI' hb3 hb6 hm hlen hnames
  clear N hI
  repeat' (first | (with_reducible refine hold_for ?_) | (k_unfold; (try dsimp only)) | (k_end; wrow_close) | walk1 | (dsimp only; walk1) | (leave1; try dsimp only))
  unfold Hold
  refine wpAny_For ?_ (fun _ => rfl)
  repeat' (first | (with_reducible refine hold_len ?_) | (k_unfold; (try dsimp only)) | (k_end; wrow_close) | walk1 | (dsimp only; walk1) | (leave1; try dsimp only))
  unfold Hold
  k_dflt (refine' len_names ?k1 ?k2 ?k3 ?k4 ?_; (case k1 => k_asm); (case k2 => k_mem); (case k3 => assumption); (case k4 => assumption))
  intro _ _
  try dsimp only
  repeat' (first | (with_reducible refine hold_type ?_) | (k_unfold; (try dsimp only)) | (k_end; wrow_close) | walk1 | (dsimp only; walk1) | (leave1; try dsimp only))
  unfold Hold
  rename News _ _ _ _ => Nq
  rename Fr _ _ _ _ => Fq
  rename_i Dn _ _ _ _ _
  have N₂ := news_cons Nq (List.mem_cons_of_mem _ hm)
  have hnames₂ : NamesAre _ ((nu, W.listOf ws.toArray 0) :: (Dn, LCg.lst ys) :: news₁) ys ns := fun j v h => by
    obtain ⟨n, a, b⟩ := hnames j v h
    exact ⟨n, a, b.mono fun p hp => List.mem_cons_of_mem _ (List.mem_cons_of_mem _ hp)⟩
  clear Nq hnames hm
  refine for_range_call (fun _ m₁ => m₁ (Str.ofString "names") = some (.ref Dn) ∧ m₁ (Str.ofString "numbers") = some (.ref nu)) rfl (Nat.le_trans hb6 (by decide)) Fq N₂ ⟨rfl, rfl⟩ ?kstep ?kfin
  case kfin =>
    intro m₁ h₁ tk₁ hP F₁ N₁
    clear Fq N₂
    dsimp only
    repeat' (first | (k_unfold; (try dsimp only)) | (k_end; wrow_close) | walk1 | (dsimp only; walk1) | (leave1; try dsimp only))
    exact ⟨rfl, _, _, _, rfl, F₁⟩
  case kstep =>
    intro k tk₀ m₁ h₁ tk₁ I oI hk hP F₁ N₁ hne
    obtain ⟨hnm, hnu⟩ := hP
    have F₂ := fr_norm (x := Str.ofString "numbers") (fr_norm F₁ hnm) ((if_neg (by decide)).trans hnu)
    clear Fq N₂ F₁
    have hk0 : (0 : Int) ≤ (k : Int) := Int.natCast_nonneg k
    have hk1 : (k : Int) < (ns.length : Int) := by omega
    dsimp only
    repeat' (first | (with_reducible refine hold_for ?_) | (k_unfold; (try dsimp only)) | (k_end; wrow_close) | walk1 | (dsimp only; walk1) | (leave1; try dsimp only))
    unfold Hold
    refine wpAny_For ?_ (fun _ => rfl)
    repeat' (first | (with_reducible refine hold_len ?_) | (with_reducible refine hold_iter ?_) | (k_unfold; (try dsimp only)) | (k_end; wrow_close) | walk1 | (dsimp only; walk1) | (leave1; try dsimp only))
    unfold Hold
    k_dflt (refine' len_names ?k1 ?k2 ?k3 ?k4 ?_; (case k1 => k_asm); (case k2 => k_mem); (case k3 => assumption); (case k4 => assumption))
    intro _ _
    try dsimp only
    repeat' (first | (with_reducible refine hold_iter ?_) | (k_unfold; (try dsimp only)) | (k_end; wrow_close) | walk1 | (dsimp only; walk1) | (leave1; try dsimp only))
    unfold Hold
    rename News _ _ _ _ => Nr
    rename Fr _ _ _ _ => Fr'
    refine for_same rfl rfl rfl (List.mem_cons_self ..) Fr' Nr (fun m₁ => m₁ (Str.ofString "names") = some (.ref Dn) ∧ m₁ (Str.ofString "numbers") = some (.ref nu) ∧ m₁ (Str.ofString "k") = some (.int (k : Int) tk₀)) ⟨rfl, rfl, rfl⟩ ?jstep ?jfin
    case jfin =>
      intro m₂ h₂ tk₂ hP₂ F₃ N₃
      clear F₂ Fr' Nr N₁
      dsimp only
      repeat' (first | (k_unfold; (try dsimp only)) | (k_end; wrow_close) | walk1 | (dsimp only; walk1) | (leave1; try dsimp only))
      refine ⟨_, _, _, _, rfl, F₃, fun p hp => N₃ p (List.mem_cons_of_mem _ hp), ?_, ⟨hP₂.1, hP₂.2.1⟩, rfl⟩
      intro p hp u hu
      rw [List.mem_singleton.mp hu]
      exact hne p hp
    case jstep =>
      intro j v m₂ h₂ tk₂ I₂ oI₂ hx hP₂ F₃ N₃ hne₂
      obtain ⟨i, ti, rfl, hi0, hi1⟩ := two_items hk0 hk1 hx
      obtain ⟨hnm₂, hnu₂, hk₂⟩ := hP₂
      have F₄ := fr_norm (x := Str.ofString "numbers") (fr_norm (x := Str.ofString "names") (fr_norm F₃ hk₂) ((if_neg (by decide)).trans hnm₂)) ((if_neg (by decide)).trans ((if_neg (by decide)).trans hnu₂))
      clear F₃ F₂ Fr' Nr N₁ hx
      dsimp only
      repeat' (first | (with_reducible refine hold_sub ?_) | (k_unfold; (try dsimp only)) | (k_end; wrow_close) | walk1 | (dsimp only; walk1) | (leave1; try dsimp only))
      unfold Hold
      k_dflt (refine' item_names hnames₂ ?s1N ?s1m hlen hb6 hk0 hk1 ?_)
      case s1N => k_asm
      case s1m => k_mem
      intro D1 q1 d1 t1 t2 t3 n1 hn1 e1 e2 e3
      try dsimp only
      repeat' (first | (with_reducible refine hold_sub ?_) | (with_reducible refine hold_ref ?_) | (k_unfold; (try dsimp only)) | (k_end; wrow_close) | walk1 | (dsimp only; walk1) | (leave1; try dsimp only))
      unfold Hold
      k_dflt (refine' item_names hnames₂ ?s2N ?s2m hlen hb6 hi0 hi1 ?_)
      case s2N => k_asm
      case s2m => k_mem
      intro D2 q2 d2 u1 u2 u3 n2 hn2 f1 f2 f3
      try dsimp only
      repeat' (first | (with_reducible refine hold_sub ?_) | (with_reducible refine hold_ref ?_) | (k_unfold; (try dsimp only)) | (k_end; wrow_close) | walk1 | (dsimp only; walk1) | (leave1; try dsimp only))
      unfold Hold
      k_dflt (refine' item_nums hI' ?s3N ?s3m hb6 hk0 hk1 ?_)
      case s3N => k_asm
      case s3m => k_mem
      intro n1' w1 hn1'
      obtain rfl := Option.some.inj (hn1'.symm.trans hn1)
      try dsimp only
      repeat' (first | (with_reducible refine hold_sub ?_) | (with_reducible refine hold_ref ?_) | (k_unfold; (try dsimp only)) | (k_end; wrow_close) | walk1 | (dsimp only; walk1) | (leave1; try dsimp only))
      unfold Hold
      k_dflt (refine' item_nums hI' ?s4N ?s4m hb6 hi0 hi1 ?_)
      case s4N => k_asm
      case s4m => k_mem
      intro n2' w2 hn2'
      obtain rfl := Option.some.inj (hn2'.symm.trans hn2)
      try dsimp only
      repeat' (first | (with_reducible refine hold_sub ?_) | (with_reducible refine hold_ref ?_) | (k_unfold; (try dsimp only)) | (k_end; wrow_close) | walk1 | (dsimp only; walk1) | (leave1; try dsimp only))
      unfold Hold
      k_dflt (refine' agrees_use e1 e2 e3 f1 f2 f3 ?a1 ?a2 ?a3 ?a4 ?a5 ?aK ?ad ?au ?as ?_)
      case a1 => k_asm
      case a2 => k_asm
      case a3 => k_asm
      case a4 => k_asm
      case a5 => k_asm
      case aK => exact rfl
      case ad => ktr_room
      case au => ktr_units
      case as => exact fun p hp => List.mem_cons_of_mem _ (List.mem_cons_of_mem _ (List.mem_cons_of_mem _ hp))
      intro h₅ tk₅ F₅ N₅
      try dsimp only
      repeat' (first | (k_unfold; (try dsimp only)) | (k_end; wrow_close) | walk1 | (dsimp only; walk1) | (leave1; try dsimp only))
      refine ⟨_, _, _, _, rfl, F₅, N₅, ?_, ⟨rfl, rfl, rfl⟩, rfl⟩
      intro p hp u hu
      rw [List.mem_singleton.mp hu]
      exact hne₂ p hp)
end Mine

theorem PySem.Challenge.cw_op0109_01_holds : PySem.Challenge.rw_op0109_01.Holds := by
  exact Mine.holds
