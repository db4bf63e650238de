import PyProof.Rows.All
import Wide.All
import KE.KNest
import KE.KLam
import KE.KClos
import KE.KEqSeq
import KE.KDictIter
import KE.KListMore
import KE.KBoundM
import KE.BitLaws
import KE.IntBitsLaws
import Lean
import PySem.Challenge.RW_tx0010_01
open PySem PySem.W PyProof.Rows
set_option Elab.async false
set_option maxRecDepth 100000
set_option maxHeartbeats 8000000
namespace Mine
open_top hd for PySem.Challenge.rw_tx0010_01
open PySem.Calls PySem.SeqAt
set_option maxHeartbeats 200000
theorem off_base : True := by (w_top off); trivial
noncomputable abbrev pr : Program := PySem.Challenge.rw_tx0010_01.prog

theorem fill_it : (fun (_ : OpenLaw) (_ : Params → Frag) => True) PySem.Challenge.rw_tx0010_01 hd.heap_39 := by
  k_fill
  trivial

/-- what is known of objects -/
noncomputable abbrev Kn := Addr → Obj → Prop
noncomputable def Kn.In (k : Kn) (h : Heap) : Prop := ∀ a o, k a o → h.get? a = some o
noncomputable def Kn.Le (k k' : Kn) : Prop := ∀ a o, k a o → k' a o
/-- base and ledger -/
noncomputable def kl (g : Heap) (fz : List (Addr × Obj)) : Kn := fun a o => g.get? a = some o ∨ (a, o) ∈ fz
noncomputable def Kn.add (k : Kn) (nw : List (Addr × Obj)) : Kn := fun a o => k a o ∨ (a, o) ∈ nw

theorem kl_in {g h : Heap} {L : Addr} {m : Str → Option Value} {news : List (Addr × Obj)} (F : Fr g L h m) (N : News g L h news) : (kl g news).In h := fun a o e => e.elim (F.keep a o) fun e => (N _ e).1

noncomputable def ListObj (vs : List Value) (o : Obj) : Prop := o.cls = .type "list" ∧ ∃ n, o.data = .seq vs.toArray n
noncomputable def TupObj (vs : List Value) (o : Obj) : Prop := o.cls = .type "tuple" ∧ ∃ n, o.data = .seq vs.toArray n
/-- v is a list of these values -/
noncomputable def LstK (k : Kn) (v : Value) (vs : List Value) : Prop := ∃ a o, v = .ref a ∧ k a o ∧ ListObj vs o
noncomputable def IntK (k : Kn) (v : Value) (ns : List Int) : Prop := ∃ vs, LstK k v vs ∧ IntsAre vs ns
inductive All2 {α β : Type} (R : α → β → Prop) : List α → List β → Prop
  | nil : All2 R [] []
  | cons {a b as bs} : R a b → All2 R as bs → All2 R (a :: as) (b :: bs)
noncomputable def RowsK (k : Kn) (v : Value) (rows : List (List Int)) : Prop := ∃ vs, LstK k v vs ∧ All2 (IntK k) vs rows

theorem All2.mono {α β : Type} {R S : α → β → Prop} (f : ∀ a b, R a b → S a b) {as : List α} {bs : List β} (h : All2 R as bs) : All2 S as bs := by
  induction h with
  | nil => exact .nil
  | cons h _ ih => exact .cons (f _ _ h) ih
theorem All2.length {α β : Type} {R : α → β → Prop} {as : List α} {bs : List β} (h : All2 R as bs) : as.length = bs.length := by
  induction h with
  | nil => rfl
  | cons _ _ ih => exact congrArg (· + 1) ih
theorem All2.append {α β : Type} {R : α → β → Prop} {as : List α} {bs : List β} {as' : List α} {bs' : List β} (h : All2 R as bs) (h' : All2 R as' bs') : All2 R (as ++ as') (bs ++ bs') := by
  induction h with
  | nil => exact h'
  | cons h _ ih => exact .cons h ih
theorem All2.get {α β : Type} {R : α → β → Prop} {as : List α} {bs : List β} (h : All2 R as bs) : ∀ (i : Nat) (b : β), bs[i]? = some b → ∃ a, as[i]? = some a ∧ R a b := by
  induction h with
  | nil => intro i b e; cases e
  | cons h _ ih =>
    intro i b e
    cases i with
    | zero => cases e; exact ⟨_, rfl, h⟩
    | succ i => exact ih i b e
theorem All2.get' {α β : Type} {R : α → β → Prop} {as : List α} {bs : List β} (h : All2 R as bs) : ∀ (i : Nat) (a : α), as[i]? = some a → ∃ b, bs[i]? = some b ∧ R a b := by
  induction h with
  | nil => intro i b e; cases e
  | cons h _ ih =>
    intro i b e
    cases i with
    | zero => cases e; exact ⟨_, rfl, h⟩
    | succ i => exact ih i b e
theorem All2.take {α β : Type} {R : α → β → Prop} {as : List α} {bs : List β} (h : All2 R as bs) : ∀ n, All2 R (as.take n) (bs.take n) := by
  induction h with
  | nil => intro n; rw [List.take_nil, List.take_nil]; exact .nil
  | cons h _ ih =>
    intro n
    cases n with
    | zero => exact .nil
    | succ n => exact .cons h (ih n)
theorem All2.drop {α β : Type} {R : α → β → Prop} {as : List α} {bs : List β} (h : All2 R as bs) : ∀ n, All2 R (as.drop n) (bs.drop n) := by
  induction h with
  | nil => intro n; rw [List.drop_nil, List.drop_nil]; exact .nil
  | cons h t ih =>
    intro n
    cases n with
    | zero => exact .cons h t
    | succ n => exact ih n

theorem LstK.mono {k k' : Kn} (hk : k.Le k') {v : Value} {vs : List Value} (x : LstK k v vs) : LstK k' v vs := let ⟨a, o, e, h, r⟩ := x; ⟨a, o, e, hk _ _ h, r⟩
theorem IntK.mono {k k' : Kn} (hk : k.Le k') {v : Value} {ns : List Int} (x : IntK k v ns) : IntK k' v ns := let ⟨vs, h, r⟩ := x; ⟨vs, h.mono hk, r⟩
theorem RowsK.mono {k k' : Kn} (hk : k.Le k') {v : Value} {rows : List (List Int)} (x : RowsK k v rows) : RowsK k' v rows := let ⟨vs, h, r⟩ := x; ⟨vs, h.mono hk, r.mono fun _ _ h => h.mono hk⟩
theorem Kn.le_add {k : Kn} {nw : List (Addr × Obj)} : k.Le (k.add nw) := fun _ _ h => .inl h
theorem LstK.isList {k : Kn} {h : Heap} (hk : k.In h) {a : Addr} {vs : List Value} (x : LstK k (.ref a) vs) : h.IsList a vs.toArray := by
  obtain ⟨a', o, e, ho, hc, hd⟩ := x
  cases e
  exact ⟨o, hk _ _ ho, hc, hd⟩

/-- the new objects of a call -/
noncomputable def NewIn (h h' : Heap) (nw : List (Addr × Obj)) : Prop := ∀ p ∈ nw, h'.get? p.1 = some p.2 ∧ h.get? p.1 = none
theorem NewIn.nil {h h' : Heap} : NewIn h h' [] := fun _ h => nomatch h
theorem NewIn.of {h h' : Heap} {L : Addr} {news : List (Addr × Obj)} (N : News h L h' news) : NewIn h h' news := fun p hp => ⟨(N p hp).1, (N p hp).2.2⟩
theorem news_more {g h h' : Heap} {L : Addr} {m : Str → Option Value} {news nw : List (Addr × Obj)} (F : Fr g L h m) (N : News g L h news) (st : h.StaysIn h') (W : NewIn h h' nw) : News g L h' (nw ++ news) := fun p hp => by
  rcases List.mem_append.mp hp with hp | hp
  · refine ⟨(W p hp).1, fun e => ?_, ?_⟩
    · obtain ⟨o, _, _, ho, _⟩ := F.ns
      have := (W p hp).2
      rw [e, ho] at this; cases this
    · cases q : g.get? p.1 with
      | none => rfl
      | some o => have := (W p hp).2; rw [F.keep _ _ q] at this; cases this
  · exact ⟨st _ _ (N p hp).1, (N p hp).2⟩

theorem enter {prog : Program} {w : World} {A : Around} {s : Shared} {K : Frag} {p : Program} {loose : List Str} {mean : ExcName → Option Value} {mg mb : Str → Option Value}
    {R : Result → Shared → Prop} {name qual : Str} {params : Arguments} {body : List Stmt} {scope : Scope} {dV kV doc pm cdv ct oc : Value} {an od : Option Addr} {osl : Array (Option Value)} {f : Addr} {args : Args} (binds : List (Str × Value))
    (X : K.In s.heap) (T : Top p loose mean mg mb s.heap)
    (ho : K.lookup f = some ⟨oc, od, .func (fnOf name qual params body scope dV kV doc pm an cdv ct), osl⟩) (hcd : codeIn K cdv qual = true) (hroom : A.depth < recursionLimit)
    (hbind : BindsTo s (fnOf name qual params body scope dV kV doc pm an cdv ct) args binds) (hloc : ∀ y ∈ binds, scope.names.lookup y.1 = some .local)
    (h : ∀ L h₁, Fr s.heap L h₁ (fun y => binds.reverse.lookup y) → News s.heap L h₁ [] →
      wpAny (model prog w) (A.deeper (envOf qual scope L f cdv)) (execs body (envOf qual scope L f cdv))
        (fun fl s' => R (.ok (.ret (match fl with | .ret v => v | _ => .none))) s') (fun _ _ => False)
        { s with heap := h₁, toks := s.toks + binds.length })
    (hco : scope.isCoroutine = false) (hgen : scope.isGenerator = false) (hk : scope.kind = .function)
    (hcell : ∀ x ∈ scope.names, x.2 ≠ .cell) : codeAny (model prog w) A (.call (.ref f) args) R s := by
  refine codeAny_call_def (fd := fnOf name qual params body scope dV kV doc pm an cdv ct) (body := body) (binds := binds) hroom (X _ _ ho) rfl T.nolimit (codeRec_of X hcd) rfl hbind hcell hloc (fun h₁ hns hk₁ => ?_) hco hgen hk
  exact wpAny_mono (h s.heap.objs.size h₁ ⟨hns, hk₁, Nat.le_refl _⟩ News.nil) (fun _ _ q => q) fun _ _ x => x.elim

/- markers: the walk halts here -/
noncomputable def AtWhile (P : Prop) : Prop := P
noncomputable def AtCall (P : Prop) : Prop := P
noncomputable def AtComp (P : Prop) : Prop := P
noncomputable def AtFor (P : Prop) : Prop := P
noncomputable def AtTry (P : Prop) : Prop := P
noncomputable def AtStop (P : Prop) : Prop := P
theorem atStop {P : Prop} (h : AtStop P) : P := h
theorem atCall {P : Prop} (h : AtCall P) : P := h
theorem atWhile {P : Prop} (h : AtWhile P) : P := h






local macro_rules | `(tactic| walk_at "exec While Compare cons nil") => `(tactic| refine atWhile ?_)
local macro_rules | `(tactic| walk_at "exec While BoolOp cons nil") => `(tactic| refine atWhile ?_)
local macro_rules | `(tactic| walk_at "exec While BinOp cons nil") => `(tactic| refine atWhile ?_)
local macro_rules | `(tactic| walk_at "exec While Constant cons nil") => `(tactic| refine atWhile ?_)
local macro_rules | `(tactic| walk_at "exec Try") => `(tactic| refine (show AtTry (wpAny _ _ _ _ _ _) from ?_))
local macro_rules | `(tactic| walk_at "call ref") => `(tactic| refine atCall ?_)
local macro_rules | `(tactic| walk_at "my enter") => `(tactic| (
  case k6 => k_is
  case k7 => k_is
  case k8 => exact Nat.lt_trans (by assumption) (by decide)
  case k9 => exact BindsTo.of_eq rfl
  case kB => exact locs rfl
  case c5 => decide
  case c2 => exact rfl
  case c3 => exact rfl
  case c4 => exact rfl))
local macro_rules | `(tactic| walk_at "same 1") => `(tactic| with_unfolding_all refine (show AtTry (wpAny _ _ _ _ _ _) from ?_))
set_option maxHeartbeats 200000
theorem off_loop : True := by (w_top off); trivial
section
variable {prog : Program} {w : World} {A : Around} {E : Value → Shared → Prop} {s : Shared} {env : Env} {h₀ : Heap} {L : Addr} {target : Expr} {body : List Stmt} {Q : Flow → Shared → Prop}

noncomputable def AtLoop (prog : Program) (w : World) (A : Around) (env : Env) (target : Expr) (body : List Stmt) (Q : Flow → Shared → Prop) (E : Value → Shared → Prop) (xv : Value) (s₁ : Shared) : Prop :=
  wpAny (model prog w) A (pyIter xv) (fun it s₂ => codeAny (model prog w) A (.forLoop target it body [] env) (fun r s' => match r with | .ok f => Q f s' | .error e => cameBackBy (model prog w) A env E e s') s₂) E s₁

theorem For_go {iter : Expr} {pos : Pos} (h : wpAny (model prog w) A (eval iter env) (fun xv s₁ => AtLoop prog w A env target body Q E xv s₁) E s)
    (hs : ∀ x, foldedSetIterable iter env x = pure x := by intro _; rfl) :
    wpAny (model prog w) A (exec (.For target iter body [] pos) env) Q E s := wpAny_For h hs

/-- the end of a turn -/
inductive TurnEnd (h₀ : Heap) (L I : Addr) (J : (Str → Option Value) → List (Addr × Obj) → Prop) (own : List (Addr × Obj)) (s₁ s₂ : Shared) : Prop
  | mk (h' : Heap) (tk : Nat) (m' : Str → Option Value) (news' nx : List (Addr × Obj)) (e : s₂ = { s₁ with heap := h', toks := tk }) (F : Fr h₀ L h' m') (N : News h₀ L h' news') (y1 : ∀ p ∈ nx, p ∈ news') (y2 : ∀ p ∈ own, p ∈ news') (y3 : ∀ p ∈ nx, p.1 ≠ I) (y4 : J m' nx) : TurnEnd h₀ L I J own s₁ s₂
noncomputable def TurnPost (h₀ : Heap) (L I : Addr) (J : (Str → Option Value) → List (Addr × Obj) → Prop) (own : List (Addr × Obj)) (s₁ : Shared) (Q : Flow → Shared → Prop) (f : Flow) (s₂ : Shared) : Prop :=
  match f with
  | .ret v => Q (.ret v) s₂
  | .brk => Q .next s₂
  | _ => TurnEnd h₀ L I J own s₁ s₂
theorem TurnEnd.intro {L I : Addr} {J : (Str → Option Value) → List (Addr × Obj) → Prop} {m' : Str → Option Value} {own news' nx : List (Addr × Obj)} {s₁ : Shared} {h' : Heap} {tk : Nat} (F : Fr h₀ L h' m') (N : News h₀ L h' news')
    (hn : ∀ p ∈ nx, p ∈ news') (ho : ∀ p ∈ own, p ∈ news') (ha : ∀ p ∈ nx, p.1 ≠ I) (hj : J m' nx) : TurnEnd h₀ L I J own s₁ { s₁ with heap := h', toks := tk } := ⟨h', tk, m', news', nx, rfl, F, N, hn, ho, ha, hj⟩

inductive LoopSt (h₀ : Heap) (env : Env) (I : Addr) (n : Nat) (St : Nat → Heap → Prop) (J : Nat → (Str → Option Value) → List (Addr × Obj) → Prop) (s : Shared) (k : Nat) (s' : Shared) : Prop
  | mk (h' : Heap) (tk : Nat) (m' : Str → Option Value) (news' : List (Addr × Obj)) (i : Nat) (y1 : s' = { s with heap := h', toks := tk }) (y2 : St i h') (y3 : Fr h₀ env.locals h' m') (y4 : News h₀ env.locals h' news') (y5 : (∀ p ∈ news', p.1 ≠ I)) (y6 : J i m' news') (y7 : i ≤ n) (y8 : k = n + 1 - i) : LoopSt h₀ env I n St J s k s'
theorem loop_any {I : Addr} {fp : List Addr} {n : Nat} {P : Nat → Value → Prop} {St : Nat → Heap → Prop} {m₀ : Str → Option Value} {news : List (Addr × Obj)}
    (W : Walks prog w A I fp [I] n P St) (J : Nat → (Str → Option Value) → List (Addr × Obj) → Prop)
    (hLf : env.locals ∉ fp) (hI : h₀.get? I = none) (hnw : ∀ p ∈ news, p.1 ≠ I)
    (hst : St 0 s.heap) (F : Fr h₀ env.locals s.heap m₀) (N : News h₀ env.locals s.heap news) (hj : J 0 m₀ news)
    (hE : PassesOwn (model prog w) A env E)
    (hgo : ∀ i (s' : Shared) v (Q' : Unit → Shared → Prop) E', St i s'.heap → Q' () s' → wpAny (model prog w) A (letOwnedTupleGo target (.ref I) v) Q' E' s')
    (turn : ∀ i v m₁ nx h tk own, i < n → P i v → (∀ p ∈ nx, p.1 ≠ I) → (∀ p ∈ own, p.1 ∈ fp) → J i m₁ nx → Fr h₀ env.locals h m₁ → News h₀ env.locals h (nx ++ own) →
      wpAny (model prog w) A (assign target env v) (fun _ s₂ => wpAny (model prog w) A (execs body env) (TurnPost h₀ env.locals I (J (i + 1)) own { s with heap := h, toks := tk } Q) E s₂) E { s with heap := h, toks := tk })
    (done : ∀ m₁ nx h tk, J n m₁ nx → Fr h₀ env.locals h m₁ → News h₀ env.locals h nx → Q .next { s with heap := h, toks := tk }) :
    codeAny (model prog w) A (.forLoop target (.ref I) body [] env) (fun r s' => match r with | .ok f => Q f s' | .error e => cameBackBy (model prog w) A env E e s') s := by
  have hLI : env.locals ≠ I := fun e => hLf (W.sub _ (List.mem_singleton.mpr e))
  have old : ∀ b o, h₀.get? b = some o → b ∉ [I] := fun b o e hb => by rw [List.mem_singleton.mp hb, hI] at e; cases e
  refine codeAny_forLoop_any
    (LoopSt h₀ env I n St J s) ?_ (n + 1)
    ⟨s.heap, s.toks, m₀, news, 0, rfl, hst, F, N, hnw, hj, Nat.zero_le _, rfl⟩
  rintro k s' ⟨h', tk, m', news', i, rfl, hst', F', N', hnw', hJ, hi, rfl⟩
  have next : ∀ h₁ : Heap, (∀ b o, b ∉ [I] → h'.get? b = some o → h₁.get? b = some o) → Fr h₀ env.locals h₁ m' ∧ News h₀ env.locals h₁ news' := fun h₁ hk₁ =>
    ⟨⟨F'.ns.at' fun o e => hk₁ _ o (fun q => hLI (List.mem_singleton.mp q)) e, fun b o e => hk₁ b o (old b o e) (F'.keep b o e), F'.above⟩, fun p hp => ⟨hk₁ _ _ (fun q => hnw' p hp (List.mem_singleton.mp q)) (N' p hp).1, (N' p hp).2⟩⟩
  by_cases hlt : i < n
  · refine W.item i _ _ _ hlt hst' fun v h₁ tk₁ hP hst₁ hk₁ => ?_
    obtain ⟨F₁, N₁⟩ := next h₁ hk₁
    have Nown : News h₀ env.locals h₁ (ownOf h₀ fp h₁) := news_ownOf hLf
    refine hgo (i + 1) _ v _ _ hst₁ ?_
    refine wpAny_passesOwn hE ?_
    have N₂ : News h₀ env.locals h₁ (news' ++ ownOf h₀ fp h₁) := fun p hp => (List.mem_append.mp hp).elim (N₁ p) (Nown p)
    refine wpAny_mono (turn i v m' news' h₁ tk₁ (ownOf h₀ fp h₁) hlt hP hnw' ownOf_sub hJ F₁ N₂) (fun _ s₂ h₂ => wpAny_passesOwn hE (wpAny_mono h₂ (fun f s₃ h₃ => ?_) fun _ _ e => e)) fun _ _ e => e
    have fin : TurnEnd h₀ env.locals I (J (i + 1)) (ownOf h₀ fp h₁) { s with heap := h₁, toks := tk₁ } s₃ → ∃ m_1, m_1 < n + 1 - i ∧ LoopSt h₀ env I n St J s m_1 s₃ := by
      rintro ⟨h₃', tk₃, m₂, news₂, nx, rfl, F₃, N₃, hn₃, ho₃, ha₃, hJ₃⟩
      refine ⟨n + 1 - (i + 1), by omega, h₃', tk₃, m₂, nx, i + 1, rfl, ?_, F₃, fun p hp => N₃ p (hn₃ p hp), ha₃, hJ₃, hlt, rfl⟩
      refine W.frame _ _ _ hst₁ fun b hb o e => ?_
      cases hn : h₀.get? b with
      | some o₀ =>
        have : o₀ = o := by have := F₁.keep b o₀ hn; rw [e] at this; exact (Option.some.inj this).symm
        exact this ▸ F₃.keep b o₀ hn
      | none => exact (N₃ _ (ho₃ _ (mem_ownOf hb hn e))).1
    cases f with
    | ret v => exact h₃
    | brk => exact h₃
    | cont => exact fin h₃
    | next => exact fin h₃
  · have hin : i = n := by omega
    subst hin
    refine W.done _ _ _ hst' fun h₁ tk₁ hk₁ => wpAny_execs_nil ?_
    obtain ⟨F₁, N₁⟩ := next h₁ hk₁
    exact done m' news' h₁ tk₁ hJ F₁ N₁

/-- a for over a list that stands -/
theorem loop_list {l : Addr} {vs : List Value} {m₀ : Str → Option Value} {news : List (Addr × Obj)} (J : Nat → (Str → Option Value) → List (Addr × Obj) → Prop)
    (hh : A.handled = none) (hl : s.heap.IsList l vs.toArray) (hlL : l ≠ env.locals) (F : Fr h₀ env.locals s.heap m₀) (N : News h₀ env.locals s.heap news) (hj : J 0 m₀ news)
    (hgo : ∀ i (s' : Shared) v (Q' : Unit → Shared → Prop) E', s'.heap.IsListIter s.heap.objs.size l i → Q' () s' → wpAny (model prog w) A (letOwnedTupleGo target (.ref s.heap.objs.size) v) Q' E' s')
    (turn : ∀ i v m₁ nx h tk own I, vs[i]? = some v → (∀ p ∈ nx, p.1 ≠ I) → (∀ p ∈ own, p.1 = I ∨ p.1 = l) → J i m₁ nx → Fr h₀ env.locals h m₁ → News h₀ env.locals h (nx ++ own) →
      wpAny (model prog w) A (assign target env v) (fun _ s₂ => wpAny (model prog w) A (execs body env) (TurnPost h₀ env.locals I (J (i + 1)) own { s with heap := h, toks := tk } Q) E s₂) E { s with heap := h, toks := tk })
    (done : ∀ m₁ nx h tk, J vs.length m₁ nx → Fr h₀ env.locals h m₁ → News h₀ env.locals h nx → Q .next { s with heap := h, toks := tk })
    (hE : PassesOwn (model prog w) A env E := by passes_own) :
    AtLoop prog w A env target body Q E (.ref l) s := by
  unfold AtLoop
  obtain ⟨ol, hol, _⟩ := id hl
  have hne : l ≠ s.heap.objs.size := Nat.ne_of_lt (Heap.lt_size hol)
  refine wpAny_pyIter_list hl ?_
  have W := Walks.list (prog := prog) (w := w) hh s.heap.objs.size l hne vs.toArray
  have hlen : vs.toArray.size = vs.length := by simp
  rw [hlen] at W
  refine loop_any W J ?_ (next_is_new F) (fun p hp => Nat.ne_of_lt (Heap.lt_size (N p hp).1)) ⟨⟨_, Heap.get?_push_size _ rfl, rfl, rfl⟩, hl.push _⟩ (F.push _) (fun p hp => ⟨Heap.get?_push_of_some _ (N p hp).1, (N p hp).2⟩) hj hE ?_ ?_ ?_
  · intro hm
    rcases List.mem_cons.mp hm with e | hm
    · exact absurd F.ns.lt (e ▸ Nat.lt_irrefl _)
    · exact hlL (List.mem_singleton.mp hm).symm
  · exact fun i s' v Q' E' st hQ => hgo i s' v Q' E' st.1 hQ
  · intro i v m₁ nx h tk own hi hP hnx hown hJ F₁ N₁
    exact turn i v m₁ nx h tk own _ (by simpa using hP) hnx (fun p hp => by simpa using hown p hp) hJ F₁ N₁
  · exact done
end

theorem assign_local {M : Model} {A : Around} {E : Value → Shared → Prop} {s : Shared} {env : Env} {h₀ : Heap} {m : Str → Option Value} {news : List (Addr × Obj)} {x : Str} {px : Pos} {v : Value} {Q : Unit → Shared → Prop}
    (F : Fr h₀ env.locals s.heap m) (N : News h₀ env.locals s.heap news)
    (h : ∀ h', Fr h₀ env.locals h' (fun y => if y = x then some v else m y) → News h₀ env.locals h' news → Q () { s with heap := h', toks := s.toks + 1 })
    (hx : env.kindOf x = some .local) (hp : (env.scope.kind == .class || (env.scope.kind == .module && env.locals != env.globals)) = false) :
    wpAny M A (assign (.Name x px) env v) Q E s :=
  wpAny_assign_Name (wpAny_storeName_local hx F.ns (fun h' hn hs => h h' (F.set hn hs) (N.set hs)) hp)




local macro_rules | `(tactic| walk_at "same 2") => `(tactic| with_unfolding_all refine For_go ?_)
local macro_rules | `(tactic| walk_at "exec For Name Name cons nil") => `(tactic| walk_at "same 2")
local macro_rules | `(tactic| walk_at "exec For Name Subscript cons nil") => `(tactic| walk_at "same 2")
local macro_rules | `(tactic| walk_at "exec For Tuple Call cons nil") => `(tactic| walk_at "same 2")
local macro_rules | `(tactic| walk_at "eval Name") => `(tactic| refine ld (by assumption) (by first | rfl | assumption) ?_)
local macro_rules | `(tactic| walk_at "TurnPost") => `(tactic| dsimp only [TurnPost])
theorem isl {g h : Heap} {L a : Addr} {news : List (Addr × Obj)} {its : Array Value} {n : Nat} (N : News g L h news) (hm : (a, listOf its n) ∈ news) : h.IsList a its := ⟨_, (N _ hm).1, rfl, n, rfl⟩
theorem lobj {vs : List Value} {n : Nat} : ListObj vs (listOf vs.toArray n) := ⟨rfl, n, rfl⟩
theorem hgo_name {prog : Program} {w : World} {A : Around} {x : Str} {px : Pos} {it v : Value} {s' : Shared} {Q' : Unit → Shared → Prop} {E' : Value → Shared → Prop} (hq : Q' () s') :
    wpAny (model prog w) A (letOwnedTupleGo (.Name x px) it v) Q' E' s' := wpAny_of_eq (a := ()) rfl hq
section PartWorth
set_option maxHeartbeats 8000000
theorem off_worth : True := by (w_top off); trivial


noncomputable def worth (ns : List Int) : Int := ns.foldl (fun a d => 64 * a + d) 0
theorem worth_bound_aux (ns : List Int) : ∀ (a : Int) (B : Int), 0 ≤ a → a < B → (∀ n ∈ ns, 0 ≤ n ∧ n < 64) → 0 ≤ ns.foldl (fun a d => 64 * a + d) a ∧ ns.foldl (fun a d => 64 * a + d) a < B * 64 ^ ns.length := by
  induction ns with
  | nil => intro a B h0 h1 _; simp; exact ⟨h0, h1⟩
  | cons d r ih =>
    intro a B h0 h1 hb
    obtain ⟨p, q⟩ := hb d (by simp)
    have := ih (64 * a + d) (B * 64) (by omega) (by omega) (fun n hn => hb n (by simp [hn]))
    simp only [List.foldl_cons, List.length_cons]
    refine ⟨this.1, ?_⟩
    rw [Int.pow_succ, ← Int.mul_assoc, Int.mul_comm (B * _) 64, ← Int.mul_assoc, Int.mul_comm 64 B]
    exact this.2
theorem worth_bound {ns : List Int} (hb : ∀ n ∈ ns, 0 ≤ n ∧ n < 64) (hn : ns.length ≤ 3) : 0 ≤ worth ns ∧ worth ns < 262144 := by
  have h := worth_bound_aux ns 0 1 (by omega) (by omega) hb
  refine ⟨h.1, Int.lt_of_lt_of_le h.2 ?_⟩
  match hl : ns.length, hn with
  | 0, _ => decide
  | 1, _ => decide
  | 2, _ => decide
  | 3, _ => decide
theorem worth_take {ns : List Int} {i : Nat} {d : Int} (h : ns[i]? = some d) : worth (ns.take (i + 1)) = 64 * worth (ns.take i) + d := by
  unfold worth
  rw [List.take_add_one, h]; simp

theorem worth_spec {w : World} {A : Around} {s : Shared} {p : Program} {loose : List Str} {mean : ExcName → Option Value} {mg mb : Str → Option Value} {Q E : Value → Shared → Prop}
    (X : (hd.heap_39 w.params).In s.heap) (T : Top p loose mean mg mb s.heap) (hA : A.depth < 900) (hh : A.handled = none)
    {a : Addr} {vs : List Value} {ns : List Int} (hl : s.heap.IsList a vs.toArray) (hi : IntsAre vs ns) (hb : ∀ n ∈ ns, 0 ≤ n ∧ n < 64) (hn : ns.length ≤ 3)
    (k : ∀ h' tk t, s.heap.StaysIn h' → Q (.int (worth ns) t) { s with heap := h', toks := tk }) :
    wpAny (model pr w) A (call (.ref 123) [.ref a]) Q E s := by
  refine wpAny_call ?_
  with_unfolding_all refine' enter [(Str.ofString "row", .ref a)] X T ?k6 ?k7 ?k8 ?k9 ?kB ?_ ?c2 ?c3 ?c4 ?c5
  walk_at "my enter"
  intro L h₁ F N
  dsimp only
  repeat' walk1
  rename Fr _ _ _ _ => F1
  rename News _ _ _ _ => N1
  have hlt := Heap.lt_size hl.choose_spec.1
  refine loop_list (fun i m nx => m (Str.ofString "row") = some (.ref a) ∧ nx = [] ∧ ∃ t, m (Str.ofString "worth") = some (.int (worth (ns.take i)) t)) hh (hl.at (F1.keep _)) (Nat.ne_of_lt (Nat.lt_of_lt_of_le hlt F1.above)) F1 N1 ⟨rfl, rfl, _, rfl⟩ ?_ ?_ ?_
  · exact fun _ _ _ _ _ _ hq => hgo_name hq
  · rintro i v m₁ nx h tk own I hv hnx hown ⟨hrow, rfl, t, hw⟩ F₁ N₁
    refine assign_local F₁ N₁ (fun h' F' N' => ?_) rfl rfl
    obtain ⟨d, u, rfl, hd⟩ := IntsAre.at hi i v hv
    have hwb := worth_bound (ns := ns.take i) (fun n hn => hb n (List.mem_of_mem_take hn)) (by rw [List.length_take]; omega)
    repeat' walk1
    exact TurnEnd.intro (nx := []) (by assumption) (by assumption) (List.forall_mem_nil _) (fun _ hp => hp) (List.forall_mem_nil _) ⟨by assumption, rfl, _, by rw [worth_take hd]; rfl⟩
  · rintro m₁ nx h tk ⟨hrow, rfl, t, hw⟩ F₁ N₁
    have hlen : ns.take vs.length = ns := by rw [hi.length]; exact List.take_length
    rw [hlen] at hw
    repeat' walk1
    exact k _ _ _ F₁.keep
end PartWorth
section PartDigits
set_option maxHeartbeats 8000000
theorem off_digits : True := by (w_top off); trivial
noncomputable def digits (n : Int) : List Int := if n < 64 then [n] else if n < 4096 then [n / 64, n % 64] else [n / 4096, n / 64 % 64, n % 64]
theorem digits_step {q : Int} (h0 : 64 ≤ q) (h1 : q < 262144) : digits q = digits (q / 64) ++ [q % 64] := by
  unfold digits
  rw [if_neg (by omega)]
  by_cases h : q < 4096
  · rw [if_pos h, if_pos (by omega)]; rfl
  · rw [if_neg h, if_neg (by omega), if_pos (by omega)]
    have : q / 64 / 64 = q / 4096 := by omega
    rw [this]; rfl
theorem digits_len {n : Int} : 1 ≤ (digits n).length := by unfold digits; split <;> (try split) <;> simp
theorem digits_len3 {n : Int} : (digits n).length ≤ 3 := by unfold digits; split <;> (try split) <;> simp
theorem digits_last {n : Int} (h0 : 0 ≤ n) (h1 : n < 262144) : digits n = (digits n).dropLast ++ [n % 64] := by
  unfold digits
  split
  · simp; omega
  · split <;> rfl
inductive DigJ (n : Int) (c : Nat) (m : Str → Option Value) (nx : List (Addr × Obj)) : Prop
  | mk (q : Int) (u : Tok) (a : Addr) (vs : List Value) (ds : List Int) (y1 : m (Str.ofString "number") = some (.int q u)) (y2 : m (Str.ofString "digits") = some (.ref a)) (y3 : nx = [(a, listOf vs.toArray 0)]) (y4 : IntsAre vs ds) (y5 : 0 ≤ q) (y6 : q < 262144) (y7 : c = q.toNat) (y8 : ds.length ≤ 4 - (digits q).length) (y9 : digits n = (digits q).dropLast ++ ds) : DigJ n c m nx
theorem digits_spec {w : World} {A : Around} {s : Shared} {p : Program} {loose : List Str} {mean : ExcName → Option Value} {mg mb : Str → Option Value} {Q E : Value → Shared → Prop}
    (X : (hd.heap_39 w.params).In s.heap) (T : Top p loose mean mg mb s.heap) (hA : A.depth < 900) (hh : A.handled = none)
    {n : Int} {t : Tok} (h0 : 0 ≤ n) (h1 : n < 262144)
    (k : ∀ h' tk a o vs, s.heap.StaysIn h' → NewIn s.heap h' [(a, o)] → ListObj vs o → IntsAre vs (digits n) → Q (.ref a) { s with heap := h', toks := tk }) :
    wpAny (model pr w) A (call (.ref 116) [.int n t]) Q E s := by
  refine wpAny_call ?_
  with_unfolding_all refine' enter [(Str.ofString "number", .int n t)] X T ?k6 ?k7 ?k8 ?k9 ?kB ?_ ?c2 ?c3 ?c4 ?c5
  walk_at "my enter"
  intro L h₁ F N
  dsimp only
  repeat' walk1
  rename Fr _ _ _ _ => F1
  rename News _ _ _ _ => N1
  rw [Int.fmod_eq_emod_of_nonneg _ (by omega)] at N1
  refine While_inv2 (DigJ n) F1 N1
    ⟨n, t, _, [_], [n % 64], rfl, rfl, rfl, .cons _ _ .nil, h0, h1, rfl, ?_, ?_⟩ ?_
  · have := digits_len3 (n := n); simp; omega
  · exact digits_last h0 h1
  · rintro c m nx h tk F N ⟨q, u, a, vs, ds, hnum, hdig, rfl, hi, q0, q1, rfl, hlen, hd⟩
    repeat' walk1
    · rename 64 ≤ q => hq
      rename Fr _ _ _ _ => F1
      rename News _ _ _ _ => N1
      have hl := hi.length
      have e1 : q.fdiv 64 = q / 64 := Int.fdiv_eq_ediv_of_nonneg _ (by omega)
      have e2 : (q.fdiv 64).fmod 64 = q / 64 % 64 := by rw [e1, Int.fmod_eq_emod_of_nonneg _ (by omega)]
      rw [e2] at N1
      have hst := digits_step hq q1
      have hln : (digits q).length = (digits (q / 64)).length + 1 := by rw [hst]; simp
      have hpos := digits_len (n := q / 64)
      have hle : (digits q).length ≤ 3 := digits_len3
      refine add_lists (vs := [_]) F1 N1 (isl N1 (.head _)) (isl N1 (.tail _ (.head _))) (fun h2 F2 N2 => ?_) (by rw [sizeLine_eq]; simp; omega)
      repeat' walk1
      rename Fr _ _ _ _ => F3
      rename News _ _ _ _ => N3
      refine ⟨_, _, _, _, (q / 64).toNat, rfl, F3, fun p hp => N3 p (by rw [List.mem_singleton.mp hp]; exact .head _), by omega, q / 64, _, _, _ :: vs, (q / 64 % 64) :: ds, by rw [← e1]; rfl, rfl, rfl, .cons _ _ hi, by omega, by omega, rfl, by simp; omega, ?_⟩
      rw [hd, hst, List.dropLast_concat]
      conv => lhs; rw [digits_last (n := q / 64) (by omega) (by omega)]
      simp
    · rename ¬ 64 ≤ q => hq
      have e : digits n = ds := by rw [hd]; unfold digits; rw [if_pos (by omega)]; rfl
      exact k _ _ _ _ _ F.keep (NewIn.of N) lobj (e ▸ hi)
end PartDigits
set_option maxHeartbeats 200000
theorem off_comp : True := by (w_top off); trivial
section
variable {prog : Program} {w : World} {A : Around} {E : Value → Shared → Prop} {s : Shared} {env : Env}

noncomputable def CompAt (prog : Program) (w : World) (A : Around) (env : Env) (elt : Expr) (x : Str) (scope : Scope) (pos : Pos) (iter : Expr) (px : Pos) (Q : Value → Shared → Prop) (E : Value → Shared → Prop) (xv : Value) (s₁ : Shared) : Prop :=
  wpAny (model prog w) A (pyIter xv) (fun it s₂ => wpAny (model prog w) A (newList []) (fun acc s₃ =>
      wpAny (model prog w) A (newFunctionEnv scope env.globals [] [] env.qual none .none (some env)) (fun cenv s₄ =>
        codeAny (model prog w) A (.compStart (.ListComp elt (⟨.Name x px, iter, [], 0⟩ :: []) scope pos) 0 it acc { cenv with scope := scope })
          (fun r s' => ∃ m, s'.heap.Ns cenv.locals m ∧ ∀ h', Heap.SameBut cenv.locals s'.heap h' →
            match r with | .ok _ => Q acc { s' with heap := h' } | .error x => wpAny (model prog w) A (passOn "comprehension.variables-let-go" x { cenv with scope := scope }) Q E { s' with heap := h' }) s₄) E s₃) E s₂) E s₁

theorem Comp_go {elt iter : Expr} {x : Str} {px : Pos} {scope : Scope} {pos : Pos} {Q : Value → Shared → Prop}
    (hfree : ∀ x ∈ scope.names, x.2 ≠ .free) (hkind : scope.kind = .function) (hnames : ∀ x ∈ scope.names, x.2 = .local → scope.names.lookup x.1 = some .local)
    (h : wpAny (model prog w) A (eval iter env) (CompAt prog w A env elt x scope pos iter px Q E) E s)
    (hs : ∀ x, foldedSetIterable iter env x = pure x := by intro _; rfl) :
    wpAny (model prog w) A (eval (.ListComp elt [⟨.Name x px, iter, [], 0⟩] scope pos) env) Q E s := wpAny_ListComp hfree hkind hnames h hs

/-- the end of an element -/
inductive EltEnd (base : Heap) (C D I : Addr) (J : List Value → List (Addr × Obj) → Prop) (own : List (Addr × Obj)) (ys : List Value) (s₁ : Shared) (y : Value) (s₂ : Shared) : Prop
  | mk (h' : Heap) (tk : Nat) (m' : Str → Option Value) (news' nw : List (Addr × Obj)) (e : s₂ = { s₁ with heap := h', toks := tk }) (F : Fr base C h' m') (N : News base C h' news') (y1 : ∀ p ∈ nw, p ∈ news') (y2 : ∀ p ∈ own, p ∈ news') (y3 : ∀ p ∈ nw, p.1 ≠ I ∧ p.1 ≠ D) (y4 : J (ys ++ [y]) nw) : EltEnd base C D I J own ys s₁ y s₂
theorem EltEnd.intro {base : Heap} {C D I : Addr} {J : List Value → List (Addr × Obj) → Prop} {m' : Str → Option Value} {own news' nw : List (Addr × Obj)} {ys : List Value} {y : Value} {s₁ : Shared} {h' : Heap} {tk : Nat} (F : Fr base C h' m') (N : News base C h' news')
    (hn : ∀ p ∈ nw, p ∈ news') (ho : ∀ p ∈ own, p ∈ news') (ha : ∀ p ∈ nw, p.1 ≠ I ∧ p.1 ≠ D) (hj : J (ys ++ [y]) nw) : EltEnd base C D I J own ys s₁ y { s₁ with heap := h', toks := tk } := ⟨h', tk, m', news', nw, rfl, F, N, hn, ho, ha, hj⟩

inductive CompSt (C : Addr) (D : Addr) (I : Addr) (n : Nat) (St : Nat → Heap → Prop) (J : Nat → List Value → List (Addr × Obj) → Prop) (s : Shared) (k : Nat) (s' : Shared) : Prop
  | mk (h' : Heap) (tk : Nat) (m' : Str → Option Value) (ys : List Value) (nw : List (Addr × Obj)) (i : Nat) (y1 : s' = { s with heap := h', toks := tk }) (y2 : St i h') (y3 : h'.IsList D (List.toArray ys)) (y4 : Fr s.heap C h' m') (y5 : News s.heap C h' nw) (y6 : (∀ p ∈ nw, p.1 ≠ I ∧ p.1 ≠ D)) (y7 : J i ys nw) (y8 : i ≤ n) (y9 : k = n + 1 - i) : CompSt C D I n St J s k s'
theorem comp_core {elt iter : Expr} {x : Str} {px : Pos} {scope : Scope} {pos : Pos} {RR : Value → Env → Result → Shared → Prop} {xv : Value} {oI : Obj} {fp : List Addr} {n : Nat} {P : Nat → Value → Prop} {St : Nat → Heap → Prop}
    (J : Nat → List Value → List (Addr × Obj) → Prop)
    (hpy : ∀ (Q : Value → Shared → Prop), Q (.ref s.heap.objs.size) { s with heap := s.heap.push oI } → wpAny (model prog w) A (pyIter xv) Q E s)
    (W : Walks prog w A s.heap.objs.size fp [s.heap.objs.size] n P St) (hoI : oI.isFreed = false)
    (hst : ∀ h : Heap, h.get? s.heap.objs.size = some oI → (∀ b o, s.heap.get? b = some o → h.get? b = some o) → St 0 h)
    (hIs : ∀ i h, St i h → ∃ o, h.get? s.heap.objs.size = some o)
    (hfp : ∀ b ∈ fp, b = s.heap.objs.size ∨ b < s.heap.objs.size)
    (hcell : ∀ y ∈ scope.names, y.2 ≠ .cell) (hkind : scope.kind = .function) (hx : scope.names.lookup x = some .local)
    (hj : J 0 [] []) (hn : n ≤ sizeLine) (hlen : ∀ i ys nw, J i ys nw → ys.length = i)
    (turn : ∀ i v ys nw C D I h tk m₂ own, i < n → P i v → J i ys nw → m₂ x = some v → (∀ p ∈ nw, p.1 ≠ I ∧ p.1 ≠ D) → (∃ oD, (D, oD) ∈ own) → (∃ oI, (I, oI) ∈ own) → Fr s.heap C h m₂ → News s.heap C h (nw ++ own) →
      wpAny (model prog w) A (eval elt (compEnv scope C env)) (EltEnd s.heap C D I (J (i + 1)) own ys { s with heap := h, toks := tk }) (fun _ _ => False) { s with heap := h, toks := tk })
    (done : ∀ h₁ tk₁ C D nw ys oD m', s.heap.StaysIn h₁ → h₁.Ns C m' → s.heap.get? C = none → NewIn s.heap h₁ ((D, oD) :: nw) → (∀ p ∈ (D, oD) :: nw, p.1 ≠ C) → ListObj ys oD → J n ys nw → ∀ f, RR (.ref D) (compEnv scope C env) (.ok f) { s with heap := h₁, toks := tk₁ }) :
    wpAny (model prog w) A (pyIter xv) (fun it s₂ => wpAny (model prog w) A (newList []) (fun acc s₃ =>
      wpAny (model prog w) A (newFunctionEnv scope env.globals [] [] env.qual none .none (some env)) (fun cenv s₄ =>
        codeAny (model prog w) A (.compStart (.ListComp elt [⟨.Name x px, iter, [], 0⟩] scope pos) 0 it acc { cenv with scope := scope }) (RR acc { cenv with scope := scope }) s₄) E s₃) E s₂) E s := by
  refine hpy _ (wpAny_newObj_type (hd := by size_fits) (wpAny_newFunctionEnv hcell (by intro y hy; simp at hy) (fun h₁ hns₁ hsb₁ => ?_) hkind))
  dsimp only at hns₁ hsb₁ ⊢
  generalize hI0 : s.heap.objs.size = I at *
  generalize hH1 : s.heap.push oI = H1 at hns₁ hsb₁ ⊢
  have hD : H1.objs.size = I + 1 := by rw [← hH1, Heap.size_push, hI0]
  generalize hH2 : H1.push { cls := .type "list", dict := none, data := .seq ([] : List Value).toArray } = H2 at hns₁ hsb₁ ⊢
  have hC : H2.objs.size = I + 2 := by rw [← hH2, Heap.size_push, hD]
  generalize hD0 : H1.objs.size = D at *
  generalize hC0 : H2.objs.size = C at *
  have nDI : D ≠ I := by rw [hD]; exact Nat.succ_ne_self _
  have nDC : D ≠ C := by rw [hD, hC]; exact Nat.ne_of_lt (Nat.lt_succ_self _)
  have nIC : I ≠ C := by rw [hC]; exact Nat.ne_of_lt (Nat.lt_succ_of_lt (Nat.lt_succ_self _))
  have below : ∀ b, b < s.heap.objs.size → b ≠ C ∧ b ≠ I ∧ b ≠ D := fun b hb => by
    rw [hI0] at hb
    exact ⟨by rw [hC]; exact Nat.ne_of_lt (Nat.lt_succ_of_lt (Nat.lt_succ_of_lt hb)), Nat.ne_of_lt hb, by rw [hD]; exact Nat.ne_of_lt (Nat.lt_succ_of_lt hb)⟩
  have old : ∀ b o, s.heap.get? b = some o → h₁.get? b = some o := fun b o e =>
    hsb₁.extBut b o (below b (Heap.lt_size e)).1 (Heap.get?_push_of_some _ (hH2 ▸ Heap.get?_push_of_some _ (hH1 ▸ Heap.get?_push_of_some _ e)))
  have hitI : h₁.get? I = some oI := hsb₁.extBut _ _ nIC (Heap.get?_push_of_some _ (hH2 ▸ Heap.get?_push_of_some _ (hH1 ▸ hI0 ▸ Heap.get?_push_size _ hoI)))
  have hst₁ : St 0 h₁ := hst h₁ hitI old
  have hacc : h₁.IsList D #[] := ⟨_, hsb₁.extBut _ _ nDC (Heap.get?_push_of_some _ (hH2 ▸ hD0 ▸ Heap.get?_push_size _ rfl)), rfl, _, rfl⟩
  have nI : s.heap.get? I = none := by
    cases e : s.heap.get? I with
    | none => rfl
    | some o' => exact absurd rfl (below I (Heap.lt_size e)).2.1
  have nD : s.heap.get? D = none := by
    cases e : s.heap.get? D with
    | none => rfl
    | some o' => exact absurd rfl (below D (Heap.lt_size e)).2.2
  have F₁ : Fr s.heap C h₁ _ := ⟨hns₁, old, by rw [hC, hI0]; exact Nat.le_add_right _ _⟩
  have hCfp : C ∉ fp := fun hc => (hfp C hc).elim (fun e => nIC e.symm) fun e => absurd e (by rw [hC]; exact Nat.not_lt.mpr (Nat.le_add_right _ _))
  have hDfp : D ∉ fp := fun hc => (hfp D hc).elim (fun e => nDI e) fun e => absurd e (by rw [hD]; exact Nat.not_lt.mpr (Nat.le_add_right _ _))
  have loop : ∀ s₂ : Shared, s₂ = { s with heap := h₁, toks := s.toks + ([] : List (Str × Value)).length } →
      codeAny (model prog w) A (.compLoop (.ListComp elt [⟨.Name x px, iter, [], 0⟩] scope pos) 0 (.ref I) (.ref D) (compEnv scope C env))
        (RR (.ref D) (compEnv scope C env)) s₂ := by
    rintro s₂ rfl
    refine codeAny_compLoop_list
      (CompSt C D I n St J s) ?_ (n + 1)
      ⟨h₁, _, _, [], [], 0, rfl, hst₁, hacc, F₁, News.nil, List.forall_mem_nil _, hj, Nat.zero_le _, rfl⟩
    rintro k s' ⟨H, tk, m', ys, nw, i, rfl, hst', hacc', F', N', hap, hJ, hi, rfl⟩
    have next : ∀ h₁ : Heap, (∀ b o, b ∉ [I] → H.get? b = some o → h₁.get? b = some o) → Fr s.heap C h₁ m' ∧ News s.heap C h₁ nw ∧ h₁.IsList D (List.toArray ys) := fun h₁ hk₁ =>
      ⟨⟨F'.ns.at' fun o e => hk₁ _ o (fun q => nIC (List.mem_singleton.mp q).symm) e, fun b o e => hk₁ b o (fun q => (below b (Heap.lt_size e)).2.1 (List.mem_singleton.mp q)) (F'.keep b o e), F'.above⟩,
        fun p hp => ⟨hk₁ _ _ (fun q => (hap p hp).1 (List.mem_singleton.mp q)) (N' p hp).1, (N' p hp).2⟩, hacc'.at fun o e => hk₁ _ o (fun q => nDI (List.mem_singleton.mp q)) e⟩
    by_cases hlt : i < n
    · refine W.item i _ _ _ hlt hst' fun v h₁ tk₁ hP hst₁ hk₁ => ?_
      obtain ⟨F₁, N₁, A₁⟩ := next h₁ hk₁
      refine wpAny_assign_Name (wpAny_storeName_local hx F₁.ns (fun h₂ hn₂ hs₂ => ?_) (by simp [compEnv, hkind]))
      have F₂ : Fr s.heap C h₂ _ := F₁.set hn₂ hs₂
      have N₂ : News s.heap C h₂ nw := N₁.set hs₂
      have A₂ : h₂.IsList D (List.toArray ys) := A₁.extBut hs₂.extBut nDC
      have st₂ : St (i + 1) h₂ := W.frame _ _ _ hst₁ fun b hb o e => hs₂.extBut b o (fun q => hCfp (show C ∈ fp from (show b = C from q) ▸ hb)) e
      have Nown : News s.heap C h₂ (ownOf s.heap (D :: I :: fp) h₂) := news_ownOf (by intro hm; rcases List.mem_cons.mp hm with e | hm; exact nDC e.symm; rcases List.mem_cons.mp hm with e | hm; exact nIC e.symm; exact hCfp hm)
      obtain ⟨oD, hoD, hoD'⟩ := id A₂
      have memD := mem_ownOf (fp := D :: I :: fp) (h := h₂) (.head _) nD hoD
      have hIex : ∃ o, h₂.get? I = some o := hIs _ _ st₂
      obtain ⟨oI2, hoI2⟩ := hIex
      have memI := mem_ownOf (fp := D :: I :: fp) (h := h₂) (.tail _ (.head _)) nI hoI2
      refine wpAny_mono (turn i v ys nw C D I h₂ _ _ (ownOf s.heap (D :: I :: fp) h₂) hlt hP hJ (by simp) hap ⟨_, memD⟩ ⟨_, memI⟩ F₂ (fun p hp => (List.mem_append.mp hp).elim (N₂ p) (Nown p))) (fun y s₃ h₃ => ?_) fun _ _ e => e.elim
      obtain ⟨h₃, tk₃, m₃, news₃, nw₃, rfl, F₃, N₃, hn₃, ho₃, ha₃, hJ₃⟩ := h₃
      have A₃ : h₃.IsList D (List.toArray ys) := ⟨oD, (N₃ _ (ho₃ _ memD)).1, hoD'⟩
      have st₃ : St (i + 1) h₃ := W.frame _ _ _ st₂ fun b hb o e => by
        cases hq : s.heap.get? b with
        | some o₀ =>
          have : o₀ = o := by have := F₂.keep b o₀ hq; rw [e] at this; exact (Option.some.inj this).symm
          exact this ▸ F₃.keep b o₀ hq
        | none => exact (N₃ _ (ho₃ _ (mem_ownOf (fp := D :: I :: fp) (.tail _ (.tail _ hb)) hq e))).1
      refine wpAny_list_append (hsz := by have := hlen _ _ _ hJ; rw [List.size_toArray]; omega) A₃ fun h₅ hl₅ hs₅ => ?_
      refine ⟨n + 1 - (i + 1), by omega, h₅, tk₃, m₃, ys ++ [y], nw₃, i + 1, rfl, W.frame _ _ _ st₃ (fun b hb o e => hs₅.extBut b o (fun q => hDfp (q ▸ hb)) e), by simpa using hl₅,
        ⟨F₃.ns.sameBut hs₅ nDC.symm, fun b o e => hs₅.extBut b o (below b (Heap.lt_size e)).2.2 (F₃.keep b o e), F₃.above⟩, fun p hp => ⟨hs₅.extBut _ _ (ha₃ p hp).2 (N₃ p (hn₃ p hp)).1, (N₃ p (hn₃ p hp)).2⟩, ha₃, hJ₃, hlt, rfl⟩
    · have hin : i = n := by omega
      subst hin
      refine W.done _ _ _ hst' fun h₁ tk₁ hk₁ => ?_
      obtain ⟨F₁, N₁, A₁⟩ := next h₁ hk₁
      obtain ⟨oD, hoD, hcD, hdD⟩ := id A₁
      refine done h₁ tk₁ C D nw ys oD m' F₁.keep F₁.ns ?_ (fun p hp => ?_) (fun p hp => ?_) ⟨hcD, hdD⟩ hJ _
      · cases e : s.heap.get? C with
        | none => rfl
        | some o' => exact absurd rfl (below C (Heap.lt_size e)).1
      · rcases List.mem_cons.mp hp with rfl | hp
        · exact ⟨hoD, nD⟩
        · exact ⟨(N₁ p hp).1, (N₁ p hp).2.2⟩
      · rcases List.mem_cons.mp hp with rfl | hp
        · exact nDC
        · exact (N₁ p hp).2.1
  exact codeAny_compStart_list (loop _ rfl) (W.self 0 _ _ _ hst₁ (loop _ rfl))

theorem comp_any {elt iter : Expr} {x : Str} {px : Pos} {scope : Scope} {pos : Pos} {Q : Value → Shared → Prop} {xv : Value} {oI : Obj} {fp : List Addr} {n : Nat} {P : Nat → Value → Prop} {St : Nat → Heap → Prop}
    (J : Nat → List Value → List (Addr × Obj) → Prop)
    (hpy : ∀ (Q : Value → Shared → Prop), Q (.ref s.heap.objs.size) { s with heap := s.heap.push oI } → wpAny (model prog w) A (pyIter xv) Q E s)
    (W : Walks prog w A s.heap.objs.size fp [s.heap.objs.size] n P St) (hoI : oI.isFreed = false)
    (hst : ∀ h : Heap, h.get? s.heap.objs.size = some oI → (∀ b o, s.heap.get? b = some o → h.get? b = some o) → St 0 h)
    (hIs : ∀ i h, St i h → ∃ o, h.get? s.heap.objs.size = some o)
    (hfp : ∀ b ∈ fp, b = s.heap.objs.size ∨ b < s.heap.objs.size)
    (hcell : ∀ y ∈ scope.names, y.2 ≠ .cell) (hkind : scope.kind = .function) (hx : scope.names.lookup x = some .local)
    (hj : J 0 [] []) (hn : n ≤ sizeLine) (hlen : ∀ i ys nw, J i ys nw → ys.length = i)
    (turn : ∀ i v ys nw C D I h tk m₂ own, i < n → P i v → J i ys nw → m₂ x = some v → (∀ p ∈ nw, p.1 ≠ I ∧ p.1 ≠ D) → (∃ oD, (D, oD) ∈ own) → (∃ oI, (I, oI) ∈ own) → Fr s.heap C h m₂ → News s.heap C h (nw ++ own) →
      wpAny (model prog w) A (eval elt (compEnv scope C env)) (EltEnd s.heap C D I (J (i + 1)) own ys { s with heap := h, toks := tk }) (fun _ _ => False) { s with heap := h, toks := tk })
    (done : ∀ h' tk D nw ys o, s.heap.StaysIn h' → NewIn s.heap h' ((D, o) :: nw) → ListObj ys o → J n ys nw → Q (.ref D) { s with heap := h', toks := tk }) :
    CompAt prog w A env elt x scope pos iter px Q E xv s := by
  unfold CompAt
  refine comp_core (RR := fun acc cenv r s' => ∃ m, s'.heap.Ns cenv.locals m ∧ ∀ h', Heap.SameBut cenv.locals s'.heap h' →
      match r with | .ok _ => Q acc { s' with heap := h' } | .error x => wpAny (model prog w) A (passOn "comprehension.variables-let-go" x cenv) Q E { s' with heap := h' })
    J hpy W hoI hst hIs hfp hcell hkind hx hj hn hlen turn ?_
  intro h₁ tk₁ C D nw ys oD m' st ns hC nw2 nC lo hJ f
  refine ⟨m', ns, fun h'' hs'' => done h'' tk₁ D nw ys oD (fun b o e => hs''.extBut b o (fun q => ?_) (st b o e)) (fun p hp => ⟨hs''.extBut _ _ (nC p hp) (nw2 p hp).1, (nw2 p hp).2⟩) lo hJ⟩
  have q : b = C := q
  rw [q, hC] at e; cases e

theorem comp_list {elt iter : Expr} {x : Str} {px : Pos} {scope : Scope} {pos : Pos} {Q : Value → Shared → Prop} {l : Addr} {vs : List Value}
    (J : Nat → List Value → List (Addr × Obj) → Prop) (hh : A.handled = none) (hl : s.heap.IsList l vs.toArray)
    (hj : J 0 [] []) (hn : vs.length ≤ sizeLine) (hlen : ∀ i ys nw, J i ys nw → ys.length = i)
    (turn : ∀ i v ys nw C D I h tk m₂ own, vs[i]? = some v → J i ys nw → m₂ x = some v → (∀ p ∈ nw, p.1 ≠ I ∧ p.1 ≠ D) → (∃ oD, (D, oD) ∈ own) → (∃ oI, (I, oI) ∈ own) → Fr s.heap C h m₂ → News s.heap C h (nw ++ own) →
      wpAny (model prog w) A (eval elt (compEnv scope C env)) (EltEnd s.heap C D I (J (i + 1)) own ys { s with heap := h, toks := tk }) (fun _ _ => False) { s with heap := h, toks := tk })
    (done : ∀ h' tk D nw ys o, s.heap.StaysIn h' → NewIn s.heap h' ((D, o) :: nw) → ListObj ys o → J vs.length ys nw → Q (.ref D) { s with heap := h', toks := tk })
    (hcell : ∀ y ∈ scope.names, y.2 ≠ .cell) (hkind : scope.kind = .function) (hx : scope.names.lookup x = some .local) :
    CompAt prog w A env elt x scope pos iter px Q E (.ref l) s := by
  obtain ⟨ol, hol, hol'⟩ := id hl
  have hlt := Heap.lt_size hol
  have hne : l ≠ s.heap.objs.size := Nat.ne_of_lt hlt
  have W := Walks.list (prog := prog) (w := w) hh s.heap.objs.size l hne vs.toArray
  have e : vs.toArray.size = vs.length := by simp
  rw [e] at W
  refine comp_any J (fun Q hq => wpAny_pyIter_list hl hq) W rfl (fun h hi hk => ⟨⟨_, hi, rfl, rfl⟩, ol, hk _ _ hol, hol'⟩) (fun i h st => ⟨_, st.1.choose_spec.1⟩) (fun b hb => ?_) hcell hkind hx hj hn hlen
    (fun i v ys nw C D I h tk m₂ own hi hP => turn i v ys nw C D I h tk m₂ own (by simpa using hP)) done
  rcases List.mem_cons.mp hb with e | hb
  · exact .inl e
  · exact .inr (by rw [List.mem_singleton.mp hb]; exact hlt)

theorem comp_str {elt iter : Expr} {x : Str} {px : Pos} {scope : Scope} {pos : Pos} {Q : Value → Shared → Prop} {y : Str} {t : Tok}
    (J : Nat → List Value → List (Addr × Obj) → Prop) (hh : A.handled = none) (ha : y.cps.all (· < 128) = true)
    (hj : J 0 [] []) (hn : y.cps.size ≤ sizeLine) (hlen : ∀ i ys nw, J i ys nw → ys.length = i)
    (turn : ∀ i c u ys nw C D I h tk m₂ own, y.cps[i]? = some c → J i ys nw → m₂ x = some (.str ⟨#[c]⟩ u) → (∀ p ∈ nw, p.1 ≠ I ∧ p.1 ≠ D) → (∃ oD, (D, oD) ∈ own) → (∃ oI, (I, oI) ∈ own) → Fr s.heap C h m₂ → News s.heap C h (nw ++ own) →
      wpAny (model prog w) A (eval elt (compEnv scope C env)) (EltEnd s.heap C D I (J (i + 1)) own ys { s with heap := h, toks := tk }) (fun _ _ => False) { s with heap := h, toks := tk })
    (done : ∀ h' tk D nw ys o, s.heap.StaysIn h' → NewIn s.heap h' ((D, o) :: nw) → ListObj ys o → J y.cps.size ys nw → Q (.ref D) { s with heap := h', toks := tk })
    (hcell : ∀ y ∈ scope.names, y.2 ≠ .cell) (hkind : scope.kind = .function) (hx : scope.names.lookup x = some .local) :
    CompAt prog w A env elt x scope pos iter px Q E (.str y t) s := by
  have W := Walks.strAscii (prog := prog) (w := w) hh s.heap.objs.size y t
  refine comp_any J (fun Q hq => wpAny_pyIter_ascii ha hq) W rfl (fun h hi hk => ⟨_, hi, rfl, rfl⟩) (fun i h st => ⟨_, st.choose_spec.1⟩) (fun b hb => .inl (List.mem_singleton.mp hb)) hcell hkind hx hj hn hlen
    (fun i v ys nw C D I h tk m₂ own hi hP hJ hm => ?_) done
  obtain ⟨c, u, hc, rfl⟩ := hP
  exact turn i c u ys nw C D I h tk m₂ own hc hJ hm
end

section
variable {prog : Program} {w : World} {M : Model} {A : Around} {E : Value → Shared → Prop} {s : Shared} {env : Env} {K : Frag} {h₀ : Heap} {C : Addr} {m mg mb : Str → Option Value} {p : Program} {loose : List Str} {mean : ExcName → Option Value} {x : Str} {pos : Pos} {v : Value} {Q : Value → Shared → Prop} {scope : Scope}
theorem ldc (F : Fr h₀ C s.heap m) (hv : m x = some v) (h : Q v s) (hk : scope.kind = .function := by rfl) (hl : scope.names.lookup x = some .local := by rfl) (hd : (x == ("__debug__" : Str)) = false := by decide) :
    wpAny M A (eval (.Name x pos) (compEnv scope C env)) Q E s := wpAny_Name (wpAny_loadName_local (env := compEnv scope C env) hk hl F.ns hv h) hd
theorem ldcG (F : Fr h₀ C s.heap m) (X : K.In h₀) (T : Top p loose mean mg mb h₀) (e : nsIn K mainGlobals x = some (some v)) (h : Q v s) (hg : env.globals = mainGlobals := by rfl) (hk : scope.kind = .function := by rfl) (hl : scope.names.lookup x = some .globalImplicit := by rfl) (hd : (x == ("__debug__" : Str)) = false := by decide) :
    wpAny M A (eval (.Name x pos) (compEnv scope C env)) Q E s :=
  Name_function_global hk hl (loadGlobal_global (env := compEnv scope C env) (by show s.heap.Ns env.globals mg; rw [hg]; exact T.g.keeps F.keep) (mg_of X T.g e) h) hd
theorem ldcB (F : Fr h₀ C s.heap m) (X : K.In h₀) (T : Top p loose mean mg mb h₀) (e : nsIn K mainGlobals x = some none) (hv : bootBuiltins x = some v) (hn : x ≠ "__name__") (h : Q v s) (hg : env.globals = mainGlobals := by rfl) (hb : env.builtins = builtinsNs := by rfl) (hk : scope.kind = .function := by rfl) (hl : scope.names.lookup x = some .globalImplicit := by rfl) (hd : (x == ("__debug__" : Str)) = false := by decide) :
    wpAny M A (eval (.Name x pos) (compEnv scope C env)) Q E s :=
  Name_function_global hk hl (loadGlobal_builtin (env := compEnv scope C env) (by show s.heap.Ns env.globals mg; rw [hg]; exact T.g.keeps F.keep) (mg_none_of X T.g e) (by show s.heap.Ns env.builtins mb; rw [hb]; exact T.b.keeps F.keep) ((T.builtins x hn).trans hv) h) hd
end




local macro_rules | `(tactic| walk_at "eval Name") => `(tactic| refine ldc (by assumption) (by first | rfl | assumption) ?_)
local macro_rules | `(tactic| walk_at "eval Name") => `(tactic| (k_here; (with_reducible show wpAny _ _ (eval _ (compEnv _ _ _)) _ _ _); (with_reducible rename Fr _ _ _ _ => kF); k_dflt (refine' ldcG kF ?k1 ?k2 ?k3 ?_; (case k1 => k_asm); (case k2 => k_asm); (case k3 => k_is); k_whole)))
local macro_rules | `(tactic| walk_at "eval Name") => `(tactic| (k_here; (with_reducible show wpAny _ _ (eval _ (compEnv _ _ _)) _ _ _); (with_reducible rename Fr _ _ _ _ => kF); k_dflt (refine' ldcB kF ?k1 ?k2 ?k3 ?k4 ?k5 ?_; (case k1 => k_asm); (case k2 => k_asm); (case k3 => k_is); (case k4 => boot_by_name); (case k5 => decide); k_whole)))
local macro_rules | `(tactic| walk_at "same 3") => `(tactic| refine Comp_go (by decide) (by rfl) (by decide) ?_)
local macro_rules | `(tactic| walk_at "eval ListComp Call cons") => `(tactic| walk_at "same 3")
local macro_rules | `(tactic| walk_at "eval ListComp BinOp cons") => `(tactic| walk_at "same 3")
section PartText
set_option maxHeartbeats 200000
theorem off_text : True := by (w_top off); trivial
noncomputable def St (cs : List Nat) : Str := ⟨cs.toArray⟩
theorem St_len (cs : List Nat) : (St cs).length = cs.length := by simp [St, Str.length]
theorem St_app (a b : List Nat) : St a ++ St b = St (a ++ b) := by
  show (⟨(St a).cps ++ (St b).cps⟩ : Str) = _
  simp [St]
theorem St_inj {a b : List Nat} (h : St a = St b) : a = b := by
  have := congrArg (fun s => s.cps.toList) h
  simpa [St] using this
theorem St_eta (x : Str) : x = St x.cps.toList := by simp [St]
theorem empty_app (x : Str) : (Str.ofString "") ++ x = x := by
  have e : Str.ofString "" = St [] := by decide +kernel
  rw [e, St_eta x, St_app]; rfl
theorem join_empty : ∀ l : List (List Nat), Str.join (Str.ofString "") (l.map St) = St l.flatten
  | [] => by decide +kernel
  | [x] => by show St x = _; simp
  | x :: y :: r => by
    show St x ++ Str.ofString "" ++ Str.join (Str.ofString "") ((y :: r).map St) = _
    rw [join_empty (y :: r)]
    have e : Str.ofString "" = St [] := by decide +kernel
    rw [e, St_app, St_app]; simp
theorem txtjoin_empty (l : List (List Nat)) : Txt.join (Str.ofString "") (l.map St) = St l.flatten := (StrLaws.glued_eq_join _ _).trans (join_empty l)
theorem StrsAre.snoc {vs : List Value} {ss : List Str} (h : StrsAre vs ss) (x : Str) (t : Tok) : StrsAre (vs ++ [.str x t]) (ss ++ [x]) := h.append' (.cons x t .nil)
theorem IntsAre.snoc {vs : List Value} {ss : List Int} (h : IntsAre vs ss) (x : Int) (t : Tok) : IntsAre (vs ++ [.int x t]) (ss ++ [x]) := h.append (.cons x t .nil)
section
variable {prog : Program} {w : World} {A : Around} {E : Value → Shared → Prop} {s : Shared} {a b : List Nat} {t u : Tok} {Q : Value → Shared → Prop}
theorem addS (hsz : a.length + b.length ≤ 1000000) (h : ∀ t' tk, Q (.str (St (a ++ b)) t') { s with toks := tk }) : wpAny (model prog w) A (binaryOp .Add (.str (St a) t) (.str (St b) u)) Q E s :=
  PyProof.Rows.add_str (by rw [St_app]; exact h) (by rw [St_len, St_len, sizeLine_eq]; omega)
theorem iaddS (hsz : a.length + b.length ≤ 1000000) (h : ∀ t' tk, Q (.str (St (a ++ b)) t') { s with toks := tk }) : wpAny (model prog w) A (inplaceOp .Add (.str (St a) t) (.str (St b) u)) Q E s :=
  PyProof.Rows.iadd_str (by rw [St_app]; exact h) (by rw [St_len, St_len, sizeLine_eq]; omega)
end
end PartText
section PartOpenS
set_option maxHeartbeats 8000000
theorem off_opens : True := by (w_top off); trivial
noncomputable def openC (row : List Int) : List Nat := row.map fun d => (64 + d).toNat

theorem open_flat : ∀ ns : List Int, (ns.map fun d => [(64 + d).toNat]).flatten = openC ns
  | [] => rfl
  | x :: r => by simp only [List.map_cons, List.flatten_cons, openC, open_flat r]; rfl
theorem sum_ones {α : Type} : ∀ ns : List α, (ns.map fun _ => 1).sum = ns.length
  | [] => rfl
  | x :: r => by simp [sum_ones r]; omega
theorem open_spec {w : World} {A : Around} {s : Shared} {p : Program} {loose : List Str} {mean : ExcName → Option Value} {mg mb : Str → Option Value} {Q E : Value → Shared → Prop}
    (X : (hd.heap_39 w.params).In s.heap) (T : Top p loose mean mg mb s.heap) (hA : A.depth < 900) (hh : A.handled = none)
    {a : Addr} {vs : List Value} {ns : List Int} (hl : s.heap.IsList a vs.toArray) (hi : IntsAre vs ns) (hb : ∀ n ∈ ns, 0 ≤ n ∧ n < 64) (hn : ns.length ≤ 3)
    (k : ∀ h' tk t, s.heap.StaysIn h' → Q (.str (St (openC ns)) t) { s with heap := h', toks := tk }) :
    wpAny (model pr w) A (call (.ref 128) [.ref a]) Q E s := by
  refine wpAny_call ?_
  with_unfolding_all refine' enter [(Str.ofString "row", .ref a)] X T ?k6 ?k7 ?k8 ?k9 ?kB ?_ ?c2 ?c3 ?c4 ?c5
  walk_at "my enter"
  intro L h₁ F N
  dsimp only
  repeat' walk1
  have X1 := X.keeps F.keep
  have T1 := T.keeps F.keep
  refine comp_list (fun i ys nw => nw = [] ∧ ys.length = i ∧ StrsAre ys ((ns.take i).map fun d => St [(64 + d).toNat])) hh (hl.at (F.keep _)) ⟨rfl, rfl, .nil⟩ ?_ ?_ ?_ ?_ (by decide) rfl rfl
  · have := hi.length; rw [sizeLine_eq]; omega
  · exact fun i ys nw h => h.2.1
  · rintro i v ys nw C D I h tk m₂ own hv ⟨rfl, hy, hs⟩ hm _ _ _ F2 N2
    obtain ⟨d, u, rfl, hd⟩ := IntsAre.at hi i v hv
    have hdb := hb d (List.mem_of_getElem? hd)
    repeat' walk1
    refine EltEnd.intro (nw := []) (by assumption) N2 (List.forall_mem_nil _) (fun _ hp => hp) (List.forall_mem_nil _) ⟨rfl, by simp [hy], ?_⟩
    rw [List.take_add_one, hd, Option.toList_some, List.map_append]
    exact StrsAre.snoc hs (St [(64 + d).toNat]) _
  · rintro h' tk D nw ys o st W hlo ⟨rfl, _, hs⟩
    repeat' walk1
    have e : ns.take vs.length = ns := by rw [hi.length]; exact List.take_length
    rw [e] at hs
    obtain ⟨hc, n, hd⟩ := hlo
    refine join_listW (items := ys.toArray) ⟨o, (W _ (.head _)).1, hc, n, hd⟩ (by simpa using hs) (by decide) ?_ ?_
    · have e : ((ns.map fun d => St [(64 + d).toNat]).map (·.length)).sum = ns.length := by simpa [Function.comp_def, St_len] using sum_ones ns
      rw [e, List.length_map]; omega
    · intro t' k'
      have e : ns.map (fun d => St [(64 + d).toNat]) = (ns.map fun d => [(64 + d).toNat]).map St := by simp
      rw [e, txtjoin_empty]
      have e2 : (ns.map fun d => [(64 + d).toNat]).flatten = openC ns := open_flat ns
      rw [e2]
      exact k _ _ _ fun b o e => st b o (F.keep b o e)
end PartOpenS
set_option maxHeartbeats 200000
theorem off_items : True := by (w_top off); trivial
section
variable {prog : Program} {w : World} {A : Around} {E : Value → Shared → Prop} {s : Shared} {h₀ : Heap} {L l : Addr} {m : Str → Option Value} {news : List (Addr × Obj)} {value slice : PySem.Expr} {vs zs : List Value} {vl vu : Value} {lo hi : Option Int} {Q : Value → Shared → Prop}
theorem lslice (F : Fr h₀ L s.heap m) (N : News h₀ L s.heap news) (hl : s.heap.IsList l vs.toArray) (pl : IsPart vl lo) (pu : IsPart vu hi) (e : slicePick vs.toArray lo hi none = zs.toArray)
    (h : ∀ D h', Fr h₀ L h' m → News h₀ L h' ((D, listOf zs.toArray 0) :: news) → (∀ p ∈ news, p.1 < D) → Q (.ref D) { s with heap := h' }) (hz : vs.length ≤ sizeLine)
    (hs : subscripted slice false (.ref l) (.ref s.heap.objs.size) = operate [.ref s.heap.objs.size, .ref l] (getItem (.ref l) (.ref s.heap.objs.size)) := by with_unfolding_all rfl) :
    wpAny (model prog w) A (subscriptTail value slice (.ref l) (.ref s.heap.objs.size)) Q E { s with heap := s.heap.push { cls := .type "slice", data := .fields #[vl, vu, .none] } } := by
  refine tail_any (Heap.IsList.typeIs (s := { s with heap := s.heap.push { cls := .type "slice", data := .fields #[vl, vu, .none] } }) (hl.push _)) list_getitem_lookup
    (wpAny_getItem_list_slice (hl.push _) (Heap.IsSliceOf.new ..) pl pu .none (by simp) ?_ (by rw [List.size_toArray]; exact hz)) hs
  have N1 := News.push (F.push { cls := .type "slice", data := .fields #[vl, vu, .none] }) (N.grown fun _ _ e => Heap.get?_push_of_some _ e) { cls := .type "list", data := .seq (slicePick vs.toArray lo hi none) }
  rw [e] at N1 ⊢
  exact h _ _ ((F.push _).push _) N1 fun p hp => by rw [Heap.size_push]; exact Nat.lt_succ_of_lt (Heap.lt_size (N p hp).1)
theorem litem {k : Int} {u : Tok} {v : Value} (hl : s.heap.IsList l vs.toArray) (h0 : 0 ≤ k) (hhi : k < 2 ^ 63) (hx : vs[k.toNat]? = some v) (h : Q v s)
    (hs : subscripted slice false (.ref l) (.int k u) = operate [.ref l, .int k u] (getItem (.ref l) (.int k u)) := by with_unfolding_all rfl) :
    wpAny (model prog w) A (subscriptTail value slice (.ref l) (.int k u)) Q E s :=
  tail_any hl.typeIs slot_list_getitem.lookup (wpAny_getItem_list hl h0 hhi (by simpa using hx) h) hs
theorem litem_last {u : Tok} {v : Value} (hl : s.heap.IsList l vs.toArray) (hx : vs.getLast? = some v) (h : Q v s)
    (hs : subscripted slice false (.ref l) (.int (-1) u) = operate [.ref l, .int (-1) u] (getItem (.ref l) (.int (-1) u)) := by with_unfolding_all rfl) :
    wpAny (model prog w) A (subscriptTail value slice (.ref l) (.int (-1) u)) Q E s := by
  have hpos : 0 < vs.length := by cases vs with
    | nil => simp at hx
    | cons => simp
  refine tail_any hl.typeIs slot_list_getitem.lookup (wpAny_getItem_list_neg hl (by omega) (by rw [List.size_toArray]; omega) (by omega) ?_ h) hs
  rw [List.getLast?_eq_getElem?] at hx
  rw [List.size_toArray, show (-1 + (vs.length : Int)).toNat = vs.length - 1 by omega]
  simpa using hx
theorem len_base {a : Addr} (F : Fr h₀ L s.heap m) (hl : h₀.IsList a vs.toArray) (hn : vs.length ≤ 1000000) (h : ∀ t tk, Q (.int (vs.length : Nat) t) { s with toks := tk }) :
    wpAny (model prog w) A (call (.builtin "len") [.ref a]) Q E s :=
  call_len_list (hl.at (F.keep _)) (by rw [List.size_toArray]; omega) (by rw [List.size_toArray]; exact h _ _)
theorem len_led {a : Addr} {n : Nat} (N : News h₀ L s.heap news) (hm : (a, listOf vs.toArray n) ∈ news) (hn : vs.length ≤ 1000000) (h : ∀ t tk, Q (.int (vs.length : Nat) t) { s with toks := tk }) :
    wpAny (model prog w) A (call (.builtin "len") [.ref a]) Q E s :=
  call_len_list (isl N hm) (by rw [List.size_toArray]; omega) (by rw [List.size_toArray]; exact h _ _)
theorem lappend {D : Addr} {n : Nat} {x : Value} {news' : List (Addr × Obj)} (F : Fr h₀ L s.heap m) (N : News h₀ L s.heap news) (U : Upd D (listOf vs.toArray n) (listOf (vs ++ [x]).toArray (n + 1)) news news') (hsz : vs.length ≤ 1000000)
    (h : ∀ h', Fr h₀ L h' m → News h₀ L h' news' → Q .none { s with heap := h' }) : wpAny (model prog w) A (call (.builtin "list.append") [.ref D, x]) Q E s :=
  append_K F N (by rw [List.push_toArray]; exact U) h (by rw [List.size_toArray, sizeLine_eq]; omega)
end
section
variable {prog : Program} {w : World} {A : Around} {E : Value → Shared → Prop} {s : Shared} {h₀ : Heap} {L D : Addr} {news : List (Addr × Obj)} {its : Array Value} {n : Nat}
theorem app_method {pl : Sem Bool} {Q : Value × List Value → Shared → Prop} (N : News h₀ L s.heap news) (hm : (D, listOf its n) ∈ news)
    (h : Q (.builtin "list.append", [.ref D]) s) : wpAny (model prog w) A (getMethod (.ref D) (Str.ofString "append") pl) Q E s :=
  getMethod_builtin ⟨_, (N _ hm).1, rfl⟩ PySem.F.plainAttrs_list slot_list_append type_list_append (fun a e => by cases e; exact ⟨_, (N _ hm).1, rfl⟩) h
end



local macro_rules | `(tactic| walk_at "getMethod ref") => `(tactic| ((with_reducible show wpAny _ _ (getMethod (Value.ref _) (PySem.Str.ofString "append") _) _ _ _); (with_unfolding_all refine' app_method ?N ?m ?_; (case N => assumption); (case m => k_mem))))
local macro_rules | `(tactic| walk_at "loadName") => `(tactic| refine ldn (by assumption) (by first | rfl | assumption) ?_)
local macro_rules | `(tactic| walk_at "call builtin:list.append") => `(tactic| ((refine' lappend ?k1 ?k2 ?k3 ?k4 ?_; (case k1 => assumption); (case k2 => assumption); (case k3 => k_upd); (case k4 => omega)); intro h' F' N'))
local macro_rules | `(tactic| walk_at "call builtin:len") => `(tactic| (refine len_base (by assumption) (by assumption) (by omega) ?_; intro _ _))
noncomputable abbrev tupOf (vs : List Value) : Obj := { cls := .type "tuple", data := .seq vs.toArray }
theorem tobj {vs : List Value} : TupObj vs (tupOf vs) := ⟨rfl, 0, rfl⟩
theorem int_some {i j : Int} {t : Tok} (h : i = j) : some (Value.int i t) = some (Value.int j t) := by rw [h]
theorem bool_some {i j : Bool} (h : i = j) : some (Value.bool i) = some (Value.bool j) := by rw [h]
theorem pick_nat (items : Array Value) {a b : Nat} {lo hi : Option Int} (e : sliceBounds lo hi none items.size = ((a : Int), (b : Int), 1)) : slicePick items lo hi none = ((items.toList.drop a).take (b - a)).toArray := by
  unfold slicePick
  rw [e]
  simp only [sliceRange_one, pick_run]
theorem drop_min {α : Type} (l : List α) (a : Nat) : l.drop (min a l.length) = l.drop a := by
  by_cases h : a ≤ l.length
  · rw [Nat.min_eq_left h]
  · rw [Nat.min_eq_right (by omega), List.drop_of_length_le (Nat.le_refl _), List.drop_of_length_le (by omega)]
theorem take_min {α : Type} (l : List α) (b : Nat) : l.take (min b l.length) = l.take b := by
  by_cases h : b ≤ l.length
  · rw [Nat.min_eq_left h]
  · rw [Nat.min_eq_right (by omega), List.take_of_length_le (Nat.le_refl _), List.take_of_length_le (by omega)]
theorem pick_butlast (vs : List Value) : slicePick vs.toArray none (some (-1)) none = vs.dropLast.toArray := by
  have e : sliceBounds none (some (-1)) none vs.toArray.size = (((0 : Nat) : Int), ((vs.length - 1 : Nat) : Int), 1) := by
    simp only [sliceBounds, Option.getD_none, show (1 : Int) > 0 by decide, if_true, List.size_toArray, show (-1 : Int) < 0 by decide]
    congr 1
    congr 1
    omega
  rw [pick_nat _ e, List.dropLast_eq_take]
  simp
theorem clip_of {y : Int} (n : Nat) (h : 0 ≤ y) : max 0 (min y (n : Int)) = ((min y.toNat n : Nat) : Int) := by omega
theorem pick_upto (vs : List Value) {y : Int} (h : 0 ≤ y) : slicePick vs.toArray none (some y) none = (vs.take y.toNat).toArray := by
  have e : sliceBounds none (some y) none vs.toArray.size = (((0 : Nat) : Int), ((min y.toNat vs.length : Nat) : Int), 1) := by
    simp only [sliceBounds, Option.getD_none, show (1 : Int) > 0 by decide, if_true, if_neg (show ¬ (y < 0) by omega), List.size_toArray]
    congr 1
    congr 1
    exact clip_of _ h
  rw [pick_nat _ e, Nat.sub_zero]
  show (List.take (min y.toNat vs.length) vs).toArray = _
  rw [take_min]
theorem pick_run2 (vs : List Value) {x y : Int} (h : 0 ≤ x) (h2 : 0 ≤ y) : slicePick vs.toArray (some x) (some y) none = ((vs.drop x.toNat).take (y.toNat - x.toNat)).toArray := by
  have e : sliceBounds (some x) (some y) none vs.toArray.size = (((min x.toNat vs.length : Nat) : Int), ((min y.toNat vs.length : Nat) : Int), 1) := by
    simp only [sliceBounds, Option.getD_none, show (1 : Int) > 0 by decide, if_true, if_neg (show ¬ (x < 0) by omega), if_neg (show ¬ (y < 0) by omega), List.size_toArray]
    congr 1
    · exact clip_of _ h
    · congr 1
      exact clip_of _ h2
  rw [pick_nat _ e]
  show (List.take _ (List.drop (min x.toNat vs.length) vs)).toArray = _
  rw [drop_min]
  congr 1
  by_cases hc : y.toNat ≤ vs.length
  · by_cases hd : x.toNat ≤ vs.length
    · rw [Nat.min_eq_left hc, Nat.min_eq_left hd]
    · rw [List.drop_of_length_le (by omega)]; simp
  · rw [Nat.min_eq_right (by omega)]
    by_cases hd : x.toNat ≤ vs.length
    · rw [Nat.min_eq_left hd, List.take_of_length_le (by rw [List.length_drop]; omega), List.take_of_length_le (by rw [List.length_drop]; omega)]
    · rw [List.drop_of_length_le (by omega)]; simp
theorem IntsAre.dropLast {vs : List Value} {ns : List Int} (h : IntsAre vs ns) : IntsAre vs.dropLast ns.dropLast := by
  rw [List.dropLast_eq_take, List.dropLast_eq_take, h.length]
  exact h.take _
theorem IntsAre.last {vs : List Value} {ns : List Int} (h : IntsAre vs ns) {d : Int} (e : ns.getLast? = some d) : ∃ t, vs.getLast? = some (.int d t) := by
  rw [List.getLast?_eq_getElem?] at e ⊢
  rw [h.length]
  exact h.get _ d e
theorem sub_le_pred {a i n : Nat} (h : a - i ≤ n + 1) : a - (i + 1) ≤ n := by omega
theorem lt_of_int {j a b : Nat} (h : (j : Int) < (a : Nat)) (e : a = b) : j < b := by omega
theorem le_of_int {j a b : Nat} (h : ¬ (j : Int) < (a : Nat)) (e : a = b) : b ≤ j := by omega
theorem step_lt {a i j : Nat} (h : i < j) (hj : j ≤ a) : a - j < a - i := by omega
theorem step_le {a i j n : Nat} (h : i < j) (hn : a - i ≤ n + 1) : a - j ≤ n := by omega
theorem small_of {a b c : Nat} (h : a ≤ b) (hb : b ≤ c) (hc : c ≤ 1000) : a ≤ 1000000 := by omega
theorem one_of {a b : Nat} (h : (a : Int) = 1) (e : a = b) : b = 1 := by omega
theorem one_no {a b : Nat} (h : (a : Int) ≠ 1) (e : a = b) : ¬ b = 1 := by omega
theorem step_lt2 {a j : Nat} (h : j < a) : a - (j + 1) < 1 + (a - j) := by omega
section PartSigns
set_option maxHeartbeats 8000000
theorem off_signs : True := by (w_top off); trivial
noncomputable def RowAt (h : Heap) (v : Value) (r : List Int) : Prop := ∃ a vs, v = .ref a ∧ h.IsList a vs.toArray ∧ IntsAre vs r
theorem RowAt.keeps {h h' : Heap} (st : h.StaysIn h') {v : Value} {r : List Int} (x : RowAt h v r) : RowAt h' v r := let ⟨a, vs, e, hl, hi⟩ := x; ⟨a, vs, e, hl.at (st _), hi⟩
noncomputable def RowOk (r : List Int) : Prop := r ≠ [] ∧ r.length ≤ 3 ∧ ∀ n ∈ r, 0 ≤ n ∧ n < 64
noncomputable def signC (r : List Int) : List Nat := openC r.dropLast ++ [(r.getLast?.getD 0).toNat]
noncomputable def signsC (rows : List (List Int)) : List Nat := (rows.map signC).flatten

theorem openC_len (r : List Int) : (openC r).length = r.length := by simp [openC]
theorem signC_len {r : List Int} (h : RowOk r) : (signC r).length = r.length := by
  have := List.length_pos_iff.mpr h.1
  simp [signC, openC_len]; omega
theorem signs_sum : ∀ rows : List (List Int), (∀ r ∈ rows, RowOk r) → (rows.map fun r => (signC r).length).sum ≤ 3 * rows.length
  | [], _ => by simp
  | r :: rest, h => by
    have h1 := signs_sum rest (fun r hr => h r (.tail _ hr))
    have h2 := signC_len (h r (.head _))
    have h3 := (h r (.head _)).2.1
    simp only [List.map_cons, List.sum_cons, List.length_cons]
    omega
theorem signs_spec {w : World} {A : Around} {s : Shared} {p : Program} {loose : List Str} {mean : ExcName → Option Value} {mg mb : Str → Option Value} {Q E : Value → Shared → Prop}
    (X : (hd.heap_39 w.params).In s.heap) (T : Top p loose mean mg mb s.heap) (hA : A.depth < 890) (hh : A.handled = none)
    {a : Addr} {vs : List Value} {rows : List (List Int)} (hl : s.heap.IsList a vs.toArray) (hi : All2 (RowAt s.heap) vs rows) (hb : ∀ r ∈ rows, RowOk r) (hn : rows.length ≤ 1000)
    (k : ∀ h' tk t, s.heap.StaysIn h' → Q (.str (St (signsC rows)) t) { s with heap := h', toks := tk }) :
    wpAny (model pr w) A (call (.ref 133) [.ref a]) Q E s := by
  refine wpAny_call ?_
  with_unfolding_all refine' enter [(Str.ofString "rows", .ref a)] X T ?k6 ?k7 ?k8 ?k9 ?kB ?_ ?c2 ?c3 ?c4 ?c5
  walk_at "my enter"
  intro L h₁ F N
  dsimp only
  repeat' walk1
  have X1 := X.keeps F.keep
  have T1 := T.keeps F.keep
  refine comp_list (fun i ys nw => nw = [] ∧ ys.length = i ∧ StrsAre ys ((rows.take i).map fun r => St (signC r))) hh (hl.at (F.keep _)) ⟨rfl, rfl, .nil⟩ ?_ ?_ ?_ ?_ (by decide) rfl rfl
  · have := hi.length; rw [sizeLine_eq]; omega
  · exact fun i ys nw h => h.2.1
  · rintro i v ys nw C D I h tk m₂ own hv ⟨rfl, hy, hs⟩ hm _ _ _ F2 N2
    obtain ⟨r, hr, ra, rvs, rfl, hrl, hri⟩ := hi.get' i v hv
    have hrb := hb r (List.mem_of_getElem? hr)
    repeat' walk1
    rename Fr _ _ _ _ => F3
    refine lslice F3 N2 (hrl.at fun o e => F3.keep _ _ (F.keep _ _ e)) .none (.int _ _) (pick_butlast _) (fun D1 h1 F4 N4 l1 => ?_) (by have := hri.length; have := hrb.2.1; rw [sizeLine_eq]; omega)
    repeat' walk1
    unfold AtCall
    refine open_spec (X1.keeps F4.keep) (T1.keeps F4.keep) (by simp only [depth_deeper]; omega) (by exact hh) (isl N4 (.head _)) (IntsAre.dropLast hri) (fun n hn => hrb.2.2 n ((List.dropLast_sublist r).subset hn)) (by have := hrb.2.1; rw [List.length_dropLast]; omega) (fun h2 tk2 t2 st2 => ?_)
    have F5 := F4.keeps st2
    have N5 : News _ _ _ _ := news_more F4 N4 st2 NewIn.nil
    obtain ⟨d, hd⟩ : ∃ d, r.getLast? = some d := by
      cases hr9 : r.getLast? with
      | some d => exact ⟨d, rfl⟩
      | none => exact absurd (List.getLast?_eq_none_iff.mp hr9) hrb.1
    obtain ⟨td, htd⟩ := IntsAre.last hri hd
    have hdb := hrb.2.2 d (List.mem_of_getLast? hd)
    repeat' walk1
    refine litem_last (hrl.at fun o e => (F4.keeps st2).keep _ _ (F.keep _ _ e)) htd ?_
    repeat' walk1
    rename Fr _ _ _ _ => F6
    refine addS (b := [d.toNat]) (by have := openC_len r.dropLast; have := hrb.2.1; simp at *; omega) (fun t3 tk3 => ?_)
    refine EltEnd.intro (nw := []) F6 N5 (List.forall_mem_nil _) (fun p hp => .tail _ hp) (List.forall_mem_nil _) ⟨rfl, by simp [hy], ?_⟩
    rw [List.take_add_one, hr, Option.toList_some, List.map_append]
    have e : signC r = openC r.dropLast ++ [d.toNat] := by unfold signC; rw [hd]; rfl
    show StrsAre _ (_ ++ [St (signC r)])
    rw [e]
    exact StrsAre.snoc hs (St _) _
  · rintro h' tk D nw ys o st W hlo ⟨rfl, _, hs⟩
    repeat' walk1
    have e : rows.take vs.length = rows := by rw [hi.length]; exact List.take_length
    rw [e] at hs
    obtain ⟨hc, n, hd⟩ := hlo
    refine join_listW (items := ys.toArray) ⟨o, (W _ (.head _)).1, hc, n, hd⟩ (by simpa using hs) (by decide) ?_ ?_
    · have e : (rows.map fun r => St (signC r)).map (·.length) = rows.map fun r => (signC r).length := by simp [St_len, Function.comp_def]
      have := signs_sum rows hb
      rw [e, List.length_map]; omega
    · intro t' k'
      have e : rows.map (fun r => St (signC r)) = (rows.map signC).map St := by simp
      rw [e, txtjoin_empty]
      exact k _ _ _ fun b o e => st b o (F.keep b o e)
end PartSigns
section PartBare
set_option maxHeartbeats 8000000
theorem off_bare : True := by (w_top off); trivial
noncomputable def bare : Bool → List Int → List Int × Bool
  | f, [] => ([], f)
  | f, [d] => ([d], f)
  | f, d :: x :: r => if d = 28 then (x :: (bare (!r.isEmpty) r).1, (bare (!r.isEmpty) r).2) else (d :: (bare f (x :: r)).1, (bare f (x :: r)).2)

theorem bare_esc {f : Bool} {row : List Int} {i : Nat} (h : i + 1 < row.length) (e : row.getD i 0 = 28) :
    bare f (row.drop i) = (row.getD (i + 1) 0 :: (bare (decide (i + 2 < row.length)) (row.drop (i + 2))).1, (bare (decide (i + 2 < row.length)) (row.drop (i + 2))).2) := by
  have e1 : row.drop i = row[i] :: row[i + 1] :: row.drop (i + 2) := by
    rw [List.drop_eq_getElem_cons (by omega), List.drop_eq_getElem_cons h]
  have e2 : row[i] = 28 := by rw [List.getD_eq_getElem?_getD, List.getElem?_eq_getElem (by omega)] at e; exact e
  have e3 : row.getD (i + 1) 0 = row[i + 1] := by rw [List.getD_eq_getElem?_getD, List.getElem?_eq_getElem h]; rfl
  have e4 : (!(row.drop (i + 2)).isEmpty) = decide (i + 2 < row.length) := by
    rw [Bool.eq_iff_iff]
    simp
  rw [e1, bare, if_pos e2, e3, e4]
theorem bare_keep {f : Bool} {row : List Int} {i : Nat} (h : i < row.length) (e : i + 1 < row.length → row.getD i 0 ≠ 28) :
    bare f (row.drop i) = (row.getD i 0 :: (bare f (row.drop (i + 1))).1, (bare f (row.drop (i + 1))).2) := by
  have e3 : row.getD i 0 = row[i] := by rw [List.getD_eq_getElem?_getD, List.getElem?_eq_getElem h]; rfl
  by_cases hc : i + 1 < row.length
  · have e1 : row.drop i = row[i] :: row[i + 1] :: row.drop (i + 2) := by
      rw [List.drop_eq_getElem_cons (by omega), List.drop_eq_getElem_cons hc]
    have e2 : row.drop (i + 1) = row[i + 1] :: row.drop (i + 2) := List.drop_eq_getElem_cons hc
    have e5 : row[i] ≠ 28 := e3 ▸ e hc
    rw [e1, bare, if_neg e5, e2, e3]
  · have e1 : row.drop i = [row[i]] := by rw [List.drop_eq_getElem_cons h, List.drop_of_length_le (by omega)]
    rw [e1, List.drop_of_length_le (by omega), bare, bare, e3]
inductive BareJ (a : Addr) (row : List Int) (c : Nat) (m : Str → Option Value) (nx : List (Addr × Obj)) : Prop
  | mk (i : Nat) (t1 : Tok) (d : Addr) (ws : List Value) (f : Bool) (ks : List Int) (c1 : Nat) (y1 : m (Str.ofString "row") = some (.ref a)) (y2 : m (Str.ofString "place") = some (.int (i : Nat) t1)) (y3 : m (Str.ofString "kept") = some (.ref d)) (y4 : m (Str.ofString "free") = some (.bool f)) (y5 : nx = [(d, listOf ws.toArray c1)]) (y6 : IntsAre ws ks) (y7 : i ≤ row.length) (y8 : c = row.length - i) (y9 : ks.length ≤ i) (y10 : bare true row = (ks ++ (bare f (row.drop i)).1, (bare f (row.drop i)).2)) : BareJ a row c m nx
theorem bare_spec {w : World} {A : Around} {s : Shared} {p : Program} {loose : List Str} {mean : ExcName → Option Value} {mg mb : Str → Option Value} {Q E : Value → Shared → Prop}
    (X : (hd.heap_39 w.params).In s.heap) (T : Top p loose mean mg mb s.heap) (hA : A.depth < 900) (hh : A.handled = none)
    {a : Addr} {vs : List Value} {row : List Int} (hl : s.heap.IsList a vs.toArray) (hi : IntsAre vs row) (hn : row.length ≤ 3)
    (k : ∀ h' tk t o d od ws, s.heap.StaysIn h' → NewIn s.heap h' [(t, o), (d, od)] → TupObj [.ref d, .bool (bare true row).2] o → ListObj ws od → IntsAre ws (bare true row).1 → Q (.ref t) { s with heap := h', toks := tk }) :
    wpAny (model pr w) A (call (.ref 147) [.ref a]) Q E s := by
  refine wpAny_call ?_
  with_unfolding_all refine' enter [(Str.ofString "row", .ref a)] X T ?k6 ?k7 ?k8 ?k9 ?kB ?_ ?c2 ?c3 ?c4 ?c5
  walk_at "my enter"
  intro L h₁ F N
  dsimp only
  repeat' walk1
  rename Fr _ _ _ _ => F1
  rename News _ _ _ _ => N1
  refine While_inv2 (BareJ a row) F1 N1
    ⟨0, _, _, [], true, [], 0, rfl, rfl, rfl, rfl, rfl, .nil, Nat.zero_le _, rfl, Nat.zero_le _, rfl⟩ ?_
  have hvl := hi.length
  have hvb : vs.length ≤ 1000000 := by omega
  rintro c m nx h tk F N ⟨i, t1, d, ws, f, ks, c1, hrow, hpl, hke, hfr, rfl, hw, hile, rfl, hkl, hb⟩
  have hwl := hw.length
  repeat' walk1
  · rename Fr _ _ _ _ => F2
    rename News _ _ _ _ => N2
    rename row.getD _ 0 = 28 => h28
    rename (i : Int) + 1 < vs.length => hlt
    have e1 : ((i : Int) + 1).toNat = i + 1 := rfl
    have hj2 : i + 2 ≤ row.length := by omega
    rw [Int.toNat_natCast] at h28
    rw [e1] at N2
    have hd : decide ((i : Int) + 1 + 1 < (vs.length : Int)) = decide (i + 2 < row.length) := by rw [← hvl]; congr 1; rw [eq_iff_iff]; omega
    refine ⟨_, _, _, _, row.length - (i + 2), rfl, F2, N2, step_lt (Nat.lt_add_of_pos_right Nat.zero_lt_two) hj2, i + 2, _, d, _, decide (i + 2 < row.length), ks ++ [row.getD (i + 1) 0], c1 + 1, hrow, int_some rfl, hke, bool_some hd, rfl, IntsAre.snoc hw _ _, hj2, rfl, by rw [List.length_append]; exact Nat.le_succ_of_le (Nat.succ_le_succ hkl), ?_⟩
    rw [hb, bare_esc hj2 h28]; simp
  · rename Fr _ _ _ _ => F2
    rename News _ _ _ _ => N2
    rename ¬ (i : Int) + 1 < vs.length => hge
    rename (i : Int) < vs.length => hlt
    rw [Int.toNat_natCast] at N2
    refine ⟨_, _, _, _, row.length - (i + 1), rfl, F2, N2, Nat.sub_succ_lt_self _ _ (lt_of_int hlt hvl), i + 1, _, d, _, f, ks ++ [row.getD i 0], c1 + 1, hrow, int_some rfl, hke, hfr, rfl, IntsAre.snoc hw _ _, lt_of_int hlt hvl, rfl, by rw [List.length_append]; exact Nat.succ_le_succ hkl, ?_⟩
    rw [hb, bare_keep (lt_of_int hlt hvl) (fun h => by omega)]; simp
  · rename Fr _ _ _ _ => F2
    rename News _ _ _ _ => N2
    rename ¬ row.getD _ 0 = 28 => h28
    rename (i : Int) < vs.length => hlt
    rw [Int.toNat_natCast] at N2 h28
    refine ⟨_, _, _, _, row.length - (i + 1), rfl, F2, N2, Nat.sub_succ_lt_self _ _ (lt_of_int hlt hvl), i + 1, _, d, _, f, ks ++ [row.getD i 0], c1 + 1, hrow, int_some rfl, hke, hfr, rfl, IntsAre.snoc hw _ _, lt_of_int hlt hvl, rfl, by rw [List.length_append]; exact Nat.succ_le_succ hkl, ?_⟩
    rw [hb, bare_keep (lt_of_int hlt hvl) (fun _ => h28)]; simp
  · rename News _ _ _ _ => N2
    rename Fr _ _ _ _ => F2
    rename ¬ (i : Int) < vs.length => hge
    rw [List.drop_of_length_le (le_of_int hge hvl)] at hb
    have hb1 : (bare true row).1 = ks := by rw [hb]; exact List.append_nil _
    have hb2 : (bare true row).2 = f := by rw [hb]; first | done | simp [bare]
    exact k _ _ _ _ _ _ ws F2.keep (NewIn.of N2) ⟨rfl, 0, by rw [hb2]⟩ lobj (hb1 ▸ hw)
end PartBare
section PartNamed
set_option maxHeartbeats 8000000
theorem off_named : True := by (w_top off); trivial
section
variable {prog : Program} {w : World} {A : Around} {E : Value → Shared → Prop} {s : Shared} {Q : Value → Shared → Prop}
theorem eq_one_row {l b d : Addr} {vs : List Value} {rs : List (List Int)} {n : Int} {t : Tok} (hl : s.heap.IsList l vs.toArray) (hr : All2 (RowAt s.heap) vs rs) (hlen : vs.length ≤ 1)
    (hb : s.heap.IsList b [Value.ref d].toArray) (hd : s.heap.IsList d [Value.int n t].toArray) (hne : ∀ v ∈ vs, v ≠ .ref d) (hu : A.units + 100 < cLine)
    (h : Q (.bool (decide (rs = [[n]]))) s) : wpAny (model prog w) A (compareOp .Eq (.ref l) (.ref b)) Q E s := by
  cases hr with
  | nil => exact eq_list_lengthsAt hl hb rfl (by omega) h
  | cons hx ht =>
    cases ht with
    | cons _ _ => simp at hlen
    | nil =>
      rename_i v r
      obtain ⟨ra, rvs, rfl, hra, hri⟩ := hx
      have hne' : ra ≠ d := fun e => hne _ (.head _) (by rw [e])
      refine eq_listAt (e := fun _ => decide (r = [n])) hl hb rfl (by omega) (fun j h1 h2 => ?_) ?_
      · have hj : j = 0 := by simp at h1; omega
        subst hj
        exact EqAt.of_refs hne' fun prog w E Q hq => ke_eq_ints hra hd hri (.cons n t .nil) (by simp; omega) hq
      · have e : (List.range [Value.ref ra].toArray.size).all (fun _ => decide (r = [n])) = decide ([r] = [[n]]) := by simp
        rw [e]; exact h
end

noncomputable def named : List (List Int) → List (List Int) × List Int
  | [] => ([], [])
  | [r] => if r.getLast? = some 34 then ([], r.dropLast) else ([r], [])
  | r :: q :: rest =>
    if r.getLast? = some 34 then (if q = [34] then (r :: (named rest).1, (named rest).2) else ([], r.dropLast))
    else (r :: (named (q :: rest)).1, (named (q :: rest)).2)

theorem named_cons {r : List Int} {rest : List (List Int)} (e : r.getLast? ≠ some 34) : named (r :: rest) = (r :: (named rest).1, (named rest).2) := by
  cases rest with
  | nil => simp only [named, if_neg e]
  | cons q rest => simp only [named, if_neg e]
theorem named_34 {r : List Int} {rest : List (List Int)} (e : r.getLast? = some 34) : named (r :: [34] :: rest) = (r :: (named rest).1, (named rest).2) := by
  simp only [named, if_pos e, if_true]
theorem named_cut {r : List Int} {rest : List (List Int)} (e : r.getLast? = some 34) (e2 : ¬ rest.take 1 = [[34]]) : named (r :: rest) = ([], r.dropLast) := by
  cases rest with
  | nil => simp only [named, if_pos e]
  | cons q rest =>
    have : ¬ q = [34] := by simpa using e2
    simp only [named, if_pos e, if_neg this]
theorem named_keep {rows : List (List Int)} {i : Nat} (h : i < rows.length) (e : rows[i].getLast? ≠ some 34) :
    named (rows.drop i) = (rows[i] :: (named (rows.drop (i + 1))).1, (named (rows.drop (i + 1))).2) := by
  rw [List.drop_eq_getElem_cons h, named_cons e]
theorem named_two {rows : List (List Int)} {i : Nat} (h : i < rows.length) (e : rows[i].getLast? = some 34) (e2 : (rows.drop (i + 1)).take 1 = [[34]]) :
    i + 1 < rows.length ∧ named (rows.drop i) = (rows[i] :: (named (rows.drop (i + 2))).1, (named (rows.drop (i + 2))).2) := by
  have h1 : i + 1 < rows.length := by
    rcases Nat.lt_or_ge (i + 1) rows.length with h1 | h1
    · exact h1
    · rw [List.drop_of_length_le h1] at e2; cases e2
  rw [List.drop_eq_getElem_cons h1, List.take_succ_cons, List.take_zero] at e2
  have e3 : rows[i + 1] = [34] := (List.cons.inj e2).1
  refine ⟨h1, ?_⟩
  rw [List.drop_eq_getElem_cons h, List.drop_eq_getElem_cons h1, e3, named_34 e]
theorem named_end {rows : List (List Int)} {i : Nat} (h : i < rows.length) (e : rows[i].getLast? = some 34) (e2 : ¬ (rows.drop (i + 1)).take 1 = [[34]]) :
    named (rows.drop i) = ([], rows[i].dropLast) := by
  rw [List.drop_eq_getElem_cons h, named_cut e e2]
inductive NamedJ (R : Value → List Int → Prop) (a : Addr) (rows : List (List Int)) (c : Nat) (m : Str → Option Value) (nx : List (Addr × Obj)) : Prop
  | mk (i : Nat) (t1 : Tok) (d : Addr) (tvs : List Value) (told : List (List Int)) (c1 : Nat) (y1 : m (Str.ofString "rows") = some (.ref a)) (y2 : m (Str.ofString "place") = some (.int (i : Nat) t1)) (y3 : m (Str.ofString "told") = some (.ref d)) (y4 : nx = [(d, listOf tvs.toArray c1)]) (y5 : All2 R tvs told) (y6 : i ≤ rows.length) (y7 : c = rows.length - i) (y8 : told.length ≤ i) (y9 : named rows = (told ++ (named (rows.drop i)).1, (named (rows.drop i)).2)) : NamedJ R a rows c m nx
theorem named_spec {w : World} {A : Around} {s : Shared} {p : Program} {loose : List Str} {mean : ExcName → Option Value} {mg mb : Str → Option Value} {Q E : Value → Shared → Prop}
    (X : (hd.heap_39 w.params).In s.heap) (T : Top p loose mean mg mb s.heap) (hA : A.depth < 900) (hu : A.units < 1000) (hh : A.handled = none)
    {a : Addr} {vs : List Value} {rows : List (List Int)} {R : Value → List Int → Prop} (hl : s.heap.IsList a vs.toArray) (hi : All2 R vs rows) (hR : ∀ v r, R v r → RowAt s.heap v r) (hn : rows.length ≤ 1000) (hb9 : ∀ r ∈ rows, RowOk r)
    (k : ∀ h' tk t o d od tvs c oc cvs, s.heap.StaysIn h' → NewIn s.heap h' [(t, o), (d, od), (c, oc)] → TupObj [.ref d, .ref c] o → ListObj tvs od → All2 R tvs (named rows).1 → ListObj cvs oc → IntsAre cvs (named rows).2 → Q (.ref t) { s with heap := h', toks := tk }) :
    wpAny (model pr w) A (call (.ref 140) [.ref a]) Q E s := by
  refine wpAny_call ?_
  with_unfolding_all refine' enter [(Str.ofString "rows", .ref a)] X T ?k6 ?k7 ?k8 ?k9 ?kB ?_ ?c2 ?c3 ?c4 ?c5
  walk_at "my enter"
  intro L h₁ F N
  dsimp only
  repeat' walk1
  rename Fr _ _ _ _ => F1
  rename News _ _ _ _ => N1
  have hvl := hi.length
  have hvb : vs.length ≤ 1000000 := by omega
  refine While_inv2 (NamedJ R a rows) F1 N1
    ⟨0, _, _, [], [], 0, rfl, rfl, rfl, rfl, .nil, Nat.zero_le _, rfl, Nat.zero_le _, rfl⟩ ?_
  rintro c m nx h tk F N ⟨i, t1, d, tvs, told, c1, hrow, hpl, hto, rfl, hw, hile, rfl, hkl, hb⟩
  have hwl := hw.length
  repeat' walk1
  · rename (i : Int) < vs.length => hlt
    have hlt' : i < rows.length := lt_of_int hlt hvl
    obtain ⟨v, hv, hRv⟩ := hi.get i rows[i] (List.getElem?_eq_getElem hlt')
    obtain ⟨ra, rvs, rfl, hra, hri⟩ := hR _ _ hRv
    have hok := hb9 _ (List.getElem_mem hlt')
    obtain ⟨ld, hld⟩ : ∃ d, rows[i].getLast? = some d := by
      cases hr9 : rows[i].getLast? with
      | some d => exact ⟨d, rfl⟩
      | none => exact absurd (List.getLast?_eq_none_iff.mp hr9) hok.1
    obtain ⟨td, htd⟩ := IntsAre.last hri hld
    refine litem (hl.at (F.keep _)) (by omega) (by omega) (by rw [Int.toNat_natCast]; exact hv) ?_
    repeat' walk1
    refine litem_last (hra.at (F.keep _)) htd ?_
    repeat' walk1
    · refine litem (hl.at (F.keep _)) (by omega) (by omega) (by rw [Int.toNat_natCast]; exact hv) ?_
      repeat' walk1
      rename Fr _ _ _ _ => F2
      rename News _ _ _ _ => N2
      rename ¬ ld = 34 => h34
      refine ⟨_, _, _, _, rows.length - (i + 1), rfl, F2, N2, Nat.sub_succ_lt_self _ _ hlt', i + 1, _, d, _, told ++ [rows[i]], c1 + 1, hrow, int_some rfl, hto, rfl, hw.append (.cons hRv .nil), hlt', rfl, by rw [List.length_append]; exact Nat.succ_le_succ hkl, ?_⟩
      rw [hb, named_keep hlt' (by rw [hld]; simpa using h34)]; simp
    · rename Fr _ _ _ _ => F2
      rename News _ _ _ _ => N2
      rename ld = 34 => h34
      subst h34
      have z3 := (N2 _ (.tail _ (.tail _ (.head _)))).1
      have hl3 : Heap.IsList _ (h.objs.size + 1) (List.toArray ((vs.drop (i + 1)).take 1)) := ⟨_, z3, rfl, 0, by
        have e := pick_run2 vs (x := (i : Int) + 1) (y := (i : Int) + 2) (by omega) (by omega)
        have e1 : ((i : Int) + 1).toNat = i + 1 := by omega
        have e2 : ((i : Int) + 2).toNat - ((i : Int) + 1).toNat = 1 := by omega
        rw [e2, e1] at e
        exact congrArg (fun x => Data.seq x 0) e⟩
      refine eq_one_row hl3 (((hi.drop (i + 1)).take 1).mono fun v r hr => (hR v r hr).keeps F2.keep) (by rw [List.length_take]; omega) (isl N2 (.head _)) (isl N2 (.tail _ (.head _))) ?_ ?_ ?_
      · intro v hv e
        subst e
        obtain ⟨j, hj⟩ := List.getElem?_of_mem (List.mem_of_mem_drop (List.mem_of_mem_take hv))
        obtain ⟨q, _, hq⟩ := hi.get' j _ hj
        obtain ⟨qa, _, e, hqa, _⟩ := hR _ _ hq
        cases e
        obtain ⟨oq, hoq, _⟩ := hqa
        have := (N2 _ (.tail _ (.head _))).2.2
        rw [hoq] at this; cases this
      · simp; have := cLine_is; omega
      have N3 : News _ _ _ [(d, listOf tvs.toArray c1)] := fun p hp => N2 p (.tail _ (.tail _ (.tail _ hp)))
      clear N2 z3
      repeat' walk1
      · refine litem (hl.at (F2.keep _)) (by omega) (by omega) (by rw [Int.toNat_natCast]; exact hv) ?_
        rename _ = [[34]] => h34
        obtain ⟨hlt2, hnm⟩ := named_two hlt' hld h34
        repeat' walk1
        rename Fr _ _ _ _ => F4
        rename News _ _ _ _ => N4
        refine ⟨_, _, _, _, rows.length - (i + 2), rfl, F4, N4, step_lt (Nat.lt_add_of_pos_right Nat.zero_lt_two) hlt2, i + 2, _, d, _, told ++ [rows[i]], c1 + 1, hrow, int_some rfl, hto, rfl, hw.append (.cons hRv .nil), hlt2, rfl, by rw [List.length_append]; exact Nat.le_succ_of_le (Nat.succ_le_succ hkl), ?_⟩
        rw [hb, hnm]; simp
      · refine litem (hl.at (F2.keep _)) (by omega) (by omega) (by rw [Int.toNat_natCast]; exact hv) ?_
        rename ¬ _ = [[34]] => h34
        have hnm := named_end hlt' hld h34
        repeat' walk1
        refine lslice F2 N3 (hra.at (F2.keep _)) .none (.int _ _) (pick_butlast _) (fun D1 h1 F4 N4 l1 => ?_) (by have := hri.length; have := hok.2.1; rw [sizeLine_eq]; omega)
        repeat' walk1
        rename Fr _ _ _ _ => F5
        rename News _ _ _ _ => N5
        rw [hnm] at hb
        refine k _ _ _ (tupOf [.ref d, .ref D1]) d (listOf tvs.toArray c1) tvs D1 (listOf rvs.dropLast.toArray 0) rvs.dropLast F5.keep (fun p hp => NewIn.of N5 p ?_) tobj lobj (by rw [hb]; simpa using hw) lobj (by rw [hb]; exact IntsAre.dropLast hri)
        simp only [List.mem_cons, List.not_mem_nil, or_false] at hp ⊢
        rcases hp with rfl | rfl | rfl
        · exact .inl rfl
        · exact .inr (.inr rfl)
        · exact .inr (.inl rfl)
  · rename News _ _ _ _ => N2
    rename Fr _ _ _ _ => F2
    rename ¬ (i : Int) < vs.length => hge
    rw [List.drop_of_length_le (le_of_int hge hvl)] at hb
    rename_i lD _ _ _ _ _
    refine k _ _ _ (tupOf [.ref d, .ref lD]) d (listOf tvs.toArray c1) tvs lD (listOf (List.toArray []) 0) [] F2.keep (fun p hp => NewIn.of N2 p ?_) tobj lobj (by rw [hb]; simpa [named] using hw) lobj (by rw [hb]; exact .nil)
    simp only [List.mem_cons, List.not_mem_nil, or_false] at hp ⊢
    rcases hp with rfl | rfl | rfl
    · exact .inl rfl
    · exact .inr (.inr rfl)
    · exact .inr (.inl rfl)
end PartNamed
section PartEnter2
set_option maxHeartbeats 8000000
theorem off_enter2 : True := by (w_top off); trivial

theorem hide_stays {h₀ h : Heap} {led : List (Addr × Obj)} (st : h₀.StaysIn h) (hf : ∀ p ∈ led, h₀.get? p.1 = none) : h₀.StaysIn (hideAll h (led.map (·.1))) := fun b o e =>
  hideAll_get _ (st b o e) fun q => by
    obtain ⟨p, hp, rfl⟩ := List.mem_map.mp q
    rw [hf p hp] at e; cases e
/-- all but these addresses stand -/
noncomputable def ButLed (led : List (Addr × Obj)) (h h' : Heap) : Prop := ∀ b o, b ∉ led.map (·.1) → h.get? b = some o → h'.get? b = some o
theorem ButLed.of {h h' : Heap} {led : List (Addr × Obj)} (k : (hideAll h (led.map (·.1))).StaysIn h') : ButLed led h h' := fun b o hb e => k b o (hideAll_get _ e hb)

section
variable {prog : Program} {w : World} {A : Around} {s : Shared} {K : Frag} {p : Program} {loose : List Str} {mean : ExcName → Option Value} {mg mb : Str → Option Value} {h₀ : Heap}
    {R : Result → Shared → Prop} {name qual : Str} {params : Arguments} {body : List Stmt} {scope : Scope} {dV kV doc pm cdv ct oc : Value} {an od : Option Addr} {osl : Array (Option Value)} {f : Addr} {args : Args}
theorem enterH (led : List (Addr × Obj)) (binds : List (Str × Value))
    (X : K.In h₀) (T : Top p loose mean mg mb h₀) (st : h₀.StaysIn s.heap) (hled : ∀ p ∈ led, s.heap.get? p.1 = some p.2 ∧ h₀.get? p.1 = none)
    (ho : K.lookup f = some ⟨oc, od, .func (fnOf name qual params body scope dV kV doc pm an cdv ct), osl⟩) (hcd : codeIn K cdv qual = true) (hroom : A.depth < recursionLimit)
    (hbind : BindsTo s (fnOf name qual params body scope dV kV doc pm an cdv ct) args binds) (hloc : ∀ y ∈ binds, scope.names.lookup y.1 = some .local)
    (h : ∀ L h₁, Fr (hideAll s.heap (led.map (·.1))) L h₁ (fun y => binds.reverse.lookup y) → News (hideAll s.heap (led.map (·.1))) L h₁ led → K.In (hideAll s.heap (led.map (·.1))) → Top p loose mean mg mb (hideAll s.heap (led.map (·.1))) →
      wpAny (model prog w) (A.deeper (envOf qual scope L f cdv)) (execs body (envOf qual scope L f cdv))
        (fun fl s' => R (.ok (.ret (match fl with | .ret v => v | _ => .none))) s') (fun _ _ => False)
        { s with heap := h₁, toks := s.toks + binds.length })
    (hco : scope.isCoroutine = false) (hgen : scope.isGenerator = false) (hk : scope.kind = .function)
    (hcell : ∀ x ∈ scope.names, x.2 ≠ .cell) : codeAny (model prog w) A (.call (.ref f) args) R s := by
  have st' := hide_stays st fun p hp => (hled p hp).2
  refine codeAny_call_def (fd := fnOf name qual params body scope dV kV doc pm an cdv ct) (body := body) (binds := binds) hroom ((X.keeps st) _ _ ho) rfl (T.nolimit.keeps st) (codeRec_of (X.keeps st) hcd) rfl hbind hcell hloc (fun h₁ hns hk₁ => ?_) hco hgen hk
  exact wpAny_mono (h s.heap.objs.size h₁ ⟨hns, fun b o e => hk₁ b o (of_hideAll _ e), Nat.le_of_eq (hideAll_size _ _)⟩
    (fun p hp => ⟨hk₁ _ _ (hled p hp).1, Nat.ne_of_lt (Heap.lt_size (hled p hp).1), hideAll_none _ (List.mem_map_of_mem hp)⟩) (X.keeps st') (T.keeps st')) (fun _ _ q => q) fun _ _ x => x.elim

theorem enterC (led : List (Addr × Obj)) (binds : List (Str × Value))
    (X : K.In h₀) (T : Top p loose mean mg mb h₀) (st : h₀.StaysIn s.heap) (hled : ∀ p ∈ led, s.heap.get? p.1 = some p.2 ∧ h₀.get? p.1 = none)
    (ho : K.lookup f = some ⟨oc, od, .func (fnOf name qual params body scope dV kV doc pm an cdv ct), osl⟩) (hcd : codeIn K cdv qual = true) (hroom : A.depth < recursionLimit)
    (hbind : BindsTo s (fnOf name qual params body scope dV kV doc pm an cdv ct) args binds) (hkind : (binds.all fun y => scope.names.lookup y.1 == some .local || scope.names.lookup y.1 == some .cell) = true)
    (hnd : ((cellsFrom 0 scope.names []).map (·.1)).Nodup)
    (h : ∀ L h₁ tk cells, Fr (hideAll s.heap (led.map (·.1))) L h₁ (bindL (envOfC qual scope L f cdv).kindOf binds fun _ => none) → News (hideAll s.heap (led.map (·.1))) L h₁ (cells ++ led) →
      CellsAre (bindC (envOfC qual scope L f cdv).kindOf binds fun _ => none) (cellsFrom (L + 1) scope.names []) cells → K.In (hideAll s.heap (led.map (·.1))) → Top p loose mean mg mb (hideAll s.heap (led.map (·.1))) → (∀ p ∈ led, p.1 < L) →
      wpAny (model prog w) (A.deeper (envOfC qual scope L f cdv)) (execs body (envOfC qual scope L f cdv))
        (fun fl s' => R (.ok (.ret (match fl with | .ret v => v | _ => .none))) s') (fun _ _ => False)
        { s with heap := h₁, toks := tk })
    (hco : scope.isCoroutine = false) (hgen : scope.isGenerator = false) (hk : scope.kind = .function) : codeAny (model prog w) A (.call (.ref f) args) R s := by
  have st' := hide_stays st fun p hp => (hled p hp).2
  refine codeAny_call_function hroom ((X.keeps st) _ _ ho) rfl hco hgen rfl (codeRec_of (X.keeps st) hcd) (hbind _ _ _ _ ?_)
  refine wpAny_newFunctionEnv_cells hk (kindsX hkind _) fun env' he s' x => ?_
  subst he
  refine ⟨(T.nolimit.keeps st).keeps x.toInCall.keep, codeAny_func ?_⟩
  obtain ⟨h₁, tk, rfl, _⟩ := x.done
  have hk₁ := x.toInCall.keep
  obtain ⟨cells, NC, Y⟩ := Cl.news (h₀ := s.heap) (Nat.le_refl _) fun n c hm => ⟨x.cell n c (lookup_of_mem_nodup (cellsFrom_names scope.names 0 (s.heap.objs.size + 1) [] [] rfl ▸ hnd) hm), x.above n c hm⟩
  refine wpAny_mono (h s.heap.objs.size h₁ tk cells ⟨x.toInCall.ns, fun b o e => hk₁ b o (of_hideAll _ e), Nat.le_of_eq (hideAll_size _ _)⟩ (fun p hp => ?_) Y (X.keeps st') (T.keeps st') (fun p hp => Heap.lt_size (hled p hp).1)) (fun _ _ q => q) fun _ _ y => y.elim
  rcases List.mem_append.mp hp with hp | hp
  · refine ⟨(NC p hp).1, (NC p hp).2.1, ?_⟩
    cases q : (hideAll s.heap (led.map (·.1))).get? p.1 with
    | none => rfl
    | some o => have := of_hideAll _ q; rw [(NC p hp).2.2] at this; cases this
  · exact ⟨hk₁ _ _ (hled p hp).1, Nat.ne_of_lt (Heap.lt_size (hled p hp).1), hideAll_none _ (List.mem_map_of_mem hp)⟩
end

theorem but_fr {g h h' : Heap} {L : Addr} {m : Str → Option Value} {led : List (Addr × Obj)} (F : Fr g L h m) (N : News g L h led) (bl : ButLed led h h') : Fr g L h' m := by
  obtain ⟨o, es, ep, ho, r⟩ := F.ns
  refine ⟨⟨o, es, ep, bl _ _ (fun q => ?_) ho, r⟩, fun b o e => bl b o (fun q => ?_) (F.keep b o e), F.above⟩
  · obtain ⟨p, hp, e⟩ := List.mem_map.mp q
    exact (N p hp).2.1 e
  · obtain ⟨p, hp, rfl⟩ := List.mem_map.mp q
    rw [(N p hp).2.2] at e; cases e
theorem but_news {g h h' : Heap} {L : Addr} {m : Str → Option Value} {led led' rest nw : List (Addr × Obj)} (F : Fr g L h m) (N : News g L h led) (N2 : News g L h rest) (bl : ButLed led h h') (hne : ∀ p ∈ rest, p.1 ∉ led.map (·.1))
    (hl : ∀ p ∈ led', p.1 ∈ led.map (·.1) ∧ h'.get? p.1 = some p.2) (W : NewIn h h' nw) : News g L h' (nw ++ (led' ++ rest)) := fun p hp => by
  rcases List.mem_append.mp hp with hp | hp
  · refine ⟨(W p hp).1, fun e => ?_, ?_⟩
    · obtain ⟨o, _, _, ho, _⟩ := F.ns
      have := (W p hp).2
      rw [e, ho] at this; cases this
    · cases q : g.get? p.1 with
      | none => rfl
      | some o => have := (W p hp).2; rw [F.keep _ _ q] at this; cases this
  · rcases List.mem_append.mp hp with hp | hp
    · obtain ⟨p', hp', e⟩ := List.mem_map.mp (hl p hp).1
      have := N p' hp'
      rw [e] at this
      exact ⟨(hl p hp).2, this.2⟩
    · exact ⟨bl _ _ (hne p hp) (N2 p hp).1, (N2 p hp).2⟩
/-- the dict of a lexer -/
noncomputable abbrev lexEs (P : Params) (k1 k2 k3 k4 t1 t3 : Tok) (n : Int) (v : Value) (pb : Addr) : List DictEntry :=
  [⟨PyData.keyHash P (Str.ofString "lineno"), .str (Str.ofString "lineno") k1, .int n t1⟩, ⟨PyData.keyHash P (Str.ofString "instream"), .str (Str.ofString "instream") k2, v⟩,
    ⟨PyData.keyHash P (Str.ofString "whitespace"), .str (Str.ofString "whitespace") k3, .str (Str.ofString "\n\t\x0d ") t3⟩, ⟨PyData.keyHash P (Str.ofString "pushback"), .str (Str.ofString "pushback") k4, .ref pb⟩]

theorem init_spec {w : World} {A : Around} {s : Shared} {p : Program} {loose : List Str} {mean : ExcName → Option Value} {mg mb : Str → Option Value} {R : Result → Shared → Prop} {h₀ : Heap}
    (X : (hd.heap_39 w.params).In h₀) (T : Top p loose mean mg mb h₀) (st : h₀.StaysIn s.heap) (hA : A.depth < 900) {x dx : Addr} {v : Value}
    (hx : s.heap.get? x = some (instObj 59 dx)) (hdx : s.heap.get? dx = some (dictOf [] 0)) (hx0 : h₀.get? x = none) (hdx0 : h₀.get? dx = none) (hne : @LT.lt Nat _ dx x)
    (k : ∀ h' tk pb k1 k2 k3 k4 t1 t3, ButLed [(x, instObj 59 dx), (dx, dictOf [] 0)] s.heap h' → NewIn s.heap h' [(pb, listOf (List.toArray []) 0)] → h'.get? x = some (instObj 59 dx) →
      h'.get? dx = some (dictOf (lexEs w.params k1 k2 k3 k4 t1 t3 1 v pb) 4) → @LT.lt Nat _ x pb → R (.ok (.ret .none)) { s with heap := h', toks := tk }) :
    codeAny (model pr w) A (.call (.ref 35) ⟨[.ref x, v], []⟩) R s := by
  with_unfolding_all refine' enterH [(x, instObj 59 dx), (dx, dictOf [] 0)] [(Str.ofString "self", .ref x), (Str.ofString "fp", v)] X T st ?k0 ?k6 ?k7 ?k8 ?k9 ?kB ?_ ?c2 ?c3 ?c4 ?c5
  case k0 =>
    intro p hp
    simp only [List.mem_cons, List.not_mem_nil, or_false] at hp
    rcases hp with rfl | rfl
    · exact ⟨hx, hx0⟩
    · exact ⟨hdx, hdx0⟩
  walk_at "my enter"
  intro L h₁ F N X1 T1
  clear X T
  repeat' walk1
  rename Fr _ _ _ _ => F2
  rename News _ _ _ _ => N2
  refine k _ _ _ _ _ _ _ _ _ (ButLed.of F2.keep) (fun p hp => ?_) (N2 _ (.tail _ (.head _))).1 (N2 _ (.tail _ (.tail _ (.head _)))).1 (And.left (by assumption))
  have hz := N2 p (by rw [List.mem_singleton.mp hp]; exact .head _)
  refine ⟨hz.1, ?_⟩
  cases hq : s.heap.get? p.1 with
  | none => rfl
  | some o =>
    by_cases hb : p.1 ∈ ([(x, instObj 59 dx), (dx, dictOf [] 0)] : List (Addr × Obj)).map (·.1)
    · exfalso
      rw [List.mem_singleton.mp hp] at hz hb
      have hz1 := hz.1
      simp only [List.map_cons, List.map_nil, List.mem_cons, List.not_mem_nil, or_false] at hb
      rcases hb with e | e
      · rw [e, (N2 _ (.tail _ (.head _))).1] at hz1; cases hz1
      · rw [e, (N2 _ (.tail _ (.tail _ (.head _)))).1] at hz1; simp at hz1
    · have := hz.2.2
      rw [hideAll_get _ hq hb] at this; cases this
end PartEnter2
section PartLam
set_option maxHeartbeats 8000000
theorem off_lam : True := by (w_top off); trivial

noncomputable abbrev sIter (x : Str) (t : Tok) (i : Nat) : Obj := { cls := .type "str_ascii_iterator", data := .fields #[.str x t, .int (i : Nat) 0] }
noncomputable abbrev lIter (l : Addr) (i : Nat) : Obj := { cls := .type "list_iterator", data := .fields #[.ref l, .int (i : Nat) 0] }
/-- an iterator over signs, what is left -/
noncomputable def IterSt (o : Obj) (rest : List Nat) : Prop :=
  (∃ cs t i, (∀ c ∈ cs, c < 128) ∧ o = sIter (St cs) t i ∧ rest = cs.drop i) ∨ (rest = [] ∧ o.cls = .type "str_ascii_iterator" ∧ ∃ v, o.data = .fields #[.none, v])
theorem St_ascii {cs : List Nat} (h : ∀ c ∈ cs, c < 128) : (St cs).cps.all (· < 128) = true := by
  have e : (St cs).cps.all (· < 128) = cs.all (· < 128) := by simp [St]
  rw [e, List.all_eq_true]
  exact fun c hc => decide_eq_true (h c hc)

section
variable {prog : Program} {w : World} {A : Around} {E : Value → Shared → Prop} {s : Shared} {h₀ : Heap} {L : Addr} {m : Str → Option Value} {news : List (Addr × Obj)} {Q : Value → Shared → Prop}
theorem iter_str {x : Str} {t : Tok} (ha : x.cps.all (· < 128) = true) (F : Fr h₀ L s.heap m) (N : News h₀ L s.heap news)
    (h : ∀ I h', Fr h₀ L h' m → News h₀ L h' ((I, sIter x t 0) :: news) → (∀ p ∈ news, p.1 < I) → Q (.ref I) { s with heap := h' }) :
    wpAny (model prog w) A (call (.builtin "iter") [.str x t]) Q E s := by
  refine call_function_entry (by decide +kernel) (by decide +kernel) kdk_entry_iter (kdk_args_iter _) ?_
  unfold Builtin.«iter»
  refine wpAny_bind (m := someArgs "iter" 1 2 _) (wpAny_of_eq (a := [Value.str x t]) (by first | rfl | kernel_rfl!) ?_)
  show wpAny _ _ (pyIter (.str x t) >>= _) _ _ _
  refine wpAny_bind (wpAny_pyIter_ascii ha ?_)
  exact wpAny_pure ⟨_, rfl, h _ _ (F.push _) (News.push F N _ rfl) fun p hp => Heap.lt_size (N p hp).1⟩
theorem iter_lst {l : Addr} {items : Array Value} (hl : s.heap.IsList l items) (F : Fr h₀ L s.heap m) (N : News h₀ L s.heap news)
    (h : ∀ I h', Fr h₀ L h' m → News h₀ L h' ((I, lIter l 0) :: news) → (∀ p ∈ news, p.1 < I) → Q (.ref I) { s with heap := h' }) :
    wpAny (model prog w) A (call (.builtin "iter") [.ref l]) Q E s := by
  refine call_function_entry (by decide +kernel) (by decide +kernel) kdk_entry_iter (kdk_args_iter _) ?_
  unfold Builtin.«iter»
  refine wpAny_bind (m := someArgs "iter" 1 2 _) (wpAny_of_eq (a := [Value.ref l]) (by first | rfl | kernel_rfl!) ?_)
  show wpAny _ _ (pyIter (.ref l) >>= _) _ _ _
  refine wpAny_bind (wpAny_pyIter_list hl ?_)
  exact wpAny_pure ⟨_, rfl, h _ _ (F.push _) (News.push F N _ rfl) fun p hp => Heap.lt_size (N p hp).1⟩

/-- next of an iterator over signs -/
theorem pyNext_sign {I : Addr} {oI : Obj} {rest : List Nat} {Q : Option Value → Shared → Prop} (hh : A.handled = none) (ho : s.heap.get? I = some oI) (hi : IterSt oI rest)
    (h : ∀ h' tk oI', (∀ b o, b ≠ I → s.heap.get? b = some o → h'.get? b = some o) → h'.get? I = some oI' → IterSt oI' rest.tail →
      Q (match rest with | [] => none | c :: _ => some (.str ⟨#[c]⟩ s.toks)) { s with heap := h', toks := tk }) :
    wpAny (model prog w) A (pyNext (.ref I)) Q E s := by
  rcases hi with ⟨cs, t, i, ha, rfl, rfl⟩ | ⟨rfl, hc, v, hd⟩
  · have hit : s.heap.IsStrIter I "str_ascii_iterator" (St cs) t i := ⟨_, ho, rfl, rfl⟩
    cases hx : cs[i]? with
    | some c =>
      have hlt : i < cs.length := (List.getElem?_eq_some_iff.mp hx).1
      have e1 : cs.drop i = c :: cs.drop (i + 1) := by
        rw [List.drop_eq_getElem_cons hlt]
        rw [List.getElem?_eq_getElem hlt] at hx
        rw [Option.some.inj hx]
      unfold pyNext
      refine wpAny_bind (wpAny_attempt (wpAny_callSpecial?_slot (name := Str.ofString "__next__") hit.typeIs F.slot_str_ascii_iterator_next
        (wpAny_call_entry F.slot_str_ascii_iterator_next hit.typeIs F.entry_str_ascii_iterator_next ?_ (F.args_str_ascii_iterator_next_1 _))))
      show wpAny _ _ (field (.ref I) 0 >>= _) _ _ s
      refine wpAny_bind (wpAny_field ho rfl (x := .str (St cs) t) rfl ?_)
      show wpAny _ _ (field (.ref I) 1 >>= _) _ _ s
      refine wpAny_bind (wpAny_field ho rfl (x := .int (i : Nat) 0) rfl ?_)
      have hx' : (St cs).cps[i]? = some c := by simpa [St] using hx
      simp only [Int.toNat_natCast, hx']
      rw [e1] at h
      refine wpAny_bind (wpAny_setField ho rfl (by simp) (wpAny_bind (wpAny_mkStr (wpAny_pure ⟨_, rfl, wpAny_pure (h _ _ (sIter (St cs) t (i + 1)) ?_ ?_ ?_)⟩) (by show 1 ≤ sizeLine; decide))))
      · exact (Heap.SameBut.update ..).extBut
      · rw [Heap.get?_update_self _ ho rfl]; simp [Obj.mapFields, rawInt]
      · exact .inl ⟨cs, t, i + 1, ha, rfl, rfl⟩
    | none =>
      have e1 : cs.drop i = [] := by simpa using hx
      unfold pyNext
      refine wpAny_bind (wpAny_attempt (wpAny_callSpecial?_slot (name := Str.ofString "__next__") hit.typeIs F.slot_str_ascii_iterator_next
        (wpAny_call_entry F.slot_str_ascii_iterator_next hit.typeIs F.entry_str_ascii_iterator_next ?_ (F.args_str_ascii_iterator_next_1 _))))
      show wpAny _ _ (field (.ref I) 0 >>= _) _ _ s
      refine wpAny_bind (wpAny_field ho rfl (x := .str (St cs) t) rfl ?_)
      show wpAny _ _ (field (.ref I) 1 >>= _) _ _ s
      refine wpAny_bind (wpAny_field ho rfl (x := .int (i : Nat) 0) rfl ?_)
      have hx' : (St cs).cps[i]? = none := by simpa [St] using hx
      simp only [Int.toNat_natCast, hx']
      refine wpAny_bind (wpAny_rule (wpAny_bind (wpAny_setField ho rfl (by simp) (wpAny_bind (wpAny_letGo ?_)))))
      show wpAny _ _ (newExc (.type "StopIteration") [] >>= _) _ _ _
      refine wpAny_bind ?_
      simp only [newExc, newTuple]
      refine wpAny_bind (wpAny_newObj_type ?_ (by size_fits))
      refine wpAny_bind (m := firstArgMember _ _) (wpAny_of_eq (a := Value.none) (by first | rfl | (simp only [firstArgMember]; rfl)) ?_)
      refine wpAny_newObj_type ?_ (by size_fits)
      simp only [raiseNew]
      refine wpAny_bind (wpAny_handled ?_)
      rw [show A.in1.handled = none from hh]
      refine wpAny_bind (wpAny_pure (wpAny_throw ?_))
      refine wpAny_bind (wpAny_isInstance (T := "StopIteration") (b := true) ⟨_, Heap.get?_push_size _ rfl, rfl⟩ isSubtype_stop ?_)
      rw [e1] at h
      refine wpAny_pure (h _ _ { cls := .type "str_ascii_iterator", data := .fields #[.none, .int (i : Nat) 0] } (((Heap.SameBut.update ..).extBut.push _).push _) ?_ (.inr ⟨rfl, rfl, _, rfl⟩))
      exact Heap.get?_push_of_some _ (Heap.get?_push_of_some _ (by rw [Heap.get?_update_self _ ho rfl]; simp [Obj.mapFields]))
  · have hT : s.TypeIs (.ref I) "str_ascii_iterator" := ⟨oI, ho, hc⟩
    unfold pyNext
    refine wpAny_bind (wpAny_attempt (wpAny_callSpecial?_slot (name := Str.ofString "__next__") hT F.slot_str_ascii_iterator_next
      (wpAny_call_entry F.slot_str_ascii_iterator_next hT F.entry_str_ascii_iterator_next ?_ (F.args_str_ascii_iterator_next_1 _))))
    show wpAny _ _ (field (.ref I) 0 >>= _) _ _ s
    refine wpAny_bind (wpAny_field ho hd (x := .none) rfl ?_)
    refine wpAny_ite_split (fun _ => ?_) (fun hab => absurd (show ((Value.none == Value.none) = true) by decide) hab)
    refine wpAny_bind (wpAny_rule ?_)
    show wpAny _ _ ((newExc (.type "StopIteration") [] >>= _) >>= _) _ _ _
    refine wpAny_bind (wpAny_bind ?_)
    simp only [newExc, newTuple]
    refine wpAny_bind (wpAny_newObj_type ?_ (by size_fits))
    refine wpAny_bind (m := firstArgMember _ _) (wpAny_of_eq (a := Value.none) (by first | rfl | (simp only [firstArgMember]; rfl)) ?_)
    refine wpAny_newObj_type ?_ (by size_fits)
    simp only [raiseNew]
    refine wpAny_pure ?_
    refine wpAny_bind (wpAny_handled ?_)
    rw [show A.in1.handled = none from hh]
    refine wpAny_bind (wpAny_pure (wpAny_throw ?_))
    refine wpAny_bind (wpAny_isInstance (T := "StopIteration") (b := true) ⟨_, Heap.get?_push_size _ rfl, rfl⟩ isSubtype_stop ?_)
    refine wpAny_pure (h _ _ oI (fun b o _ e => Heap.get?_push_of_some _ (Heap.get?_push_of_some _ e)) (Heap.get?_push_of_some _ (Heap.get?_push_of_some _ ho)) (.inr ⟨rfl, hc, v, hd⟩))

/-- next with a default, of an iterator over signs -/
theorem next_sign {I : Addr} {oI : Obj} {rest : List Nat} {x0 : Str} {t0 : Tok} {g : Obj → List (Addr × Obj)} (hh : A.handled = none) (e0 : x0 = St []) (F : Fr h₀ L s.heap m) (N : News h₀ L s.heap news) (U : UpdF I oI news g) (hi : IterSt oI rest)
    (h : ∀ h' tk oI' v, IterSt oI' rest.tail → Fr h₀ L h' m → News h₀ L h' (g oI') → Q (.str (St (rest.take 1)) v) { s with heap := h', toks := tk }) :
    wpAny (model prog w) A (call (.builtin "next") [.ref I, .str x0 t0]) Q E s := by
  obtain ⟨pre, post, hl, hg, a, b⟩ := U.split
  have hmem : (I, oI) ∈ news := by rw [hl]; exact List.mem_append_right _ (.head _)
  have hm := N (I, oI) hmem
  have hT : s.TypeIs (.ref I) "str_ascii_iterator" := by
    rcases hi with ⟨cs, t, i, ha, rfl, rfl⟩ | ⟨rfl, hc, v, hd⟩
    · exact ⟨_, hm.1, rfl⟩
    · exact ⟨_, hm.1, hc⟩
  refine call_function_entry (by decide +kernel) (by decide +kernel) kdk_entry_next (kdk_args_next2 _ _) ?_
  unfold Builtin.«next»
  refine wpAny_bind (m := someArgs "next" 1 2 _) (wpAny_of_eq (a := [Value.ref I, .str x0 t0]) (by first | rfl | kernel_rfl!) ?_)
  dsimp only
  refine wpAny_bind (wpAny_specialOf (name := Str.ofString "__next__") hT PySem.F.slot_str_ascii_iterator_next.lookup ?_)
  refine wpAny_ite_split (fun hab => absurd hab (by decide)) (fun _ => ?_)
  refine wpAny_bind (pyNext_sign (by exact hh) hm.1 hi fun h' tk oI' hk ho' hi' => ?_)
  have F' : Fr h₀ L h' m := ⟨F.ns.at' fun o e => hk _ o (fun q => hm.2.1 q.symm) e, fun b o e => hk b o (fun q => by subst q; rw [hm.2.2] at e; cases e) (F.keep b o e), F.above⟩
  have N' : News h₀ L h' (g oI') := by
    rw [hg]
    intro p hp
    rcases List.mem_append.mp hp with hp | hp
    · have hp2 := N p (by rw [hl]; exact List.mem_append_left _ hp)
      exact ⟨hk _ _ (a p hp) hp2.1, hp2.2⟩
    · rcases List.mem_cons.mp hp with rfl | hp
      · exact ⟨ho', hm.2⟩
      · have hp2 := N p (by rw [hl]; exact List.mem_append_right _ (.tail _ hp))
        exact ⟨hk _ _ (b p hp) hp2.1, hp2.2⟩
  cases rest with
  | nil => exact wpAny_pure ⟨_, rfl, by rw [e0]; exact h h' tk oI' t0 hi' F' N'⟩
  | cons c r => exact wpAny_pure ⟨_, rfl, h h' tk oI' _ hi' F' N'⟩
end

section
variable {prog : Program} {w : World} {A : Around} {s : Shared} {K : Frag} {p : Program} {loose : List Str} {mean : ExcName → Option Value} {mg mb : Str → Option Value} {h₀ : Heap}
    {R : Result → Shared → Prop} {name qual : Str} {params : Arguments} {body : Expr} {scope : Scope} {pm ctv : Value} {clos : List (Str × Addr)} {f c' : Addr} {args : Args}
/-- entry of a function that is an expression -/
theorem enterE (led : List (Addr × Obj)) (binds : List (Str × Value))
    (X : K.In h₀) (T : Top p loose mean mg mb h₀) (st : h₀.StaysIn s.heap) (hled : ∀ p ∈ led, s.heap.get? p.1 = some p.2 ∧ h₀.get? p.1 = none)
    (ho : s.heap.get? f = some (kla_obj name qual params body scope clos pm c' ctv)) (hcd : s.heap.CodeRec (.ref c') qual) (hroom : A.depth < recursionLimit)
    (hbind : bindArgs (kla_fn name qual params body scope clos pm (.ref c') ctv) args = pure binds) (hloc : ∀ y ∈ binds, scope.names.lookup y.1 = some .local)
    (h : ∀ L h₁, Fr (hideAll s.heap (led.map (·.1))) L h₁ (fun y => binds.reverse.lookup y) → News (hideAll s.heap (led.map (·.1))) L h₁ led → K.In (hideAll s.heap (led.map (·.1))) → Top p loose mean mg mb (hideAll s.heap (led.map (·.1))) →
      wpAny (model prog w) (A.deeper (envX qual scope L f (.ref c') clos)) (eval body (envX qual scope L f (.ref c') clos))
        (fun v s' => R (.ok (.ret v)) s') (fun _ _ => False)
        { s with heap := h₁, toks := s.toks + binds.length })
    (hco : scope.isCoroutine = false) (hgen : scope.isGenerator = false) (hk : scope.kind = .function)
    (hcell : ∀ x ∈ scope.names, x.2 ≠ .cell) : codeAny (model prog w) A (.call (.ref f) args) R s := by
  have st' := hide_stays st fun p hp => (hled p hp).2
  refine kla_callFunE hroom ho rfl hco hgen rfl hcd ?_
  rw [hbind]
  refine wpAny_pure (wpAny_newFunctionEnv hcell hloc (fun h₁ hns hsb => ⟨((T.nolimit).keeps st).fresh _ hsb, ?_⟩) hk)
  show codeAny _ _ (.expr body (envX qual scope s.heap.objs.size f (.ref c') clos)) _ _
  have hk₁ : ∀ b o, s.heap.get? b = some o → h₁.get? b = some o := fun b o e => hsb.extBut b o (Nat.ne_of_lt (Heap.lt_size e)) (Heap.get?_push_of_some _ e)
  exact kla_codeExpr (wpAny_mono (h s.heap.objs.size h₁ ⟨hns, fun b o e => hk₁ b o (of_hideAll _ e), Nat.le_of_eq (hideAll_size _ _)⟩
    (fun p hp => ⟨hk₁ _ _ (hled p hp).1, Nat.ne_of_lt (Heap.lt_size (hled p hp).1), hideAll_none _ (List.mem_map_of_mem hp)⟩) (X.keeps st') (T.keeps st')) (fun _ _ q => q) fun _ _ y => y.elim)
end

/-- what the made reader does -/
noncomputable def LamSpec (w : World) (f I : Addr) (kept : List (Addr × Obj)) : Prop :=
  ∀ {A : Around} {s : Shared} {h₀ : Heap} {p : Program} {loose : List Str} {mean : ExcName → Option Value} {mg mb : Str → Option Value} {R : Result → Shared → Prop} {oI : Obj} {rest : List Nat} {v : Value},
    (hd.heap_39 w.params).In h₀ → Top p loose mean mg mb h₀ → h₀.StaysIn s.heap → A.depth < 900 → A.handled = none → (∀ q ∈ kept, s.heap.get? q.1 = some q.2 ∧ h₀.get? q.1 = none ∧ q.1 ≠ I) →
    s.heap.get? I = some oI → h₀.get? I = none → IterSt oI rest →
    (∀ h' tk oI' t, ButLed [(I, oI)] s.heap h' → h'.get? I = some oI' → IterSt oI' rest.tail → R (.ok (.ret (.str (St (rest.take 1)) t))) { s with heap := h', toks := tk }) →
    codeAny (model pr w) A (.call (.ref f) ⟨[v], []⟩) R s
theorem new_of {g h : Heap} {L b : Addr} {ob : Obj} {news : List (Addr × Obj)} (N : News (hideAll g (List.map (fun x => x.fst) [(b, ob)])) L h news) {a : Addr} {o : Obj} (hm : (a, o) ∈ news) (hne : @LT.lt Nat _ b a) :
    h.get? a = some o ∧ g.get? a = none := by
  refine ⟨(N _ hm).1, ?_⟩
  cases e : g.get? a with
  | none => rfl
  | some o =>
    have := (N _ hm).2.2
    have h2 := hideAll_get (List.map (fun x => x.fst) [(b, ob)]) e (fun q => (Nat.ne_of_lt hne) (List.mem_singleton.mp q).symm)
    cases h2.symm.trans this
set_option genInjectivity false in
set_option genSizeOf false in
structure LexA where
  lx : Addr
  dl : Addr
  pb : Addr
  sr : Addr
  ds : Addr
  f : Addr
  c' : Addr
  cell : Addr
  I : Addr
  pb0 : Addr
  lo : Obj
  oc : Obj
  cd : Obj
  k1 : Tok
  k2 : Tok
  k3 : Tok
  k4 : Tok
  t3 : Tok
  j1 : Tok
  j2 : Tok
  j3 : Tok
  j4 : Tok
  j5 : Tok
  u1 : Tok
  u3 : Tok
noncomputable abbrev srcEs (P : Params) (k1 k2 k3 k4 k5 t1 t3 : Tok) (pb f : Addr) : List DictEntry :=
  [⟨PyData.keyHash P (Str.ofString "lineno"), .str (Str.ofString "lineno") k1, .int 1 t1⟩, ⟨PyData.keyHash P (Str.ofString "instream"), .str (Str.ofString "instream") k2, .none⟩,
    ⟨PyData.keyHash P (Str.ofString "whitespace"), .str (Str.ofString "whitespace") k3, .str (Str.ofString "\n\t\x0d ") t3⟩, ⟨PyData.keyHash P (Str.ofString "pushback"), .str (Str.ofString "pushback") k4, .ref pb⟩,
    ⟨PyData.keyHash P (Str.ofString "read"), .str (Str.ofString "read") k5, .ref f⟩]
noncomputable abbrev LexA.dict (a : LexA) (P : Params) (n : Int) (t : Tok) : Obj := dictOf (lexEs P a.k1 a.k2 a.k3 a.k4 t a.t3 n (.ref a.sr) a.pb) 4
noncomputable abbrev LexA.kept (a : LexA) : List (Addr × Obj) := [(a.f, a.lo), (a.c', a.oc), (a.cell, a.cd)]
noncomputable abbrev LexA.fix (a : LexA) (P : Params) : List (Addr × Obj) :=
  [(a.lx, instObj 59 a.dl), (a.pb, listOf (List.toArray []) 0), (a.sr, instObj 59 a.ds), (a.ds, dictOf (srcEs P a.j1 a.j2 a.j3 a.j4 a.j5 a.u1 a.u3 a.pb0 a.f) 5), (a.f, a.lo), (a.c', a.oc), (a.cell, a.cd)]
structure LexOk (w : World) (a : LexA) : Prop where
  lam : LamSpec w a.f a.I a.kept
  fn : ∃ o1 o2 fd o3, a.lo = ⟨o1, o2, .func fd, o3⟩
  ord : @LT.lt Nat _ a.cell a.I ∧ @LT.lt Nat _ a.I a.ds ∧ @LT.lt Nat _ a.ds a.sr ∧ @LT.lt Nat _ a.sr a.c' ∧ @LT.lt Nat _ a.c' a.f ∧ @LT.lt Nat _ a.f a.dl ∧ @LT.lt Nat _ a.dl a.lx ∧ @LT.lt Nat _ a.lx a.pb
end PartLam
section PartLexer
set_option maxHeartbeats 1000000
theorem off_lexer : True := by (w_top off); trivial
theorem lexer_spec {w : World} {A : Around} {s : Shared} {p : Program} {loose : List Str} {mean : ExcName → Option Value} {mg mb : Str → Option Value} {Q E : Value → Shared → Prop} {h₀ : Heap}
    (X : (hd.heap_39 w.params).In h₀) (T : Top p loose mean mg mb h₀) (st : h₀.StaysIn s.heap) (C : CodeHd h₀ 165 161) (h161 : s.heap.get? 161 = some (tabObj #[])) (h0 : h₀.get? 161 = none) (hA : A.depth < 800) (hh : A.handled = none)
    {cs : List Nat} {t : Tok} (ha : ∀ c ∈ cs, c < 128)
    (k : ∀ h' tk (a : LexA) t1 oI, ButLed [(161, tabObj #[])] s.heap h' → (∃ its, h'.get? 161 = some (tabObj its)) → LexOk w a → IterSt oI cs → NewIn s.heap h' (a.fix w.params ++ [(a.dl, a.dict w.params 1 t1), (a.I, oI)]) → Q (.ref a.lx) { s with heap := h', toks := tk }) :
    wpAny (model pr w) A (call (.ref 166) [.str (St cs) t]) Q E s := by
  refine wpAny_call ?_
  with_unfolding_all refine' enterC [(161, tabObj #[])] [(Str.ofString "text", .str (St cs) t)] X T st ?k0 ?k6 ?k7 ?k8 ?k9 ?kB ?kD ?_ ?c2 ?c3 ?c4
  case k0 =>
    intro p hp
    rw [List.mem_singleton.mp hp]
    exact ⟨h161, h0⟩
  case k6 => k_is
  case k7 => k_is
  case k8 => exact Nat.lt_trans (by assumption) (by decide)
  case k9 => exact BindsTo.of_eq rfl
  case kB => exact rfl
  case kD => decide +kernel
  case c2 => exact rfl
  case c3 => exact rfl
  case c4 => exact rfl
  intro L h₁ tk cells F N Y X1 T1 l1
  have C1 : CodeHd (hideAll s.heap (List.map (·.1) [((161 : Addr), tabObj #[])])) 165 161 := C.keeps (hide_stays st fun p hp => by rw [List.mem_singleton.mp hp]; exact h0)
  k_lt l1
  k_cells Y
  (try simp only [List.cons_append, List.nil_append] at N)
  clear X T C
  repeat' walk1
  refine iter_str (St_ascii ha) F N (fun I h2 F2 N2 l2 => ?_)
  k_lt l2
  repeat' walk1
  unfold AtCall
  rename Fr _ _ _ _ => F3
  rename News _ _ _ _ => N3
  refine' call_cls (fI := 35) F3 X1 N3 ?k4 ?k5 ?k6 ?_
  case k4 => k_is
  case k5 => k_is
  case k6 => k_is
  intro x dx h4 F4 N4 l4 l5
  k_lt l4
  k_lt2 l5
  have ny : ∀ {b : Addr}, @LT.lt Nat _ b dx → b ≠ x := fun h => Nat.ne_of_lt (Nat.lt_trans h l5)
  have nd : ∀ {b c : Addr}, @LT.lt Nat _ b c → b ≠ c := fun h => Nat.ne_of_lt h
  refine init_spec X1 T1 (by exact F4.keep) (by simp only [depth_under_make, depth_deeper]; omega) (N4 _ (.head _)).1 (N4 _ (.tail _ (.head _))).1 (N4 _ (.head _)).2.2 (N4 _ (.tail _ (.head _))).2.2 l5 ?_
  intro h5 tk5 pb k1 k2 k3 k4 t1 t3 bl _ hx5 hdx5 lpb
  refine ⟨rfl, ?_⟩
  have Nl : News _ _ _ [(x, instObj 59 dx), (dx, dictOf [] 0)] := fun p hp => N4 p (List.mem_append_left _ hp)
  have F5 := but_fr F4 Nl bl
  have N5 := but_news F4 Nl (fun p hp => N4 p (List.mem_append_right [(x, instObj 59 dx), (dx, dictOf [] 0)] hp)) bl (by
      simp only [List.map_cons, List.map_nil, List.mem_cons, List.not_mem_nil, or_false, forall_eq_or_imp, forall_eq, not_or]
      exact ⟨⟨ny l4.1, nd l4.1⟩, ⟨ny l4.2.1, nd l4.2.1⟩, ⟨ny l4.2.2, nd l4.2.2⟩⟩)
    (led' := [(x, instObj 59 dx), (dx, dictOf (lexEs w.params k1 k2 k3 k4 t1 t3 1 .none pb) 4)]) (by
      simp only [List.map_cons, List.map_nil, List.mem_cons, List.not_mem_nil, or_false, forall_eq_or_imp, forall_eq]
      exact ⟨⟨.inl trivial, hx5⟩, .inr trivial, hdx5⟩) NewIn.nil
  simp only [List.nil_append, List.cons_append] at N5
  clear N4 F4 Nl
  dsimp only
  repeat' walk1
  unfold AtCall
  rename_i f c' oc vs tq ct hq1 tkq dF dG l9 l10 hq2 F6 N6
  refine' call_cls (fI := 35) F6 X1 N6 ?k4 ?k5 ?k6 ?_
  case k4 => k_is
  case k5 => k_is
  case k6 => k_is
  intro y dy h7 F7 N7 l7 l8
  k_lt l7
  k_lt2 l8
  have ny2 : ∀ {b : Addr}, @LT.lt Nat _ b dy → b ≠ y := fun h => Nat.ne_of_lt (Nat.lt_trans h l8)
  refine init_spec X1 T1 (by exact F7.keep) (by simp only [depth_under_make, depth_deeper]; omega) (N7 _ (.head _)).1 (N7 _ (.tail _ (.head _))).1 (N7 _ (.head _)).2.2 (N7 _ (.tail _ (.head _))).2.2 l8 ?_
  intro h8 tk8 pb' k1' k2' k3' k4' t1' t3' bl' W8 hx8 hdx8 lpb'
  refine ⟨rfl, ?_⟩
  have Nl : News _ _ _ [(y, instObj 59 dy), (dy, dictOf [] 0)] := fun p hp => N7 p (List.mem_append_left _ hp)
  have F8 := but_fr F7 Nl bl'
  have N8 := but_news F7 Nl (fun p hp => N7 p (List.mem_append_right [(y, instObj 59 dy), (dy, dictOf [] 0)] hp)) bl' (by
      simp only [List.map_cons, List.map_nil, List.mem_cons, List.not_mem_nil, or_false, forall_eq_or_imp, forall_eq, not_or]
      exact ⟨⟨ny2 l7.1, nd l7.1⟩, ⟨ny2 l7.2.1, nd l7.2.1⟩, ⟨ny2 l7.2.2.1, nd l7.2.2.1⟩, ⟨ny2 l7.2.2.2.1, nd l7.2.2.2.1⟩, ⟨ny2 l7.2.2.2.2.1, nd l7.2.2.2.2.1⟩, ⟨ny2 l7.2.2.2.2.2.1, nd l7.2.2.2.2.2.1⟩, ⟨ny2 l7.2.2.2.2.2.2, nd l7.2.2.2.2.2.2⟩⟩)
    (led' := [(y, instObj 59 dy), (dy, dictOf (lexEs w.params k1' k2' k3' k4' t1' t3' 1 (.ref x) pb') 4)]) (by
      simp only [List.map_cons, List.map_nil, List.mem_cons, List.not_mem_nil, or_false, forall_eq_or_imp, forall_eq]
      exact ⟨⟨.inl trivial, hx8⟩, .inr trivial, hdx8⟩) W8
  simp only [List.nil_append, List.cons_append] at N8
  clear N7 F7 Nl
  dsimp only
  repeat' walk1
  rename (_ : Obj).data = Data.cell (some (Value.ref I)) => dC
  have hf := N8 (f, _) (by k_mem)
  have hcell := N8 (L + 1, _) (by k_mem)
  have hc' := N8 (c', _) (by k_mem)
  obtain ⟨lo, elo⟩ : ∃ lo, h8.get? f = some lo := ⟨_, hf.1⟩
  obtain ⟨cd, ecd⟩ : ∃ lo, h8.get? (L + 1) = some lo := ⟨_, hcell.1⟩
  have elo' := Option.some.inj (hf.1.symm.trans elo)
  have ecd' := (Option.some.inj (hcell.1.symm.trans ecd)).symm
  subst ecd'
  refine k _ _ { lx := y, dl := dy, pb := pb', sr := x, ds := dx, f := f, c' := c', cell := L + 1, I := I, pb0 := pb, lo := lo, oc := oc, cd := cd, k1 := k1', k2 := k2', k3 := k3', k4 := k4', t3 := t3', j1 := k1, j2 := k2, j3 := k3, j4 := k4, j5 := tkq + 1, u1 := t1, u3 := t3 } t1' (sIter (St cs) t 0) (ButLed.of F8.keep) ⟨_, (N8 (161, _) (by k_mem)).1⟩ ?_ (.inl ⟨cs, t, 0, ha, rfl, rfl⟩) ?_
  rotate_left 1
  · intro q hq
    simp only [List.cons_append, List.nil_append, List.mem_cons, List.not_mem_nil, or_false] at hq
    rcases hq with rfl | rfl | rfl | rfl | rfl | rfl | rfl | rfl | rfl
    · exact new_of N8 (by k_mem) (Nat.lt_trans l7.2.2.2.2.2.2 l8)
    · exact new_of N8 (by k_mem) (by omega)
    · exact new_of N8 (by k_mem) (Nat.lt_trans l4.2.2 l5)
    · exact new_of N8 (by k_mem) l4.2.2
    · rw [← elo']; exact new_of N8 (by k_mem) (by omega)
    · exact new_of N8 (by k_mem) (by omega)
    · exact new_of N8 (by k_mem) (Nat.lt_succ_of_lt l1)
    · exact new_of N8 (by k_mem) l7.2.2.2.2.2.2
    · exact new_of N8 (by k_mem) l2.2
  refine ⟨?_, ⟨_, _, _, _, elo'.symm⟩, by simp only; omega⟩
  dsimp only
  clear k F8 N8 hx8 hdx8 W8 bl' lpb' l8 l7 hdx5 hx5 lpb bl l4 l5 X1 T1 C1 h161 st h0
  clear F6 N6
  rw [← elo']
  clear elo' elo ecd hf hcell hc'
  intro A2 s2 g2 p2 loose2 mean2 mg2 mb2 R2 oI rest v X2 T2 st2 hA2 hh2 hk2 hI hI0 hi2 k2
  have hkf := hk2 _ (.head _)
  have hkc := hk2 _ (.tail _ (.head _))
  have hkl := hk2 _ (.tail _ (.tail _ (.head _)))
  dsimp only at hkf hkc hkl
  refine' enterE [(I, oI), (L + 1, cd)] [(Str.ofString "size", v)] X2 T2 st2 ?k0 hkf.1 ⟨c', oc, vs, tq, rfl, hkc.1, dF, dG⟩ (Nat.lt_trans hA2 (by decide)) rfl (locs rfl) ?_ rfl rfl rfl (by decide)
  case k0 =>
    intro p hp
    simp only [List.mem_cons, List.not_mem_nil, or_false] at hp
    rcases hp with rfl | rfl
    · exact ⟨hI, hI0⟩
    · exact ⟨hkl.1, hkl.2.1⟩
  intro L2 h2' F N X3 T3
  iterate 4 walk1
  refine nameX_F N (by rfl) (by k_mem) dC ?_ rfl rfl
  iterate 3 walk1
  refine' next_sign ?h1 ?h2 F N ?U hi2 ?_
  case h1 => exact hh2
  case h2 => rfl
  case U => k_updF
  intro h3 tk3 oI3 v3 hi3 F3 N3
  (try dsimp only at N3)
  refine k2 _ _ _ _ (fun b o hb e => ?_) (N3 _ (.head _)).1 hi3
  by_cases hq : b = L + 1
  · subst hq
    rw [hkl.1] at e
    exact e ▸ (N3 _ (.tail _ (.head _))).1
  · refine F3.keep _ _ (hideAll_get _ e ?_)
    intro hm
    simp only [List.map_cons, List.map_nil, List.mem_cons, List.not_mem_nil, or_false] at hm hb
    exact hm.elim hb hq
end PartLexer
section PartRead
set_option maxHeartbeats 1000000
theorem off_read : True := by (w_top off); trivial
section
variable {prog : Program} {w : World} {A : Around} {E : Value → Shared → Prop} {s : Shared} {h₀ : Heap} {L x : Addr} {ox : Obj} {C : Addr} {es : List DictEntry} {n : Nat} {K : Frag} {m : Str → Option Value} {name : Str} {v : Value} {pl : Sem Bool}
/-- a function that lies in the object's own dict is called -/
theorem method_own {Q : Value × List Value → Shared → Prop} (F : Fr h₀ L s.heap m) (X₀ : K.In h₀) (I : InstAt s.heap x ox C (some (dictOf es n))) (hg : plainGet K C name = true) (hh : hasDictIn K C = true)
    (hf : findIn K (.ref C) name = some none) (hl : getL name es = some (some v)) (hv : handedIn v = true) (h : Q (v, []) { s with toks := s.toks + 1 }) : wpAny (model prog w) A (getMethod (.ref x) name pl) Q E s := by
  have X := X₀.keeps F.keep
  have hcan := PySem.F.canon_object_ga
  unfold getMethod
  refine wpAny_bind (wpAny_bind (I.type.here ((looks_findIn X (plainGet_of hg).1).here ?_)))
  dsimp only
  rw [hcan, if_neg (by decide)]
  refine wpAny_bind (wpAny_bind (I.type.here ((looks_findIn X (plainGet_of hg).2).here ?_)))
  refine wpAny_bind (wpAny_bind (I.type.here ((looks_findIn X hf).here ?_)))
  exact wpAny_bind (get_own F X₀ I hg hh hf rfl hl hv (wpAny_pure h))
end
/-- the line behind a sign -/
noncomputable def bump (n : Int) (rest : List Nat) : Int := if rest.head? = some 10 then n + 1 else n
theorem but_of {h h' : Heap} {led ch : List (Addr × Obj)} (st : (hideAll h (led.map (·.1))).StaysIn h') (hl : ∀ q ∈ led, h.get? q.1 = some q.2) (hf : ∀ q ∈ led, q.1 ∉ ch.map (·.1) → h'.get? q.1 = some q.2) : ButLed ch h h' := fun b o hb e => by
  by_cases hm : b ∈ led.map (·.1)
  · obtain ⟨q, hq, rfl⟩ := List.mem_map.mp hm
    rw [hl q hq] at e
    exact e ▸ hf q hq hb
  · exact st _ _ (hideAll_get _ e hm)
theorem St_beq {a b : List Nat} : (St a == St b) = decide (a = b) := by
  by_cases h : a = b
  · subst h; simp
  · rw [decide_eq_false h]
    exact beq_eq_false_iff_ne.mpr fun e => h (by simpa [St] using e)
theorem St_nl {rest : List Nat} : (St (rest.take 1) == Str.ofString "\n") = decide (rest.head? = some 10) := by
  have e : Str.ofString "\n" = St [10] := by rfl
  rw [e, St_beq]
  cases rest <;> simp
theorem readchar_spec {w : World} {A : Around} {s : Shared} {p : Program} {loose : List Str} {mean : ExcName → Option Value} {mg mb : Str → Option Value} {R : Result → Shared → Prop} {h₀ : Heap} {a : LexA} {n : Int} {t1 : Tok} {oI : Obj} {rest : List Nat}
    (X : (hd.heap_39 w.params).In h₀) (T : Top p loose mean mg mb h₀) (st : h₀.StaysIn s.heap) (O : LexOk w a) (hA : A.depth < 880) (hh : A.handled = none) (hi : IterSt oI rest) (hn : 0 ≤ n ∧ n < 1000000)
    (hled : ∀ q ∈ a.fix w.params ++ [(a.dl, a.dict w.params n t1), (a.I, oI)], s.heap.get? q.1 = some q.2 ∧ h₀.get? q.1 = none)
    (k : ∀ h' tk oI' t1' tv, ButLed [(a.dl, a.dict w.params n t1), (a.I, oI)] s.heap h' → h'.get? a.dl = some (a.dict w.params (bump n rest) t1') → h'.get? a.I = some oI' → IterSt oI' rest.tail →
      R (.ok (.ret (.str (St (rest.take 1)) tv))) { s with heap := h', toks := tk }) :
    codeAny (model pr w) A (.call (.ref 42) ⟨[.ref a.lx], []⟩) R s := by
  obtain ⟨lx, dl, pb, sr, ds, f, c', cell, I, pb0, lo, oc, cd, k1, k2, k3, k4, t3, j1, j2, j3, j4, j5, u1, u3⟩ := a
  obtain ⟨lam, ⟨foc, fod, fd, fsl, fe⟩, ord⟩ := O
  dsimp only at fe
  subst fe
  dsimp only [LexA.fix, LexA.dict, LexA.kept] at lam ord hled k ⊢
  with_unfolding_all refine' enterH _ [(Str.ofString "self", .ref lx)] X T st hled ?k6 ?k7 ?k8 ?k9 ?kB ?_ ?c2 ?c3 ?c4 ?c5
  walk_at "my enter"
  intro L h₁ F N X1 T1
  simp only [List.cons_append, List.nil_append] at N
  clear X T
  repeat' walk1
  rename Fr _ _ _ _ => F2
  rename News _ _ _ _ => N2
  refine' method_own (C := 59) F2 X1 ?k3 ?k4 ?k5 ?k6 ?k7 ?k8 ?_
  case k3 => k_inst
  case k4 => k_is
  case k5 => k_is
  case k6 => k_is
  case k7 => k_get
  case k8 => rfl
  dsimp only
  refine callWith_F (FnAt.of N2 (by k_mem)) ?_
  repeat' walk1
  unfold AtCall
  refine wpAny_call ?_
  have hI2 := N2 (I, oI) (by k_mem)
  refine lam X1 T1 (by exact F2.keep) (by simp only [depth_deeper]; omega) (by exact hh) ?_ (by exact hI2.1) hI2.2.2 hi ?_
  · intro q hq
    have hm : q ∈ [(lx, instObj 59 dl), (pb, listOf (List.toArray []) 0), (sr, instObj 59 ds), (ds, dictOf (srcEs w.params j1 j2 j3 j4 j5 u1 u3 pb0 f) 5), (f, ⟨foc, fod, .func fd, fsl⟩), (c', oc), (cell, cd), (dl, dictOf (lexEs w.params k1 k2 k3 k4 t1 t3 n (Value.ref sr) pb) 4), (I, oI)] := by
      simp only [List.mem_cons, List.not_mem_nil, or_false] at hq
      rcases hq with rfl | rfl | rfl <;> k_mem
    refine ⟨(N2 q hm).1, (N2 q hm).2.2, ?_⟩
    simp only [List.mem_cons, List.not_mem_nil, or_false] at hq
    rcases hq with rfl | rfl | rfl <;> (refine neN ?_; omega)
  intro h3 tk3 oI3 tv3 bl3 hI3 hi3
  have Nl : News _ _ _ [(I, oI)] := fun p hp => N2 p (by rw [List.mem_singleton.mp hp]; k_mem)
  have F3 := but_fr F2 Nl bl3
  have N3 := but_news (rest := [(lx, instObj 59 dl), (pb, listOf (List.toArray []) 0), (sr, instObj 59 ds), (ds, dictOf (srcEs w.params j1 j2 j3 j4 j5 u1 u3 pb0 f) 5), (f, ⟨foc, fod, .func fd, fsl⟩), (c', oc), (cell, cd), (dl, dictOf (lexEs w.params k1 k2 k3 k4 t1 t3 n (Value.ref sr) pb) 4)]) F2 Nl (fun p hp => N2 p (List.mem_append_left [(I, oI)] hp)) bl3 (by
      simp only [List.map_cons, List.map_nil, List.mem_cons, List.not_mem_nil, or_false, forall_eq_or_imp, forall_eq, not_or]
      refine ⟨?_, ?_, ?_, ?_, ?_, ?_, ?_, ?_⟩ <;> (refine neN ?_; omega))
    (led' := [(I, oI3)]) (by
      intro p hp; rw [List.mem_singleton.mp hp]; exact ⟨.head _, hI3⟩) NewIn.nil
  simp only [List.nil_append, List.cons_append] at N3
  clear N2 F2 Nl
  dsimp only
  repeat' walk1
  · rename (_ == _) = true => hq
    rename Fr _ _ _ _ => F4
    rename News _ _ _ _ => N4
    have hq' : rest.head? = some 10 := of_decide_eq_true (St_nl.symm.trans hq)
    have hbump : bump n rest = n + 1 := if_pos hq'
    rw [hbump] at k
    refine k _ _ _ _ _ (but_of F4.keep (fun q hq => (hled q hq).1) fun q hq hne => ?_) (N4 (dl, _) (by k_mem)).1 (N4 _ (.head _)).1 hi3
    simp only [List.map_cons, List.map_nil, List.cons_append, List.nil_append, List.mem_cons, List.not_mem_nil, or_false, not_or] at hne hq
    rcases hq with rfl | rfl | rfl | rfl | rfl | rfl | rfl | rfl | rfl
    · exact (N4 _ (by k_mem)).1
    · exact (N4 _ (by k_mem)).1
    · exact (N4 _ (by k_mem)).1
    · exact (N4 _ (by k_mem)).1
    · exact (N4 _ (by k_mem)).1
    · exact (N4 _ (by k_mem)).1
    · exact (N4 _ (by k_mem)).1
    · exact absurd rfl hne.1
    · exact absurd rfl hne.2
  · rename (_ == _) = false => hq
    rename Fr _ _ _ _ => F4
    rename News _ _ _ _ => N4
    have hq' : ¬ rest.head? = some 10 := of_decide_eq_false (St_nl.symm.trans hq)
    have hbump : bump n rest = n := if_neg hq'
    rw [hbump] at k
    refine k _ _ _ _ _ (but_of F4.keep (fun q hq => (hled q hq).1) fun q hq hne => ?_) (N4 (dl, _) (by k_mem)).1 (N4 _ (.head _)).1 hi3
    simp only [List.map_cons, List.map_nil, List.cons_append, List.nil_append, List.mem_cons, List.not_mem_nil, or_false, not_or] at hne hq
    rcases hq with rfl | rfl | rfl | rfl | rfl | rfl | rfl | rfl | rfl
    · exact (N4 _ (by k_mem)).1
    · exact (N4 _ (by k_mem)).1
    · exact (N4 _ (by k_mem)).1
    · exact (N4 _ (by k_mem)).1
    · exact (N4 _ (by k_mem)).1
    · exact (N4 _ (by k_mem)).1
    · exact (N4 _ (by k_mem)).1
    · exact absurd rfl hne.1
    · exact absurd rfl hne.2
end PartRead
section PartCiter
set_option maxHeartbeats 1000000
theorem off_citer : True := by (w_top off); trivial
theorem fn_at {K : Frag} {f : Addr} (h : fnIn K f = true) {g : Heap} (X : K.In g) : ∃ oc od fd sl, g.get? f = some ⟨oc, od, .func fd, sl⟩ := by
  unfold fnIn at h
  split at h
  · rename_i e
    exact ⟨_, _, _, _, X _ _ e⟩
  · cases h
theorem cit_owner : Manifest.owners.lookup (String.ofList ['r', 'o', 't', 'a', 'r', 'e', 't', 'i', '_', 'e', 'l', 'b', 'a', 'l', 'l', 'a', 'c'].reverse) = some Manifest.sig_callable_iterator := by kernel_rfl
theorem cit_next_slot : Slot "callable_iterator" "__next__" "callable_iterator.__next__" :=
  .of (owner := "callable_iterator") (n := "__next__") (by rw [typeLookup_type, builtinLookup_eq_fast]; kernel_rfl) (by decide +kernel) (by decide +kernel) (by decide +kernel)
    (by first | exact .inl (by decide +kernel) | exact .inr (by decide +kernel)) (by rw [isSubtype_type]; kernel_rfl)
theorem cit_next_entry : entryFor table "callable_iterator.__next__" = some Builtin.«callable_iterator.__next__» := entryFor_of_tree (by kernel_rfl)
theorem cit_next_args (a : Value) : argsOk "callable_iterator.__next__" ⟨[a], []⟩ := by
  unfold argsOk; rw [signature?_of (id := "callable_iterator.__next__") (n := ['_', '_', 't', 'x', 'e', 'n', '_', '_']) (o := ['r', 'o', 't', 'a', 'r', 'e', 't', 'i', '_', 'e', 'l', 'b', 'a', 'l', 'l', 'a', 'c']) (by kernel_rfl) cit_owner]; kernel_rfl
theorem cit_iter_slot : Slot "callable_iterator" "__iter__" "callable_iterator.__iter__" :=
  .of (owner := "callable_iterator") (n := "__iter__") (by rw [typeLookup_type, builtinLookup_eq_fast]; kernel_rfl) (by decide +kernel) (by decide +kernel) (by decide +kernel)
    (by first | exact .inl (by decide +kernel) | exact .inr (by decide +kernel)) (by rw [isSubtype_type]; kernel_rfl)
theorem cit_iter_entry : entryFor table "callable_iterator.__iter__" = some Builtin.«dict_keyiterator.__iter__» :=
  entryFor_alias (id' := "dict_keyiterator.__iter__") (by kernel_rfl) (by first | rfl | decide +kernel | (unfold String.splitOn; simp +decide [String.splitOnAux])) (by decide +kernel) (by kernel_rfl)
theorem cit_iter_args (a : Value) : argsOk "callable_iterator.__iter__" ⟨[a], []⟩ := by
  unfold argsOk; rw [signature?_of (id := "callable_iterator.__iter__") (n := ['_', '_', 'r', 'e', 't', 'i', '_', '_']) (o := ['r', 'o', 't', 'a', 'r', 'e', 't', 'i', '_', 'e', 'l', 'b', 'a', 'l', 'l', 'a', 'c']) (by kernel_rfl) cit_owner]; kernel_rfl
theorem meth_call_lookup : typeLookup (.type "method") "__call__" = pure (some (.builtin "method.__call__")) := by rw [typeLookup_type, builtinLookup_eq_fast]; kernel_rfl

theorem wpAny_callBorrowed {M : Model} {A : Around} {E : Value → Shared → Prop} {s : Shared} {f : Value} {pos : List Value} {Q : Value → Shared → Prop} (h : wpAny M A (call f pos) Q E s) : wpAny M A (callBorrowed f pos) Q E s := fun Γ p hΓ => by
  have h' := h Γ p hΓ
  rw [Sem.wp_cmd_call] at h'
  unfold callBorrowed
  rw [Sem.wp_call]
  have e : (fun (r : Result) s' => Sem.wp M Γ (match r with | .ok (.ret v) => Sem.pure v | .ok _ => .unsupported "internal:call-without-return-value" | .error e => .raise e) (fun a _ s' => Q a s') (fun e _ s' => E e s') p s')
      = (fun r s' => match r with | .ok (.ret v) => Q v s' | .ok _ => False | .error e => E e s') := by
    funext r s'
    rcases r with e | f
    · simp [Sem.wp]
    · cases f <;> simp [Sem.wp]
  exact e ▸ h'

/-- the callable iterator -/
noncomputable abbrev citer (mth : Addr) (t : Tok) : Obj := { cls := .type "callable_iterator", data := .fields #[.ref mth, .str (St []) t, .bool false] }
noncomputable abbrev citerEnd : Obj := { cls := .type "callable_iterator", data := .fields #[.none, .none, .bool true] }

theorem stop_raise {α : Type} {prog : Program} {w : World} {A2 : Around} {s2 : Shared} {Q2 : α → Shared → Prop} {E2 : Value → Shared → Prop} (hh2 : A2.handled = none)
    (hE : ∀ h' e, (∀ b o, s2.heap.get? b = some o → h'.get? b = some o) → (∃ o, h'.get? e = some o ∧ o.cls = .type "StopIteration") → E2 (.ref e) { s2 with heap := h' }) :
    wpAny (model prog w) A2 (Builtin.SmallTypes.stopIteration : Sem α) Q2 E2 s2 := by
  show wpAny _ _ (newExc (.type "StopIteration") [] >>= _) _ _ _
  refine wpAny_bind ?_
  simp only [newExc, newTuple]
  refine wpAny_bind (wpAny_newObj_type ?_ (by size_fits))
  refine wpAny_bind (m := firstArgMember _ _) (wpAny_of_eq (a := Value.none) (by first | rfl | (simp only [firstArgMember]; rfl)) ?_)
  refine wpAny_newObj_type ?_ (by size_fits)
  simp only [raiseNew]
  refine wpAny_bind (wpAny_handled ?_)
  rw [hh2]
  exact wpAny_bind (wpAny_pure (wpAny_throw (hE _ _ (fun b o e => Heap.get?_push_of_some _ (Heap.get?_push_of_some _ e)) ⟨_, Heap.get?_push_size _ rfl, rfl⟩)))
/-- a lexer's ledger -/
noncomputable abbrev lexLed (a : LexA) (P : Params) (n : Int) (t : Tok) (oI : Obj) : List (Addr × Obj) := a.fix P ++ [(a.dl, a.dict P n t), (a.I, oI)]

theorem read_step {g h h' : Heap} {L : Addr} {m : Str → Option Value} {a : LexA} {w : World} {n n' : Int} {t t' : Tok} {oI oI' : Obj} {pre : List (Addr × Obj)} (F : Fr g L h m) (N : News g L h (pre ++ lexLed a w.params n t oI)) (O : LexOk w a)
    (hpre : ∀ q ∈ pre, q.1 ≠ a.dl ∧ q.1 ≠ a.I) (bl : ButLed [(a.dl, a.dict w.params n t), (a.I, oI)] h h') (h1 : h'.get? a.dl = some (a.dict w.params n' t')) (h2 : h'.get? a.I = some oI') :
    Fr g L h' m ∧ News g L h' (pre ++ lexLed a w.params n' t' oI') := by
  have Nl : News g L h [(a.dl, a.dict w.params n t), (a.I, oI)] := fun p hp => N p (List.mem_append_right _ (List.mem_append_right _ hp))
  refine ⟨but_fr F Nl bl, fun p hp => ?_⟩
  have key : ∀ q : Addr × Obj, q ∈ pre ++ lexLed a w.params n t oI → q.1 ≠ a.dl → q.1 ≠ a.I → h'.get? q.1 = some q.2 ∧ q.1 ≠ L ∧ g.get? q.1 = none := fun q hq n1 n2 => by
    refine ⟨bl _ _ (fun hm => ?_) (N q hq).1, (N q hq).2⟩
    simp only [List.map_cons, List.map_nil, List.mem_cons, List.not_mem_nil, or_false] at hm
    exact hm.elim n1 n2
  rcases List.mem_append.mp hp with hp | hp
  · exact key p (List.mem_append_left _ hp) (hpre p hp).1 (hpre p hp).2
  · rcases List.mem_append.mp hp with hp | hp
    · have hne : p.1 ≠ a.dl ∧ p.1 ≠ a.I := by
        have ord := O.ord
        simp only [LexA.fix, List.mem_cons, List.not_mem_nil, or_false] at hp
        rcases hp with rfl | rfl | rfl | rfl | rfl | rfl | rfl <;> (constructor <;> (refine neN ?_; omega))
      exact key p (List.mem_append_right _ (List.mem_append_left _ hp)) hne.1 hne.2
    · simp only [List.mem_cons, List.not_mem_nil, or_false] at hp
      rcases hp with rfl | rfl
      · exact ⟨h1, (Nl _ (.head _)).2⟩
      · exact ⟨h2, (Nl _ (.tail _ (.head _))).2⟩

theorem lexLed_le {a : LexA} {w : World} {P : Params} {n : Int} {t : Tok} {oI : Obj} (O : LexOk w a) {q : Addr × Obj} (hq : q ∈ lexLed a P n t oI) : @LE.le Nat _ q.1 a.pb := by
  have ord := O.ord
  rcases List.mem_append.mp hq with hq | hq
  · simp only [LexA.fix, List.mem_cons, List.not_mem_nil, or_false] at hq
    rcases hq with rfl | rfl | rfl | rfl | rfl | rfl | rfl <;> (dsimp only; omega)
  · simp only [List.mem_cons, List.not_mem_nil, or_false] at hq
    rcases hq with rfl | rfl <;> (dsimp only; omega)

section
variable {w : World} {A : Around} {s : Shared} {p : Program} {loose : List Str} {mean : ExcName → Option Value} {mg mb : Str → Option Value} {h₀ : Heap} {a : LexA} {n : Int} {t1 : Tok} {oI : Obj} {rest : List Nat} {L : Addr} {m : Str → Option Value} {pre : List (Addr × Obj)}
/-- a call of the reader's method -/
theorem code_read {R : Result → Shared → Prop} (X : (hd.heap_39 w.params).In h₀) (T : Top p loose mean mg mb h₀) (O : LexOk w a) (hA : A.depth < 880) (hh : A.handled = none) (hi : IterSt oI rest) (hn : 0 ≤ n ∧ n < 1000000)
    (F : Fr h₀ L s.heap m) (N : News h₀ L s.heap (pre ++ lexLed a w.params n t1 oI)) (hpre : ∀ q ∈ pre, q.1 ≠ a.dl ∧ q.1 ≠ a.I)
    (k : ∀ h' tk oI' t1' tv, Fr h₀ L h' m → News h₀ L h' (pre ++ lexLed a w.params (bump n rest) t1' oI') → IterSt oI' rest.tail → R (.ok (.ret (.str (St (rest.take 1)) tv))) { s with heap := h', toks := tk }) :
    codeAny (model pr w) A (.call (.ref 42) ⟨[.ref a.lx], []⟩) R s := by
  refine readchar_spec X T (by exact F.keep) O hA hh hi hn (fun q hq => ⟨(N q (List.mem_append_right _ hq)).1, (N q (List.mem_append_right _ hq)).2.2⟩) fun h' tk oI' t1' tv bl e1 e2 hi' => ?_
  obtain ⟨F', N'⟩ := read_step F N O hpre bl e1 e2
  exact k _ _ _ _ _ F' N' hi'

/-- next of the callable iterator, that runs -/
theorem pyNext_live {Q : Option Value → Shared → Prop} {E : Value → Shared → Prop} {it mth : Addr} {tc : Tok} (X : (hd.heap_39 w.params).In h₀) (T : Top p loose mean mg mb h₀) (O : LexOk w a) (hA : A.depth < 880) (hh : A.handled = none) (hi : IterSt oI rest) (hn : 0 ≤ n ∧ n < 1000000)
    (F : Fr h₀ L s.heap m) (N : News h₀ L s.heap ([(it, citer mth tc), (mth, methodObj (.ref 42) (.ref a.lx))] ++ lexLed a w.params n t1 oI)) (o1 : @LT.lt Nat _ a.pb mth) (o2 : @LT.lt Nat _ mth it)
    (k1 : ∀ c r h' tk oI' t1' tv, rest = c :: r → Fr h₀ L h' m → News h₀ L h' ([(it, citer mth tc), (mth, methodObj (.ref 42) (.ref a.lx))] ++ lexLed a w.params (bump n rest) t1' oI') → IterSt oI' r → Q (some (.str (St [c]) tv)) { s with heap := h', toks := tk })
    (k2 : ∀ h' tk oI' t1', rest = [] → Fr h₀ L h' m → News h₀ L h' ([(it, citerEnd), (mth, methodObj (.ref 42) (.ref a.lx))] ++ lexLed a w.params n t1' oI') → IterSt oI' [] → Q none { s with heap := h', toks := tk }) :
    wpAny (model pr w) A (pyNext (.ref it)) Q E s := by
  have ord := O.ord
  have hit := (N (it, citer mth tc) (.head _)).1
  have hmt := (N (mth, methodObj (.ref 42) (.ref a.lx)) (.tail _ (.head _))).1
  have hT : s.TypeIs (.ref it) "callable_iterator" := ⟨_, hit, rfl⟩
  have hpre : ∀ q ∈ [(it, citer mth tc), (mth, methodObj (.ref 42) (.ref a.lx))], q.1 ≠ a.dl ∧ q.1 ≠ a.I := fun q hq => by
    simp only [List.mem_cons, List.not_mem_nil, or_false] at hq
    rcases hq with rfl | rfl <;> (constructor <;> (refine neN ?_; omega))
  have h42 : fnIn (hd.heap_39 w.params) 42 = true := by k_is
  have borrows : ∀ (s2 : Shared) (A2 : Around) (Q2 : Bool → Shared → Prop) (E2 : Value → Shared → Prop), h₀.StaysIn s2.heap → s2.heap.get? mth = some (methodObj (.ref 42) (.ref a.lx)) → Q2 true s2 → wpAny (model pr w) A2 (borrowsExactly (.ref mth)) Q2 E2 s2 := fun s2 A2 Q2 E2 st2 hm2 q2 => by
    unfold borrowsExactly
    refine wpAny_bind (wpAny_load hm2 ?_)
    show wpAny _ _ (if (Value.type "method" == Value.type "method") = true then _ else _) _ _ _
    rw [if_pos (by decide)]
    obtain ⟨oc, od, fd, sl, e42⟩ := fn_at h42 (X.keeps st2)
    refine wpAny_bind (wpAny_load e42 ?_)
    exact wpAny_pure q2
  unfold pyNext
  refine wpAny_bind (wpAny_attempt (wpAny_callSpecial?_slot (name := Str.ofString "__next__") hT cit_next_slot
    (wpAny_call_entry cit_next_slot hT cit_next_entry ?_ (cit_next_args _))))
  show wpAny _ _ (field (.ref it) 2 >>= _) _ _ s
  refine wpAny_bind (wpAny_field hit rfl (x := .bool false) rfl ?_)
  refine wpAny_ite_split (fun hab => absurd hab (by decide)) (fun _ => ?_)
  refine wpAny_bind (wpAny_field hit rfl (x := .ref mth) rfl ?_)
  refine wpAny_bind (wpAny_attempt ?_)
  unfold callOutOfASlot
  refine wpAny_bind (borrows _ _ _ _ F.keep hmt ?_)
  refine wpAny_ite_split (fun _ => ?_) (fun hab => absurd rfl hab)
  refine wpAny_callBorrowed (wpAny_call (method_call hmt ?_))
  refine code_read X T O (by exact hA) (by exact hh) hi hn F N hpre fun h' tk oI' t1' tv F' N' hi' => ?_
  have hit' := (N' (it, citer mth tc) (.head _)).1
  have hmt' := (N' (mth, methodObj (.ref 42) (.ref a.lx)) (.tail _ (.head _))).1
  refine wpAny_bind (wpAny_field hit' rfl (x := .bool false) rfl ?_)
  refine wpAny_ite_split (fun hab => absurd hab (by decide)) (fun _ => ?_)
  refine wpAny_bind (wpAny_field hit' rfl (x := .str (St []) tc) rfl ?_)
  refine wpAny_bind (wpAny_holding (PyProof.Rows.eqBool_str ?_))
  rw [St_beq]
  cases rest with
  | cons c r =>
    refine wpAny_ite_split (fun _ => ?_) (fun hab => absurd (by simp) hab)
    exact wpAny_pure ⟨_, rfl, wpAny_pure (k1 c r _ _ _ _ _ rfl F' N' hi')⟩
  | nil =>
    refine wpAny_ite_split (fun hab => absurd hab (by simp)) (fun _ => ?_)
    refine wpAny_bind (wpAny_rule (wpAny_bind ?_))
    refine wpAny_bind (m := field (.ref it) 0) (wpAny_field hit' rfl (x := .ref mth) rfl ?_)
    refine wpAny_bind (m := slotLetsGo _ (.ref mth) _) ?_
    unfold slotLetsGo
    refine wpAny_bind (borrows _ _ _ _ F'.keep hmt' ?_)
    refine wpAny_ite_split (fun _ => ?_) (fun hab => absurd rfl hab)
    refine wpAny_pure ?_
    refine wpAny_bind (m := setField (.ref it) 0 .none) (wpAny_setField_rec hit' (by simp) fun h1 e1 b1 => ?_)
    refine wpAny_bind (m := setField (.ref it) 1 .none) (wpAny_setField_rec e1 (by simp) fun h2 e2 b2 => ?_)
    refine wpAny_setField_rec e2 (by simp) fun h3 e3 b3 => ?_
    refine stop_raise (by exact hh) fun h4 e hk4 hcl => ?_
    obtain ⟨oe, he, hce⟩ := hcl
    refine wpAny_bind (wpAny_isInstance (T := "StopIteration") (b := true) ⟨_, he, hce⟩ isSubtype_stop ?_)
    have hm := N' (it, citer mth tc) (.head _)
    have hk : ∀ b o, b ≠ it → h'.get? b = some o → h4.get? b = some o := fun b o hb e => hk4 _ _ (b3.extBut _ _ hb (b2.extBut _ _ hb (b1.extBut _ _ hb e)))
    rw [show bump n ([] : List Nat) = n by simp [bump]] at N'
    refine wpAny_pure (k2 h4 _ oI' t1' rfl ⟨F'.ns.at' fun o e => hk _ o (fun q => hm.2.1 q.symm) e, fun b o e => hk b o (fun q => by subst q; rw [hm.2.2] at e; cases e) (F'.keep b o e), F'.above⟩ (fun q hq => ?_) hi')
    rcases List.mem_cons.mp hq with rfl | hq
    · exact ⟨hk4 _ _ e3, hm.2⟩
    · have hq2 := N' q (List.mem_cons_of_mem _ hq)
      refine ⟨hk _ _ ?_ hq2.1, hq2.2⟩
      rcases List.mem_cons.mp hq with rfl | hq
      · refine neN ?_; omega
      · have := lexLed_le O hq
        refine neN ?_; omega
/-- next of the callable iterator, that has ended -/
theorem pyNext_ended {Q : Option Value → Shared → Prop} {E : Value → Shared → Prop} {it : Addr} {news : List (Addr × Obj)} (hh : A.handled = none) (F : Fr h₀ L s.heap m) (N : News h₀ L s.heap news) (hm : (it, citerEnd) ∈ news)
    (k : ∀ h', Fr h₀ L h' m → News h₀ L h' news → Q none { s with heap := h' }) : wpAny (model pr w) A (pyNext (.ref it)) Q E s := by
  have hit := (N _ hm).1
  have hT : s.TypeIs (.ref it) "callable_iterator" := ⟨_, hit, rfl⟩
  unfold pyNext
  refine wpAny_bind (wpAny_attempt (wpAny_callSpecial?_slot (name := Str.ofString "__next__") hT cit_next_slot
    (wpAny_call_entry cit_next_slot hT cit_next_entry ?_ (cit_next_args _))))
  show wpAny _ _ (field (.ref it) 2 >>= _) _ _ s
  refine wpAny_bind (wpAny_field hit rfl (x := .bool true) rfl ?_)
  refine wpAny_ite_split (fun _ => ?_) (fun hab => absurd (by decide) hab)
  refine wpAny_bind (wpAny_rule ?_)
  refine wpAny_bind (stop_raise (by exact hh) fun h4 e hk4 hcl => ?_)
  obtain ⟨oe, he, hce⟩ := hcl
  refine wpAny_bind (wpAny_isInstance (T := "StopIteration") (b := true) ⟨_, he, hce⟩ isSubtype_stop ?_)
  exact wpAny_pure (k _ ⟨F.ns.at' fun o e => hk4 _ o e, fun b o e => hk4 b o (F.keep b o e), F.above⟩ fun q hq => ⟨hk4 _ _ (N q hq).1, (N q hq).2⟩)
end
end PartCiter
section PartToken
set_option maxHeartbeats 1000000
theorem off_token : True := by (w_top off); trivial
noncomputable def ItSt (mth : Addr) (tc : Tok) (live : Bool) (o : Obj) : Prop := match live with
  | true => o = citer mth tc
  | false => o = citerEnd
section
variable {w : World} {A : Around} {s : Shared} {p : Program} {loose : List Str} {mean : ExcName → Option Value} {mg mb : Str → Option Value} {h₀ : Heap} {a : LexA} {env : Env} {body : List Stmt} {Q : Flow → Shared → Prop} {E : Value → Shared → Prop}
theorem wpAny_pyIter_cit {it : Addr} {Q : Value → Shared → Prop} (hT : s.TypeIs (.ref it) "callable_iterator") (h : Q (.ref it) s) : wpAny (model pr w) A (pyIter (.ref it)) Q E s := by
  refine wpAny_pyIter_slot hT cit_iter_slot (wpAny_call_entry cit_iter_slot hT cit_iter_entry ?_ (cit_iter_args _))
  show wpAny _ _ (ret (.ref it)) _ _ s
  exact wpAny_pure ⟨_, rfl, "callable_iterator", _, hT, cit_next_slot.lookup, h⟩

/-- what holds behind a turn -/
inductive CitEnd (w : World) (a : LexA) (h₀ : Heap) (L it mth : Addr) (tc : Tok) (J : Bool → Int → List Nat → (Str → Option Value) → Prop) (len : Nat) (s s₂ : Shared) : Prop
  | mk (h' : Heap) (tk : Nat) (m' : Str → Option Value) (live : Bool) (n : Int) (t1 : Tok) (oI : Obj) (rest : List Nat) (oit : Obj) (e : s₂ = { s with heap := h', toks := tk }) (F : Fr h₀ L h' m') (N : News h₀ L h' ([(it, oit), (mth, methodObj (.ref 42) (.ref a.lx))] ++ lexLed a w.params n t1 oI)) (ho : ItSt mth tc live oit) (hi : IterSt oI rest)
    (hl : rest.length ≤ len) (hj : J live n rest m') : CitEnd w a h₀ L it mth tc J len s s₂
inductive CitSt (w : World) (a : LexA) (h₀ : Heap) (L it mth : Addr) (tc : Tok) (J : Bool → Int → List Nat → (Str → Option Value) → Prop) (s : Shared) (k : Nat) (s' : Shared) : Prop
  | mk (h' : Heap) (tk : Nat) (m' : Str → Option Value) (live : Bool) (n : Int) (t1 : Tok) (oI : Obj) (rest : List Nat) (oit : Obj) (e : s' = { s with heap := h', toks := tk }) (F : Fr h₀ L h' m') (N : News h₀ L h' ([(it, oit), (mth, methodObj (.ref 42) (.ref a.lx))] ++ lexLed a w.params n t1 oI)) (ho : ItSt mth tc live oit) (hi : IterSt oI rest)
    (hj : J live n rest m') (hk : k = (if live = true then rest.length + 1 else 0)) : CitSt w a h₀ L it mth tc J s k s'
noncomputable def CitPost (w : World) (a : LexA) (h₀ : Heap) (L it mth : Addr) (tc : Tok) (J : Bool → Int → List Nat → (Str → Option Value) → Prop) (len : Nat) (s : Shared) (Q : Flow → Shared → Prop) (f : Flow) (s₂ : Shared) : Prop :=
  match f with
  | .ret v => Q (.ret v) s₂
  | .brk => Q .next s₂
  | _ => CitEnd w a h₀ L it mth tc J len s s₂

theorem loop_cit {x : Str} {px : Pos} {it mth : Addr} {tc : Tok} {oit : Obj} {live : Bool} {n : Int} {t1 : Tok} {oI : Obj} {rest : List Nat} {m : Str → Option Value} (J : Bool → Int → List Nat → (Str → Option Value) → Prop)
    (X : (hd.heap_39 w.params).In h₀) (T : Top p loose mean mg mb h₀) (O : LexOk w a) (hA : A.depth < 880) (hh : A.handled = none) (o1 : @LT.lt Nat _ a.pb mth) (o2 : @LT.lt Nat _ mth it)
    (F : Fr h₀ env.locals s.heap m) (N : News h₀ env.locals s.heap ([(it, oit), (mth, methodObj (.ref 42) (.ref a.lx))] ++ lexLed a w.params n t1 oI)) (ho : ItSt mth tc live oit) (hi : IterSt oI rest) (hj : J live n rest m)
    (hJ : ∀ live n rest m, J live n rest m → 0 ≤ n ∧ n < 1000000)
    (turn : ∀ n c rest m h tk t1 oI tv, J true n (c :: rest) m → Fr h₀ env.locals h m → News h₀ env.locals h ([(it, citer mth tc), (mth, methodObj (.ref 42) (.ref a.lx))] ++ lexLed a w.params (bump n (c :: rest)) t1 oI) → IterSt oI rest →
      wpAny (model pr w) A (assign (.Name x px) env (.str (St [c]) tv)) (fun _ s₂ => wpAny (model pr w) A (execs body env) (CitPost w a h₀ env.locals it mth tc J rest.length { s with heap := h, toks := tk } Q) E s₂) E { s with heap := h, toks := tk })
    (done : ∀ n rest m h tk t1 oI, (J true n rest m ∧ rest = []) ∨ J false n rest m → Fr h₀ env.locals h m → News h₀ env.locals h ([(it, citerEnd), (mth, methodObj (.ref 42) (.ref a.lx))] ++ lexLed a w.params n t1 oI) → IterSt oI rest → Q .next { s with heap := h, toks := tk })
    (hE : PassesOwn (model pr w) A env E := by passes_own) :
    AtLoop pr w A env (.Name x px) body Q E (.ref it) s := by
  unfold AtLoop
  have hcls : oit.cls = .type "callable_iterator" := by
    cases live with
    | true => have e : oit = citer mth tc := ho; rw [e]
    | false => have e : oit = citerEnd := ho; rw [e]
  refine wpAny_pyIter_cit ⟨_, (N _ (.head _)).1, hcls⟩ ?_
  refine codeAny_forLoop_any
    (CitSt w a h₀ env.locals it mth tc J s) ?_ _ ⟨s.heap, s.toks, m, live, n, t1, oI, rest, oit, rfl, F, N, ho, hi, hj, rfl⟩
  rintro k s' ⟨h', tk, m', live', n', t1', oI', rest', oit', rfl, F', N', ho', hi', hj', rfl⟩
  cases live' with
  | true =>
    have e : oit' = citer mth tc := ho'
    subst e
    refine pyNext_live X T O hA hh hi' (hJ _ _ _ _ hj') F' N' o1 o2 (fun c r h1 tk1 oI1 t2 tv e F1 N1 hi1 => ?_) (fun h1 tk1 oI1 t2 e F1 N1 hi1 => wpAny_execs_nil ?_)
    · subst e
      refine hgo_name ?_
      refine wpAny_passesOwn hE ?_
      refine wpAny_mono (turn n' c r m' h1 tk1 t2 oI1 tv hj' F1 N1 hi1) (fun _ s₂ h₂ => wpAny_passesOwn hE (wpAny_mono h₂ (fun f s₃ h₃ => ?_) fun _ _ e => e)) fun _ _ e => e
      have fin : CitEnd w a h₀ env.locals it mth tc J r.length { s with heap := h1, toks := tk1 } s₃ → ∃ m_1, m_1 < (if true = true then (c :: r).length + 1 else 0) ∧ CitSt w a h₀ env.locals it mth tc J s m_1 s₃ := by
        rintro ⟨h3, tk3, m3, live3, n3, t3, oI3, rest3, oit3, rfl, F3, N3, ho3, hi3, hl3, hj3⟩
        refine ⟨_, ?_, h3, tk3, m3, live3, n3, t3, oI3, rest3, oit3, rfl, F3, N3, ho3, hi3, hj3, rfl⟩
        cases live3
        · simp
        · simp only [if_true, List.length_cons]; omega
      cases f with
      | ret v => exact h₃
      | brk => exact h₃
      | cont => exact fin h₃
      | next => exact fin h₃
    · subst e
      exact done _ _ _ _ _ _ _ (.inl ⟨hj', rfl⟩) F1 N1 hi1
  | false =>
    have e : oit' = citerEnd := ho'
    subst e
    refine pyNext_ended hh F' N' (.head _) fun h1 F1 N1 => wpAny_execs_nil ?_
    exact done _ _ _ _ _ _ _ (.inr hj') F1 N1 hi'
end
end PartToken
section PartGet
set_option maxHeartbeats 1000000
theorem off_get : True := by (w_top off); trivial
theorem iter_args2 (a b : Value) : argsOk "iter" ⟨[a, b], []⟩ := by unfold argsOk; kernel_rfl
theorem iter_call {prog : Program} {w : World} {A : Around} {E : Value → Shared → Prop} {s : Shared} {h₀ : Heap} {L : Addr} {m : Str → Option Value} {news : List (Addr × Obj)} {Q : Value → Shared → Prop} {mth : Addr} {f self : Value} {x : Str} {t : Tok}
    (e0 : x = St []) (F : Fr h₀ L s.heap m) (N : News h₀ L s.heap news) (hm : (mth, methodObj f self) ∈ news)
    (h : ∀ it h', Fr h₀ L h' m → News h₀ L h' ((it, citer mth t) :: news) → (∀ p ∈ news, p.1 < it) → Q (.ref it) { s with heap := h' }) :
    wpAny (model prog w) A (call (.builtin "iter") [.ref mth, .str x t]) Q E s := by
  subst e0
  refine call_function_entry (by decide +kernel) (by decide +kernel) kdk_entry_iter (iter_args2 _ _) ?_
  unfold Builtin.«iter»
  refine wpAny_bind (m := someArgs "iter" 1 2 _) (wpAny_of_eq (a := [Value.ref mth, .str (St []) t]) (by first | rfl | kernel_rfl!) ?_)
  dsimp only
  refine wpAny_bind (wpAny_specialOf (name := Str.ofString "__call__") (T := "method") ⟨_, (N _ hm).1, rfl⟩ meth_call_lookup ?_)
  refine wpAny_ite_split (fun hab => absurd hab (by decide)) (fun _ => ?_)
  refine wpAny_bind (wpAny_rule ?_)
  exact wpAny_bind (wpAny_newObj_type (wpAny_pure ⟨_, rfl, h _ _ (F.push _) (News.push F N _ rfl) fun p hp => Heap.lt_size (N p hp).1⟩) (by size_fits))
noncomputable def isWs (c : Nat) : Bool := c == 10 || c == 9 || c == 13 || c == 32
noncomputable def plainT : List Nat → List Nat → List Nat × List Nat
  | [], acc => (acc, [])
  | [c], acc => if isWs c then (acc, []) else if c = 92 then (acc, []) else (acc ++ [c], [])
  | c :: d :: r, acc => if isWs c then (acc, d :: r) else if c = 92 then plainT r (acc ++ [d]) else plainT (d :: r) (acc ++ [c])
noncomputable def quoteT : List Nat → List Nat → List Nat × List Nat
  | [], acc => (acc, [])
  | [c], acc => if c = 34 then (acc, []) else if c = 92 then (acc, []) else (acc ++ [c], [])
  | c :: d :: r, acc => if c = 34 then (acc, d :: r) else if c = 92 then quoteT r (acc ++ [d]) else quoteT (d :: r) (acc ++ [c])
theorem plainT_n (acc : List Nat) : plainT [] acc = (acc, []) := rfl
theorem plainT_c (c : Nat) (r acc : List Nat) : plainT (c :: r) acc = if isWs c then (acc, r) else if c = 92 then plainT r.tail (acc ++ r.take 1) else plainT r (acc ++ [c]) := by
  cases r <;> simp [plainT]
theorem quoteT_n (acc : List Nat) : quoteT [] acc = (acc, []) := rfl
theorem quoteT_c (c : Nat) (r acc : List Nat) : quoteT (c :: r) acc = if c = 34 then (acc, r) else if c = 92 then quoteT r.tail (acc ++ r.take 1) else quoteT r (acc ++ [c]) := by
  cases r <;> simp [quoteT]
noncomputable def skipT : List Nat → List Nat × List Nat
  | [] => ([], [])
  | c :: r => if isWs c then skipT r else if c = 34 then quoteT r [] else if c = 92 then plainT r.tail (r.take 1) else plainT r [c]
theorem occ_ws {c : Nat} : (Builtin.Str.occurrences (Str.ofString "\n\t\x0d ") (St [c]) 0 (Str.ofString "\n\t\x0d ").length 1).isEmpty = !isWs c := by
  have e : Str.ofString "\n\t\x0d " = St [10, 9, 13, 32] := by decide +kernel
  rw [e]
  have el : (St [10, 9, 13, 32]).length = 4 := by decide +kernel
  have el2 : (St [c]).length = 1 := by simp [St, Str.length]
  unfold Builtin.Str.occurrences
  rw [el, el2]
  by_cases h1 : c = 10
  · subst h1; decide +kernel
  by_cases h2 : c = 9
  · subst h2; decide +kernel
  by_cases h3 : c = 13
  · subst h3; decide +kernel
  by_cases h4 : c = 32
  · subst h4; decide +kernel
  have s0 : ∀ i, i ≤ 3 → Builtin.Str.subAt (St [10, 9, 13, 32]) (St [c]) i = false := by
    intro i hi
    have : i = 0 ∨ i = 1 ∨ i = 2 ∨ i = 3 := by omega
    rcases this with rfl | rfl | rfl | rfl <;> simp [Builtin.Str.subAt, St, Str.length, Ne.symm h1, Ne.symm h2, Ne.symm h3, Ne.symm h4, h1, h2, h3, h4]
  have hw : isWs c = false := by simp [isWs, h1, h2, h3, h4]
  rw [hw]
  simp [Std.Legacy.Range.forIn_eq_forIn_range', Std.Legacy.Range.size, List.range', s0]
theorem st_is {c k : Nat} {x : Str} (e : x = St [k]) : (St [c] == x) = decide (c = k) := by
  rw [e, St_beq]; simp
theorem bump_cnt (n : Int) (rest : List Nat) : bump n rest + (rest.tail.count 10 : Nat) = n + (rest.count 10 : Nat) := by
  cases rest with
  | nil => simp [bump]
  | cons c r =>
    by_cases h : c = 10
    · subst h; simp [bump]; omega
    · simp [bump, h]
theorem bump_len (n : Int) (rest : List Nat) : n ≤ bump n rest ∧ bump n rest + (rest.tail.length : Nat) ≤ n + (rest.length : Nat) := by
  cases rest with
  | nil => simp [bump]
  | cons c r =>
    by_cases h : c = 10
    · subst h; simp [bump]; omega
    · simp [bump, h]; omega
inductive GOut (lx it : Addr) (n : Int) (rest : List Nat) (live : Bool) (n' : Int) (r : List Nat) (m : Str → Option Value) : Prop
  | mk (j1 : m "self" = some (.ref lx)) (j2 : m "fiter" = some (.ref it)) (j3 : 0 ≤ n') (j4 : n' + (r.length : Nat) < 100000) (j5 : n' + (r.count 10 : Nat) = n + (rest.count 10 : Nat)) (j6 : r.length ≤ rest.length)
    (acc : List Nat) (t : Tok) (j7 : m "token" = some (.str (St acc) t)) (j8 : live = true → acc = [] ∧ skipT r = skipT rest) (j9 : live = false → r = [] ∧ skipT rest = (acc, [])) : GOut lx it n rest live n' r m
inductive GIn (f : List Nat → List Nat → List Nat × List Nat) (lx it : Addr) (n : Int) (rest : List Nat) (live : Bool) (n' : Int) (r : List Nat) (m : Str → Option Value) : Prop
  | mk (j1 : m "self" = some (.ref lx)) (j2 : m "fiter" = some (.ref it)) (j3 : 0 ≤ n') (j4 : n' + (r.length : Nat) < 100000) (j5 : n' + (r.count 10 : Nat) = n + (rest.count 10 : Nat))
    (acc : List Nat) (t : Tok) (j6 : m "token" = some (.str (St acc) t)) (j7 : acc.length + r.length ≤ rest.length) (j8 : live = true → f r acc = skipT rest) (j9 : live = false → r = [] ∧ skipT rest = (acc, [])) : GIn f lx it n rest live n' r m
theorem GOut.bd {lx it : Addr} {n n' : Int} {rest r : List Nat} {live : Bool} {m : Str → Option Value} (j : GOut lx it n rest live n' r m) : 0 ≤ n' ∧ n' < 1000000 := by
  obtain ⟨_, _, h0, h1, _⟩ := j
  exact ⟨h0, by omega⟩
theorem GIn.bd {f : List Nat → List Nat → List Nat × List Nat} {lx it : Addr} {n n' : Int} {rest r : List Nat} {live : Bool} {m : Str → Option Value} (j : GIn f lx it n rest live n' r m) : 0 ≤ n' ∧ n' < 1000000 := by
  obtain ⟨_, _, h0, h1, _⟩ := j
  exact ⟨h0, by omega⟩
inductive GEnd (lx it : Addr) (n : Int) (rest : List Nat) (n' : Int) (r : List Nat) (m : Str → Option Value) : Prop
  | mk (i1 : m "self" = some (.ref lx)) (i2 : m "fiter" = some (.ref it)) (i3 : 0 ≤ n') (i4 : n' < 100000) (i5 : n' = n + (rest.count 10 : Nat)) (e : r = []) (acc : List Nat) (t : Tok) (i6 : m "token" = some (.str (St acc) t)) (i7 : skipT rest = (acc, [])) : GEnd lx it n rest n' r m
theorem GIn.done {f : List Nat → List Nat → List Nat × List Nat} (hf : ∀ acc, f [] acc = (acc, [])) {lx it : Addr} {n n2 : Int} {rest r2 : List Nat} {m2 : Str → Option Value} (hj : (GIn f lx it n rest true n2 r2 m2 ∧ r2 = []) ∨ GIn f lx it n rest false n2 r2 m2) : GEnd lx it n rest n2 r2 m2 := by
  rcases hj with ⟨⟨i1, i2, i3, i4, i5, acc2, tt2, i6, i7, i8, i9⟩, e⟩ | ⟨i1, i2, i3, i4, i5, acc2, tt2, i6, i7, i8, i9⟩
  · subst e
    exact ⟨i1, i2, i3, by simpa using i4, by simpa using i5, rfl, acc2, tt2, i6, by rw [← i8 rfl, hf]⟩
  · obtain ⟨rfl, e9⟩ := i9 rfl
    exact ⟨i1, i2, i3, by simpa using i4, by simpa using i5, rfl, acc2, tt2, i6, e9⟩
theorem if_join0 {prog : Program} {w : World} {A : Around} {E : Value → Shared → Prop} {s : Shared} {env : Env} {st : Stmt} {rest : List Stmt} {Q : Flow → Shared → Prop} (J : Shared → Prop)
    (h1 : wpAny (model prog w) A (exec st env) (fun f s' => (f = .next ∧ J s') ∨ (f ≠ .next ∧ Q f s')) E s) (h2 : ∀ s', J s' → wpAny (model prog w) A (execs rest env) Q E s') :
    wpAny (model prog w) A (execs (st :: rest) env) Q E s := by
  refine wpAny_execs_cons (wpAny_mono h1 (fun f s' h => ?_) fun _ _ x => x)
  rcases h with ⟨rfl, hj⟩ | ⟨hn, hq⟩
  · exact h2 _ hj
  · cases f <;> first | exact hq | exact absurd rfl hn
inductive GJoin (g : Heap) (L it mth : Addr) (tc : Tok) (P : Params) (a : LexA) (n : Int) (rest : List Nat) (s s' : Shared) : Prop
  | mk (h' : Heap) (tk : Nat) (m' : Str → Option Value) (n' : Int) (t : Tok) (oI : Obj) (r cs : List Nat) (tt tv : Tok) (e : s' = { s with heap := h', toks := tk }) (F : Fr g L h' m') (N : News g L h' ([(it, citer mth tc), (mth, methodObj (.ref 42) (.ref a.lx))] ++ lexLed a P n' t oI)) (hi : IterSt oI r)
    (j1 : m' "self" = some (.ref a.lx)) (j2 : m' "fiter" = some (.ref it)) (j3 : m' "token" = some (.str (St []) tt)) (j4 : m' "ch" = some (.str (St cs) tv)) (b0 : 0 ≤ n') (b1 : n' + (r.length : Nat) < 100000) (b2 : n' + (r.count 10 : Nat) = n + (rest.count 10 : Nat))
    (e9 : plainT r cs = skipT rest) (b3 : cs.length + r.length ≤ rest.length) (b4 : cs.length ≤ 1) : GJoin g L it mth tc P a n rest s s'
theorem bump_ok {n K : Int} {r : List Nat} (h0 : 0 ≤ n) (h1 : n + (r.length : Nat) < 100000) (h2 : n + (r.count 10 : Nat) = K) :
    0 ≤ bump n r ∧ bump n r + (r.tail.length : Nat) < 100000 ∧ bump n r + (r.tail.count 10 : Nat) = K ∧ bump n r < 1000000 := by
  have b1 := bump_cnt n r
  have b2 := bump_len n r
  exact ⟨by omega, by omega, by omega, by omega⟩
theorem nat_take {a k R t : Nat} (h : a + (k + 1) ≤ R) (hR : R ≤ 100000) (ht : t ≤ 1) : a + t ≤ 1000000 := by omega
theorem nat_app {a t u k R : Nat} (h : a + (k + 1) ≤ R) (ht : t ≤ 1) (hu : u ≤ k) : a + t + u ≤ R := by omega
theorem take1_le (r : List Nat) : (r.take 1).length ≤ 1 := by rw [List.length_take]; exact Nat.min_le_left _ _
theorem tail_le (r : List Nat) : r.tail.length ≤ r.length := by rw [List.length_tail]; exact Nat.sub_le _ _
theorem gettoken_spec {w : World} {A : Around} {s : Shared} {p : Program} {loose : List Str} {mean : ExcName → Option Value} {mg mb : Str → Option Value} {R : Result → Shared → Prop} {h₀ : Heap} {a : LexA} {n : Int} {t1 : Tok} {oI : Obj} {rest : List Nat}
    (X : (hd.heap_39 w.params).In h₀) (T : Top p loose mean mg mb h₀) (st : h₀.StaysIn s.heap) (O : LexOk w a) (hA : A.depth < 800) (hh : A.handled = none) (hi : IterSt oI rest) (hn : 0 ≤ n ∧ n + (rest.length : Nat) < 100000)
    (hled : ∀ q ∈ lexLed a w.params n t1 oI, s.heap.get? q.1 = some q.2 ∧ h₀.get? q.1 = none)
    (k : ∀ h' tk oI' t1' tv, ButLed [(a.dl, a.dict w.params n t1), (a.I, oI)] s.heap h' → h'.get? a.dl = some (a.dict w.params (n + (rest.count 10 : Nat) - ((skipT rest).2.count 10 : Nat)) t1') → h'.get? a.I = some oI' → IterSt oI' (skipT rest).2 →
      R (.ok (.ret (.str (St (skipT rest).1) tv))) { s with heap := h', toks := tk }) :
    codeAny (model pr w) A (.call (.ref 49) ⟨[.ref a.lx], []⟩) R s := by
  obtain ⟨lx, dl, pb, sr, ds, f, c', cell, I, pb0, lo, oc, cd, k1, k2, k3, k4, t3, j1, j2, j3, j4, j5, u1, u3⟩ := a
  have ord := O.ord
  have hR : rest.length ≤ 100000 := by omega
  dsimp only [lexLed, LexA.fix, LexA.dict, LexA.kept] at hled k ord ⊢
  with_unfolding_all refine' enterH _ [(Str.ofString "self", .ref lx)] X T st hled ?k6 ?k7 ?k8 ?k9 ?kB ?_ ?c2 ?c3 ?c4 ?c5
  walk_at "my enter"
  intro L h₁
  generalize hg : hideAll s.heap (List.map (fun x => x.fst) (lexLed ⟨lx, dl, pb, sr, ds, f, c', cell, I, pb0, lo, oc, cd, k1, k2, k3, k4, t3, j1, j2, j3, j4, j5, u1, u3⟩ w.params n t1 oI)) = g
  intro F N X1 T1
  simp only [List.cons_append, List.nil_append] at N
  clear X T
  repeat' walk1
  rename_i mth hb F2 N2 lm
  refine iter_call rfl F2 N2 (.head _) (fun it h3 F3 N3 li => ?_)
  k_lt li
  clear F2 N2
  repeat' walk1
  rename Fr _ _ _ _ => F4
  rename News _ _ _ _ => N4
  have fin : ∀ h' tk m' n' t oI' r acc tt oit, Fr g L h' m' → News g L h' ([(it, oit), (mth, methodObj (.ref 42) (.ref lx))] ++ lexLed ⟨lx, dl, pb, sr, ds, f, c', cell, I, pb0, lo, oc, cd, k1, k2, k3, k4, t3, j1, j2, j3, j4, j5, u1, u3⟩ w.params n' t oI') → IterSt oI' r → skipT rest = (acc, r) → n' + (r.count 10 : Nat) = n + (rest.count 10 : Nat) →
      R (.ok (.ret (.str (St acc) tt))) { s with heap := h', toks := tk } := fun h' tk m' n' t oI' r acc tt oit F' N' hi' e1 e2 => by
    rw [e1] at k
    have en : n' = n + (rest.count 10 : Nat) - (r.count 10 : Nat) := by omega
    subst en
    refine k _ _ oI' t tt (but_of (hg ▸ F'.keep) (fun q hq => (hled q hq).1) fun q hq hne => ?_) (N' (dl, _) (by simp)).1 (N' (I, _) (by simp)).1 hi'
    simp only [List.map_cons, List.map_nil, List.cons_append, List.nil_append, List.mem_cons, List.not_mem_nil, or_false, not_or] at hne hq
    rcases hq with rfl | rfl | rfl | rfl | rfl | rfl | rfl | rfl | rfl
    · exact (N' (lx, _) (by simp)).1
    · exact (N' (pb, _) (by simp)).1
    · exact (N' (sr, _) (by simp)).1
    · exact (N' (ds, _) (by simp)).1
    · exact (N' (f, _) (by simp)).1
    · exact (N' (c', _) (by simp)).1
    · exact (N' (cell, _) (by simp)).1
    · exact absurd rfl hne.1
    · exact absurd rfl hne.2
  have hpre : ∀ q ∈ [(it, citer mth (s.toks + 1 + 1 + 1 + 1 + 1 + 1 + 1)), (mth, methodObj (.ref 42) (.ref lx))], q.1 ≠ dl ∧ q.1 ≠ I := fun q hq => by
    simp only [List.mem_cons, List.not_mem_nil, or_false] at hq
    rcases hq with rfl | rfl <;> (constructor <;> (refine neN ?_; omega))
  have hpm : @LT.lt Nat _ pb mth := by omega
  have hmi : @LT.lt Nat _ mth it := by omega
  have hA2 : ∀ e, (A.deeper e).depth < 880 := fun e => by simp only [depth_deeper]; omega
  refine loop_cit (a := ⟨lx, dl, pb, sr, ds, f, c', cell, I, pb0, lo, oc, cd, k1, k2, k3, k4, t3, j1, j2, j3, j4, j5, u1, u3⟩) (live := true)
    (GOut lx it n rest)
    X1 T1 O (hA2 _) (by exact hh) hpm hmi F4 N4 rfl hi ⟨rfl, rfl, hn.1, hn.2, rfl, Nat.le_refl _, [], _, rfl, fun _ => ⟨rfl, rfl⟩, fun e => by cases e⟩ (fun _ _ _ _ j => j.bd) ?_ ?_
  · rintro n1 c r m1 h5 tk5 t5 oI5 tv5 ⟨j1', j2', j3', j4', j5', j6', acc, tt, j7', j8', j9'⟩ F5 N5 hi5
    refine assign_local F5 N5 (fun h6 F6 N6 => ?_) rfl rfl
    clear F5 N5 F4 N4
    dsimp only [lexLed, LexA.fix, LexA.dict, List.cons_append, List.nil_append] at N6
    iterate 11 walk1
    rotate_left 1
    · have hw := ‹(Builtin.Str.occurrences (Str.ofString "\n\t\x0d ") (St [c]) 0 (Str.ofString "\n\t\x0d ").length 1).isEmpty = false›
      rw [occ_ws] at hw
      obtain ⟨rfl, e8⟩ := j8' rfl
      have kk := bump_ok j3' j4' j5'
      simp only [List.length_cons] at j6'
      repeat' walk1
      rename Fr _ _ _ _ => F11
      rename News _ _ _ _ => N11
      have e9 : skipT r = skipT rest := by rw [← e8]; conv => rhs; rw [skipT]
                                           simp at hw; simp [hw]
      exact ⟨_, _, _, true, _, _, _, r, _, rfl, F11, N11, rfl, hi5, Nat.le_refl _, j1', j2', kk.1, kk.2.1, kk.2.2.1, Nat.le_of_succ_le j6', _, _, j7', (fun _ => ⟨rfl, e9⟩), fun e => by cases e⟩
    have hw := ‹(Builtin.Str.occurrences (Str.ofString "\n\t\x0d ") (St [c]) 0 (Str.ofString "\n\t\x0d ").length 1).isEmpty = true›
    rw [occ_ws] at hw
    iterate 12 walk1
    · -- the quoted word
      rename Fr _ _ _ _ => F7
      rename News _ _ _ _ => N7
      refine loop_cit (a := ⟨lx, dl, pb, sr, ds, f, c', cell, I, pb0, lo, oc, cd, k1, k2, k3, k4, t3, j1, j2, j3, j4, j5, u1, u3⟩) (live := true)
        (GIn quoteT lx it n rest)
        X1 T1 O (hA2 _) (by exact hh) hpm hmi F7 N7 rfl hi5 ?_ (fun _ _ _ _ j => j.bd) ?_ ?_
      · rename (_ == _) = true => hq
        have hc : c = 34 := of_decide_eq_true ((st_is rfl).symm.trans hq)
        obtain ⟨rfl, e8⟩ := j8' rfl
        have kk := bump_ok j3' j4' j5'
        have e9 : quoteT r [] = skipT rest := by rw [← e8, hc]; simp [skipT, isWs]
        have e10 : ([] : List Nat).length + r.length ≤ rest.length := by simp at j6' ⊢; omega
        exact ⟨j1', j2', kk.1, kk.2.1, kk.2.2.1, [], tt, j7', e10, fun _ => e9, fun e => by cases e⟩
      · rintro n2 c2 r2 m2 h7 tk7 t7 oI7 tv7 ⟨i1, i2, i3, i4, i5, acc2, tt2, i6, i7, i8, i9⟩ F8 N8 hi8
        have kk := bump_ok i3 i4 i5
        simp only [List.length_cons] at i7
        refine assign_local F8 N8 (fun h9 F9 N9 => ?_) rfl rfl
        clear F8 N8
        dsimp only [lexLed, LexA.fix, LexA.dict, List.cons_append, List.nil_append] at N9
        repeat' walk1
        · rename (_ == _) = true => hq2
          have hc : c2 = 34 := of_decide_eq_true ((st_is rfl).symm.trans hq2)
          rename Fr _ _ _ _ => F10
          rename News _ _ _ _ => N10
          have e9 : skipT rest = (acc2, r2) := by rw [← i8 rfl, hc, quoteT_c]; simp
          exact fin _ _ _ _ _ _ _ _ _ _ F10 N10 hi8 e9 kk.2.2.1
        · rename (_ == _) = true => hq3
          rename (_ == _) = false => hq2
          have hc2 : ¬ c2 = 34 := of_decide_eq_false ((st_is rfl).symm.trans hq2)
          have hc : c2 = 92 := of_decide_eq_true ((st_is rfl).symm.trans hq3)
          rename Fr _ _ _ _ => F10
          rename News _ _ _ _ => N10
          unfold AtCall
          dsimp only [List.append_nil]
          have kq := bump_ok kk.1 kk.2.1 kk.2.2.1
          refine wpAny_call (code_read (a := ⟨lx, dl, pb, sr, ds, f, c', cell, I, pb0, lo, oc, cd, k1, k2, k3, k4, t3, j1, j2, j3, j4, j5, u1, u3⟩) (pre := [(it, citer mth _), (mth, methodObj (.ref 42) (.ref lx))]) X1 T1 O (hA2 _) (by exact hh) hi8 ⟨kk.1, kk.2.2.2⟩ F10 N10 hpre (fun h' tk oI' t1' tv F' N' hi' => ?_))
          clear F10 N10
          dsimp only [lexLed, LexA.fix, LexA.dict, List.cons_append, List.nil_append] at N' ⊢
          repeat' walk1
          refine iaddS (nat_take i7 hR (take1_le r2)) (fun t' tk' => ?_)
          repeat' walk1
          rename Fr _ _ _ _ => F11
          rename News _ _ _ _ => N11
          have e9 : quoteT r2.tail (acc2 ++ r2.take 1) = skipT rest := by rw [← i8 rfl, hc]; conv => rhs; rw [quoteT_c]
                                                                          simp
          have e10 : (acc2 ++ r2.take 1).length + r2.tail.length ≤ rest.length := by rw [List.length_append]; exact nat_app i7 (take1_le r2) (tail_le r2)
          exact ⟨_, _, _, true, _, _, _, r2.tail, _, rfl, F11, N11, rfl, hi', tail_le r2, i1, i2, kq.1, kq.2.1, kq.2.2.1, _, _, rfl, e10, fun _ => e9, fun e => by cases e⟩
        · have hq3 := ‹(St [c2] == Str.ofString "\\") = false›
          have hq2 := ‹(St [c2] == Str.ofString "\"") = false›
          have hc2 : ¬ c2 = 34 := of_decide_eq_false ((st_is rfl).symm.trans hq2)
          have hc : ¬ c2 = 92 := of_decide_eq_false ((st_is rfl).symm.trans hq3)
          refine iaddS (nat_take i7 hR (Nat.le_refl 1)) (fun t' tk' => ?_)
          repeat' walk1
          rename Fr _ _ _ _ => F11
          rename News _ _ _ _ => N11
          have e9 : quoteT r2 (acc2 ++ [c2]) = skipT rest := by rw [← i8 rfl]; conv => rhs; rw [quoteT_c]
                                                                simp [hc2, hc]
          have e10 : (acc2 ++ [c2]).length + r2.length ≤ rest.length := by rw [List.length_append]; exact nat_app i7 (Nat.le_refl 1) (Nat.le_refl _)
          exact ⟨_, _, _, true, _, _, _, r2, _, rfl, F11, N11, rfl, hi8, Nat.le_refl _, i1, i2, kk.1, kk.2.1, kk.2.2.1, _, _, rfl, e10, fun _ => e9, fun e => by cases e⟩
      · rintro n2 r2 m2 h7 tk7 t7 oI7 hj F8 N8 hi8
        obtain ⟨i1, i2, i3, i4, i5, rfl, acc2, tt2, i6, i7⟩ := GIn.done (f := quoteT) quoteT_n hj
        dsimp only [lexLed, LexA.fix, LexA.dict, List.cons_append, List.nil_append] at N8
        repeat' walk1
        exact ⟨_, _, _, false, _, _, _, [], _, rfl, F8, N8, rfl, hi8, Nat.zero_le _, i1, i2, i3, by simpa using i4, by simpa using i5, Nat.zero_le _, acc2, tt2, i6, (fun e => by cases e), fun _ => ⟨rfl, i7⟩⟩
    · -- the plain word
      have hq2 := ‹(St [c] == Str.ofString "\"") = false›
      have hc2 : ¬ c = 34 := of_decide_eq_false ((st_is rfl).symm.trans hq2)
      obtain ⟨rfl, e8⟩ := j8' rfl
      have kk := bump_ok j3' j4' j5'
      simp only [List.length_cons] at j6'
      refine if_join0 (GJoin g L it mth (s.toks + 1 + 1 + 1 + 1 + 1 + 1 + 1) w.params ⟨lx, dl, pb, sr, ds, f, c', cell, I, pb0, lo, oc, cd, k1, k2, k3, k4, t3, j1, j2, j3, j4, j5, u1, u3⟩ n rest s) ?_ ?_
      · repeat' walk1
        · have hq3 := ‹(St [c] == Str.ofString "\\") = true›
          have hc : c = 92 := of_decide_eq_true ((st_is rfl).symm.trans hq3)
          rename Fr _ _ _ _ => F10
          rename News _ _ _ _ => N10
          unfold AtCall
          dsimp only [List.append_nil]
          have kq := bump_ok kk.1 kk.2.1 kk.2.2.1
          refine wpAny_call (code_read (a := ⟨lx, dl, pb, sr, ds, f, c', cell, I, pb0, lo, oc, cd, k1, k2, k3, k4, t3, j1, j2, j3, j4, j5, u1, u3⟩) (pre := [(it, citer mth _), (mth, methodObj (.ref 42) (.ref lx))]) X1 T1 O (hA2 _) (by exact hh) hi5 ⟨kk.1, kk.2.2.2⟩ F10 N10 hpre (fun h' tk oI' t1' tv F' N' hi' => ?_))
          clear F10 N10
          dsimp only [lexLed, LexA.fix, LexA.dict, List.cons_append, List.nil_append] at N' ⊢
          repeat' walk1
          rename Fr _ _ _ _ => F11
          rename News _ _ _ _ => N11
          have e9 : plainT r.tail (r.take 1) = skipT rest := by rw [← e8, hc]; simp [skipT, isWs]
          have e10 : (r.take 1).length + r.tail.length ≤ rest.length := by simp only [List.length_take, List.length_tail]; omega
          exact .inl ⟨rfl, _, _, _, _, _, _, r.tail, r.take 1, _, _, rfl, F11, N11, hi', j1', j2', j7', rfl, kq.1, kq.2.1, kq.2.2.1, e9, e10, take1_le r⟩
        · have hq3 := ‹(St [c] == Str.ofString "\\") = false›
          have hc : ¬ c = 92 := of_decide_eq_false ((st_is rfl).symm.trans hq3)
          rename Fr _ _ _ _ => F11
          rename News _ _ _ _ => N11
          have e9 : plainT r [c] = skipT rest := by rw [← e8]; simp at hw; simp [skipT, hw, hc, hc2]
          exact .inl ⟨rfl, _, _, _, _, _, _, r, [c], _, _, rfl, F11, N11, hi5, j1', j2', j7', rfl, kk.1, kk.2.1, kk.2.2.1, e9, by simp only [List.length_cons, List.length_nil]; omega, Nat.le_refl _⟩
      · rintro s' ⟨h11, tk11, m11, n11, t11, oI11, r11, cs11, tt11, tv11, rfl, F11, N11, hi11, z1, z2, z3, z4, z5, z6, z7, z8, z9, z10⟩
        clear N6
        dsimp only [lexLed, LexA.fix, LexA.dict, List.cons_append, List.nil_append] at N11
        repeat' walk1
        refine iaddS (by simp only [List.length_nil]; omega) (fun t' tk' => ?_)
        repeat' walk1
        rename Fr _ _ _ _ => F11
        rename News _ _ _ _ => N11
        refine loop_cit (a := ⟨lx, dl, pb, sr, ds, f, c', cell, I, pb0, lo, oc, cd, k1, k2, k3, k4, t3, j1, j2, j3, j4, j5, u1, u3⟩) (live := true)
          (GIn plainT lx it n rest)
          X1 T1 O (hA2 _) (by exact hh) hpm hmi F11 N11 rfl hi11 ⟨z1, z2, z5, z6, z7, cs11, _, rfl, z9, fun _ => z8, fun e => by cases e⟩ (fun _ _ _ _ j => j.bd) ?_ ?_
        · rintro n2 c2 r2 m2 h7 tk7 t7 oI7 tv7 ⟨i1, i2, i3, i4, i5, acc2, tt2, i6, i7, i8, i9⟩ F8 N8 hi8
          have kk := bump_ok i3 i4 i5
          simp only [List.length_cons] at i7
          refine assign_local F8 N8 (fun h9 F9 N9 => ?_) rfl rfl
          clear F8 N8
          dsimp only [lexLed, LexA.fix, LexA.dict, List.cons_append, List.nil_append] at N9
          iterate 11 walk1
          rotate_left 1
          · -- the word's end
            have hw2 := ‹(Builtin.Str.occurrences (Str.ofString "\n\t\x0d ") (St [c2]) 0 (Str.ofString "\n\t\x0d ").length 1).isEmpty = false›
            rw [occ_ws] at hw2
            repeat' walk1
            rename Fr _ _ _ _ => F10
            rename News _ _ _ _ => N10
            have e9 : skipT rest = (acc2, r2) := by rw [← i8 rfl, plainT_c]; simp at hw2; simp [hw2]
            exact fin _ _ _ _ _ _ _ _ _ _ F10 N10 hi8 e9 kk.2.2.1
          have hw2 := ‹(Builtin.Str.occurrences (Str.ofString "\n\t\x0d ") (St [c2]) 0 (Str.ofString "\n\t\x0d ").length 1).isEmpty = true›
          rw [occ_ws] at hw2
          repeat' walk1
          · have hq3 := ‹(St [c2] == Str.ofString "\\") = true›
            have hc : c2 = 92 := of_decide_eq_true ((st_is rfl).symm.trans hq3)
            rename Fr _ _ _ _ => F10
            rename News _ _ _ _ => N10
            unfold AtCall
            dsimp only [List.append_nil]
            have kq := bump_ok kk.1 kk.2.1 kk.2.2.1
            refine wpAny_call (code_read (a := ⟨lx, dl, pb, sr, ds, f, c', cell, I, pb0, lo, oc, cd, k1, k2, k3, k4, t3, j1, j2, j3, j4, j5, u1, u3⟩) (pre := [(it, citer mth _), (mth, methodObj (.ref 42) (.ref lx))]) X1 T1 O (hA2 _) (by exact hh) hi8 ⟨kk.1, kk.2.2.2⟩ F10 N10 hpre (fun h' tk oI' t1' tv F' N' hi' => ?_))
            clear F10 N10
            dsimp only [lexLed, LexA.fix, LexA.dict, List.cons_append, List.nil_append] at N' ⊢
            repeat' walk1
            refine iaddS (nat_take i7 hR (take1_le r2)) (fun t' tk' => ?_)
            repeat' walk1
            rename Fr _ _ _ _ => F12
            rename News _ _ _ _ => N12
            have e9 : plainT r2.tail (acc2 ++ r2.take 1) = skipT rest := by rw [← i8 rfl, hc]; conv => rhs; rw [plainT_c]
                                                                            simp [isWs]
            have e10 : (acc2 ++ r2.take 1).length + r2.tail.length ≤ rest.length := by rw [List.length_append]; exact nat_app i7 (take1_le r2) (tail_le r2)
            exact ⟨_, _, _, true, _, _, _, r2.tail, _, rfl, F12, N12, rfl, hi', tail_le r2, i1, i2, kq.1, kq.2.1, kq.2.2.1, _, _, rfl, e10, fun _ => e9, fun e => by cases e⟩
          · have hq3 := ‹(St [c2] == Str.ofString "\\") = false›
            have hc : ¬ c2 = 92 := of_decide_eq_false ((st_is rfl).symm.trans hq3)
            refine iaddS (nat_take i7 hR (Nat.le_refl 1)) (fun t' tk' => ?_)
            repeat' walk1
            rename Fr _ _ _ _ => F12
            rename News _ _ _ _ => N12
            have e9 : plainT r2 (acc2 ++ [c2]) = skipT rest := by
              rw [← i8 rfl]; conv => rhs; rw [plainT_c]
              simp at hw2; simp [hw2, hc]
            have e10 : (acc2 ++ [c2]).length + r2.length ≤ rest.length := by rw [List.length_append]; exact nat_app i7 (Nat.le_refl 1) (Nat.le_refl _)
            exact ⟨_, _, _, true, _, _, _, r2, _, rfl, F12, N12, rfl, hi8, Nat.le_refl _, i1, i2, kk.1, kk.2.1, kk.2.2.1, _, _, rfl, e10, fun _ => e9, fun e => by cases e⟩
        · rintro n2 r2 m2 h7 tk7 t7 oI7 hj F8 N8 hi8
          obtain ⟨i1, i2, i3, i4, i5, rfl, acc2, tt2, i6, i7⟩ := GIn.done (f := plainT) plainT_n hj
          dsimp only [lexLed, LexA.fix, LexA.dict, List.cons_append, List.nil_append] at N8
          repeat' walk1
          exact ⟨_, _, _, false, _, _, _, [], _, rfl, F8, N8, rfl, hi8, Nat.zero_le _, i1, i2, i3, by simpa using i4, by simpa using i5, Nat.zero_le _, acc2, tt2, i6, (fun e => by cases e), fun _ => ⟨rfl, i7⟩⟩
  · rintro n2 r2 m2 h7 tk7 t7 oI7 hj F8 N8 hi8
    have hd : n2 = n + (rest.count 10 : Nat) ∧ r2 = [] ∧ ∃ acc t, m2 "token" = some (.str (St acc) t) ∧ skipT rest = (acc, []) := by
      rcases hj with ⟨⟨i1, i2, i3, i4, i5, i6, acc2, tt2, i7, i8, i9⟩, e⟩ | ⟨i1, i2, i3, i4, i5, i6, acc2, tt2, i7, i8, i9⟩
      · subst e
        obtain ⟨rfl, e8⟩ := i8 rfl
        exact ⟨by simpa using i5, rfl, [], tt2, i7, by rw [← e8, skipT]⟩
      · obtain ⟨rfl, e9⟩ := i9 rfl
        exact ⟨by simpa using i5, rfl, acc2, tt2, i7, e9⟩
    obtain ⟨i5, rfl, acc2, tt2, i6, i7⟩ := hd
    dsimp only [lexLed, LexA.fix, LexA.dict, List.cons_append, List.nil_append] at N8
    repeat' walk1
    exact fin _ _ _ _ _ _ _ _ _ _ F8 N8 hi8 i7 (by simpa using i5)
end PartGet
section PartNumbers
set_option maxHeartbeats 1000000
theorem off_numbers : True := by (w_top off); trivial


local macro_rules | `(tactic| walk_at "same 4") => `(tactic| with_unfolding_all refine atStop ?_)
local macro_rules | `(tactic| walk_at "subscriptTail Name Slice ref ref") => `(tactic| walk_at "same 4")
local macro_rules | `(tactic| walk_at "call builtin:list.extend") => `(tactic| walk_at "same 4")
theorem lextend {prog : Program} {w : World} {A : Around} {E : Value → Shared → Prop} {s : Shared} {h₀ : Heap} {L D b : Addr} {m : Str → Option Value} {news : List (Addr × Obj)} {vs ys : List Value} {n n2 : Nat} {Q : Value → Shared → Prop}
    (F : Fr h₀ L s.heap m) (N : News h₀ L s.heap ((D, listOf vs.toArray n) :: news)) (hne : ∀ p ∈ news, p.1 ≠ D) (hb : (b, listOf ys.toArray n2) ∈ news) (hy : ys.length ≠ 0) (hsz : vs.length + ys.length ≤ 1000000)
    (h : ∀ h', Fr h₀ L h' m → News h₀ L h' ((D, listOf (vs ++ ys).toArray (n + 1)) :: news) → Q .none { s with heap := h' }) : wpAny (model prog w) A (call (.builtin "list.extend") [.ref D, .ref b]) Q E s := by
  have z := N (D, listOf vs.toArray n) (.head _)
  refine call_meets PySem.F.slot_list_extend ⟨_, z.1, rfl⟩ PySem.F.entry_list_extend (PySem.F.args_list_extend_2 _ _) (PySem.AutoSeq1.list_extend_list_list_0 D _ n b _ n2 ?_ (by rw [List.size_toArray, sizeLine_eq]; omega) (by rw [List.size_toArray, List.size_toArray, sizeLine_eq]; omega)) ⟨z.1, (N _ (.tail _ hb)).1, h _ (F.change (Heap.SameBut.update ..) z.2.1 z.2.2) (kl_turn (pre := []) _ N (fun _ h => nomatch h) hne ?_ ?_)⟩
  · intro hq
    simp only [Bool.and_eq_true, Builtin.List.listTooLong] at hq
    have := hq.2
    simp at this; rw [sizeLine_eq] at this
    omega
  · apply Array.toList_inj.mp
    simp
  · simp
    intro e; subst e; simp at hy
noncomputable def PieceAt (rest : List (Addr × Obj)) (v : Value) : Prop := ∃ p ys ms, v = .ref p ∧ (p, listOf (List.toArray ys) 0) ∈ rest ∧ IntsAre ys ms ∧ (∀ m ∈ ms, (0 : Int) ≤ m ∧ m < 262144) ∧ ys.length ≠ 0 ∧ ys.length ≤ 2
theorem piece1 {rest : List (Addr × Obj)} {p : Addr} {n : Int} {t : Tok} (hm : (p, listOf (List.toArray [Value.int n t]) 0) ∈ rest) (hb : 0 ≤ n ∧ n < 262144) : PieceAt rest (.ref p) :=
  ⟨p, _, [n], rfl, hm, .cons _ _ .nil, by simpa using hb, by simp, by simp⟩
theorem piece2 {rest : List (Addr × Obj)} {p : Addr} {n n2 : Int} {t t2 : Tok} (hm : (p, listOf (List.toArray [Value.int n t, Value.int n2 t2]) 0) ∈ rest) (hb : (0 ≤ n ∧ n < 262144) ∧ (0 ≤ n2 ∧ n2 < 262144)) : PieceAt rest (.ref p) :=
  ⟨p, _, [n, n2], rfl, hm, .cons _ _ (.cons _ _ .nil), by simpa using hb, by simp, by simp⟩
inductive NumJ (a : Addr) (l1 : Addr) (l2 : Addr) (l0 : Addr) (rest : List (Addr × Obj)) (i : Nat) (m : Str → Option Value) (nx : List (Addr × Obj)) : Prop
  | mk (y1 : m (Str.ofString "script") = some (.ref a)) (y2 : m (Str.ofString "fixed") = some (.ref l1)) (y3 : m (Str.ofString "pieces") = some (.ref l2)) (y4 : m (Str.ofString "numbers") = some (.ref l0)) (zs : List Value) (ms : List Int) (c : Nat) (y5 : nx = (l0, listOf (List.toArray zs) c) :: rest) (y6 : IntsAre zs ms) (y7 : (∀ m ∈ ms, (0 : Int) ≤ m ∧ m < 262144)) (y8 : zs.length ≤ 2 * i) : NumJ a l1 l2 l0 rest i m nx
theorem numbers_spec {w : World} {A : Around} {s : Shared} {p : Program} {loose : List Str} {mean : ExcName → Option Value} {mg mb : Str → Option Value} {Q E : Value → Shared → Prop}
    (X : (hd.heap_39 w.params).In s.heap) (T : Top p loose mean mg mb s.heap) (hA : A.depth < 900) (hh : A.handled = none)
    {a : Addr} {vs : List Value} {ns : List Int} (hl : s.heap.IsList a vs.toArray) (hi : IntsAre vs ns) (hn : ns.length ≤ 63)
    (k : ∀ h' tk b o zs ms, s.heap.StaysIn h' → NewIn s.heap h' [(b, o)] → ListObj zs o → IntsAre zs ms → (∀ m ∈ ms, 0 ≤ m ∧ m < 262144) → ms.length ≤ 42 → Q (.ref b) { s with heap := h', toks := tk }) :
    wpAny (model pr w) A (call (.ref 109) [.ref a]) Q E s := by
  refine wpAny_call ?_
  with_unfolding_all refine' enter [(Str.ofString "script", .ref a)] X T ?k6 ?k7 ?k8 ?k9 ?kB ?_ ?c2 ?c3 ?c4 ?c5
  walk_at "my enter"
  intro L h₁ F N
  dsimp only
  repeat' walk1
  unfold AtStop
  rename_i l2 hb2 l2l hb3 l1 hb4 l1l hb5 l0 hb6 l0l hb7 F2 N2
  refine lslice F2 N2 (hl.at (F2.keep _)) .none (.int _ _) (pick_upto _ (by decide)) (fun D h3 F3 N3 l3 => ?_) (by have := hi.length; rw [sizeLine_eq]; omega)
  have hD : @LT.lt Nat _ l0 D := l3 _ (.head _)
  obtain ⟨rest, N4, hlt, fx, fms, hfx, hfi, hfb, hfl, pc, hpc, hpp, hpl⟩ : ∃ rest, News s.heap L h3 ((D, listOf (List.toArray (vs.take 12)) 0) :: (l0, listOf (List.toArray []) 0) :: rest) ∧ (∀ p ∈ rest, @LT.lt Nat _ p.1 l0) ∧
      ∃ fx fms, (l1, listOf (List.toArray fx) 0) ∈ rest ∧ IntsAre fx fms ∧ (∀ m ∈ fms, (0 : Int) ≤ m ∧ m < 262144) ∧ fms.length ≤ 18 ∧
      ∃ pc, (l2, listOf (List.toArray pc) 0) ∈ rest ∧ (∀ v ∈ pc, PieceAt rest v) ∧ pc.length = 8 := by
    refine' ⟨_, N3, ?h1, _, ?fms, .head _, ?h2, ?h3, ?h4, _, .tail _ (.head _), ?h5⟩
    case h1 =>
      simp only [List.mem_cons, List.not_mem_nil, or_false, forall_eq_or_imp, forall_eq]
      omega
    case h5 =>
      refine ⟨?_, rfl⟩
      intro v hv
      simp only [List.mem_cons, List.not_mem_nil, or_false] at hv
      rcases hv with rfl | rfl | rfl | rfl | rfl | rfl | rfl | rfl
      all_goals first | exact piece1 (by k_mem) (by decide) | exact piece2 (by k_mem) (by decide)
    case h2 => exact .cons _ _ (.cons _ _ (.cons _ _ (.cons _ _ (.cons _ _ (.cons _ _ (.cons _ _ (.cons _ _ (.cons _ _ (.cons _ _ (.cons _ _ (.cons _ _ (.cons _ _ (.cons _ _ (.cons _ _ (.cons _ _ (.cons _ _ (.cons _ _ .nil)))))))))))))))))
    case h3 => decide
    case h4 => decide
  clear N3 N2 F2
  have hlt0 := Heap.lt_size hl.choose_spec.1
  refine loop_list (NumJ a l1 l2 l0 rest)
    hh (isl N4 (.head _)) (N4 _ (.head _)).2.1 F3 (fun p hp => N4 p (.tail _ hp)) ⟨rfl, rfl, rfl, rfl, [], [], 0, rfl, .nil, by simp, by simp⟩ ?_ ?_ ?_
  · exact fun _ _ _ _ _ _ hq => hgo_name hq
  · rintro i v m₁ nx h tk own I hv hnx hown ⟨j1, j2, j3, j4, zs, ms, c, rfl, hz, hzb, hzl⟩ F₁ N₁
    refine assign_local F₁ N₁ (fun h' F' N' => ?_) rfl rfl
    have hil : i < 12 := by
      have := (List.getElem?_eq_some_iff.mp hv).1
      simp at this; omega
    obtain ⟨x, u, rfl, hd⟩ := IntsAre.at (hi.take 12) i v hv
    have hne : ∀ p ∈ rest ++ own, p.1 ≠ l0 := fun p hp => by
      rcases List.mem_append.mp hp with hp | hp
      · exact Nat.ne_of_lt (hlt p hp)
      · rcases hown p hp with e | e
        · rw [e]; exact fun q => hnx _ (.head _) q.symm
        · rw [e]; exact fun q => absurd hD (by rw [q]; exact Nat.lt_irrefl _)
    have f0 : 0 ≤ x.fmod 9 := Int.fmod_nonneg_of_pos _ (by omega)
    have f1 : x.fmod 9 < 9 := Int.fmod_lt_of_pos _ (by omega)
    clear F₁ N₁
    simp only [List.cons_append] at N'
    repeat' walk1
    · rename Fr _ _ _ _ => F5
      rename News _ _ _ _ => N5
      rename x.fmod 9 < 8 => hx8
      have hk : (x.fmod 9).toNat < pc.length := by omega
      obtain ⟨p, ys, ms2, ep, hp, hy, hyb, hy0, hy2⟩ := hpp _ (List.getElem_mem hk)
      refine litem (vs := pc) (isl N5 (.tail _ (List.mem_append_left _ hpc))) f0 (by omega) (List.getElem?_eq_getElem hk) ?_
      rw [ep]
      repeat' walk1
      unfold AtStop
      refine lextend F5 N5 hne (List.mem_append_left _ hp) hy0 (by omega) (fun h6 F6 N6 => ?_)
      repeat' walk1
      refine TurnEnd.intro (nx := (l0, listOf (List.toArray (zs ++ ys)) (c + 1)) :: rest) F6 N6 (fun q hq => ?_) (fun q hq => .tail _ (List.mem_append_right _ hq)) (fun q hq => ?_) ⟨j1, j2, j3, j4, zs ++ ys, ms ++ ms2, c + 1, rfl, hz.append hy, ?_, by rw [List.length_append]; omega⟩
      · exact (List.mem_cons.mp hq).elim (fun e => e ▸ .head _) fun e => .tail _ (List.mem_append_left _ e)
      · rcases List.mem_cons.mp hq with rfl | hq
        · exact hnx (l0, listOf (List.toArray zs) c) (.head _)
        · exact hnx _ (.tail _ hq)
      · intro m hm
        exact (List.mem_append.mp hm).elim (hzb m) (hyb m)
    · rename Fr _ _ _ _ => F6
      rename News _ _ _ _ => N6
      rw [List.push_toArray] at N6
      obtain ⟨t9, N9⟩ : ∃ t9, News s.heap _ _ ((l0, listOf (List.toArray (zs ++ [Value.int ((x.fdiv 9).fmod 262144) t9])) (c + 1)) :: (rest ++ own)) := ⟨_, N6⟩
      refine TurnEnd.intro (nx := (l0, listOf (List.toArray (zs ++ [Value.int ((x.fdiv 9).fmod 262144) t9])) (c + 1)) :: rest) F6 N9 (fun q hq => ?_) (fun q hq => .tail _ (List.mem_append_right _ hq)) (fun q hq => ?_) ⟨j1, j2, j3, j4, zs ++ [Value.int ((x.fdiv 9).fmod 262144) t9], ms ++ [(x.fdiv 9).fmod 262144], c + 1, rfl, hz.append (.cons _ _ .nil), ?_, by rw [List.length_append]; simp; omega⟩
      · exact (List.mem_cons.mp hq).elim (fun e => e ▸ .head _) fun e => .tail _ (List.mem_append_left _ e)
      · rcases List.mem_cons.mp hq with rfl | hq
        · exact hnx (l0, listOf (List.toArray zs) c) (.head _)
        · exact hnx _ (.tail _ hq)
      · intro m hm
        rcases List.mem_append.mp hm with hm | hm
        · exact hzb m hm
        · rw [List.mem_singleton.mp hm]
          exact ⟨Int.fmod_nonneg_of_pos _ (by omega), Int.fmod_lt_of_pos _ (by omega)⟩
  · rintro m₁ nx h tk ⟨j1, j2, j3, j4, zs, ms, c, rfl, hz, hzb, hzl⟩ F₁ N₁
    have hzl : zs.length ≤ 24 := by simp at hzl; omega
    repeat' walk1
    unfold AtStop
    rename Fr _ _ _ _ => F7
    rename News _ _ _ _ => N7
    have hm0 : 0 ≤ ((ns.length : Nat) : Int).fmod 3 := Int.fmod_nonneg_of_pos _ (by omega)
    have hm1 : ((ns.length : Nat) : Int).fmod 3 < 3 := Int.fmod_lt_of_pos _ (by omega)
    refine lslice F7 N7 (isl N7 (.tail _ hfx)) .none (.int _ _) (pick_upto _ (by omega)) (fun D2 h4 F4 N4 l4 => ?_) (by have := hfi.length; rw [sizeLine_eq]; omega)
    have hfl' := hfi.length
    refine add_lists F4 N4 (isl N4 (.tail _ (.head _))) (isl N4 (.head _)) (fun h5 F5 N5 => ?_) (by rw [sizeLine_eq]; simp; omega)
    repeat' walk1
    rename Fr _ _ _ _ => F8
    rename News _ _ _ _ => N8
    have hzn := hz.length
    refine k _ _ _ _ _ _ F8.keep (NewIn.of fun q hq => N8 q (by rw [List.mem_singleton.mp hq]; exact .head _)) lobj (hz.append (hfi.take _)) (fun m hm => ?_) (by
      rw [List.length_append]
      exact Nat.le_trans (Nat.add_le_add (hzn ▸ hzl) (Nat.le_trans (List.length_take_le' _ _) hfl)) (Nat.le_refl _))
    exact (List.mem_append.mp hm).elim (hzb m) fun hm => hfb m (List.mem_of_mem_take hm)
end PartNumbers
section PartParse
set_option maxHeartbeats 1000000
theorem off_parse : True := by (w_top off); trivial
theorem bne_eq {x y : Str} (h : (x != y) = true) : (x == y) = false := by
  unfold bne at h
  cases e : x == y <;> simp_all
theorem bne_eq2 {x y : Str} (h : (x != y) = false) : (x == y) = true := by
  unfold bne at h
  cases e : x == y <;> simp_all
/-- the name in a reply -/
noncomputable def dirT : List Nat → List Nat
  | [] => []
  | [c] => if c = 34 then [] else [c]
  | c :: d :: r => if c = 34 then (if d = 34 then 34 :: dirT r else []) else c :: dirT (d :: r)
theorem item_at {cs : List Nat} {i : Int} {c : Nat} (h0 : 0 ≤ i) (h1 : cs[i.toNat]? = some c) : Txt.item (St cs) i = St [c] :=
  item_meets h0 (by simpa [St] using h1)
theorem slice_to (cs : List Nat) {j : Int} (h : 0 ≤ j ∧ j ≤ cs.length) : Txt.slice (St cs) none (some j) = St (cs.take j.toNat) := by
  have e := StrLaws.sliceText_to (x := St cs) (j := j) (by simpa [St] using h)
  have e2 : Txt.slice (St cs) none (some j) = StrLaws.sliceText (St cs) none (some j) := rfl
  rw [e2, e]; simp [St]
theorem slice_mid (cs : List Nat) {i j : Int} (h : 0 ≤ i ∧ i ≤ j ∧ j ≤ cs.length) : Txt.slice (St cs) (some i) (some j) = St ((cs.drop i.toNat).take (j - i).toNat) := by
  have e := StrLaws.sliceText_plain (x := St cs) (i := i) (j := j) (by simpa [St] using h)
  have e2 : Txt.slice (St cs) (some i) (some j) = StrLaws.sliceText (St cs) (some i) (some j) := rfl
  rw [e2, e]; simp [St]
inductive ParJ (cs : List Nat) (t : Tok) (c : Nat) (m : Str → Option Value) (nx : List (Addr × Obj)) : Prop
  | mk (j : Nat) (acc : List Nat) (ti : Tok) (td : Tok) (tn : Tok) (y1 : m (Str.ofString "resp") = some (.str (St ([50, 53, 55, 32, 34] ++ cs)) t)) (y2 : m (Str.ofString "n") = some (.int (5 + cs.length : Nat) tn)) (y3 : m (Str.ofString "i") = some (.int (5 + j : Nat) ti)) (y4 : m (Str.ofString "dirname") = some (.str (St acc) td)) (y5 : nx = []) (y6 : j ≤ cs.length) (y7 : acc.length ≤ j) (y8 : dirT cs = acc ++ dirT (cs.drop j)) (y9 : c = cs.length - j) : ParJ cs t c m nx
theorem parse257_spec {w : World} {A : Around} {s : Shared} {p : Program} {loose : List Str} {mean : ExcName → Option Value} {mg mb : Str → Option Value} {Q E : Value → Shared → Prop}
    (X : (hd.heap_39 w.params).In s.heap) (T : Top p loose mean mg mb s.heap) (hA : A.depth < 900) (hh : A.handled = none)
    {cs : List Nat} {t : Tok} (hn : cs.length ≤ 10000)
    (k : ∀ h' tk tv, s.heap.StaysIn h' → Q (.str (St (dirT cs)) tv) { s with heap := h', toks := tk }) :
    wpAny (model pr w) A (call (.ref 102) [.str (St ([50, 53, 55, 32, 34] ++ cs)) t]) Q E s := by
  refine wpAny_call ?_
  with_unfolding_all refine' enter [(Str.ofString "resp", .str (St ([50, 53, 55, 32, 34] ++ cs)) t)] X T ?k6 ?k7 ?k8 ?k9 ?kB ?_ ?c2 ?c3 ?c4 ?c5
  walk_at "my enter"
  intro L h₁ F N
  dsimp only
  repeat' walk1
  rename Fr _ _ _ _ => F1
  rename News _ _ _ _ => N1
  refine slice_strN_ns F1 N1 (fun h2 t2 k2 F2 N2 => ?_) (hsz := by rw [St_len, sizeLine_eq]; simp; omega)
  rw [slice_to _ (by simp; omega), show List.take (Int.toNat 3) ([50, 53, 55, 32, 34] ++ cs) = [50, 53, 55] from rfl]
  clear F1 N1
  repeat' walk1
  rename Fr _ _ _ _ => F1
  rename News _ _ _ _ => N1
  refine slice_strN_ss F1 N1 (fun h3 t3 k3 F3 N3 => ?_) (hsz := by rw [St_len, sizeLine_eq]; simp; omega)
  rw [slice_mid _ (by simp; omega), show List.take (Int.toNat (5 - 3)) (List.drop (Int.toNat 3) ([50, 53, 55, 32, 34] ++ cs)) = [32, 34] from rfl]
  clear F1 N1
  repeat' walk1
  refine len_str (by rw [St_len]; simp; omega) ?_
  rw [St_len]
  repeat' walk1
  rename Fr _ _ _ _ => F4
  rename News _ _ _ _ => N4
  refine While_inv2 (ParJ cs t) F4 N4
    ⟨0, [], _, _, _, rfl, int_some (by simp; omega), rfl, rfl, rfl, Nat.zero_le _, Nat.le_refl _, by simp, rfl⟩ ?_
  rintro c m nx h5 tk5 F5 N5 ⟨j, acc, ti, td, tn, e1, e2, e3, e4, rfl, e6, e7, e8, rfl⟩
  repeat' walk1
  · have hj : j < cs.length := by have h := ‹((5 + j : Nat) : Int) < _›; omega
    have hg : ([50, 53, 55, 32, 34] ++ cs)[(((5 + j : Nat) : Int)).toNat]? = some cs[j] := by
      rw [show (((5 + j : Nat) : Int)).toNat = 5 + j from rfl]
      simp [Nat.add_comm 5 j, hj]
    refine item_str (fitsSsize_of (N := 9223372036854775808) (by omega) (by omega) (Int.le_refl _)) (by rw [St_len]; omega) (by rw [St_len]; simp; omega) (fun _ => ?_)
    rw [item_at (by omega) hg]
    have hst : ∀ {x : Nat} {y : Str}, y = St [34] → (St [x] == y) = decide (x = 34) := fun {x y} e => by
      rw [e]
      by_cases h : x = 34
      · subst h; simp
      · rw [decide_eq_false h]
        exact beq_eq_false_iff_ne.mpr fun e => h (by simpa [St] using e)
    have hdrop : cs.drop j = cs[j] :: cs.drop (j + 1) := List.drop_eq_getElem_cons hj
    repeat' walk1
    · have hq := of_decide_eq_true ((hst rfl).symm.trans ‹(St [cs[j]] == _) = true›)
      have hge : cs.length ≤ j + 1 := by have h := ‹_ ≤ ((5 + j : Nat) : Int) + 1›; omega
      have e9 : dirT cs = acc := by rw [e8, hdrop, hq, List.drop_of_length_le hge]; simp [dirT]
      dsimp only [WhileStep2]
      repeat' walk1
      rw [e9] at k
      exact k _ _ _ (Fr.keep (by assumption))
    · have hq := of_decide_eq_true ((hst rfl).symm.trans ‹(St [cs[j]] == _) = true›)
      have hj2 : j + 1 < cs.length := by have h := ‹¬ _ ≤ ((5 + j : Nat) : Int) + 1›; omega
      have hg2 : ([50, 53, 55, 32, 34] ++ cs)[(((5 + j : Nat) : Int) + 1).toNat]? = some cs[j + 1] := by
        rw [show (((5 + j : Nat) : Int) + 1).toNat = 5 + (j + 1) by omega]
        simp [Nat.add_comm 5 (j + 1), hj2]
      have hdrop2 : cs.drop (j + 1) = cs[j + 1] :: cs.drop (j + 2) := List.drop_eq_getElem_cons hj2
      refine item_str (fitsSsize_of (N := 9223372036854775808) (by omega) (by omega) (Int.le_refl _)) (by rw [St_len]; omega) (by rw [St_len]; simp; omega) (fun _ => ?_)
      rw [item_at (by omega) hg2]
      repeat' walk1
      · have hq2 : cs[j + 1] ≠ 34 := fun e => by
          have h := (hst rfl).symm.trans (bne_eq ‹(St [cs[j + 1]] != _) = true›)
          simp [e] at h
        have e9 : dirT cs = acc := by rw [e8, hdrop, hq, hdrop2]; simp [dirT, hq2]
        dsimp only [WhileStep2]
        repeat' walk1
        rw [e9] at k
        exact k _ _ _ (Fr.keep (by assumption))
      · have hq2 : cs[j + 1] = 34 := by
          have h := (hst rfl).symm.trans (bne_eq2 ‹(St [cs[j + 1]] != _) = false›)
          simpa using h
        refine addS (by simp; omega) (fun t9 k9 => ?_)
        repeat' walk1
        rename Fr _ _ _ _ => F9
        rename News _ _ _ _ => N9
        have e9 : dirT cs = (acc ++ [cs[j]]) ++ dirT (cs.drop (j + 2)) := by
          rw [e8, hdrop, hdrop2, hq, hq2, List.append_assoc]
          simp [dirT]
        exact ⟨_, _, _, _, cs.length - (j + 2), rfl, F9, N9, step_lt (Nat.lt_add_of_pos_right Nat.zero_lt_two) hj2, j + 2, acc ++ [cs[j]], _, _, _, e1, e2, int_some rfl, rfl, rfl, hj2, by rw [List.length_append]; exact Nat.le_succ_of_le (Nat.succ_le_succ e7), e9, rfl⟩
    · have hq := of_decide_eq_false ((hst rfl).symm.trans ‹(St [cs[j]] == _) = false›)
      refine addS (by simp; omega) (fun t9 k9 => ?_)
      repeat' walk1
      rename Fr _ _ _ _ => F9
      rename News _ _ _ _ => N9
      have e9 : dirT cs = (acc ++ [cs[j]]) ++ dirT (cs.drop (j + 1)) := by
        rw [e8, hdrop, List.append_assoc]
        congr 1
        cases cs.drop (j + 1) <;> simp [dirT, hq]
      exact ⟨_, _, _, _, cs.length - (j + 1), rfl, F9, N9, Nat.sub_succ_lt_self _ _ hj, j + 1, acc ++ [cs[j]], _, _, _, e1, e2, int_some rfl, rfl, rfl, hj, by rw [List.length_append]; exact Nat.succ_le_succ e7, e9, rfl⟩
  · have hge : cs.length ≤ j := by have h := ‹¬ ((5 + j : Nat) : Int) < _›; omega
    have e9 : dirT cs = acc := by rw [e8, List.drop_of_length_le hge]; simp [dirT]
    rw [e9] at k
    exact k _ _ _ (Fr.keep (by assumption))
end PartParse
section PartVarint
set_option maxHeartbeats 1000000
theorem off_varint : True := by (w_top off); trivial
/-- one number off the signs -/
noncomputable def vi : Int → List Nat → Option (Int × List Nat)
  | _, [] => none
  | v, b :: r => if 64 ≤ b then vi (64 * v + (b % 64 : Nat)) r else some (64 * v + (b % 64 : Nat), r)
theorem and63 (b : Nat) : Builtin.bitAnd (b : Int) 63 = ((b % 64 : Nat) : Int) := by rw [bitAnd_m6]; omega
theorem and64 {b : Nat} (h : b < 128) : Builtin.bitAnd (b : Int) 64 = if 64 ≤ b then 64 else 0 := by
  have key : ∀ b : Fin 128, Builtin.bitAnd ((b.val : Nat) : Int) 64 = if 64 ≤ b.val then 64 else 0 := by decide +kernel
  exact key ⟨b, h⟩
theorem or_low {v d : Int} (h0 : 0 ≤ v) (h1 : 0 ≤ d) (h2 : d < 64) : Builtin.bitOr (v * 64) d = 64 * v + d := by
  have e : Builtin.bitAnd (v * 64) d = 0 := by
    have e1 : Builtin.bitAnd d 63 = d := by rw [bitAnd_m6]; omega
    rw [bitAnd_pp (by omega) h1]
    have e2 : (v * 64).toNat &&& d.toNat = 0 := by
      have e3 : d.toNat < 2 ^ 6 := by omega
      have e4 : (v * 64).toNat = v.toNat * 2 ^ 6 := by omega
      rw [e4]
      apply Nat.eq_of_testBit_eq
      intro i
      rw [Nat.testBit_and, Nat.zero_testBit]
      by_cases hi : i < 6
      · rw [Nat.testBit_mul_two_pow]; simp [Nat.not_le.mpr hi]
      · rw [Nat.testBit_lt_two_pow (x := d.toNat) (i := i) (Nat.lt_of_lt_of_le e3 (Nat.pow_le_pow_right (by decide) (by omega)))]
        simp
    rw [e2]; rfl
  rw [bitOr_and, e]; omega

section
variable {prog : Program} {w : World} {A : Around} {E : Value → Shared → Prop} {s : Shared} {h₀ : Heap} {L : Addr} {m : Str → Option Value} {fl : List (Addr × Obj)} {Q : Value → Shared → Prop}
noncomputable abbrev lEnd (i : Nat) : Obj := { cls := .type "list_iterator", data := .fields #[.none, .int (i : Nat) 0] }
theorem stop_made {α : Type} {prog : Program} {w : World} {A2 : Around} {s2 : Shared} {Q2 : α → Shared → Prop} {E2 : Value → Shared → Prop} (hh2 : A2.handled = none)
    (hE : ∀ h' e, Heap.MadeExc s2.heap h' e "StopIteration" [] → E2 (.ref e) { s2 with heap := h' }) :
    wpAny (model prog w) A2 (Builtin.SmallTypes.stopIteration : Sem α) Q2 E2 s2 := by
  show wpAny _ _ (newExc (.type "StopIteration") [] >>= _) _ _ _
  refine wpAny_bind ?_
  simp only [newExc, newTuple]
  refine wpAny_bind (wpAny_newObj_type ?_ (by size_fits))
  refine wpAny_bind (m := firstArgMember _ _) (wpAny_of_eq (a := Value.none) (by first | rfl | (simp only [firstArgMember]; rfl)) ?_)
  refine wpAny_newObj_type ?_ (by size_fits)
  simp only [raiseNew]
  refine wpAny_bind (wpAny_handled ?_)
  rw [hh2]
  refine wpAny_bind (wpAny_pure (wpAny_throw (hE _ _ ⟨fun b o e => Heap.get?_push_of_some _ (Heap.get?_push_of_some _ e), ?_, ?_⟩)))
  · exact Heap.get?_none_of_le (by simp)
  · refine ⟨s2.heap.objs.size, Heap.get?_push_size _ rfl, Heap.get?_none_of_le (Nat.le_refl _), Heap.get?_push_of_some _ (Heap.get?_push_size _ rfl)⟩
theorem next_lst {I l : Addr} {i : Nat} {items : Array Value} (hh : A.handled = none) (F : Fr h₀ L s.heap m) (N : News h₀ L s.heap ((I, lIter l i) :: fl)) (hne : ∀ p ∈ fl, p.1 ≠ I) (hl : h₀.IsList l items)
    (k1 : ∀ h' x, items[i]? = some x → Fr h₀ L h' m → News h₀ L h' ((I, lIter l (i + 1)) :: fl) → Q x { s with heap := h' })
    (k2 : ∀ h1 h' e, items[i]? = none → Fr h₀ L h1 m → News h₀ L h1 ((I, lEnd i) :: fl) → Heap.MadeExc h1 h' e "StopIteration" [] → E (.ref e) { s with heap := h' }) :
    wpAny (model prog w) A (call (.builtin "next") [.ref I]) Q E s := by
  have hm := N (I, lIter l i) (.head _)
  have hit : s.heap.IsListIter I l i := ⟨_, hm.1, rfl, rfl⟩
  obtain ⟨ol, hol, _, nl, hdl⟩ := hl.at (F.keep _)
  refine call_function_entry (by decide +kernel) (by decide +kernel) kdk_entry_next (kdk_args_next _) ?_
  unfold Builtin.«next»
  refine wpAny_bind (m := someArgs "next" 1 2 _) (wpAny_of_eq (a := [Value.ref I]) (by first | rfl | kernel_rfl!) ?_)
  dsimp only
  refine wpAny_bind (wpAny_specialOf (name := Str.ofString "__next__") hit.typeIs slot_listiter_next.lookup ?_)
  refine wpAny_ite_split (fun hab => absurd hab (by decide)) (fun _ => ?_)
  refine wpAny_bind (wpAny_callSpecial?_slot (name := Str.ofString "__next__") hit.typeIs slot_listiter_next
    (wpAny_call_entry slot_listiter_next hit.typeIs entry_listiter_next ?_ (args_listiter_next _)))
  show wpAny _ _ (field (.ref I) 0 >>= _) _ _ s
  refine wpAny_bind (wpAny_field hm.1 rfl (x := .ref l) rfl ?_)
  show wpAny _ _ (if (Value.ref l == Value.none) = true then _ else _) _ _ s
  rw [if_neg (show ¬ ((Value.ref l == Value.none) = true) from Bool.false_ne_true)]
  show wpAny _ _ (field (.ref I) 1 >>= _) _ _ s
  refine wpAny_bind (wpAny_field hm.1 rfl (x := .int i 0) rfl ?_)
  show wpAny _ _ (seqItems? (.ref l) >>= _) _ _ s
  refine wpAny_bind (wpAny_seqItems hol hdl ?_)
  have F' : ∀ f : Obj → Obj, Fr h₀ L (s.heap.update I f) m := fun f => F.change (Heap.SameBut.update ..) hm.2.1 hm.2.2
  have N' : ∀ f o', (s.heap.update I f).get? I = some o' → News h₀ L (s.heap.update I f) ((I, o') :: fl) := fun f o' ho' p hp => by
    rcases List.mem_cons.mp hp with rfl | hp
    · exact ⟨ho', hm.2⟩
    · exact ⟨(Heap.SameBut.update ..).extBut _ _ (hne p hp) (N p (.tail _ hp)).1, (N p (.tail _ hp)).2⟩
  cases hx : items[i]? with
  | some x =>
    simp only [Int.toNat_natCast, hx]
    refine wpAny_bind (wpAny_setField hm.1 rfl (by simp) (wpAny_pure ⟨x, rfl, wpAny_pure ⟨_, rfl, k1 _ _ hx (F' _) (N' _ _ ?_)⟩⟩))
    rw [Heap.get?_update_self _ hm.1 rfl]; simp [Obj.mapFields, rawInt]
  | none =>
    simp only [Int.toNat_natCast, hx]
    refine wpAny_bind (wpAny_rule (wpAny_bind (wpAny_setField hm.1 rfl (by simp) ?_)))
    refine stop_made hh fun h' e M => k2 _ _ _ hx (F' _) (N' _ _ ?_) M
    rw [Heap.get?_update_self _ hm.1 rfl]; simp [Obj.mapFields]
end
end PartVarint
section PartVSpec
set_option maxHeartbeats 1000000
theorem off_vspec : True := by (w_top off); trivial
section
variable {prog : Program} {w : World} {A : Around} {s : Shared} {K : Frag} {p : Program} {loose : List Str} {mean : ExcName → Option Value} {mg mb : Str → Option Value} {h₀ : Heap}
    {R : Result → Shared → Prop} {name qual : Str} {params : Arguments} {body : List Stmt} {scope : Scope} {dV kV doc pm cdv ct oc : Value} {an od : Option Addr} {osl : Array (Option Value)} {f : Addr} {args : Args}
/-- as enterH, of a function that may raise -/
theorem enterR (led : List (Addr × Obj)) (binds : List (Str × Value))
    (X : K.In h₀) (T : Top p loose mean mg mb h₀) (st : h₀.StaysIn s.heap) (hled : ∀ p ∈ led, s.heap.get? p.1 = some p.2 ∧ h₀.get? p.1 = none)
    (ho : K.lookup f = some ⟨oc, od, .func (fnOf name qual params body scope dV kV doc pm an cdv ct), osl⟩) (hcd : codeIn K cdv qual = true) (hroom : A.depth < recursionLimit)
    (hbind : BindsTo s (fnOf name qual params body scope dV kV doc pm an cdv ct) args binds) (hloc : ∀ y ∈ binds, scope.names.lookup y.1 = some .local)
    (h : ∀ L h₁, Fr (hideAll s.heap (led.map (·.1))) L h₁ (fun y => binds.reverse.lookup y) → News (hideAll s.heap (led.map (·.1))) L h₁ led → K.In (hideAll s.heap (led.map (·.1))) → Top p loose mean mg mb (hideAll s.heap (led.map (·.1))) →
      wpAny (model prog w) (A.deeper (envOf qual scope L f cdv)) (execs body (envOf qual scope L f cdv))
        (fun fl s' => R (.ok (.ret (match fl with | .ret v => v | _ => .none))) s')
        (fun e s' => wpAny (model prog w) (A.deeper (envOf qual scope L f cdv)) (leaving (envOf qual scope L f cdv) e) (fun _ s'' => R (.error e) s'') (fun e' s'' => R (.error e') s'') s')
        { s with heap := h₁, toks := s.toks + binds.length })
    (hco : scope.isCoroutine = false) (hgen : scope.isGenerator = false) (hk : scope.kind = .function)
    (hcell : ∀ x ∈ scope.names, x.2 ≠ .cell) : codeAny (model prog w) A (.call (.ref f) args) R s := by
  have st' := hide_stays st fun p hp => (hled p hp).2
  refine codeAny_call_def (fd := fnOf name qual params body scope dV kV doc pm an cdv ct) (body := body) (binds := binds) hroom ((X.keeps st) _ _ ho) rfl (T.nolimit.keeps st) (codeRec_of (X.keeps st) hcd) rfl hbind hcell hloc (fun h₁ hns hk₁ => ?_) hco hgen hk
  exact h s.heap.objs.size h₁ ⟨hns, fun b o e => hk₁ b o (of_hideAll _ e), Nat.le_of_eq (hideAll_size _ _)⟩
    (fun p hp => ⟨hk₁ _ _ (hled p hp).1, Nat.ne_of_lt (Heap.lt_size (hled p hp).1), hideAll_none _ (List.mem_map_of_mem hp)⟩) (X.keeps st') (T.keeps st')
end

local macro_rules | `(tactic| walk_at "same 4") => `(tactic| with_unfolding_all refine atStop ?_)
local macro_rules | `(tactic| walk_at "call builtin:next") => `(tactic| walk_at "same 4")
local macro_rules | `(tactic| walk_at "inplaceOp LShift int int") => `(tactic| walk_at "same 4")
inductive VarJ (I : Addr) (l : Addr) (fl : List (Addr × Obj)) (cs : List Nat) (i : Nat) (c : Nat) (m : Str → Option Value) (nx : List (Addr × Obj)) : Prop
  | mk (j : Nat) (b : Nat) (v : Int) (tb : Tok) (tv : Tok) (y1 : m (Str.ofString "iterator") = some (.ref I)) (y2 : m (Str.ofString "b") = some (.int (b : Nat) tb)) (y3 : m (Str.ofString "val") = some (.int v tv)) (y4 : nx = (I, lIter l j) :: fl) (y5 : i < j) (y6 : j ≤ cs.length) (y7 : b < 128) (y8 : 0 ≤ v) (y9 : v.natAbs < 2 ^ (6 * j)) (y10 : c = cs.length - j) (y11 : vi 0 (cs.drop i) = if 64 ≤ b then vi v (cs.drop j) else some (v, cs.drop j)) : VarJ I l fl cs i c m nx
theorem varint_spec {w : World} {A : Around} {s : Shared} {p : Program} {loose : List Str} {mean : ExcName → Option Value} {mg mb : Str → Option Value} {Q E : Value → Shared → Prop} {h₀ : Heap} {outer : List Env}
    (X : (hd.heap_39 w.params).In h₀) (T : Top p loose mean mg mb h₀) (st : h₀.StaysIn s.heap) (hA : A.depth < 900) (hh : A.handled = none) (hfr : A.frames = some outer)
    {I l : Addr} {i : Nat} {vs : List Value} {cs : List Nat} {fl : List (Addr × Obj)}
    (hfun : s.heap.FunFrames (hideAll s.heap (((I, lIter l i) :: fl).map (·.1))) outer)
    (hled : ∀ p ∈ (I, lIter l i) :: fl, s.heap.get? p.1 = some p.2 ∧ h₀.get? p.1 = none) (hne : ∀ p ∈ fl, p.1 ≠ I) (hnf : ∀ p ∈ fl, ∀ vs, p.2.data ≠ .fields vs)
    (hl : s.heap.IsList l vs.toArray) (hli : l ∉ ((I, lIter l i) :: fl).map (·.1)) (hi : IntsAre vs (cs.map Int.ofNat)) (hcs : ∀ c ∈ cs, c < 128) (hn : cs.length ≤ 200)
    (k1 : ∀ h' tk t v j, i < j → j ≤ cs.length → vi 0 (cs.drop i) = some (v, cs.drop j) → ButLed [(I, lIter l i)] s.heap h' → h'.get? I = some (lIter l j) → Q (.int v t) { s with heap := h', toks := tk })
    (k2 : ∀ h' tk e a0, vi 0 (cs.drop i) = none → Heap.FlyingW (hideAll s.heap (((I, lIter l i) :: fl).map (·.1))) outer e (.type "StopIteration") a0 h' → (∀ p ∈ fl, ∃ sl, h'.get? p.1 = some { p.2 with slots := sl }) → E (.ref e) { s with heap := h', toks := tk }) :
    wpAny (model pr w) A (call (.ref 70) [.ref I]) Q E s := by
  refine wpAny_call ?_
  with_unfolding_all refine' enterR ((I, lIter l i) :: fl) [(Str.ofString "iterator", .ref I)] X T st hled ?k6 ?k7 ?k8 ?k9 ?kB ?_ ?c2 ?c3 ?c4 ?c5
  walk_at "my enter"
  intro L h₁ F N X' T'
  generalize hg : hideAll s.heap (((I, lIter l i) :: fl).map (·.1)) = g at *
  dsimp only
  have hlg : g.IsList l vs.toArray := hl.at fun o e => hg ▸ hideAll_get _ e hli
  have hlen := hi.length
  rw [List.length_map] at hlen
  have leave : ∀ {qual : Str} {scope : Scope} {f : Addr} {cdv : Value} {h1 h' : Heap} {m : Str → Option Value} {j : Nat} {e : Addr} {tk : Nat}, scope.kind = .function → vi 0 (cs.drop i) = none → Fr g L h1 m → News g L h1 ((I, lEnd j) :: fl) → Heap.MadeExc h1 h' e "StopIteration" [] →
      wpAny (model pr w) (A.deeper (envOf qual scope L f cdv)) (leaving (envOf qual scope L f cdv) (.ref e)) (fun _ s'' => E (.ref e) s'') (fun e' s'' => E e' s'') { s with heap := h', toks := tk } := by
    intro qual scope f cdv h1 h' m j e tk hk ev F N M
    refine wpAny_leaves_madeW (base := g) (outer := outer) (L := L) (Around.frames_deeper hfr) rfl F.keep ?_ (Heap.MadeExc.of M) (fun h2 t FW _ _ up => k2 _ _ _ _ ev FW fun p hp => ?_)
    · refine .cons (by show scope.kind ≠ .module; rw [hk]; decide) rfl F.ns (Heap.get?_none_of_le F.above) (hfun.of_keeps fun b o hb hd => ⟨o, ?_, rfl⟩)
      by_cases hm : b ∈ ((I, lIter l i) :: fl).map (·.1)
      · obtain ⟨q, hq, rfl⟩ := List.mem_map.mp hm
        rcases List.mem_cons.mp hq with rfl | hq'
        · rw [(hled _ hq).1] at hb; injection hb with hb; subst hb
          exact absurd rfl (hd _)
        · rw [(hled _ hq).1] at hb; injection hb with hb; subst hb
          exact (N q (.tail _ hq')).1
      · exact F.keep _ _ (hg ▸ hideAll_get _ hb hm)
    · exact up _ _ (M.keeps _ _ (N p (.tail _ hp)).1) (hnf p hp)
  repeat' walk1
  unfold AtStop
  refine next_lst (by exact hh) F N hne hlg (fun h2 x hx F2 N2 => ?_) (fun h1 h' e hx F2 N2 M => ?_)
  · have hil : i < cs.length := by
      have := (Array.getElem?_eq_some_iff.mp hx).1
      simpa [hlen] using this
    obtain ⟨b, u, rfl, eb⟩ := IntsAre.at hi i x (by simpa using hx)
    obtain rfl : (cs[i] : Int) = b := by
      rw [List.getElem?_map, List.getElem?_eq_getElem hil] at eb
      exact Option.some.inj eb
    repeat' walk1
    rename Fr _ _ _ _ => F3
    rename News _ _ _ _ => N3
    unfold AtWhile
    refine While_inv2 (VarJ I l fl cs i) F3 N3
      ⟨i + 1, cs[i], ((cs[i] % 64 : Nat) : Int), _, _, rfl, rfl, int_some (and63 _), rfl, Nat.lt_succ_self _, hil, hcs _ (List.getElem_mem hil), by omega, ?_, rfl, ?_⟩ ?_
    · have : 2 ^ 6 ≤ 2 ^ (6 * (i + 1)) := Nat.pow_le_pow_right (by decide) (by omega)
      omega
    · rw [List.drop_eq_getElem_cons hil, vi]
      simp
    · rintro c m nx h5 tk5 F5 N5 ⟨j, b, v, tb, tv, e1, e2, e3, rfl, e5, e6, e7, e8, e9, rfl, e10⟩
      clear F3 N3
      repeat' walk1
      · have hb : 64 ≤ b := by
          have h := ‹Builtin.bitAnd (b : Int) 64 ≠ 0›
          rw [and64 e7] at h
          split at h
          · assumption
          · exact absurd rfl h
        rw [if_pos hb] at e10
        unfold AtStop
        have hbits : Builtin.Int.intBits v ≤ 6 * j := intBits_le_iff.mpr e9
        refine ilshift_int (by decide) (by omega) ?_
        repeat' walk1
        unfold AtStop
        rename Fr _ _ _ _ => F6
        rename News _ _ _ _ => N6
        refine next_lst (by exact hh) F6 N6 hne hlg (fun h7 x hx7 F7 N7 => ?_) (fun h7 h' e hx7 F7 N7 M => ?_)
        · have hjl : j < cs.length := by
            have := (Array.getElem?_eq_some_iff.mp hx7).1
            simpa [hlen] using this
          obtain ⟨b2, u2, rfl, eb2⟩ := IntsAre.at hi j x (by simpa using hx7)
          obtain rfl : (cs[j] : Int) = b2 := by
            rw [List.getElem?_map, List.getElem?_eq_getElem hjl] at eb2
            exact Option.some.inj eb2
          have hc := hcs _ (List.getElem_mem hjl)
          repeat' walk1
          rename Fr _ _ _ _ => F8
          rename News _ _ _ _ => N8
          refine ⟨_, _, _, _, cs.length - (j + 1), rfl, F8, N8, by omega, j + 1, cs[j], 64 * v + ((cs[j] % 64 : Nat) : Int), _, _, e1, rfl, int_some ?_, rfl, by omega, hjl, hc, by omega, ?_, rfl, ?_⟩
          · rw [and63]
            exact or_low e8 (by omega) (by omega)
          · have e11 : 2 ^ (6 * (j + 1)) = 2 ^ (6 * j) * 64 := by rw [Nat.mul_add, Nat.pow_add]
            omega
          · rw [e10, List.drop_eq_getElem_cons hjl, vi]
        · refine leave rfl ?_ F7 N7 M
          have : vs.length ≤ j := by simpa using hx7
          rw [e10, List.drop_of_length_le (by omega)]; rfl
      · have hb : ¬ 64 ≤ b := fun hb => by
          have h := ‹Builtin.bitAnd (b : Int) 64 = 0›
          rw [and64 e7, if_pos hb] at h
          exact absurd h (by decide)
        rw [if_neg hb] at e10
        rename Fr _ _ _ _ => F8
        rename News _ _ _ _ => N8
        refine k1 _ _ _ _ j e5 e6 e10 (fun q o hq ho => ?_) (N8 _ (.head _)).1
        by_cases hm : q ∈ ((I, lIter l i) :: fl).map (·.1)
        · obtain ⟨z, hz, rfl⟩ := List.mem_map.mp hm
          rcases List.mem_cons.mp hz with rfl | hz'
          · exact absurd (by simp) hq
          · rw [(hled _ hz).1] at ho; injection ho with ho; subst ho
            exact (N8 z (.tail _ hz')).1
        · exact F8.keep _ _ (hg ▸ hideAll_get _ ho hm)
  · refine leave rfl ?_ F2 N2 M
    have : vs.length ≤ i := by simpa using hx
    rw [List.drop_of_length_le (by omega)]; rfl
end PartVSpec
section PartLRead
set_option maxHeartbeats 1000000
theorem off_lread : True := by (w_top off); trivial
/-- the numbers of the signs -/
noncomputable def rd : Int → List Nat → List Int
  | _, [] => []
  | v, b :: r => if 64 ≤ b then rd (64 * v + (b % 64 : Nat)) r else (64 * v + (b % 64 : Nat)) :: rd 0 r
theorem rd_none : ∀ (v : Int) (cs : List Nat), vi v cs = none → rd v cs = []
  | _, [], _ => rfl
  | v, b :: r, h => by
    rw [vi] at h; rw [rd]
    split at h
    · rw [if_pos (by assumption)]; exact rd_none _ r h
    · cases h
theorem rd_some : ∀ (v : Int) (cs : List Nat) {x : Int} {r : List Nat}, vi v cs = some (x, r) → rd v cs = x :: rd 0 r
  | _, [], _, _, h => by cases h
  | v, b :: r, x, r', h => by
    rw [vi] at h; rw [rd]
    split at h
    · rw [if_pos (by assumption)]; exact rd_some _ r h
    · rw [if_neg (by assumption)]; cases h; rfl
local macro_rules | `(tactic| walk_at "exec Try") => `(tactic| with_unfolding_all refine (show AtTry (wpAny _ _ _ _ _ _) from ?_))
inductive LRJ (I : Addr) (D0 : Addr) (l : Addr) (o : Obj) (fl : List (Addr × Obj)) (cs : List Nat) (c : Nat) (m : Str → Option Value) (nx : List (Addr × Obj)) : Prop
  | mk (i : Nat) (ys2 : List Value) (zs : List Int) (c' : Nat) (y1 : m (Str.ofString "octets") = some (.ref I)) (y2 : m (Str.ofString "numbers") = some (.ref D0)) (y3 : nx = (D0, listOf ys2.toArray c') :: (I, lIter l i) :: (l, o) :: fl) (y4 : IntsAre ys2 zs) (y5 : rd 0 cs = zs ++ rd 0 (cs.drop i)) (y6 : i ≤ cs.length) (y7 : ys2.length ≤ i) (y8 : c = cs.length - i) : LRJ I D0 l o fl cs c m nx
theorem lread_spec {w : World} {A : Around} {s : Shared} {p : Program} {loose : List Str} {mean : ExcName → Option Value} {mg mb : Str → Option Value} {Q E : Value → Shared → Prop} {h₀ : Heap} {outer : List Env}
    (X : (hd.heap_39 w.params).In h₀) (T : Top p loose mean mg mb h₀) (st : h₀.StaysIn s.heap) (hA : A.depth < 880) (hh : A.handled = none) (hfr : A.frames = some outer)
    {cs : List Nat} {t : Tok} {fl : List (Addr × Obj)} (hcs : ∀ c ∈ cs, c < 128) (hn : cs.length ≤ 200)
    (hfun : s.heap.FunFrames (hideAll s.heap (fl.map (·.1))) outer) (hin : ∀ env ∈ outer, ∀ a, env.frame = some a → a ∈ fl.map (·.1))
    (hled : ∀ p ∈ fl, s.heap.get? p.1 = some p.2 ∧ h₀.get? p.1 = none) (hnf : ∀ p ∈ fl, ∀ vs, p.2.data ≠ .fields vs)
    (k : ∀ h' tk D o zs, ButLed fl s.heap h' → (∀ p ∈ fl, ∃ sl, h'.get? p.1 = some { p.2 with slots := sl }) → NewIn s.heap h' [(D, o)] → ListObj zs o → IntsAre zs (rd 0 cs) → Q (.ref D) { s with heap := h', toks := tk }) :
    wpAny (model pr w) A (call (.ref 159) [.str (St cs) t]) Q E s := by
  refine wpAny_call ?_
  with_unfolding_all refine' enterH fl [(Str.ofString "text", .str (St cs) t)] X T st hled ?k6 ?k7 ?k8 ?k9 ?kB ?_ ?c2 ?c3 ?c4 ?c5
  walk_at "my enter"
  intro L h₁ F N X' T'
  generalize hg : hideAll s.heap (fl.map (·.1)) = g at *
  dsimp only
  repeat' walk1
  have X1 := X'.keeps F.keep
  have T1 := T'.keeps F.keep
  refine comp_str (fun i ys nw => nw = [] ∧ ys.length = i ∧ IntsAre ys ((cs.take i).map Int.ofNat)) hh (St_ascii hcs) ⟨rfl, rfl, .nil⟩ ?_ ?_ ?_ ?_ (by decide) rfl rfl
  · show (St cs).cps.size ≤ sizeLine
    rw [sizeLine_eq]; simp [St]; omega
  · exact fun i ys nw h => h.2.1
  · rintro i c u ys nw C D I h tk m₂ own hv ⟨rfl, hy, hs⟩ hm _ _ _ F2 N2
    repeat' walk1
    have hd : cs[i]? = some c := by simpa [St] using hv
    refine EltEnd.intro (nw := []) (by assumption) N2 (List.forall_mem_nil _) (fun _ hp => hp) (List.forall_mem_nil _) ⟨rfl, by simp [hy], ?_⟩
    rw [List.take_add_one, hd, Option.toList_some, List.map_append]
    exact IntsAre.snoc hs c _
  · rintro h' tk' l nw ys o st2 W hlo ⟨rfl, hyl, hs⟩
    have hsz : (St cs).cps.size = cs.length := by simp [St]
    have e : cs.take (St cs).cps.size = cs := by rw [hsz]; exact List.take_length
    rw [e] at hs
    have F3 := F.keeps st2
    have N3 := news_more F N st2 W
    obtain ⟨hc, n, hd⟩ := hlo
    have hlst : h'.IsList l ys.toArray := ⟨o, (W _ (.head _)).1, hc, n, hd⟩
    have hlf : ∀ p ∈ fl, p.1 ≠ l := fun p hp q => by
      have h1 := (W _ (.head _)).2
      have h2 := (N p hp).1
      dsimp only at h1
      rw [q, h1] at h2; cases h2
    clear N F
    repeat' walk1
    refine iter_lst (by exact hlst) F3 N3 (fun I h4 F4 N4 lt4 => ?_)
    clear F3 N3
    repeat' walk1
    rename Fr _ _ _ _ => F5
    rename News _ _ _ _ => N5
    rename _ ∧ AllLt _ _ => lt5
    rename_i D0 _ _
    have hDI : ∀ j, ∀ p ∈ (I, lIter l j) :: (l, o) :: fl, p.1 ≠ D0 := fun j p hp => by
      rcases List.mem_cons.mp hp with rfl | hp
      · exact Nat.ne_of_lt lt5.1
      · exact Nat.ne_of_lt (Nat.lt_trans (lt4 p hp) lt5.1)
    unfold AtTry
    refine wpAny_Try_except ?_
    repeat' walk1
    unfold AtWhile
    refine While_inv2 (LRJ I D0 l o fl cs) F5 N5
      ⟨0, [], [], 0, rfl, rfl, rfl, .nil, rfl, Nat.zero_le _, Nat.le_refl _, rfl⟩ ?_
    rintro c m nx h6 tk6 F6 N6 ⟨i, ys2, zs, c', e1, e2, rfl, e3, e4, e5, e6, rfl⟩
    repeat' walk1
    unfold AtCall
    clear F5 N5
    obtain ⟨oL, es, ep, hoL, hdL, hrL⟩ := F6.ns
    have hgL : g.get? L = none := Heap.get?_none_of_le F6.above
    have hIL : ∀ p ∈ (L, oL) :: fl, p.1 ≠ I := fun p hp => by
      rcases List.mem_cons.mp hp with rfl | hp
      · exact fun q => (N6 (I, lIter l i) (.tail _ (.head _))).2.1 q.symm
      · exact Nat.ne_of_lt (lt4 p (.tail _ hp))
    have hlI : @LT.lt Nat _ l I := lt4 (l, o) (.head _)
    have hfun6 : h6.FunFrames g outer := hfun.of_keeps fun b ob hb hd => ⟨ob, by
      by_cases hm : b ∈ fl.map (·.1)
      · obtain ⟨q, hq, rfl⟩ := List.mem_map.mp hm
        rw [(hled _ hq).1] at hb; injection hb with hb; subst hb
        exact (N6 q (.tail _ (.tail _ (.tail _ hq)))).1
      · exact F6.keep _ _ (hg ▸ hideAll_get _ hb hm), rfl⟩
    refine varint_spec (h₀ := g) (outer := envOf _ _ L 159 _ :: outer) (fl := (L, oL) :: fl) X' T' (by exact F6.keep) (by show A.depth + 1 < 900; omega) (by exact hh) (Around.frames_deeper hfr) (vs := ys) (cs := cs) (i := i) (l := l) ?_ ?_ hIL ?_ ?_ ?_ hs hcs hn ?_ ?_
    · refine funFrames_hide (base := g) (.cons (by show ScopeKind.function ≠ .module; decide) rfl F6.ns hgL hfun6) fun env he a ha => ?_
      rcases List.mem_cons.mp he with rfl | he
      · cases ha; exact .tail _ (.head _)
      · exact .tail _ (.tail _ (hin env he a ha))
    · intro p hp
      rcases List.mem_cons.mp hp with rfl | hp
      · have := N6 (I, lIter l i) (.tail _ (.head _)); exact ⟨this.1, this.2.2⟩
      · rcases List.mem_cons.mp hp with rfl | hp
        · exact ⟨hoL, hgL⟩
        · have := N6 p (.tail _ (.tail _ (.tail _ hp))); exact ⟨this.1, this.2.2⟩
    · intro p hp
      rcases List.mem_cons.mp hp with rfl | hp
      · exact fun vs q => by rw [hdL] at q; cases q
      · exact hnf p hp
    · exact ⟨o, (N6 (l, o) (.tail _ (.tail _ (.head _)))).1, hc, n, hd⟩
    · intro hm
      obtain ⟨q, hq, e⟩ := List.mem_map.mp hm
      rcases List.mem_cons.mp hq with rfl | hq
      · exact Nat.ne_of_lt hlI e.symm
      · rcases List.mem_cons.mp hq with rfl | hq
        · exact (N6 (l, o) (.tail _ (.tail _ (.head _)))).2.1 e.symm
        · exact hlf q hq e
    · intro h7 tk7 t7 v j hij hj hv bl hI7
      have F7 : Fr g L h7 m := but_fr F6 (led := [(I, lIter l i)]) (fun p hp => N6 p (by rw [List.mem_singleton.mp hp]; exact .tail _ (.head _))) bl
      have N7 : News g L h7 ((D0, listOf ys2.toArray c') :: (I, lIter l j) :: (l, o) :: fl) := fun p hp => by
        have other : ∀ q, q ∈ (D0, listOf ys2.toArray c') :: (I, lIter l i) :: (l, o) :: fl → q.1 ≠ I → h7.get? q.1 = some q.2 ∧ q.1 ≠ L ∧ g.get? q.1 = none := fun q hq hn => by
          refine ⟨bl _ _ (fun hm => hn (by simpa using hm)) (N6 q hq).1, (N6 q hq).2⟩
        rcases List.mem_cons.mp hp with rfl | hp
        · exact other _ (.head _) (fun q => hDI 0 (I, lIter l 0) (.head _) q.symm)
        · rcases List.mem_cons.mp hp with rfl | hp
          · exact ⟨hI7, (N6 (I, lIter l i) (.tail _ (.head _))).2⟩
          · exact other p (.tail _ (.tail _ hp)) (Nat.ne_of_lt (lt4 p hp))
      clear F6 N6
      repeat' walk1
      refine lappend F7 N7 (.head (hDI _)) (by omega) (fun h8 F8 N8 => ?_)
      repeat' walk1
      exact ⟨_, _, _, _, cs.length - j, rfl, F8, N8, by omega, j, ys2 ++ [.int v t7], zs ++ [v], c' + 1, e1, e2, rfl, Mine.IntsAre.snoc e3 v t7, by rw [e4, rd_some _ _ hv]; simp, hj, by simp; omega, rfl⟩
    · intro h7 tk7 e a0 hv fw sl
      have e9 : rd 0 cs = zs := by rw [e4, rd_none _ _ hv, List.append_nil]
      refine wpAny_looks_onW (Around.frames_deeper hfr) rfl fw fun h8 hheld sm8 => ?_
      refine wpAny_landsW hheld fun h9 hfl9 sm9 => ?_
      have F9 : Fr g L h9 m := by
        obtain ⟨s1, q1⟩ := sl (L, oL) (.head _)
        obtain ⟨s2, q2⟩ := (sm8.trans sm9) _ _ q1 (fun vs q => by dsimp only at q; rw [hdL] at q; cases q)
        refine ⟨⟨_, es, ep, q2, hdL, hrL⟩, fun b ob eb => hfl9.1 _ _ (hideAll_get _ (F6.keep _ _ eb) fun hm => ?_), F6.above⟩
        obtain ⟨q, hq, rfl⟩ := List.mem_map.mp hm
        rcases List.mem_cons.mp hq with rfl | hq
        · rw [(N6 (I, lIter l i) (.tail _ (.head _))).2.2] at eb; cases eb
        · rcases List.mem_cons.mp hq with rfl | hq
          · rw [hgL] at eb; cases eb
          · rw [(N6 q (.tail _ (.tail _ (.tail _ hq)))).2.2] at eb; cases eb
      obtain ⟨ob, hob, hobc⟩ := hfl9.there
      have hF9 : ∀ h10, g.StaysIn h10 → h9.UpToSlots h10 → Fr g L h10 m := fun _ a b => F9.of_stays a b
      have hF6 : ∀ b ob, g.get? b = some ob → h6.get? b = some ob := F6.keep
      clear F6
      refine wpAny_handleBy_builtin (X := "StopIteration") (T := "StopIteration") (b := true) (by rw [isSubtype_type]; kernel_rfl) (by rw [isSubtype_type]; kernel_rfl) (by rw [isSubtype_type]; kernel_rfl) ?_
      repeat' walk1
      · exact ⟨ob, hob, hobc⟩
      refine lands_againW hfl9 fun h10 hfl10 sm10 => ?_
      have F10 : Fr g L h10 m := by
        refine hF9 _ (fun b ob eb => ?_) sm10
        refine hfl10.1 _ _ (hideAll_get _ (hF6 _ _ eb) fun hm => ?_)
        obtain ⟨q, hq, rfl⟩ := List.mem_map.mp hm
        rcases List.mem_cons.mp hq with rfl | hq
        · rw [(N6 (I, lIter l i) (.tail _ (.head _))).2.2] at eb; cases eb
        · rcases List.mem_cons.mp hq with rfl | hq
          · rw [hgL] at eb; cases eb
          · rw [(N6 q (.tail _ (.tail _ (.tail _ hq)))).2.2] at eb; cases eb
      have hDB : (hideAll h6 (((I, lIter l i) :: (L, oL) :: fl).map (·.1))).get? D0 = some (listOf ys2.toArray c') := hideAll_get _ (N6 _ (.head _)).1 fun hm => by
        obtain ⟨q, hq, eq⟩ := List.mem_map.mp hm
        rcases List.mem_cons.mp hq with rfl | hq
        · exact hDI i _ (.head _) eq
        · rcases List.mem_cons.mp hq with rfl | hq
          · exact (N6 _ (.head _)).2.1 eq.symm
          · exact hDI i q (.tail _ (.tail _ hq)) eq
      have hD10 := hfl10.1 _ _ hDB
      have hDg := (N6 _ (.head _)).2.2
      have hk10 : ∀ b ob, g.get? b = some ob → h10.get? b = some ob := F10.keep
      repeat' walk1
      refine k _ _ D0 (listOf ys2.toArray c') ys2 (fun b ob hb eb => hk10 _ _ (hg ▸ hideAll_get _ eb hb)) (fun p hp => ?_) (fun p hp => ?_) lobj (e9 ▸ e3)
      · obtain ⟨s1, q1⟩ := sl p (.tail _ hp)
        obtain ⟨s2, q2⟩ := ((sm8.trans sm9).trans sm10) _ _ q1 (hnf p hp)
        exact ⟨s2, q2⟩
      · rw [List.mem_singleton.mp hp]
        refine ⟨hD10, ?_⟩
        cases q : s.heap.get? D0 with
        | none => rfl
        | some ob2 =>
          have q2 : g.get? D0 = some ob2 := hg ▸ hideAll_get _ q fun hm => by
            obtain ⟨z, hz, ez⟩ := List.mem_map.mp hm
            exact hDI i z (.tail _ (.tail _ hz)) ez
          dsimp only at hDg
          rw [hDg] at q2; cases q2
end PartLRead
section PartWords
set_option maxHeartbeats 1000000
theorem off_words : True := by (w_top off); trivial
theorem any_isInt {x : Int} : ∀ {vs : List Value} {ns : List Int}, IntsAre vs ns → vs.any (isInt x) = decide (x ∈ ns)
  | _, _, .nil => by simp
  | _, _, .cons a u r => by
    rw [List.any_cons, any_isInt r, Bool.eq_iff_iff]
    simp [isInt]
    exact or_congr_left ⟨fun h => h.symm, fun h => h.symm⟩
theorem in_ints {prog : Program} {w : World} {A : Around} {E : Value → Shared → Prop} {s : Shared} {Q : Value → Shared → Prop} {l : Addr} {vs : List Value} {ns : List Int} {x : Int} {t : Tok}
    (hl : s.heap.IsList l vs.toArray) (hi : IntsAre vs ns) (h : Q (.bool (decide (x ∈ ns))) s) : wpAny (model prog w) A (compareOp .In (.int x t) (.ref l)) Q E s := by
  have e : vs.toArray.any (isInt x) = decide (x ∈ ns) := by rw [List.any_toArray]; exact any_isInt hi
  refine SeqInW.in_listW (isInt x) (fun y hy => ?_) hl (by rw [e]; exact h)
  obtain ⟨i, hi2⟩ := List.getElem?_of_mem (show y ∈ vs by simpa using hy)
  obtain ⟨a, u, rfl, _⟩ := IntsAre.at hi i y hi2
  exact MeetsSeq.EqGives.int a x u t
/-- one word's rows -/
noncomputable def grab (ends : List Int) : List (List Int) → Int → List (List Int) × List Int × Int × List (List Int)
  | [], line => ([], [], line, [])
  | r :: rest, line =>
    let kf := bare true r
    let line' := if kf.1.getLast? = some 10 then line + 1 else line
    if kf.2 = true ∧ kf.1.getLast?.getD 0 ∈ ends then ([], kf.1.dropLast, line', rest)
    else (kf.1 :: (grab ends rest line').1, (grab ends rest line').2)
noncomputable abbrev Wd := List (List Int) × List Int × Int
/-- the words -/
noncomputable def wordsF : Nat → List (List Int) → Int → List Wd
  | _, [], line => [([], [], line)]
  | 0, _, line => [([], [], line)]
  | n + 1, r :: rest, line =>
    if r.length = 1 ∧ r.getD 0 0 ∈ [9, 10, 13, 32] then wordsF n rest (if r.getD 0 0 = 10 then line + 1 else line)
    else if r = [34] then
      let g := grab [34] rest line
      (g.1, g.2.1, g.2.2.1) :: wordsF n g.2.2.2 g.2.2.1
    else
      let g := grab [9, 10, 13, 32] (r :: rest) line
      (g.1, g.2.1, g.2.2.1) :: wordsF n g.2.2.2 g.2.2.1
/-- the objects of a ledger -/
noncomputable def inZ (Z : List (Addr × Obj)) : Kn := fun a o => (a, o) ∈ Z
theorem inZ_le {Z Z' : List (Addr × Obj)} (h : ∀ p ∈ Z, p ∈ Z') : (inZ Z).Le (inZ Z') := fun _ _ e => h _ e
noncomputable def WordK (k : Kn) (v : Value) (wd : Wd) : Prop := ∃ t o v1 v2 u, v = .ref t ∧ k t o ∧ TupObj [v1, v2, .int wd.2.2 u] o ∧ RowsK k v1 wd.1 ∧ IntK k v2 wd.2.1
theorem WordK.mono {k k' : Kn} (hk : k.Le k') {v : Value} {wd : Wd} (x : WordK k v wd) : WordK k' v wd :=
  let ⟨t, o, v1, v2, u, e, h, c, r, i⟩ := x; ⟨t, o, v1, v2, u, e, hk _ _ h, c, r.mono hk, i.mono hk⟩
theorem bare_28 {f : Bool} {d x : Int} {r : List Int} (h : d = 28) : bare f (d :: x :: r) = (x :: (bare (!r.isEmpty) r).1, (bare (!r.isEmpty) r).2) := by rw [bare, if_pos h]
theorem bare_no {f : Bool} {d x : Int} {r : List Int} (h : ¬ d = 28) : bare f (d :: x :: r) = (d :: (bare f (x :: r)).1, (bare f (x :: r)).2) := by rw [bare, if_neg h]
theorem bare_facts : ∀ (r : List Int), r ≠ [] → (bare true r).1 ≠ [] ∧ (bare true r).1.getLast? = r.getLast? ∧ (bare true r).1.length ≤ r.length ∧ ∀ d ∈ (bare true r).1, d ∈ r
  | [], h => absurd rfl h
  | [d], _ => by simp [bare]
  | [d, x], _ => by
    by_cases h : d = 28
    · simp [bare, h]
    · simp [bare, h]
  | d :: x :: y :: r, _ => by
    by_cases h : d = 28
    · obtain ⟨a, b, c, e⟩ := bare_facts (y :: r) (by simp)
      rw [bare_28 h]
      simp only [List.isEmpty_cons, Bool.not_false]
      refine ⟨by simp, ?_, by simp at c ⊢; omega, fun z hz => ?_⟩
      · obtain ⟨k0, ks, hk⟩ := List.exists_cons_of_ne_nil a
        rw [hk] at b ⊢
        rw [List.getLast?_cons_cons, b]; simp
      · rcases List.mem_cons.mp hz with rfl | hz
        · simp
        · exact .tail _ (.tail _ (e z hz))
    · obtain ⟨a, b, c, e⟩ := bare_facts (x :: y :: r) (by simp)
      rw [bare_no h]
      dsimp only
      refine ⟨by simp, ?_, by simp at c ⊢; omega, fun z hz => ?_⟩
      · obtain ⟨k0, ks, hk⟩ := List.exists_cons_of_ne_nil a
        rw [hk] at b ⊢
        rw [List.getLast?_cons_cons, b]; simp
      · rcases List.mem_cons.mp hz with rfl | hz
        · simp
        · exact .tail _ (e z hz)



section
variable {prog : Program} {w : World} {A : Around} {E : Value → Shared → Prop} {s : Shared} {h₀ : Heap} {L l : Addr} {m : Str → Option Value} {value slice : PySem.Expr} {vs : List Value} {Q : Value → Shared → Prop}
theorem litemA {i : Nat} {t : Tok} {v : Value} (F : Fr h₀ L s.heap m) (hl : h₀.IsList l vs.toArray) (hv : vs[i]? = some v) (hi : vs.length ≤ 1000000) (h : Q v s)
    (hs : subscripted slice false (.ref l) (.int (i : Nat) t) = operate [.ref l, .int (i : Nat) t] (getItem (.ref l) (.int (i : Nat) t)) := by with_unfolding_all rfl) :
    wpAny (model prog w) A (subscriptTail value slice (.ref l) (.int (i : Nat) t)) Q E s := by
  have := (List.getElem?_eq_some_iff.mp hv).1
  exact litem (hl.at (F.keep _)) (by omega) (by omega) (by rw [Int.toNat_natCast]; exact hv) h hs
theorem litemZ {t u : Tok} {d : Int} (F : Fr h₀ L s.heap m) (hl : h₀.IsList l [Value.int d u].toArray) (h : Q (.int d u) s)
    (hs : subscripted slice false (.ref l) (.int 0 t) = operate [.ref l, .int 0 t] (getItem (.ref l) (.int 0 t)) := by with_unfolding_all rfl) :
    wpAny (model prog w) A (subscriptTail value slice (.ref l) (.int 0 t)) Q E s :=
  litem (vs := [Value.int d u]) (hl.at (F.keep _)) (by omega) (by omega) rfl h hs
theorem if_join {env : Env} {st : Stmt} {rest : List Stmt} {Q : Flow → Shared → Prop} (J : Shared → Prop)
    (h1 : wpAny (model prog w) A (exec st env) (fun f s' => (f = .next ∧ J s') ∨ (f ≠ .next ∧ Q f s')) E s) (h2 : ∀ s', J s' → wpAny (model prog w) A (execs rest env) Q E s') :
    wpAny (model prog w) A (execs (st :: rest) env) Q E s := by
  refine wpAny_execs_cons (wpAny_mono h1 (fun f s' h => ?_) fun _ _ x => x)
  rcases h with ⟨rfl, hj⟩ | ⟨hn, hq⟩
  · exact h2 _ hj
  · cases f <;> first | exact hq | exact absurd rfl hn
end






local macro_rules | `(tactic| walk_at "same 4") => `(tactic| with_unfolding_all refine atStop ?_)
local macro_rules | `(tactic| walk_at "compareOp In int ref") => `(tactic| walk_at "same 4")
local macro_rules | `(tactic| walk_at "compareOp Eq ref ref") => `(tactic| walk_at "same 4")
local macro_rules | `(tactic| walk_at "execs cons") => `(tactic| ((with_reducible show wpAny _ _ (execs (Stmt.If (Expr.Compare _ _ _ _) (_ :: _ :: _) _ _ :: _) _) _ _ _); (with_unfolding_all refine atStop ?_)))
local macro_rules | `(tactic| walk_at "execs cons") => `(tactic| ((with_reducible show wpAny _ _ (execs (Stmt.If (Expr.BoolOp _ _ _) (_ :: _ :: _ :: _) _ _ :: _) _) _ _ _); (with_unfolding_all refine atStop ?_)))
local macro_rules | `(tactic| walk_at "subscriptTail Name Name ref int") => `(tactic| with_unfolding_all first | refine litemA (by assumption) (by assumption) (by assumption) (by assumption) ?_ | refine atStop ?_)
local macro_rules | `(tactic| walk_at "assign Tuple") => `(tactic| ((with_reducible show wpAny _ _ (assign (Expr.Tuple _ _ _) _ (Value.ref _)) _ _ _); (with_unfolding_all refine unpackN_ (by assumption) (by assumption) (by assumption) (by assumption) (by rfl) (by rfl) ?_); intro _ _ _))
local macro_rules | `(tactic| walk_at "subscriptTail Name UnaryOp ref int") => `(tactic| walk_at "same 4")
local macro_rules | `(tactic| walk_at "subscriptTail Name Slice ref ref") => `(tactic| walk_at "same 4")
local macro_rules | `(tactic| walk_at "call builtin:list.append") => `(tactic| walk_at "same 4")
local macro_rules | `(tactic| walk_at "execs cons") => `(tactic| ((with_reducible show wpAny _ _ (execs (Stmt.If (Expr.Compare (Expr.Subscript (Expr.Name _ _) (Expr.UnaryOp _ _ _) _) _ _ _) [_] _ _ :: _) _) _ _ _); (with_unfolding_all refine atStop ?_)))
local macro_rules | `(tactic| walk_at "subscriptTail Subscript Constant ref int") => `(tactic| with_unfolding_all refine litemZ (by assumption) (by assumption) ?_)
theorem allLt_get {d : Addr} {l : List (Addr × Obj)} (h : AllLt d l) (p : Addr × Obj) (hp : p ∈ l) : @LT.lt Nat _ p.1 d := by
  induction l with
  | nil => cases hp
  | cons q r ih =>
    rcases List.mem_cons.mp hp with rfl | hp
    · exact h.1
    · exact ih h.2 hp
inductive WOut (a D0 : Addr) (rows : List (List Int)) (c : Nat) (m : Str → Option Value) (nx : List (Addr × Obj)) : Prop
  | mk (i : Nat) (t1 t2 : Tok) (line : Int) (wvs : List Value) (acc : List Wd) (c1 : Nat) (Z : List (Addr × Obj)) (n : Nat)
    (e1 : m (Str.ofString "rows") = some (.ref a)) (e2 : m (Str.ofString "place") = some (.int (i : Nat) t1)) (e3 : m (Str.ofString "line") = some (.int line t2)) (e4 : m (Str.ofString "words") = some (.ref D0))
    (e5 : nx = (D0, listOf wvs.toArray c1) :: Z) (hw : All2 (WordK (inZ Z)) wvs acc) (hZ : ∀ p ∈ Z, p.1 ≠ D0) (hi : i ≤ rows.length) (hn : rows.length - i ≤ n) (hl : wvs.length ≤ i) (hb : wordsF rows.length rows 1 = acc ++ wordsF n (rows.drop i) line) (hc : c = rows.length - i) : WOut a D0 rows c m nx
inductive WMid (s : Shared) (L a D0 : Addr) (rows : List (List Int)) (wvs : List Value) (c1 : Nat) (Z : List (Addr × Obj)) (line : Int) (t2 : Tok) (i n' : Nat) (acc : List Wd) (s' : Shared) : Prop
  | mk (h' : Heap) (tk : Nat) (m' : Str → Option Value) (ea : Addr) (evs : List Value) (ens : List Int) (n0 i' : Nat) (Z' : List (Addr × Obj)) (t1 : Tok) (e : s' = { s with heap := h', toks := tk }) (F : Fr s.heap L h' m') (N : News s.heap L h' ((D0, listOf wvs.toArray c1) :: Z')) (hZ : ∀ p ∈ Z, p ∈ Z') (hD : ∀ p ∈ Z', p.1 ≠ D0)
    (g1 : m' (Str.ofString "rows") = some (.ref a)) (g2 : m' (Str.ofString "place") = some (.int (i' : Nat) t1)) (g3 : m' (Str.ofString "line") = some (.int line t2)) (g4 : m' (Str.ofString "words") = some (.ref D0)) (g5 : m' (Str.ofString "ends") = some (.ref ea))
    (hea : (ea, listOf (List.toArray evs) n0) ∈ Z') (hens : IntsAre evs ens) (h1 : i ≤ i') (h2 : i' ≤ i + 1) (h3 : i' ≤ rows.length)
    (hb : wordsF rows.length rows 1 = acc ++ ((grab ens (rows.drop i') line).1, (grab ens (rows.drop i') line).2.1, (grab ens (rows.drop i') line).2.2.1) :: wordsF n' (grab ens (rows.drop i') line).2.2.2 (grab ens (rows.drop i') line).2.2.1) : WMid s L a D0 rows wvs c1 Z line t2 i n' acc s'
inductive WIn (a D0 lw ea : Addr) (rows : List (List Int)) (wvs : List Value) (c1 : Nat) (Z4 : List (Addr × Obj)) (i' : Nat) (ens : List Int) (line : Int) (c : Nat) (m : Str → Option Value) (nx : List (Addr × Obj)) : Prop
  | mk (j : Nat) (t1 t5 : Tok) (ln : Int) (wws : List Value) (whole : List (List Int)) (cw : Nat) (ta : Addr) (tl : List Int) (go : Bool) (Z : List (Addr × Obj)) (q1 : m (Str.ofString "rows") = some (.ref a)) (q2 : m (Str.ofString "place") = some (.int (j : Nat) t1)) (q3 : m (Str.ofString "line") = some (.int ln t5)) (q4 : m (Str.ofString "words") = some (.ref D0))
    (q5 : m (Str.ofString "ends") = some (.ref ea)) (q6 : m (Str.ofString "whole") = some (.ref lw)) (q7 : m (Str.ofString "tail") = some (.ref ta)) (q8 : m (Str.ofString "going") = some (.bool go))
    (q9 : nx = (lw, listOf (List.toArray wws) cw) :: (D0, listOf wvs.toArray c1) :: Z) (h1 : ∀ p ∈ Z4, p ∈ Z) (h2 : ∀ p ∈ Z, p.1 ≠ lw ∧ p.1 ≠ D0) (h3 : All2 (IntK (inZ Z)) wws whole) (h4 : IntK (inZ Z) (.ref ta) tl) (h5 : j ≤ rows.length) (h6 : wws.length ≤ j)
    (h7 : go = true → i' ≤ j ∧ tl = [] ∧ grab ens (rows.drop i') line = (whole ++ (grab ens (rows.drop j) ln).1, (grab ens (rows.drop j) ln).2)) (h8 : go = false → i' + 1 ≤ j ∧ grab ens (rows.drop i') line = (whole, tl, ln, rows.drop j))
    (h9 : c = (if go = true then 1 else 0) + (rows.length - j)) : WIn a D0 lw ea rows wvs c1 Z4 i' ens line c m nx
inductive WFr (a D0 lw ea ta d9 : Addr) (j : Nat) (t6 : Tok) (ln : Int) (t : Tok) (go fr : Bool) (m : Str → Option Value) : Prop
  | mk (p1 : m (Str.ofString "rows") = some (.ref a)) (p2 : m (Str.ofString "place") = some (.int (j : Nat) t6)) (p3 : m (Str.ofString "line") = some (.int ln t)) (p4 : m (Str.ofString "words") = some (.ref D0))
    (p5 : m (Str.ofString "ends") = some (.ref ea)) (p6 : m (Str.ofString "whole") = some (.ref lw)) (p7 : m (Str.ofString "tail") = some (.ref ta)) (p8 : m (Str.ofString "going") = some (.bool go)) (p9 : m (Str.ofString "kept") = some (.ref d9)) (p10 : m (Str.ofString "free") = some (.bool fr)) : WFr a D0 lw ea ta d9 j t6 ln t go fr m
inductive WLn (s : Shared) (L a D0 lw ea ta d9 : Addr) (j : Nat) (t6 : Tok) (ln' : Int) (go fr : Bool) (nx : List (Addr × Obj)) (s' : Shared) : Prop
  | mk (h' : Heap) (tk : Nat) (m' : Str → Option Value) (t' : Tok) (e : s' = { s with heap := h', toks := tk }) (F : Fr s.heap L h' m') (N : News s.heap L h' nx) (r : WFr a D0 lw ea ta d9 j t6 ln' t' go fr m') : WLn s L a D0 lw ea ta d9 j t6 ln' go fr nx s'
theorem words_spec {w : World} {A : Around} {s : Shared} {p : Program} {loose : List Str} {mean : ExcName → Option Value} {mg mb : Str → Option Value} {Q E : Value → Shared → Prop}
    (X : (hd.heap_39 w.params).In s.heap) (T : Top p loose mean mg mb s.heap) (hA : A.depth < 880) (hu : A.units < 1000) (hh : A.handled = none)
    {a : Addr} {vs : List Value} {rows : List (List Int)} (hl : s.heap.IsList a vs.toArray) (hi : All2 (RowAt s.heap) vs rows) (hn : rows.length ≤ 1000) (hb9 : ∀ r ∈ rows, r ≠ [] ∧ r.length ≤ 3)
    (k : ∀ h' tk D o wvs Z, s.heap.StaysIn h' → NewIn s.heap h' ((D, o) :: Z) → ListObj wvs o → All2 (WordK (inZ Z)) wvs (wordsF rows.length rows 1) → Q (.ref D) { s with heap := h', toks := tk }) :
    wpAny (model pr w) A (call (.ref 154) [.ref a]) Q E s := by
  refine wpAny_call ?_
  with_unfolding_all refine' enter [(Str.ofString "rows", .ref a)] X T ?k6 ?k7 ?k8 ?k9 ?kB ?_ ?c2 ?c3 ?c4 ?c5
  walk_at "my enter"
  intro L h₁ F N
  dsimp only
  repeat' walk1
  rename Fr _ _ _ _ => F1
  rename News _ _ _ _ => N1
  have hvl := hi.length
  have hvb : vs.length ≤ 1000000 := by omega
  rename_i D0 _ _ _ _ _
  unfold AtWhile
  refine While_inv2 (WOut a D0 rows) F1 N1
    ⟨0, _, _, 1, [], [], 0, [], rows.length, rfl, rfl, rfl, rfl, rfl, .nil, List.forall_mem_nil _, Nat.zero_le _, Nat.le_refl _, Nat.zero_le _, rfl, rfl⟩ ?_
  rintro c m nx h tk F N ⟨i, t1, t2, line, wvs, acc, c1, Z, n, e1, e2, e3, e4, rfl, hw, hZ, hile, hn2, hwl, hb, rfl⟩
  clear F1 N1
  repeat' walk1
  · have hlt' : i < rows.length := lt_of_int ‹(i : Int) < vs.length› hvl
    obtain ⟨v, hv, ra, rvs, rfl, hra, hri⟩ := hi.get i rows[i] (List.getElem?_eq_getElem hlt')
    have hok := hb9 _ (List.getElem_mem hlt')
    have hrl := hri.length
    have hrl2 : rvs.length ≤ 1000000 := by omega
    rename_i l1 _ lt1 h3 F3 N3
    obtain ⟨n', rfl⟩ : ∃ n', n = n' + 1 := ⟨n - 1, by omega⟩
    unfold AtStop
    refine if_join (fun s' => (∃ tk, s' = { s with heap := h3, toks := tk }) ∧ ¬ (rows[i].length = 1 ∧ rows[i].getD 0 0 ∈ ([9, 10, 13, 32] : List Int))) ?_ ?_
    · have hd0 : rows[i].getD (Int.toNat 0) 0 = rows[i].getD 0 0 := rfl
      have hstep : rows[i].length = 1 ∧ rows[i].getD 0 0 ∈ ([9, 10, 13, 32] : List Int) → wordsF rows.length rows 1 = acc ++ wordsF n' (rows.drop (i + 1)) (if rows[i].getD 0 0 = 10 then line + 1 else line) := fun hc => by
        rw [hb, List.drop_eq_getElem_cons hlt', wordsF, if_pos hc]
      repeat' walk1
      · unfold AtStop
        have hone : rows[i].length = 1 := one_of ‹(rvs.length : Int) = 1› hrl
        refine in_ints (isl N3 (.head _)) (ns := [9, 10, 13, 32]) (.cons _ _ (.cons _ _ (.cons _ _ (.cons _ _ .nil)))) ?_
        repeat' walk1
        · have hmem := ‹rows[i].getD (Int.toNat 0) 0 ∈ _›
          have h10 := ‹rows[i].getD (Int.toNat 0) 0 = 10›
          rename Fr _ _ _ _ => F4
          rename News _ _ _ _ => N4
          have hb4 := hstep ⟨hone, hmem⟩
          rw [if_pos (hd0 ▸ h10)] at hb4
          exact Or.inr ⟨(fun q => by cases q), ⟨_, _, _, _, rows.length - (i + 1), rfl, F4, fun p hp => N4 p (.tail _ hp), Nat.sub_succ_lt_self _ _ hlt', i + 1, _, _, line + 1, wvs, acc, c1, Z, n', e1, int_some rfl, rfl, e4, rfl, hw, hZ, hlt', sub_le_pred hn2, Nat.le_succ_of_le hwl, hb4, rfl⟩⟩
        · have hmem := ‹rows[i].getD (Int.toNat 0) 0 ∈ _›
          have h10 := ‹rows[i].getD (Int.toNat 0) 0 ≠ 10›
          rename Fr _ _ _ _ => F4
          rename News _ _ _ _ => N4
          have hb4 := hstep ⟨hone, hmem⟩
          rw [if_neg (hd0 ▸ h10)] at hb4
          exact Or.inr ⟨(fun q => by cases q), ⟨_, _, _, _, rows.length - (i + 1), rfl, F4, fun p hp => N4 p (.tail _ hp), Nat.sub_succ_lt_self _ _ hlt', i + 1, _, _, line, wvs, acc, c1, Z, n', e1, int_some rfl, e3, e4, rfl, hw, hZ, hlt', sub_le_pred hn2, Nat.le_succ_of_le hwl, hb4, rfl⟩⟩
        · have hmem := ‹¬ rows[i].getD (Int.toNat 0) 0 ∈ _›
          exact .inl ⟨rfl, ⟨_, rfl⟩, fun q => hmem q.2⟩
      · have hone : ¬ rows[i].length = 1 := one_no ‹(rvs.length : Int) ≠ 1› hrl
        exact .inl ⟨rfl, ⟨_, rfl⟩, fun q => hone q.1⟩
    · rintro s' ⟨⟨tk3, rfl⟩, hno⟩
      repeat' walk1
      unfold AtStop
      refine if_join (WMid s L a D0 rows wvs c1 Z line t2 i n' acc) ?_ ?_
      · have hstep : wordsF rows.length rows 1 = acc ++ (if rows[i] = [34] then ((grab [34] (rows.drop (i + 1)) line).1, (grab [34] (rows.drop (i + 1)) line).2.1, (grab [34] (rows.drop (i + 1)) line).2.2.1) :: wordsF n' (grab [34] (rows.drop (i + 1)) line).2.2.2 (grab [34] (rows.drop (i + 1)) line).2.2.1
            else ((grab [9, 10, 13, 32] (rows.drop i) line).1, (grab [9, 10, 13, 32] (rows.drop i) line).2.1, (grab [9, 10, 13, 32] (rows.drop i) line).2.2.1) :: wordsF n' (grab [9, 10, 13, 32] (rows.drop i) line).2.2.2 (grab [9, 10, 13, 32] (rows.drop i) line).2.2.1) := by
          rw [hb, List.drop_eq_getElem_cons hlt', wordsF, if_neg hno]
        repeat' walk1
        unfold AtStop
        rename Fr _ _ _ _ => F5
        rename News _ _ _ _ => N5
        refine ke_eq_ints (hra.at (F5.keep _)) (isl N5 (.head _)) hri (.cons 34 _ .nil) ?_ ?_
        · have := cLine_is
          show A.units + _ + 64 < cLine
          omega
        repeat' walk1
        · rename_i le _ lte h34 lf _ ltf _ h6 F6 N6
          rw [if_pos h34] at hstep
          obtain ⟨tk34, oe, ol, N7⟩ : ∃ tk34 oe ol, News s.heap L h6 ((lf, listOf (List.toArray [Value.int 34 tk34]) 0) :: (le, oe) :: (l1, ol) :: (D0, listOf wvs.toArray c1) :: Z) := ⟨_, _, _, N6⟩
          clear N6
          have N6 := N7
          clear N7
          refine .inl ⟨rfl, _, _, _, lf, [Value.int 34 tk34], [34], 0, i + 1, (lf, listOf (List.toArray [Value.int 34 tk34]) 0) :: (le, oe) :: (l1, ol) :: Z, _, rfl, F6, fun p hp => N6 p ?_, fun p hp => .tail _ (.tail _ (.tail _ hp)), ?_, e1, int_some rfl, e3, e4, rfl, .head _, .cons _ _ .nil, Nat.le_succ i, Nat.le_refl _, hlt', hstep⟩
          · simp only [List.mem_cons] at hp ⊢
            rcases hp with hp | hp | hp | hp | hp
            · exact .inr (.inr (.inr (.inl hp)))
            · exact .inl hp
            · exact .inr (.inl hp)
            · exact .inr (.inr (.inl hp))
            · exact .inr (.inr (.inr (.inr hp)))
          · intro p hp
            simp only [List.mem_cons] at hp
            rcases hp with rfl | rfl | rfl | hp
            · exact Nat.ne_of_gt ltf.2.2.1
            · exact Nat.ne_of_gt lte.2.1
            · exact Nat.ne_of_gt lt1.1
            · exact hZ p hp
        · rename_i le h6 lte h34
          rw [if_neg h34] at hstep
          obtain ⟨oe, u1, u2, u3, u4, N6⟩ : ∃ oe u1 u2 u3 u4, News s.heap L h6 ((le, oe) :: (l1, listOf (List.toArray [Value.int 9 u1, Value.int 10 u2, Value.int 13 u3, Value.int 32 u4]) 0) :: (D0, listOf wvs.toArray c1) :: Z) := ⟨_, _, _, _, _, N5⟩
          clear N5
          refine .inl ⟨rfl, _, _, _, l1, [Value.int 9 u1, Value.int 10 u2, Value.int 13 u3, Value.int 32 u4], [9, 10, 13, 32], 0, i, (le, oe) :: (l1, listOf (List.toArray [Value.int 9 u1, Value.int 10 u2, Value.int 13 u3, Value.int 32 u4]) 0) :: Z, _, rfl, F5, fun p hp => N6 p ?_, fun p hp => .tail _ (.tail _ hp), ?_, e1, e2, e3, e4, rfl, .tail _ (.head _), .cons _ _ (.cons _ _ (.cons _ _ (.cons _ _ .nil))), Nat.le_refl _, Nat.le_succ i, hile, hstep⟩
          · simp only [List.mem_cons] at hp ⊢
            rcases hp with hp | hp | hp | hp
            · exact .inr (.inr (.inl hp))
            · exact .inl hp
            · exact .inr (.inl hp)
            · exact .inr (.inr (.inr hp))
          · intro p hp
            simp only [List.mem_cons] at hp
            rcases hp with rfl | rfl | hp
            · exact Nat.ne_of_gt lte.2.1
            · exact Nat.ne_of_gt lt1.1
            · exact hZ p hp
      · rintro s' ⟨h4, tk4, m4, ea, evs, ens, n0, i', Z4, t4, rfl, F4, N4, hZ4, hD4, g1, g2, g3, g4, g5, hea, hens, hi1, hi2, hi3, hb4⟩
        clear F3 N3 hb hno
        repeat' walk1
        unfold AtWhile
        rename_i lw _ ltw _ lt _ ltt _ h7 F7 N7
        have hnx : News s.heap L h7 ((lw, listOf #[] 0) :: (D0, listOf wvs.toArray c1) :: (lt, listOf #[] 0) :: Z4) := fun p hp => N7 p (by
          simp only [List.mem_cons] at hp ⊢
          rcases hp with hp | hp | hp | hp
          · exact .inr (.inl hp)
          · exact .inr (.inr (.inl hp))
          · exact .inl hp
          · exact .inr (.inr (.inr hp)))
        have hDw : @LT.lt Nat _ D0 lw := ltw.1
        refine While_inv2 (WIn a D0 lw ea rows wvs c1 Z4 i' ens line) F7 hnx
          ⟨i', _, _, line, [], [], 0, lt, [], true, (lt, listOf #[] 0) :: Z4, g1, g2, g3, g4, g5, rfl, rfl, rfl, rfl, fun p hp => .tail _ hp, ?_, .nil, ⟨[], ⟨_, _, rfl, .head _, rfl, 0, rfl⟩, .nil⟩, hi3, Nat.zero_le _, fun _ => ⟨Nat.le_refl _, rfl, by rw [List.nil_append]⟩, (fun q => by cases q), rfl⟩ ?_
        · intro p hp
          rcases List.mem_cons.mp hp with rfl | hp
          · exact ⟨Nat.ne_of_gt ltt.1, Nat.ne_of_gt ltt.2.1⟩
          · refine ⟨fun q => ?_, hD4 p hp⟩
            have hlt := allLt_get ltw.2 p hp
            rw [q] at hlt; exact Nat.lt_irrefl _ hlt
        rintro c m nx h8 tk8 F8 N8 ⟨j, t6, t7, ln, wws, whole, cw, ta, tl, go, Z5, q1, q2, q3, q4, q5, q6, q7, q8, rfl, hZ5, hD5, hwh, htl, hj, hwj, hgo, hst, rfl⟩
        clear F7 N7 hnx
        have hz8 : @LT.lt Nat _ D0 h8.objs.size := Heap.lt_size (N8 (D0, listOf wvs.toArray c1) (.tail _ (.head _))).1
        repeat' walk1
        · have hjl : j < rows.length := lt_of_int ‹(j : Int) < vs.length› hvl
          have hgo1 : go = true := ‹_›
          obtain ⟨v2, hv2, ra2, rvs2, rfl, hra2, hri2⟩ := hi.get j rows[j] (List.getElem?_eq_getElem hjl)
          have hok2 := hb9 _ (List.getElem_mem hjl)
          unfold AtStop
          repeat' walk1
          unfold AtCall
          rename Fr _ _ _ _ => F8
          rename News _ _ _ _ => N8
          have hbf := bare_facts rows[j] hok2.1
          obtain ⟨ks, fr, hbr⟩ : ∃ ks fr, bare true rows[j] = (ks, fr) := ⟨_, _, rfl⟩
          refine bare_spec (X.keeps F8.keep) (T.keeps F8.keep) (by show A.depth + 1 < 900; omega) (by exact hh) (hra2.at (F8.keep _)) hri2 hok2.2 (fun h9 tk9 t9 o9 d9 od9 ws9 st9 W9 tob9 lob9 hws9 => ?_)
          rw [hbr] at tob9 hws9 hbf
          have F9 := F8.keeps st9
          have N9 := news_more F8 N8 st9 W9
          have hT : IsTup h9 t9 [Value.ref d9, .bool fr].toArray := ⟨o9, (W9 _ (.head _)).1, tob9.1, tob9.2⟩
          have hne9 : t9 ≠ lw ∧ t9 ≠ D0 ∧ d9 ≠ lw ∧ d9 ≠ D0 := by
            have a1 := (W9 _ (.head _)).2
            have a2 := (W9 _ (.tail _ (.head _))).2
            have b1 := (N8 _ (.head _)).1
            have b2 := (N8 _ (.tail _ (.head _))).1
            dsimp only at a1 a2 b1 b2
            refine ⟨fun q => ?_, fun q => ?_, fun q => ?_, fun q => ?_⟩
            · rw [q, b1] at a1; cases a1
            · rw [q, b2] at a1; cases a1
            · rw [q, b1] at a2; cases a2
            · rw [q, b2] at a2; cases a2
          clear F8 N8
          repeat' walk1
          rename Fr _ _ _ _ => F10
          rename News _ _ _ _ => N10
          rename_i h10 _ _
          obtain ⟨x, hx⟩ : ∃ x, ks.getLast? = some x := by
            cases e : ks.getLast? with
            | some x => exact ⟨x, rfl⟩
            | none => exact absurd (List.getLast?_eq_none_iff.mp e) hbf.1
          obtain ⟨ux, hux⟩ := IntsAre.last hws9 hx
          have hwl9 := hws9.length
          obtain ⟨ln', hln'⟩ : ∃ ln', ln' = if x = 10 then ln + 1 else ln := ⟨_, rfl⟩
          have hgrab : grab ens (rows.drop j) ln = if fr = true ∧ x ∈ ens then ([], ks.dropLast, ln', rows.drop (j + 1)) else (ks :: (grab ens (rows.drop (j + 1)) ln').1, (grab ens (rows.drop (j + 1)) ln').2) := by
            rw [List.drop_eq_getElem_cons hjl, grab]
            simp only [hbr, hx, Option.some.injEq, Option.getD_some, ← hln']
          obtain ⟨g6, g7, g8⟩ := hgo hgo1
          obtain ⟨m9, F11, p1, p2, p3, p4, p5, p6, p7, p8, p9, p10⟩ : ∃ m9, Fr s.heap L _ m9 ∧ WFr a D0 lw ea ta d9 j t6 ln t7 go fr m9 :=
            ⟨_, F10, q1, q2, q3, q4, q5, q6, q7, q8, rfl, rfl⟩
          clear F10
          have N11 : News s.heap L _ ((lw, listOf (List.toArray wws) cw) :: (D0, listOf wvs.toArray c1) :: (t9, o9) :: (d9, od9) :: Z5) := fun p hp => N10 p (by
            simp only [List.mem_cons, List.mem_append, List.not_mem_nil, or_false] at hp ⊢
            rcases hp with hp | hp | hp | hp | hp
            · exact .inr (.inl hp)
            · exact .inr (.inr (.inl hp))
            · exact .inl (.inl hp)
            · exact .inl (.inr hp)
            · exact .inr (.inr (.inr hp)))
          clear N10 hT
          unfold AtStop
          refine if_join (WLn s L a D0 lw ea ta d9 j t6 ln' go fr ((lw, listOf (List.toArray wws) cw) :: (D0, listOf wvs.toArray c1) :: (t9, o9) :: (d9, od9) :: Z5)) ?_ ?_
          · repeat' walk1
            unfold AtStop
            refine litem_last (⟨od9, (N11 (d9, od9) (.tail _ (.tail _ (.tail _ (.head _))))).1, lob9.1, lob9.2⟩) hux ?_
            repeat' walk1
            · rename x = 10 => hx10
              rw [if_pos hx10] at hln'
              rename Fr _ _ _ _ => F13
              rename News _ _ _ _ => N13
              exact .inl ⟨rfl, _, _, _, _, rfl, F13, N13, p1, p2, int_some hln'.symm, p4, p5, p6, p7, p8, p9, p10⟩
            · rename ¬ x = 10 => hx10
              rw [if_neg hx10] at hln'
              exact .inl ⟨rfl, _, _, m9, t7, rfl, by assumption, by assumption, p1, p2, hln' ▸ p3, p4, p5, p6, p7, p8, p9, p10⟩
          · rintro s' ⟨h12, tk12, m12, t12, rfl, F12, N12, r1, r2, r3, r4, r5, r6, r7, r8, r9, r10⟩
            clear F11 N11 p1 p2 p3 p4 p5 p6 p7 p8 p9 p10
            have hZ6 : ∀ p ∈ Z4, p ∈ (t9, o9) :: (d9, od9) :: Z5 := fun p hp => .tail _ (.tail _ (hZ5 p hp))
            have hD6 : ∀ p ∈ (t9, o9) :: (d9, od9) :: Z5, p.1 ≠ lw ∧ p.1 ≠ D0 := fun p hp => by
              rcases List.mem_cons.mp hp with rfl | hp
              · exact ⟨hne9.1, hne9.2.1⟩
              · rcases List.mem_cons.mp hp with rfl | hp
                · exact ⟨hne9.2.2.1, hne9.2.2.2⟩
                · exact hD5 p hp
            have hle6 : (inZ Z5).Le (inZ ((t9, o9) :: (d9, od9) :: Z5)) := inZ_le fun p hp => .tail _ (.tail _ hp)
            have hkept : IntK (inZ ((t9, o9) :: (d9, od9) :: Z5)) (.ref d9) ks := ⟨ws9, ⟨d9, od9, rfl, .tail _ (.head _), lob9⟩, hws9⟩
            have hlst9 : ∀ {h : Heap}, News s.heap L h ((lw, listOf (List.toArray wws) cw) :: (D0, listOf wvs.toArray c1) :: (t9, o9) :: (d9, od9) :: Z5) → h.IsList d9 ws9.toArray := fun N => ⟨od9, (N (d9, od9) (.tail _ (.tail _ (.tail _ (.head _))))).1, lob9.1, lob9.2⟩
            have hmem : (ea, listOf (List.toArray evs) n0) ∈ (lw, listOf (List.toArray wws) cw) :: (D0, listOf wvs.toArray c1) :: (t9, o9) :: (d9, od9) :: Z5 := .tail _ (.tail _ (hZ6 _ hea))
            repeat' walk1
            · have hfr1 : fr = true := ‹_›
              unfold AtStop
              refine litem_last (hlst9 N12) hux ?_
              repeat' walk1
              unfold AtStop
              refine in_ints (isl N12 hmem) hens ?_
              repeat' walk1
              · have hin : x ∈ ens := ‹_›
                unfold AtStop
                rename Fr _ _ _ _ => F13
                rename News _ _ _ _ => N13
                refine lslice F13 N13 (hlst9 N13) .none (.int _ _) (pick_butlast _) (fun D1 h14 F14 N14 l14 => ?_) (by rw [sizeLine_eq]; have := hbf.2.2.1; have := hok2.2; dsimp only at *; omega)
                repeat' walk1
                rename Fr _ _ _ _ => F15
                rename News _ _ _ _ => N15
                refine ⟨_, _, _, _, rows.length - (j + 1), rfl, F15, fun p hp => N15 p ?_, by rw [if_pos hgo1]; exact step_lt2 hjl, j + 1, _, _, ln', wws, whole, cw, D1, ks.dropLast, false, (D1, listOf (List.toArray ws9.dropLast) 0) :: (t9, o9) :: (d9, od9) :: Z5, r1, int_some rfl, r3, r4, r5, r6, rfl, rfl, rfl, fun p hp => .tail _ (hZ6 p hp), ?_,
                  hwh.mono fun v r q => (q.mono hle6).mono (inZ_le fun p hp => .tail _ hp), ⟨_, ⟨D1, _, rfl, .head _, lobj⟩, IntsAre.dropLast hws9⟩, hjl, Nat.le_succ_of_le hwj, (fun q => by cases q), (fun _ => ⟨Nat.succ_le_succ g6, by rw [g8, hgrab, if_pos ⟨hfr1, hin⟩]; simp⟩), by simp⟩
                · simp only [List.mem_cons] at hp ⊢
                  rcases hp with hp | hp | hp | hp
                  · exact .inr (.inl hp)
                  · exact .inr (.inr (.inl hp))
                  · exact .inl hp
                  · exact .inr (.inr (.inr hp))
                · intro p hp
                  rcases List.mem_cons.mp hp with rfl | hp
                  · exact ⟨Nat.ne_of_gt (l14 _ (.head _)), Nat.ne_of_gt (l14 _ (.tail _ (.head _)))⟩
                  · exact hD6 p hp
              · have hin : ¬ x ∈ ens := ‹_›
                have hng : ¬ (fr = true ∧ x ∈ ens) := fun q => hin q.2
                unfold AtStop
                rename Fr _ _ _ _ => F13
                rename News _ _ _ _ => N13
                refine lappend F13 N13 (.head fun p hp => ?_) (small_of hwj hj hn) (fun h14 F14 N14 => ?_)
                · rcases List.mem_cons.mp hp with rfl | hp
                  · exact Nat.ne_of_lt hDw
                  · exact (hD6 p hp).1
                repeat' walk1
                rename Fr _ _ _ _ => F15
                rename News _ _ _ _ => N15
                exact ⟨_, _, _, _, (if go = true then 1 else 0) + (rows.length - (j + 1)), rfl, F15, N15, Nat.add_lt_add_left (Nat.sub_succ_lt_self _ _ hjl) _, j + 1, _, _, ln', wws ++ [.ref d9], whole ++ [ks], cw + 1, ta, tl, go, (t9, o9) :: (d9, od9) :: Z5, r1, int_some rfl, r3, r4, r5, r6, r7, r8, rfl, hZ6, hD6,
                  (hwh.mono fun v r q => q.mono hle6).append (.cons hkept .nil), htl.mono hle6, hjl, by rw [List.length_append]; exact Nat.succ_le_succ hwj, (fun _ => ⟨Nat.le_succ_of_le g6, g7, by rw [g8, hgrab, if_neg hng]; simp⟩), (fun q => by rw [hgo1] at q; cases q), rfl⟩
            · have hfr1 : fr = false := ‹_›
              have hng : ¬ (fr = true ∧ x ∈ ens) := fun q => by rw [hfr1] at q; cases q.1
              unfold AtStop
              rename Fr _ _ _ _ => F13
              rename News _ _ _ _ => N13
              refine lappend F13 N13 (.head fun p hp => ?_) (small_of hwj hj hn) (fun h14 F14 N14 => ?_)
              · rcases List.mem_cons.mp hp with rfl | hp
                · exact Nat.ne_of_lt hDw
                · exact (hD6 p hp).1
              repeat' walk1
              rename Fr _ _ _ _ => F15
              rename News _ _ _ _ => N15
              exact ⟨_, _, _, _, (if go = true then 1 else 0) + (rows.length - (j + 1)), rfl, F15, N15, Nat.add_lt_add_left (Nat.sub_succ_lt_self _ _ hjl) _, j + 1, _, _, ln', wws ++ [.ref d9], whole ++ [ks], cw + 1, ta, tl, go, (t9, o9) :: (d9, od9) :: Z5, r1, int_some rfl, r3, r4, r5, r6, r7, r8, rfl, hZ6, hD6,
                (hwh.mono fun v r q => q.mono hle6).append (.cons hkept .nil), htl.mono hle6, hjl, by rw [List.length_append]; exact Nat.succ_le_succ hwj, (fun _ => ⟨Nat.le_succ_of_le g6, g7, by rw [g8, hgrab, if_neg hng]; simp⟩), (fun q => by rw [hgo1] at q; cases q), rfl⟩
        · have hgo1 : go = true := ‹_›
          have hge : rows.length ≤ j := le_of_int ‹¬ (j : Int) < vs.length› hvl
          obtain ⟨g6, g7, g8⟩ := hgo hgo1
          have hG : i < j ∧ grab ens (rows.drop i') line = (whole, tl, ln, rows.drop j) := ⟨Nat.lt_of_lt_of_le hlt' hge, by rw [g8, g7, List.drop_of_length_le hge]; simp [grab]⟩
          unfold AtStop
          rename Fr _ _ _ _ => F9
          rename News _ _ _ _ => N9
          dsimp only at N9
          refine lappend F9 N9 (.tail (Nat.ne_of_gt hz8) (.tail (Nat.ne_of_gt hDw) (.head fun p hp => (hD5 p hp).2))) (small_of hwl hile hn) (fun h10 F10 N10 => ?_)
          repeat' walk1
          have le5 : (inZ Z5).Le (inZ ((h8.objs.size, tupOf [Value.ref lw, Value.ref ta, Value.int ln t7]) :: (lw, listOf (List.toArray wws) cw) :: Z5)) := inZ_le fun p hp => .tail _ (.tail _ hp)
          refine ⟨_, _, _, _, rows.length - j, rfl, F10, fun p hp => N10 p ?_, step_lt hG.1 hj, j, t6, t7, ln, wvs ++ [Value.ref h8.objs.size], acc ++ [(whole, tl, ln)], c1 + 1, (h8.objs.size, tupOf [Value.ref lw, Value.ref ta, Value.int ln t7]) :: (lw, listOf (List.toArray wws) cw) :: Z5, n', q1, q2, q3, q4, rfl,
            (hw.mono fun v wd x => x.mono (inZ_le fun p hp => .tail _ (.tail _ (hZ5 p (hZ4 p hp))))).append (.cons ⟨_, _, _, _, _, rfl, .head _, tobj, ⟨wws, ⟨_, _, rfl, .tail _ (.head _), lobj⟩, hwh.mono fun v r q => q.mono le5⟩, htl.mono le5⟩ .nil), ?_, hj, step_le hG.1 hn2, by rw [List.length_append]; exact Nat.le_trans (Nat.succ_le_succ hwl) hG.1, by rw [hb4, hG.2]; simp, rfl⟩
          · simp only [List.mem_cons] at hp ⊢
            rcases hp with hp | hp | hp | hp
            · exact .inr (.inr (.inl hp))
            · exact .inl hp
            · exact .inr (.inl hp)
            · exact .inr (.inr (.inr hp))
          · intro p hp
            rcases List.mem_cons.mp hp with rfl | hp
            · exact Nat.ne_of_gt hz8
            · rcases List.mem_cons.mp hp with rfl | hp
              · exact Nat.ne_of_gt hDw
              · exact (hD5 p hp).2
        · have hgo1 : go = false := ‹_›
          obtain ⟨g6, g8⟩ := hst hgo1
          have hG : i < j ∧ grab ens (rows.drop i') line = (whole, tl, ln, rows.drop j) := ⟨Nat.lt_of_lt_of_le (Nat.lt_succ_of_le hi1) g6, g8⟩
          unfold AtStop
          rename Fr _ _ _ _ => F9
          rename News _ _ _ _ => N9
          dsimp only at N9
          refine lappend F9 N9 (.tail (Nat.ne_of_gt hz8) (.tail (Nat.ne_of_gt hDw) (.head fun p hp => (hD5 p hp).2))) (small_of hwl hile hn) (fun h10 F10 N10 => ?_)
          repeat' walk1
          have le5 : (inZ Z5).Le (inZ ((h8.objs.size, tupOf [Value.ref lw, Value.ref ta, Value.int ln t7]) :: (lw, listOf (List.toArray wws) cw) :: Z5)) := inZ_le fun p hp => .tail _ (.tail _ hp)
          refine ⟨_, _, _, _, rows.length - j, rfl, F10, fun p hp => N10 p ?_, step_lt hG.1 hj, j, t6, t7, ln, wvs ++ [Value.ref h8.objs.size], acc ++ [(whole, tl, ln)], c1 + 1, (h8.objs.size, tupOf [Value.ref lw, Value.ref ta, Value.int ln t7]) :: (lw, listOf (List.toArray wws) cw) :: Z5, n', q1, q2, q3, q4, rfl,
            (hw.mono fun v wd x => x.mono (inZ_le fun p hp => .tail _ (.tail _ (hZ5 p (hZ4 p hp))))).append (.cons ⟨_, _, _, _, _, rfl, .head _, tobj, ⟨wws, ⟨_, _, rfl, .tail _ (.head _), lobj⟩, hwh.mono fun v r q => q.mono le5⟩, htl.mono le5⟩ .nil), ?_, hj, step_le hG.1 hn2, by rw [List.length_append]; exact Nat.le_trans (Nat.succ_le_succ hwl) hG.1, by rw [hb4, hG.2]; simp, rfl⟩
          · simp only [List.mem_cons] at hp ⊢
            rcases hp with hp | hp | hp | hp
            · exact .inr (.inr (.inl hp))
            · exact .inl hp
            · exact .inr (.inl hp)
            · exact .inr (.inr (.inr hp))
          · intro p hp
            rcases List.mem_cons.mp hp with rfl | hp
            · exact Nat.ne_of_gt hz8
            · rcases List.mem_cons.mp hp with rfl | hp
              · exact Nat.ne_of_gt hDw
              · exact (hD5 p hp).2
  · have hge : rows.length ≤ i := le_of_int ‹¬ (i : Int) < vs.length› hvl
    rename_i l1 _ lt1 l2 h3 _ N3 lt2 h4 F4 N4
    have hz := Heap.lt_size (N3 (D0, listOf wvs.toArray c1) (.tail _ (.tail _ (.head _)))).1
    dsimp only at N4
    refine lappend F4 N4 (.tail (Nat.ne_of_gt hz) (.tail (Nat.ne_of_gt lt2.2.1) (.tail (Nat.ne_of_gt lt1.1) (.head hZ)))) (small_of hwl hile hn) (fun h5 F5 N5 => ?_)
    repeat' walk1
    have e9 : wordsF rows.length rows 1 = acc ++ [([], [], line)] := by rw [hb, List.drop_of_length_le hge]; cases n <;> rfl
    refine k _ _ D0 (listOf (wvs ++ [Value.ref h3.objs.size]).toArray (c1 + 1)) (wvs ++ [Value.ref h3.objs.size]) ((h3.objs.size, tupOf [Value.ref l1, Value.ref l2, Value.int line t2]) :: (l2, listOf #[] 0) :: (l1, listOf #[] 0) :: Z) F5.keep (fun p hp => NewIn.of N5 p ?_) lobj ?_
    · simp only [List.mem_cons] at hp ⊢
      rcases hp with rfl | rfl | rfl | rfl | hp
      · exact .inr (.inr (.inr (.inl rfl)))
      · exact .inl rfl
      · exact .inr (.inl rfl)
      · exact .inr (.inr (.inl rfl))
      · exact .inr (.inr (.inr (.inr hp)))
    · rw [e9]
      refine (hw.mono fun v wd x => x.mono (inZ_le fun p hp => .tail _ (.tail _ (.tail _ hp)))).append (.cons ⟨_, _, _, _, _, rfl, .head _, tobj, ⟨[], ⟨_, _, rfl, .tail _ (.tail _ (.head _)), rfl, 0, rfl⟩, .nil⟩, ⟨[], ⟨_, _, rfl, .tail _ (.head _), rfl, 0, rfl⟩, .nil⟩⟩ .nil)
end PartWords
section PartPlain
set_option maxHeartbeats 200000
theorem off_plain : True := by (w_top off); trivial
theorem rd_open : ∀ (ds : List Int) (v : Int) (cs : List Nat), (∀ d ∈ ds, 0 ≤ d ∧ d < 64) → rd v (openC ds ++ cs) = rd (ds.foldl (fun a d => 64 * a + d) v) cs
  | [], _, _, _ => rfl
  | d :: ds, v, cs, h => by
    have hd := h d (.head _)
    show rd v ((64 + d).toNat :: (openC ds ++ cs)) = _
    rw [rd, if_pos (by omega), rd_open ds _ cs fun x hx => h x (.tail _ hx)]
    have e : (((64 + d).toNat % 64 : Nat) : Int) = d := by omega
    rw [e]; rfl
theorem row_split {r : List Int} (h : r ≠ []) : ∃ ds d, r = ds ++ [d] := ⟨r.dropLast, r.getLast h, (List.dropLast_concat_getLast h).symm⟩
theorem signC_eq (ds : List Int) (d : Int) : signC (ds ++ [d]) = openC ds ++ [d.toNat] := by simp [signC]
theorem worth_snoc (ds : List Int) (d : Int) : worth (ds ++ [d]) = 64 * worth ds + d := by simp [worth, List.foldl_append]
theorem rd_sign {r : List Int} (h : RowOk r) (cs : List Nat) : rd 0 (signC r ++ cs) = worth r :: rd 0 cs := by
  obtain ⟨ds, d, rfl⟩ := row_split h.1
  have hd := h.2.2 d (by simp)
  rw [signC_eq, worth_snoc, List.append_assoc, rd_open _ _ _ fun x hx => h.2.2 x (by simp [hx])]
  show rd _ (d.toNat :: cs) = _
  rw [rd, if_neg (by omega)]
  have e : ((d.toNat % 64 : Nat) : Int) = d := by omega
  rw [e]; rfl
theorem signsC_cons (r : List Int) (rows : List (List Int)) : signsC (r :: rows) = signC r ++ signsC rows := rfl
theorem signsC_app (a b : List (List Int)) : signsC (a ++ b) = signsC a ++ signsC b := by simp [signsC]
theorem rd_signs : ∀ (rows : List (List Int)) (cs : List Nat), (∀ r ∈ rows, RowOk r) → rd 0 (signsC rows ++ cs) = rows.map worth ++ rd 0 cs
  | [], _, _ => rfl
  | r :: rows, cs, h => by
    rw [signsC_cons, List.append_assoc, rd_sign (h r (.head _)), rd_signs rows cs fun x hx => h x (.tail _ hx)]
    rfl
theorem rd_tail {ds : List Int} (h : ∀ d ∈ ds, 0 ≤ d ∧ d < 64) : rd 0 (openC ds) = [] := by
  have e := rd_open ds 0 [] h
  rw [List.append_nil] at e
  rw [e]; rfl
theorem rd_word {whole : List (List Int)} {tail : List Int} (h : ∀ r ∈ whole, RowOk r) (ht : ∀ d ∈ tail, 0 ≤ d ∧ d < 64) : rd 0 (signsC whole ++ openC tail) = whole.map worth := by
  rw [rd_signs whole _ h, rd_tail ht, List.append_nil]
theorem digits_ok {n : Int} (h0 : 0 ≤ n) (h1 : n < 262144) : RowOk (digits n) := by
  unfold digits
  split
  · refine ⟨by simp, by simp, ?_⟩
    simp; omega
  · split
    · refine ⟨by simp, by simp, ?_⟩
      simp; omega
    · refine ⟨by simp, by simp, ?_⟩
      simp; omega
theorem digits_worth {n : Int} (h0 : 0 ≤ n) : worth (digits n) = n := by
  unfold digits
  split
  · simp [worth]
  · split
    · simp [worth]; omega
    · simp [worth]; omega
theorem rd_text {ns : List Int} (h : ∀ n ∈ ns, 0 ≤ n ∧ n < 262144) : rd 0 (signsC (ns.map digits)) = ns := by
  have e := rd_signs (ns.map digits) [] (fun r hr => by
    obtain ⟨n, hn, rfl⟩ := List.mem_map.mp hr
    exact digits_ok (h n hn).1 (h n hn).2)
  rw [List.append_nil] at e
  rw [e, List.map_map]
  show ns.map _ ++ [] = ns
  rw [List.append_nil]
  conv => rhs; rw [← List.map_id ns]
  exact List.map_congr_left fun n hn => digits_worth (h n hn).1
/- the name -/
theorem dir_ne {c : Nat} {r : List Nat} (h : c ≠ 34) : dirT (c :: r) = c :: dirT r := by
  cases r <;> simp [dirT, h]
theorem dir_open : ∀ (ds : List Int) (cs : List Nat), (∀ d ∈ ds, 0 ≤ d ∧ d < 64) → dirT (openC ds ++ cs) = openC ds ++ dirT cs
  | [], _, _ => rfl
  | d :: ds, cs, h => by
    have hd := h d (.head _)
    show dirT ((64 + d).toNat :: (openC ds ++ cs)) = _
    rw [dir_ne (by omega), dir_open ds cs fun x hx => h x (.tail _ hx)]
    rfl
theorem dir_sign {r : List Int} (h : RowOk r) (e : r.getLast? ≠ some 34) (cs : List Nat) : dirT (signC r ++ cs) = signC r ++ dirT cs := by
  obtain ⟨ds, d, rfl⟩ := row_split h.1
  have hd := h.2.2 d (by simp)
  have hd2 : d ≠ 34 := by simpa using e
  rw [signC_eq, List.append_assoc, dir_open _ _ fun x hx => h.2.2 x (by simp [hx])]
  show openC ds ++ dirT (d.toNat :: cs) = _
  rw [dir_ne (by omega)]; simp
theorem sign_34 {r : List Int} (h : RowOk r) (e : r.getLast? = some 34) : signC r = openC r.dropLast ++ [34] := by
  simp [signC, e]
theorem dir_34 {r : List Int} (h : RowOk r) (e : r.getLast? = some 34) (cs : List Nat) : dirT (signC r ++ cs) = openC r.dropLast ++ dirT (34 :: cs) := by
  rw [sign_34 h e, List.append_assoc, dir_open _ _ fun x hx => h.2.2 x ((List.dropLast_sublist r).subset hx)]
  rfl
theorem sign_head {q : List Int} (h : RowOk q) (hq : q ≠ [34]) : ∃ c r, signC q = c :: r ∧ c ≠ 34 := by
  obtain ⟨ds, d, rfl⟩ := row_split h.1
  rw [signC_eq]
  cases ds with
  | nil =>
    have hd := h.2.2 d (by simp)
    have : d ≠ 34 := fun e => hq (by rw [e]; rfl)
    exact ⟨_, _, rfl, by omega⟩
  | cons x ds =>
    have hx := h.2.2 x (by simp)
    exact ⟨(64 + x).toNat, openC ds ++ [d.toNat], rfl, by omega⟩
theorem dir_named : ∀ rows : List (List Int), (∀ r ∈ rows, RowOk r) → dirT (signsC rows) = signsC (named rows).1 ++ openC (named rows).2
  | [], _ => rfl
  | [r], h => by
    have hr := h r (.head _)
    rw [named]
    split
    · rename_i e
      have := dir_34 hr e []
      rw [List.append_nil] at this
      show dirT (signC r ++ []) = _
      rw [List.append_nil, this]
      simp [dirT, signsC]
    · rename_i e
      have := dir_sign hr e []
      show dirT (signC r ++ []) = _
      rw [this]
      simp [dirT, signsC, openC]
  | r :: q :: rest, h => by
    have hr := h r (.head _)
    have hq := h q (.tail _ (.head _))
    rw [named]
    split
    · rename_i e
      rw [signsC_cons, dir_34 hr e, signsC_cons]
      split
      · rename_i eq
        subst eq
        show openC r.dropLast ++ dirT (34 :: 34 :: signsC rest) = _
        rw [dirT, if_pos rfl, if_pos rfl, dir_named rest fun x hx => h x (.tail _ (.tail _ hx)), signsC_cons, sign_34 hr e]
        simp
      · rename_i eq
        obtain ⟨c, t, e1, e2⟩ := sign_head hq eq
        rw [e1]
        show openC r.dropLast ++ dirT (34 :: c :: (t ++ signsC rest)) = _
        rw [dirT, if_pos rfl, if_neg e2]
        simp [signsC]
    · rename_i e
      rw [signsC_cons, dir_sign hr e, dir_named (q :: rest) fun x hx => h x (.tail _ hx), signsC_cons, List.append_assoc]
theorem named_ok : ∀ rows : List (List Int), (∀ r ∈ rows, RowOk r) → (∀ r ∈ (named rows).1, RowOk r) ∧ (named rows).2.length ≤ 2 ∧ (∀ d ∈ (named rows).2, 0 ≤ d ∧ d < 64) ∧ (named rows).1.length ≤ rows.length
  | [], _ => by simp [named]
  | [r], h => by
    have hr := h r (.head _)
    rw [named]
    split
    · refine ⟨by simp, by have := hr.2.1; simp; omega, fun d hd => hr.2.2 d ((List.dropLast_sublist r).subset hd), by simp⟩
    · exact ⟨by simpa using hr, by simp, by simp, by simp⟩
  | r :: q :: rest, h => by
    have hr := h r (.head _)
    rw [named]
    split
    · split
      · obtain ⟨a, b, c, d⟩ := named_ok rest fun x hx => h x (.tail _ (.tail _ hx))
        exact ⟨fun x hx => (List.mem_cons.mp hx).elim (fun e => e ▸ hr) (a x), b, c, by simp; omega⟩
      · refine ⟨by simp, by have := hr.2.1; simp; omega, fun d hd => hr.2.2 d ((List.dropLast_sublist r).subset hd), by simp⟩
    · obtain ⟨a, b, c, d⟩ := named_ok (q :: rest) fun x hx => h x (.tail _ hx)
      exact ⟨fun x hx => (List.mem_cons.mp hx).elim (fun e => e ▸ hr) (a x), b, c, by simp at d ⊢; omega⟩
/- one row under the lexer -/
theorem ws_big {c : Nat} (h : 64 ≤ c) : isWs c = false := by
  simp [isWs]; omega
theorem ws_mem {d : Int} (h0 : 0 ≤ d) : isWs d.toNat = true ↔ d ∈ ([9, 10, 13, 32] : List Int) := by
  obtain ⟨n, rfl⟩ := Int.eq_ofNat_of_zero_le h0
  rw [Int.toNat_natCast]
  constructor
  · intro h
    simp only [isWs, Bool.or_eq_true, beq_iff_eq] at h
    rcases h with ((rfl | rfl) | rfl) | rfl <;> decide
  · intro h
    simp only [List.mem_cons, List.not_mem_nil, or_false] at h
    rcases h with h | h | h | h <;> (cases Int.ofNat.inj h; rfl)
theorem signC_two (d x : Int) (r : List Int) : signC (d :: x :: r) = (64 + d).toNat :: signC (x :: r) := by
  simp [signC, openC]
theorem plain_row : ∀ (r : List Int) (cs acc : List Nat), r ≠ [] → (∀ d ∈ r, 0 ≤ d ∧ d < 64) →
    plainT (signC r ++ cs) acc = if (bare true r).2 = true ∧ r.getLast?.getD 0 ∈ ([9, 10, 13, 32] : List Int) then (acc ++ openC (bare true r).1.dropLast, cs) else plainT cs (acc ++ signC (bare true r).1)
  | [], _, _, h, _ => absurd rfl h
  | [d], cs, acc, _, hb => by
    have hd := hb d (.head _)
    have e : signC [d] ++ cs = d.toNat :: cs := rfl
    rw [e, plainT_c]
    by_cases hw : d ∈ ([9, 10, 13, 32] : List Int)
    · rw [if_pos ((ws_mem hd.1).mpr hw), if_pos ⟨rfl, hw⟩]; simp [bare, openC]
    · rw [if_neg (fun q => hw ((ws_mem hd.1).mp q)), if_neg (by omega), if_neg (fun q => hw q.2)]; rfl
  | [d, x], cs, acc, _, hb => by
    have hd := hb d (.head _)
    have hx := hb x (.tail _ (.head _))
    have e : signC [d, x] ++ cs = (64 + d).toNat :: x.toNat :: cs := rfl
    rw [e, plainT_c, ws_big (by omega)]
    by_cases h : d = 28
    · subst h
      simp [bare, signC, openC]
    · rw [if_neg (by simp), if_neg (by omega), plainT_c]
      by_cases hw : x ∈ ([9, 10, 13, 32] : List Int)
      · rw [if_pos ((ws_mem hx.1).mpr hw), if_pos ⟨by simp [bare, h], hw⟩]; simp [bare, h, openC]
      · rw [if_neg (fun q => hw ((ws_mem hx.1).mp q)), if_neg (by omega), if_neg (fun q => hw q.2)]; simp [bare, h, signC, openC]
  | d :: x :: y :: r, cs, acc, _, hb => by
    have hd := hb d (.head _)
    have hx := hb x (.tail _ (.head _))
    rw [signC_two]
    show plainT ((64 + d).toNat :: (signC (x :: y :: r) ++ cs)) acc = _
    rw [plainT_c, ws_big (by omega)]
    by_cases h : d = 28
    · obtain ⟨a, _, _, _⟩ := bare_facts (y :: r) (by simp)
      obtain ⟨k0, ks, hk⟩ := List.exists_cons_of_ne_nil a
      rw [if_neg (by simp), if_pos (by omega), signC_two]
      show plainT (signC (y :: r) ++ cs) (acc ++ [(64 + x).toNat]) = _
      rw [plain_row (y :: r) cs _ (by simp) fun z hz => hb z (.tail _ (.tail _ hz))]
      have e1 : bare true (d :: x :: y :: r) = (x :: (bare true (y :: r)).1, (bare true (y :: r)).2) := bare_28 h
      have e2 : (d :: x :: y :: r).getLast? = (y :: r).getLast? := by simp
      rw [e1, e2]
      dsimp only
      rw [hk, signC_two]
      simp [openC]
    · rw [if_neg (by simp), if_neg (by omega)]
      obtain ⟨a, _, _, _⟩ := bare_facts (x :: y :: r) (by simp)
      obtain ⟨k0, ks, hk⟩ := List.exists_cons_of_ne_nil a
      rw [plain_row (x :: y :: r) cs _ (by simp) fun z hz => hb z (.tail _ hz)]
      have e1 : bare true (d :: x :: y :: r) = (d :: (bare true (x :: y :: r)).1, (bare true (x :: y :: r)).2) := bare_no h
      have e2 : (d :: x :: y :: r).getLast? = (x :: y :: r).getLast? := by simp
      rw [e1, e2]
      dsimp only
      rw [hk, signC_two]
      simp [openC]
theorem quote_row : ∀ (r : List Int) (cs acc : List Nat), r ≠ [] → (∀ d ∈ r, 0 ≤ d ∧ d < 64) →
    quoteT (signC r ++ cs) acc = if (bare true r).2 = true ∧ r.getLast?.getD 0 ∈ ([34] : List Int) then (acc ++ openC (bare true r).1.dropLast, cs) else quoteT cs (acc ++ signC (bare true r).1)
  | [], _, _, h, _ => absurd rfl h
  | [d], cs, acc, _, hb => by
    have hd := hb d (.head _)
    have e : signC [d] ++ cs = d.toNat :: cs := rfl
    rw [e, quoteT_c]
    by_cases hw : d = 34
    · rw [if_pos (by omega), if_pos ⟨rfl, by simp [hw]⟩]; simp [bare, openC]
    · rw [if_neg (by omega), if_neg (by omega), if_neg (fun q => hw (by simpa using q.2))]; rfl
  | [d, x], cs, acc, _, hb => by
    have hd := hb d (.head _)
    have hx := hb x (.tail _ (.head _))
    have e : signC [d, x] ++ cs = (64 + d).toNat :: x.toNat :: cs := rfl
    rw [e, quoteT_c, if_neg (by omega)]
    by_cases h : d = 28
    · subst h
      simp [bare, signC, openC]
    · rw [if_neg (by omega), quoteT_c]
      by_cases hw : x = 34
      · rw [if_pos (by omega), if_pos ⟨by simp [bare, h], by simp [hw]⟩]; simp [bare, h, openC]
      · rw [if_neg (by omega), if_neg (by omega), if_neg (fun q => hw (by simpa using q.2))]; simp [bare, h, signC, openC]
  | d :: x :: y :: r, cs, acc, _, hb => by
    have hd := hb d (.head _)
    have hx := hb x (.tail _ (.head _))
    rw [signC_two]
    show quoteT ((64 + d).toNat :: (signC (x :: y :: r) ++ cs)) acc = _
    rw [quoteT_c, if_neg (by omega)]
    by_cases h : d = 28
    · obtain ⟨a, _, _, _⟩ := bare_facts (y :: r) (by simp)
      obtain ⟨k0, ks, hk⟩ := List.exists_cons_of_ne_nil a
      rw [if_pos (by omega), signC_two]
      show quoteT (signC (y :: r) ++ cs) (acc ++ [(64 + x).toNat]) = _
      rw [quote_row (y :: r) cs _ (by simp) fun z hz => hb z (.tail _ (.tail _ hz))]
      have e1 : bare true (d :: x :: y :: r) = (x :: (bare true (y :: r)).1, (bare true (y :: r)).2) := bare_28 h
      have e2 : (d :: x :: y :: r).getLast? = (y :: r).getLast? := by simp
      rw [e1, e2]
      dsimp only
      rw [hk, signC_two]
      simp [openC]
    · rw [if_neg (by omega)]
      obtain ⟨a, _, _, _⟩ := bare_facts (x :: y :: r) (by simp)
      obtain ⟨k0, ks, hk⟩ := List.exists_cons_of_ne_nil a
      rw [quote_row (x :: y :: r) cs _ (by simp) fun z hz => hb z (.tail _ hz)]
      have e1 : bare true (d :: x :: y :: r) = (d :: (bare true (x :: y :: r)).1, (bare true (x :: y :: r)).2) := bare_no h
      have e2 : (d :: x :: y :: r).getLast? = (x :: y :: r).getLast? := by simp
      rw [e1, e2]
      dsimp only
      rw [hk, signC_two]
      simp [openC]
theorem row_last {r : List Int} (h : r ≠ []) : (bare true r).1.getLast? = r.getLast? := (bare_facts r h).2.1
theorem kept_ok {r : List Int} (h : RowOk r) : RowOk (bare true r).1 := by
  obtain ⟨a, _, c, e⟩ := bare_facts r h.1
  exact ⟨a, Nat.le_trans c h.2.1, fun d hd => h.2.2 d (e d hd)⟩
theorem count_open : ∀ ds : List Int, (∀ d ∈ ds, 0 ≤ d ∧ d < 64) → (openC ds).count 10 = 0
  | [], _ => rfl
  | d :: ds, h => by
    have hd := h d (.head _)
    show ((64 + d).toNat :: openC ds).count 10 = 0
    rw [List.count_cons, count_open ds fun x hx => h x (.tail _ hx)]
    have e : ((64 + d).toNat == 10) = false := by rw [beq_eq_false_iff_ne]; omega
    rw [e]; rfl
theorem count_sign {r : List Int} (h : RowOk r) : (signC r).count 10 = if r.getLast? = some 10 then 1 else 0 := by
  obtain ⟨ds, d, rfl⟩ := row_split h.1
  have hd := h.2.2 d (by simp)
  rw [signC_eq, List.count_append, count_open ds fun x hx => h.2.2 x (by simp [hx])]
  have e : (ds ++ [d]).getLast? = some d := by simp
  rw [e]
  by_cases h : d = 10
  · subst h; rfl
  · rw [if_neg (by simpa using h)]
    have : ([d.toNat] : List Nat).count 10 = 0 := by
      rw [List.count_cons, List.count_nil]
      have e : (d.toNat == 10) = false := by rw [beq_eq_false_iff_ne]; omega
      rw [e]; rfl
    rw [this]
noncomputable def wsE : List Int := [9, 10, 13, 32]
theorem plain_grab : ∀ (rs : List (List Int)) (line : Int) (acc : List Nat), (∀ r ∈ rs, RowOk r) →
    plainT (signsC rs) acc = (acc ++ (signsC (grab [9, 10, 13, 32] rs line).1 ++ openC (grab [9, 10, 13, 32] rs line).2.1), signsC (grab [9, 10, 13, 32] rs line).2.2.2)
  | [], line, acc, _ => by show plainT [] acc = _; rw [plainT_n]; simp [grab, signsC, openC]
  | r :: rest, line, acc, h => by
    have hr := h r (.head _)
    rw [signsC_cons, plain_row r _ _ hr.1 hr.2.2]
    simp only [grab]
    rw [row_last hr.1]
    split
    · simp [signsC]
    · rw [plain_grab rest (if r.getLast? = some 10 then line + 1 else line) _ fun x hx => h x (.tail _ hx)]
      simp [signsC_cons]
theorem quote_grab : ∀ (rs : List (List Int)) (line : Int) (acc : List Nat), (∀ r ∈ rs, RowOk r) →
    quoteT (signsC rs) acc = (acc ++ (signsC (grab [34] rs line).1 ++ openC (grab [34] rs line).2.1), signsC (grab [34] rs line).2.2.2)
  | [], line, acc, _ => by show quoteT [] acc = _; rw [quoteT_n]; simp [grab, signsC, openC]
  | r :: rest, line, acc, h => by
    have hr := h r (.head _)
    rw [signsC_cons, quote_row r _ _ hr.1 hr.2.2]
    simp only [grab]
    rw [row_last hr.1]
    split
    · simp [signsC]
    · rw [quote_grab rest (if r.getLast? = some 10 then line + 1 else line) _ fun x hx => h x (.tail _ hx)]
      simp [signsC_cons]
theorem grab_facts (ends : List Int) : ∀ (rs : List (List Int)) (line : Int), (∀ r ∈ rs, RowOk r) →
    (∀ r ∈ (grab ends rs line).1, RowOk r) ∧ ((grab ends rs line).2.1.length ≤ 3 ∧ ∀ d ∈ (grab ends rs line).2.1, 0 ≤ d ∧ d < 64) ∧
    (∀ r ∈ (grab ends rs line).2.2.2, RowOk r) ∧ (grab ends rs line).2.2.2.length ≤ rs.length - 1 ∧ (grab ends rs line).1.length ≤ rs.length ∧
    (grab ends rs line).2.2.1 + ((signsC (grab ends rs line).2.2.2).count 10 : Nat) = line + ((signsC rs).count 10 : Nat)
  | [], line, _ => by simp [grab, signsC]
  | r :: rest, line, h => by
    have hr := h r (.head _)
    have hk := kept_ok hr
    have hc := count_sign hr
    have hrest : ∀ x ∈ rest, RowOk x := fun x hx => h x (.tail _ hx)
    simp only [grab]
    rw [row_last hr.1]
    split
    · refine ⟨by simp, ⟨?_, fun d hd => hk.2.2 d ((List.dropLast_sublist _).subset hd)⟩, hrest, by simp, by simp, ?_⟩
      · have := hk.2.1; simp; omega
      · dsimp only
        rw [signsC_cons, List.count_append, hc]
        split <;> omega
    · obtain ⟨a, b, c, d, d2, e⟩ := grab_facts ends rest (if r.getLast? = some 10 then line + 1 else line) hrest
      refine ⟨fun x hx => (List.mem_cons.mp hx).elim (fun q => q ▸ hk) (a x), b, c, by simp; omega, by simp; omega, ?_⟩
      dsimp only
      rw [e, signsC_cons, List.count_append, hc]
      split <;> omega
theorem skip_one {r : List Int} {rest : List (List Int)} (h : RowOk r) (h1 : r.length = 1) (h2 : r.getD 0 0 ∈ ([9, 10, 13, 32] : List Int)) : skipT (signsC (r :: rest)) = skipT (signsC rest) := by
  obtain ⟨d, rfl⟩ := List.length_eq_one_iff.mp h1
  have hd := h.2.2 d (by simp)
  show skipT (d.toNat :: signsC rest) = _
  rw [skipT, if_pos ((ws_mem hd.1).mpr (by simpa using h2))]
theorem skip_quote {rest : List (List Int)} : skipT (signsC ([34] :: rest)) = quoteT (signsC rest) [] := by
  show skipT (34 :: signsC rest) = _
  rw [skipT, if_neg (by decide), if_pos rfl]
theorem skip_plain {r : List Int} {rest : List (List Int)} (h : RowOk r) (h1 : ¬ (r.length = 1 ∧ r.getD 0 0 ∈ ([9, 10, 13, 32] : List Int))) (h2 : ¬ r = [34]) : skipT (signsC (r :: rest)) = plainT (signsC (r :: rest)) [] := by
  have key : ∀ (c : Nat) (t : List Nat), isWs c = false → c ≠ 34 → skipT (c :: t) = plainT (c :: t) [] := fun c t e1 e2 => by
    rw [skipT, plainT_c]
    simp only [e1, Bool.false_eq_true, if_false, if_neg e2, List.nil_append]
  match r, h, h1, h2 with
  | [], h, _, _ => exact absurd rfl h.1
  | [d], h, h1, h2 =>
    have hd := h.2.2 d (by simp)
    show skipT (d.toNat :: signsC rest) = plainT (d.toNat :: signsC rest) []
    refine key _ _ ?_ (fun e => h2 (by rw [show d = 34 by omega]))
    cases q : isWs d.toNat with
    | false => rfl
    | true => exact absurd ⟨rfl, (ws_mem hd.1).mp q⟩ h1
  | d :: x :: t, h, _, _ =>
    have hd := h.2.2 d (by simp)
    rw [signsC_cons, signC_two]
    show skipT ((64 + d).toNat :: (signC (x :: t) ++ signsC rest)) = plainT ((64 + d).toNat :: (signC (x :: t) ++ signsC rest)) []
    exact key _ _ (ws_big (by omega)) (by omega)
inductive WStep (W : List Wd) (rs : List (List Int)) (line : Int) : Prop
  | mk (wd : Wd) (ws : List Wd) (rs' : List (List Int)) (e1 : W = wd :: ws) (e2 : skipT (signsC rs) = (signsC wd.1 ++ openC wd.2.1, signsC rs')) (e3 : wd.2.2 + ((signsC rs').count 10 : Nat) = line + ((signsC rs).count 10 : Nat))
    (e4 : ∀ r ∈ rs', RowOk r) (e5 : rs'.length ≤ rs.length) (e6 : ws = [] ∨ ∃ n', rs'.length ≤ n' ∧ ws = wordsF n' rs' wd.2.2) (e7 : ∀ r ∈ wd.1, RowOk r) (e8 : wd.1.length ≤ rs.length) (e9 : wd.2.1.length ≤ 3) (e10 : ∀ d ∈ wd.2.1, 0 ≤ d ∧ d < 64) : WStep W rs line
theorem words_step : ∀ (n : Nat) (rs : List (List Int)) (line : Int), (∀ r ∈ rs, RowOk r) → rs.length ≤ n →
    WStep (wordsF n rs line) rs line
  | n, [], line, _, _ => ⟨([], [], line), [], [], by cases n <;> rfl, by simp [signsC, skipT, openC], rfl, by simp, Nat.le_refl _, .inl rfl, by simp, by simp, by simp, by simp⟩
  | 0, r :: rs, _, _, hl => by simp at hl
  | n + 1, r :: rest, line, h, hl => by
    have hr := h r (.head _)
    have hrest : ∀ x ∈ rest, RowOk x := fun x hx => h x (.tail _ hx)
    have hl' : rest.length ≤ n := by simpa using hl
    rw [wordsF]
    by_cases h1 : r.length = 1 ∧ r.getD 0 0 ∈ ([9, 10, 13, 32] : List Int)
    · rw [if_pos h1]
      obtain ⟨wd, ws, rs', e1, e2, e3, e4, e5, e6, e7, e8, e9, e10⟩ := words_step n rest (if r.getD 0 0 = 10 then line + 1 else line) hrest hl'
      refine ⟨wd, ws, rs', e1, by rw [skip_one hr h1.1 h1.2, e2], ?_, e4, by simp; omega, e6, e7, by simp; omega, e9, e10⟩
      obtain ⟨d, rfl⟩ := List.length_eq_one_iff.mp h1.1
      have hc := count_sign hr
      rw [e3, signsC_cons, List.count_append, hc]
      simp only [List.getD_cons_zero, List.getLast?_singleton, Option.some.injEq]
      split <;> omega
    · rw [if_neg h1]
      by_cases h2 : r = [34]
      · rw [if_pos h2]
        subst h2
        obtain ⟨a, b, c, d, d2, e⟩ := grab_facts [34] rest line hrest
        have hc := count_sign hr
        refine ⟨_, _, (grab [34] rest line).2.2.2, rfl, ?_, ?_, c, by simp; omega, .inr ⟨n, by omega, rfl⟩, a, by simp; omega, b.1, b.2⟩
        · rw [skip_quote, quote_grab rest line [] hrest]; rfl
        · dsimp only
          rw [e, signsC_cons, List.count_append, hc]
          simp
      · rw [if_neg h2]
        obtain ⟨a, b, c, d, d2, e⟩ := grab_facts [9, 10, 13, 32] (r :: rest) line h
        simp at d
        refine ⟨_, _, (grab [9, 10, 13, 32] (r :: rest) line).2.2.2, rfl, ?_, e, c, by simp; omega, .inr ⟨n, by omega, rfl⟩, a, d2, b.1, b.2⟩
        rw [skip_plain hr h1 h2, plain_grab (r :: rest) line [] h]; rfl
theorem name_rows {told : List (List Int)} {cut : List Int} : signsC (told ++ [cut ++ [10]]) = (signsC told ++ openC cut) ++ [10] := by
  rw [signsC_app, signsC_cons, signC_eq]
  simp [signsC]
theorem last_ok {told : List (List Int)} {cut : List Int} (h : ∀ r ∈ told, RowOk r) (h1 : cut.length ≤ 2) (h2 : ∀ d ∈ cut, 0 ≤ d ∧ d < 64) : ∀ r ∈ told ++ [cut ++ [10]], RowOk r := fun r hr => by
  rcases List.mem_append.mp hr with hr | hr
  · exact h r hr
  · rw [List.mem_singleton.mp hr]
    refine ⟨by simp, by simp; omega, fun d hd => ?_⟩
    rcases List.mem_append.mp hd with hd | hd
    · exact h2 d hd
    · rw [List.mem_singleton.mp hd]; decide
end PartPlain
section PartCompUse2
set_option maxHeartbeats 200000
theorem off_compuse2 : True := by (w_top off); trivial
section
variable {prog : Program} {w : World} {A : Around} {E : Value → Shared → Prop} {s : Shared} {env : Env}
/-- an assignment of a comprehension -/
noncomputable def AssignRR (prog : Program) (w : World) (A : Around) (env : Env) (y : Str) (py : Pos) (Q : Flow → Shared → Prop) (E : Value → Shared → Prop) (acc : Value) (cenv : Env) (r : Result) (s' : Shared) : Prop :=
  match r with
  | .ok _ => wpAny (model prog w) A (assign (.Name y py) env acc) (fun _ s'' => ∃ m, s''.heap.Ns cenv.locals m ∧ ∀ h', Heap.SameBut cenv.locals s''.heap h' → Q .next { s'' with heap := h' }) E s'
  | .error x => ∃ m, s'.heap.Ns cenv.locals m ∧ ∀ h', Heap.SameBut cenv.locals s'.heap h' → wpAny (model prog w) A (passOn "comprehension.variables-let-go" x cenv : Sem Value) (fun _ s' => Q .next s') E { s' with heap := h' }
noncomputable def AssignCompAt (prog : Program) (w : World) (A : Around) (env : Env) (elt : Expr) (x y : Str) (scope : Scope) (pos : Pos) (iter : Expr) (px py : Pos) (Q : Flow → Shared → Prop) (E : Value → Shared → Prop) (xv : Value) (s₁ : Shared) : Prop :=
  wpAny (model prog w) A (pyIter xv) (fun it s₂ => wpAny (model prog w) A (newList []) (fun acc s₃ =>
      wpAny (model prog w) A (newFunctionEnv scope env.globals [] [] env.qual none .none (some env)) (fun cenv s₄ =>
        codeAny (model prog w) A (.compStart (.ListComp elt [⟨.Name x px, iter, [], 0⟩] scope pos) 0 it acc { cenv with scope := scope }) (AssignRR prog w A env y py Q E acc { cenv with scope := scope }) s₄) E s₃) E s₂) E s₁
theorem AssignComp_go {elt iter : Expr} {x y : Str} {px py : Pos} {scope : Scope} {pos spos : Pos} {Q : Flow → Shared → Prop}
    (hsw : swapsWith (.ListComp elt [⟨.Name x px, iter, [], 0⟩] scope pos) (some (.Name y py)) spos.line env = pure true)
    (hfree : ∀ z ∈ scope.names, z.2 ≠ .free) (hkind : scope.kind = .function) (hnames : ∀ z ∈ scope.names, z.2 = .local → scope.names.lookup z.1 = some .local)
    (h : wpAny (model prog w) A (eval iter env) (AssignCompAt prog w A env elt x y scope pos iter px py Q E) E s)
    (hs : ∀ x, foldedSetIterable iter env x = pure x := by intro _; rfl) :
    wpAny (model prog w) A (exec (.Assign [.Name y py] (.ListComp elt [⟨.Name x px, iter, [], 0⟩] scope pos) spos) env) Q E s := by
  rw [exec_Assign_Name_used _ _ _ _ hsw]
  refine wpAny_bind (wpAny_standAt (wpAny_bind ?_))
  show wpAny _ A (do let _ ← comprehension (.ListComp elt [⟨.Name x px, iter, [], 0⟩] scope pos) scope env _ (newList []) false (eval iter env) (some (assign (.Name y py) env))) _ _ s
  exact wpAny_bind (wpAny_mono (wpAny_comprehension_use (Q := fun _ s' => Q .next s') rfl hs hfree hkind hnames (wpAny_mono h (fun xv s₁ h₁ => h₁) fun _ _ e => e))
    (fun _ s' hq => wpAny_pure (wpAny_pure hq)) fun _ _ e => e)
theorem assign_comp_list {elt iter : Expr} {x y : Str} {px py : Pos} {scope : Scope} {pos : Pos} {Q : Flow → Shared → Prop} {l : Addr} {vs : List Value} {h₀ : Heap} {m : Str → Option Value} {news : List (Addr × Obj)}
    (J : Nat → List Value → List (Addr × Obj) → Prop) (hh : A.handled = none) (F : Fr h₀ env.locals s.heap m) (N : News h₀ env.locals s.heap news) (hl : s.heap.IsList l vs.toArray)
    (hj : J 0 [] []) (hn : vs.length ≤ sizeLine) (hlen : ∀ i ys nw, J i ys nw → ys.length = i)
    (turn : ∀ i v ys nw C D I h tk m₂ own, vs[i]? = some v → J i ys nw → m₂ x = some v → (∀ p ∈ nw, p.1 ≠ I ∧ p.1 ≠ D) → (∃ oD, (D, oD) ∈ own) → (∃ oI, (I, oI) ∈ own) → Fr s.heap C h m₂ → News s.heap C h (nw ++ own) →
      wpAny (model prog w) A (eval elt (compEnv scope C env)) (EltEnd s.heap C D I (J (i + 1)) own ys { s with heap := h, toks := tk }) (fun _ _ => False) { s with heap := h, toks := tk })
    (done : ∀ h' tk D nw ys o, Fr h₀ env.locals h' (fun z => if z = y then some (.ref D) else m z) → News h₀ env.locals h' (((D, o) :: nw) ++ news) → (∀ p ∈ (D, o) :: nw, s.heap.get? p.1 = none) → ListObj ys o → J vs.length ys nw → Q .next { s with heap := h', toks := tk })
    (hcell : ∀ y ∈ scope.names, y.2 ≠ .cell) (hkind : scope.kind = .function) (hx : scope.names.lookup x = some .local)
    (hy : env.kindOf y = some .local) (hp : (env.scope.kind == .class || (env.scope.kind == .module && env.locals != env.globals)) = false) :
    AssignCompAt prog w A env elt x y scope pos iter px py Q E (.ref l) s := by
  obtain ⟨ol, hol, hol'⟩ := id hl
  have hlt := Heap.lt_size hol
  have hne : l ≠ s.heap.objs.size := Nat.ne_of_lt hlt
  have W := Walks.list (prog := prog) (w := w) hh s.heap.objs.size l hne vs.toArray
  have e : vs.toArray.size = vs.length := by simp
  rw [e] at W
  unfold AssignCompAt
  refine comp_core J (fun Q hq => wpAny_pyIter_list hl hq) W rfl (fun h hi hk => ⟨⟨_, hi, rfl, rfl⟩, ol, hk _ _ hol, hol'⟩) (fun i h st => ⟨_, st.1.choose_spec.1⟩) (fun b hb => ?_) hcell hkind hx hj hn hlen
    (fun i v ys nw C D I h tk m₂ own hi hP => turn i v ys nw C D I h tk m₂ own (by simpa using hP)) ?_
  · rcases List.mem_cons.mp hb with e | hb
    · exact .inl e
    · exact .inr (by rw [List.mem_singleton.mp hb]; exact hlt)
  · intro h₁ tk₁ C D nw ys oD m' st hnC hC W1 hCn lo hJ f
    obtain ⟨oL, _, _, hoL, _⟩ := F.ns
    have hLC : env.locals ≠ C := fun q => by rw [q, hC] at hoL; cases hoL
    have hLn : ∀ p ∈ (D, oD) :: nw, p.1 ≠ env.locals := fun p hp q => by
      have := (W1 p hp).2
      rw [q, hoL] at this; cases this
    have hgL : h₀.get? env.locals = none := Heap.get?_none_of_le F.above
    have hgC : ∀ b o, h₀.get? b = some o → b ≠ C := fun b o e q => by
      have := F.keep b o e
      rw [q, hC] at this; cases this
    show wpAny _ A (assign (.Name y py) env (.ref D)) _ _ _
    refine wpAny_assign_Name (wpAny_storeName_local hy (F.ns.keeps st) (fun h₂ hn₂ hs₂ => ?_) hp)
    refine ⟨m', hnC.sameBut hs₂ (Ne.symm hLC), fun h₃ hs₃ => ?_⟩
    have go : ∀ b o, b ≠ C → b ≠ env.locals → h₁.get? b = some o → h₃.get? b = some o := fun b o n1 n2 e => hs₃.extBut b o n1 (hs₂.extBut b o n2 e)
    refine done h₃ _ D nw ys oD ⟨hn₂.sameBut hs₃ hLC, fun b o e => go b o (hgC b o e) (fun q => by rw [q, hgL] at e; cases e) (st b o (F.keep b o e)), F.above⟩ (fun p hp => ?_) (fun p hp => (W1 p hp).2) lo hJ
    rcases List.mem_append.mp hp with hp | hp
    · refine ⟨go _ _ (hCn p hp) (hLn p hp) (W1 p hp).1, hLn p hp, ?_⟩
      cases q : h₀.get? p.1 with
      | none => rfl
      | some o2 =>
        have := F.keep _ _ q
        rw [(W1 p hp).2] at this; cases this
    · refine ⟨go _ _ (fun q => ?_) (N p hp).2.1 (st _ _ (N p hp).1), (N p hp).2⟩
      have := (N p hp).1
      rw [q, hC] at this; cases this
end
end PartCompUse2
section PartLawLem
set_option maxHeartbeats 1000000
theorem off_lawlem : True := by (w_top off); trivial
noncomputable def LawEnd (g : Heap) (L : Addr) (s₁ s' : Shared) : Prop := ∃ h' tk its m, s' = { s₁ with heap := h', toks := tk } ∧ Fr g L h' m ∧ h'.get? 161 = some (tabObj its)
section
variable {g h h' : Heap} {L : Addr} {m : Str → Option Value} {p0 : Addr × Obj} {Z nw news : List (Addr × Obj)}
theorem zgrow (F : Fr g L h m) (N : News g L h (p0 :: Z)) (st : h.StaysIn h') (W : NewIn h h' nw) : News g L h' (p0 :: (nw ++ Z)) := fun p hp => by
  have N' := news_more F N st W
  rcases List.mem_cons.mp hp with rfl | hp
  · exact N' _ (List.mem_append_right _ (.head _))
  · rcases List.mem_append.mp hp with hp | hp
    · exact N' p (List.mem_append_left _ hp)
    · exact N' p (List.mem_append_right _ (.tail _ hp))
inductive IntZ (h : Heap) (v : Value) (ns : List Int) : Prop
  | mk (a : Addr) (vs : List Value) (e : v = .ref a) (hl : h.IsList a vs.toArray) (hi : IntsAre vs ns) : IntZ h v ns
inductive RowsZ (h : Heap) (Z : List (Addr × Obj)) (v : Value) (rows : List (List Int)) : Prop
  | mk (a : Addr) (vs : List Value) (e : v = .ref a) (hl : h.IsList a vs.toArray) (hr : All2 (RowAt h) vs rows) (hk : All2 (IntK (inZ Z)) vs rows) : RowsZ h Z v rows
theorem intZ {v : Value} {ns : List Int} (hz : ∀ p ∈ Z, h.get? p.1 = some p.2) (x : IntK (inZ Z) v ns) : IntZ h v ns := by
  obtain ⟨vs, ⟨a, o, rfl, hm, hc, n, hd⟩, hi⟩ := x
  exact ⟨a, vs, rfl, ⟨o, hz _ hm, hc, n, hd⟩, hi⟩
theorem rowZ {v : Value} {r : List Int} (hz : ∀ p ∈ Z, h.get? p.1 = some p.2) (x : IntK (inZ Z) v r) : RowAt h v r := by
  obtain ⟨a, vs, e, hl, hi⟩ := intZ hz x
  exact ⟨a, vs, e, hl, hi⟩
theorem rowsZ {v : Value} {rows : List (List Int)} (hz : ∀ p ∈ Z, h.get? p.1 = some p.2) (x : RowsK (inZ Z) v rows) : RowsZ h Z v rows := by
  obtain ⟨vs, ⟨a, o, rfl, hm, hc, n, hd⟩, hi⟩ := x
  exact ⟨a, vs, rfl, ⟨o, hz _ hm, hc, n, hd⟩, hi.mono fun _ _ q => rowZ hz q, hi⟩
theorem read_back {oL : Obj} (F : Fr g L h m) (hL : h.get? L = some oL) (bl : ButLed [(L, oL)] h h') (sl : ∃ sl, h'.get? L = some { oL with slots := sl }) : Fr g L h' m := by
  obtain ⟨o, es, ep, ho, hd, r⟩ := F.ns
  rw [hL] at ho; injection ho with ho; subst ho
  obtain ⟨sl, hs⟩ := sl
  refine ⟨⟨_, es, ep, hs, hd, r⟩, fun b o e => bl _ _ (fun q => ?_) (F.keep b o e), F.above⟩
  rw [List.map_singleton, List.mem_singleton] at q
  have hn : g.get? L = none := Heap.get?_none_of_le F.above
  rw [q] at e
  dsimp only at e
  rw [hn] at e; cases e
theorem read_news {oL : Obj} (N : News g L h news) (bl : ButLed [(L, oL)] h h') : News g L h' news := fun p hp =>
  ⟨bl _ _ (fun q => (N p hp).2.1 (by simpa using q)) (N p hp).1, (N p hp).2⟩
end
theorem lread_law {w : World} {s : Shared} {p : Program} {loose : List Str} {mean : ExcName → Option Value} {mg mb : Str → Option Value} {Q E : Value → Shared → Prop} {g : Heap} {L f : Addr} {m : Str → Option Value} {name : Str} {scope : Scope} {cd : Value} {news : List (Addr × Obj)}
    (X : (hd.heap_39 w.params).In g) (T : Top p loose mean mg mb g) (F : Fr g L s.heap m) (N : News g L s.heap news) (hk : scope.kind = .function)
    {cs : List Nat} {t : Tok} (hcs : ∀ c ∈ cs, c < 128) (hn : cs.length ≤ 200)
    (k : ∀ h' tk D o zs, Fr g L h' m → News g L h' ((D, o) :: news) → ListObj zs o → IntsAre zs (rd 0 cs) → Q (.ref D) { s with heap := h', toks := tk }) :
    wpAny (model pr w) (callerA.deeper (envOf name scope L f cd)) (call (.ref 159) [.str (St cs) t]) Q E s := by
  obtain ⟨oL, es, ep, hL, hdL, hr⟩ := id F.ns
  have hgL : g.get? L = none := Heap.get?_none_of_le F.above
  refine lread_spec (fl := [(L, oL)]) (outer := [envOf name scope L f cd]) X T (by exact F.keep) (by show callerA.depth + 1 < 880; decide) rfl (Around.frames_deeper rfl) hcs hn ?_ ?_ ?_ ?_ ?_
  · exact .cons (by show scope.kind ≠ .module; rw [hk]; decide) rfl F.ns (hideAll_none _ (.head _)) trivial
  · intro env he a ha
    rw [List.mem_singleton.mp he] at ha
    cases ha; exact .head _
  · intro q hq
    rw [List.mem_singleton.mp hq]; exact ⟨hL, hgL⟩
  · intro q hq vs e
    rw [List.mem_singleton.mp hq] at e
    rw [hdL] at e; cases e
  · intro h' tk D o zs bl sl W lo hi
    have F' := read_back F hL bl (sl _ (.head _))
    have N' := read_news N bl
    refine k _ _ D o zs F' (fun q hq => ?_) lo hi
    rcases List.mem_cons.mp hq with rfl | hq
    · obtain ⟨w1, w2⟩ := W _ (.head _)
      refine ⟨w1, fun e => ?_, ?_⟩
      · rw [e, hL] at w2; cases w2
      · cases q : g.get? D with
        | none => rfl
        | some o2 =>
          have := F.keep _ _ q
          dsimp only at w2
          rw [w2] at this; cases this
    · exact N' q hq
theorem hgo_tup {prog : Program} {w : World} {A : Around} {elts : List Expr} {x1} {pos : Pos} {I l : Addr} {i : Nat} {s' : Shared} {v : Value} {Q' : Unit → Shared → Prop} {E' : Value → Shared → Prop} (hit : s'.heap.IsListIter I l i) (hq : Q' () s') :
    wpAny (model prog w) A (letOwnedTupleGo (.Tuple elts x1 pos) (.ref I) v) Q' E' s' := by
  cases v with
  | ref T => exact wpAny_letOwnedTupleGo_listiter hit hq
  | _ => exact wpAny_of_eq (a := ()) rfl hq
theorem codes_sign {r : List Int} (h : RowOk r) : ∀ c ∈ signC r, c < 128 := fun c hc => by
  rcases List.mem_append.mp hc with hc | hc
  · obtain ⟨d, hd, rfl⟩ := List.mem_map.mp hc
    have := h.2.2 d ((List.dropLast_sublist r).subset hd)
    omega
  · rw [List.mem_singleton.mp hc]
    obtain ⟨d, hd⟩ : ∃ d, r.getLast? = some d := by
      cases e : r.getLast? with
      | some d => exact ⟨d, rfl⟩
      | none => exact absurd (List.getLast?_eq_none_iff.mp e) h.1
    have := h.2.2 d (List.mem_of_getLast? hd)
    rw [hd]; simp; omega
theorem codes_signs {rows : List (List Int)} (h : ∀ r ∈ rows, RowOk r) : ∀ c ∈ signsC rows, c < 128 := fun c hc => by
  obtain ⟨l, hl, hcl⟩ := List.mem_flatten.mp hc
  obtain ⟨r, hr, rfl⟩ := List.mem_map.mp hl
  exact codes_sign (h r hr) c hcl
theorem codes_open {ds : List Int} (h : ∀ d ∈ ds, 0 ≤ d ∧ d < 64) : ∀ c ∈ openC ds, c < 128 := fun c hc => by
  obtain ⟨d, hd, rfl⟩ := List.mem_map.mp hc
  have := h d hd
  omega
theorem signs_len : ∀ {rows : List (List Int)}, (∀ r ∈ rows, RowOk r) → (signsC rows).length ≤ 3 * rows.length
  | [], _ => by simp [signsC]
  | r :: rest, h => by
    have h1 := signs_len (rows := rest) fun x hx => h x (.tail _ hx)
    have h2 := signC_len (h r (.head _))
    have h3 := (h r (.head _)).2.1
    rw [signsC_cons, List.length_append, List.length_cons]
    omega
theorem new_ne {h : Heap} {nw : List (Addr × Obj)} {a : Addr} {o : Obj} (W : ∀ p ∈ nw, h.get? p.1 = none) (e : h.get? a = some o) : ∀ p ∈ nw, p.1 ≠ a := fun p hp q => by
  have := W p hp
  rw [q, e] at this; cases this
theorem grab_line (ends : List Int) : ∀ (rs : List (List Int)) (line : Int), line ≤ (grab ends rs line).2.2.1
  | [], line => Int.le_refl _
  | r :: rest, line => by
    have h := grab_line ends rest (if (bare true r).1.getLast? = some 10 then line + 1 else line)
    simp only [grab]
    split
    · dsimp only; split <;> omega
    · dsimp only
      refine Int.le_trans ?_ h
      split <;> omega
theorem words_line : ∀ (n : Nat) (rs : List (List Int)) (line : Int) {wd : Wd} {ws : List Wd}, wordsF n rs line = wd :: ws → line ≤ wd.2.2
  | n, [], line, wd, ws, h => by
    have h : [(([] : List (List Int)), ([] : List Int), line)] = wd :: ws := by cases n <;> exact h
    injection h with h1 h2
    rw [← h1]; exact Int.le_refl _
  | 0, r :: rs, line, wd, ws, h => by
    have h : [(([] : List (List Int)), ([] : List Int), line)] = wd :: ws := h
    injection h with h1 h2
    rw [← h1]; exact Int.le_refl _
  | n + 1, r :: rest, line, wd, ws, h => by
    rw [wordsF] at h
    split at h
    · refine Int.le_trans ?_ (words_line n rest _ h)
      split <;> omega
    · split at h
      · injection h with h1 h2
        rw [← h1]; exact grab_line _ _ _
      · injection h with h1 h2
        rw [← h1]; exact grab_line _ _ _
theorem fresh_of {G h : Heap} {L : Addr} {m : Str → Option Value} (F : Fr G L h m) (p : Addr) (e : h.get? p = none) : p ≠ L ∧ G.get? p = none := by
  obtain ⟨oL, _, _, hL, _⟩ := F.ns
  refine ⟨(fun z => by rw [z, hL] at e; cases e), ?_⟩
  cases q : G.get? p with
  | none => rfl
  | some o2 => have := F.keep _ _ q; rw [e] at this; cases this
theorem news_keep {g h h' : Heap} {L : Addr} {l : List (Addr × Obj)} (N : News g L h l) (st : h.StaysIn h') : News g L h' l := fun p hp => ⟨st _ _ (N p hp).1, (N p hp).2⟩
theorem tok_method {w : World} {A : Around} {E : Value → Shared → Prop} {s : Shared} {g : Heap} {L lx dl pb : Addr} {m : Str → Option Value} {Pq : List (Addr × Obj)} {k1 k2 k3 k4 t t3 : Tok} {n : Int} {v : Value} {pl : Sem Bool} {Q : Value × List Value → Shared → Prop}
    (X : (hd.heap_39 w.params).In g) (F : Fr g L s.heap m) (N : News g L s.heap ((lx, instObj 59 dl) :: (dl, dictOf (lexEs w.params k1 k2 k3 k4 t t3 n v pb) 4) :: Pq)) (h : Q (.ref 49, [.ref lx]) s) :
    wpAny (model pr w) A (getMethod (.ref lx) (Str.ofString "get_token") pl) Q E s := by
  refine' method_inst (f := 49) (C := 59) F X (InstAt.of_news N (.head _) (.tail _ (.head _))) ?k4 ?k5 ?k6 ?k7 h
  case k4 => k_is
  case k5 => k_is
  case k6 => k_is
  case k7 => k_get
theorem line_attr {w : World} {A : Around} {E : Value → Shared → Prop} {s : Shared} {g : Heap} {L lx dl pb : Addr} {m : Str → Option Value} {Pq : List (Addr × Obj)} {k1 k2 k3 k4 t t3 : Tok} {n : Int} {v : Value} {ex : Bool} {Q : Value → Shared → Prop}
    (X : (hd.heap_39 w.params).In g) (F : Fr g L s.heap m) (N : News g L s.heap ((lx, instObj 59 dl) :: (dl, dictOf (lexEs w.params k1 k2 k3 k4 t t3 n v pb) 4) :: Pq)) (h : Q (.int n t) { s with toks := s.toks + 1 }) :
    wpAny (model pr w) A (getAttr (.ref lx) (Str.ofString "lineno") ex) Q E s := by
  refine' get_own (C := 59) F X (InstAt.of_news N (.head _) (.tail _ (.head _))) ?k4 ?k5 ?k6 ?k7 ?k8 ?k9 h
  case k4 => k_is
  case k5 => k_is
  case k6 => k_is
  case k7 => k_is
  case k8 => k_get
  case k9 => k_handed
end PartLawLem
section PartLaw
set_option maxHeartbeats 4000000
theorem off_law : True := by (w_top off); trivial









local macro_rules | `(tactic| walk_at "execs cons") => `(tactic| with_reducible refine wpAny_execs_cons ?_)
local macro_rules | `(tactic| walk_at "eval ListComp Call cons") => `(tactic| with_unfolding_all refine Comp_go (by decide) (by rfl) (by decide) ?_)
local macro_rules | `(tactic| walk_at "exec Assign cons ListComp") => `(tactic| with_unfolding_all refine AssignComp_go (by with_unfolding_all rfl) (by decide) (by rfl) (by decide) ?_)
local macro_rules | `(tactic| walk_at "same 4") => `(tactic| with_unfolding_all refine atStop ?_)
local macro_rules | `(tactic| walk_at "compareOp NotEq ref ref") => `(tactic| walk_at "same 4")
local macro_rules | `(tactic| walk_at "compareOp NotEq str str") => `(tactic| walk_at "same 4")
local macro_rules | `(tactic| walk_at "binaryOp Add ref ref") => `(tactic| walk_at "same 4")
local macro_rules | `(tactic| walk_at "binaryOp Add str str") => `(tactic| walk_at "same 4")
local macro_rules | `(tactic| walk_at "assign Tuple") => `(tactic| ((with_reducible show wpAny _ _ (assign (Expr.Tuple _ _ _) _ (Value.ref _)) _ _ _); (with_unfolding_all refine unpackN_ (by assumption) (by assumption) (by assumption) (by rfl) (by rfl) (by rfl) ?_); intro _ _ _))
local macro_rules | `(tactic| walk_at "getAttr ref") => `(tactic| walk_at "same 4")
inductive LawJ (lx : Addr) (Z3 : List (Addr × Obj)) (a : LexA) (P : Params) (k : Nat) (wds : List Wd) (i : Nat) (m : Str → Option Value) (nx : List (Addr × Obj)) : Prop
  | mk (hlx : m (Str.ofString "lexer") = some (.ref lx)) (n : Int) (t : Tok) (oI : Obj) (its : _) (rs : List (List Int)) (e : nx = ((161, tabObj its) :: Z3) ++ lexLed a P n t oI) (hi : IterSt oI (signsC rs)) (hok : ∀ r ∈ rs, RowOk r) (hl : rs.length ≤ 43) (h0 : 0 ≤ n)
    (hc : n + ((signsC rs).count 10 : Nat) = 1 + (k : Nat)) (hw : wds.drop i = [] ∨ ∃ nf, rs.length ≤ nf ∧ wds.drop i = wordsF nf rs n) : LawJ lx Z3 a P k wds i m nx
theorem lawwalk : PySem.Challenge.rw_tx0010_01.Holds := hd (by
  k_go0
  rename Below _ _ _ _ => K0
  rename Fr _ _ _ _ => F0
  rename News _ _ _ _ => N0
  rename Top topProg _ _ _ _ _ => T0
  rename IntsAre _ _ => I0
  rename Heap.CodeRec _ _ _ => z1
  clear z1
  rename Dflts _ _ _ _ _ _ => z2
  clear z2
  rename _ = #[] => hgens
  rename_i w s₀ s₁ mg mb Gr Y fa o pm cd doc kV ho Xm V T B TE TW ns hs hlay0 hL1 hr1 hl2 w2 w3 a0 vs0 w4 hL ra w1 r0 hr hlen0 hc h1 X0 l0
  have hlen : ns.length ≤ 63 := by omega
  refine wpAny_mono (Q := fun f s' => f = .ret (.bool true) ∧ LawEnd (ghostOf s₁.heap [(165, 161)]) s₁.heap.objs.size s₁ s') (E := fun _ _ => False) ?walk ?fin (fun _ _ x => x.elim)
  case fin =>
    rintro f s' ⟨rfl, h', tk, its, m, rfl, F9, h9⟩
    refine ⟨?_, ⟨its, h9⟩, trivial⟩
    close_w
  case walk =>
    clear Y ho Xm V TE TW hL1 hr1 hl2 hL ra w1 r0 hr hc B T hs hlay0 hT9 hgens
    generalize hG : ghostOf s₁.heap [(165, 161)] = G at *
    generalize hLL : s₁.heap.objs.size = L at *
    have hdep : callerA.depth + 1 < 800 := by decide
    have hunits : ∀ {e : Env}, (callerA.deeper e).units + 64 < cLine := fun {e} => by
      have := cLine_is
      have h2 : (callerA.deeper e).units < 1000 := by first | decide | (simp [Around.deeper, callerA]; done) | (show callerA.units + _ < 1000; decide)
      omega
    have hfin : ∀ {h : Heap} {Z : List (Addr × Obj)} {p0 : Addr × Obj}, News G L h (p0 :: Z) → ∀ p ∈ Z, h.get? p.1 = some p.2 := fun N p hp => (N p (.tail _ hp)).1
    repeat' walk1
    unfold AtCall
    refine numbers_spec (X0.keeps F0.keep) (T0.keeps F0.keep) (by show callerA.depth + 1 < 900; decide) rfl (lifted.at (F0.keep _)) I0 hlen (fun h2 tk2 D1 o1 zs ms st2 W2 lo1 hi1 hb1 hl1 => ?_)
    have F2 := F0.keeps st2
    have N2 : News G L h2 ((161, tabObj #[]) :: [(D1, o1)]) := zgrow F0 N0 st2 W2
    have hD1 : D1 ≠ 161 := new_ne (fun p hp => (W2 p hp).2) (N0 (161, tabObj #[]) (.head _)).1 (D1, o1) (.head _)
    clear F0 N0 W2 st2
    repeat' walk1
    rename Fr _ _ _ _ => F3
    rename News _ _ _ _ => N3
    have X1 := X0.keeps F3.keep
    have T1 := T0.keeps F3.keep
    have hzl := hi1.length
    refine assign_comp_list (fun i ys nw => ys.length = i ∧ All2 (IntK (inZ nw)) ys ((ms.take i).map digits)) rfl F3 N3 ⟨o1, (N3 (D1, o1) (.tail _ (.head _))).1, lo1.1, lo1.2⟩ ⟨rfl, .nil⟩ ?_ ?_ ?_ ?_ (by decide) rfl rfl rfl rfl
    · rw [sizeLine_eq]; omega
    · exact fun i ys nw h => h.1
    · rintro i v ys nw C D I h tk m₂ own hv ⟨hy, ha⟩ hm hne ⟨oD, hoD⟩ ⟨oI, hoI⟩ F4 N4
      obtain ⟨n, u, rfl, hd⟩ := IntsAre.at hi1 i v hv
      have hnb := hb1 n (List.mem_of_getElem? hd)
      repeat' walk1
      unfold AtCall
      rename Fr _ _ _ _ => F4
      refine digits_spec (X1.keeps F4.keep) (T1.keeps F4.keep) (by show callerA.depth + 1 < 900; decide) rfl hnb.1 hnb.2 (fun h5 tk5 a5 o5 vs5 st5 W5 lo5 hi5 => ?_)
      have F5 := F4.keeps st5
      have N5 := news_more F4 N4 st5 W5
      have w5 := (W5 _ (.head _)).2
      dsimp only at w5
      refine EltEnd.intro (nw := (a5, o5) :: nw) F5 N5 (fun p hp => ?_) (fun p hp => List.mem_append_right _ (List.mem_append_right _ hp)) (fun p hp => ?_) ⟨by simp [hy], ?_⟩
      · rcases List.mem_cons.mp hp with rfl | hp
        · exact List.mem_append_left _ (.head _)
        · exact List.mem_append_right _ (List.mem_append_left _ hp)
      · rcases List.mem_cons.mp hp with rfl | hp
        · refine ⟨fun q => ?_, fun q => ?_⟩
          · have := (N4 _ (List.mem_append_right _ hoI)).1
            dsimp only at q this
            rw [← q, w5] at this; cases this
          · have := (N4 _ (List.mem_append_right _ hoD)).1
            dsimp only at q this
            rw [← q, w5] at this; cases this
        · exact hne p hp
      · rw [List.take_add_one, hd, Option.toList_some, List.map_append]
        exact (ha.mono fun v r q => q.mono (inZ_le fun p hp => .tail _ hp)).append (.cons ⟨vs5, ⟨a5, o5, rfl, .head _, lo5⟩, hi5⟩ .nil)
    rintro h6 tk6 D2 nwr rys o2 F6 N6 wf6 lo2 ⟨hly, har⟩
    rw [hzl, List.take_length] at har
    obtain ⟨rows, hrowsE⟩ : ∃ rows, rows = ms.map digits := ⟨_, rfl⟩
    rw [← hrowsE] at har
    have hok : ∀ r ∈ rows, RowOk r := fun r hr => by
      rw [hrowsE] at hr
      obtain ⟨n, hn, rfl⟩ := List.mem_map.mp hr
      exact digits_ok (hb1 n hn).1 (hb1 n hn).2
    have hrn : rows.length ≤ 42 := by rw [hrowsE, List.length_map]; exact hl1
    have hrt : rd 0 (signsC rows) = ms := by rw [hrowsE]; exact rd_text hb1
    have hcd := codes_signs hok
    have hsl := signs_len hok
    have hS : (signsC rows).length ≤ 126 := Nat.le_trans hsl (Nat.mul_le_mul_left 3 hrn)
    obtain ⟨Z, N7, hne1, hrows, hnum⟩ : ∃ Z, News G L h6 ((161, tabObj #[]) :: Z) ∧ (∀ p ∈ Z, p.1 ≠ 161) ∧ RowsK (inZ Z) (.ref D2) rows ∧ IntK (inZ Z) (.ref D1) ms := by
      refine ⟨((D2, o2) :: nwr) ++ [(D1, o1)], fun p hp => N6 p ?_, fun p hp => (List.mem_append.mp hp).elim (new_ne wf6 (N3 (161, tabObj #[]) (.head _)).1 p) (fun hp => by rw [List.mem_singleton.mp hp]; exact hD1), ⟨rys, ⟨D2, o2, rfl, .head _, lo2⟩, har.mono fun v r q => q.mono (inZ_le fun p hp => .tail _ (List.mem_append_left _ hp))⟩, ⟨zs, ⟨D1, o1, rfl, List.mem_append_right _ (.head _), lo1⟩, hi1⟩⟩
      rcases List.mem_cons.mp hp with rfl | hp
      · exact List.mem_append_right _ (.head _)
      · rcases List.mem_append.mp hp with hp | hp
        · exact List.mem_append_left _ hp
        · exact List.mem_append_right _ (.tail _ hp)
    clear F3 N3 N6 wf6 X1 T1 har lo2 hly hrowsE lo1 hi1 hzl hb1
    repeat' walk1
    unfold AtCall
    rename Fr _ _ _ _ => F7
    rename News _ _ _ _ => N7
    obtain ⟨_, rvs, e, hrl, hrr, hrk⟩ := rowsZ (hfin N7) hrows
    cases e
    refine signs_spec (X0.keeps F7.keep) (T0.keeps F7.keep) (by show callerA.depth + 1 < 890; decide) rfl hrl hrr hok (Nat.le_trans hrn (by decide)) (fun h8 tk8 t8 st8 => ?_)
    have F8 := F7.keeps st8
    have N8 : News G L h8 ((161, tabObj #[]) :: Z) := zgrow F7 N7 st8 NewIn.nil
    clear F7 N7 hrl hrr hrk st8
    repeat' walk1
    unfold AtCall
    rename Fr _ _ _ _ => F9
    rename News _ _ _ _ => N9
    refine lread_law X0 T0 F9 N9 rfl hcd (Nat.le_trans hS (by decide)) (fun h10 tk10 D3 o3 zs3 F10 N10 lo3 hi3 => ?_)
    rw [hrt] at hi3
    clear F9 N9
    repeat' walk1
    unfold AtStop
    rename Fr _ _ _ _ => F11
    rename News _ _ _ _ => N11
    obtain ⟨_, zs1, e, hl1b, hi1b⟩ := intZ (Z := Z) (fun p hp => (N11 p (.tail _ (.tail _ hp))).1) hnum
    cases e
    refine ke_ne_ints ⟨o3, (N11 (D3, o3) (.head _)).1, lo3.1, lo3.2⟩ hl1b hi3 hi1b ?_ ?_
    · exact hunits
    rw [show (!decide (ms = ms)) = false by simp]
    have N12 : News G L h10 ((161, tabObj #[]) :: Z) := fun p hp => N11 p (.tail _ hp)
    clear N11 hl1b hi1b zs1 lo3 hi3
    repeat' walk1
    unfold AtCall
    rename Fr _ _ _ _ => F12
    rename News _ _ _ _ => N12
    obtain ⟨_, rvs, e, hrl, hrr, hrk⟩ := rowsZ (hfin N12) hrows
    cases e
    refine named_spec (X0.keeps F12.keep) (T0.keeps F12.keep) (by show callerA.depth + 1 < 900; decide) (by have h := @hunits; have := cLine_is; first | decide | (show callerA.units + _ < 1000; decide)) rfl hrl hrk (fun v r q => rowZ (hfin N12) q) (Nat.le_trans hrn (by decide)) hok (fun h13 tk13 t13 o13 d13 od13 tvs c13 oc13 cvs st13 W13 tob lo13 hat lc13 hci => ?_)
    obtain ⟨told, cut, hnm⟩ : ∃ told cut, named rows = (told, cut) := ⟨_, _, rfl⟩
    have hno := named_ok rows hok
    have hdir := dir_named rows hok
    rw [hnm] at hat hci hno hdir
    dsimp only at hat hci hno hdir
    obtain ⟨hno1, hno2, hno3, hno4⟩ := hno
    have F13 := F12.keeps st13
    have hT : IsTup h13 t13 [Value.ref d13, Value.ref c13].toArray := ⟨o13, (W13 _ (.head _)).1, tob.1, tob.2⟩
    obtain ⟨Z2, N13, hne2, hZ2, htold, hcut⟩ : ∃ Z2, News G L h13 ((161, tabObj #[]) :: Z2) ∧ (∀ p ∈ Z2, p.1 ≠ 161) ∧ (∀ p ∈ Z, p ∈ Z2) ∧ RowsK (inZ Z2) (.ref d13) told ∧ IntK (inZ Z2) (.ref c13) cut :=
      ⟨_, zgrow F12 N12 st13 W13, fun p hp => (List.mem_append.mp hp).elim (new_ne (fun p hp => (W13 p hp).2) (N12 (161, tabObj #[]) (.head _)).1 p) (hne1 p), fun p hp => List.mem_append_right _ hp, ⟨tvs, ⟨d13, od13, rfl, .tail _ (.head _), lo13⟩, hat.mono fun v r q => q.mono (inZ_le fun p hp => List.mem_append_right _ hp)⟩, ⟨cvs, ⟨c13, oc13, rfl, .tail _ (.tail _ (.head _)), lc13⟩, hci⟩⟩
    clear F12 N12 hrl hrr hrk W13 st13 lo13 lc13 hat hci
    repeat' walk1
    unfold AtStop
    rw [show (Str.ofString "257 \"") = St [50, 53, 55, 32, 34] by decide +kernel]
    refine addS (by simp; omega) (fun t14 k14 => ?_)
    repeat' walk1
    unfold AtCall
    rename Fr _ _ _ _ => F15
    rename News _ _ _ _ => N15
    refine parse257_spec (X0.keeps F15.keep) (T0.keeps F15.keep) (by show callerA.depth + 1 < 900; decide) rfl (cs := signsC rows) (Nat.le_trans hS (by decide)) (fun h16 tk16 t16 st16 => ?_)
    rw [hdir]
    have F16 := F15.keeps st16
    have N16 : News G L h16 ((161, tabObj #[]) :: Z2) := zgrow F15 N15 st16 NewIn.nil
    clear F15 N15 st16 hT
    repeat' walk1
    unfold AtCall
    rename Fr _ _ _ _ => F17
    rename News _ _ _ _ => N17
    obtain ⟨_, tvs1, e, htl, htr, htk⟩ := rowsZ (hfin N17) htold
    cases e
    refine signs_spec (X0.keeps F17.keep) (T0.keeps F17.keep) (by show callerA.depth + 1 < 890; decide) rfl htl htr hno1 (Nat.le_trans hno4 (Nat.le_trans hrn (by decide))) (fun h18 tk18 t18 st18 => ?_)
    have F18 := F17.keeps st18
    have N18 : News G L h18 ((161, tabObj #[]) :: Z2) := zgrow F17 N17 st18 NewIn.nil
    clear F17 N17 st18 htl htr htk
    repeat' walk1
    unfold AtCall
    rename Fr _ _ _ _ => F19
    rename News _ _ _ _ => N19
    obtain ⟨_, cvs1, e, hcl, hci⟩ := intZ (hfin N19) hcut
    cases e
    refine open_spec (X0.keeps F19.keep) (T0.keeps F19.keep) (by show callerA.depth + 1 < 900; decide) rfl hcl hci hno3 (Nat.le_trans hno2 (by decide)) (fun h20 tk20 t20 st20 => ?_)
    have F20 := F19.keeps st20
    have N20 : News G L h20 ((161, tabObj #[]) :: Z2) := zgrow F19 N19 st20 NewIn.nil
    clear F19 N19 st20 hcl hci
    have htlen := signs_len hno1
    have hclen := openC_len cut
    repeat' walk1
    unfold AtStop
    refine addS (by omega) (fun t21 k21 => ?_)
    repeat' walk1
    unfold AtStop
    refine ne_str ?_
    rw [show (St (signsC told ++ openC cut) != St (signsC told ++ openC cut)) = false by simp]
    repeat' walk1
    unfold AtStop
    rw [show (Str.ofString "\n") = St [10] by decide +kernel]
    refine addS (by simp; omega) (fun t22 k22 => ?_)
    have hlast := last_ok hno1 hno2 hno3
    have hnr : (signsC told ++ openC cut) ++ [10] = signsC (told ++ [cut ++ [10]]) := name_rows.symm
    rw [hnr]
    repeat' walk1
    unfold AtCall
    rename Fr _ _ _ _ => F23
    rename News _ _ _ _ => N23
    refine lexer_spec X0 T0 (by exact F23.keep) codeHd (N23 (161, tabObj #[]) (.head _)).1 (N23 (161, tabObj #[]) (.head _)).2.2 (by show callerA.depth + 1 < 800; decide) rfl (codes_signs hlast) (fun h24 tk24 a24 t24 oI24 bl24 ⟨its24, h161⟩ O24 hi24 W24 => ?_)
    have F24 := but_fr F23 (led := [(161, tabObj #[])]) (fun p hp => N23 p (by rw [List.mem_singleton.mp hp]; exact .head _)) bl24
    obtain ⟨lx, dl, pb, sr, ds, f, c', cell, I, pb0, lo, oc, cd', k1, k2, k3, k4, t3, j1, j2, j3, j4, j5, u1, u3⟩ := a24
    obtain ⟨a, ha⟩ : ∃ a : LexA, a = ⟨lx, dl, pb, sr, ds, f, c', cell, I, pb0, lo, oc, cd', k1, k2, k3, k4, t3, j1, j2, j3, j4, j5, u1, u3⟩ := ⟨_, rfl⟩
    have hal : a.lx = lx := by rw [ha]
    rw [← ha] at W24 O24
    have hap2 : ∀ q ∈ Z2, q.1 ≠ a.dl ∧ q.1 ≠ a.I := fun q hq => by
      have e := (N23 q (.tail _ hq)).1
      have w1 := (W24 (a.dl, a.dict w.params 1 t24) (by simp)).2
      have w2 := (W24 (a.I, oI24) (by simp)).2
      dsimp only at w1 w2
      exact ⟨(fun z => by rw [z, w1] at e; cases e), (fun z => by rw [z, w2] at e; cases e)⟩
    have hap0 : (161 : Addr) ≠ a.dl ∧ (161 : Addr) ≠ a.I := by
      have e := (N23 (161, tabObj #[]) (.head _)).1
      have w1 := (W24 (a.dl, a.dict w.params 1 t24) (by simp)).2
      have w2 := (W24 (a.I, oI24) (by simp)).2
      dsimp only at w1 w2 e
      exact ⟨(fun z => by rw [z, w1] at e; cases e), (fun z => by rw [z, w2] at e; cases e)⟩
    have hGW := fresh_of F23
    obtain ⟨P, NP, hP1, hP2, hP3⟩ : ∃ P, News G L h24 P ∧ (161, tabObj its24) ∈ P ∧ (∀ q ∈ Z2, q ∈ P) ∧ (∀ q ∈ lexLed a w.params 1 t24 oI24, q ∈ P) := by
      refine ⟨(161, tabObj its24) :: (Z2 ++ lexLed a w.params 1 t24 oI24), fun p hp => ?_, .head _, fun q hq => .tail _ (List.mem_append_left _ hq), fun q hq => .tail _ (List.mem_append_right _ hq)⟩
      rcases List.mem_cons.mp hp with rfl | hp
      · exact ⟨h161, (N23 (161, tabObj #[]) (.head _)).2⟩
      · rcases List.mem_append.mp hp with hp | hp
        · exact ⟨bl24 _ _ (fun z => hne2 p hp (by simpa using z)) (N23 p (.tail _ hp)).1, (N23 p (.tail _ hp)).2⟩
        · exact ⟨(W24 p hp).1, hGW _ (W24 p hp).2⟩
    clear F23 N23 bl24 W24 hGW
    repeat' walk1
    unfold AtStop
    rename Fr _ _ _ _ => F25
    rename News _ _ _ _ => N25
    obtain ⟨_, cvs2, e, hcl, hci⟩ := intZ (Z := Z2) (fun p hp => (N25 p (.tail _ (hP2 p hp))).1) hcut
    cases e
    have hcvl := hci.length
    refine add_lists F25 N25 hcl (isl N25 (.head _)) (fun h26 F26 N26 => ?_) (by rw [sizeLine_eq]; simp; omega)
    clear F25 N25 hcl
    repeat' walk1
    unfold AtStop
    rename Fr _ _ _ _ => F27
    rename News _ _ _ _ => N27
    obtain ⟨_, tvs2, e, htl, htr, htk⟩ := rowsZ (Z := Z2) (fun p hp => (N27 p (.tail _ (.tail _ (.tail _ (hP2 p hp))))).1) htold
    cases e
    have htvl := htr.length
    refine add_lists F27 N27 htl (isl N27 (.head _)) (fun h28 F28 N28 => ?_) (by rw [sizeLine_eq]; simp; omega)
    clear F27 N27 htl
    repeat' walk1
    unfold AtCall
    rename Fr _ _ _ _ => F29
    rename News _ _ _ _ => N29
    obtain ⟨wds, hwds⟩ : ∃ wds, wds = wordsF (told ++ [cut ++ [10]]).length (told ++ [cut ++ [10]]) 1 := ⟨_, rfl⟩
    have hlen43 : (told ++ [cut ++ [10]]).length ≤ 43 := by rw [List.length_append, List.length_singleton]; omega
    refine words_spec (rows := told ++ [cut ++ [10]]) (X0.keeps F29.keep) (T0.keeps F29.keep) (by show callerA.depth + 1 < 880; decide) (by have h := @hunits; have := cLine_is; first | decide | (show callerA.units + _ < 1000; decide)) rfl ⟨_, (N29 _ (.head _)).1, rfl, _, rfl⟩
      ((htk.mono fun v r q => rowZ (fun p hp => (N29 p (.tail _ (.tail _ (.tail _ (.tail _ (hP2 p hp)))))).1) q).append (.cons ⟨_, _, rfl, ⟨_, (N29 _ (.tail _ (.tail _ (.head _)))).1, rfl, _, rfl⟩, hci.append (.cons 10 _ .nil)⟩ .nil)) (Nat.le_trans hlen43 (by decide)) (fun r hr => ⟨(hlast r hr).1, (hlast r hr).2.1⟩) (fun h30 tk30 Dw ow wvs Z4 st30 W30 low hws => ?_)
    rw [← hwds] at hws
    have F30 := F29.keeps st30
    have hap4 : ∀ q ∈ (Dw, ow) :: Z4, q.1 ≠ a.dl ∧ q.1 ≠ a.I := fun q hq =>
      ⟨new_ne (fun p hp => (W30 p hp).2) (N29 (a.dl, a.dict w.params 1 t24) (.tail _ (.tail _ (.tail _ (.tail _ (hP3 _ (by simp))))))).1 q hq, new_ne (fun p hp => (W30 p hp).2) (N29 (a.I, oI24) (.tail _ (.tail _ (.tail _ (.tail _ (hP3 _ (by simp))))))).1 q hq⟩
    obtain ⟨Z3, hZ43, hap3, N31⟩ : ∃ Z3, (∀ p ∈ Z4, p ∈ Z3) ∧ (∀ q ∈ Z3, q.1 ≠ a.dl ∧ q.1 ≠ a.I) ∧ News G L h30 (((161, tabObj its24) :: Z3) ++ lexLed a w.params 1 t24 oI24) := by
      refine ⟨Z4 ++ Z2, fun p hp => List.mem_append_left _ hp, fun q hq => (List.mem_append.mp hq).elim (fun h => hap4 q (.tail _ h)) (hap2 q), fun p hp => ?_⟩
      have N' := news_more F29 N29 st30 W30
      rcases List.mem_append.mp hp with hp | hp
      · rcases List.mem_cons.mp hp with rfl | hp
        · exact N' _ (List.mem_append_right _ (.tail _ (.tail _ (.tail _ (.tail _ hP1)))))
        · rcases List.mem_append.mp hp with hp | hp
          · exact N' _ (List.mem_append_left _ (.tail _ hp))
          · exact N' _ (List.mem_append_right _ (.tail _ (.tail _ (.tail _ (.tail _ (hP2 p hp))))))
      · exact N' _ (List.mem_append_right _ (.tail _ (.tail _ (.tail _ (.tail _ (hP3 p hp))))))
    have hws3 : All2 (WordK (inZ Z3)) wvs wds := hws.mono fun v wd q => q.mono (inZ_le hZ43)
    have hlw : h30.IsList Dw wvs.toArray := ⟨ow, (W30 _ (.head _)).1, low.1, low.2⟩
    have hDwL : Dw ≠ L := (fresh_of F29 Dw (W30 (Dw, ow) (.head _)).2).1
    have hapw := hap4 (Dw, ow) (.head _)
    have hcl10 : (signsC (told ++ [cut ++ [10]])).count 10 ≤ 129 := Nat.le_trans List.count_le_length (Nat.le_trans (signs_len hlast) (Nat.mul_le_mul_left 3 hlen43))
    clear F29 N29 st30 W30 hws hap4 low hP1 hP2 hP3 htk hci hap2
    refine loop_list (LawJ lx Z3 a w.params ((signsC (told ++ [cut ++ [10]])).count 10) wds) rfl hlw hDwL F30 N31
      ⟨rfl, 1, t24, oI24, its24, _, rfl, hi24, hlast, hlen43, by decide, rfl, .inr ⟨_, Nat.le_refl _, hwds⟩⟩ ?_ ?_ ?_
    · exact fun i s' v Q' E' it hq => hgo_tup it hq
    · rintro i v m₁ nx h tk own I' hv hnx hown ⟨hlx, n, t, oI, its, rs, rfl, hi, hok', hrn', hn0, hcnt, hws'⟩ F N
      obtain ⟨wd, hwd, T1, oT, v1, v2, u, rfl, hmT, htob, hr1, hr2⟩ := All2.get' hws3 i v hv
      have hdrop : wds.drop i = wd :: wds.drop (i + 1) := by
        obtain ⟨hi1, hi2⟩ := List.getElem?_eq_some_iff.mp hwd
        rw [List.drop_eq_getElem_cons hi1, hi2]
      obtain ⟨nf, hnf, hwf⟩ : ∃ nf, rs.length ≤ nf ∧ wds.drop i = wordsF nf rs n := by
        rcases hws' with e | e
        · rw [hdrop] at e; cases e
        · exact e
      rw [hdrop] at hwf
      have hline := words_line nf rs n hwf.symm
      obtain ⟨wd', ws', rs', e1, e2, e3, e4, e5, e6, e7, e8, e9, e10⟩ := words_step nf rs n hok' hnf
      rw [← hwf] at e1
      injection e1 with e11 e12
      subst e11 e12
      obtain ⟨whole, tail, line⟩ := wd
      dsimp only at hline e2 e3 e6 e7 e8 e9 e10 htob hr1 hr2
      obtain ⟨wvs1, ⟨wa, owa, rfl, hmW, low1⟩, hrk1⟩ := hr1
      obtain ⟨tvs1, ⟨ta, ota, rfl, hmt, lot1⟩, hti1⟩ := hr2
      have hT : IsTup h T1 [Value.ref wa, Value.ref ta, Value.int line u].toArray := ⟨oT, (N (T1, oT) (List.mem_append_left _ (List.mem_append_left _ (.tail _ hmT)))).1, htob.1, htob.2⟩
      have hkw : RowsK (inZ Z3) (.ref wa) whole := ⟨wvs1, ⟨wa, owa, rfl, hmW, low1⟩, hrk1⟩
      have hkt : IntK (inZ Z3) (.ref ta) tail := ⟨tvs1, ⟨ta, ota, rfl, hmt, lot1⟩, hti1⟩
      have hpre : ∀ q ∈ ((161, tabObj its) :: Z3) ++ own, q.1 ≠ a.dl ∧ q.1 ≠ a.I := fun q hq => by
        rcases List.mem_append.mp hq with hq | hq
        · rcases List.mem_cons.mp hq with rfl | hq
          · exact hap0
          · exact hap3 q hq
        · rcases hown q hq with z | z
          · rw [z]
            exact ⟨fun z => hnx (a.dl, a.dict w.params n t) (List.mem_append_right _ (by simp)) z.symm, fun z => hnx (a.I, oI) (List.mem_append_right _ (by simp)) z.symm⟩
          · rw [z]; exact hapw
      have hI' : ∀ {n2 t2 oI2}, ∀ p ∈ ((161, tabObj its) :: Z3) ++ lexLed a w.params n2 t2 oI2, p.1 ≠ I' := fun {n2 t2 oI2} p hp => by
        rcases List.mem_append.mp hp with hp | hp
        · exact hnx p (List.mem_append_left _ hp)
        · rcases List.mem_append.mp hp with hp | hp
          · exact hnx p (List.mem_append_right _ (List.mem_append_left _ hp))
          · simp only [List.mem_cons, List.not_mem_nil, or_false] at hp
            rcases hp with rfl | rfl
            · exact hnx (a.dl, a.dict w.params n t) (List.mem_append_right _ (by simp))
            · exact hnx (a.I, oI) (List.mem_append_right _ (by simp))
      obtain ⟨Pz, Nz, hPz⟩ : ∃ Pz, News G L h ((lx, instObj 59 dl) :: (dl, dictOf (lexEs w.params k1 k2 k3 k4 t t3 n (.ref sr) pb) 4) :: Pz) ∧ (∀ q ∈ (((161, tabObj its) :: Z3) ++ lexLed a w.params n t oI) ++ own, q ∈ Pz) := by
        refine ⟨_, fun p hp => N p ?_, fun q hq => hq⟩
        rcases List.mem_cons.mp hp with rfl | hp
        · subst ha; exact List.mem_append_left _ (List.mem_append_right _ (List.mem_append_left _ (.head _)))
        · rcases List.mem_cons.mp hp with rfl | hp
          · subst ha; exact List.mem_append_left _ (List.mem_append_right _ (List.mem_append_right _ (.head _)))
          · exact hp
      clear N
      iterate 13 walk1
      rename Fr _ _ _ _ => F5
      rename News _ _ _ _ => N5
      refine MethodCall_ ?_
      refine ld F5 (v := .ref lx) (by exact hlx) ?_
      refine tok_method X0 F5 N5 ?_
      dsimp only
      refine callWith_K0 (K := hd.heap_39 w.params) (X0.keeps F5.keep) (by k_is) ?_
      dsimp only [List.cons_append, List.nil_append, List.append_nil]
      have N5p : News G L _ ((((161, tabObj its) :: Z3) ++ own) ++ lexLed a w.params n t oI) := fun p hp => N5 p (.tail _ (.tail _ (hPz p (by
        rcases List.mem_append.mp hp with hp | hp
        · rcases List.mem_append.mp hp with hp | hp
          · exact List.mem_append_left _ (List.mem_append_left _ hp)
          · exact List.mem_append_right _ hp
        · exact List.mem_append_left _ (List.mem_append_right _ hp)))))
      have hrsl := signs_len hok'
      have hwh : whole.length ≤ 43 := Nat.le_trans e8 hrn'
      rw [← hal]
      refine wpAny_call (gettoken_spec (a := a) X0 T0 (by exact F5.keep) O24 (by show callerA.depth + 1 < 800; decide) rfl hi ⟨hn0, by omega⟩ (fun q hq => ⟨(N5p q (List.mem_append_right _ hq)).1, (N5p q (List.mem_append_right _ hq)).2.2⟩) (fun h6 tk6 oI6 t6 tv6 bl6 hd6 hI6 hi6 => ?_))
      rw [e2] at hd6 hi6 ⊢
      dsimp only at hd6 hi6 ⊢
      have en : n + ((signsC rs).count 10 : Nat) - ((signsC rs').count 10 : Nat) = line := by omega
      rw [en] at hd6
      obtain ⟨F6, N6⟩ := read_step F5 N5p O24 hpre bl6 hd6 hI6
      clear F5 N5 N5p hPz bl6 hd6 hI6 hT
      obtain ⟨Q6, Nq, hQ1, hQ2, hQ3⟩ : ∃ Q6, News G L h6 ((lx, instObj 59 dl) :: (dl, dictOf (lexEs w.params k1 k2 k3 k4 t6 t3 line (.ref sr) pb) 4) :: Q6) ∧ (∀ q ∈ ((161, tabObj its) :: Z3) ++ lexLed a w.params line t6 oI6, q ∈ Q6) ∧ (∀ q ∈ own, q ∈ Q6) ∧ (∀ q ∈ Z3, q ∈ Q6) := by
        refine ⟨_, fun p hp => N6 p ?_, fun q hq => (List.mem_append.mp hq).elim (fun h => List.mem_append_left _ (List.mem_append_left _ h)) (fun h => List.mem_append_right _ h), fun q hq => List.mem_append_left _ (List.mem_append_right _ hq), fun q hq => List.mem_append_left _ (List.mem_append_left _ (.tail _ hq))⟩
        rcases List.mem_cons.mp hp with rfl | hp
        · subst ha; exact List.mem_append_right _ (List.mem_append_left _ (.head _))
        · rcases List.mem_cons.mp hp with rfl | hp
          · subst ha; exact List.mem_append_right _ (List.mem_append_right _ (.head _))
          · exact hp
      clear N6
      repeat' walk1
      unfold AtCall
      rename Fr _ _ _ _ => F7
      rename News _ _ _ _ => N7
      obtain ⟨_, wvs2, e, hwl, hwr, hwk⟩ := rowsZ (Z := Z3) (fun p hp => (N7 p (.tail _ (.tail _ (hQ3 p hp)))).1) hkw
      cases e
      refine signs_spec (X0.keeps F7.keep) (T0.keeps F7.keep) (by show callerA.depth + 1 < 890; decide) rfl hwl hwr e7 (Nat.le_trans hwh (by decide)) (fun h8 tk8 t8 st8 => ?_)
      have F8 := F7.keeps st8
      have N8 := news_keep N7 st8
      clear F7 N7 st8 hwl hwr hwk
      repeat' walk1
      unfold AtCall
      rename Fr _ _ _ _ => F9
      rename News _ _ _ _ => N9
      obtain ⟨_, tvs3, e, htl3, hti3⟩ := intZ (Z := Z3) (fun p hp => (N9 p (.tail _ (.tail _ (hQ3 p hp)))).1) hkt
      cases e
      refine open_spec (X0.keeps F9.keep) (T0.keeps F9.keep) (by show callerA.depth + 1 < 900; decide) rfl htl3 hti3 e10 e9 (fun h10 tk10 t10 st10 => ?_)
      have F10 := F9.keeps st10
      have N10 := news_keep N9 st10
      clear F9 N9 st10 htl3 hti3
      have hwl3 := signs_len e7
      have htl4 := openC_len tail
      repeat' walk1
      unfold AtStop
      refine addS (by omega) (fun t11 k11 => ?_)
      repeat' walk1
      unfold AtStop
      refine ne_str ?_
      rw [show (St (signsC whole ++ openC tail) != St (signsC whole ++ openC tail)) = false by simp]
      iterate 5 walk1
      rename Fr _ _ _ _ => F12
      rename News _ _ _ _ => N12
      refine ld F12 (v := .ref lx) (by exact hlx) ?_
      refine line_attr X0 F12 N12 ?_
      repeat' walk1
      all_goals try (rename line ≠ line => hll; exact absurd rfl hll)
      unfold AtCall
      rename Fr _ _ _ _ => F13
      rename News _ _ _ _ => N13
      have hcdw : ∀ c ∈ signsC whole ++ openC tail, c < 128 := fun c hc => (List.mem_append.mp hc).elim (codes_signs e7 c) (codes_open e10 c)
      refine lread_law X0 T0 F13 N13 rfl hcdw (by rw [List.length_append]; omega) (fun h14 tk14 D14 o14 zs14 F14 N14 lo14 hi14 => ?_)
      rw [rd_word e7 e10] at hi14
      clear F13 N13
      repeat' walk1
      rename Fr _ _ _ _ => F15
      rename News _ _ _ _ => N15
      have X15 := X0.keeps F15.keep
      have T15 := T0.keeps F15.keep
      obtain ⟨_, wvs3, e, hwl5, hwr5, hwk5⟩ := rowsZ (Z := Z3) (fun p hp => (N15 p (.tail _ (.tail _ (.tail _ (hQ3 p hp))))).1) hkw
      cases e
      have hwln := hwr5.length
      refine comp_list (fun i ys nw => nw = [] ∧ ys.length = i ∧ IntsAre ys ((whole.take i).map worth)) rfl hwl5 ⟨rfl, rfl, .nil⟩ ?_ ?_ ?_ ?_ (by decide) rfl rfl
      · rw [sizeLine_eq]; omega
      · exact fun i ys nw h => h.2.1
      · rintro i2 v2 ys nw C D I2 h16 tk16 m₂ own2 hv2 ⟨rfl, hy, hs⟩ hm2 _ _ _ F16 N16
        obtain ⟨r, hr, ra, rvs2, rfl, hrl, hri⟩ := hwr5.get' i2 v2 hv2
        have hrok := e7 r (List.mem_of_getElem? hr)
        iterate 4 walk1
        refine ldc ‹Fr _ _ _ _› hm2 ?_
        repeat' walk1
        unfold AtCall
        rename Fr _ _ _ _ => F17
        refine worth_spec (X15.keeps F17.keep) (T15.keeps F17.keep) (by show callerA.depth + 1 < 900; decide) rfl (hrl.at (F17.keep _)) hri hrok.2.2 hrok.2.1 (fun h18 tk18 t18 st18 => ?_)
        have F18 := F17.keeps st18
        have N18 := news_keep N16 st18
        refine EltEnd.intro (nw := []) F18 N18 (List.forall_mem_nil _) (fun _ hp => hp) (List.forall_mem_nil _) ⟨rfl, by simp [hy], ?_⟩
        rw [List.take_add_one, hr, Option.toList_some, List.map_append]
        exact IntsAre.snoc hs (worth r) t18
      rintro h19 tk19 D19 nw19 ys19 o19 st19 W19 lo19 ⟨rfl, hly, hi19⟩
      rw [hwln, List.take_length] at hi19
      have F19 := F15.keeps st19
      have N19 := news_more F15 N15 st19 W19
      clear F15 N15 X15 T15 hwl5 hwr5 hwk5
      repeat' walk1
      unfold AtStop
      rename Fr _ _ _ _ => F20
      rename News _ _ _ _ => N20
      refine ke_ne_ints ⟨o14, (N20 (D14, o14) (.tail _ (.head _))).1, lo14.1, lo14.2⟩ ⟨o19, (N20 (D19, o19) (.head _)).1, lo19.1, lo19.2⟩ hi14 hi19 hunits ?_
      rw [show (!decide (whole.map worth = whole.map worth)) = false by simp]
      repeat' walk1
      refine TurnEnd.intro (nx := ((161, tabObj its) :: Z3) ++ lexLed a w.params line t6 oI6) F20 N20 (fun p hp => .tail _ (.tail _ (.tail _ (.tail _ (hQ1 p hp))))) (fun p hp => .tail _ (.tail _ (.tail _ (.tail _ (hQ2 p hp))))) (fun p hp => hI' p hp) ⟨(by rw [hal]; exact hlx), line, t6, oI6, its, rs', rfl, hi6, e4, Nat.le_trans e5 hrn', Int.le_trans hn0 hline, e3.trans hcnt, ?_⟩
      exact e6
    · rintro m₁ nx h tk ⟨hlx, n, t, oI, its, rs, rfl, _⟩ F N
      repeat' walk1
      exact ⟨_, _, its, _, rfl, by assumption, (N (161, tabObj its) (List.mem_append_left _ (.head _))).1⟩)
end PartLaw
end Mine
set_option maxRecDepth 100000 in
set_option maxHeartbeats 8000000 in
theorem PySem.Challenge.cw_tx0010_01_holds : PySem.Challenge.rw_tx0010_01.Holds :=
  Mine.lawwalk
