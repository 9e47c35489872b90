import PyProof.Rows.All
import Wide.All
import OpenK.AllK
import Wide.FinOn
import Lean
import PySem.Challenge.RW_re0114_01
set_option Elab.async false
set_option compiler.extract_closed false

/-! Top -/
open PySem PySem.W PyProof.Rows
set_option maxRecDepth 100000
set_option maxHeartbeats 8000000
namespace Mine
open_top hd for PySem.Challenge.rw_re0114_01
end Mine

/-! Mac -/
open PySem PySem.W PySem.Spec PySem.Calls PyProof.Rows
local macro_rules | `(tactic| omega) => `(tactic| first | decide | lia)
local macro_rules | `(tactic| walk_at "mine and") => `(tactic| ((iterate 10 (first | assumption | done | apply And.right)); done))
local macro_rules | `(tactic| walk_at "mine ne") => `(tactic| first | assumption | exact Nat.ne_of_lt (by assumption) | (apply Nat.ne_of_lt; first | (apply And.left; walk_at "mine and") | walk_at "mine and") | (apply And.left; walk_at "mine and") | walk_at "mine and")
local macro_rules | `(tactic| k_ne) => `(tactic| (refine neN ?_; (try dsimp only); first | (with_reducible first | walk_at "mine ne" | (refine Ne.symm ?_; walk_at "mine ne")) | lia))

/-! Base -/
section
open PySem PySem.W PySem.Spec PySem.Calls PyProof.Rows
set_option maxRecDepth 100000
namespace Mine
noncomputable abbrev Lo : List Str := looseW hd.view_39 [Str.ofString "COMPILER_FLAG_NAMES", Str.ofString "Whitespace"]

/-- the end's claim as a letter: so the steps carry it as one word -/
theorem boxQ {p : Program} {w : World} {A : Around} {α : Type} {t : PySem.Sem α} {Q : α → Shared → Prop} {E : Value → Shared → Prop} {s : Shared} (h : ∀ T : α → Shared → Prop, (∀ f s', Q f s' → T f s') → wpAny (model p w) A t T E s) : wpAny (model p w) A t Q E s := h Q fun _ _ q => q

section
variable {prog : Program} {w : World} {A : Around} {s : Shared} {base g : Heap} {fr : List Env} {news : List (Addr × Obj)} {K : Frag}
  {R : Result → Shared → Prop} {name qual : Str} {params : Arguments} {body : List Stmt} {scope : Scope} {dV kV doc pm cdv ct oc : Value} {an od : Option Addr} {osl : Array (Option Value)} {f : Addr} {args : Args} {binds : List (Str × Value)}

/-- a def without cells is entered: all that stands at the call stays below -/
theorem enterP (X : K.In s.heap) (hlim : s.heap.NoLimit) (st : g.StaysIn s.heap) (hsz : g.objs.size ≤ s.heap.objs.size)
    (N : ∀ p ∈ news, s.heap.get? p.1 = some p.2 ∧ g.get? p.1 = none)
    (ho : K.lookup f = some ⟨oc, od, .func (fnOf name qual params body scope dV kV doc pm an cdv ct), osl⟩) (hcd : codeIn K cdv qual = true) (hroom : A.depth < recursionLimit)
    (hbind : BindsTo s (fnOf name qual params body scope dV kV doc pm an cdv ct) args binds) (hloc : ∀ y ∈ binds, scope.names.lookup y.1 = some .local)
    (h : ∀ L' h₁, Fr g L' h₁ (fun y => binds.reverse.lookup y) → News g L' h₁ news → (∀ p ∈ news, p.1 < L') →
      wpAny (model prog w) (A.deeper (envOf qual scope L' f cdv)) (execs body (envOf qual scope L' f cdv))
        (fun fl s' => R (.ok (.ret (match fl with | .ret v => v | _ => .none))) s') (fun _ _ => False)
        { s with heap := h₁, toks := s.toks + binds.length })
    (hco : scope.isCoroutine = false) (hgen : scope.isGenerator = false) (hk : scope.kind = .function)
    (hcell : ∀ x ∈ scope.names, x.2 ≠ .cell) : codeAny (model prog w) A (.call (.ref f) args) R s := by
  refine codeAny_call_def (fd := fnOf name qual params body scope dV kV doc pm an cdv ct) (body := body) (binds := binds) hroom (X _ _ ho) rfl hlim (codeRec_of X hcd) rfl hbind hcell hloc (fun h₁ hns hk₁ => ?_) hco hgen hk
  exact wpAny_mono (h s.heap.objs.size h₁ ⟨hns, fun b o e => hk₁ b o (st b o e), hsz⟩ (fun p hp => ⟨hk₁ _ _ (N p hp).1, Nat.ne_of_lt (Heap.lt_size (N p hp).1), (N p hp).2⟩) (fun p hp => Heap.lt_size (N p hp).1)) (fun _ _ x => x) fun _ _ x => x.elim

/-- the same, a def that has cells -/
theorem enterC (X : K.In s.heap) (hlim : s.heap.NoLimit) (st : g.StaysIn s.heap) (hsz : g.objs.size ≤ s.heap.objs.size)
    (N : ∀ p ∈ news, s.heap.get? p.1 = some p.2 ∧ g.get? p.1 = none)
    (ho : K.lookup f = some ⟨oc, od, .func (fnOf name qual params body scope dV kV doc pm an cdv ct), osl⟩) (hcd : codeIn K cdv qual = true) (hroom : A.depth < recursionLimit)
    (hbind : BindsTo s (fnOf name qual params body scope dV kV doc pm an cdv ct) args binds) (hkind : (binds.all fun y => scope.names.lookup y.1 == some .local || scope.names.lookup y.1 == some .cell) = true)
    (hnd : ((cellsFrom 0 scope.names []).map (·.1)).Nodup)
    (h : ∀ L' h₁ tk cells, Fr g L' h₁ (bindL (envOfC qual scope L' f cdv).kindOf binds fun _ => none) → News g L' h₁ (cells ++ news) →
      CellsAre (bindC (envOfC qual scope L' f cdv).kindOf binds fun _ => none) (cellsFrom (L' + 1) scope.names []) cells → (∀ p ∈ news, p.1 < L') →
      wpAny (model prog w) (A.deeper (envOfC qual scope L' f cdv)) (execs body (envOfC qual scope L' f cdv))
        (fun fl s' => R (.ok (.ret (match fl with | .ret v => v | _ => .none))) s') (fun _ _ => False)
        { s with heap := h₁, toks := tk })
    (hco : scope.isCoroutine = false) (hgen : scope.isGenerator = false) (hk : scope.kind = .function) : codeAny (model prog w) A (.call (.ref f) args) R s := by
  have hkind' := kindsX hkind
  refine codeAny_call_function hroom (X _ _ ho) rfl hco hgen rfl (codeRec_of X hcd) (hbind _ _ _ _ ?_)
  refine wpAny_newFunctionEnv_cells hk (hkind' _) fun env' he s' x => ?_
  subst he
  refine ⟨hlim.keeps x.toInCall.keep, codeAny_func ?_⟩
  obtain ⟨h₁, tk, rfl, _⟩ := x.done
  have hk₁ := x.toInCall.keep
  obtain ⟨cells, NC, Y⟩ := Cl.news (h₀ := s.heap) (Nat.le_refl _) fun n c hm => ⟨x.cell n c (lookup_of_mem_nodup (cellsFrom_names scope.names 0 (s.heap.objs.size + 1) [] [] rfl ▸ hnd) hm), x.above n c hm⟩
  refine wpAny_mono (h s.heap.objs.size h₁ tk cells ⟨x.toInCall.ns, fun b o e => hk₁ b o (st b o e), hsz⟩ (fun p hp => ?_) Y (fun p hp => Heap.lt_size (N p hp).1)) (fun _ _ x => x) fun _ _ x => x.elim
  rcases List.mem_append.mp hp with hp | hp
  · refine ⟨(NC p hp).1, (NC p hp).2.1, ?_⟩
    cases q : g.get? p.1 with
    | none => rfl
    | some o => have := st _ _ q; rw [(NC p hp).2.2] at this; cases this
  · exact ⟨hk₁ _ _ (N p hp).1, Nat.ne_of_lt (Heap.lt_size (N p hp).1), (N p hp).2⟩
end

theorem News.tell {h₀ h : Heap} {L : Addr} {news tl : List (Addr × Obj)} (N : News h₀ L h news) (hs : ∀ p ∈ tl, p ∈ news) : ∀ p ∈ tl, h.get? p.1 = some p.2 ∧ h₀.get? p.1 = none :=
  fun p hp => ⟨(N p (hs p hp)).1, (N p (hs p hp)).2.2⟩

/-- what a call of a def of the text gives: all that stood stays; the new objects tl are told -/
noncomputable def Ctr (k : Nat) (w : World) (mean : ExcName → Option Value) (mg mb : Str → Option Value) (f : Addr) (vs : List Value) (Pre : Heap → Prop) (R : Value → List (Addr × Obj) → Prop) : Prop :=
  ∀ (dp un : Nat) (gd : Option (List Code)) (fr : List Env) (base : Heap) (s : Shared) (Q E : Value → Shared → Prop),
    Below ⟨none, dp, some fr, gd, un⟩ base fr s.heap → (hd.heap_39 w.params).In s.heap → Top hd.view_39 (looseW hd.view_39 [Str.ofString "COMPILER_FLAG_NAMES", Str.ofString "Whitespace"]) mean mg mb s.heap → Pre s.heap →
    dp + (4 * k + 4) < recursionLimit → un + (100 * k + 100) < cLine →
    (∀ v tl h' tk', s.heap.StaysIn h' → (∀ p ∈ tl, h'.get? p.1 = some p.2 ∧ s.heap.get? p.1 = none) → R v tl → Q v { s with heap := h', toks := tk' }) →
    wpAny (model PySem.Challenge.rw_re0114_01.row.prog w) ⟨none, dp, some fr, gd, un⟩ (call (.ref f) vs) Q E s
end Mine
end

/-! Comp -/
section
open PySem PySem.W PySem.Spec PySem.Calls PyProof.Rows
set_option maxRecDepth 100000
namespace Mine

/-- values that stand for a list of data, one by one -/
inductive Are {β : Type} (Rel : Value → β → Prop) : List Value → List β → Prop
  | nil : Are Rel [] []
  | cons {v : Value} {b : β} {vs : List Value} {bs : List β} : Rel v b → Are Rel vs bs → Are Rel (v :: vs) (b :: bs)
theorem Are.snoc {β : Type} {Rel : Value → β → Prop} {vs : List Value} {bs : List β} {v : Value} {b : β} (h : Are Rel vs bs) (hv : Rel v b) : Are Rel (vs ++ [v]) (bs ++ [b]) := by
  induction h with
  | nil => exact .cons hv .nil
  | cons h1 _ ih => exact .cons h1 ih
theorem Are.length {β : Type} {Rel : Value → β → Prop} {vs : List Value} {bs : List β} (h : Are Rel vs bs) : vs.length = bs.length := by
  induction h with
  | nil => rfl
  | cons _ _ ih => simp [ih]
noncomputable def IntIs (v : Value) (k : Int) : Prop := ∃ t, v = .int k t
noncomputable def StrIs (v : Value) (x : Str) : Prop := ∃ t, v = .str x t
theorem Are.ints {vs : List Value} {ns : List Int} (h : Are IntIs vs ns) : IntsAre vs ns := by
  induction h with
  | nil => exact .nil
  | cons h1 _ ih => obtain ⟨t, rfl⟩ := h1; exact .cons _ _ ih
theorem Are.strs {vs : List Value} {xs : List Str} (h : Are StrIs vs xs) : StrsAre vs xs := by
  induction h with
  | nil => exact .nil
  | cons h1 _ ih => obtain ⟨t, rfl⟩ := h1; exact .cons _ _ ih

/-- a turn's end: the ledger is as it was, and q -/
noncomputable def ElIs (news : List (Addr × Obj)) (q : Prop) (news' : List (Addr × Obj)) : Prop := news' = news ∧ q

section
variable {prog : Program} {w : World} {A : Around} {h₀ : Heap} {L : Addr} {m : Str → Option Value} {env : Env} {ct elt : Expr} {x : Str} {scope : Scope} {cl : List (Str × Addr)} {s : Shared} {S : List (Addr × Obj) → Prop} {P : Nat → Value → Prop} {Fin : List Value → List (Addr × Obj) → Prop} {news : List (Addr × Obj)}

/-- a comprehension with a test, whose turns leave the ledger -/
theorem restT {β : Type} {n : Nat} (Rel : Value → β → Prop) (p : Nat → Bool) (f : Nat → β)
    (turn : ∀ i v I oI C oC D m₂ ys h tk (E' : Value → Shared → Prop), i < n → P i v → LCg.NsObj oC m₂ → m₂ x = some v → Fr h₀ L h m → News h₀ L h ((I, oI) :: (C, oC) :: (D, LCg.lst ys) :: news) → LCg.Off3 I C D news → ((@Ne Nat I C) ∧ (@Ne Nat I D) ∧ (@Ne Nat C D)) →
      wpAny (model prog w) A (isTrue ct (compEnvC scope cl C env) (eval ct (compEnvC scope cl C env))) (fun b s' => if b = true then
        wpAny (model prog w) A (eval elt (compEnvC scope cl C env)) (LCg.CompEnd h₀ L m { s with heap := h, toks := tk } I oI C oC D (LCg.lst ys) S (fun y news' => ElIs news (p i = true ∧ Rel y (f i)) news')) E' s'
        else LCg.CompEnd h₀ L m { s with heap := h, toks := tk } I oI C oC D (LCg.lst ys) S (fun _ news' => ElIs news (p i = false) news') Value.none s') E' { s with heap := h, toks := tk })
    (fin : ∀ ys, Are Rel ys (((List.range n).filter p).map f) → Fin ys news) : LCt.CompRestT prog w A h₀ L m env ct elt x scope cl s S P Fin n 0 [] news := by
  have key : ∀ (j i : Nat) (ys : List Value), i + j = n → Are Rel ys (((List.range i).filter p).map f) → LCt.CompRestT prog w A h₀ L m env ct elt x scope cl s S P Fin j i ys news := by
    intro j
    induction j with
    | zero =>
      intro i ys hi hy
      have e : i = n := by omega
      subst e
      exact LCt.CompRestT.zero (fin ys hy)
    | succ j ih =>
      intro i ys hi hy
      refine LCt.CompRestT.succ ?_
      intro v I oI C oC D m₂ h tk E' hv hC hx F N off ne
      refine wpAny_mono (turn i v I oI C oC D m₂ ys h tk E' (by omega) hv hC hx F N off ne) (fun b s₂ hq => ?_) fun _ _ e => e
      cases b with
      | true =>
        simp only [if_true] at hq ⊢
        refine wpAny_mono hq (fun y s₃ hr => ?_) fun _ _ e => e
        obtain ⟨h', tk', nw, e, F', N', off', hS, hn, hp, hy'⟩ := hr
        rw [hn] at N' off' hS
        refine ⟨h', tk', news, e, F', N', off', hS, ?_⟩
        refine ih (i + 1) _ (by omega) ?_
        rw [List.range_succ, List.filter_append, List.map_append]
        simp only [List.filter_cons, hp, if_true, List.filter_nil, List.map_cons, List.map_nil]
        exact hy.snoc hy'
      | false =>
        simp only [Bool.false_eq_true, if_false] at hq ⊢
        obtain ⟨h', tk', nw, e, F', N', off', hS, hn, hp⟩ := hq
        rw [hn] at N' off' hS
        refine ⟨h', tk', news, e, F', N', off', hS, ih (i + 1) _ (by omega) ?_⟩
        rw [List.range_succ, List.filter_append, List.map_append]
        simpa only [List.filter_cons, hp, Bool.false_eq_true, if_false, List.filter_nil, List.map_nil, List.append_nil] using hy
  exact key n 0 [] (by omega) .nil

/-- one without a test -/
theorem restU {β : Type} {n : Nat} (Rel : Value → β → Prop) (f : Nat → β)
    (turn : ∀ i v I oI C oC D m₂ ys h tk (E' : Value → Shared → Prop), i < n → P i v → LCg.NsObj oC m₂ → m₂ x = some v → Fr h₀ L h m → News h₀ L h ((I, oI) :: (C, oC) :: (D, LCg.lst ys) :: news) → LCg.Off3 I C D news → ((@Ne Nat I C) ∧ (@Ne Nat I D) ∧ (@Ne Nat C D)) →
      wpAny (model prog w) A (eval elt (compEnvC scope cl C env)) (LCg.CompEnd h₀ L m { s with heap := h, toks := tk } I oI C oC D (LCg.lst ys) S (fun y news' => ElIs news (Rel y (f i)) news')) E' { s with heap := h, toks := tk })
    (fin : ∀ ys, Are Rel ys ((List.range n).map f) → Fin ys news) : LCg.CompRest prog w A h₀ L m env elt x scope cl s S P Fin n 0 [] news := by
  have key : ∀ (j i : Nat) (ys : List Value), i + j = n → Are Rel ys ((List.range i).map f) → LCg.CompRest prog w A h₀ L m env elt x scope cl s S P Fin j i ys news := by
    intro j
    induction j with
    | zero =>
      intro i ys hi hy
      have e : i = n := by omega
      subst e
      exact LCg.CompRest.zero (fin ys hy)
    | succ j ih =>
      intro i ys hi hy
      refine LCg.CompRest.succ ?_
      intro v I oI C oC D m₂ h tk E' hv hC hx F N off ne
      refine wpAny_mono (turn i v I oI C oC D m₂ ys h tk E' (by omega) hv hC hx F N off ne) (fun y s₂ hr => ?_) fun _ _ e => e
      obtain ⟨h', tk', nw, e, F', N', off', hS, hn, hy'⟩ := hr
      rw [hn] at N' off' hS
      refine ⟨h', tk', news, e, F', N', off', hS, ?_⟩
      refine ih (i + 1) _ (by omega) ?_
      rw [List.range_succ, List.map_append]
      simp only [List.map_cons, List.map_nil]
      exact hy.snoc hy'
  exact key n 0 [] (by omega) .nil
end

section
variable {prog : Program} {w : World} {A : Around} {E : Value → Shared → Prop} {s : Shared} {h₀ : Heap} {L : Addr} {m : Str → Option Value} {env : Env}
open LCg
/-- a comprehension's source: a range by steps -/
inductive SrcS (prog : Program) (w : World) (A : Around) (h₀ : Heap) (L : Addr) (m : Str → Option Value) (env : Env) (elt : Expr) (x : Str) (scope : Scope) (cl : List (Str × Addr)) (Q : Value → Shared → Prop) (xv : Value) (s₁ : Shared) : Prop
  | mk (r : Addr) (a b c : Int) (t u v : Tok) (n : Nat) (news : List (Addr × Obj)) (hx : xv = .ref r) (hh : A.handled = none) (F : Fr h₀ L s₁.heap m) (N : News h₀ L s₁.heap news) (hr : IsRange s₁.heap r a b c t u v) (hsm : Builtin.Range.small a b c = true) (hn : Builtin.Range.rangeSize a b c = ((n : Nat) : Int)) (hsz : n ≤ sizeLine)
      (R : ∀ s₂ : Shared, (∃ h, s₂ = { s₁ with heap := h }) → CompRest prog w A h₀ L m env elt x scope cl s₂ (fun _ => True) (fun i v => ∃ t, v = .int (a + (i : Int) * c) t) (FinE h₀ L m s₂ Q) n 0 [] news)
/-- a comprehension over a range by steps -/
theorem ListComp_S {elt iter : Expr} {x : Str} {px : Pos} {scope : Scope} {cl : List (Str × Addr)} {pos : Pos} {Q : Value → Shared → Prop} (_F₀ : Fr h₀ L s.heap m)
    (hclos : closureFor scope env = pure cl) (hcell : ∀ y ∈ scope.names, y.2 ≠ .cell) (hkind : scope.kind = .function)
    (hnames : ∀ y ∈ scope.names, y.2 = .local → scope.names.lookup y.1 = some .local) (hx : scope.names.lookup x = some .local)
    (h : wpAny (model prog w) A (eval iter env) (SrcS prog w A h₀ L m env elt x scope cl Q) E s)
    (hs : ∀ x, foldedSetIterable iter env x = pure x := by intro _; rfl) :
    wpAny (model prog w) A (eval (.ListComp elt [⟨.Name x px, iter, [], 0⟩] scope pos) env) Q E s := by
  rw [eval_ListComp]
  refine wpAny_comprehension_free (use := none) rfl hs hclos hkind hnames (wpAny_mono h (fun xv s₁ h₁ => ?_) fun _ _ e => e)
  obtain ⟨r, a, b, c, t, u, v, n, news, rfl, hh, F, N, hr, hsm, hn, hsz, R⟩ := h₁
  refine wpAny_pyIter_range hr hsm ?_
  refine block_U (Walks.range hh s₁.heap.objs.size a c n) hsz (fun i h st => ⟨_, st⟩) (fun i h h' o nw st e e' _ _ _ => ?_) hcell hkind hx (by show IsRangeIter _ _ _ _ _; rw [hn]; simpa using Heap.get?_push_size _ rfl) (fun b hb => ?_)
    (F.keeps fun _ _ e => Heap.get?_push_of_some _ e) (N.grown fun _ _ e => Heap.get?_push_of_some _ e) (Nat.ne_of_lt F.ns.lt) (next_is_new F) (fun p hp => Nat.ne_of_lt (Heap.lt_size (N p hp).1)) trivial (R _ ⟨_, rfl⟩) ?_
  · have st' : h.get? s₁.heap.objs.size = some _ := st
    show h'.get? s₁.heap.objs.size = some _
    rw [e', ← e]; exact st'
  · rw [List.mem_singleton.mp hb]
    show s₁.heap.objs.size < (s₁.heap.push _).objs.size
    rw [Heap.size_push]; exact Nat.lt_succ_self _
  · intro D C h tk m' ys news' F' N' o1 hn hC₀ hD₀ hCL hDL hCD offC fin
    refine ⟨m', hn, fun h'' hs'' => fin D h'' tk (F'.change hs'' hCL hC₀) (fun p hp => ?_) o1⟩
    refine ⟨hs''.extBut _ _ ?_ (N' p hp).1, (N' p hp).2⟩
    rcases List.mem_cons.mp hp with rfl | hp
    · exact Ne.symm hCD
    · exact offC p hp

/-- the library's sources, named anew: the walk stops at them -/
noncomputable def StopU (prog : Program) (w : World) (A : Around) (h₀ : Heap) (L : Addr) (m : Str → Option Value) (env : Env) (elt : Expr) (x : Str) (scope : Scope) (cl : List (Str × Addr)) (Fin : Shared → List Value → List (Addr × Obj) → Prop) (xv : Value) (s₁ : Shared) : Prop :=
  CompSrc prog w A h₀ L m env elt x scope cl Fin xv s₁
noncomputable def StopT (prog : Program) (w : World) (A : Around) (h₀ : Heap) (L : Addr) (m : Str → Option Value) (env : Env) (ct elt : Expr) (x : Str) (scope : Scope) (cl : List (Str × Addr)) (Fin : Shared → List Value → List (Addr × Obj) → Prop) (xv : Value) (s₁ : Shared) : Prop :=
  LCt.CompSrcT prog w A h₀ L m env ct elt x scope cl Fin xv s₁
theorem ListComp_N {elt iter : Expr} {x : Str} {px : Pos} {scope : Scope} {cl : List (Str × Addr)} {pos : Pos} {Q : Value → Shared → Prop} (F₀ : Fr h₀ L s.heap m)
    (hclos : closureFor scope env = pure cl) (hcell : ∀ y ∈ scope.names, y.2 ≠ .cell) (hkind : scope.kind = .function)
    (hnames : ∀ y ∈ scope.names, y.2 = .local → scope.names.lookup y.1 = some .local) (hx : scope.names.lookup x = some .local)
    (h : wpAny (model prog w) A (eval iter env) (StopU prog w A h₀ L m env elt x scope cl (fun s₂ => FinE h₀ L m s₂ Q)) E s)
    (hs : ∀ x, foldedSetIterable iter env x = pure x := by intro _; rfl) :
    wpAny (model prog w) A (eval (.ListComp elt [⟨.Name x px, iter, [], 0⟩] scope pos) env) Q E s := ListComp_U F₀ hclos hcell hkind hnames hx h hs
theorem ListComp_M {ct elt iter : Expr} {x : Str} {px : Pos} {scope : Scope} {cl : List (Str × Addr)} {pos : Pos} {Q : Value → Shared → Prop} (F₀ : Fr h₀ L s.heap m)
    (hclos : closureFor scope env = pure cl) (hcell : ∀ y ∈ scope.names, y.2 ≠ .cell) (hkind : scope.kind = .function)
    (hnames : ∀ y ∈ scope.names, y.2 = .local → scope.names.lookup y.1 = some .local) (hx : scope.names.lookup x = some .local)
    (h : wpAny (model prog w) A (eval iter env) (StopT prog w A h₀ L m env ct elt x scope cl (fun s₂ => FinE h₀ L m s₂ Q)) E s)
    (hs : ∀ x, foldedSetIterable iter env x = pure x := by intro _; rfl) :
    wpAny (model prog w) A (eval (.ListComp elt [⟨.Name x px, iter, [ct], 0⟩] scope pos) env) Q E s := LCt.ListComp_T F₀ hclos hcell hkind hnames hx h hs
theorem Assign_N {elt iter : Expr} {x y : Str} {px py : Pos} {scope : Scope} {cl : List (Str × Addr)} {pos spos : Pos} {Q : Flow → Shared → Prop} (F₀ : Fr h₀ L s.heap m) (hLe : env.locals = L)
    (hsw : swapsWith (.ListComp elt [⟨.Name x px, iter, [], 0⟩] scope pos) (some (.Name y py)) spos.line env = pure true)
    (hclos : closureFor scope env = pure cl) (hcell : ∀ z ∈ scope.names, z.2 ≠ .cell) (hkind : scope.kind = .function)
    (hnames : ∀ z ∈ scope.names, z.2 = .local → scope.names.lookup z.1 = some .local) (hx : scope.names.lookup x = some .local)
    (hy : env.kindOf y = some .local) (hp : (env.scope.kind == .class || (env.scope.kind == .module && env.locals != env.globals)) = false)
    (h : wpAny (model prog w) A (eval iter env) (StopU prog w A h₀ L m env elt x scope cl (fun s₂ => FinA h₀ L m s₂ y Q)) E s)
    (hs : ∀ x, foldedSetIterable iter env x = pure x := by intro _; rfl) :
    wpAny (model prog w) A (exec (.Assign [.Name y py] (.ListComp elt [⟨.Name x px, iter, [], 0⟩] scope pos) spos) env) Q E s := Assign_ListComp_U F₀ hLe hsw hclos hcell hkind hnames hx hy hp h hs
theorem Assign_M {ct elt iter : Expr} {x y : Str} {px py : Pos} {scope : Scope} {cl : List (Str × Addr)} {pos spos : Pos} {Q : Flow → Shared → Prop} (F₀ : Fr h₀ L s.heap m) (hLe : env.locals = L)
    (hsw : swapsWith (.ListComp elt [⟨.Name x px, iter, [ct], 0⟩] scope pos) (some (.Name y py)) spos.line env = pure true)
    (hclos : closureFor scope env = pure cl) (hcell : ∀ z ∈ scope.names, z.2 ≠ .cell) (hkind : scope.kind = .function)
    (hnames : ∀ z ∈ scope.names, z.2 = .local → scope.names.lookup z.1 = some .local) (hx : scope.names.lookup x = some .local)
    (hy : env.kindOf y = some .local) (hp : (env.scope.kind == .class || (env.scope.kind == .module && env.locals != env.globals)) = false)
    (h : wpAny (model prog w) A (eval iter env) (StopT prog w A h₀ L m env ct elt x scope cl (fun s₂ => FinA h₀ L m s₂ y Q)) E s)
    (hs : ∀ x, foldedSetIterable iter env x = pure x := by intro _; rfl) :
    wpAny (model prog w) A (exec (.Assign [.Name y py] (.ListComp elt [⟨.Name x px, iter, [ct], 0⟩] scope pos) spos) env) Q E s := LCt.Assign_ListComp_T F₀ hLe hsw hclos hcell hkind hnames hx hy hp h hs
end
/-- the walk stops here -/
noncomputable def StopAt {α : Type} (M : Model) (A : Around) (t : Sem α) (Q : α → Shared → Prop) (E : Value → Shared → Prop) (s : Shared) : Prop := wpAny M A t Q E s
theorem stop_at {α : Type} {M : Model} {A : Around} {t : Sem α} {Q : α → Shared → Prop} {E : Value → Shared → Prop} {s : Shared} (h : StopAt M A t Q E s) : wpAny M A t Q E s := h
end Mine
end

/-! Loop -/
section
open PySem PySem.W PySem.Spec PySem.Calls PyProof.Rows
set_option maxRecDepth 100000
namespace Mine
section
variable {prog : Program} {w : World} {A : Around} {s : Shared} {h₀ : Heap} {L : Addr} {env : Env}

/-- what a turn leaves -/
inductive TEnd (h₀ : Heap) (L I : Addr) (oI : Obj) (J : (Str → Option Value) → List (Addr × Obj) → Prop) (s₁ s₂ : Shared) : Prop
  | mk (h' : Heap) (tk : Tok) (m' : Str → Option Value) (news' : List (Addr × Obj)) (e : s₂ = { s₁ with heap := h', toks := tk }) (F : Fr h₀ L h' m') (N : News h₀ L h' ((I, oI) :: news')) (off : ∀ p ∈ news', p.1 ≠ I) (hJ : J m' news')
/-- a turn's end -/
noncomputable def TurnEnd (h₀ : Heap) (L I : Addr) (oI : Obj) (J : (Str → Option Value) → List (Addr × Obj) → Prop) (s₁ : Shared) (Q : Flow → Shared → Prop) (f : Flow) (s₂ : Shared) : Prop :=
  match f with
  | .ret v => Q (.ret v) s₂
  | .brk => Q .next s₂
  | _ => TEnd h₀ L I oI J s₁ s₂

/-- a loop by an invariant J over its turn's number, the frame and the ledger -/
inductive ForAt (prog : Program) (w : World) (A : Around) (h₀ : Heap) (L : Addr) (env : Env) (target : Expr) (body orelse : List Stmt) (Q : Flow → Shared → Prop) (it : Value) (s₂ : Shared) : Prop
  | mk (I : Addr) (src : List Addr) (n : Nat) (P : Nat → Value → Prop) (St : Nat → Heap → Prop) (m : Str → Option Value) (news : List (Addr × Obj)) (J : Nat → (Str → Option Value) → List (Addr × Obj) → Prop) (hit : it = .ref I) (W : Walks prog w A I (I :: src) [I] n P St) (hIo : ∀ i h, St i h → ∃ o, h.get? I = some o)
    (hsrc : ∀ b ∈ src, (∃ o, h₀.get? b = some o) ∨ ∃ o, ∀ i m nw, J i m nw → (b, o) ∈ nw) (hL : L ≠ I) (hI₀ : h₀.get? I = none) (off : ∀ p ∈ news, p.1 ≠ I) (hst : St 0 s₂.heap) (F : Fr h₀ L s₂.heap m) (N : News h₀ L s₂.heap news) (hJ : J 0 m news)
    (turn : ∀ i v m₁ news₁ oI h tk, i < n → P i v → J i m₁ news₁ → Fr h₀ L h m₁ → News h₀ L h ((I, oI) :: news₁) → (∀ p ∈ news₁, p.1 ≠ I) →
      wpAny (model prog w) A (assign target env v) (fun _ s' => wpAny (model prog w) A (execs body env) (TurnEnd h₀ L I oI (J (i + 1)) { s₂ with heap := h, toks := tk } Q) (fun _ _ => False) s') (fun _ _ => False) { s₂ with heap := h, toks := tk })
    (done : ∀ m₁ news₁ h tk, J n m₁ news₁ → Fr h₀ L h m₁ → News h₀ L h news₁ → wpAny (model prog w) A (execs orelse env) Q (fun _ _ => False) { s₂ with heap := h, toks := tk })
/-- what stands at a turn's start -/
inductive FInv (h₀ : Heap) (L I : Addr) (n : Nat) (St : Nat → Heap → Prop) (J : Nat → (Str → Option Value) → List (Addr × Obj) → Prop) (s₂ : Shared) (k : Nat) (s' : Shared) : Prop
  | mk (i : Nat) (m₁ : Str → Option Value) (news₁ : List (Addr × Obj)) (h : Heap) (tk : Tok) (hk : k = n - i) (hi : i ≤ n) (hs : s' = { s₂ with heap := h, toks := tk }) (hst : St i h) (F : Fr h₀ L h m₁) (N : News h₀ L h news₁) (off : ∀ p ∈ news₁, p.1 ≠ I) (hJ : J i m₁ news₁)

/-- the walk stops here: the loop's rule is to be named -/
noncomputable def IterAt (prog : Program) (w : World) (A : Around) (h₀ : Heap) (L : Addr) (env : Env) (target : Expr) (body orelse : List Stmt) (Q : Flow → Shared → Prop) (xv : Value) (s₁ : Shared) : Prop :=
  wpAny (model prog w) A (pyIter xv) (ForAt prog w A h₀ L env target body orelse Q) (fun _ _ => False) s₁

theorem For_at {iter : Expr} {x : Str} {px : Pos} {body orelse : List Stmt} {pos : Pos} {Q : Flow → Shared → Prop} {m₀ : Str → Option Value} (_F : Fr h₀ L s.heap m₀)
    (h : wpAny (model prog w) A (eval iter env) (IterAt prog w A h₀ L env (.Name x px) body orelse Q) (fun _ _ => False) s)
    (hs : ∀ x, foldedSetIterable iter env x = pure x := by intro _; rfl) :
    wpAny (model prog w) A (exec (.For (.Name x px) iter body orelse pos) env) Q (fun _ _ => False) s := by
  refine wpAny_For (wpAny_mono h (fun xv s₁ h₁ => wpAny_mono h₁ (fun it s₂ h₂ => ?_) fun _ _ e => e) fun _ _ e => e) hs
  obtain ⟨I, src, n, P, St, m, news, J, rfl, W, hIo, hsrc, hL, hI₀, off, hst, F, N, hJ, turn, done⟩ := h₂
  refine codeAny_forLoop (FInv h₀ L I n St J s₂) ?_ n
    ⟨0, m, news, s₂.heap, s₂.toks, by omega, Nat.zero_le _, rfl, hst, F, N, off, hJ⟩
  rintro k s' ⟨i, m₁, news₁, h, tk, rfl, hi, rfl, hst', F', N', off', hJ'⟩
  by_cases hlt : i < n
  · refine W.item i _ _ _ hlt hst' fun v h₁ tk₁ hP hst₁ hk => ?_
    obtain ⟨oI, hoI⟩ := hIo _ _ hst₁
    have F₁ : Fr h₀ L h₁ m₁ := LCg.fr_but F' hk hL hI₀
    have N₁ : News h₀ L h₁ news₁ := LCg.news_but N' hk off'
    have N₂ : News h₀ L h₁ ((I, oI) :: news₁) := fun p hp => by
      rcases List.mem_cons.mp hp with rfl | hp
      · exact ⟨hoI, Ne.symm hL, hI₀⟩
      · exact N₁ p hp
    refine wpAny_mono (turn i v m₁ news₁ oI h₁ tk₁ hlt hP hJ' F₁ N₂ off') (fun _ s₃ h₃ => wpAny_mono h₃ (fun f s₄ h₄ => ?_) fun _ _ e => e.elim) fun _ _ e => e.elim
    have step : TEnd h₀ L I oI (J (i + 1)) { s₂ with heap := h₁, toks := tk₁ } s₄ → ∃ m, m < n - i ∧ FInv h₀ L I n St J s₂ m s₄ := by
      rintro ⟨h', tk', m', news', rfl, F₄, N₄, off₄, hJ₄⟩
      refine ⟨n - (i + 1), by omega, i + 1, m', news', h', tk', rfl, hlt, rfl, ?_, F₄, fun p hp => N₄ p (.tail _ hp), off₄, hJ₄⟩
      refine W.frame _ _ _ hst₁ fun b hb o e => ?_
      rcases List.mem_cons.mp hb with rfl | hb
      · rw [hoI] at e; cases e
        exact (N₄ _ (.head _)).1
      · rcases hsrc b hb with ⟨o', e'⟩ | ⟨o', hm⟩
        · have h5 := F₁.keep _ _ e'
          rw [e] at h5; cases h5
          exact F₄.keep _ _ e'
        · have h5 := (N₁ _ (hm _ _ _ hJ')).1
          rw [e] at h5; cases h5
          exact (N₄ _ (.tail _ (hm _ _ _ hJ₄))).1
    cases f with
    | ret v => exact h₄
    | brk => exact h₄
    | next => exact step h₄
    | cont => exact step h₄
  · obtain rfl : i = n := Nat.le_antisymm hi (Nat.not_lt.mp hlt)
    refine W.done _ _ _ hst' fun h₁ tk₁ hk => ?_
    exact wpAny_mono (done m₁ news₁ h₁ tk₁ hJ' (LCg.fr_but F' hk hL hI₀) (LCg.news_but N' hk off')) (fun _ _ x => x) fun _ _ e => e.elim

/-- names that are told, ahead of the rest -/
noncomputable def litM (m : Str → Option Value) : List (Str × Value) → Str → Option Value
  | [] => m
  | p :: r => fun y => if y = p.1 then some p.2 else litM m r y
theorem litM_eq {m : Str → Option Value} : ∀ {ps : List (Str × Value)}, (∀ p ∈ ps, m p.1 = some p.2) → litM m ps = m
  | [], _ => rfl
  | p :: r, h => by
    funext y
    show (if y = p.1 then some p.2 else litM m r y) = m y
    by_cases hy : y = p.1
    · rw [if_pos hy, hy, h p (.head _)]
    · rw [if_neg hy, litM_eq fun q hq => h q (.tail _ hq)]
theorem Fr.lits {h : Heap} {m : Str → Option Value} (F : Fr h₀ L h m) (ps : List (Str × Value)) (e : ∀ p ∈ ps, m p.1 = some p.2) : Fr h₀ L h (litM m ps) := by
  rw [litM_eq e]; exact F

section
variable {target : Expr} {body orelse : List Stmt} {Q : Flow → Shared → Prop} {m : Str → Option Value} {news : List (Addr × Obj)}

theorem iterI_range {r : Addr} {a b c : Int} {t u v : Tok} {n : Nat} (J : Nat → (Str → Option Value) → List (Addr × Obj) → Prop) (hh : A.handled = none) (hr : IsRange s.heap r a b c t u v) (hsm : Builtin.Range.small a b c = true) (hn : Builtin.Range.rangeSize a b c = (n : Int))
    (F : Fr h₀ L s.heap m) (N : News h₀ L s.heap news) (hJ : J 0 m news)
    (turn : ∀ i q t m₁ news₁ I oI h tk, i < n → q = a + (i : Int) * c → J i m₁ news₁ → Fr h₀ L h m₁ → News h₀ L h ((I, oI) :: news₁) → (∀ p ∈ news₁, p.1 ≠ I) → ∀ T : Flow → Shared → Prop, (∀ f s', TurnEnd h₀ L I oI (J (i + 1)) { s with heap := h, toks := tk } Q f s' → T f s') →
      wpAny (model prog w) A (assign target env (.int q t)) (fun _ s' => wpAny (model prog w) A (execs body env) T (fun _ _ => False) s') (fun _ _ => False) { s with heap := h, toks := tk })
    (done : ∀ m₁ news₁ h tk, J n m₁ news₁ → Fr h₀ L h m₁ → News h₀ L h news₁ → wpAny (model prog w) A (execs orelse env) Q (fun _ _ => False) { s with heap := h, toks := tk }) :
    IterAt prog w A h₀ L env target body orelse Q (.ref r) s := by
  unfold IterAt
  refine wpAny_pyIter_range hr hsm ?_
  refine ⟨s.heap.objs.size, [], n, _, _, m, news, J, rfl, Walks.range hh _ a c n, fun i h st => ⟨_, st⟩, (by intro _ hb; cases hb), Nat.ne_of_lt F.ns.lt, next_is_new F, fun p hp => Nat.ne_of_lt (Heap.lt_size (N p hp).1),
    by show IsRangeIter _ _ _ _ _; rw [hn]; simpa using Heap.get?_push_size _ rfl, F.push _, fun p hp => ⟨Heap.get?_push_of_some _ (N p hp).1, (N p hp).2⟩, hJ, ?_, done⟩
  rintro i _ m₁ news₁ oI h tk hi ⟨t, rfl⟩ hJ' F' N' off
  exact turn i _ t m₁ news₁ _ oI h tk hi rfl hJ' F' N' off _ fun _ _ q => q

theorem iterI_list {l : Addr} {items : Array Value} (J : Nat → (Str → Option Value) → List (Addr × Obj) → Prop) (hh : A.handled = none) (hl : s.heap.IsList l items) (hsrc : (∃ o, h₀.get? l = some o) ∨ ∃ o, ∀ i m nw, J i m nw → (l, o) ∈ nw)
    (F : Fr h₀ L s.heap m) (N : News h₀ L s.heap news) (hJ : J 0 m news)
    (turn : ∀ i v m₁ news₁ I oI h tk, items[i]? = some v → J i m₁ news₁ → Fr h₀ L h m₁ → News h₀ L h ((I, oI) :: news₁) → (∀ p ∈ news₁, p.1 ≠ I) → ∀ T : Flow → Shared → Prop, (∀ f s', TurnEnd h₀ L I oI (J (i + 1)) { s with heap := h, toks := tk } Q f s' → T f s') →
      wpAny (model prog w) A (assign target env v) (fun _ s' => wpAny (model prog w) A (execs body env) T (fun _ _ => False) s') (fun _ _ => False) { s with heap := h, toks := tk })
    (done : ∀ m₁ news₁ h tk, J items.size m₁ news₁ → Fr h₀ L h m₁ → News h₀ L h news₁ → wpAny (model prog w) A (execs orelse env) Q (fun _ _ => False) { s with heap := h, toks := tk }) :
    IterAt prog w A h₀ L env target body orelse Q (.ref l) s := by
  unfold IterAt
  refine wpAny_pyIter_list hl ?_
  have hlt : l < s.heap.objs.size := by obtain ⟨_, e, _⟩ := hl; exact Heap.lt_size e
  refine ⟨s.heap.objs.size, [l], items.size, _, _, m, news, J, rfl, Walks.list hh _ l (Nat.ne_of_lt hlt) items, fun i h st => by obtain ⟨o, e, _⟩ := st.1; exact ⟨o, e⟩, fun b hb => by rw [List.mem_singleton.mp hb]; exact hsrc, Nat.ne_of_lt F.ns.lt, next_is_new F, fun p hp => Nat.ne_of_lt (Heap.lt_size (N p hp).1),
    ⟨⟨_, Heap.get?_push_size _ rfl, rfl, rfl⟩, hl.push _⟩, F.push _, fun p hp => ⟨Heap.get?_push_of_some _ (N p hp).1, (N p hp).2⟩, hJ, ?_, done⟩
  rintro i v m₁ news₁ oI h tk hi hv hJ' F' N' off
  exact turn i v m₁ news₁ _ oI h tk hv hJ' F' N' off _ fun _ _ q => q

theorem iterI_str {x : Str} {t : Tok} (ha : x.cps.all (· < 128) = true) (J : Nat → (Str → Option Value) → List (Addr × Obj) → Prop) (hh : A.handled = none)
    (F : Fr h₀ L s.heap m) (N : News h₀ L s.heap news) (hJ : J 0 m news)
    (turn : ∀ i c t m₁ news₁ I oI h tk, x.cps[i]? = some c → J i m₁ news₁ → Fr h₀ L h m₁ → News h₀ L h ((I, oI) :: news₁) → (∀ p ∈ news₁, p.1 ≠ I) → ∀ T : Flow → Shared → Prop, (∀ f s', TurnEnd h₀ L I oI (J (i + 1)) { s with heap := h, toks := tk } Q f s' → T f s') →
      wpAny (model prog w) A (assign target env (.str ⟨#[c]⟩ t)) (fun _ s' => wpAny (model prog w) A (execs body env) T (fun _ _ => False) s') (fun _ _ => False) { s with heap := h, toks := tk })
    (done : ∀ m₁ news₁ h tk, J x.cps.size m₁ news₁ → Fr h₀ L h m₁ → News h₀ L h news₁ → wpAny (model prog w) A (execs orelse env) Q (fun _ _ => False) { s with heap := h, toks := tk }) :
    IterAt prog w A h₀ L env target body orelse Q (.str x t) s := by
  unfold IterAt
  refine wpAny_pyIter_ascii ha ?_
  refine ⟨s.heap.objs.size, [], x.cps.size, _, _, m, news, J, rfl, Walks.strAscii hh _ x t, (fun i h st => by obtain ⟨o, e, _⟩ := st; exact ⟨o, e⟩), (by intro _ hb; cases hb), Nat.ne_of_lt F.ns.lt, next_is_new F, fun p hp => Nat.ne_of_lt (Heap.lt_size (N p hp).1),
    ⟨_, Heap.get?_push_size _ rfl, rfl, rfl⟩, F.push _, fun p hp => ⟨Heap.get?_push_of_some _ (N p hp).1, (N p hp).2⟩, hJ, ?_, done⟩
  rintro i _ m₁ news₁ oI h tk hi ⟨c, t, hc, rfl⟩ hJ' F' N' off
  exact turn i c t m₁ news₁ _ oI h tk hc hJ' F' N' off _ fun _ _ q => q
end
end
end Mine
end

/-! Use -/
section
open PySem PySem.W PySem.Spec PySem.Calls PyProof.Rows
set_option maxRecDepth 100000
namespace Mine
/-- a contract used where a def's frame stands -/
theorem Ctr.use {k : Nat} {w : World} {mean : ExcName → Option Value} {mg mb : Str → Option Value} {f : Addr} {vs : List Value} {Pre : Heap → Prop} {R : Value → List (Addr × Obj) → Prop} {A₀ : Around} {base h₀ : Heap} {outer : List Env} {L : Addr} {m : Str → Option Value}
    {news : List (Addr × Obj)} {s : Shared} {A : Around} {env : Env} {Q E : Value → Shared → Prop} (C : Ctr k w mean mg mb f vs Pre R) (B : Below A₀ base outer h₀) (F : Fr h₀ L s.heap m) (N : News h₀ L s.heap news)
    (X : (hd.heap_39 w.params).In h₀) (T : Top hd.view_39 (looseW hd.view_39 [Str.ofString "COMPILER_FLAG_NAMES", Str.ofString "Whitespace"]) mean mg mb h₀) (hh : A.handled = none) (hA : A.frames = some (env :: outer)) (hf : env.frame = some L) (hke : env.scope.kind = .function)
    (hpre : Pre s.heap) (hdp : A.depth + (4 * k + 4) < recursionLimit) (hun : A.units + (100 * k + 100) < cLine)
    (h : ∀ v tl h' tk', Fr h₀ L h' m → News h₀ L h' (tl ++ news) → (∀ q ∈ news, ∀ p ∈ tl, q.1 ≠ p.1) → R v tl → Q v { s with heap := h', toks := tk' }) :
    wpAny (model PySem.Challenge.rw_re0114_01.row.prog w) A (call (.ref f) vs) Q E s := by
  obtain ⟨hd0, dp, fr0, gd, un⟩ := A
  dsimp only at hh hA hdp hun
  subst hh hA
  have B' := pushX B F hf hke
  refine C dp un gd (env :: outer) base s Q E ⟨rfl, B'.stays, B'.frames⟩ (X.keeps F.keep) (T.keeps F.keep) hpre hdp hun ?_
  intro v tl h' tk' st htl hR
  have hne : ∀ q ∈ news, ∀ p ∈ tl, q.1 ≠ p.1 := fun q hq p hp e => by
    have h1 := (N q hq).1
    rw [e, (htl p hp).2] at h1; cases h1
  refine h v tl h' tk' (F.keeps st) (fun p hp => ?_) hne hR
  rcases List.mem_append.mp hp with hp | hp
  · refine ⟨(htl p hp).1, fun e => ?_, ?_⟩
    · obtain ⟨o, _, _, ho, _⟩ := F.ns
      have h1 := (htl p hp).2
      rw [e, ho] at h1; cases h1
    · cases q : h₀.get? p.1 with
      | none => rfl
      | some o => have h1 := F.keep _ _ q; rw [(htl p hp).2] at h1; cases h1
  · exact ⟨st _ _ (N p hp).1, (N p hp).2⟩
/-- a contract of a def that is handed objects tl of its caller's -/
noncomputable def CtrL (k : Nat) (w : World) (mean : ExcName → Option Value) (mg mb : Str → Option Value) (f : Addr) (vs : List Value) (tl : List (Addr × Obj)) (Pre : Prop) (R : Value → List (Addr × Obj) → Prop) : Prop :=
  ∀ (dp un : Nat) (gd : Option (List Code)) (fr : List Env) (base g : Heap) (s : Shared) (Q E : Value → Shared → Prop),
    Below ⟨none, dp, some fr, gd, un⟩ base fr g → (hd.heap_39 w.params).In g → Top hd.view_39 (looseW hd.view_39 [Str.ofString "COMPILER_FLAG_NAMES", Str.ofString "Whitespace"]) mean mg mb g →
    g.StaysIn s.heap → g.objs.size ≤ s.heap.objs.size → (∀ p ∈ tl, s.heap.get? p.1 = some p.2 ∧ g.get? p.1 = none) → Pre →
    dp + (4 * k + 4) < recursionLimit → un + (100 * k + 100) < cLine →
    (∀ v out h' tk', g.StaysIn h' → (∀ p ∈ tl, h'.get? p.1 = some p.2) → (∀ p ∈ out, h'.get? p.1 = some p.2 ∧ g.get? p.1 = none ∧ ∀ q ∈ tl, q.1 ≠ p.1) → R v out → Q v { s with heap := h', toks := tk' }) →
    wpAny (model PySem.Challenge.rw_re0114_01.row.prog w) ⟨none, dp, some fr, gd, un⟩ (call (.ref f) vs) Q E s

theorem CtrL.use {k : Nat} {w : World} {mean : ExcName → Option Value} {mg mb : Str → Option Value} {f : Addr} {vs : List Value} {tl : List (Addr × Obj)} {Pre : Prop} {R : Value → List (Addr × Obj) → Prop} {A₀ : Around} {base h₀ : Heap} {outer : List Env} {L : Addr} {m : Str → Option Value}
    {news : List (Addr × Obj)} {s : Shared} {A : Around} {env : Env} {Q E : Value → Shared → Prop} (C : CtrL k w mean mg mb f vs tl Pre R) (B : Below A₀ base outer h₀) (F : Fr h₀ L s.heap m) (N : News h₀ L s.heap news) (htl : ∀ p ∈ tl, p ∈ news)
    (X : (hd.heap_39 w.params).In h₀) (T : Top hd.view_39 (looseW hd.view_39 [Str.ofString "COMPILER_FLAG_NAMES", Str.ofString "Whitespace"]) mean mg mb h₀) (hh : A.handled = none) (hA : A.frames = some (env :: outer)) (hf : env.frame = some L) (hke : env.scope.kind = .function)
    (hpre : Pre) (hdp : A.depth + (4 * k + 4) < recursionLimit) (hun : A.units + (100 * k + 100) < cLine)
    (h : ∀ v out h' tk', Fr h₀ L h' m → News h₀ L h' (out ++ news) → (∀ q ∈ news, ∀ p ∈ out, q.1 ≠ p.1) → R v out → Q v { s with heap := h', toks := tk' }) :
    wpAny (model PySem.Challenge.rw_re0114_01.row.prog w) A (call (.ref f) vs) Q E s := by
  obtain ⟨hd0, dp, fr0, gd, un⟩ := A
  dsimp only at hh hA hdp hun
  subst hh hA
  have Nt : News h₀ L s.heap tl := fun p hp => N p (htl p hp)
  obtain ⟨FG, BG, st, _⟩ := groundX (R := fun _ _ => True) (A := ⟨none, dp, some (env :: outer), gd, un⟩) B F Nt rfl hf hke
  refine C dp un gd (env :: outer) base _ s Q E BG (X.keeps st) (T.keeps st) (fun b o e => of_hideAll _ e) (Nat.le_of_eq (hideAll_size _ _)) (fun p hp => ⟨(Nt p hp).1, hideAll_none _ (List.mem_map_of_mem hp)⟩) hpre hdp hun ?_
  intro v out h' tk' st' ht hout hR
  have keep : ∀ b o, s.heap.get? b = some o → h'.get? b = some o := fun b o e => by
    by_cases hb : b ∈ tl.map (·.1)
    · obtain ⟨p, hp, rfl⟩ := List.mem_map.mp hb
      rw [(Nt p hp).1] at e; cases e
      exact ht p hp
    · exact st' b o (hideAll_get _ e hb)
  have hne : ∀ q ∈ news, ∀ p ∈ out, q.1 ≠ p.1 := fun q hq p hp e => by
    by_cases hb : q.1 ∈ tl.map (·.1)
    · obtain ⟨r, hr, e2⟩ := List.mem_map.mp hb
      exact (hout p hp).2.2 r hr (e2.trans e)
    · have h1 := hideAll_get _ (N q hq).1 hb
      rw [e, (hout p hp).2.1] at h1; cases h1
  refine h v out h' tk' (F.keeps keep) (fun p hp => ?_) hne hR
  rcases List.mem_append.mp hp with hp | hp
  · refine ⟨(hout p hp).1, fun e => ?_, ?_⟩
    · obtain ⟨o, _, _, ho, _⟩ := FG.ns
      have h1 := (hout p hp).2.1
      rw [e, ho] at h1; cases h1
    · cases q : h₀.get? p.1 with
      | none => rfl
      | some o => have h1 := st _ _ q; rw [(hout p hp).2.1] at h1; cases h1
  · exact ⟨keep _ _ (N p hp).1, (N p hp).2⟩

/-- the same, told name by name: no address of tl stands in news -/
theorem ne_of_off {news tl : List (Addr × Obj)} (h : ∀ q ∈ news, ∀ p ∈ tl, q.1 ≠ p.1) {q p : Addr × Obj} (hq : q ∈ news) (hp : p ∈ tl) : @Ne Nat q.1 p.1 := h q hq p hp
end Mine
end

/-! Rules -/
section
open PySem PySem.W PySem.Spec PySem.Calls PyProof.Rows
set_option maxRecDepth 100000
namespace Mine
section
variable {prog : Program} {w : World} {A : Around} {E : Value → Shared → Prop} {s : Shared} {h₀ : Heap} {L t : Addr} {news : List (Addr × Obj)} {vs : List Value} {ns : List Int} {n : Nat}
theorem len_tupK {Q : Value → Shared → Prop} (N : News h₀ L s.heap news) (hm : (t, ({ cls := .type "tuple", data := .seq vs.toArray n } : Obj)) ∈ news) (hi : IntsAre vs ns) (hfit : ns.length ≤ 100000)
    (h : Q (.int ns.length (s.toks + 1)) { s with toks := s.toks + 1 + 1 }) : wpAny (model prog w) A (call (.builtin "len") [.ref t]) Q E s := by
  have e : vs.toArray.size = ns.length := by rw [List.size_toArray, hi.length]
  exact len_tuple (News.isTup N hm) (by rw [e]; omega) (by rw [e]; exact h)
theorem item_tupK {value slice : Expr} {k : Int} {u : Tok} {Q : Value → Shared → Prop} (N : News h₀ L s.heap news) (hm : (t, ({ cls := .type "tuple", data := .seq vs.toArray n } : Obj)) ∈ news) (hi : IntsAre vs ns) (h0 : 0 ≤ k) (h1 : k < ns.length) (hfit : ns.length ≤ 100000)
    (h : ∀ t, Q (.int (ns.getD k.toNat 0) t) s) (hs : subscripted slice false (.ref t) (.int k u) = operate [.ref t, .int k u] (getItem (.ref t) (.int k u)) := by with_unfolding_all rfl) :
    wpAny (model prog w) A (subscriptTail value slice (.ref t) (.int k u)) Q E s := by
  have hk : k.toNat < ns.length := by omega
  obtain ⟨tk, hx⟩ := hi.get k.toNat ns[k.toNat] (by simp [hk])
  refine item_tupleT (j := k.toNat) (x := .int ns[k.toNat] tk) (News.isTup N hm) (by omega) (by omega) ?_ hx ?_ hs
  · rw [hi.length]
    unfold seqIndex?
    simp only [show ¬ k < 0 by omega, if_false]
    rw [if_pos (by simp only [Bool.and_eq_true, decide_eq_true_eq]; omega)]
  · have := h tk
    rwa [List.getD_eq_getElem?_getD, List.getElem?_eq_getElem hk, Option.getD_some] at this
theorem item_lstK {value slice : Expr} {k : Int} {u : Tok} {xs : List Str} {Q : Value → Shared → Prop} (N : News h₀ L s.heap news) (hm : (t, listOf vs.toArray n) ∈ news) (hi : StrsAre vs xs) (h0 : 0 ≤ k) (h1 : k < xs.length) (hfit : xs.length ≤ 100000)
    (h : ∀ t, Q (.str (xs.getD k.toNat "") t) s) (hs : subscripted slice false (.ref t) (.int k u) = operate [.ref t, .int k u] (getItem (.ref t) (.int k u)) := by with_unfolding_all rfl) :
    wpAny (model prog w) A (subscriptTail value slice (.ref t) (.int k u)) Q E s := by
  have hk : k.toNat < xs.length := by omega
  obtain ⟨tk, hx⟩ := hi.get k.toNat xs[k.toNat] (by simp [hk])
  have hl : s.heap.IsList t vs.toArray := News.isList N hm
  refine tail_any hl.typeIs slot_list_getitem.lookup (wpAny_getItem_list (x := .str xs[k.toNat] tk) hl h0 (by omega) (by simpa using hx) ?_) hs
  have := h tk
  rwa [List.getD_eq_getElem?_getD, List.getElem?_eq_getElem hk, Option.getD_some] at this
theorem extendK {D b : Addr} {ws : List Value} {n2 : Nat} {m : Str → Option Value} {g : Obj → List (Addr × Obj)} {Q : Value → Shared → Prop} (F : Fr h₀ L s.heap m) (N : News h₀ L s.heap news) (hb : (b, listOf ws.toArray n2) ∈ news) (U : UpdF D (listOf vs.toArray n) news g) (hz : vs.length + ws.length ≤ 1000000)
    (h : ∀ h' k', Fr h₀ L h' m → News h₀ L h' (g (listOf (vs ++ ws).toArray k')) → Q .none { s with heap := h' }) : wpAny (model prog w) A (call (.builtin "list.extend") [.ref D, .ref b]) Q E s := by
  obtain ⟨pre, post, rfl, hg, a, c⟩ := U.split
  have z := N (D, listOf vs.toArray n) (List.mem_append.mpr (.inr (.head _)))
  have hz1 : vs.toArray.size + ws.toArray.size ≤ sizeLine := by simp only [List.size_toArray]; rw [sizeLine_eq]; omega
  refine call_meets PySem.F.slot_list_extend ⟨_, z.1, rfl⟩ PySem.F.entry_list_extend (PySem.F.args_list_extend_2 _ _) (PySem.AutoSeq1.list_extend_list_list_0 D vs.toArray n b ws.toArray n2 (extend_door hz1) (Nat.le_trans (Nat.le_add_right _ _) hz1) (Nat.le_succ_of_le hz1)) ⟨z.1, (N _ hb).1, ?_⟩
  have q := PySem.IsL.update z.1 (fun x => x ++ ws.toArray)
  have e : vs.toArray ++ ws.toArray = (vs ++ ws).toArray := by simp
  rw [e] at q
  refine h _ (if ((vs ++ ws).toArray.size == vs.toArray.size) = true then n else n + 1) (F.change (Heap.SameBut.update ..) z.2.1 z.2.2) ?_
  rw [hg]
  exact news_set N a c (Heap.SameBut.update ..) q
end
end Mine
end

/-! Turn -/
section
open PySem PySem.W PySem.Spec PySem.Calls PyProof.Rows
set_option maxRecDepth 100000
namespace Mine
/-- an element's end: the heap is as it was -/
noncomputable def ElEnd (s : Shared) (h : Heap) (q : Value → Prop) (y : Value) (s₂ : Shared) : Prop := (∃ tk, s₂ = { s with heap := h, toks := tk }) ∧ q y
section
variable {prog : Program} {w : World} {A : Around} {h₀ : Heap} {L : Addr} {m : Str → Option Value} {env : Env} {ct elt : Expr} {x : Str} {scope : Scope} {cl : List (Str × Addr)} {s : Shared} {S : List (Addr × Obj) → Prop} {P : Nat → Value → Prop} {Fin : List Value → List (Addr × Obj) → Prop} {news : List (Addr × Obj)}
theorem restTE {β : Type} {n : Nat} (Rel : Value → β → Prop) (p : Nat → Bool) (f : Nat → β) (hS : S news)
    (turn : ∀ i v I oI C oC D m₂ ys h tk (E' : Value → Shared → Prop), i < n → P i v → LCg.NsObj oC m₂ → m₂ x = some v → Fr h₀ L h m → News h₀ L h ((I, oI) :: (C, oC) :: (D, LCg.lst ys) :: news) →
      wpAny (model prog w) A (isTrue ct (compEnvC scope cl C env) (eval ct (compEnvC scope cl C env))) (fun b s' => if b = true then
        wpAny (model prog w) A (eval elt (compEnvC scope cl C env)) (ElEnd s h fun y => p i = true ∧ Rel y (f i)) E' s'
        else ElEnd s h (fun _ => p i = false) Value.none s') E' { s with heap := h, toks := tk })
    (fin : ∀ ys, Are Rel ys (((List.range n).filter p).map f) → Fin ys news) : LCt.CompRestT prog w A h₀ L m env ct elt x scope cl s S P Fin n 0 [] news := by
  refine restT Rel p f ?_ fin
  intro i v I oI C oC D m₂ ys h tk E' hi hv hC hx F N off ne
  refine wpAny_mono (turn i v I oI C oC D m₂ ys h tk E' hi hv hC hx F N) (fun b s₂ hq => ?_) fun _ _ e => e
  cases b with
  | true =>
    simp only [if_true] at hq ⊢
    refine wpAny_mono hq (fun y s₃ hr => ?_) fun _ _ e => e
    obtain ⟨⟨tk', rfl⟩, hr⟩ := hr
    exact ⟨h, tk', news, rfl, F, N, off, hS, rfl, hr⟩
  | false =>
    simp only [Bool.false_eq_true, if_false] at hq ⊢
    obtain ⟨⟨tk', rfl⟩, hr⟩ := hq
    exact ⟨h, tk', news, rfl, F, N, off, hS, rfl, hr⟩
theorem restUE {β : Type} {n : Nat} (Rel : Value → β → Prop) (f : Nat → β) (hS : S news)
    (turn : ∀ i v I oI C oC D m₂ ys h tk (E' : Value → Shared → Prop), i < n → P i v → LCg.NsObj oC m₂ → m₂ x = some v → Fr h₀ L h m → News h₀ L h ((I, oI) :: (C, oC) :: (D, LCg.lst ys) :: news) →
      wpAny (model prog w) A (eval elt (compEnvC scope cl C env)) (ElEnd s h fun y => Rel y (f i)) E' { s with heap := h, toks := tk })
    (fin : ∀ ys, Are Rel ys ((List.range n).map f) → Fin ys news) : LCg.CompRest prog w A h₀ L m env elt x scope cl s S P Fin n 0 [] news := by
  refine restU Rel f ?_ fin
  intro i v I oI C oC D m₂ ys h tk E' hi hv hC hx F N off ne
  refine wpAny_mono (turn i v I oI C oC D m₂ ys h tk E' hi hv hC hx F N) (fun y s₃ hr => ?_) fun _ _ e => e
  obtain ⟨⟨tk', rfl⟩, hr⟩ := hr
  exact ⟨h, tk', news, rfl, F, N, off, hS, rfl, hr⟩
end

section
variable {prog : Program} {w : World} {A : Around} {E : Value → Shared → Prop} {s : Shared} {h₀ : Heap} {L t : Addr} {news : List (Addr × Obj)} {vs : List Value} {ns : List Int} {n : Nat}
theorem len_lstK {Q : Value → Shared → Prop} (N : News h₀ L s.heap news) (hm : (t, listOf vs.toArray n) ∈ news) (hi : IntsAre vs ns) (hfit : ns.length ≤ 100000)
    (h : ∀ k1 k2, Q (.int ns.length k1) { s with toks := k2 }) : wpAny (model prog w) A (call (.builtin "len") [.ref t]) Q E s := by
  have e : vs.toArray.size = ns.length := by rw [List.size_toArray, hi.length]
  exact len_list (News.isList N hm) (by rw [e]; omega) (by rw [e]; exact h _ _)
theorem item_lstI {value slice : Expr} {k : Int} {u : Tok} {Q : Value → Shared → Prop} (N : News h₀ L s.heap news) (hm : (t, listOf vs.toArray n) ∈ news) (hi : IntsAre vs ns) (h0 : 0 ≤ k) (h1 : k < ns.length) (hfit : ns.length ≤ 100000)
    (h : ∀ t, Q (.int (ns.getD k.toNat 0) t) s) (hs : subscripted slice false (.ref t) (.int k u) = operate [.ref t, .int k u] (getItem (.ref t) (.int k u)) := by with_unfolding_all rfl) :
    wpAny (model prog w) A (subscriptTail value slice (.ref t) (.int k u)) Q E s := by
  have hk : k.toNat < ns.length := by omega
  obtain ⟨tk, hx⟩ := hi.get k.toNat ns[k.toNat] (by simp [hk])
  have hl : s.heap.IsList t vs.toArray := News.isList N hm
  refine tail_any hl.typeIs slot_list_getitem.lookup (wpAny_getItem_list (x := .int ns[k.toNat] tk) hl h0 (by omega) (by simpa using hx) ?_) hs
  have := h tk
  rwa [List.getD_eq_getElem?_getD, List.getElem?_eq_getElem hk, Option.getD_some] at this
end
theorem rsize_up (n : Nat) : Builtin.Range.rangeSize 0 (n : Int) 1 = (n : Int) := by
  unfold Builtin.Range.rangeSize; rw [if_pos (by decide)]; split <;> omega
theorem small_up {n : Nat} (h : n ≤ 100000) : Builtin.Range.small 0 (n : Int) 1 = true := by
  unfold Builtin.Range.small
  rw [rsize_up, if_pos (by decide)]
  simp only [Builtin.Range.rangeFitsLong, Bool.and_eq_true, Bool.or_eq_true, decide_eq_true_eq, beq_iff_eq]
  omega
theorem line_up {n : Nat} (h : n ≤ 100000) : n ≤ sizeLine := by rw [sizeLine_eq]; omega
section
variable {prog : Program} {w : World} {A : Around} {E : Value → Shared → Prop} {s : Shared} {h₀ : Heap} {L : Addr} {news : List (Addr × Obj)} {vs : List Value} {n : Nat}
theorem appendK {D : Addr} {x : Value} {m : Str → Option Value} {g : Obj → List (Addr × Obj)} {Q : Value → Shared → Prop} (F : Fr h₀ L s.heap m) (N : News h₀ L s.heap news) (U : UpdF D (listOf vs.toArray n) news g) (hz : vs.length ≤ 1000000)
    (h : ∀ h' k', Fr h₀ L h' m → News h₀ L h' (g (listOf (vs ++ [x]).toArray k')) → Q .none { s with heap := h' }) : wpAny (model prog w) A (call (.builtin "list.append") [.ref D, x]) Q E s := by
  obtain ⟨pre, post, rfl, hg, a, c⟩ := U.split
  have z := N (D, listOf vs.toArray n) (List.mem_append.mpr (.inr (.head _)))
  have hz1 : vs.toArray.size ≤ sizeLine := by simp only [List.size_toArray]; rw [sizeLine_eq]; omega
  refine call_meets PySem.F.slot_list_append ⟨_, z.1, rfl⟩ PySem.F.entry_list_append (PySem.F.args_list_append_2 _ _) (PySem.AutoListH.list_append_list_val_0 D vs.toArray n x hz1) ⟨z.1, ?_⟩
  have q := PySem.IsL.update z.1 (fun y => y.push x)
  have e : vs.toArray.push x = (vs ++ [x]).toArray := by simp
  rw [e] at q
  refine h _ (if ((vs ++ [x]).toArray.size == vs.toArray.size) = true then n else n + 1) (F.change (Heap.SameBut.update ..) z.2.1 z.2.2) ?_
  rw [hg]
  exact news_set N a c (Heap.SameBut.update ..) q
end
end Mine
end

/-! Iter -/
section
open PySem PySem.W PySem.Spec PySem.Calls PyProof.Rows
set_option maxRecDepth 100000
namespace Mine
/-- an iterator over a list -/
noncomputable def litO (l : Addr) (i : Nat) : Obj := { cls := .type "list_iterator", data := .fields #[.ref l, .int i 0] }
section
variable {prog : Program} {w : World} {A : Around} {E : Value → Shared → Prop} {s : Shared} {h₀ : Heap} {L l it : Addr} {m : Str → Option Value} {news : List (Addr × Obj)} {g : Obj → List (Addr × Obj)} {items : Array Value} {i n : Nat} {x : Value}
theorem iterK {Q : Value → Shared → Prop} (F : Fr h₀ L s.heap m) (N : News h₀ L s.heap news) (hp : (l, ({ cls := .type "list", data := .seq items n } : Obj)) ∈ news)
    (h : ∀ (I : Addr) h', Fr h₀ L h' m → News h₀ L h' ((I, litO l 0) :: news) → (∀ p ∈ news, p.1 < I) → Q (.ref I) { s with heap := h' }) :
    wpAny (model prog w) A (call (.builtin "iter") [.ref l]) Q E s := by
  refine call_function_entry (by decide +kernel) (by decide +kernel) kdk_entry_iter (kdk_args_iter _) ?_
  unfold Builtin.«iter»
  refine wpAny_bind (m := someArgs "iter" 1 2 _) (wpAny_of_eq (a := [Value.ref l]) (by first | rfl | kernel_rfl!) ?_)
  show wpAny _ _ (pyIter (.ref l) >>= _) _ _ _
  refine wpAny_bind (wpAny_pyIter_list (items := items) ⟨_, (N _ hp).1, rfl, n, rfl⟩ ?_)
  exact wpAny_pure ⟨_, rfl, h _ _ (F.push _) (News.push F N _ rfl) (fun q hq => Heap.lt_size (N q hq).1)⟩
theorem nextK {Q : Value → Shared → Prop} (F : Fr h₀ L s.heap m) (N : News h₀ L s.heap news) (U : UpdF it (litO l i) news g) (hp : (l, ({ cls := .type "list", data := .seq items n } : Obj)) ∈ news) (hx : items[i]? = some x)
    (h : ∀ h', Fr h₀ L h' m → News h₀ L h' (g (litO l (i + 1))) → Q x { s with heap := h' }) :
    wpAny (model prog w) A (call (.builtin "next") [.ref it]) Q E s := by
  obtain ⟨pre, post, hl, hg, a, b⟩ := U.split
  have hmem : (it, litO l i) ∈ news := by rw [hl]; exact List.mem_append_right _ (.head _)
  have hm := N (it, litO l i) hmem
  have hit : s.heap.IsListIter it l i := ⟨_, hm.1, rfl, rfl⟩
  have hol := (N _ hp).1
  refine call_function_entry (by decide +kernel) (by decide +kernel) kdk_entry_next (kdk_args_next _) ?_
  unfold Builtin.«next»
  refine wpAny_bind (m := someArgs "next" 1 2 _) (wpAny_of_eq (a := [Value.ref it]) (by first | rfl | kernel_rfl!) ?_)
  dsimp only
  refine wpAny_bind (wpAny_specialOf (name := Str.ofString "__next__") hit.typeIs slot_listiter_next.lookup ?_)
  refine wpAny_ite_split (fun hab => absurd hab (by decide)) (fun _ => ?_)
  refine wpAny_bind (wpAny_callSpecial?_slot (name := Str.ofString "__next__") hit.typeIs slot_listiter_next
    (wpAny_call_entry slot_listiter_next hit.typeIs entry_listiter_next ?_ (args_listiter_next _)))
  show wpAny _ _ (field (.ref it) 0 >>= _) _ _ s
  refine wpAny_bind (wpAny_field hm.1 rfl (x := .ref l) rfl ?_)
  show wpAny _ _ (if (Value.ref l == Value.none) = true then _ else _) _ _ s
  rw [if_neg (show ¬ ((Value.ref l == Value.none) = true) from Bool.false_ne_true)]
  show wpAny _ _ (field (.ref it) 1 >>= _) _ _ s
  refine wpAny_bind (wpAny_field hm.1 rfl (x := .int i 0) rfl ?_)
  show wpAny _ _ (seqItems? (.ref l) >>= _) _ _ s
  refine wpAny_bind (wpAny_seqItems hol rfl ?_)
  simp only [Int.toNat_natCast, hx]
  refine wpAny_bind (wpAny_setField hm.1 rfl (by decide : 1 < 2) (wpAny_pure ⟨x, rfl, wpAny_pure ⟨_, rfl, ?_⟩⟩))
  have ho' := Heap.get?_update_self (Obj.mapFields (·.setIfInBounds 1 (rawInt ((i : Int) + 1)))) hm.1 (Obj.isFreed_of_fields (Obj.data_mapFields (o := litO l i) rfl _))
  have hs : Heap.SameBut it s.heap (s.heap.update it (Obj.mapFields (·.setIfInBounds 1 (rawInt ((i : Int) + 1))))) := Heap.SameBut.update ..
  refine h _ (F.change hs hm.2.1 hm.2.2) (hg _ ▸ (show News h₀ L s.heap (pre ++ (it, litO l i) :: post) from hl ▸ N).setIn a b hs (ho'.trans ?_))
  rfl
end

/-- a contract of a def that uses up objects tl of its caller's -/
noncomputable def CtrX (k : Nat) (w : World) (mean : ExcName → Option Value) (mg mb : Str → Option Value) (f : Addr) (vs : List Value) (tl : List (Addr × Obj)) (Pre : Prop) (R : Value → Prop) : Prop :=
  ∀ (dp un : Nat) (gd : Option (List Code)) (fr : List Env) (base g : Heap) (s : Shared) (Q E : Value → Shared → Prop),
    Below ⟨none, dp, some fr, gd, un⟩ base fr g → (hd.heap_39 w.params).In g → Top hd.view_39 (looseW hd.view_39 [Str.ofString "COMPILER_FLAG_NAMES", Str.ofString "Whitespace"]) mean mg mb g →
    g.StaysIn s.heap → g.objs.size ≤ s.heap.objs.size → (∀ p ∈ tl, s.heap.get? p.1 = some p.2 ∧ g.get? p.1 = none) → Pre →
    dp + (4 * k + 4) < recursionLimit → un + (100 * k + 100) < cLine →
    (∀ v h' tk', g.StaysIn h' → R v → Q v { s with heap := h', toks := tk' }) →
    wpAny (model PySem.Challenge.rw_re0114_01.row.prog w) ⟨none, dp, some fr, gd, un⟩ (call (.ref f) vs) Q E s

theorem CtrX.use {k : Nat} {w : World} {mean : ExcName → Option Value} {mg mb : Str → Option Value} {f : Addr} {vs : List Value} {tl : List (Addr × Obj)} {Pre : Prop} {R : Value → Prop} {A₀ : Around} {base h₀ : Heap} {outer : List Env} {L : Addr} {m : Str → Option Value}
    {news : List (Addr × Obj)} {s : Shared} {A : Around} {env : Env} {Q E : Value → Shared → Prop} (C : CtrX k w mean mg mb f vs tl Pre R) (B : Below A₀ base outer h₀) (F : Fr h₀ L s.heap m) (N : News h₀ L s.heap (tl ++ news)) (hoff : ∀ q ∈ news, ∀ p ∈ tl, q.1 ≠ p.1)
    (X : (hd.heap_39 w.params).In h₀) (T : Top hd.view_39 (looseW hd.view_39 [Str.ofString "COMPILER_FLAG_NAMES", Str.ofString "Whitespace"]) mean mg mb h₀) (hh : A.handled = none) (hA : A.frames = some (env :: outer)) (hf : env.frame = some L) (hke : env.scope.kind = .function)
    (hpre : Pre) (hdp : A.depth + (4 * k + 4) < recursionLimit) (hun : A.units + (100 * k + 100) < cLine)
    (h : ∀ v h' tk', Fr h₀ L h' m → News h₀ L h' news → R v → Q v { s with heap := h', toks := tk' }) :
    wpAny (model PySem.Challenge.rw_re0114_01.row.prog w) A (call (.ref f) vs) Q E s := by
  obtain ⟨hd0, dp, fr0, gd, un⟩ := A
  dsimp only at hh hA hdp hun
  subst hh hA
  have Nt : News h₀ L s.heap tl := fun p hp => N p (List.mem_append_left _ hp)
  have Nr : News h₀ L s.heap news := fun p hp => N p (List.mem_append_right _ hp)
  obtain ⟨FG, BG, st, _⟩ := groundX (R := fun _ _ => True) (A := ⟨none, dp, some (env :: outer), gd, un⟩) B F Nt rfl hf hke
  refine C dp un gd (env :: outer) base _ s Q E BG (X.keeps st) (T.keeps st) (fun b o e => of_hideAll _ e) (Nat.le_of_eq (hideAll_size _ _)) (fun p hp => ⟨(Nt p hp).1, hideAll_none _ (List.mem_map_of_mem hp)⟩) hpre hdp hun ?_
  intro v h' tk' st' hR
  refine h v h' tk' (FG.keeps st') (fun p hp => ⟨st' _ _ (hideAll_get _ (Nr p hp).1 ?_), (Nr p hp).2⟩) hR
  intro hb
  obtain ⟨q, hq, e⟩ := List.mem_map.mp hb
  exact hoff p hp q hq e.symm
section
variable {prog : Program} {w : World} {A : Around} {E : Value → Shared → Prop} {s : Shared} {h₀ : Heap} {L l it : Addr} {m : Str → Option Value} {news : List (Addr × Obj)} {g : Obj → List (Addr × Obj)} {n : Nat} {x y : Value}
theorem nextA {Q : Value → Shared → Prop} (F : Fr h₀ L s.heap m) (N : News h₀ L s.heap news) (U : UpdF it (litO l 0) news g) (hp : (l, ({ cls := .type "list", data := .seq #[x, y] n } : Obj)) ∈ news)
    (h : ∀ h', Fr h₀ L h' m → News h₀ L h' (g (litO l 1)) → Q x { s with heap := h' }) :
    wpAny (model prog w) A (call (.builtin "next") [.ref it]) Q E s := nextK F N U hp rfl h
theorem nextB {Q : Value → Shared → Prop} (F : Fr h₀ L s.heap m) (N : News h₀ L s.heap news) (U : UpdF it (litO l 1) news g) (hp : (l, ({ cls := .type "list", data := .seq #[x, y] n } : Obj)) ∈ news)
    (h : ∀ h', Fr h₀ L h' m → News h₀ L h' (g (litO l 2)) → Q y { s with heap := h' }) :
    wpAny (model prog w) A (call (.builtin "next") [.ref it]) Q E s := nextK F N U hp rfl h
variable {a b c : Int} {t u : Tok}
theorem and_is {Q : Value → Shared → Prop} (e : Builtin.bitAnd a b = c) (h : ∀ t k, Q (.int c t) { s with toks := k }) : wpAny (model prog w) A (binaryOp .BitAnd (.int a t) (.int b u)) Q E s := and_int (by rw [e]; exact h _ _)
theorem ior_is {Q : Value → Shared → Prop} (e : Builtin.bitOr a b = c) (h : ∀ t k, Q (.int c t) { s with toks := k }) : wpAny (model prog w) A (inplaceOp .BitOr (.int a t) (.int b u)) Q E s := ior_int (by rw [e]; exact h _ _)
theorem ixor_is {Q : Value → Shared → Prop} (e : Builtin.bitXor a b = c) (h : ∀ t k, Q (.int c t) { s with toks := k }) : wpAny (model prog w) A (inplaceOp .BitXor (.int a t) (.int b u)) Q E s := ixor_int (by rw [e]; exact h _ _)
theorem ilsh_is {Q : Value → Shared → Prop} (ha : a.natAbs < 2 ^ 64) (h0 : 0 ≤ b) (h1 : b ≤ 1000000) (e : a * 2 ^ b.toNat = c) (h : ∀ t k, Q (.int c t) { s with toks := k }) : wpAny (model prog w) A (inplaceOp .LShift (.int a t) (.int b u)) Q E s := ilshift_int_small h0 h1 ha (by rw [e]; exact h _ _)
theorem lsh_is {Q : Value → Shared → Prop} (ha : a.natAbs < 2 ^ 64) (h0 : 0 ≤ b) (h1 : b ≤ 1000000) (e : a * 2 ^ b.toNat = c) (h : ∀ t k, Q (.int c t) { s with toks := k }) : wpAny (model prog w) A (binaryOp .LShift (.int a t) (.int b u)) Q E s := lshift_int_small h0 h1 ha (by rw [e]; exact h _ _)
theorem rsh_is {Q : Value → Shared → Prop} (h0 : 0 ≤ b) (e : a.fdiv (2 ^ b.toNat) = c) (h : ∀ t k, Q (.int c t) { s with toks := k }) : wpAny (model prog w) A (binaryOp .RShift (.int a t) (.int b u)) Q E s := rshift_int h0 (by rw [e]; exact h _ _)
end
theorem nat_and0 (a b : Nat) (h : b < 64) : 64 * a &&& b = 0 := by
  apply Nat.eq_of_testBit_eq
  intro i
  rw [Nat.testBit_and, Nat.zero_testBit, show 64 * a = 2 ^ 6 * a from rfl, Nat.testBit_two_pow_mul]
  by_cases hi : i ≥ 6
  · have : b.testBit i = false := Nat.testBit_lt_two_pow (Nat.lt_of_lt_of_le h (Nat.pow_le_pow_right (by decide) hi : 2 ^ 6 ≤ 2 ^ i))
    rw [this, Bool.and_false]
  · simp [hi]
theorem or64 {a b : Int} (ha : 0 ≤ a) (hb : 0 ≤ b) (h : b < 64) : Builtin.bitOr (a * 64) b = a * 64 + b := by
  rw [PyProof.Rows.bitOr_and]
  have : Builtin.bitAnd (a * 64) b = 0 := by
    obtain ⟨a, rfl⟩ := Int.eq_ofNat_of_zero_le ha
    obtain ⟨b, rfl⟩ := Int.eq_ofNat_of_zero_le hb
    unfold Builtin.bitAnd
    rw [decide_eq_true (by omega : (0 : Int) ≤ (a : Int) * 64), decide_eq_true (by omega : (0 : Int) ≤ (b : Int))]
    have e : ((a : Int) * 64).toNat = 64 * a := by omega
    simp only [e, Int.toNat_natCast]
    rw [nat_and0 a b (by omega)]; rfl
  rw [this]; omega
end Mine
end

/-! Wh -/
section
open PySem PySem.W PySem.Spec PySem.Calls PyProof.Rows
set_option maxRecDepth 100000
namespace Mine
section
variable {prog : Program} {w : World} {A : Around} {s : Shared} {h₀ : Heap} {L : Addr} {env : Env} {m : Str → Option Value} {news : List (Addr × Obj)}
/-- what a turn of a while leaves -/
inductive WLeft (h₀ : Heap) (L : Addr) (n : Nat) (J : Nat → (Str → Option Value) → List (Addr × Obj) → Prop) (s₁ s₂ : Shared) : Prop
  | mk (k : Nat) (h' : Heap) (tk : Tok) (m' : Str → Option Value) (news' : List (Addr × Obj)) (hk : k < n) (e : s₂ = { s₁ with heap := h', toks := tk }) (F : Fr h₀ L h' m') (N : News h₀ L h' news') (hJ : J k m' news')
/-- a turn's end in a while: the measure falls -/
noncomputable def WEnd (h₀ : Heap) (L : Addr) (n : Nat) (J : Nat → (Str → Option Value) → List (Addr × Obj) → Prop) (s₁ : Shared) (Q : Flow → Shared → Prop) (f : Flow) (s₂ : Shared) : Prop :=
  match f with
  | .ret v => Q (.ret v) s₂
  | .brk => Q .next s₂
  | _ => WLeft h₀ L n J s₁ s₂
/-- the walk stops here -/
noncomputable def WhileAt (prog : Program) (w : World) (A : Around) (env : Env) (test : Expr) (body orelse : List Stmt) (pos : Pos) (Q : Flow → Shared → Prop) (E : Value → Shared → Prop) (s : Shared) : Prop :=
  wpAny (model prog w) A (exec (.While test body orelse pos) env) Q E s
theorem stopW {test : Expr} {body orelse : List Stmt} {pos : Pos} {Q : Flow → Shared → Prop} {E : Value → Shared → Prop} (h : WhileAt prog w A env test body orelse pos Q E s) :
    wpAny (model prog w) A (exec (.While test body orelse pos) env) Q E s := h
theorem While_at {test : Expr} {body orelse : List Stmt} {pos : Pos} {Q : Flow → Shared → Prop} (n : Nat) (J : Nat → (Str → Option Value) → List (Addr × Obj) → Prop) (F : Fr h₀ L s.heap m) (N : News h₀ L s.heap news) (hJ : J n m news)
    (turn : ∀ n m₁ news₁ h tk, J n m₁ news₁ → Fr h₀ L h m₁ → News h₀ L h news₁ →
      wpAny (model prog w) A (isTrue test env (eval test env)) (fun b s' => if b = true then wpAny (model prog w) A (execs body env) (WEnd h₀ L n J { s with heap := h, toks := tk } Q) (fun _ _ => False) s'
        else wpAny (model prog w) A (execs orelse env) Q (fun _ _ => False) s') (fun _ _ => False) { s with heap := h, toks := tk }) :
    WhileAt prog w A env test body orelse pos Q (fun _ _ => False) s := by
  refine wpAny_While (codeAny_whileLoop (fun k s' => ∃ h tk m₁ news₁, s' = { s with heap := h, toks := tk } ∧ Fr h₀ L h m₁ ∧ News h₀ L h news₁ ∧ J k m₁ news₁) ?_ n ⟨s.heap, s.toks, m, news, rfl, F, N, hJ⟩)
  rintro k s' ⟨h, tk, m₁, news₁, rfl, F', N', hJ'⟩
  refine wpAny_mono (turn k m₁ news₁ h tk hJ' F' N') (fun b s₂ hb => ?_) fun _ _ e => e.elim
  cases b with
  | true =>
    simp only [if_true] at hb ⊢
    refine wpAny_mono hb (fun f s₃ hf => ?_) fun _ _ e => e.elim
    have step : WLeft h₀ L k J { s with heap := h, toks := tk } s₃ →
        ∃ j, j < k ∧ ∃ h tk m₁ news₁, s₃ = { s with heap := h, toks := tk } ∧ Fr h₀ L h m₁ ∧ News h₀ L h news₁ ∧ J j m₁ news₁ := by
      rintro ⟨j, h', tk', m', news', hj, rfl, F₄, N₄, hJ₄⟩
      exact ⟨j, hj, h', tk', m', news', rfl, F₄, N₄, hJ₄⟩
    cases f with
    | ret v => exact hf
    | brk => exact hf
    | next => exact step hf
    | cont => exact step hf
  | false =>
    simp only [Bool.false_eq_true, if_false] at hb ⊢
    exact wpAny_mono hb (fun _ _ x => x) fun _ _ e => e.elim
end
end Mine
end

/-! Law -/
section
open PySem PySem.W PySem.Spec PySem.Calls PyProof.Rows
set_option maxRecDepth 100000
namespace Mine
/-- the law's def, taken out of the program -/
noncomputable def lawStmt : Stmt := (PySem.Challenge.pw_re0114_01.main.body.getLast?).getD (.Pass ⟨0, 0, 0, 0⟩)
noncomputable def lawBody : List Stmt := match lawStmt with | .FunctionDef _ _ b _ _ _ _ _ _ _ => b | _ => []
noncomputable def lawScope : Scope := match lawStmt with | .FunctionDef _ _ _ _ _ _ sc _ _ _ => sc | _ => PySem.Challenge.pw_re0114_01.main.scope
/-- the law's frame -/
noncomputable def lawEnv (L fa : Addr) (cd : Value) : Env := envOfC (Str.ofString "law") lawScope L fa cd
noncomputable def lawA (L fa : Addr) (cd : Value) : Around := callerA.deeper (lawEnv L fa cd)

/-- behind some statements: P, or a way out -/
noncomputable def After (P : Shared → Prop) (Q : Flow → Shared → Prop) (f : Flow) (s : Shared) : Prop := match f with | .next => P s | f => Q f s
theorem cut_execs {M : Model} {A : Around} {env : Env} {Q : Flow → Shared → Prop} {E : Value → Shared → Prop} {a b : List Stmt} {s : Shared}
    (h : wpAny M A (execs a env) (After (fun s' => wpAny M A (execs b env) Q E s') Q) E s) : wpAny M A (execs (a ++ b) env) Q E s := by
  intro Γ p hΓ
  have h1 := h Γ p hΓ
  clear h
  induction a generalizing p s with
  | nil => exact h1 Γ p hΓ
  | cons st r ih =>
    show Sem.wp M Γ (execs (st :: (r ++ b)) env) _ _ p s
    rw [execs_cons, Sem.wp_bind'] at h1 ⊢
    refine Sem.wp_mono M Γ _ (fun f p' s' h2 => ?_) (fun _ _ _ h' => h') _ _ h1
    cases f with
    | next => exact ih p' h2
    | brk => exact h2
    | cont => exact h2
    | ret v => exact h2

/-- the law stands ahead of its statement k -/
noncomputable def LawAt (w : World) (L fa : Addr) (cd : Value) (k : Nat) (Q : Flow → Shared → Prop) (s : Shared) : Prop :=
  wpAny (model PySem.Challenge.rw_re0114_01.row.prog w) (lawA L fa cd) (execs (lawBody.drop k) (lawEnv L fa cd)) Q (fun _ _ => False) s
theorem LawAt.cut {w : World} {L fa : Addr} {cd : Value} {k : Nat} {Q : Flow → Shared → Prop} {s : Shared} (n : Nat)
    (h : wpAny (model PySem.Challenge.rw_re0114_01.row.prog w) (lawA L fa cd) (execs ((lawBody.drop k).take n) (lawEnv L fa cd)) (After (LawAt w L fa cd (k + n) Q) Q) (fun _ _ => False) s) : LawAt w L fa cd k Q s := by
  unfold LawAt
  have e : lawBody.drop k = (lawBody.drop k).take n ++ lawBody.drop (k + n) := by rw [← List.drop_drop, List.take_append_drop]
  rw [e]
  exact cut_execs h
/-- the cells of the law's frame: width, drawn, place, told, line, rest, homes -/
noncomputable abbrev cellsL (L : Nat) (c1 c2 c3 c4 c5 c6 c7 : Obj) : List (Addr × Obj) :=
  [(L + 1 + 1 + 1 + 1 + 1 + 1 + 1, c7), (L + 1 + 1 + 1 + 1 + 1 + 1, c6), (L + 1 + 1 + 1 + 1 + 1, c5), (L + 1 + 1 + 1 + 1, c4), (L + 1 + 1 + 1, c3), (L + 1 + 1, c2), (L + 1, c1)]
/-- what stands about the law -/
structure Cx (w : World) (mean : ExcName → Option Value) (mg mb : Str → Option Value) (g : Heap) : Prop where
  B : Below callerA g [] g
  X : (hd.heap_39 w.params).In g
  T : Top hd.view_39 (looseW hd.view_39 [Str.ofString "COMPILER_FLAG_NAMES", Str.ofString "Whitespace"]) mean mg mb g
theorem law_dp (env : Env) {k : Nat} (h : k ≤ 100) : (callerA.deeper env).depth + k < recursionLimit := by
  have h1 : 1 + claimMargin + 1 + 100 < recursionLimit := by decide +kernel
  exact Nat.lt_of_le_of_lt (Nat.add_le_add_left h _) h1
theorem law_un (env : Env) {k : Nat} (h : k ≤ 1000) : (callerA.deeper env).units + k < cLine := by
  have h1 : (callerA.deeper env).units ≤ 8 := by show _ ≤ _; simp [callerA, Around.deeper]
  have h2 := cLine_is
  omega
end Mine
end

/-! LawA -/
section
open PySem PySem.W PySem.Spec PySem.Calls PyProof.Rows
set_option maxRecDepth 100000
set_option maxHeartbeats 8000000
namespace Mine
local macro_rules | `(tactic| walk_at "subscriptTail") => `(tactic| ((with_reducible show wpAny _ _ (subscriptTail (PySem.Expr.List _ _) _ _ _) _ _ _); refine stop_at ?_))
theorem row3 (ns : List Int) : ∃ r0 r1 r2, ns.take 3 ++ [37, 50, 1].drop (((ns.take 3).length : Nat) : Int).toNat = [r0, r1, r2] := by
  rcases ns with _ | ⟨a, _ | ⟨b, _ | ⟨c, r⟩⟩⟩ <;> exact ⟨_, _, _, rfl⟩
/-- statement 0: the row of the script's first three -/
theorem lawA0 {w : World} {mean : ExcName → Option Value} {mg mb : Str → Option Value} {fa : Addr} {cd : Value} {g h1 : Heap} {L : Addr} {tk : Tok} {s : Shared} {l : Addr} {vs : List Value} {ns : List Int} {c1 c2 c3 c4 c5 c6 c7 : Obj} {Q : Flow → Shared → Prop}
   (C : Cx w mean mg mb g) (hl : g.IsList l vs.toArray) (hI : IntsAre vs ns) (hlen : ns.length ≤ 63)
   (F : Fr g L h1 (fun y => if y = Str.ofString "script" then some (.ref l) else none)) (N : News g L h1 (cellsL L c1 c2 c3 c4 c5 c6 c7))
   (next : ∀ R ws r0 r1 r2 h' tk', Fr g L h' (fun y => if y = Str.ofString "row" then some (.ref R) else if y = Str.ofString "script" then some (.ref l) else none) → News g L h' ((R, W.listOf ws.toArray 0) :: cellsL L c1 c2 c3 c4 c5 c6 c7) → (@LT.lt Nat _ (L + 1 + 1 + 1 + 1 + 1 + 1 + 1) R) → IntsAre ws [r0, r1, r2] → LawAt w L fa cd 1 Q { s with heap := h', toks := tk' }) :
   LawAt w L fa cd 0 Q { s with heap := h1, toks := tk } := by
  refine LawAt.cut 1 ?_
  unfold lawA lawEnv
  conv in (occs := *) lawScope => all_goals whnf
  conv in List.drop _ _ => whnf
  dsimp only [List.take]
  obtain ⟨B, X, T⟩ := C
  revert X
  k_fill
  w_on
  intro X
  have T := T
  (try dsimp only)
  (try k_fold)
  k_steps
  refine kba_turn (value' := PySem.Expr.Name (PySem.Str.ofString "_") ⟨0, 0, 0, 0⟩) (fun _ => rfl) ?_
  refine' kmk_slice_ints (ns := [37, 50, 1]) ?zF ?zN ?zl ?zp ?zq (.cons _ _ (.cons _ _ (.cons _ _ .nil))) ?zm rfl ?_ ?zs ?zt ?zz
  case zF => k_asm
  case zN => k_asm
  case zl => exact News.isList (by k_asm) (by k_mem)
  case zp => exact IsPart.int _ _
  case zq => exact IsPart.none
  case zm => exact kmk_from (.cons _ _ (.cons _ _ (.cons _ _ .nil))) (Int.natCast_nonneg _)
  case zs => with_unfolding_all rfl
  case zt => kmk_pure
  case zz => exact Nat.le_of_ble_eq_true rfl
  intro D' ws' h' F' N' l1 hI' _ _
  (try k_lt l1)
  dsimp only
  k_steps
  obtain ⟨r0, r1, r2, e⟩ := row3 ns
  rename IntsAre _ (_ ++ _) => hR
  rename News _ _ _ _ => NN
  rename Fr _ _ _ _ => FF
  rw [e] at hR
  exact next _ _ r0 r1 r2 _ _ FF (News.perm NN (by kcf_all)) (by omega) hR
end Mine
end

/-! LawB -/
section
open PySem PySem.W PySem.Spec PySem.Calls PyProof.Rows
set_option maxRecDepth 100000
set_option maxHeartbeats 8000000
namespace Mine
theorem fmod_pos (a : Int) {b : Int} (h : 0 < b) : 0 ≤ a.fmod b ∧ a.fmod b < b := by
  rw [Int.fmod_eq_emod_of_nonneg _ (Int.le_of_lt h)]
  exact ⟨Int.emod_nonneg _ (by omega), Int.emod_lt_of_pos _ h⟩
theorem draw_is (r0 r1 : Int) : ∃ x : Nat, x < 4096 ∧ r0.fmod 64 * 64 + r1.fmod 64 = (x : Int) := by
  have h1 := fmod_pos r0 (b := 64) (by decide)
  have h3 := fmod_pos r1 (b := 64) (by decide)
  exact ⟨(r0.fmod 64 * 64 + r1.fmod 64).toNat, by omega, by omega⟩
theorem wid_is (r2 : Int) : ∃ W : Nat, 2 ≤ W ∧ W ≤ 4 ∧ r2.fmod 3 + 2 = (W : Int) := by
  have h1 := fmod_pos r2 (b := 3) (by decide)
  exact ⟨(r2.fmod 3 + 2).toNat, by omega, by omega, by omega⟩
/-- statements 1, 2: width, drawn -/
theorem lawA1 {w : World} {mean : ExcName → Option Value} {mg mb : Str → Option Value} {fa : Addr} {cd : Value} {g h1 : Heap} {L : Addr} {tk : Tok} {s : Shared} {l R : Addr} {ws : List Value} {r0 r1 r2 : Int} {c1 c2 c3 c4 c5 c6 c7 : Obj} {Q : Flow → Shared → Prop}
   (C : Cx w mean mg mb g) (hI : IntsAre ws [r0, r1, r2]) (hR : @LT.lt Nat _ (L + 1 + 1 + 1 + 1 + 1 + 1 + 1) R) (d1 : c1.data = .cell none) (d2 : c2.data = .cell none)
   (F : Fr g L h1 (fun y => if y = Str.ofString "row" then some (.ref R) else if y = Str.ofString "script" then some (.ref l) else none)) (N : News g L h1 ((R, W.listOf ws.toArray 0) :: cellsL L c1 c2 c3 c4 c5 c6 c7))
   (next : ∀ (x wd : Nat) c1 c2 t1 t2 h' tk', x < 4096 → 2 ≤ wd → wd ≤ 4 → r0.fmod 64 * 64 + r1.fmod 64 = (x : Int) → Fr g L h' (fun y => if y = Str.ofString "row" then some (.ref R) else if y = Str.ofString "script" then some (.ref l) else none) → News g L h' ((R, W.listOf ws.toArray 0) :: cellsL L c1 c2 c3 c4 c5 c6 c7) →
     c1.data = .cell (some (.int (wd : Int) t1)) → c2.data = .cell (some (.int (x : Int) t2)) → LawAt w L fa cd 3 Q { s with heap := h', toks := tk' }) :
   LawAt w L fa cd 1 Q { s with heap := h1, toks := tk } := by
  refine LawAt.cut 2 ?_
  unfold lawA lawEnv
  conv in (occs := *) lawScope => all_goals whnf
  conv in List.drop _ _ => whnf
  dsimp only [List.take]
  obtain ⟨B, X, T⟩ := C
  revert X
  k_fill
  w_on
  intro X
  have T := T
  (try dsimp only)
  (try k_fold)
  obtain ⟨x, hx, ex⟩ := draw_is r0 r1
  obtain ⟨wd, hW1, hW2, eW⟩ := wid_is r2
  k_steps
  rename News _ _ _ _ => NN
  rename Fr _ _ _ _ => FF
  refine' next x wd _ _ _ _ _ _ hx hW1 hW2 ex FF (News.perm NN (by kcf_all)) ?e1 ?e2
  case e1 => rw [← eW]; assumption
  case e2 => rw [← ex]; assumption
end Mine
end

/-! LawC -/
section
open PySem PySem.W PySem.Spec PySem.Calls PyProof.Rows
set_option maxRecDepth 100000
set_option maxHeartbeats 8000000
namespace Mine
/-- the places of the bits -/
noncomputable def bitsI (x : Nat) : List Int := ((List.range 12).filter fun i => x.testBit i).map fun (i : Nat) => (i : Int)
theorem bit_at (x i : Nat) : Builtin.bitAnd ((x : Int).fdiv (2 ^ i)) 1 = if x.testBit i then 1 else 0 := by
  rw [bitAnd_m1, Nat.testBit_eq_decide_div_mod_eq, ← kbt_cast]
  have e : (x : Int).fdiv ((2 ^ i : Nat) : Int) = ((x / 2 ^ i : Nat) : Int) := by
    rw [Int.fdiv_eq_ediv_of_nonneg _ (Int.natCast_nonneg _)]; rfl
  rw [e]
  have : ((x / 2 ^ i : Nat) : Int) % 2 = ((x / 2 ^ i % 2 : Nat) : Int) := by omega
  rw [this]
  rcases Nat.mod_two_eq_zero_or_one (x / 2 ^ i) with h | h <;> simp [h]
local macro_rules | `(tactic| walk_at "binaryOp BitAnd int int") => `(tactic| (refine and_is (by with_reducible assumption) ?_; intro _ _))
local macro_rules | `(tactic| walk_at "binaryOp RShift int int") => `(tactic| (refine rsh_is (by with_reducible assumption) (by with_reducible assumption) ?_; intro _ _))
local macro_rules | `(tactic| walk_at "exec Assign cons ListComp") => `(tactic| (refine stop_at ?_))
/-- statement 3: beads -/
theorem lawA3 {w : World} {mean : ExcName → Option Value} {mg mb : Str → Option Value} {fa : Addr} {cd : Value} {g h1 : Heap} {L : Addr} {tk : Tok} {s : Shared} {l R : Addr} {ws : List Value} {x : Nat} {c1 c2 c3 c4 c5 c6 c7 : Obj} {t2 : Tok} {Q : Flow → Shared → Prop}
   (C : Cx w mean mg mb g) (hR : @LT.lt Nat _ (L + 1 + 1 + 1 + 1 + 1 + 1 + 1) R) (d2 : c2.data = .cell (some (.int (x : Int) t2)))
   (F : Fr g L h1 (fun y => if y = Str.ofString "row" then some (.ref R) else if y = Str.ofString "script" then some (.ref l) else none)) (N : News g L h1 ((R, W.listOf ws.toArray 0) :: cellsL L c1 c2 c3 c4 c5 c6 c7))
   (next : ∀ B bs h' tk', IntsAre bs (bitsI x) → LCg.Off1 B ((R, W.listOf ws.toArray 0) :: cellsL L c1 c2 c3 c4 c5 c6 c7) → Fr g L h' (fun y => if y = Str.ofString "beads" then some (.ref B) else if y = Str.ofString "row" then some (.ref R) else if y = Str.ofString "script" then some (.ref l) else none) →
     News g L h' ((B, W.listOf bs.toArray bs.length) :: (R, W.listOf ws.toArray 0) :: cellsL L c1 c2 c3 c4 c5 c6 c7) → LawAt w L fa cd 4 Q { s with heap := h', toks := tk' }) :
   LawAt w L fa cd 3 Q { s with heap := h1, toks := tk } := by
  refine LawAt.cut 1 ?_
  unfold lawA lawEnv
  conv in (occs := *) lawScope => all_goals whnf
  conv in List.drop _ _ => whnf
  dsimp only [List.take]
  obtain ⟨B, X, T⟩ := C
  revert X
  k_fill
  w_on
  intro X
  have T := T
  (try dsimp only)
  (try k_fold)
  k_steps
  refine Assign_M (F₀ := by k_asm) (by rfl) (by with_unfolding_all rfl) (by with_unfolding_all rfl) (by decide) (by rfl) (by decide) (by rfl) (by rfl) (by rfl) ?_
  (try dsimp only)
  k_steps
  refine LCt.CompSrcT.range (n := 12) (by rfl) (by k_asm) (by k_asm) (by assumption) (by decide) (by decide) (by decide) ?_
  intro g2
  refine restTE IntIs (fun i => x.testBit i) (fun i => (i : Int)) trivial ?_ ?_
  · rintro i v I oI C oC D m₂ ys h2 tk2 E' hi ⟨t2, rfl⟩ hC hx2 F2 N2
    obtain ⟨q, hq⟩ : ∃ q : Int, 0 + (i : Int) = q := ⟨_, rfl⟩
    rw [hq] at hx2
    have hq0 : 0 ≤ q := by omega
    have hqi : q = (i : Int) := by omega
    have hb := bit_at x i
    obtain ⟨y, hy⟩ : ∃ y, (x : Int).fdiv (2 ^ q.toNat) = y := ⟨_, rfl⟩
    have hy2 := hy
    rw [show q.toNat = i by omega] at hy2
    rw [hy2] at hb
    cases hbit : x.testBit i with
    | false =>
      simp only [hbit, Bool.false_eq_true, if_false] at hb
      dsimp only
      k_steps
      exact ⟨⟨_, rfl⟩, rfl⟩
    | true =>
      simp only [hbit, if_true] at hb
      dsimp only
      k_steps
      exact ⟨⟨_, rfl⟩, rfl, _, by rw [hqi]⟩
  · intro ys hys
    have hys' := hys.ints
    intro D h2 tk2 F2 N2 off2
    dsimp only
    k_steps
    exact next D ys _ _ hys' off2 F2 N2
end Mine
end

/-! Varint -/
section
open PySem PySem.W PySem.Spec PySem.Calls PyProof.Rows
set_option maxRecDepth 100000
set_option maxHeartbeats 8000000
namespace Mine
local macro_rules | `(tactic| walk_at "call builtin:next") => `(tactic| (refine stop_at ?_))
local macro_rules | `(tactic| walk_at "binaryOp BitAnd int int") => `(tactic| (refine and_is (by with_reducible assumption) ?_; intro _ _))
local macro_rules | `(tactic| walk_at "inplaceOp BitOr int int") => `(tactic| (refine ior_is (by with_reducible assumption) ?_; intro _ _))
local macro_rules | `(tactic| walk_at "inplaceOp LShift int int") => `(tactic| (refine ilsh_is (by omega) (by decide) (by decide) (by with_reducible assumption) ?_; intro _ _))
local macro_rules | `(tactic| walk_at "exec While BinOp cons nil") => `(tactic| (k_here; k_dflt (refine stopW ?_)))
/-- what the loop keeps -/
inductive VaJ (I l : Addr) (n : Nat) (a b : Int) (t1 t2 : Tok) (n' : Nat) (m : Str → Option Value) (nw : List (Addr × Obj)) : Prop
  | mk (v bb : Int) (tv tb : Tok) (i : Nat) (hnw : nw = [(I, litO l i), (l, W.listOf #[.int (64 + a) t1, .int b t2] n)]) (g1 : m (Str.ofString "val") = some (.int v tv)) (g2 : m (Str.ofString "b") = some (.int bb tb)) (g3 : m (Str.ofString "iterator") = some (.ref I))
    (hc : n' = 1 ∧ i = 1 ∧ v = a ∧ bb = 64 + a ∨ n' = 0 ∧ i = 2 ∧ v = a * 64 + b ∧ bb = b)
theorem c_varint (w : World) (mean : ExcName → Option Value) (mg mb : Str → Option Value) (I l : Addr) (n : Nat) (a b : Int) (t1 t2 : Tok) (hne : @Ne Nat I l) :
    CtrX 0 w mean mg mb 36 [.ref I] [(I, litO l 0), (l, W.listOf #[.int (64 + a) t1, .int b t2] n)] (0 ≤ a ∧ a < 64 ∧ 0 ≤ b ∧ b < 64) (fun v => IntIs v (a * 64 + b)) := by
  unfold CtrX
  intro dp un gd fr base g s Q E B
  k_fill
  w_on
  intro X T hst hsz hN hp hdp hun hret
  obtain ⟨hp1, hp2, hp3, hp4⟩ := hp
  refine wpAny_call ?_
  k_dflt (refine' enterP (g := g) (news := [(I, litO l 0), (l, W.listOf #[.int (64 + a) t1, .int b t2] n)]) (binds := [(Str.ofString "iterator", .ref I)]) (X.keeps hst) (T.nolimit.keeps hst) hst hsz hN ?k6 ?k7 ?k8 ?k9 ?kB ?_ ?c2 ?c3 ?c4 ?c5; (case k6 => k_is); (case k7 => k_is); (case k8 => (dsimp only; omega)); (case k9 => exact BindsTo.of_eq rfl); (case kB => exact locs rfl); (case c2 => exact rfl); (case c3 => exact rfl); (case c4 => exact rfl); (case c5 => decide))
  intro L' h' F' N' _
  clear hN
  have hne' := hne.symm
  have e1 : Builtin.bitAnd (64 + a) 63 = a := by rw [bitAnd_m6]; omega
  have e2 : Builtin.bitAnd (64 + a) 64 = 64 := by rw [show (64 : Int) = 2 ^ 6 from rfl, kbt_bit]; omega
  have e3 : Builtin.bitAnd b 63 = b := by rw [bitAnd_m6]; omega
  have e4 : Builtin.bitAnd b 64 = 0 := by rw [show (64 : Int) = 2 ^ 6 from rfl, kbt_bit]; omega
  have e5 : Builtin.bitOr (a * 64) b = a * 64 + b := or64 hp1 hp3 hp4
  have e6 : a * 2 ^ (6 : Int).toNat = a * 64 := rfl
  dsimp only
  refine boxQ fun Tz hTz => ?_
  show (let Az := _; wpAny _ Az _ _ _ _)
  intro Az
  k_steps
  (refine' nextA ?F ?N ?U ?p ?_; (case F => k_asm); (case N => k_asm); (case U => k_updF); (case p => k_mem))
  intro h' F' N'
  dsimp only
  k_steps
  refine' While_at 1 (VaJ I l n a b t1 t2) (by k_asm) (by k_asm) ⟨_, _, _, _, _, rfl, rfl, rfl, rfl, .inl ⟨rfl, rfl, rfl, rfl⟩⟩ ?_
  intro n' m₁ nw h1 tk1 hJJ F N
  obtain ⟨v, bb, tv, tb, i, rfl, g1, g2, g3, hc⟩ := hJJ
  have F1 := Fr.lits F [(Str.ofString "val", .int v tv), (Str.ofString "b", .int bb tb), (Str.ofString "iterator", .ref I)] (by simp only [List.forall_mem_cons]; exact ⟨g1, g2, g3, fun _ h => nomatch h⟩)
  clear F
  rcases hc with ⟨rfl, rfl, rfl, rfl⟩ | ⟨rfl, rfl, rfl, rfl⟩
  · dsimp only
    k_steps
    (refine' nextB ?F ?N ?U ?p ?_; (case F => k_asm); (case N => k_asm); (case U => k_updF); (case p => k_mem))
    intro h' F' N'
    dsimp only
    k_steps
    · refine' ⟨0, _, _, _, _, by decide, rfl, (by assumption), (by assumption), _, _, _, _, _, rfl, rfl, rfl, rfl, .inr ⟨rfl, rfl, rfl, rfl⟩⟩
  · dsimp only
    k_steps
    · dsimp only
      exact hTz _ _ (hret _ _ _ (Fr.keep (by assumption)) ⟨_, rfl⟩)
end Mine
end

/-! LawD -/
section
open PySem PySem.W PySem.Spec PySem.Calls PyProof.Rows
set_option maxRecDepth 100000
set_option maxHeartbeats 8000000
namespace Mine
local macro_rules | `(tactic| walk_at "call ref") => `(tactic| (refine stop_at ?_))
local macro_rules | `(tactic| walk_at "call builtin:iter") => `(tactic| (refine stop_at ?_))
/-- statement 4: told -/
theorem lawA4 {w : World} {mean : ExcName → Option Value} {mg mb : Str → Option Value} {fa : Addr} {cd : Value} {g h1 : Heap} {L : Addr} {tk : Tok} {s : Shared} {l R B : Addr} {ws bs : List Value} {r0 r1 r2 : Int} {x : Nat} {c1 c2 c3 c4 c5 c6 c7 : Obj} {Q : Flow → Shared → Prop}
   (C : Cx w mean mg mb g) (hI : IntsAre ws [r0, r1, r2]) (hR : @LT.lt Nat _ (L + 1 + 1 + 1 + 1 + 1 + 1 + 1) R) (hx : r0.fmod 64 * 64 + r1.fmod 64 = (x : Int)) (d4 : c4.data = .cell none)
   (hB : LCg.Off1 B ((R, W.listOf ws.toArray 0) :: cellsL L c1 c2 c3 c4 c5 c6 c7))
   (F : Fr g L h1 (fun y => if y = Str.ofString "beads" then some (.ref B) else if y = Str.ofString "row" then some (.ref R) else if y = Str.ofString "script" then some (.ref l) else none)) (N : News g L h1 ((B, W.listOf bs.toArray bs.length) :: (R, W.listOf ws.toArray 0) :: cellsL L c1 c2 c3 c4 c5 c6 c7))
   (next : ∀ c4 t4 h' tk', c4.data = .cell (some (.int (x : Int) t4)) → Fr g L h' (fun y => if y = Str.ofString "beads" then some (.ref B) else if y = Str.ofString "row" then some (.ref R) else if y = Str.ofString "script" then some (.ref l) else none) →
     News g L h' ((B, W.listOf bs.toArray bs.length) :: (R, W.listOf ws.toArray 0) :: cellsL L c1 c2 c3 c4 c5 c6 c7) → LawAt w L fa cd 5 Q { s with heap := h', toks := tk' }) :
   LawAt w L fa cd 4 Q { s with heap := h1, toks := tk } := by
  refine LawAt.cut 1 ?_
  unfold lawA lawEnv
  conv in (occs := *) lawScope => all_goals whnf
  conv in List.drop _ _ => whnf
  dsimp only [List.take]
  obtain ⟨B0, X, T⟩ := C
  revert X
  k_fill
  w_on
  intro X
  have T := T
  have ha := fmod_pos r0 (b := 64) (by decide)
  have hb := fmod_pos r1 (b := 64) (by decide)
  simp only [LCg.Off1, and_true] at hB
  obtain ⟨b1, b2, b3, b4, b5, b6, b7, b8⟩ := hB
  (try dsimp only)
  (try k_fold)
  k_steps
  refine iterK (by k_asm) (by k_asm) (by k_mem) ?_
  intro I' h' F' N' l1
  (try k_lt l1)
  dsimp only
  k_steps
  rename News _ _ _ _ => NN
  rename Fr _ _ _ _ => FF
  refine' CtrX.use (news := (B, W.listOf bs.toArray bs.length) :: (R, W.listOf ws.toArray 0) :: cellsL L c1 c2 c3 c4 c5 c6 c7) (c_varint w mean mg mb _ _ _ (r0.fmod 64) (r1.fmod 64) _ _ ?ne) B0 FF NN ?off X T rfl rfl rfl rfl ⟨ha.1, ha.2, hb.1, hb.2⟩ (law_dp _ (by decide)) (law_un _ (by decide)) ?_
  case ne => refine neN ?_; omega
  case off => simp only [cellsL, List.forall_mem_cons]; (repeat' apply And.intro) <;> first | exact fun _ h => nomatch h | k_ne
  rintro v h2 tk2 F2 N2 ⟨t5, rfl⟩
  rw [hx]
  dsimp only
  k_steps
  rename News _ _ _ _ => NN
  rename Fr _ _ _ _ => FF
  refine' next _ _ _ _ ?e FF NN
  case e => assumption
end Mine
end

/-! Words -/
section
open PySem PySem.W PySem.Spec PySem.Calls PyProof.Rows
set_option maxRecDepth 100000
set_option maxHeartbeats 8000000
namespace Mine
noncomputable def nameL : List Str := ["OPTIMIZED", "NEWLOCALS", "VARARGS", "VARKEYWORDS", "NESTED", "GENERATOR", "NOFREE", "COROUTINE", "ITERABLE_COROUTINE", "ASYNC_GENERATOR", "0x400", "0x800"]
noncomputable def wordsF (ps : List Int) : Str := if ps = [] then "0x0" else Txt.join ", " (((List.range 12).filter fun (i : Nat) => ps.any fun x => x == (i : Int)).map fun (i : Nat) => nameL.getD i "")
theorem nameL_len (i : Nat) : (nameL.getD i "").length ≤ 18 := by
  rcases Nat.lt_or_ge i 12 with h | h
  · have : ∀ j : Fin 12, (nameL.getD j.val "").length ≤ 18 := by decide
    exact this ⟨i, h⟩
  · have e : nameL.getD i "" = "" := by
      rw [List.getD_eq_getElem?_getD, List.getElem?_eq_none (by simpa [nameL] using h)]; rfl
    rw [e]; decide
theorem sum_le_mul {k : Nat} : ∀ {l : List Nat}, (∀ z ∈ l, z ≤ k) → l.sum ≤ k * l.length
  | [], _ => by simp
  | a :: l, h => by
    have h1 := sum_le_mul (l := l) fun z hz => h z (.tail _ hz)
    have h2 := h a (.head _)
    simp only [List.sum_cons, List.length_cons, Nat.mul_add]; omega
local macro_rules | `(tactic| walk_at "eval ListComp") => `(tactic| (refine stop_at ?_))
local macro_rules | `(tactic| walk_at "call builtin:str.join") => `(tactic| (refine stop_at ?_))
theorem c_words (w : World) (mean : ExcName → Option Value) (mg mb : Str → Option Value) (pl : Addr) (vs : List Value) (ps : List Int) (kp : Nat) (hvs : IntsAre vs ps) :
    CtrL 0 w mean mg mb 114 [.ref pl] [(pl, W.listOf vs.toArray kp)] (ps.length ≤ 12) (fun v out => StrIs v (wordsF ps)) := by
  unfold CtrL
  intro dp un gd fr base g s Q E B
  k_fill
  w_on
  intro X T hst hsz hN hp hdp hun hret
  refine wpAny_call ?_
  k_dflt (refine' enterC (g := g) (news := [(pl, W.listOf vs.toArray kp)]) (binds := [(Str.ofString "places", .ref pl)]) (X.keeps hst) (T.nolimit.keeps hst) hst hsz hN ?k6 ?k7 ?k8 ?k9 ?kB ?kD ?_ ?c2 ?c3 ?c4; (case k6 => k_is); (case k7 => k_is); (case k8 => (dsimp only; omega)); (case k9 => exact BindsTo.of_eq rfl); (case kB => exact rfl); (case kD => decide +kernel); (case c2 => exact rfl); (case c3 => exact rfl); (case c4 => exact rfl))
  intro L' h' tk' cells' F' N' Y' lt1
  obtain ⟨oc1, oc2, hE, dc1, dc2⟩ := CellsAre.two Y'
  subst hE
  clear Y'
  replace dc2 : oc2.data = .cell (some (.ref pl)) := dc2.trans rfl
  replace dc1 : oc1.data = .cell none := dc1.trans rfl
  replace F' : Fr g L' h' (fun y => none) := F'
  simp only [List.cons_append, List.nil_append] at N'
  have lt2 := ltN (lt1 _ (.head _))
  clear hN lt1
  dsimp only
  (try k_fold)
  refine boxQ fun Tz hTz => ?_
  k_steps
  · dsimp only
    rename News _ _ _ _ => NN
    refine hTz _ _ ?_
    refine hret _ [] _ _ (Fr.keep (by assumption)) ?tl (fun _ hp => nomatch hp) ?_
    case tl =>
      have hm := fun p hp => (NN p ((by kcf_all : ∀ p ∈ [(pl, W.listOf vs.toArray kp)], p ∈ _) p hp)).1
      exact hm
    have hz : ps = [] := by simpa using (by assumption : decide (ps = []) = true)
    rw [wordsF, if_pos hz]
    exact ⟨_, rfl⟩
  · rename IntsAre _ _ => hvs2
    refine ListComp_M (F₀ := by k_asm) (by with_unfolding_all rfl) (by decide) (by rfl) (by decide) (by rfl) ?_
    dsimp only
    k_steps
    refine LCt.CompSrcT.range (n := 12) (by rfl) (by k_asm) (by k_asm) (by assumption) (by decide) (by decide) (by decide) ?_
    intro g2
    refine restT StrIs (fun i => ps.any fun x => x == (i : Int)) (fun i => nameL.getD i "") ?_ ?_
    · rintro i v I oI C oC D m₂ ys h2 tk2 E' hi ⟨t2, rfl⟩ hC hx2 F2 N2 off2 ne2
      obtain ⟨q, hq⟩ : ∃ q : Int, 0 + (i : Int) = q := ⟨_, rfl⟩
      rw [hq] at hx2
      (try simp only [LCg.Off3, and_true] at off2)
      have hql : 0 ≤ q ∧ q < (nameL.length : Int) := by have : nameL.length = 12 := rfl; omega
      dsimp only
      k_steps
      · refine item_lstK (xs := nameL) N2 (.tail _ (.tail _ (.tail _ (.tail _ (.head _))))) ?_ hql.1 hql.2 (by decide) ?_
        · repeat' (first | exact .nil | refine .cons _ _ ?_)
        intro t5
        k_steps
        have hqi : q = (i : Int) := by omega
        subst hqi
        exact ⟨rfl, by assumption, _, rfl⟩
      · have hqi : q = (i : Int) := by omega
        subst hqi
        exact ⟨rfl, by assumption⟩
    · intro ys hys
      have hys' := hys.strs
      intro D h2 tk2 F2 N2 off2
      dsimp only
      k_steps
      rename News _ _ _ _ => NN
      refine join_list (News.isList NN (.head _)) (by simpa using hys') ?_ ?_
      · have h1 := sum_le_mul (l := ((((List.range 12).filter fun (i : Nat) => ps.any fun x => x == (i : Int)).map fun (i : Nat) => nameL.getD i "")).map (·.length)) (k := 18) (by
          intro z hz
          obtain ⟨y, hy, rfl⟩ := List.mem_map.mp hz
          obtain ⟨i, _, rfl⟩ := List.mem_map.mp hy
          exact nameL_len i)
        have h2 : ((List.range 12).filter fun (i : Nat) => ps.any fun x => x == (i : Int)).length ≤ 12 := by
          have := List.length_filter_le (fun (i : Nat) => ps.any fun x => x == (i : Int)) (List.range 12)
          simpa using this
        have h3 : (Str.ofString ", ").length = 2 := by decide
        refine Nat.le_trans (Nat.add_le_add h1 (Nat.le_refl _)) ?_
        rw [h3]
        simp only [List.length_map]
        omega
      · intro t6 k6
        have hz : ¬ ps = [] := by simpa using (by assumption : decide (ps = []) = false)
        dsimp only
        refine hTz _ _ ?_
        refine hret _ [] _ _ (Fr.keep (by assumption)) ?tl (fun _ hp => nomatch hp) ?_
        case tl =>
          have hm := fun p hp => (NN p ((by kcf_all : ∀ p ∈ [(pl, W.listOf vs.toArray kp)], p ∈ _) p hp)).1
          exact hm
        rw [wordsF, if_neg hz]
        exact ⟨_, rfl⟩
end Mine
end

/-! Flags -/
section
open PySem PySem.W PySem.Spec PySem.Calls PyProof.Rows
set_option maxRecDepth 100000
set_option maxHeartbeats 8000000
namespace Mine
/-- the names of the bits below i -/
noncomputable def bitNames (x i : Nat) : List Str := ((List.range i).filter fun j => x.testBit j).map fun j => nameL.getD j ""
noncomputable def flagsF (x : Nat) : Str := if x = 0 then "0x0" else Txt.join ", " (bitNames x 12)
theorem bitNames_succ (x i : Nat) : bitNames x (i + 1) = if x.testBit i then bitNames x i ++ [nameL.getD i ""] else bitNames x i := by
  unfold bitNames
  rw [List.range_succ, List.filter_append, List.map_append]
  split <;> rename_i h <;> simp [h]
theorem bitNames_len (x i : Nat) : (bitNames x i).length ≤ i := by
  unfold bitNames
  rw [List.length_map]
  have := List.length_filter_le (fun j => x.testBit j) (List.range i)
  simpa using this
theorem bits_and (x i : Nat) : Builtin.bitAnd ((x / 2 ^ i * 2 ^ i : Nat) : Int) (1 * 2 ^ i) = if x.testBit i then 2 ^ i else 0 := by
  rw [Int.one_mul, kbt_bit]
  have e : ((x / 2 ^ i * 2 ^ i : Nat) : Int) / 2 ^ i = ((x / 2 ^ i : Nat) : Int) := by
    rw [← kbt_cast, ← Int.natCast_ediv, Nat.mul_div_cancel _ (Nat.two_pow_pos i)]
  rw [e, Nat.testBit_eq_decide_div_mod_eq]
  have : ((x / 2 ^ i : Nat) : Int) % 2 = ((x / 2 ^ i % 2 : Nat) : Int) := by omega
  rw [this]
  rcases Nat.mod_two_eq_zero_or_one (x / 2 ^ i) with h | h <;> simp [h]
theorem bits_next (x i : Nat) : x / 2 ^ i * 2 ^ i = x / 2 ^ (i + 1) * 2 ^ (i + 1) + if x.testBit i then 2 ^ i else 0 := by
  rw [Nat.testBit_eq_decide_div_mod_eq, Nat.pow_succ, ← Nat.div_div_eq_div_mul]
  have h := Nat.div_add_mod (x / 2 ^ i) 2
  generalize x / 2 ^ i = y at *
  generalize 2 ^ i = z at *
  rcases Nat.mod_two_eq_zero_or_one y with h1 | h1
  · simp only [h1, show (0 = 1) = False by simp, decide_false, Bool.false_eq_true, if_false, Nat.add_zero] at *
    calc y * z = (2 * (y / 2)) * z := by rw [h]
      _ = _ := by rw [Nat.mul_comm z 2, ← Nat.mul_assoc, Nat.mul_comm 2]
  · simp only [h1, decide_true, if_true] at *
    calc y * z = (2 * (y / 2) + 1) * z := by rw [h]
      _ = _ := by rw [Nat.add_mul, Nat.one_mul, Nat.mul_comm z 2, ← Nat.mul_assoc, Nat.mul_comm 2]
theorem StrsAre.snoc {vs : List Value} {xs : List Str} {x : Str} {t : Tok} (h : StrsAre vs xs) : StrsAre (vs ++ [.str x t]) (xs ++ [x]) := by
  induction h with
  | nil => exact .cons _ _ .nil
  | cons x t _ ih => exact .cons _ _ ih
theorem bit_sum (x i : Nat) : ((bitNames x i).map (·.length)).sum ≤ 18 * i := by
  have h1 := sum_le_mul (l := (bitNames x i).map (·.length)) (k := 18) (by
    intro z hz
    obtain ⟨y, hy, rfl⟩ := List.mem_map.mp hz
    obtain ⟨j, _, rfl⟩ := List.mem_map.mp hy
    exact nameL_len j)
  rw [List.length_map] at h1
  have h2 := bitNames_len x i
  omega
theorem bit_room {vs : List Value} {x i : Nat} {y : Str} (h : Are StrIs vs (bitNames x i)) (hi : i < 32) (hy : y.length ≤ 18 := by decide) :
    ((bitNames x i ++ [y]).map (·.length)).sum + (bitNames x i ++ [y]).length * (Str.ofString ", ").length ≤ sizeLine := by
  have h1 := bit_sum x i
  have h2 := bitNames_len x i
  have h3 : (Str.ofString ", ").length = 2 := by decide
  rw [h3, sizeLine_eq]
  simp only [List.map_append, List.map_cons, List.map_nil, List.sum_append, List.sum_cons, List.sum_nil, List.length_append, List.length_cons, List.length_nil]
  omega
theorem bitNames_zero (j : Nat) : bitNames 0 j = [] := by unfold bitNames; simp
theorem bitNames_stop {x j : Nat} (h : x / 2 ^ j = 0) : ∀ k, bitNames x (j + k) = bitNames x j
  | 0 => rfl
  | k + 1 => by
    rw [← Nat.add_assoc, bitNames_succ, bitNames_stop h k, if_neg]
    have h1 : x < 2 ^ j := by
      rcases Nat.lt_or_ge x (2 ^ j) with h2 | h2
      · exact h2
      · have := Nat.div_pos h2 (Nat.two_pow_pos j); omega
    rw [Nat.testBit_lt_two_pow (Nat.lt_of_lt_of_le h1 (Nat.pow_le_pow_right (by decide) (Nat.le_add_right _ _)))]
    decide
theorem bit_end {x i fn : Nat} {l : List Str} {t : Tok} (hb : x.testBit i = true) (hi : i < 12) (hfn : x / 2 ^ (i + 1) * 2 ^ (i + 1) = fn) (h0 : (fn : Int) = 0) (hn : bitNames x (i + 1) = l) : StrIs (.str (Txt.join (Str.ofString ", ") l) t) (flagsF x) := by
  have hx : x ≠ 0 := by intro h; rw [h, Nat.zero_testBit] at hb; cases hb
  have hq : x / 2 ^ (i + 1) = 0 := by
    have : x / 2 ^ (i + 1) * 2 ^ (i + 1) = 0 := by omega
    rcases Nat.mul_eq_zero.mp this with h | h
    · exact h
    · exact absurd h (Nat.pos_iff_ne_zero.mp (Nat.two_pow_pos _))
  have := bitNames_stop hq (12 - (i + 1))
  rw [show i + 1 + (12 - (i + 1)) = 12 by omega] at this
  rw [flagsF, if_neg hx, this, hn]
  exact ⟨_, rfl⟩
local macro_rules | `(tactic| walk_at "exec For Name Call cons cons") => `(tactic| (refine stop_at ?_))
local macro_rules | `(tactic| walk_at "binaryOp BitAnd int int") => `(tactic| (refine and_is (by with_reducible assumption) ?_; intro _ _))
local macro_rules | `(tactic| walk_at "inplaceOp BitXor int int") => `(tactic| (refine ixor_is (by with_reducible assumption) ?_; intro _ _))
local macro_rules | `(tactic| walk_at "binaryOp LShift int int") => `(tactic| (refine lsh_is (by omega) (by omega) (by omega) (by with_reducible assumption) ?_; intro _ _))
local macro_rules | `(tactic| walk_at "call builtin:hex") => `(tactic| (refine stop_at ?_))
local macro_rules | `(tactic| walk_at "call builtin:dict.get") => `(tactic| (refine stop_at ?_))
local macro_rules | `(tactic| walk_at "call builtin:list.append") => `(tactic| (refine stop_at ?_))
local macro_rules | `(tactic| walk_at "call builtin:str.join") => `(tactic| (refine stop_at ?_))
/-- the table of the names, as it stands -/
noncomputable def flagD : List (Int × PyData) := [(1, .str ⟨#[79, 80, 84, 73, 77, 73, 90, 69, 68]⟩), (2, .str ⟨#[78, 69, 87, 76, 79, 67, 65, 76, 83]⟩), (4, .str ⟨#[86, 65, 82, 65, 82, 71, 83]⟩), (8, .str ⟨#[86, 65, 82, 75, 69, 89, 87, 79, 82, 68, 83]⟩), (16, .str ⟨#[78, 69, 83, 84, 69, 68]⟩), (32, .str ⟨#[71, 69, 78, 69, 82, 65, 84, 79, 82]⟩), (64, .str ⟨#[78, 79, 70, 82, 69, 69]⟩), (128, .str ⟨#[67, 79, 82, 79, 85, 84, 73, 78, 69]⟩), (256, .str ⟨#[73, 84, 69, 82, 65, 66, 76, 69, 95, 67, 79, 82, 79, 85, 84, 73, 78, 69]⟩), (512, .str ⟨#[65, 83, 89, 78, 67, 95, 71, 69, 78, 69, 82, 65, 84, 79, 82]⟩)]
theorem flag_name : ∀ i, i < 12 → (KTD.datumAt ((1 : Int) * 2 ^ i) flagD).getD (.str (baseText "0x" 16 ((1 : Int) * 2 ^ i))) = .str (nameL.getD i "")
  | 0, _ => by with_unfolding_all rfl
  | 1, _ => by with_unfolding_all rfl
  | 2, _ => by with_unfolding_all rfl
  | 3, _ => by with_unfolding_all rfl
  | 4, _ => by with_unfolding_all rfl
  | 5, _ => by with_unfolding_all rfl
  | 6, _ => by with_unfolding_all rfl
  | 7, _ => by with_unfolding_all rfl
  | 8, _ => by with_unfolding_all rfl
  | 9, _ => by with_unfolding_all rfl
  | 10, _ => by with_unfolding_all rfl
  | 11, _ => by with_unfolding_all rfl
  | _ + 12, h => absurd h (by omega)
theorem hex_room : ∀ i : Fin 12, (baseText "0x" 16 ((1 : Int) * 2 ^ i.val)).length ≤ sizeLine := by decide +kernel
/-- what the loop keeps -/
inductive FlJ (x i : Nat) (m : Str → Option Value) (nw : List (Addr × Obj)) : Prop
  | mk (P : Addr) (ys : List Value) (k : Nat) (tf : Tok) (hnw : nw = [(P, W.listOf ys.toArray k)]) (hys : Are StrIs ys (bitNames x i)) (e1 : m (Str.ofString "names") = some (.ref P)) (e2 : m (Str.ofString "flags") = some (.int ((x / 2 ^ i * 2 ^ i : Nat) : Int) tf)) (hx : x = 0 ∨ x / 2 ^ i * 2 ^ i ≠ 0)
theorem c_flags (w : World) (mean : ExcName → Option Value) (mg mb : Str → Option Value) (x : Nat) (t1 : Tok) :
    Ctr 0 w mean mg mb 29 [.int (x : Int) t1] (fun _ => x < 4096) (fun v _ => StrIs v (flagsF x)) := by
  unfold Ctr
  intro dp un gd fr base s Q E B
  k_fill
  w_on
  intro X T hp hdp hun hret
  refine wpAny_call ?_
  k_dflt (refine' enterP (g := s.heap) (news := []) (binds := [(Str.ofString "flags", .int (x : Int) t1)]) X T.nolimit (fun _ _ e => e) (Nat.le_refl _) (fun _ hp => nomatch hp) ?k6 ?k7 ?k8 ?k9 ?kB ?_ ?c2 ?c3 ?c4 ?c5; (case k6 => k_is); (case k7 => k_is); (case k8 => (dsimp only; omega)); (case k9 => exact BindsTo.of_eq rfl); (case kB => exact locs rfl); (case c2 => exact rfl); (case c3 => exact rfl); (case c4 => exact rfl); (case c5 => decide))
  intro L' h' F' N' _
  dsimp only
  refine boxQ fun Tz hTz => ?_
  show (let Az := _; wpAny _ Az _ _ _ _)
  intro Az
  k_steps
  refine For_at (by k_asm) ?_
  (try dsimp only)
  k_steps
  refine' iterI_range (n := 32) (fun i m nw => FlJ x i m nw) rfl (by assumption) (by decide) (by decide) (by k_asm) (by k_asm) ⟨_, [], 0, _, rfl, .nil, rfl, ?h0, ?h1⟩ ?turn ?done
  case h0 => simp; rfl
  case h1 => simp; omega
  case turn =>
    intro i q ti m₁ nw I oI h1 tk1 hi hq hJJ F N off Tq hTq
    obtain ⟨P, ys, k, tf, rfl, hys, e1, e2, hx0⟩ := hJJ
    have F1 := Fr.lits F [(Str.ofString "names", .ref P), (Str.ofString "flags", .int ((x / 2 ^ i * 2 ^ i : Nat) : Int) tf)] (by simp only [List.forall_mem_cons]; exact ⟨e1, e2, fun _ h => nomatch h⟩)
    clear F
    have hand := bits_and x i
    have hnext := bits_next x i
    have hnm := bitNames_succ x i
    have hql : q = (i : Int) := by omega
    have hoP := neN (off _ (.head _))
    clear off
    have hys' := hys.strs
    have hyl : ys.length ≤ 1000000 := by have h1 := hys.length; have h2 := bitNames_len x i; omega
    cases hb : x.testBit i with
    | false =>
      simp only [hb, Bool.false_eq_true, if_false, Nat.add_zero] at hand hnext hnm
      generalize hf : (1 : Int) * 2 ^ i = f at hand
      have e5 : (1 : Int) * 2 ^ q.toNat = f := by rw [hql]; exact hf
      generalize hfl : x / 2 ^ i * 2 ^ i = fl at *
      dsimp only
      k_steps
      refine hTq _ _ ?_
      refine' ⟨_, _, _, _, rfl, (by assumption), (by assumption), ?off, P, ys, k, tf, rfl, ?hy, ?n1, ?n2, ?hz⟩
      case off => simp only [List.forall_mem_cons]; exact ⟨hoP, fun _ h => nomatch h⟩
      case hy => rw [hnm]; exact hys
      case n1 => rfl
      case n2 => rw [← hnext]; rfl
      case hz => rw [← hnext]; exact hx0
    | true =>
      have hf0 : (1 : Int) * 2 ^ i ≠ 0 := by rw [Int.one_mul]; exact Int.ne_of_gt (Int.pow_pos (by decide))
      have hi12 : i < 12 := by
        have h1 := Nat.ge_two_pow_of_testBit hb
        exact (Nat.pow_lt_pow_iff_right (a := 2) (by decide)).mp (Nat.lt_of_le_of_lt h1 hp)
      simp only [hb, if_true] at hand hnext hnm
      generalize hfl : x / 2 ^ i * 2 ^ i = fl at *
      generalize hfn : x / 2 ^ (i + 1) * 2 ^ (i + 1) = fn at *
      have hroom := hex_room ⟨i, hi12⟩
      dsimp only at hroom
      have hname := flag_name i hi12
      have hf2 : (1 : Int) * 2 ^ i = ((2 ^ i : Nat) : Int) := by rw [Int.one_mul]; push_cast; rfl
      generalize hf : (1 : Int) * 2 ^ i = f at hand hf0 hroom hname hf2
      have e7 : Builtin.bitXor (fl : Int) f = (fn : Int) := by rw [bitXor_and, hand, hf2, hnext]; push_cast; lia
      have e5 : (1 : Int) * 2 ^ q.toNat = f := by rw [hql]; exact hf
      dsimp only
      k_steps
      show wpAny _ _ (call (Value.builtin "hex") [Value.int _ _]) _ _ _
      refine PySem.P.hex_of_int ?_ hroom
      dsimp only
      k_steps
      show wpAny _ _ (call (Value.builtin "dict.get") [Value.ref 22, Value.int f _, Value.str _ _]) _ _ _
      with_reducible rename KTD.Keyed _ _ _ => kyX
      refine call_get2_intTab (kyX.keep (by kt_keeps) _ _) (PyProof.V.Flat.str _ _) fun v hv => ?_
      rw [KTD.lookup_keyed] at hv
      have hv := PyProof.V.Flat.str_inv (Eq.mp (congrArg (PyProof.V.Flat v) hname) hv)
      obtain ⟨t5, rfl⟩ := hv
      clear hv kyX hname hroom
      dsimp only
      k_steps
      (refine' appendK ?k1 ?k2 ?k3 ?k4 ?_; (case k1 => k_asm); (case k2 => k_asm); (case k3 => k_updF); (case k4 => with_reducible assumption))
      intro _ _ _ _
      dsimp only
      k_steps
      · refine hTq _ _ ?_
        refine' ⟨_, _, _, _, rfl, (by assumption), (by assumption), ?off, P, _, _, _, rfl, ?hy, ?n1, ?n2, ?hz⟩
        case off => simp only [List.forall_mem_cons]; exact ⟨hoP, fun _ h => nomatch h⟩
        case hy => rw [hnm]; exact hys.snoc ⟨_, rfl⟩
        case n1 => rfl
        case n2 => rw [hfn]; rfl
        case hz => right; rw [hfn]; intro h; apply ‹(fn : Int) ≠ 0›; rw [h]; rfl
      · dsimp only
        refine hTq _ _ ?_
        show wpAny _ _ (execs _ _) _ _ _
        k_steps
        rename News _ _ _ _ => NN
        rename Fr _ _ _ _ => FF
        refine join_list (News.isList NN (.tail _ (.head _))) (StrsAre.snoc hys') (bit_room hys hi (nameL_len i)) ?_
        intro t6 k6
        dsimp only
        refine hTz _ _ ?_
        exact hret _ [] _ _ (Fr.keep FF) (fun _ hp => nomatch hp) (bit_end hb hi12 hfn (by assumption) hnm)
  case done =>
    intro m₁ nw h1 tk1 hJJ F N
    obtain ⟨P, ys, k, tf, rfl, hys, e1, e2, hx0⟩ := hJJ
    have hq : x / 2 ^ 32 * 2 ^ 32 = 0 := by rw [Nat.div_eq_of_lt (Nat.lt_of_lt_of_le hp (by decide)), Nat.zero_mul]
    rw [hq] at e2 hx0
    have hx : x = 0 := by
      rcases hx0 with h | h
      · exact h
      · exact absurd rfl h
    subst hx
    have hb0 : bitNames 0 32 = [] := bitNames_zero 32
    rw [hb0] at hys
    cases hys
    have F1 := Fr.lits F [(Str.ofString "names", .ref P), (Str.ofString "flags", .int ((0 : Nat) : Int) tf)] (by simp only [List.forall_mem_cons]; exact ⟨e1, e2, fun _ h => nomatch h⟩)
    clear F
    dsimp only
    k_steps
    show wpAny _ _ (call (Value.builtin "hex") [Value.int _ _]) _ _ _
    refine PySem.P.hex_of_int ?_
    dsimp only
    k_steps
    (refine' appendK ?k1 ?k2 ?k3 ?k4 ?_; (case k1 => k_asm); (case k2 => k_asm); (case k3 => k_updF); (case k4 => (simp only [List.length_nil]; decide)))
    intro _ _ _ _
    dsimp only
    k_steps
    rename News _ _ _ _ => NN
    rename Fr _ _ _ _ => FF
    refine join_list (News.isList NN (.head _)) (ys := [baseText "0x" 16 ((0 : Nat) : Int)]) (.cons _ _ .nil) (by decide) ?_
    intro t6 k6
    dsimp only
    refine hTz _ _ ?_
    exact hret _ [] _ _ (Fr.keep FF) (fun _ hp => nomatch hp) ⟨_, rfl⟩
end Mine
end

/-! LawE -/
section
open PySem PySem.W PySem.Spec PySem.Calls PyProof.Rows
set_option maxRecDepth 100000
set_option maxHeartbeats 8000000
namespace Mine
theorem bit_lt {x i : Nat} (hx : x < 4096) (h : x.testBit i = true) : i < 12 := by
  have h1 := Nat.ge_two_pow_of_testBit h
  exact (Nat.pow_lt_pow_iff_right (a := 2) (by decide)).mp (Nat.lt_of_le_of_lt h1 hx)
theorem flags_words {x : Nat} {ps : List Int} (hx : x < 4096) (h : ∀ i : Nat, i < 12 → (ps.any fun y => y == (i : Int)) = x.testBit i) (h0 : ∀ y ∈ ps, ∃ i : Nat, i < 12 ∧ y = (i : Int)) : flagsF x = wordsF ps := by
  unfold flagsF wordsF
  have e : (ps = []) ↔ x = 0 := by
    constructor
    · intro hp
      rcases Nat.eq_zero_or_pos x with h1 | h1
      · exact h1
      · obtain ⟨i, hi⟩ := Nat.exists_testBit_of_ne_zero (by omega : x ≠ 0)
        have := h i (bit_lt hx hi)
        rw [hp, hi] at this; cases this
    · intro hz
      cases ps with
      | nil => rfl
      | cons y r =>
        obtain ⟨i, hi, rfl⟩ := h0 y (.head _)
        have := h i hi
        rw [hz, Nat.zero_testBit] at this
        simp at this
  by_cases hz : x = 0
  · rw [if_pos hz, if_pos (e.mpr hz)]
  · rw [if_neg hz, if_neg (fun q => hz (e.mp q))]
    unfold bitNames
    congr 2
    refine List.filter_congr fun i hi => ?_
    rw [h i (List.mem_range.mp hi)]
theorem bitsI_any (x i : Nat) (hi : i < 12) : ((bitsI x).any fun y => y == (i : Int)) = x.testBit i := by
  rw [Bool.eq_iff_iff, List.any_eq_true]
  unfold bitsI
  constructor
  · rintro ⟨y, hy, e⟩
    obtain ⟨j, hj, rfl⟩ := List.mem_map.mp hy
    have hij : j = i := by have := eq_of_beq e; omega
    rw [← hij]; exact (List.mem_filter.mp hj).2
  · intro hb
    exact ⟨(i : Int), List.mem_map.mpr ⟨i, List.mem_filter.mpr ⟨List.mem_range.mpr hi, hb⟩, rfl⟩, by simp⟩
theorem bitsI_mem (x : Nat) : ∀ y ∈ bitsI x, ∃ i : Nat, i < 12 ∧ y = (i : Int) := by
  intro y hy
  obtain ⟨j, hj, rfl⟩ := List.mem_map.mp hy
  exact ⟨j, List.mem_range.mp (List.mem_filter.mp hj).1, rfl⟩
theorem bitsI_len (x : Nat) : (bitsI x).length ≤ 12 := by
  unfold bitsI
  rw [List.length_map]
  have := List.length_filter_le (fun i => x.testBit i) (List.range 12)
  simpa using this
theorem first_same {x : Nat} (hx : x < 4096) : flagsF x = wordsF (bitsI x) := flags_words hx (fun i hi => bitsI_any x i hi) (bitsI_mem x)
local macro_rules | `(tactic| walk_at "call ref") => `(tactic| (refine stop_at ?_))
/-- statement 5: the words of the row -/
theorem lawA5 {w : World} {mean : ExcName → Option Value} {mg mb : Str → Option Value} {fa : Addr} {cd : Value} {g h1 : Heap} {L : Addr} {tk : Tok} {s : Shared} {l R B : Addr} {ws bs : List Value} {x : Nat} {c1 c2 c3 c4 c5 c6 c7 : Obj} {t4 : Tok} {Q : Flow → Shared → Prop}
   (C : Cx w mean mg mb g) (hR : @LT.lt Nat _ (L + 1 + 1 + 1 + 1 + 1 + 1 + 1) R) (hx : x < 4096) (d4 : c4.data = .cell (some (.int (x : Int) t4))) (hbs : IntsAre bs (bitsI x))
   (hB : LCg.Off1 B ((R, W.listOf ws.toArray 0) :: cellsL L c1 c2 c3 c4 c5 c6 c7))
   (F : Fr g L h1 (fun y => if y = Str.ofString "beads" then some (.ref B) else if y = Str.ofString "row" then some (.ref R) else if y = Str.ofString "script" then some (.ref l) else none)) (N : News g L h1 ((B, W.listOf bs.toArray bs.length) :: (R, W.listOf ws.toArray 0) :: cellsL L c1 c2 c3 c4 c5 c6 c7))
   (next : ∀ h' tk', Fr g L h' (fun y => if y = Str.ofString "beads" then some (.ref B) else if y = Str.ofString "row" then some (.ref R) else if y = Str.ofString "script" then some (.ref l) else none) →
     News g L h' ((B, W.listOf bs.toArray bs.length) :: (R, W.listOf ws.toArray 0) :: cellsL L c1 c2 c3 c4 c5 c6 c7) → LawAt w L fa cd 6 Q { s with heap := h', toks := tk' }) :
   LawAt w L fa cd 5 Q { s with heap := h1, toks := tk } := by
  refine LawAt.cut 1 ?_
  unfold lawA lawEnv
  conv in (occs := *) lawScope => all_goals whnf
  conv in List.drop _ _ => whnf
  dsimp only [List.take]
  obtain ⟨B0, X, T⟩ := C
  revert X
  k_fill
  w_on
  intro X
  have T := T
  simp only [LCg.Off1, and_true] at hB
  obtain ⟨b1, b2, b3, b4, b5, b6, b7, b8⟩ := hB
  (try dsimp only)
  (try k_fold)
  k_steps
  rename News _ _ _ _ => NN
  rename Fr _ _ _ _ => FF
  refine' Ctr.use (c_flags w mean mg mb x _) B0 FF NN X T rfl rfl rfl rfl hx (law_dp _ (by decide)) (law_un _ (by decide)) ?_
  rintro v tl h2 tk2 F2 N2 off2 ⟨t5, rfl⟩
  have N3 : News g L h2 ((B, W.listOf bs.toArray bs.length) :: (R, W.listOf ws.toArray 0) :: cellsL L c1 c2 c3 c4 c5 c6 c7) := fun p hp => N2 p (List.mem_append_right _ hp)
  clear N2 off2
  dsimp only
  k_steps
  refine' CtrL.use (c_words w mean mg mb B bs (bitsI x) _ hbs) B0 F2 N3 (by kcf_all) X T rfl rfl rfl rfl (bitsI_len x) (law_dp _ (by decide)) (law_un _ (by decide)) ?_
  rintro v out h3 tk3 F3 N4 off3 ⟨t6, rfl⟩
  have N5 : News g L h3 ((B, W.listOf bs.toArray bs.length) :: (R, W.listOf ws.toArray 0) :: cellsL L c1 c2 c3 c4 c5 c6 c7) := fun p hp => N4 p (List.mem_append_right _ hp)
  clear N4 off3
  rw [first_same hx]
  dsimp only
  k_steps
  · exact next _ _ F3 N5
end Mine
end

/-! Ws -/
section
open PySem PySem.W PySem.Spec PySem.Calls PyProof.Rows
set_option maxRecDepth 100000
set_option maxHeartbeats 8000000
namespace Mine
/-- a text of blanks and tabs -/
noncomputable def code (b : Bool) : Nat := if b then 9 else 32
noncomputable def txt (l : List Bool) : Str := ⟨(l.map code).toArray⟩
theorem txt_len (l : List Bool) : (txt l).length = l.length := by simp [txt, PySem.Str.length]
theorem txtx_at (l : List Bool) (i : Nat) : (txt l ++ Str.ofString "x").cps[i]? = if h : i < l.length then some (code l[i]) else if i = l.length then some 120 else none := by
  have e : (txt l ++ Str.ofString "x").cps = (l.map code ++ [120]).toArray := by
    rw [PySem.Str.cps_append]
    have : (Str.ofString "x").cps = #[120] := by decide
    rw [this]; simp [txt]
  rw [e]
  simp only [List.getElem?_toArray]
  split
  · rename_i h
    rw [List.getElem?_append_left (by simpa using h)]; simp [h]
  · rename_i h
    rw [List.getElem?_append_right (by simpa using Nat.not_lt.mp h)]
    split
    · rename_i h2; simp [h2]
    · rename_i h2; simp only [List.length_map]
      rw [List.getElem?_eq_none]; simp; omega

structure WsSt where
  cs : List Int
  b : Int
  n : Int
  nt : Int
noncomputable def wsStep (s : WsSt) (t : Bool) : WsSt :=
  if t then
    let cs := if s.b ≥ s.cs.length then s.cs ++ (List.replicate (s.b - s.cs.length + 1).toNat [0]).flatten else s.cs
    { cs := cs.set s.b.toNat (cs.getD s.b.toNat 0 + 1), b := 0, n := s.n + 1, nt := s.nt + 1 }
  else { s with n := s.n + 1, b := s.b + 1 }
noncomputable def wsF (l : List Bool) : WsSt := l.foldl wsStep ⟨[], 0, 0, 0⟩

theorem txtx_cps (l : List Bool) : (txt l ++ Str.ofString "x").cps = (l.map code ++ [120]).toArray := by
  rw [PySem.Str.cps_append]
  have : (Str.ofString "x").cps = #[120] := by decide
  rw [this]; simp [txt]
theorem txtx_size (l : List Bool) : (txt l ++ Str.ofString "x").cps.size = l.length + 1 := by rw [txtx_cps]; simp
theorem txtx_ascii (l : List Bool) : (txt l ++ Str.ofString "x").cps.all (· < 128) = true := by
  rw [txtx_cps]
  simp [code]

noncomputable def WsB (s : WsSt) (k : Nat) : Prop := 0 ≤ s.b ∧ s.b ≤ k ∧ 0 ≤ s.n ∧ s.n ≤ k ∧ 0 ≤ s.nt ∧ s.nt ≤ k ∧ s.cs.length ≤ k
theorem wsStep_bounds {s : WsSt} {k : Nat} (t : Bool) (h : WsB s k) : WsB (wsStep s t) (k + 1) := by
  obtain ⟨h1, h2, h3, h4, h5, h6, h7⟩ := h
  cases t with
  | false =>
    simp only [wsStep, Bool.false_eq_true, if_false, WsB]
    omega
  | true =>
    simp only [wsStep, if_true, WsB, List.length_set]
    refine ⟨by omega, by omega, by omega, by omega, by omega, by omega, ?_⟩
    split
    · simp only [List.length_append, List.length_flatten, List.map_replicate, List.length_cons, List.length_nil, List.sum_replicate_nat]
      omega
    · omega
theorem wsF_bounds (l : List Bool) : 0 ≤ (wsF l).b ∧ (wsF l).b ≤ l.length ∧ 0 ≤ (wsF l).n ∧ (wsF l).n ≤ l.length ∧ 0 ≤ (wsF l).nt ∧ (wsF l).nt ≤ l.length ∧ (wsF l).cs.length ≤ l.length := by
  have key : ∀ (l : List Bool) (s : WsSt) (k : Nat), WsB s k → WsB (l.foldl wsStep s) (k + l.length) := by
    intro l
    induction l with
    | nil => intro s k h; exact h
    | cons t l ih =>
      intro s k h
      have := ih _ _ (wsStep_bounds t h)
      rw [List.length_cons, show k + (l.length + 1) = k + 1 + l.length by omega]
      exact this
  have := key l ⟨[], 0, 0, 0⟩ 0 (by simp [WsB])
  rw [Nat.zero_add] at this
  exact this

/-- the objects of one of Whitespace: norm's tuple T, the counts' tuple C, the object x, its dict dx -/
noncomputable def wsTl (w : World) (y : Str) (st : WsSt) (x dx T C : Addr) (vs : List Value) (k0 k1 k2 k3 k4 k5 k6 k7 k8 : Tok) : List (Addr × Obj) :=
  [(T, ({ cls := .type "tuple", data := .seq #[.ref C, .int st.b k8] } : Obj)), (C, ({ cls := .type "tuple", data := .seq vs.toArray } : Obj)), (x, instObj 105 dx),
      (dx, dictOf [⟨PyData.keyHash w.params (Str.ofString "raw"), .str (Str.ofString "raw") k0, .str y k1⟩, ⟨PyData.keyHash w.params (Str.ofString "n"), .str (Str.ofString "n") k2, .int st.n k3⟩,
        ⟨PyData.keyHash w.params (Str.ofString "nt"), .str (Str.ofString "nt") k4, .int st.nt k5⟩, ⟨PyData.keyHash w.params (Str.ofString "norm"), .str (Str.ofString "norm") k6, .ref T⟩,
        ⟨PyData.keyHash w.params (Str.ofString "is_simple"), .str (Str.ofString "is_simple") k7, .bool (decide ((st.cs.length : Int) ≤ 1))⟩] 5)]
inductive WsIs (w : World) (y : Str) (st : WsSt) (v : Value) (tl : List (Addr × Obj)) : Prop
  | mk (x dx T C : Addr) (vs : List Value) (k0 k1 k2 k3 k4 k5 k6 k7 k8 : Tok) (hv : v = .ref x) (hvs : IntsAre vs st.cs) (n1 : @Ne Nat dx x) (n2 : @Ne Nat dx T) (n3 : @Ne Nat dx C) (n4 : @Ne Nat x T) (n5 : @Ne Nat x C) (n6 : @Ne Nat T C)
    (htl : tl = wsTl w y st x dx T C vs k0 k1 k2 k3 k4 k5 k6 k7 k8)
/-- what a turn of the loop over the signs keeps -/
inductive WsJ (w : World) (l : List Bool) (t1 : Tok) (xa da : Addr) (st : WsSt) (i : Nat) (m : Str → Option Value) (nw : List (Addr × Obj)) : Prop
  | mk (D : Addr) (vs : List Value) (k : Nat) (tb tn tnt u : Tok) (hi : i ≤ l.length) (hvs : IntsAre vs st.cs) (h1 : @Ne Nat D xa) (h2 : @Ne Nat D da)
    (hnw : nw = [(D, W.listOf vs.toArray k), (xa, instObj 105 da), (da, dictOf [⟨PyData.keyHash w.params (Str.ofString "raw"), .str (Str.ofString "raw") u, .str (txt l ++ Str.ofString "x") t1⟩] 1)])
    (e1 : m (Str.ofString "count") = some (.ref D)) (e2 : m (Str.ofString "b") = some (.int st.b tb)) (e3 : m (Str.ofString "n") = some (.int st.n tn)) (e4 : m (Str.ofString "nt") = some (.int st.nt tnt))
    (e5 : m (Str.ofString "S") = some (.str (Str.ofString " ") 277)) (e6 : m (Str.ofString "T") = some (.str (Str.ofString "\t") 278)) (e7 : m (Str.ofString "self") = some (.ref xa))

local macro_rules | `(tactic| walk_at "exec For Name Attribute cons nil") => `(tactic| (refine stop_at ?_))
theorem c_ws (w : World) (mean : ExcName → Option Value) (mg mb : Str → Option Value) (l : List Bool) (t1 : Tok) :
    Ctr 0 w mean mg mb 105 [.str (txt l ++ Str.ofString "x") t1] (fun _ => l.length ≤ 200) (WsIs w (txt l ++ Str.ofString "x") (wsF l)) := by
  unfold Ctr
  intro dp un gd fr base s Q E B
  k_fill
  w_on
  intro X T hp hdp hun hret
  refine wpAny_call ?_
  obtain ⟨hh, g, d, t, os⟩ := s
  have Y : Makes (model PySem.Challenge.rw_re0114_01.row.prog w) hh 105 := makes_of X (by k_is)
  have hi : findIn (hd.heap_39 w.params) (.ref 105) "__init__" = some (some (.ref 60)) := by k_is
  have hf : typeIn (hd.heap_39 w.params) (.ref 60) = some (.type "function") := by k_is
  refine make_core Y (looks_findIn X hi) (fun self => bind_fn X self hf) (.inl rfl) ?_
  have up : ∀ b o, hh.get? b = some o → ((hh.push emptyDict).push (instObj 105 hh.objs.size)).get? b = some o := fun b o e => Heap.get?_push_of_some _ (Heap.get?_push_of_some _ e)
  have hz : (hh.push emptyDict).objs.size = hh.objs.size + 1 := Heap.size_push _ _
  k_dflt (refine' enterP (g := hh) (news := [(hh.objs.size + 1, instObj 105 hh.objs.size), (hh.objs.size, emptyDict)]) (binds := [(Str.ofString "self", .ref (hh.objs.size + 1)), (Str.ofString "ws", .str (txt l ++ Str.ofString "x") t1)]) (X.keeps up) (T.nolimit.keeps up) up ?kz ?kn ?k6 ?k7 ?k8 ?k9 ?kB ?_ ?c2 ?c3 ?c4 ?c5; (case k6 => k_is); (case k7 => k_is); (case k9 => exact BindsTo.of_eq rfl); (case kB => exact locs rfl); (case c2 => exact rfl); (case c3 => exact rfl); (case c4 => exact rfl); (case c5 => decide))
  case kz => dsimp only; rw [Heap.size_push, hz]; omega
  case kn =>
    simp only [List.forall_mem_cons]
    refine ⟨⟨?_, ?_⟩, ⟨?_, ?_⟩, fun _ h => nomatch h⟩
    · have := Heap.get?_push_size (hh.push emptyDict) (o := instObj 105 hh.objs.size) rfl
      rw [hz] at this; exact this
    · exact Heap.get?_none_of_le (by omega)
    · exact Heap.get?_push_of_some _ (Heap.get?_push_size _ rfl)
    · exact Heap.get?_none_of_le (Nat.le_refl _)
  case k8 => show dp + 1 < recursionLimit; omega
  intro L' h' F' N' lt'
  generalize hX : hh.objs.size + 1 = xa at *
  generalize hDx : hh.objs.size = da at *
  dsimp only
  refine boxQ fun Tz hTz => ?_
  show (let Az := _; wpAny _ Az _ _ _ _)
  intro Az
  k_steps
  refine For_at (by k_asm) ?_
  (try dsimp only)
  k_steps
  refine' iterI_str ?ha (fun i m nw => WsJ w l t1 xa da (wsF (l.take i)) i m nw) rfl (by k_asm) ?N ⟨_, [], 0, _, _, _, _, Nat.zero_le _, .nil, ?n1, ?n2, rfl, rfl, rfl, rfl, rfl, rfl, rfl, rfl⟩ ?turn ?done
  case ha => exact txtx_ascii l
  case n1 => omega
  case n2 => omega
  case N => exact News.perm (by assumption) (by kcf_all)
  case done =>
    rintro m₁ nw h1 tk1 ⟨D, vs, k, tb, tn, tnt, u, hi, _⟩
    exfalso
    have : (txt l ++ Str.ofString "x").cps.size = l.length + 1 := txtx_size l
    omega
  case turn =>
    intro i c t m₁ nw I oI h1 tk1 hc hJ F N off Tq hTq
    obtain ⟨D, vs, k, tb, tn, tnt, u, hi, hvs, hx1, hx2, rfl, e1, e2, e3, e4, e5, e6, e7⟩ := hJ
    have F1 := Fr.lits F [(Str.ofString "count", .ref D), (Str.ofString "b", .int (wsF (l.take i)).b tb), (Str.ofString "n", .int (wsF (l.take i)).n tn), (Str.ofString "nt", .int (wsF (l.take i)).nt tnt), (Str.ofString "S", .str (Str.ofString " ") 277), (Str.ofString "T", .str (Str.ofString "\t") 278), (Str.ofString "self", .ref xa)] (by simp only [List.forall_mem_cons]; exact ⟨e1, e2, e3, e4, e5, e6, e7, fun _ h => nomatch h⟩)
    clear F
    have off1 : (@Ne Nat D I) ∧ (@Ne Nat xa I) ∧ (@Ne Nat da I) := ⟨off _ (.head _), off _ (.tail _ (.head _)), off _ (.tail _ (.tail _ (.head _)))⟩
    clear off
    have hbd := wsF_bounds (l.take i)
    have hlt : (l.take i).length ≤ 200 := by rw [List.length_take]; omega
    rw [txtx_at] at hc
    split at hc
    · rename_i hlt1
      have hs : wsF (l.take (i + 1)) = wsStep (wsF (l.take i)) l[i] := by
        rw [List.take_add_one, List.getElem?_eq_getElem hlt1]; simp only [wsF, Option.toList_some, List.foldl_append, List.foldl_cons, List.foldl_nil]
      rw [hs] at hTq
      have hcc := (Option.some.inj hc).symm
      clear Y hi hf up lt' hz hX hDx
      cases hb : l[i] with
      | false =>
        rw [hb] at hcc hTq
        have hc2 : c = 32 := hcc
        subst hc2
        generalize wsF (l.take i) = st at *
        dsimp only
        k_steps
        refine hTq _ _ ?_
        refine' ⟨_, _, _, _, rfl, (by assumption), ?N, ?off, _, _, _, _, _, _, _, hlt1, ?hin, hx1, hx2, rfl, rfl, rfl, rfl, rfl, rfl, rfl, rfl⟩
        case hin => exact hvs
        case N => exact News.perm (by assumption) (by kcf_all)
        case off => simp only [List.forall_mem_cons]; exact ⟨off1.1, off1.2.1, off1.2.2, fun _ h => nomatch h⟩
      | true =>
        rw [hb] at hcc hTq
        have hc2 : c = 9 := hcc
        subst hc2
        generalize wsF (l.take i) = st at *
        dsimp only
        k_steps
        · have e : (wsStep st true).cs = ((st.cs ++ (List.replicate (st.b - ((st.cs.length : Nat) : Int) + 1).toNat [0]).flatten).set st.b.toNat ((st.cs ++ (List.replicate (st.b - ((st.cs.length : Nat) : Int) + 1).toNat [0]).flatten).getD st.b.toNat 0 + 1)) := by
            simp only [wsStep, if_true]; rw [if_pos (by assumption)]
          refine hTq _ _ ?_
          refine' ⟨_, _, _, _, rfl, (by assumption), ?N, ?off, _, _, _, _, _, _, _, hlt1, ?hin, ?n1, ?n2, rfl, rfl, rfl, rfl, rfl, rfl, rfl, rfl⟩
          case hin => rw [e]; assumption
          case n1 => omega
          case n2 => omega
          case N => exact News.perm (by assumption) (by kcf_all)
          case off => simp only [List.forall_mem_cons]; exact ⟨by k_ne, off1.2.1, off1.2.2, fun _ h => nomatch h⟩
        · have e : (wsStep st true).cs = (st.cs.set st.b.toNat (st.cs.getD st.b.toNat 0 + 1)) := by
            simp only [wsStep, if_true]; rw [if_neg (by assumption)]
          refine hTq _ _ ?_
          refine' ⟨_, _, _, _, rfl, (by assumption), ?N, ?off, _, _, _, _, _, _, _, hlt1, ?hin, hx1, hx2, rfl, rfl, rfl, rfl, rfl, rfl, rfl, rfl⟩
          case hin => rw [e]; assumption
          case N => exact News.perm (by assumption) (by kcf_all)
          case off => simp only [List.forall_mem_cons]; exact ⟨off1.1, off1.2.1, off1.2.2, fun _ h => nomatch h⟩
    · split at hc
      · rename_i h2
        subst h2
        have hc2 := (Option.some.inj hc).symm
        subst hc2
        rw [List.take_length] at *
        generalize hst : wsF l = st at *
        dsimp only
        k_steps
        refine hTq _ _ ?_
        show wpAny _ _ (execs _ _) _ _ _
        k_steps
        rename News _ _ _ _ => NN
        have hq1 := neN <| News.ne_of_cls NN (.tail _ (.head _)) (.tail _ (.tail _ (.tail _ (.tail _ (.tail _ (.head _)))))) (by show Value.type "tuple" ≠ Value.type "dict"; decide)
        have hq2 := neN <| News.ne_of_cls NN (.tail _ (.head _)) (.tail _ (.tail _ (.tail _ (.tail _ (.head _))))) (by show Value.type "tuple" ≠ Value.ref 105; decide)
        dsimp only at hq1 hq2
        k_steps
        refine hTz _ _ ?_
        refine ⟨rfl, ?_⟩
        refine' hret _ _ _ _ (Fr.keep (by assumption)) ?tl ⟨_, _, _, _, _, _, _, _, _, _, _, _, _, _, rfl, hvs, ?n1, ?n2, ?n3, ?n4, ?n5, ?n6, rfl⟩
        case tl => unfold wsTl; exact News.tell (by assumption) (by kcf_all)
        all_goals k_ne
      · cases hc
end Mine
end

/-! Page -/
section
open PySem PySem.W PySem.Spec PySem.Calls PyProof.Rows
set_option maxRecDepth 100000
set_option maxHeartbeats 8000000
namespace Mine
noncomputable def pageStep (p : List Bool × List Bool) (t : Bool) : List Bool × List Bool := if t then (p.1 ++ p.2 ++ [true], p.2) else (p.1, p.2 ++ [false])
noncomputable def pageF (l : List Bool) : List Bool × List Bool := l.foldl pageStep ([], [])
theorem txt_app (a b : List Bool) : txt a ++ txt b = txt (a ++ b) := by
  apply PySem.Str.ext'
  rw [PySem.Str.cps_append]
  simp [txt]
theorem txt_one (b : Bool) : txt [b] = ⟨#[code b]⟩ := rfl
theorem txt_at (l : List Bool) (i : Nat) : (txt l).cps[i]? = (l[i]?).map code := by simp [txt]
theorem txt_ascii (l : List Bool) : (txt l).cps.all (· < 128) = true := by
  simp only [txt, List.all_toArray, List.all_map, List.all_eq_true]
  intro a _; cases a <;> decide
theorem pageF_len (l : List Bool) : (pageF l).2.length ≤ l.length ∧ (pageF l).1.length ≤ l.length * (l.length + 1) := by
  have key : ∀ (l : List Bool) (p : List Bool × List Bool) (k n : Nat), p.2.length + l.length ≤ n → p.1.length ≤ k * (n + 1) → (l.foldl pageStep p).2.length ≤ n ∧ (l.foldl pageStep p).1.length ≤ (k + l.length) * (n + 1) := by
    intro l
    induction l with
    | nil => intro p k n h1 h2; exact ⟨by simpa using h1, by simpa using h2⟩
    | cons t l ih =>
      intro p k n h1 h2
      rw [List.length_cons] at h1
      have h3 : k * (n + 1) + (n + 1) = (k + 1) * (n + 1) := by rw [Nat.add_mul, Nat.one_mul]
      have := ih (pageStep p t) (k + 1) n (by cases t <;> simp [pageStep] <;> omega) (by cases t <;> simp [pageStep] <;> omega)
      rw [List.foldl_cons, List.length_cons, show k + (l.length + 1) = k + 1 + l.length by omega]
      exact this
  have := key l ([], []) 0 l.length (by simp) (by simp)
  rw [Nat.zero_add] at this
  exact this
local macro_rules | `(tactic| walk_at "exec For Name Name cons nil") => `(tactic| (refine stop_at ?_))
/-- what the loop keeps -/
inductive PgJ (l : List Bool) (zs : List Bool × List Bool) (i : Nat) (m : Str → Option Value) (nw : List (Addr × Obj)) : Prop
  | mk (X G : Str) (tx tg : Tok) (hi : i ≤ l.length) (hX : X = txt zs.1) (hG : G = txt zs.2) (hnw : nw = []) (e1 : m (Str.ofString "lead") = some (.str X tx)) (e2 : m (Str.ofString "gaps") = some (.str G tg))
theorem c_page (w : World) (mean : ExcName → Option Value) (mg mb : Str → Option Value) (l : List Bool) (t1 : Tok) :
    Ctr 1 w mean mg mb 121 [.str (txt l) t1] (fun _ => l.length ≤ 12) (WsIs w (txt (pageF l).1 ++ Str.ofString "x") (wsF (pageF l).1)) := by
  unfold Ctr
  intro dp un gd fr base s Q E B
  k_fill
  w_on
  intro X T hp hdp hun hret
  refine wpAny_call ?_
  k_dflt (refine' enterP (g := s.heap) (news := []) (binds := [(Str.ofString "line", .str (txt l) t1)]) X T.nolimit (fun _ _ e => e) (Nat.le_refl _) (fun _ hp => nomatch hp) ?k6 ?k7 ?k8 ?k9 ?kB ?_ ?c2 ?c3 ?c4 ?c5; (case k6 => k_is); (case k7 => k_is); (case k8 => (dsimp only; omega)); (case k9 => exact BindsTo.of_eq rfl); (case kB => exact locs rfl); (case c2 => exact rfl); (case c3 => exact rfl); (case c4 => exact rfl); (case c5 => decide))
  intro L' h' F' N' _
  dsimp only
  refine boxQ fun Tz hTz => ?_
  show (let Az := _; wpAny _ Az _ _ _ _)
  intro Az
  k_steps
  refine For_at (by k_asm) ?_
  (try dsimp only)
  k_steps
  refine' iterI_str (txt_ascii l) (fun i m nw => PgJ l (pageF (l.take i)) i m nw) rfl (by k_asm) News.nil ⟨_, _, _, _, Nat.zero_le _, rfl, rfl, rfl, rfl, rfl⟩ ?turn ?done
  case turn =>
    intro i c t m₁ nw I oI h1 tk1 hc hJJ F N off Tq hTq
    obtain ⟨X1, G1, tx, tg, hi, hX, hG, rfl, e1, e2⟩ := hJJ
    have F1 := Fr.lits F [(Str.ofString "lead", .str X1 tx), (Str.ofString "gaps", .str G1 tg)] (by simp only [List.forall_mem_cons]; exact ⟨e1, e2, fun _ h => nomatch h⟩)
    clear F
    rw [txt_at] at hc
    obtain ⟨b, hb, hc'⟩ := Option.map_eq_some_iff.mp hc
    have hlt1 : i < l.length := by
      rcases Nat.lt_or_ge i l.length with h | h
      · exact h
      · rw [List.getElem?_eq_none h] at hb; cases hb
    have hs : pageF (l.take (i + 1)) = pageStep (pageF (l.take i)) b := by
      rw [List.take_add_one, hb]; simp only [pageF, Option.toList_some, List.foldl_append, List.foldl_cons, List.foldl_nil]
    rw [hs] at hTq
    have hl2 := pageF_len (l.take i)
    have hlt : (l.take i).length ≤ 12 := by rw [List.length_take]; omega
    have hXl : X1.length ≤ 156 := by rw [hX, txt_len]; exact Nat.le_trans hl2.2 (Nat.le_trans (Nat.mul_le_mul hlt (Nat.add_le_add_right hlt 1)) (by decide))
    have hGl : G1.length ≤ 12 := by rw [hG, txt_len]; omega
    cases b with
    | false =>
      have hc2 : c = 32 := hc'.symm
      subst hc2
      dsimp only
      k_steps
      refine hTq _ _ ?_
      refine' ⟨_, _, _, _, rfl, (by assumption), (by assumption), ?off, _, _, _, _, hlt1, ?h1, ?h2, rfl, rfl, rfl⟩
      case off => intro _ h; cases h
      case h1 => exact hX
      case h2 => rw [hG]; simp only [pageStep, Bool.false_eq_true, if_false, ← txt_app]; rfl
    | true =>
      have hc2 : c = 9 := hc'.symm
      subst hc2
      dsimp only
      k_steps
      refine hTq _ _ ?_
      refine' ⟨_, _, _, _, rfl, (by assumption), (by assumption), ?off, _, _, _, _, hlt1, ?h1, ?h2, rfl, rfl, rfl⟩
      case off => intro _ h; cases h
      case h1 => rw [hX, hG]; simp only [pageStep, if_true, ← txt_app]; rfl
      case h2 => exact hG
  case done =>
    intro m₁ nw h1 tk1 hJJ F N
    obtain ⟨X1, G1, tx, tg, hi, hX, hG, rfl, e1, e2⟩ := hJJ
    have hsz : (txt l).cps.size = l.length := txt_len l
    rw [hsz, List.take_length] at hX hG
    have F1 := Fr.lits F [(Str.ofString "lead", .str X1 tx), (Str.ofString "gaps", .str G1 tg)] (by simp only [List.forall_mem_cons]; exact ⟨e1, e2, fun _ h => nomatch h⟩)
    clear F
    have hl2 := pageF_len l
    have hXl : X1.length ≤ 156 := by rw [hX, txt_len]; exact Nat.le_trans hl2.2 (Nat.le_trans (Nat.mul_le_mul hp (Nat.add_le_add_right hp 1)) (by decide))
    subst hX
    have hXm := hXl
    rw [txt_len] at hXm
    dsimp only
    k_steps
    k_dflt (refine' Ctr.use (c_ws _ _ _ _ _ _) ?kB ?kF ?kN ?kX ?kT ?kh ?kA ?kf ?kk ?kp ?kd ?ku ?_)
    case kh => exact rfl
    case kA => exact rfl
    case kf => exact rfl
    case kk => exact rfl
    case kB => k_asm
    case kF => k_asm
    case kN => k_asm
    case kX => k_asm
    case kT => k_asm
    case kp => omega
    case kd => show dp + 1 + (4 * 0 + 4) < recursionLimit; omega
    case ku => show un + 3 + (100 * 0 + 100) < cLine; omega
    intro v tl h2 tk2 F2 N2 off2 hR
    dsimp only
    k_steps
    refine hTz _ _ ?_
    refine hret _ tl _ _ F2.keep (News.tell N2 fun p hp => List.mem_append_left _ hp) hR
end Mine
end

/-! Plain -/
section
open PySem PySem.W PySem.Spec PySem.Calls PyProof.Rows
set_option maxRecDepth 100000
namespace Mine
/-- one sign -/
noncomputable def sgn (b : Bool) : Str := ⟨#[code b]⟩
theorem join_sgn (l : List Bool) : Txt.join (Str.ofString "") (l.map sgn) = txt l := by
  have e0 : Str.ofString "" = ⟨#[]⟩ := by decide
  rw [e0, eq_of_beq (join_plain_closes ⟨#[]⟩ (l.map sgn))]
  induction l with
  | nil => rfl
  | cons b r ih =>
    rw [List.map_cons, join_nil_cons, ih]
    exact txt_app [b] r
theorem item_txt (l : List Bool) {k : Int} {i : Nat} (hk : k = (i : Int)) (h : i < l.length) : Txt.item (txt l) k = sgn (l.getD i false) := by
  subst hk
  unfold Txt.item Txt.charAt seqIndex? sgn
  have h1 : (txt l).length = l.length := txt_len l
  rw [h1]
  simp only [show ¬ ((i : Int) < 0) by omega, if_false]
  rw [if_pos (by simp only [Bool.and_eq_true, decide_eq_true_eq]; omega)]
  simp [txt_at, h, List.getD_eq_getElem?_getD]
theorem char_txt (l : List Bool) {k : Int} {i : Nat} (hk : k = (i : Int)) (h : i < l.length) : (Txt.charAt (txt l) k).isSome = true := by
  subst hk
  unfold Txt.charAt seqIndex?
  have h1 : (txt l).length = l.length := txt_len l
  rw [h1]
  simp only [show ¬ ((i : Int) < 0) by omega, if_false]
  rw [if_pos (by simp only [Bool.and_eq_true, decide_eq_true_eq]; omega)]
  simp [txt_at, h]
/-- the row of a number -/
noncomputable def rowL (x : Nat) : List Bool := (List.range 12).map fun i => x.testBit i
theorem rowL_len (x : Nat) : (rowL x).length = 12 := by simp [rowL]
end Mine
end

/-! LawF -/
section
open PySem PySem.W PySem.Spec PySem.Calls PyProof.Rows
set_option maxRecDepth 100000
set_option maxHeartbeats 8000000
namespace Mine
local macro_rules | `(tactic| walk_at "binaryOp BitAnd int int") => `(tactic| (refine and_is (by with_reducible assumption) ?_; intro _ _))
local macro_rules | `(tactic| walk_at "binaryOp RShift int int") => `(tactic| (refine rsh_is (by with_reducible assumption) (by with_reducible assumption) ?_; intro _ _))
local macro_rules | `(tactic| walk_at "call builtin:str.join") => `(tactic| (refine stop_at ?_))
local macro_rules | `(tactic| walk_at "eval ListComp") => `(tactic| (refine stop_at ?_))
/-- statements 6 to 9: start, line, moves, passed -/
theorem lawA6 {w : World} {mean : ExcName → Option Value} {mg mb : Str → Option Value} {fa : Addr} {cd : Value} {g h1 : Heap} {L : Addr} {tk : Tok} {s : Shared} {l R B : Addr} {ws bs : List Value} {x : Nat} {c1 c2 c3 c4 c5 c6 c7 : Obj} {t4 : Tok} {Q : Flow → Shared → Prop}
   (C : Cx w mean mg mb g) (hR : @LT.lt Nat _ (L + 1 + 1 + 1 + 1 + 1 + 1 + 1) R) (d4 : c4.data = .cell (some (.int (x : Int) t4))) (d5 : c5.data = .cell none)
   (hB : LCg.Off1 B ((R, W.listOf ws.toArray 0) :: cellsL L c1 c2 c3 c4 c5 c6 c7))
   (F : Fr g L h1 (fun y => if y = Str.ofString "beads" then some (.ref B) else if y = Str.ofString "row" then some (.ref R) else if y = Str.ofString "script" then some (.ref l) else none)) (N : News g L h1 ((B, W.listOf bs.toArray bs.length) :: (R, W.listOf ws.toArray 0) :: cellsL L c1 c2 c3 c4 c5 c6 c7))
   (next : ∀ h' tk' c5 m t1 t2 t3 t5, Fr g L h' m → m (Str.ofString "beads") = some (.ref B) → m (Str.ofString "script") = some (.ref l) → m (Str.ofString "start") = some (.str (txt (rowL x)) t1) → m (Str.ofString "moves") = some (.int 0 t2) → m (Str.ofString "passed") = some (.int 0 t3) →
     c5.data = .cell (some (.str (txt (rowL x)) t5)) → News g L h' ((B, W.listOf bs.toArray bs.length) :: cellsL L c1 c2 c3 c4 c5 c6 c7) → LawAt w L fa cd 10 Q { s with heap := h', toks := tk' }) :
   LawAt w L fa cd 6 Q { s with heap := h1, toks := tk } := by
  refine LawAt.cut 4 ?_
  unfold lawA lawEnv
  conv in (occs := *) lawScope => all_goals whnf
  conv in List.drop _ _ => whnf
  dsimp only [List.take]
  obtain ⟨B0, X, T⟩ := C
  revert X
  k_fill
  w_on
  intro X
  have T := T
  simp only [LCg.Off1, and_true] at hB
  obtain ⟨b1, b2, b3, b4, b5, b6, b7, b8⟩ := hB
  have N : News g L h1 ((B, W.listOf bs.toArray bs.length) :: cellsL L c1 c2 c3 c4 c5 c6 c7) := News.perm N (by kcf_all)
  (try dsimp only)
  (try k_fold)
  k_steps
  refine ListComp_N (F₀ := by k_asm) (by with_unfolding_all rfl) (by decide) (by rfl) (by decide) (by rfl) ?_
  (try dsimp only)
  k_steps
  refine LCg.CompSrc.range (n := 12) (by rfl) (by k_asm) (by k_asm) (by assumption) (by decide) (by decide) (by decide) ?_
  intro g2
  refine restUE StrIs (fun i => sgn (x.testBit i)) trivial ?_ ?_
  · rintro i v I oI C oC D m₂ ys h2 tk2 E' hi ⟨t2, rfl⟩ hC hx2 F2 N2
    obtain ⟨q, hq⟩ : ∃ q : Int, 0 + (i : Int) = q := ⟨_, rfl⟩
    rw [hq] at hx2
    have hq0 : 0 ≤ q := by omega
    have hqi : q = (i : Int) := by omega
    have hb := bit_at x i
    obtain ⟨y, hy⟩ : ∃ y, (x : Int).fdiv (2 ^ q.toNat) = y := ⟨_, rfl⟩
    have hy2 := hy
    rw [show q.toNat = i by omega] at hy2
    rw [hy2] at hb
    cases hbit : x.testBit i with
    | false =>
      simp only [hbit, Bool.false_eq_true, if_false] at hb
      dsimp only
      k_steps
      exact ⟨⟨_, rfl⟩, _, rfl⟩
    | true =>
      simp only [hbit, if_true] at hb
      dsimp only
      k_steps
      exact ⟨⟨_, rfl⟩, _, rfl⟩
  · intro ys hys
    have hys' := hys.strs
    intro D h2 tk2 F2 N2 off2
    simp only [LCg.Off1, and_true] at off2
    obtain ⟨e1, e2, e3, e4, e5, e6, e7, e8⟩ := off2
    dsimp only
    k_steps
    refine join_list (News.isList N2 (.head _)) (by simpa using hys') ?_ ?_
    · have h0 : ((List.range 12).map fun i => sgn (x.testBit i)).map (·.length) = List.replicate 12 1 := by simp [List.range, List.range.loop, sgn, Str.length]
      rw [h0]; simp; decide
    · intro t6 k6
      have hj : Txt.join (Str.ofString "") ((List.range 12).map fun i => sgn (x.testBit i)) = txt (rowL x) := by
        rw [← join_sgn, rowL, List.map_map]; rfl
      rw [hj]
      generalize hT : txt (rowL x) = TX at *
      have hlt : TX.length = 12 := by rw [← hT, txt_len, rowL_len]
      dsimp only
      k_steps
      rename News _ _ _ _ => NN
      rename Fr _ _ _ _ => FF
      refine' next _ _ _ _ _ _ _ _ FF rfl rfl rfl rfl rfl ?e (News.perm NN (by kcf_all))
      case e => assumption
end Mine
end

/-! Run -/
section
open PySem PySem.W PySem.Spec PySem.Calls PyProof.Rows
set_option maxRecDepth 100000
namespace Mine
/-- the places whose bead can go -/
noncomputable def freeN (d : Nat) (l : List Bool) : List Nat := ((List.range (12 - d)).filter fun i => l.getD (d + i) false && !(l.getD i false)).map fun i => d + i
noncomputable def freeI (d : Nat) (l : List Bool) : List Int := (freeN d l).map fun (i : Nat) => (i : Int)
/-- a bead goes back from q -/
noncomputable def btw (d q : Nat) (l : List Bool) : List Bool := (l.drop (q - d + 1)).take (d - 1)
noncomputable def moveL (d q : Nat) (l : List Bool) : List Bool := l.take (q - d) ++ [true] ++ btw d q l ++ [false] ++ l.drop (q + 1)
inductive Run (d : Nat) (l0 : List Bool) : List Bool → Nat → Nat → Prop
  | start : Run d l0 l0 0 0
  | move {l : List Bool} {k p q : Nat} : Run d l0 l k p → q ∈ freeN d l → Run d l0 (moveL d q l) (k + 1) (p + (btw d q l).count true)
/-- the places of one remainder -/
noncomputable def strandL (d r : Nat) (l : List Bool) : List Bool := (List.range ((12 - r + d - 1) / d)).map fun i => l.getD (r + i * d) false
theorem freeN_mem {d q : Nat} {l : List Bool} (h : q ∈ freeN d l) : d ≤ q ∧ q < 12 ∧ l.getD q false = true ∧ l.getD (q - d) false = false := by
  unfold freeN at h
  obtain ⟨i, hi, rfl⟩ := List.mem_map.mp h
  obtain ⟨h1, h2⟩ := List.mem_filter.mp hi
  have h3 := List.mem_range.mp h1
  simp only [Bool.and_eq_true, Bool.not_eq_true'] at h2
  refine ⟨by omega, by omega, h2.1, ?_⟩
  rw [show d + i - d = i by omega]; exact h2.2
theorem freeN_len (d : Nat) (l : List Bool) : (freeN d l).length ≤ 12 := by
  unfold freeN
  rw [List.length_map]
  have := List.length_filter_le (fun i => l.getD (d + i) false && !(l.getD i false)) (List.range (12 - d))
  rw [List.length_range] at this; omega
/-- a row, cut at a bead that can go -/
theorem row_cut {d q : Nat} {l : List Bool} (hd : 1 ≤ d) (hl : l.length = 12) (h : q ∈ freeN d l) : l = l.take (q - d) ++ [false] ++ btw d q l ++ [true] ++ l.drop (q + 1) ∧ (btw d q l).length = d - 1 := by
  obtain ⟨h1, h2, h3, h4⟩ := freeN_mem h
  have hb : (btw d q l).length = d - 1 := by unfold btw; rw [List.length_take, List.length_drop]; omega
  refine ⟨?_, hb⟩
  have e1 : l.drop q = true :: l.drop (q + 1) := by
    rw [List.drop_eq_getElem_cons (by omega)]
    congr 1
    rw [List.getD_eq_getElem?_getD, List.getElem?_eq_getElem (by omega)] at h3
    exact h3
  have e2 : l.drop (q - d) = false :: l.drop (q - d + 1) := by
    rw [List.drop_eq_getElem_cons (by omega)]
    congr 1
    rw [List.getD_eq_getElem?_getD, List.getElem?_eq_getElem (by omega)] at h4
    exact h4
  have e3 : l.drop (q - d + 1) = btw d q l ++ l.drop q := by
    unfold btw
    have : l.drop q = (l.drop (q - d + 1)).drop (d - 1) := by rw [List.drop_drop]; congr 1; omega
    rw [this, List.take_append_drop]
  calc l = l.take (q - d) ++ l.drop (q - d) := (List.take_append_drop _ _).symm
    _ = _ := by rw [e2, e3, e1]; simp
theorem moveL_len {d q : Nat} {l : List Bool} (hd : 1 ≤ d) (hl : l.length = 12) (h : q ∈ freeN d l) : (moveL d q l).length = 12 := by
  have e := congrArg List.length (row_cut hd hl h).1
  rw [hl] at e
  rw [e]
  simp only [moveL, List.length_append, List.length_cons, List.length_nil]
/-- pairs of a gap and a bead behind it -/
noncomputable def invL : List Bool → Nat
  | [] => 0
  | b :: r => (if b then 0 else r.count true) + invL r
theorem invL_app (a b : List Bool) : invL (a ++ b) = invL a + a.count false * b.count true + invL b := by
  induction a with
  | nil => simp [invL]
  | cons x r ih =>
    cases x
    · simp only [List.cons_append, invL, ih, List.count_append, List.count_cons, Bool.false_eq_true, if_false, beq_self_eq_true, if_true, Nat.add_mul, Nat.one_mul]; omega
    · simp only [List.cons_append, invL, ih, List.count_cons, if_true, show (true == false) = false from rfl, Bool.false_eq_true, if_false, Nat.add_zero]; omega
theorem count_tf (m : List Bool) : m.count true + m.count false = m.length := by
  induction m with
  | nil => rfl
  | cons x r ih => cases x <;> simp [List.count_cons] <;> omega
theorem invL_swap (u m v : List Bool) : invL (u ++ [false] ++ m ++ [true] ++ v) = invL (u ++ [true] ++ m ++ [false] ++ v) + (m.length + 1) := by
  have h := count_tf m
  simp only [invL_app, List.count_append, invL, List.count_cons, List.count_nil]
  simp only [show (false == true) = false from rfl, show (true == false) = false from rfl, show (true == true) = true from rfl, show (false == false) = true from rfl, Bool.false_eq_true, if_false, if_true, Nat.zero_add, Nat.add_zero, Nat.mul_one, Nat.mul_add, Nat.add_mul, Nat.one_mul, Nat.zero_mul, Nat.mul_zero]
  omega
theorem invL_move {d q : Nat} {l : List Bool} (hd : 1 ≤ d) (hl : l.length = 12) (h : q ∈ freeN d l) : invL l = invL (moveL d q l) + d := by
  obtain ⟨h1, h2⟩ := row_cut hd hl h
  have := invL_swap (l.take (q - d)) (btw d q l) (l.drop (q + 1))
  rw [← h1] at this
  rw [this, h2]
  unfold moveL
  omega
end Mine
end

/-! LawW -/
section
open PySem PySem.W PySem.Spec PySem.Calls PyProof.Rows
set_option maxRecDepth 100000
set_option maxHeartbeats 8000000
namespace Mine
/-- the while's body -/
noncomputable def whileBody : List Stmt := match lawBody.drop 10 with | .While _ b _ _ :: _ => b | _ => []
noncomputable def BodyAt (ss : List Stmt) (w : World) (L fa : Addr) (cd : Value) (k : Nat) (Q : Flow → Shared → Prop) (s : Shared) : Prop :=
  wpAny (model PySem.Challenge.rw_re0114_01.row.prog w) (lawA L fa cd) (execs (ss.drop k) (lawEnv L fa cd)) Q (fun _ _ => False) s
theorem BodyAt.cut {ss : List Stmt} {w : World} {L fa : Addr} {cd : Value} {k : Nat} {Q : Flow → Shared → Prop} {s : Shared} (n : Nat)
    (h : wpAny (model PySem.Challenge.rw_re0114_01.row.prog w) (lawA L fa cd) (execs ((ss.drop k).take n) (lawEnv L fa cd)) (After (BodyAt ss w L fa cd (k + n) Q) Q) (fun _ _ => False) s) : BodyAt ss w L fa cd k Q s := by
  unfold BodyAt
  have e : ss.drop k = (ss.drop k).take n ++ ss.drop (k + n) := by rw [← List.drop_drop, List.take_append_drop]
  rw [e]
  exact cut_execs h
/-- what holds at the while's head -/
inductive WJ (L d x : Nat) (B l : Addr) (bs : List Value) (c1 c2 c4 c7 : Obj) (r : List Bool) (m : Str → Option Value) (nw : List (Addr × Obj)) : Prop
  | mk (k p : Nat) (c3 c5 c6 : Obj) (v3 v6 : Option Value) (t1 t2 t3 t5 : Tok) (hrun : Run d (rowL x) r k p) (hr : r.length = 12) (e1 : m (Str.ofString "beads") = some (.ref B)) (e2 : m (Str.ofString "script") = some (.ref l)) (e3 : m (Str.ofString "start") = some (.str (txt (rowL x)) t1)) (e4 : m (Str.ofString "moves") = some (.int (k : Int) t2)) (e5 : m (Str.ofString "passed") = some (.int (p : Int) t3))
     (d3 : c3.data = .cell v3) (d5 : c5.data = .cell (some (.str (txt r) t5))) (d6 : c6.data = .cell v6) (hnw : nw = (B, W.listOf bs.toArray bs.length) :: cellsL L c1 c2 c3 c4 c5 c6 c7)
local macro_rules | `(tactic| walk_at "exec While Constant cons nil") => `(tactic| (k_here; k_dflt (refine stopW ?_)))
/-- statement 10: the while -/
theorem lawA10 {w : World} {mean : ExcName → Option Value} {mg mb : Str → Option Value} {fa : Addr} {cd : Value} {g h1 : Heap} {L : Addr} {tk : Tok} {s : Shared} {l B : Addr} {bs : List Value} {x d : Nat} {c1 c2 c3 c4 c5 c6 c7 : Obj} {m : Str → Option Value} {t1 t2 t3 t5 : Tok} {v3 v6 : Option Value} {Q : Flow → Shared → Prop}
   (C : Cx w mean mg mb g) (d3 : c3.data = .cell v3) (d5 : c5.data = .cell (some (.str (txt (rowL x)) t5))) (d6 : c6.data = .cell v6)
   (F : Fr g L h1 m) (e1 : m (Str.ofString "beads") = some (.ref B)) (e2 : m (Str.ofString "script") = some (.ref l)) (e3 : m (Str.ofString "start") = some (.str (txt (rowL x)) t1)) (e4 : m (Str.ofString "moves") = some (.int 0 t2)) (e5 : m (Str.ofString "passed") = some (.int 0 t3))
   (N : News g L h1 ((B, W.listOf bs.toArray bs.length) :: cellsL L c1 c2 c3 c4 c5 c6 c7))
   (turn : ∀ r m₁ nw h tk Q', WJ L d x B l bs c1 c2 c4 c7 r m₁ nw → Fr g L h m₁ → News g L h nw →
     (∀ h' tk' m' nw' r', invL r' < invL r → Fr g L h' m' → News g L h' nw' → WJ L d x B l bs c1 c2 c4 c7 r' m' nw' → Q' .next { s with heap := h', toks := tk' }) →
     (∀ h' tk' m' nw', freeN d r = [] → Fr g L h' m' → News g L h' nw' → WJ L d x B l bs c1 c2 c4 c7 r m' nw' → Q' .brk { s with heap := h', toks := tk' }) →
     BodyAt whileBody w L fa cd 0 Q' { s with heap := h, toks := tk })
   (next : ∀ r m₁ nw h tk, freeN d r = [] → WJ L d x B l bs c1 c2 c4 c7 r m₁ nw → Fr g L h m₁ → News g L h nw → LawAt w L fa cd 11 Q { s with heap := h, toks := tk }) :
   LawAt w L fa cd 10 Q { s with heap := h1, toks := tk } := by
  refine LawAt.cut 1 ?_
  unfold lawA lawEnv
  conv in (occs := *) lawScope => all_goals whnf
  conv in List.drop _ _ => whnf
  dsimp only [List.take]
  obtain ⟨B0, X, T⟩ := C
  revert X
  k_fill
  w_on
  intro X
  have T := T
  (try dsimp only)
  (try k_fold)
  k_steps
  refine' While_at (invL (rowL x)) (fun n m nw => ∃ r, n = invL r ∧ WJ L d x B l bs c1 c2 c4 c7 r m nw) F N ⟨_, rfl, 0, 0, c3, c5, c6, v3, v6, _, _, _, _, .start, rowL_len x, e1, e2, e3, e4, e5, d3, d5, d6, rfl⟩ ?_
  intro n m₁ nw h tk1 hJJ F1 N1
  obtain ⟨r, rfl, hJ⟩ := hJJ
  iterate 3 (first | (k_unfold; (try dsimp only)) | walk1 | (dsimp only; walk1))
  rw [if_pos rfl]
  refine' turn r m₁ nw h _ _ hJ F1 N1 ?_ ?_
  · intro h' tk' m' nw' r' hlt F2 N2 hJ2
    exact ⟨_, _, _, _, _, hlt, rfl, F2, N2, _, rfl, hJ2⟩
  · intro h' tk' m' nw' hfr F2 N2 hJ2
    show wpAny _ _ (execs _ _) _ _ _
    k_steps
    exact next r m' nw' h' tk' hfr hJ2 F2 N2
end Mine
end

/-! LawW0 -/
section
open PySem PySem.W PySem.Spec PySem.Calls PyProof.Rows
set_option maxRecDepth 100000
set_option maxHeartbeats 8000000
namespace Mine
theorem item_is {prog : Program} {w : World} {A : Around} {E : Value → Shared → Prop} {s : Shared} {value slice : Expr} {x c : Str} {t u : Tok} {i : Int} {Q : Value → Shared → Prop} (e : Txt.item x i = c) (h0 : 0 ≤ i) (h1 : i < x.length) (hin : i < 1000)
    (h : ∀ t k, Q (.str c t) { s with toks := k }) (hs : subscripted slice false (.str x t) (.int i u) = operate [.str x t, .int i u] (getItem (.str x t) (.int i u)) := by with_unfolding_all rfl)
    (ht : ∀ r, letTemporaryGo value (.str x t) r = pure () := by intro _; with_unfolding_all rfl) :
    wpAny (model prog w) A (subscriptTail value slice (.str x t) (.int i u)) Q E s :=
  item_str (fitsSsize_of (N := 1000) (by omega) hin (by decide)) (by omega) h1 (fun _ => by rw [e]; exact h _ _) hs ht
/-- a row's sign at a place -/
theorem sign_at {r : List Bool} {q : Int} {i : Nat} (hr : r.length = 12) (hq : q = (i : Int)) (hi : i < 12) (b : Bool) (hb : r.getD i false = b) : Txt.item (txt r) q = (if b then Str.ofString "\t" else Str.ofString " ") ∧ 0 ≤ q ∧ q < (txt r).length ∧ q < 1000 := by
  have h1 := txt_len r
  refine ⟨?_, by omega, by omega, by omega⟩
  rw [item_txt r hq (by omega), hb]
  cases b <;> decide
local macro_rules | `(tactic| walk_at "subscriptTail Name Name str int") => `(tactic| (refine stop_at ?_))
local macro_rules | `(tactic| walk_at "subscriptTail Name BinOp str int") => `(tactic| (refine stop_at ?_))
local macro_rules | `(tactic| walk_at "exec Assign cons ListComp") => `(tactic| (refine stop_at ?_))
theorem rsize_ab (a b : Nat) (h : a ≤ b) : Builtin.Range.rangeSize (a : Int) (b : Int) 1 = ((b - a : Nat) : Int) := by
  unfold Builtin.Range.rangeSize; rw [if_pos (by decide)]; split <;> omega
/-- body 0: free -/
theorem lawW0 {w : World} {mean : ExcName → Option Value} {mg mb : Str → Option Value} {fa : Addr} {cd : Value} {g h1 : Heap} {L : Addr} {tk : Tok} {s : Shared} {d : Nat} {r : List Bool} {c1 c2 c3 c4 c5 c6 c7 : Obj} {m : Str → Option Value} {t1 t5 : Tok} {O : Addr × Obj} {Q : Flow → Shared → Prop}
   (C : Cx w mean mg mb g) (hd2 : 2 ≤ d) (hd4 : d ≤ 4) (hr : r.length = 12) (d1 : c1.data = .cell (some (.int (d : Int) t1))) (d5 : c5.data = .cell (some (.str (txt r) t5)))
   (F : Fr g L h1 m) (N : News g L h1 (O :: cellsL L c1 c2 c3 c4 c5 c6 c7))
   (next : ∀ A fs h' tk', IntsAre fs (freeI d r) → LCg.Off1 A (O :: cellsL L c1 c2 c3 c4 c5 c6 c7) → Fr g L h' (fun y => if y = Str.ofString "free" then some (.ref A) else m y) →
     News g L h' ((A, W.listOf fs.toArray fs.length) :: O :: cellsL L c1 c2 c3 c4 c5 c6 c7) → BodyAt whileBody w L fa cd 1 Q { s with heap := h', toks := tk' }) :
   BodyAt whileBody w L fa cd 0 Q { s with heap := h1, toks := tk } := by
  refine BodyAt.cut 1 ?_
  unfold lawA lawEnv
  conv in (occs := *) lawScope => all_goals whnf
  conv in List.drop _ _ => whnf
  dsimp only [List.take]
  obtain ⟨B0, X, T⟩ := C
  revert X
  k_fill
  w_on
  intro X
  have T := T
  (try dsimp only)
  (try k_fold)
  k_steps
  refine Assign_M (F₀ := by k_asm) (by rfl) (by with_unfolding_all rfl) (by with_unfolding_all rfl) (by decide) (by rfl) (by decide) (by rfl) (by rfl) (by rfl) ?_
  (try dsimp only)
  k_steps
  refine LCt.CompSrcT.range (n := 12 - d) (by rfl) (by k_asm) (by k_asm) (by assumption) (small_one (by omega) (by omega) (by decide) (by decide)) (rsize_ab d 12 (by omega)) (line_up (by omega)) ?_
  intro g2
  refine restTE IntIs (fun i => r.getD (d + i) false && !(r.getD i false)) (fun i => ((d + i : Nat) : Int)) trivial ?_ ?_
  · rintro i v I oI C oC D m₂ ys h2 tk2 E' hi ⟨t2, rfl⟩ hC hx2 F2 N2
    obtain ⟨q, hq⟩ : ∃ q : Int, (d : Int) + (i : Int) = q := ⟨_, rfl⟩
    rw [hq] at hx2
    have hqi : q = ((d + i : Nat) : Int) := by omega
    have hqd : q - (d : Int) = (i : Int) := by omega
    cases ha : r.getD (d + i) false with
    | false =>
      obtain ⟨a1, a2, a3, a4⟩ := sign_at hr hqi (by omega) false ha
      simp only [Bool.false_eq_true, if_false] at a1
      dsimp only
      k_steps
      refine item_is (by with_reducible assumption) (by with_reducible assumption) (by with_reducible assumption) (by with_reducible assumption) ?_
      intro _ _
      (try dsimp only)
      k_steps
      exact ⟨⟨_, rfl⟩, rfl⟩
    | true =>
      obtain ⟨a1, a2, a3, a4⟩ := sign_at hr hqi (by omega) true ha
      simp only [if_true] at a1
      cases hb : r.getD i false with
      | false =>
        obtain ⟨e1, e2, e3, e4⟩ := sign_at hr hqd (by omega) false hb
        simp only [Bool.false_eq_true, if_false] at e1
        dsimp only
        k_steps
        refine item_is (by with_reducible assumption) (by with_reducible assumption) (by with_reducible assumption) (by with_reducible assumption) ?_
        intro _ _
        (try dsimp only)
        k_steps
        refine item_is (by with_reducible assumption) (by with_reducible assumption) (by with_reducible assumption) (by with_reducible assumption) ?_
        intro _ _
        (try dsimp only)
        k_steps
        exact ⟨⟨_, rfl⟩, rfl, _, by rw [hqi]⟩
      | true =>
        obtain ⟨e1, e2, e3, e4⟩ := sign_at hr hqd (by omega) true hb
        simp only [if_true] at e1
        dsimp only
        k_steps
        refine item_is (by with_reducible assumption) (by with_reducible assumption) (by with_reducible assumption) (by with_reducible assumption) ?_
        intro _ _
        (try dsimp only)
        k_steps
        refine item_is (by with_reducible assumption) (by with_reducible assumption) (by with_reducible assumption) (by with_reducible assumption) ?_
        intro _ _
        (try dsimp only)
        k_steps
        exact ⟨⟨_, rfl⟩, rfl⟩
  · intro ys hys
    have hys' := hys.ints
    intro D h2 tk2 F2 N2 off2
    have e : freeI d r = ((List.range (12 - d)).filter fun i => r.getD (d + i) false && !(r.getD i false)).map fun i => ((d + i : Nat) : Int) := by
      unfold freeI freeN; rw [List.map_map]; rfl
    rw [← e] at hys'
    dsimp only
    k_steps
    exact next D ys _ _ hys' off2 F2 N2
end Mine
end

/-! Strand -/
section
open PySem PySem.W PySem.Spec PySem.Calls PyProof.Rows
set_option maxRecDepth 100000
set_option maxHeartbeats 8000000
namespace Mine
local macro_rules | `(tactic| walk_at "eval ListComp") => `(tactic| (refine stop_at ?_))
theorem sum_le_len : ∀ {l : List Nat}, (∀ z ∈ l, z ≤ 1) → l.sum ≤ l.length
  | [], _ => Nat.le_refl _
  | a :: l, h => by
    have := sum_le_len (l := l) fun z hz => h z (.tail _ hz)
    have := h a (.head _)
    simp only [List.sum_cons, List.length_cons]; omega
local macro_rules | `(tactic| walk_at "call builtin:str.join") => `(tactic| (refine stop_at ?_))
theorem c_strand (w : World) (mean : ExcName → Option Value) (mg mb : Str → Option Value) (x : Str) (r d : Int) (t1 t2 t3 : Tok) :
    Ctr 0 w mean mg mb 131 [.str x t1, .int r t2, .int d t3] (fun _ => x.length = 12 ∧ 0 ≤ r ∧ r < d ∧ d ≤ 4 ∧ 2 ≤ d) (fun v _ => ∃ n : Nat, Builtin.Range.rangeSize r 12 d = (n : Int) ∧ StrIs v (Txt.join (Str.ofString "") ((List.range n).map fun (i : Nat) => Txt.item x (r + (i : Int) * d)))) := by
  unfold Ctr
  intro dp un gd fr base s Q E B
  k_fill
  w_on
  intro X T hp hdp hun hret
  obtain ⟨hx, hr0, hrd, hd4, hd2⟩ := hp
  refine wpAny_call ?_
  k_dflt (refine' enterC (g := s.heap) (news := []) (binds := [(Str.ofString "line", .str x t1), (Str.ofString "rest", .int r t2), (Str.ofString "width", .int d t3)]) X T.nolimit (fun _ _ e => e) (Nat.le_refl _) (fun _ hp => nomatch hp) ?k6 ?k7 ?k8 ?k9 ?kB ?kD ?_ ?c2 ?c3 ?c4; (case k6 => k_is); (case k7 => k_is); (case k8 => (dsimp only; omega)); (case k9 => exact BindsTo.of_eq rfl); (case kB => exact rfl); (case kD => decide +kernel); (case c2 => exact rfl); (case c3 => exact rfl); (case c4 => exact rfl))
  intro L' h' tk' cells' F' N' Y' _
  k_cells Y'
  (try simp only [List.cons_append, List.nil_append] at N')
  dsimp only
  (try k_fold)
  refine boxQ fun Tz hTz => ?_
  show (let Az := _; wpAny _ Az _ _ _ _)
  intro Az
  k_steps
  refine ListComp_S (_F₀ := by k_asm) (by with_unfolding_all rfl) (by decide) (by rfl) (by decide) (by rfl) ?_
  (try dsimp only)
  k_steps
  obtain ⟨n, hn⟩ : ∃ n : Nat, Builtin.Range.rangeSize r 12 d = (n : Int) := ⟨(Builtin.Range.rangeSize r 12 d).toNat, by
    unfold Builtin.Range.rangeSize; rw [if_pos (by omega), if_pos (by omega)]
    have : 0 ≤ (12 - r - 1) / d := Int.ediv_nonneg (by omega) (by omega)
    omega⟩
  have hb : ∀ i : Nat, i < n → r + (i : Int) * d < 12 := by
    intro i hi
    unfold Builtin.Range.rangeSize at hn; rw [if_pos (by omega), if_pos (by omega)] at hn
    have h1 : (i : Int) ≤ (12 - r - 1) / d := by omega
    have h2 := Int.mul_le_of_le_ediv (by omega) h1
    omega
  have hn12 : n ≤ 12 := by
    by_cases h0 : n = 0
    · omega
    · have := hb (n - 1) (by omega)
      have h3 : ((n - 1 : Nat) : Int) * 1 ≤ ((n - 1 : Nat) : Int) * d := Int.mul_le_mul_of_nonneg_left (by omega) (by omega)
      omega
  refine ⟨_, _, _, _, _, _, _, n, _, rfl, rfl, by k_asm, by k_asm, by assumption, ?_, hn, by rw [sizeLine_eq]; omega, ?_⟩
  · have hr4 : r = 0 ∨ r = 1 ∨ r = 2 ∨ r = 3 := by omega
    have hd' : d = 2 ∨ d = 3 ∨ d = 4 := by omega
    rcases hr4 with h | h | h | h <;> rcases hd' with h' | h' | h' <;> (rw [h, h']; decide)
  intro s₂ hs₂
  obtain ⟨hh, rfl⟩ := hs₂
  refine restU StrIs (fun i => Txt.item x (r + (i : Int) * d)) ?_ ?_
  · rintro i v I oI C oC D m₂ ys h tk E' hi ⟨t, rfl⟩ hC hx' F N off ne
    have hk1 : 0 ≤ r + (i : Int) * d := by
      have := Int.mul_nonneg (a := (i : Int)) (b := d) (by omega) (by omega)
      omega
    have hk2 := hb i hi
    generalize hk : r + (i : Int) * d = k at *
    (try simp only [LCg.Off3, and_true] at off)
    dsimp only
    k_steps
    exact ⟨rfl, _, rfl⟩
  · intro ys hys
    have hys' := hys.strs
    intro D h2 tk2 F2 N2 off2
    dsimp only
    k_steps
    refine join_list (News.isList N2 (.head _)) (by simpa using hys') ?_ ?_
    · have h1 : ∀ z ∈ ((List.range n).map fun (i : Nat) => Txt.item x (r + (i : Int) * d)).map (·.length), z ≤ 1 := by
        intro z hz
        obtain ⟨y, hy, rfl⟩ := List.mem_map.mp hz
        obtain ⟨i, _, rfl⟩ := List.mem_map.mp hy
        exact Nat.le_refl 1
      have h2 := sum_le_len h1
      simp only [List.length_map, List.length_range] at h2 ⊢
      have h3 : (Str.ofString "").length = 0 := by decide
      rw [h3]; omega
    · intro t' k'
      exact hTz _ _ (hret _ [] _ _ (Fr.keep (by assumption)) (fun _ hp => nomatch hp) ⟨n, hn, _, rfl⟩)
end Mine
end

/-! Ell -/
section
open PySem PySem.W PySem.Spec PySem.Calls PyProof.Rows
set_option maxRecDepth 100000
set_option maxHeartbeats 8000000
namespace Mine

/-- the first place of y in x from i up to j, or -1 -/
noncomputable def find4 (x y : Str) (i j : Int) : Int := match Builtin.Str.occurrences x y (PySem.fromIndex x.length i) (min (PySem.fromIndex x.length j) x.length) 1 with | k :: _ => (k : Int) | [] => -1

theorem args_find4 (a b c d : Value) : argsOk "str.find" ⟨[a, b, c, d], []⟩ := by
  unfold argsOk; kernel_rfl
theorem gives_find4 (x y : Str) (i j : Int) (t u v k : Tok) : Gives (Builtin.«str.find» ⟨[.str x t, .str y u, .int i v, .int j k], []⟩) (.int (find4 x y i j)) := by
  show Gives (match Builtin.Str.occurrences x y (PySem.fromIndex x.length i) (min (PySem.fromIndex x.length j) x.length) 1 with | k :: _ => retInt k | [] => (do rule "str.find.not-found"; retInt (-1))) _
  unfold find4
  cases Builtin.Str.occurrences x y (PySem.fromIndex x.length i) (min (PySem.fromIndex x.length j) x.length) 1 with
  | nil => exact .rule (.of_eq rfl)
  | cons k _ => exact .of_eq rfl
theorem call_find4 {prog : Program} {w : World} {A : Around} {E : Value → Shared → Prop} {s : Shared} {Q : Value → Shared → Prop} {x y : Str} {i j : Int} {t u v k : Tok} (hq : Q (.int (find4 x y i j) s.toks) { s with toks := s.toks + 1 }) :
    wpAny (model prog w) A (call (.builtin "str.find") [.str x t, .str y u, .int i v, .int j k]) Q E s :=
  call_gives PySem.F.slot_str_find (typeIs_str _ _ _) PySem.F.entry_str_find (args_find4 _ _ _ _) (gives_find4 x y i j t u v k) hq




/-- the match of «... ...\t...» -/
noncomputable def emF (got : Str) : Bool :=
  let a := find4 got ⟨#[]⟩ 0 got.length
  if a < 0 then false else
  let b := find4 got ⟨#[32]⟩ (a + (PySem.Str.length ⟨#[]⟩ : Nat)) got.length
  if b < 0 then false else
  let c := find4 got ⟨#[9]⟩ (b + (PySem.Str.length ⟨#[32]⟩ : Nat)) got.length
  if c < 0 then false else
  let d := find4 got ⟨#[]⟩ (c + (PySem.Str.length ⟨#[9]⟩ : Nat)) got.length
  if d < 0 then false else true

/-- the same, word by word -/
noncomputable def emW : List Str := [⟨#[]⟩, ⟨#[32]⟩, ⟨#[9]⟩, ⟨#[]⟩]
noncomputable def emG (got : Str) : List Str → Int → Bool
  | [], _ => true
  | y :: r, p => if find4 got y p got.length < 0 then false else emG got r (find4 got y p got.length + (y.length : Nat))
theorem emF_eq (got : Str) : emG got emW 0 = emF got := rfl
theorem emW_len : ∀ y ∈ emW, y.length ≤ 1 := by decide
/-- what the loop keeps -/
inductive EmJ (got : Str) (t2 : Tok) (lp : Addr × Obj) (i : Nat) (m : Str → Option Value) (nw : List (Addr × Obj)) : Prop
  | mk (p : Int) (tp te : Tok) (hnw : nw = [lp]) (e1 : m (Str.ofString "startpos") = some (.int p tp)) (e2 : m (Str.ofString "endpos") = some (.int got.length te)) (e3 : m (Str.ofString "got") = some (.str got t2)) (e : emG got (emW.drop i) p = emF got)
theorem one_list {g h : Heap} {L a : Addr} {x : Addr × Obj} {items : Array Value} {n : Nat} (N : News g L h [x, (a, W.listOf items n)]) : ∃ (lp : Addr × Obj) (o : Obj), News g L h [lp] ∧ h.IsList a items ∧ ∀ nw, nw = [lp] → (a, o) ∈ nw :=
  ⟨(a, W.listOf items n), W.listOf items n, fun p hp => N p (.tail _ hp), News.isList N (.tail _ (.head _)), fun _ e => e ▸ .head _⟩
local macro_rules | `(tactic| walk_at "exec For Name Name cons nil") => `(tactic| (refine stop_at ?_))
theorem c_ell (w : World) (mean : ExcName → Option Value) (mg mb : Str → Option Value) (got : Str) (t1 t2 : Tok) :
    Ctr 0 w mean mg mb 43 [.str (Str.ofString "... ...\t...") t1, .str got t2] (fun _ => got.length ≤ 100) (fun v _ => v = .bool (emF got)) := by
  unfold Ctr
  intro dp un gd fr base s Q E B
  k_fill
  w_on
  intro X T hlen hdp hun hret
  refine wpAny_call ?_
  k_dflt (refine' enterP (news := []) (binds := [(Str.ofString "want", .str (Str.ofString "... ...\t...") t1), (Str.ofString "got", .str got t2)]) X T.nolimit (fun _ _ e => e) (Nat.le_refl _) (fun _ hp => nomatch hp) ?k6 ?k7 ?k8 ?k9 ?kB ?_ ?c2 ?c3 ?c4 ?c5; (case k6 => k_is); (case k7 => k_is); (case k8 => (dsimp only; omega)); (case k9 => exact BindsTo.of_eq rfl); (case kB => exact locs rfl); (case c2 => exact rfl); (case c3 => exact rfl); (case c4 => exact rfl); (case c5 => decide))
  intro L' h' F' N' _
  dsimp only
  refine boxQ fun Tz hTz => ?_
  show (let Az := _; wpAny _ Az _ _ _ _)
  intro Az
  k_steps
  · exact absurd (by assumption) (show ¬ ((Builtin.Str.occurrences (Str.ofString "... ...\t...") (Str.ofString "...") 0 (Str.ofString "... ...\t...").length 1).isEmpty = true) from by decide +kernel)
  refine For_at (by k_asm) ?_
  (try dsimp only)
  k_steps
  rename StrsAre _ _ => hsa
  rename News _ _ _ _ => NN
  rename Fr _ _ _ _ => FF
  obtain ⟨lp, o, N1, hL, hlm⟩ := one_list NN
  clear NN
  refine' iterI_list (fun i m' nw => EmJ got t2 lp i m' nw) rfl hL (.inr ⟨o, fun i m' nw h => by obtain ⟨_, _, _, e, _⟩ := h; exact hlm _ e⟩) FF N1 ⟨0, _, _, rfl, rfl, rfl, rfl, emF_eq got⟩ ?turn ?done
  case done =>
    intro m₁ nw h1 tk1 hJJ F N
    obtain ⟨p, tp, te, rfl, e1, e2, e3, e⟩ := hJJ
    replace e : true = emF got := e
    dsimp only
    k_steps
    exact hTz _ _ (hret _ [] _ _ F.keep (fun _ hp => nomatch hp) (by rw [← e]))
  case turn =>
    intro i v m₁ nw I oI h1 tk1 hv hJJ F N off Tq hTq
    obtain ⟨p, tp, te, rfl, e1, e2, e3, e⟩ := hJJ
    have F1 := Fr.lits F [(Str.ofString "startpos", .int p tp), (Str.ofString "endpos", .int got.length te), (Str.ofString "got", .str got t2)] (by simp only [List.forall_mem_cons]; exact ⟨e1, e2, e3, fun _ h => nomatch h⟩)
    clear F
    have hlt : i < emW.length := (Array.getElem?_eq_some_iff.mp hv).1
    have hsa : StrsAre _ emW := hsa
    obtain ⟨t7, e7⟩ := hsa.get i emW[i] (List.getElem?_eq_getElem hlt)
    obtain rfl := Option.some.inj (((List.getElem?_toArray ..).symm.trans hv).symm.trans e7)
    have hyl := emW_len emW[i] (List.getElem_mem hlt)
    rw [List.drop_eq_getElem_cons hlt] at e
    generalize emW[i] = y at hyl e e7
    replace e : (if find4 got y p got.length < 0 then false else emG got (emW.drop (i + 1)) (find4 got y p got.length + (y.length : Nat))) = emF got := e
    clear e7 hsa
    clear hv
    dsimp only
    k_steps
    refine call_find4 ?_
    generalize find4 got y p got.length = q at e
    dsimp only
    k_steps
    · dsimp only
      rw [if_pos (by assumption)] at e
      refine hTq _ _ ?_
      exact hTz _ _ (hret _ [] _ _ (Fr.keep (by assumption)) (fun _ hp => nomatch hp) (by rw [← e]))
    · rw [if_neg (by assumption)] at e
      refine hTq _ _ ?_
      exact ⟨_, _, _, _, rfl, (by assumption), (by assumption), off, _, _, _, rfl, rfl, rfl, rfl, e⟩
end Mine
end

/-! M1 -/
section
open PySem PySem.W PySem.Spec PySem.Calls PyProof.Rows
set_option maxRecDepth 100000
namespace Mine
/-- a gap and right behind it a bead -/
noncomputable def adjB (s : List Bool) : Bool := (List.range (s.length - 1)).any fun j => !(s.getD j false) && s.getD (j + 1) false
/-- no bead of the remainder can go -/
noncomputable def stuckB' (d i : Nat) (l : List Bool) : Bool := ((freeN d l).filter fun p => p % d == i).isEmpty
theorem ws6 : ∀ a b c d e f : Bool, decide (((wsF [a, b, c, d, e, f]).cs.length : Int) ≤ 1) = !adjB [a, b, c, d, e, f] := by decide +kernel
theorem ws4 : ∀ a b c d : Bool, decide (((wsF [a, b, c, d]).cs.length : Int) ≤ 1) = !adjB [a, b, c, d] := by decide +kernel
theorem ws3 : ∀ a b c : Bool, decide (((wsF [a, b, c]).cs.length : Int) ≤ 1) = !adjB [a, b, c] := by decide +kernel
theorem em6 : ∀ a b c d e f : Bool, emF (txt [a, b, c, d, e, f]) = adjB [a, b, c, d, e, f] := by decide +kernel
theorem em4 : ∀ a b c d : Bool, emF (txt [a, b, c, d]) = adjB [a, b, c, d] := by decide +kernel
theorem em3 : ∀ a b c : Bool, emF (txt [a, b, c]) = adjB [a, b, c] := by decide +kernel
theorem stuckB_any (d i : Nat) (l : List Bool) : stuckB' d i l = !((List.range (12 - d)).any fun c => l.getD (d + c) false && !(l.getD c false) && (d + c) % d == i) := by
  unfold stuckB' freeN
  rw [List.filter_map, List.filter_filter, List.isEmpty_map]
  generalize List.range (12 - d) = R
  induction R with
  | nil => rfl
  | cons a r ih =>
    rw [List.filter_cons, List.any_cons]
    split
    · rename_i h
      have : (l.getD (d + a) false && !(l.getD a false) && (d + a) % d == i) = true := by
        simp only [Function.comp, Bool.and_eq_true] at h
        simp only [Bool.and_eq_true]
        exact ⟨h.2, h.1⟩
      rw [this]; rfl
    · rename_i h
      rw [ih]
      have : (l.getD (d + a) false && !(l.getD a false) && (d + a) % d == i) = false := by
        simp only [Function.comp, Bool.and_eq_true] at h
        rw [Bool.eq_false_iff]
        simp only [ne_eq, Bool.and_eq_true]
        exact fun q => h ⟨q.2, q.1⟩
      rw [this, Bool.false_or]
theorem strandL_get {d i j : Nat} {l : List Bool} (h : j < (12 - i + d - 1) / d) : (strandL d i l).getD j false = l.getD (i + j * d) false := by
  unfold strandL
  rw [List.getD_eq_getElem?_getD, List.getElem?_map, List.getElem?_range h]; rfl
theorem strand_adj {d i : Nat} {l : List Bool} (hd2 : 2 ≤ d) (_hd4 : d ≤ 4) (hi : i < d) (_hl : l.length = 12) : adjB (strandL d i l) = !stuckB' d i l := by
  rw [stuckB_any, Bool.not_not]
  unfold adjB
  have hn : (strandL d i l).length = (12 - i + d - 1) / d := by unfold strandL; rw [List.length_map, List.length_range]
  rw [hn, Bool.eq_iff_iff, List.any_eq_true, List.any_eq_true]
  constructor
  · rintro ⟨j, hj, e⟩
    have hj := List.mem_range.mp hj
    have h1 : (j + 2) * d ≤ 12 - i + d - 1 := (Nat.le_div_iff_mul_le (by omega)).mp (by omega)
    rw [strandL_get (by omega), strandL_get (by omega), Nat.add_mul, Nat.one_mul] at e
    rw [Nat.add_mul] at h1
    refine ⟨i + j * d, List.mem_range.mpr (by omega), ?_⟩
    rw [show d + (i + j * d) = i + (j * d + d) by omega]
    rw [Bool.and_eq_true] at e ⊢
    refine ⟨by rw [Bool.and_comm]; simpa using e, ?_⟩
    rw [beq_iff_eq, ← Nat.add_assoc, Nat.add_mod_right, Nat.add_mul_mod_self_right, Nat.mod_eq_of_lt hi]
  · rintro ⟨c, hc, e⟩
    have hc := List.mem_range.mp hc
    rw [Bool.and_eq_true, beq_iff_eq, Nat.add_mod_left] at e
    have hcd := Nat.div_add_mod c d
    rw [e.2, Nat.mul_comm] at hcd
    have h2 : c / d + 2 ≤ (12 - i + d - 1) / d := (Nat.le_div_iff_mul_le (by omega)).mpr (by rw [Nat.add_mul]; omega)
    refine ⟨c / d, List.mem_range.mpr (by omega), ?_⟩
    rw [strandL_get (by omega), strandL_get (by omega), Nat.add_mul, Nat.one_mul, show i + c / d * d = c by omega, show i + (c / d * d + d) = d + c by omega, Bool.and_comm]
    exact e.1
theorem strand_short {d i : Nat} {l : List Bool} (hd2 : 2 ≤ d) (hd4 : d ≤ 4) (hi : i < d) : (strandL d i l).length = 6 ∨ (strandL d i l).length = 4 ∨ (strandL d i l).length = 3 := by
  unfold strandL
  rw [List.length_map, List.length_range]
  have hd : d = 2 ∨ d = 3 ∨ d = 4 := by omega
  rcases hd with rfl | rfl | rfl <;> omega
theorem len_cons {α : Type} {n : Nat} {s : List α} (h : s.length = n + 1) : ∃ a r, s = a :: r ∧ r.length = n := by
  obtain ⟨a, r, rfl⟩ := List.exists_cons_of_length_eq_add_one h
  exact ⟨a, r, rfl, Nat.succ.inj h⟩
theorem len3 {s : List Bool} (h : s.length = 3) : ∃ a b c, s = [a, b, c] := by
  obtain ⟨a, r, rfl, h1⟩ := len_cons h
  obtain ⟨b, r, rfl, h2⟩ := len_cons h1
  obtain ⟨c, r, rfl, h3⟩ := len_cons h2
  exact ⟨a, b, c, by rw [List.length_eq_zero_iff.mp h3]⟩
theorem len4 {s : List Bool} (h : s.length = 4) : ∃ a b c d, s = [a, b, c, d] := by
  obtain ⟨a, r, rfl, h1⟩ := len_cons h
  obtain ⟨b, c, d, rfl⟩ := len3 h1
  exact ⟨a, b, c, d, rfl⟩
theorem len6 {s : List Bool} (h : s.length = 6) : ∃ a b c d e f, s = [a, b, c, d, e, f] := by
  obtain ⟨a, r, rfl, h1⟩ := len_cons h
  obtain ⟨b, r, rfl, h2⟩ := len_cons h1
  obtain ⟨c, d, e, f, rfl⟩ := len4 h2
  exact ⟨a, b, c, d, e, f, rfl⟩
theorem ws_adj {s : List Bool} (h : s.length = 6 ∨ s.length = 4 ∨ s.length = 3) : decide (((wsF s).cs.length : Int) ≤ 1) = !adjB s := by
  rcases h with h | h | h
  · obtain ⟨a, b, c, d, e, f, rfl⟩ := len6 h; exact ws6 a b c d e f
  · obtain ⟨a, b, c, d, rfl⟩ := len4 h; exact ws4 a b c d
  · obtain ⟨a, b, c, rfl⟩ := len3 h; exact ws3 a b c
theorem em_adj {s : List Bool} (h : s.length = 6 ∨ s.length = 4 ∨ s.length = 3) : emF (txt s) = adjB s := by
  rcases h with h | h | h
  · obtain ⟨a, b, c, d, e, f, rfl⟩ := len6 h; exact em6 a b c d e f
  · obtain ⟨a, b, c, d, rfl⟩ := len4 h; exact em4 a b c d
  · obtain ⟨a, b, c, rfl⟩ := len3 h; exact em3 a b c
end Mine
end

/-! LawW1 -/
section
open PySem PySem.W PySem.Spec PySem.Calls PyProof.Rows
set_option maxRecDepth 100000
set_option maxHeartbeats 8000000
namespace Mine
/-- no bead of the remainder can go -/
theorem stuck_ws {d i : Nat} {l : List Bool} (hd2 : 2 ≤ d) (hd4 : d ≤ 4) (hi : i < d) (hl : l.length = 12) : decide (((wsF (strandL d i l)).cs.length : Int) ≤ 1) = stuckB' d i l := by
  rw [ws_adj (strand_short hd2 hd4 hi), strand_adj hd2 hd4 hi hl, Bool.not_not]
theorem stuck_em {d i : Nat} {l : List Bool} (hd2 : 2 ≤ d) (hd4 : d ≤ 4) (hi : i < d) (hl : l.length = 12) : emF (txt (strandL d i l)) = !stuckB' d i l := by
  rw [em_adj (strand_short hd2 hd4 hi), strand_adj hd2 hd4 hi hl]
theorem strand_is {d i : Nat} {l : List Bool} (hd2 : 2 ≤ d) (hd4 : d ≤ 4) (hi : i < d) (hl : l.length = 12) {n : Nat} (hn : Builtin.Range.rangeSize (i : Int) 12 (d : Int) = (n : Int)) :
    Txt.join (Str.ofString "") ((List.range n).map fun (j : Nat) => Txt.item (txt l) ((i : Int) + (j : Int) * (d : Int))) = txt (strandL d i l) := by
  have hd0 : 0 < d := Nat.lt_of_lt_of_le (by decide) hd2
  have hi12 : i + 1 ≤ 12 := Nat.le_trans hi (Nat.le_trans hd4 (by decide))
  have e0 : 12 - i + d - 1 = (12 - (i + 1)) + d := by
    rw [Nat.sub_add_eq, Nat.sub_add_comm]
    exact Nat.le_sub_of_add_le (Nat.add_comm i 1 ▸ hi12)
  have e : n = (12 - i + d - 1) / d := by
    unfold Builtin.Range.rangeSize at hn
    rw [if_pos (Int.natCast_pos.mpr hd0), if_pos (show (i : Int) < 12 from Int.ofNat_lt.mpr hi12), show (12 : Int) - (i : Int) - 1 = ((12 - (i + 1) : Nat) : Int) by rw [Int.ofNat_sub hi12, Int.sub_sub]; rfl] at hn
    rw [e0, Nat.add_div_right _ hd0]
    exact (Int.ofNat.inj hn).symm
  have hb : ∀ j, j < n → i + j * d < 12 := by
    intro j hj
    rw [e, e0, Nat.add_div_right _ hd0] at hj
    have := (Nat.le_div_iff_mul_le hd0).mp (Nat.le_of_lt_succ hj)
    have := Nat.add_le_of_le_sub hi12 this
    exact Nat.lt_of_succ_le (by rw [Nat.succ_eq_add_one, Nat.add_right_comm, Nat.add_comm]; exact this)
  have hj := join_sgn (strandL d i l)
  rw [← hj, strandL, List.map_map, ← e]
  congr 1
  apply List.map_congr_left
  intro j hj
  have hj' := hb j (List.mem_range.mp hj)
  rw [item_txt l (i := i + j * d) (by push_cast; rfl) (by omega)]
  rfl
theorem range_map_getD' (l : List Int) : (List.range l.length).map (fun i => l.getD i 0) = l := by
  apply List.ext_getElem
  · simp
  · intro i h1 h2
    simp at h1
    simp [h1]
theorem range_filter_mapP (l : List Int) (P : Int → Bool) : ((List.range l.length).filter (fun i => P (l.getD i 0))).map (fun i => l.getD i 0) = l.filter P := by
  have h := List.filter_map (f := fun i => l.getD i 0) (p := P) (l := List.range l.length)
  rw [range_map_getD'] at h
  rw [h]; rfl
theorem strand_len {d i : Nat} {l : List Bool} (hd2 : 2 ≤ d) (hi : i < d) (hl : l.length = 12) : (strandL d i l).length ≤ 12 := by
  unfold strandL
  rw [List.length_map, List.length_range]
  have hd0 : 0 < d := Nat.lt_of_lt_of_le (by decide) hd2
  refine Nat.le_trans (Nat.div_le_div_right (c := d) (b := 11 + d) (Nat.sub_le_of_le_add ?_)) ?_
  · rw [Nat.add_right_comm]; exact Nat.add_le_add_right (Nat.sub_le _ _) _
  · rw [Nat.add_div_right _ hd0]; exact Nat.succ_le_succ (Nat.div_le_self _ _)
theorem fmod_nat (a d : Nat) : ((a : Int)).fmod (d : Int) = ((a % d : Nat) : Int) := by
  rw [Int.fmod_eq_emod_of_nonneg _ (Int.natCast_nonneg _)]; rfl
theorem stuck_eq (d i : Nat) (l : List Bool) : decide ((freeI d l).filter (fun p => decide (p.fmod (d : Int) = (i : Int))) = []) = stuckB' d i l := by
  have e : ((freeI d l).filter fun p => decide (p.fmod (d : Int) = (i : Int))) = ((freeN d l).filter fun p => p % d == i).map fun (i : Nat) => (i : Int) := by
    unfold freeI
    rw [List.filter_map]
    congr 1
    refine List.filter_congr fun a _ => ?_
    show decide (((a : Int)).fmod (d : Int) = (i : Int)) = (a % d == i)
    rw [fmod_nat]
    rw [Bool.eq_iff_iff, decide_eq_true_iff, beq_iff_eq]
    omega
  rw [e]
  unfold stuckB'
  cases (freeN d l).filter fun p => p % d == i <;> simp
local macro_rules | `(tactic| walk_at "call ref") => `(tactic| (refine stop_at ?_))
local macro_rules | `(tactic| walk_at "exec For Name Call cons nil") => `(tactic| (refine stop_at ?_))
local macro_rules | `(tactic| walk_at "eval ListComp") => `(tactic| (refine stop_at ?_))
/-- what the loop keeps -/
inductive StJ (L A : Addr) (fs : List Value) (O : Addr × Obj) (c1 c2 c3 c4 c5 c7 : Obj) (m m' : Str → Option Value) (nw : List (Addr × Obj)) : Prop
  | mk (c6 : Obj) (v6 : Option Value) (d6 : c6.data = .cell v6) (hnw : nw = (A, W.listOf fs.toArray fs.length) :: O :: cellsL L c1 c2 c3 c4 c5 c6 c7) (hm : ∀ y, y ≠ Str.ofString "strand" → y ≠ Str.ofString "stuck" → m' y = m y)
/-- body 1: the loop over the remainders -/
theorem lawW1 {w : World} {mean : ExcName → Option Value} {mg mb : Str → Option Value} {fa : Addr} {cd : Value} {g h1 : Heap} {L : Addr} {tk : Tok} {s : Shared} {d : Nat} {r : List Bool} {c1 c2 c3 c4 c5 c6 c7 : Obj} {m : Str → Option Value} {t1 t5 : Tok} {v6 : Option Value} {A : Addr} {fs : List Value} {O : Addr × Obj} {Q : Flow → Shared → Prop}
   (C : Cx w mean mg mb g) (hd2 : 2 ≤ d) (hd4 : d ≤ 4) (hr : r.length = 12) (d1 : c1.data = .cell (some (.int (d : Int) t1))) (d5 : c5.data = .cell (some (.str (txt r) t5))) (d6 : c6.data = .cell v6)
   (hfs : IntsAre fs (freeI d r)) (hA : LCg.Off1 A (O :: cellsL L c1 c2 c3 c4 c5 c6 c7)) (hO : LCg.Off1 O.1 (cellsL L c1 c2 c3 c4 c5 c6 c7)) (efr : m (Str.ofString "free") = some (.ref A))
   (F : Fr g L h1 m) (N : News g L h1 ((A, W.listOf fs.toArray fs.length) :: O :: cellsL L c1 c2 c3 c4 c5 c6 c7))
   (next : ∀ c6 v6 h' tk' m', c6.data = .cell v6 → (∀ y, y ≠ Str.ofString "strand" → y ≠ Str.ofString "stuck" → m' y = m y) → Fr g L h' m' →
     News g L h' ((A, W.listOf fs.toArray fs.length) :: O :: cellsL L c1 c2 c3 c4 c5 c6 c7) → BodyAt whileBody w L fa cd 2 Q { s with heap := h', toks := tk' }) :
   BodyAt whileBody w L fa cd 1 Q { s with heap := h1, toks := tk } := by
  refine BodyAt.cut 1 ?_
  unfold lawA lawEnv
  conv in (occs := *) lawScope => all_goals whnf
  conv in List.drop _ _ => whnf
  dsimp only [List.take]
  obtain ⟨B0, X, T⟩ := C
  revert X
  k_fill
  w_on
  intro X
  have T := T
  (try dsimp only)
  (try k_fold)
  k_steps
  refine For_at (by k_asm) ?_
  (try dsimp only)
  k_steps
  refine' iterI_range (n := d) (fun _ m' nw => StJ L A fs O c1 c2 c3 c4 c5 c7 m m' nw) rfl (by assumption) (small_up (by omega)) (rsize_up d) ?F ?N ?J ?turn ?done
  case F => k_asm
  case N => k_asm
  case J => exact ⟨c6, v6, d6, rfl, fun _ _ _ => rfl⟩
  case done =>
    intro m₁ nw h2 tk2 hJJ F2 N2
    obtain ⟨c6, v6, d6, rfl, hm⟩ := hJJ
    dsimp only
    k_steps
    exact next c6 v6 _ _ m₁ d6 hm F2 N2
  case turn =>
    intro i q ti m₁ nw I oI h2 tk2 hi hq hJJ F2 N2 off Tq hTq
    obtain ⟨c6, v6, d6, rfl, hm⟩ := hJJ
    have efr' := (hm (Str.ofString "free") (by decide) (by decide)).trans efr
    have F3 := Fr.lits F2 [(Str.ofString "free", .ref A)] (by simp only [List.forall_mem_cons]; exact ⟨efr', fun _ h => nomatch h⟩)
    clear F2
    simp only [LCg.Off1, and_true] at hA hO
    obtain ⟨a1, a2, a3, a4, a5, a6, a7, a8⟩ := hA
    obtain ⟨o1, o2, o3, o4, o5, o6, o7⟩ := hO
    simp only [cellsL, List.forall_mem_cons] at off
    obtain ⟨f1, f2, f3, f4, f5, f6, f7, f8, f9, _⟩ := off
    have f1 := neN f1
    have f2 := neN f2
    have f3 := neN f3
    have f4 := neN f4
    have f5 := neN f5
    have f6 := neN f6
    have f7 := neN f7
    have f8 := neN f8
    have f9 := neN f9
    have hqi : q = (i : Int) := hq.trans (by simp)
    subst hqi
    have hst := @strand_is d i r hd2 hd4 hi hr
    have hxl : (txt r).length = 12 := (txt_len r).trans hr
    have hb1 := stuck_ws hd2 hd4 hi hr
    have hb2 := stuck_em hd2 hd4 hi hr
    dsimp only
    k_steps
    rename News _ _ _ _ => NN
    rename Fr _ _ _ _ => FF
    refine' Ctr.use (c_strand w mean mg mb (txt r) (i : Int) (d : Int) _ _ _) B0 FF NN X T rfl rfl rfl rfl ⟨hxl, by omega, by omega, by omega, by omega⟩ (law_dp _ (by decide)) (law_un _ (by decide)) ?_
    rintro v tl h3 tk3 F4 N4 off4 ⟨n, hn, t6, rfl⟩
    have N5 := fun p hp => N4 p (List.mem_append_right _ hp)
    clear N4 off4
    rw [hst hn]
    dsimp only
    k_steps
    refine ListComp_M (F₀ := by k_asm) (by with_unfolding_all rfl) (by decide) (by rfl) (by decide) (by rfl) ?_
    (try dsimp only)
    k_steps
    have hsz2 : fs.toArray.size = (freeI d r).length := by rw [List.size_toArray, hfs.length]
    have hfl : (freeI d r).length ≤ 12 := by rw [freeI, List.length_map]; exact freeN_len d r
    refine LCt.CompSrcT.ledger (by rfl) (by k_asm) (by k_asm) (.tail _ (.head _)) (line_up (by rw [hsz2]; omega)) ?_
    intro g2
    refine restTE IntIs (fun j => decide (((freeI d r).getD j 0).fmod d = (i : Int))) (fun j => (freeI d r).getD j 0) (.inr ⟨_, .tail _ (.head _), rfl, _, rfl⟩) ?_ ?_
    · rintro i2 v2 I2 oI2 C2 oC2 D2 m₃ ys h4 tk4 E4 hi2 hv hC2 hx2 F5 N6
      obtain ⟨z, t7, rfl, hz⟩ := IntsAre.at hfs i2 v2 (by simpa using hv)
      have hz2 : (freeI d r).getD i2 0 = z := by rw [List.getD_eq_getElem?_getD, hz]; rfl
      dsimp only
      k_steps
      · exact ⟨⟨_, rfl⟩, by rw [hz2]; exact decide_eq_true (by assumption), _, by rw [hz2]⟩
      · exact ⟨⟨_, rfl⟩, by rw [hz2]; exact decide_eq_false (by assumption)⟩
    · intro ys hys
      rw [hsz2, range_filter_mapP (freeI d r) (fun p => decide (p.fmod d = (i : Int)))] at hys
      have hys' := hys.ints
      intro D h4 tk4 F5 N6 off5
      simp only [LCg.Off1, and_true] at off5
      obtain ⟨p1, p2, p3, p4, p5, p6, p7, p8, p9, p10⟩ := off5
      have hsl := strand_len hd2 hi hr
      have hsl2 : (txt (strandL d i r)).length ≤ 12 := by rw [txt_len]; exact hsl
      dsimp only
      k_steps
      rename News _ _ _ _ => NN
      rename Fr _ _ _ _ => FF
      refine' Ctr.use (c_ws w mean mg mb (strandL d i r) _) B0 FF NN X T rfl rfl rfl rfl (Nat.le_trans hsl (by decide)) (law_dp _ (by decide)) (law_un _ (by decide)) ?_
      rintro v tl h5 tk5 F7 N7 off7 hW
      obtain ⟨x', dx, Ta, Ca, vs, k0, k1, k2, k3, k4, k5, k6, k7, k8, rfl, hvs, n1, n2, n3, n4, n5, n6, rfl⟩ := hW
      simp only [wsTl, List.cons_append, List.nil_append] at N7
      clear off7
      rw [hb1] at N7
      have hse := stuck_eq d i r
      dsimp only
      k_steps
      · rename News _ _ _ _ => NN
        rename Fr _ _ _ _ => FF
        refine' Ctr.use (c_ell w mean mg mb (txt (strandL d i r)) _ _) B0 FF NN X T rfl rfl rfl rfl (Nat.le_trans hsl2 (by decide)) (law_dp _ (by decide)) (law_un _ (by decide)) ?_
        rintro v tl h6 tk6 F8 N8 off8 rfl
        have N9 : News g L h6 _ := fun p hp => N8 p (List.mem_append_right _ hp)
        clear N8 off8
        rw [hb2]
        dsimp only
        k_steps
        · rename News _ _ _ _ => NN
          rename Fr _ _ _ _ => FF
          refine hTq _ _ ?_
          refine' ⟨_, _, _, _, rfl, FF, ?N, ?off, _, _, ?c6, rfl, ?hm⟩
          case N => exact News.perm NN (by kcf_all)
          case c6 => assumption
          case off =>
            simp only [cellsL, List.forall_mem_cons]
            exact ⟨f1, f2, f3, f4, f5, f6, f7, f8, f9, fun _ h => nomatch h⟩
          case hm =>
            intro y h1 h2
            show (if y = _ then _ else if y = _ then _ else if y = _ then _ else m₁ y) = _
            rw [if_neg h2, if_neg h1]
            split
            · rename y = _ => hy
              rw [hy, efr]
            · exact hm y h1 h2
end Mine
end

/-! LawW2 -/
section
open PySem PySem.W PySem.Spec PySem.Calls PyProof.Rows
set_option maxRecDepth 100000
set_option maxHeartbeats 8000000
namespace Mine
theorem Fr.unlits {h₀ h : Heap} {L : Addr} {m : Str → Option Value} (ps : List (Str × Value)) (F : Fr h₀ L h (litM m ps)) (e : ∀ p ∈ ps, m p.1 = some p.2) : Fr h₀ L h m := by
  rw [litM_eq e] at F; exact F
theorem free_nil {d : Nat} {r : List Bool} : freeI d r = [] ↔ freeN d r = [] := by unfold freeI; exact List.map_eq_nil_iff
/-- body 2: the break -/
theorem lawW2 {w : World} {mean : ExcName → Option Value} {mg mb : Str → Option Value} {fa : Addr} {cd : Value} {g h1 : Heap} {L : Addr} {tk : Tok} {s : Shared} {d : Nat} {r : List Bool} {c1 c2 c3 c4 c5 c6 c7 : Obj} {m : Str → Option Value} {A : Addr} {fs : List Value} {O : Addr × Obj} {Q : Flow → Shared → Prop}
   (C : Cx w mean mg mb g) (hfs : IntsAre fs (freeI d r)) (efr : m (Str.ofString "free") = some (.ref A))
   (F : Fr g L h1 m) (N : News g L h1 ((A, W.listOf fs.toArray fs.length) :: O :: cellsL L c1 c2 c3 c4 c5 c6 c7))
   (brk : ∀ h' tk', freeN d r = [] → Fr g L h' m → News g L h' (O :: cellsL L c1 c2 c3 c4 c5 c6 c7) → Q .brk { s with heap := h', toks := tk' })
   (next : ∀ h' tk', freeN d r ≠ [] → Fr g L h' m → News g L h' ((A, W.listOf fs.toArray fs.length) :: O :: cellsL L c1 c2 c3 c4 c5 c6 c7) → BodyAt whileBody w L fa cd 3 Q { s with heap := h', toks := tk' }) :
   BodyAt whileBody w L fa cd 2 Q { s with heap := h1, toks := tk } := by
  refine BodyAt.cut 1 ?_
  unfold lawA lawEnv
  conv in (occs := *) lawScope => all_goals whnf
  conv in List.drop _ _ => whnf
  dsimp only [List.take]
  obtain ⟨B0, X, T⟩ := C
  revert X
  k_fill
  w_on
  intro X
  have T := T
  have F3 := Fr.lits F [(Str.ofString "free", .ref A)] (by simp only [List.forall_mem_cons]; exact ⟨efr, fun _ h => nomatch h⟩)
  clear F
  have hfl : (freeI d r).length ≤ 12 := by rw [freeI, List.length_map]; exact freeN_len d r
  (try dsimp only)
  (try k_fold)
  have hps : ∀ p ∈ [(Str.ofString "free", Value.ref A)], m p.1 = some p.2 := by simp only [List.forall_mem_cons]; exact ⟨efr, fun _ h => nomatch h⟩
  k_steps
  · rename decide _ = true => hd
    rename News _ _ _ _ => NN
    rename Fr _ _ _ _ => FF
    exact brk _ _ (free_nil.mp (of_decide_eq_true hd)) (Fr.unlits [(Str.ofString "free", .ref A)] FF hps) (News.perm NN (by kcf_all))
  · rename decide _ = false => hd
    rename News _ _ _ _ => NN
    rename Fr _ _ _ _ => FF
    exact next _ _ (fun q => of_decide_eq_false hd (free_nil.mpr q)) (Fr.unlits [(Str.ofString "free", .ref A)] FF hps) (News.perm NN (by kcf_all))
end Mine
end

/-! LawW3 -/
section
open PySem PySem.W PySem.Spec PySem.Calls PyProof.Rows
set_option maxRecDepth 100000
set_option maxHeartbeats 8000000
namespace Mine
theorem Fr.unlits1 {h₀ h : Heap} {L : Addr} {m : Str → Option Value} {x : Str} {v : Value} (ps : List (Str × Value)) (F : Fr h₀ L h (fun y => if y = x then some v else litM m ps y)) (e : ∀ p ∈ ps, m p.1 = some p.2) : Fr h₀ L h (fun y => if y = x then some v else m y) := by
  rw [litM_eq e] at F; exact F
theorem free_at {d : Nat} {r : List Bool} {j : Nat} (h : j < (freeI d r).length) : ∃ q, q ∈ freeN d r ∧ (freeI d r).getD j 0 = (q : Int) := by
  unfold freeI at h ⊢
  rw [List.length_map] at h
  refine ⟨(freeN d r)[j], List.getElem_mem h, ?_⟩
  rw [List.getD_eq_getElem?_getD, List.getElem?_map, List.getElem?_eq_getElem h]; rfl
/-- body 3: the pick -/
theorem lawW3 {w : World} {mean : ExcName → Option Value} {mg mb : Str → Option Value} {fa : Addr} {cd : Value} {g h1 : Heap} {L : Addr} {tk : Tok} {s : Shared} {m : Str → Option Value} {l : Addr} {vs : List Value} {ns : List Int} {k : Nat} {t2 : Tok} {news : List (Addr × Obj)} {Q : Flow → Shared → Prop}
   (C : Cx w mean mg mb g) (hl : g.IsList l vs.toArray) (hI : IntsAre vs ns) (hlen : ns.length ≤ 63) (e2 : m (Str.ofString "script") = some (.ref l)) (e4 : m (Str.ofString "moves") = some (.int (k : Int) t2))
   (F : Fr g L h1 m) (N : News g L h1 news)
   (next : ∀ z tz h' tk', Fr g L h' (fun y => if y = Str.ofString "pick" then some (.int z tz) else m y) → News g L h' news → BodyAt whileBody w L fa cd 4 Q { s with heap := h', toks := tk' }) :
   BodyAt whileBody w L fa cd 3 Q { s with heap := h1, toks := tk } := by
  refine BodyAt.cut 1 ?_
  unfold lawA lawEnv
  conv in (occs := *) lawScope => all_goals whnf
  conv in List.drop _ _ => whnf
  dsimp only [List.take]
  obtain ⟨B0, X, T⟩ := C
  revert X
  k_fill
  w_on
  intro X
  have T := T
  have F3 := Fr.lits F [(Str.ofString "script", .ref l), (Str.ofString "moves", .int (k : Int) t2)] (by simp only [List.forall_mem_cons]; exact ⟨e2, e4, fun _ h => nomatch h⟩)
  clear F
  have hps : ∀ p ∈ [(Str.ofString "script", Value.ref l), (Str.ofString "moves", .int (k : Int) t2)], m p.1 = some p.2 := by simp only [List.forall_mem_cons]; exact ⟨e2, e4, fun _ h => nomatch h⟩
  (try dsimp only)
  (try k_fold)
  k_steps
  all_goals
    rename News _ _ _ _ => NN
    rename Fr _ _ _ _ => FF
    exact next _ _ _ _ (Fr.unlits1 [(Str.ofString "script", .ref l), (Str.ofString "moves", .int (k : Int) t2)] FF hps) NN
local macro_rules | `(tactic| walk_at "subscriptTail Name BinOp ref int") => `(tactic| (refine stop_at ?_))
/-- body 4: the place -/
theorem lawW4 {w : World} {mean : ExcName → Option Value} {mg mb : Str → Option Value} {fa : Addr} {cd : Value} {g h1 : Heap} {L : Addr} {tk : Tok} {s : Shared} {d : Nat} {r : List Bool} {c1 c2 c3 c4 c5 c6 c7 : Obj} {m : Str → Option Value} {A : Addr} {fs : List Value} {O : Addr × Obj} {z : Int} {tz : Tok} {v3 : Option Value} {Q : Flow → Shared → Prop}
   (C : Cx w mean mg mb g) (hfs : IntsAre fs (freeI d r)) (hne : freeN d r ≠ []) (hA : LCg.Off1 A (O :: cellsL L c1 c2 c3 c4 c5 c6 c7)) (hO : LCg.Off1 O.1 (cellsL L c1 c2 c3 c4 c5 c6 c7)) (efr : m (Str.ofString "free") = some (.ref A)) (d3 : c3.data = .cell v3)
   (F : Fr g L h1 (fun y => if y = Str.ofString "pick" then some (.int z tz) else m y)) (N : News g L h1 ((A, W.listOf fs.toArray fs.length) :: O :: cellsL L c1 c2 c3 c4 c5 c6 c7))
   (next : ∀ q tq c3 h' tk', q ∈ freeN d r → c3.data = .cell (some (.int ((q : Nat) : Int) tq)) → Fr g L h' (fun y => if y = Str.ofString "pick" then some (.int z tz) else m y) → News g L h' (O :: cellsL L c1 c2 c3 c4 c5 c6 c7) → BodyAt whileBody w L fa cd 5 Q { s with heap := h', toks := tk' }) :
   BodyAt whileBody w L fa cd 4 Q { s with heap := h1, toks := tk } := by
  refine BodyAt.cut 1 ?_
  unfold lawA lawEnv
  conv in (occs := *) lawScope => all_goals whnf
  conv in List.drop _ _ => whnf
  dsimp only [List.take]
  obtain ⟨B0, X, T⟩ := C
  revert X
  k_fill
  w_on
  intro X
  have T := T
  have efr' : (fun y => if y = Str.ofString "pick" then some (Value.int z tz) else m y) (Str.ofString "free") = some (.ref A) := efr
  have hps : ∀ p ∈ [(Str.ofString "pick", Value.int z tz), (Str.ofString "free", .ref A)], (fun y => if y = Str.ofString "pick" then some (Value.int z tz) else m y) p.1 = some p.2 := by simp only [List.forall_mem_cons]; exact ⟨rfl, efr', fun _ h => nomatch h⟩
  have F3 := Fr.lits F [(Str.ofString "pick", .int z tz), (Str.ofString "free", .ref A)] hps
  clear F
  simp only [LCg.Off1, and_true] at hA hO
  obtain ⟨a1, a2, a3, a4, a5, a6, a7, a8⟩ := hA
  obtain ⟨o1, o2, o3, o4, o5, o6, o7⟩ := hO
  have hfl : (freeI d r).length ≤ 12 := by rw [freeI, List.length_map]; exact freeN_len d r
  have hfl2 : (freeI d r).length ≤ 100000 := Nat.le_trans hfl (by decide)
  have hpos : 0 < (freeI d r).length := by rw [freeI, List.length_map]; exact List.length_pos_iff.mpr hne
  have hpos2 : ((freeI d r).length : Int) ≠ 0 := by omega
  have hj := fmod_pos z (b := ((freeI d r).length : Int)) (by omega)
  obtain ⟨hj0, hj1⟩ := hj
  (try dsimp only)
  (try k_fold)
  k_steps
  (refine' item_lstI ?zN ?zm ?zi ?z0 ?z1 ?zf ?_; (case zN => k_asm); (case zm => k_mem); (case zi => assumption); (case z0 => with_reducible assumption); (case z1 => with_reducible assumption); (case zf => with_reducible assumption))
  intro ti
  dsimp only
  k_steps
  obtain ⟨q, hq, e⟩ := free_at (d := d) (r := r) (j := (z.fmod ((freeI d r).length : Int)).toNat) (by omega)
  rename News _ _ _ _ => NN
  rename Fr _ _ _ _ => FF
  refine' next q _ _ _ _ hq ?e (Fr.unlits [(Str.ofString "pick", .int z tz), (Str.ofString "free", .ref A)] FF hps) (News.perm NN (by kcf_all))
  case e => rw [← e]; assumption
end Mine
end

/-! LawW5 -/
section
open PySem PySem.W PySem.Spec PySem.Calls PyProof.Rows
set_option maxRecDepth 100000
set_option maxHeartbeats 8000000
namespace Mine
section
variable {prog : Program} {w : World} {A : Around} {E : Value → Shared → Prop} {s : Shared} {g : Heap} {L : Addr} {m : Str → Option Value} {news : List (Addr × Obj)} {value slice : Expr} {x c : Str} {t : Tok} {Q : Value → Shared → Prop} {i j : Int} {ui uj : Tok}
theorem slice_ss_is (e : Txt.slice x (some i) (some j) = c) (F : Fr g L s.heap m) (N : News g L s.heap news) (hz : x.length ≤ 1000) (h : ∀ h' t' k, Fr g L h' m → News g L h' news → Q (.str c t') { s with heap := h', toks := k })
    (hs : subscripted slice false (.str x t) (.ref s.heap.objs.size) = operate [.ref s.heap.objs.size, .str x t] (getItem (.str x t) (.ref s.heap.objs.size)) := by with_unfolding_all rfl)
    (ht : ∀ r, letTemporaryGo value (.str x t) r = pure () := by intro _; with_unfolding_all rfl) :
    wpAny (model prog w) A (subscriptTail value slice (.str x t) (.ref s.heap.objs.size)) Q E { s with heap := s.heap.push { cls := .type "slice", data := .fields #[.int i ui, .int j uj, .none] } } :=
  tail_of_ItemOn (SBH.sliceItem_ss keptFrN ⟨F, N⟩ (fun h' t' k p => by rw [e]; exact h h' t' k p.1 p.2) (Nat.le_trans hz (by decide))) hs ht
theorem slice_ns_is (e : Txt.slice x none (some j) = c) (F : Fr g L s.heap m) (N : News g L s.heap news) (hz : x.length ≤ 1000) (h : ∀ h' t' k, Fr g L h' m → News g L h' news → Q (.str c t') { s with heap := h', toks := k })
    (hs : subscripted slice false (.str x t) (.ref s.heap.objs.size) = operate [.ref s.heap.objs.size, .str x t] (getItem (.str x t) (.ref s.heap.objs.size)) := by with_unfolding_all rfl)
    (ht : ∀ r, letTemporaryGo value (.str x t) r = pure () := by intro _; with_unfolding_all rfl) :
    wpAny (model prog w) A (subscriptTail value slice (.str x t) (.ref s.heap.objs.size)) Q E { s with heap := s.heap.push { cls := .type "slice", data := .fields #[.none, .int j uj, .none] } } :=
  tail_of_ItemOn (SBH.sliceItem_ns keptFrN ⟨F, N⟩ (fun h' t' k p => by rw [e]; exact h h' t' k p.1 p.2) (Nat.le_trans hz (by decide))) hs ht
theorem slice_sn_is (e : Txt.slice x (some i) none = c) (F : Fr g L s.heap m) (N : News g L s.heap news) (hz : x.length ≤ 1000) (h : ∀ h' t' k, Fr g L h' m → News g L h' news → Q (.str c t') { s with heap := h', toks := k })
    (hs : subscripted slice false (.str x t) (.ref s.heap.objs.size) = operate [.ref s.heap.objs.size, .str x t] (getItem (.str x t) (.ref s.heap.objs.size)) := by with_unfolding_all rfl)
    (ht : ∀ r, letTemporaryGo value (.str x t) r = pure () := by intro _; with_unfolding_all rfl) :
    wpAny (model prog w) A (subscriptTail value slice (.str x t) (.ref s.heap.objs.size)) Q E { s with heap := s.heap.push { cls := .type "slice", data := .fields #[.int i ui, .none, .none] } } :=
  tail_of_ItemOn (SBH.sliceItem_sn keptFrN ⟨F, N⟩ (fun h' t' k p => by rw [e]; exact h h' t' k p.1 p.2) (Nat.le_trans hz (by decide))) hs ht
end
theorem txt_cps (l : List Bool) : (txt l).cps.toList = l.map code := by simp [txt]
theorem slice_txt (l : List Bool) {i j : Int} (a b : Nat) (hi : i = a) (hj : j = b) (hab : a ≤ b) (hb : b ≤ l.length) : Txt.slice (txt l) (some i) (some j) = txt ((l.drop a).take (b - a)) := by
  subst hi hj
  rw [eq_of_beq (slice_closesL (x := txt l) (i := (a : Int)) (j := (b : Int)) (by omega) (by omega) (by rw [txt_len]; omega)), txt_cps]
  unfold txt
  rw [List.map_take, List.map_drop]
  congr 3
  omega
theorem slice_txt_to (l : List Bool) {j : Int} (b : Nat) (hj : j = b) (hb : b ≤ l.length) : Txt.slice (txt l) none (some j) = txt (l.take b) := by
  subst hj
  rw [eq_of_beq (slice_closes_toL (x := txt l) (j := (b : Int)) (by omega) (by rw [txt_len]; omega)), txt_cps]
  unfold txt
  rw [List.map_take]
  simp
theorem slice_txt_from (l : List Bool) {i : Int} (a : Nat) (hi : i = a) (ha : a ≤ l.length) : Txt.slice (txt l) (some i) none = txt (l.drop a) := by
  subst hi
  rw [eq_of_beq (slice_closes_fromL (x := txt l) (i := (a : Int)) (b := (l.length : Int)) (by omega) (by rw [txt_len]; omega) (by rw [txt_len])), txt_cps]
  unfold txt
  rw [List.map_drop]
  congr 1
  rw [List.take_of_length_le]
  · simp
  · simp
theorem wsF_nt (l : List Bool) : (wsF l).nt = (l.count true : Int) := by
  have key : ∀ (l : List Bool) (s : WsSt), (l.foldl wsStep s).nt = s.nt + (l.count true : Int) := by
    intro l
    induction l with
    | nil => intro s; simp
    | cons b r ih =>
      intro s
      rw [List.foldl_cons, ih]
      cases b <;> simp [wsStep, List.count_cons]
      omega
  rw [wsF, key]; simp
local macro_rules | `(tactic| walk_at "call ref") => `(tactic| (refine stop_at ?_))
local macro_rules | `(tactic| walk_at "subscriptTail Name Slice str ref") => `(tactic| (refine stop_at ?_))
theorem Fr.unlits2 {h₀ h : Heap} {L : Addr} {m : Str → Option Value} {x y : Str} {v u : Value} (ps : List (Str × Value)) (F : Fr h₀ L h (fun z => if z = x then some v else if z = y then some u else litM m ps z)) (e : ∀ p ∈ ps, m p.1 = some p.2) : Fr h₀ L h (fun z => if z = x then some v else if z = y then some u else m z) := by
  rw [litM_eq e] at F; exact F
theorem body_end {w : World} {L fa : Addr} {cd : Value} {Q : Flow → Shared → Prop} {s : Shared} (h : Q .next s) : BodyAt whileBody w L fa cd 9 Q s := by
  unfold BodyAt
  conv in List.drop _ _ => whnf
  exact fun _ _ _ => h
theorem move_txt (d q : Nat) (r : List Bool) : txt (r.take (q - d)) ++ Str.ofString "\t" ++ txt (btw d q r) ++ Str.ofString " " ++ txt (r.drop (q + 1)) = txt (moveL d q r) := by
  have h1 : Str.ofString "\t" = txt [true] := by decide
  have h2 : Str.ofString " " = txt [false] := by decide
  rw [h1, h2, txt_app, txt_app, txt_app, txt_app]
  rfl
/-- body 5, 6: what is passed -/
theorem lawW5 {w : World} {mean : ExcName → Option Value} {mg mb : Str → Option Value} {fa : Addr} {cd : Value} {g h1 : Heap} {L : Addr} {tk : Tok} {s : Shared} {d q p : Nat} {r : List Bool} {c1 c2 c3 c4 c5 c6 c7 : Obj} {m : Str → Option Value} {O : Addr × Obj} {t1 t3 t5 tq : Tok} {Q : Flow → Shared → Prop}
   (C : Cx w mean mg mb g) (hd2 : 2 ≤ d) (hd4 : d ≤ 4) (hr : r.length = 12) (hq : q ∈ freeN d r)
   (d1 : c1.data = .cell (some (.int (d : Int) t1))) (d3 : c3.data = .cell (some (.int (q : Int) tq))) (d5 : c5.data = .cell (some (.str (txt r) t5)))
   (e5 : m (Str.ofString "passed") = some (.int (p : Int) t3))
   (F : Fr g L h1 m) (N : News g L h1 (O :: cellsL L c1 c2 c3 c4 c5 c6 c7))
   (next : ∀ t3 tb h' tk', Fr g L h' (fun y => if y = Str.ofString "passed" then some (.int ((p + (btw d q r).count true : Nat) : Int) t3) else if y = Str.ofString "between" then some (.str (txt (btw d q r)) tb) else m y) →
      News g L h' (O :: cellsL L c1 c2 c3 c4 c5 c6 c7) → BodyAt whileBody w L fa cd 7 Q { s with heap := h', toks := tk' }) :
   BodyAt whileBody w L fa cd 5 Q { s with heap := h1, toks := tk } := by
  refine BodyAt.cut 2 ?_
  unfold lawA lawEnv
  conv in (occs := *) lawScope => all_goals whnf
  conv in List.drop _ _ => whnf
  dsimp only [List.take]
  obtain ⟨B0, X, T⟩ := C
  revert X
  k_fill
  w_on
  intro X
  have T := T
  have hps : ∀ p_1 ∈ [(Str.ofString "passed", Value.int (p : Int) t3)], m p_1.1 = some p_1.2 := by simp only [List.forall_mem_cons]; exact ⟨e5, fun _ h => nomatch h⟩
  have F3 := Fr.lits F [(Str.ofString "passed", .int (p : Int) t3)] hps
  clear F
  obtain ⟨hf1, hf2, _, _⟩ := freeN_mem hq
  have hrl : (txt r).length ≤ 1000 := by rw [txt_len]; omega
  have s1 : Txt.slice (txt r) (some ((q : Int) - (d : Int) + 1)) (some (q : Int)) = txt (btw d q r) := by
    rw [slice_txt r (q - d + 1) q (by omega) rfl (by omega) (by omega)]
    unfold btw; congr 2; omega
  have l1 : (txt (btw d q r)).length ≤ 12 := by rw [txt_len]; unfold btw; rw [List.length_take]; omega
  (try dsimp only)
  (try k_fold)
  k_steps
  (refine' slice_ss_is ?zE ?zF ?zN ?zZ ?_; (case zE => with_reducible assumption); (case zF => k_asm); (case zN => k_asm); (case zZ => with_reducible assumption))
  intro h' _ _ F' N'
  (try dsimp only)
  k_steps
  rename News _ _ _ _ => NN
  rename Fr _ _ _ _ => FF
  refine' Ctr.use (c_ws w mean mg mb (btw d q r) _) B0 FF NN X T rfl rfl rfl rfl (by rw [txt_len] at l1; exact Nat.le_trans l1 (by decide)) (law_dp _ (by decide)) (law_un _ (by decide)) ?_
  rintro v tl h5 tk5 F7 N7 off7 hW
  obtain ⟨x', dx, Ta, Ca, vs, k0, k1, k2, k3, k4, k5, k6, k7, k8, rfl, hvs, n1, n2, n3, n4, n5, n6, rfl⟩ := hW
  simp only [wsTl, List.cons_append, List.nil_append] at N7
  clear off7
  rw [wsF_nt] at N7
  dsimp only
  k_steps
  rename News _ _ _ _ => NN
  rename Fr _ _ _ _ => FF
  exact next _ _ _ _ (Fr.unlits2 [(Str.ofString "passed", .int (p : Int) t3)] FF hps) (News.perm NN (by kcf_all))
/-- body 7, 8: the move -/
theorem lawW7 {w : World} {mean : ExcName → Option Value} {mg mb : Str → Option Value} {fa : Addr} {cd : Value} {g h1 : Heap} {L : Addr} {tk : Tok} {s : Shared} {d q k : Nat} {r : List Bool} {c1 c2 c3 c4 c5 c6 c7 : Obj} {m : Str → Option Value} {O : Addr × Obj} {t1 t2 t5 tb tq : Tok} {Q : Flow → Shared → Prop}
   (C : Cx w mean mg mb g) (hd2 : 2 ≤ d) (hd4 : d ≤ 4) (hr : r.length = 12) (hq : q ∈ freeN d r) (hO : LCg.Off1 O.1 (cellsL L c1 c2 c3 c4 c5 c6 c7))
   (d1 : c1.data = .cell (some (.int (d : Int) t1))) (d3 : c3.data = .cell (some (.int (q : Int) tq))) (d5 : c5.data = .cell (some (.str (txt r) t5)))
   (e4 : m (Str.ofString "moves") = some (.int (k : Int) t2)) (e6 : m (Str.ofString "between") = some (.str (txt (btw d q r)) tb))
   (F : Fr g L h1 m) (N : News g L h1 (O :: cellsL L c1 c2 c3 c4 c5 c6 c7))
   (next : ∀ c5 t5 t2 h' tk', c5.data = .cell (some (.str (txt (moveL d q r)) t5)) → Fr g L h' (fun y => if y = Str.ofString "moves" then some (.int ((k + 1 : Nat) : Int) t2) else m y) →
      News g L h' (O :: cellsL L c1 c2 c3 c4 c5 c6 c7) → Q .next { s with heap := h', toks := tk' }) :
   BodyAt whileBody w L fa cd 7 Q { s with heap := h1, toks := tk } := by
  refine BodyAt.cut 2 ?_
  unfold lawA lawEnv
  conv in (occs := *) lawScope => all_goals whnf
  conv in List.drop _ _ => whnf
  dsimp only [List.take]
  obtain ⟨B0, X, T⟩ := C
  revert X
  k_fill
  w_on
  intro X
  have T := T
  have hps : ∀ p_1 ∈ [(Str.ofString "moves", Value.int (k : Int) t2), (Str.ofString "between", .str (txt (btw d q r)) tb)], m p_1.1 = some p_1.2 := by simp only [List.forall_mem_cons]; exact ⟨e4, e6, fun _ h => nomatch h⟩
  have F3 := Fr.lits F [(Str.ofString "moves", .int (k : Int) t2), (Str.ofString "between", .str (txt (btw d q r)) tb)] hps
  clear F
  simp only [LCg.Off1, and_true] at hO
  obtain ⟨o1, o2, o3, o4, o5, o6, o7⟩ := hO
  obtain ⟨hf1, hf2, _, _⟩ := freeN_mem hq
  have hrl : (txt r).length ≤ 1000 := by rw [txt_len]; omega
  have s2 : Txt.slice (txt r) none (some ((q : Int) - (d : Int))) = txt (r.take (q - d)) := slice_txt_to r (q - d) (by omega) (by omega)
  have s3 : Txt.slice (txt r) (some ((q : Int) + 1)) none = txt (r.drop (q + 1)) := slice_txt_from r (q + 1) (by omega) (by omega)
  have l1 : (txt (btw d q r)).length ≤ 12 := by rw [txt_len]; unfold btw; rw [List.length_take]; omega
  have l2 : (txt (r.take (q - d))).length ≤ 12 := by rw [txt_len, List.length_take]; omega
  have l3 : (txt (r.drop (q + 1))).length ≤ 12 := by rw [txt_len, List.length_drop]; omega
  (try dsimp only)
  (try k_fold)
  k_steps
  (refine' slice_ns_is ?zE ?zF ?zN ?zZ ?_; (case zE => with_reducible assumption); (case zF => k_asm); (case zN => k_asm); (case zZ => with_reducible assumption))
  intro h' _ _ F' N'
  (try dsimp only)
  k_steps
  (refine' slice_sn_is ?zE ?zF ?zN ?zZ ?_; (case zE => with_reducible assumption); (case zF => k_asm); (case zN => k_asm); (case zZ => with_reducible assumption))
  intro h' _ _ F' N'
  (try dsimp only)
  k_steps
  rename News _ _ _ _ => NN
  rename Fr _ _ _ _ => FF
  refine body_end ?_
  refine' next _ _ _ _ _ ?e (Fr.unlits1 [(Str.ofString "moves", .int (k : Int) t2), (Str.ofString "between", .str (txt (btw d q r)) tb)] FF hps) NN
  case e => rw [← move_txt]; assumption
end Mine
end

/-! LawX -/
section
open PySem PySem.W PySem.Spec PySem.Calls PyProof.Rows
set_option maxRecDepth 100000
set_option maxHeartbeats 8000000
namespace Mine
/-- a whole turn of the while -/
theorem law_turn {w : World} {mean : ExcName → Option Value} {mg mb : Str → Option Value} {fa : Addr} {cd : Value} {g : Heap} {L : Addr} {s : Shared} {l B : Addr} {vs bs : List Value} {ns : List Int} {x d : Nat} {c1 c2 c4 c7 : Obj} {t1 : Tok}
   (C : Cx w mean mg mb g) (hl : g.IsList l vs.toArray) (hI : IntsAre vs ns) (hlen : ns.length ≤ 63) (hd2 : 2 ≤ d) (hd4 : d ≤ 4) (d1 : c1.data = .cell (some (.int (d : Int) t1))) (hB : ∀ c1 c2 c3 c4 c5 c6 c7, LCg.Off1 B (cellsL L c1 c2 c3 c4 c5 c6 c7)) :
   ∀ r m₁ nw h tk Q', WJ L d x B l bs c1 c2 c4 c7 r m₁ nw → Fr g L h m₁ → News g L h nw →
     (∀ h' tk' m' nw' r', invL r' < invL r → Fr g L h' m' → News g L h' nw' → WJ L d x B l bs c1 c2 c4 c7 r' m' nw' → Q' .next { s with heap := h', toks := tk' }) →
     (∀ h' tk' m' nw', freeN d r = [] → Fr g L h' m' → News g L h' nw' → WJ L d x B l bs c1 c2 c4 c7 r m' nw' → Q' .brk { s with heap := h', toks := tk' }) →
     BodyAt whileBody w L fa cd 0 Q' { s with heap := h, toks := tk } := by
  intro r m₁ nw h tk Q' hJJ F N nxt brk
  obtain ⟨k, p, c3, c5, c6, v3, v6, u1, u2, u3, u5, hrun, hr, e1, e2, e3, e4, e5, d3, d5, d6, rfl⟩ := hJJ
  refine lawW0 C hd2 hd4 hr d1 d5 F N ?_
  intro A fs h1 tk1 hfs hA F1 N1
  refine lawW1 (t5 := u5) C hd2 hd4 hr d1 d5 d6 hfs hA (hB _ _ _ _ _ _ _) rfl F1 N1 ?_
  intro c6 v6 h2 tk2 m2 d6 hm F2 N2
  have efr : m2 (Str.ofString "free") = some (.ref A) := (hm _ (by decide) (by decide)).trans rfl
  have e1 : m2 (Str.ofString "beads") = some (.ref B) := (hm _ (by decide) (by decide)).trans e1
  have e2 : m2 (Str.ofString "script") = some (.ref l) := (hm _ (by decide) (by decide)).trans e2
  have e3 : m2 (Str.ofString "start") = some (.str (txt (rowL x)) u1) := (hm _ (by decide) (by decide)).trans e3
  have e4 : m2 (Str.ofString "moves") = some (.int (k : Int) u2) := (hm _ (by decide) (by decide)).trans e4
  have e5 : m2 (Str.ofString "passed") = some (.int (p : Int) u3) := (hm _ (by decide) (by decide)).trans e5
  refine lawW2 C hfs efr F2 N2 ?_ ?_
  · intro h3 tk3 hfr F3 N3
    exact brk h3 tk3 m2 _ hfr F3 N3 ⟨k, p, c3, c5, c6, v3, v6, u1, u2, u3, u5, hrun, hr, e1, e2, e3, e4, e5, d3, d5, d6, rfl⟩
  · intro h3 tk3 hfr F3 N3
    refine lawW3 C hl hI hlen e2 e4 F3 N3 ?_
    intro z tz h4 tk4 F4 N4
    refine lawW4 (c6 := c6) C hfs hfr hA (hB _ _ _ _ _ _ _) efr d3 F4 N4 ?_
    intro q tq c3 h5 tk5 hq d3 F5 N5
    refine lawW5 (m := fun y => if y = Str.ofString "pick" then some (.int z tz) else m2 y) C hd2 hd4 hr hq d1 d3 d5 (p := p) (t3 := u3) e5 F5 N5 ?_
    intro t3 tb h6 tk6 F6 N6
    refine lawW7 (m := fun y => if y = Str.ofString "passed" then some (.int ((p + (btw d q r).count true : Nat) : Int) t3) else if y = Str.ofString "between" then some (.str (txt (btw d q r)) tb) else if y = Str.ofString "pick" then some (.int z tz) else m2 y) C hd2 hd4 hr hq (hB _ _ _ _ _ _ _) d1 d3 d5 (k := k) (t2 := u2) (tb := tb) e4 rfl F6 N6 ?_
    intro c5 t5 t2 h7 tk7 d5 F7 N7
    refine nxt h7 tk7 _ _ (moveL d q r) ?_ F7 N7 ?_
    · have := invL_move (by omega) hr hq; omega
    · exact ⟨k + 1, p + (btw d q r).count true, c3, c5, c6, _, v6, u1, t2, t3, t5, .move hrun hq, moveL_len (by omega) hr hq, e1, e2, e3, rfl, rfl, d3, d5, d6, rfl⟩
end Mine
end

/-! LawG -/
section
open PySem PySem.W PySem.Spec PySem.Calls PyProof.Rows
set_option maxRecDepth 100000
set_option maxHeartbeats 8000000
namespace Mine
/-- the beads ahead of one, of its remainder -/
noncomputable def aheadF (d x : Nat) (p : Int) : List Int := (bitsI x).filter fun o => decide (o < p) && decide ((p - o).fmod d = 0)
noncomputable def homeF (d x : Nat) (p : Int) : Int := p.fmod d + d * ((aheadF d x p).length : Int)
noncomputable def homesI (d x : Nat) : List Int := (bitsI x).map (homeF d x)
theorem ahead_len (d x : Nat) (p : Int) : (aheadF d x p).length ≤ 12 := Nat.le_trans (List.length_filter_le _ _) (bitsI_len x)
local macro_rules | `(tactic| walk_at "exec For Name Name cons nil") => `(tactic| (refine stop_at ?_))
local macro_rules | `(tactic| walk_at "exec Assign cons ListComp") => `(tactic| (refine stop_at ?_))
local macro_rules | `(tactic| walk_at "call builtin:list.append") => `(tactic| (refine stop_at ?_))
theorem h_lt {L H : Nat} (h : L + 1 + 1 + 1 + 1 + 1 + 1 + 1 < H) : L + 1 + 1 + 1 + 1 + 1 + 1 < H ∧ L + 1 + 1 + 1 + 1 + 1 < H ∧ L + 1 + 1 + 1 + 1 < H ∧ L + 1 + 1 + 1 < H ∧ L + 1 + 1 < H ∧ L + 1 < H :=
  have a := Nat.lt_of_succ_lt h; have b := Nat.lt_of_succ_lt a; have c := Nat.lt_of_succ_lt b; have d := Nat.lt_of_succ_lt c; have e := Nat.lt_of_succ_lt d; ⟨a, b, c, d, e, Nat.lt_of_succ_lt e⟩
/-- what the loop keeps -/
inductive HoJ (L B : Addr) (bs : List Value) (c1 c2 c4 c5 c6 : Obj) (zs : List Int) (m m' : Str → Option Value) (nw : List (Addr × Obj)) : Prop
  | mk (H : Addr) (hs : List Value) (kh : Nat) (c3 c7 : Obj) (v3 : Option Value) (h1 : IntsAre hs zs) (lt : @LT.lt Nat _ (L + 1 + 1 + 1 + 1 + 1 + 1 + 1) H) (lt2 : @LT.lt Nat _ B H) (d3 : c3.data = .cell v3) (d7 : c7.data = .cell (some (.ref H)))
    (hnw : nw = (H, W.listOf hs.toArray kh) :: (B, W.listOf bs.toArray bs.length) :: cellsL L c1 c2 c3 c4 c5 c6 c7) (hm : ∀ y, y ≠ Str.ofString "ahead" → m' y = m y)
/-- statements 11, 12: homes -/
theorem lawA11 {w : World} {mean : ExcName → Option Value} {mg mb : Str → Option Value} {fa : Addr} {cd : Value} {g h1 : Heap} {L : Addr} {tk : Tok} {s : Shared} {B : Addr} {bs : List Value} {x d : Nat} {c1 c2 c3 c4 c5 c6 c7 : Obj} {m : Str → Option Value} {t1 : Tok} {v3 : Option Value} {Q : Flow → Shared → Prop}
   (C : Cx w mean mg mb g) (hd2 : 2 ≤ d) (hd4 : d ≤ 4) (hbs : IntsAre bs (bitsI x)) (hB : LCg.Off1 B (cellsL L c1 c2 c3 c4 c5 c6 c7)) (d1 : c1.data = .cell (some (.int (d : Int) t1))) (d3 : c3.data = .cell v3) (d7 : c7.data = .cell none)
   (F : Fr g L h1 m) (e1 : m (Str.ofString "beads") = some (.ref B))
   (N : News g L h1 ((B, W.listOf bs.toArray bs.length) :: cellsL L c1 c2 c3 c4 c5 c6 c7))
   (next : ∀ H hs kh c3 c7 v3 m' h' tk', IntsAre hs (homesI d x) → LCg.Off1 H (cellsL L c1 c2 c3 c4 c5 c6 c7) → c3.data = .cell v3 → c7.data = .cell (some (.ref H)) → (∀ y, y ≠ Str.ofString "ahead" → m' y = m y) → Fr g L h' m' → News g L h' ((H, W.listOf hs.toArray kh) :: cellsL L c1 c2 c3 c4 c5 c6 c7) → LawAt w L fa cd 13 Q { s with heap := h', toks := tk' }) :
   LawAt w L fa cd 11 Q { s with heap := h1, toks := tk } := by
  refine LawAt.cut 2 ?_
  unfold lawA lawEnv
  conv in (occs := *) lawScope => all_goals whnf
  conv in List.drop _ _ => whnf
  dsimp only [List.take]
  obtain ⟨B0, X, T⟩ := C
  revert X
  k_fill
  w_on
  intro X
  have T := T
  have hps : ∀ p_1 ∈ [(Str.ofString "beads", Value.ref B)], m p_1.1 = some p_1.2 := by simp only [List.forall_mem_cons]; exact ⟨e1, fun _ h => nomatch h⟩
  have F3 := Fr.lits F [(Str.ofString "beads", .ref B)] hps
  clear F
  simp only [LCg.Off1, and_true] at hB
  obtain ⟨b1, b2, b3, b4, b5, b6, b7⟩ := hB
  (try dsimp only)
  (try k_fold)
  k_steps
  refine For_at (by k_asm) ?_
  (try dsimp only)
  k_steps
  refine' iterI_list (items := bs.toArray) (fun i m' nw => HoJ L B bs c1 c2 c4 c5 c6 (((bitsI x).take i).map (homeF d x)) m m' nw) rfl ?hl ?hsrc ?F ?N ?J ?turn ?done
  case F => k_asm
  case N => k_asm
  case hl => exact News.isList (by k_asm) (.tail _ (.head _))
  case hsrc =>
    refine .inr ⟨W.listOf bs.toArray bs.length, ?_⟩
    rintro i m' nw ⟨H, hs, kh, c3, c7, v3, _, _, _, _, _, rfl, _⟩
    exact .tail _ (.head _)
  case J =>
    refine' ⟨_, [], 0, c3, _, v3, .nil, ?lt, ?lt2, d3, ?c7, rfl, ?m⟩
    case lt => omega
    case lt2 => omega
    case c7 => assumption
    case m =>
      intro y _
      show (if y = _ then _ else _) = _
      split
      · rename y = _ => hy
        rw [hy, e1]
      · rfl
  case done =>
    intro m₁ nw h2 tk2 hJJ F2 N2
    obtain ⟨H, hs, kh, c3, c7, v3, hhs, lt, lt2, d3, d7, rfl, hm⟩ := hJJ
    have hz : (bitsI x).take bs.toArray.size = bitsI x := List.take_of_length_le (by rw [List.size_toArray, hbs.length]; exact Nat.le_refl _)
    rw [hz] at hhs
    dsimp only
    k_steps
    refine next H hs kh c3 c7 v3 m₁ _ _ hhs ?_ d3 d7 hm F2 (News.perm N2 (by kcf_all))
    simp only [LCg.Off1, and_true]
    exact ⟨by k_ne, by k_ne, by k_ne, by k_ne, by k_ne, by k_ne, by k_ne⟩
  case turn =>
    intro i v m₁ nw I oI h2 tk2 hv hJJ F2 N2 off Tq hTq
    obtain ⟨H, hs, kh, c3, c7, v3, hhs, lt, lt2, d3, d7, rfl, hm⟩ := hJJ
    obtain ⟨z, tz, rfl, hz⟩ := IntsAre.at hbs i v (by simpa using hv)
    have e1' : m₁ (Str.ofString "beads") = some (.ref B) := (hm _ (by decide)).trans e1
    have F3 := Fr.lits F2 [(Str.ofString "beads", .ref B)] (by simp only [List.forall_mem_cons]; exact ⟨e1', fun _ h => nomatch h⟩)
    clear F2
    simp only [cellsL, List.forall_mem_cons] at off
    obtain ⟨f1, f2, f3, f4, f5, f6, f7, f8, f9, _⟩ := off
    have f1 := neN f1
    have f2 := neN f2
    have f3 := neN f3
    have f4 := neN f4
    have f5 := neN f5
    have f6 := neN f6
    have f7 := neN f7
    have f8 := neN f8
    have f9 := neN f9
    obtain ⟨q1, q2, q3, q4, q5, q6⟩ := h_lt lt
    have hlh := hhs.length
    rw [List.length_map, List.length_take] at hlh
    have hbl := bitsI_len x
    have hlz : hs.length ≤ 1000000 := by omega
    have hsz2 : bs.toArray.size = (bitsI x).length := by rw [List.size_toArray, hbs.length]
    dsimp only
    k_steps
    refine Assign_M (F₀ := by k_asm) (by rfl) (by with_unfolding_all rfl) (by with_unfolding_all rfl) (by decide) (by rfl) (by decide) (by rfl) (by rfl) (by rfl) ?_
    (try dsimp only)
    k_steps
    refine LCt.CompSrcT.ledger (by rfl) (by k_asm) (by k_asm) (.tail _ (.tail _ (.head _))) (line_up (by rw [hsz2]; exact Nat.le_trans hbl (by decide))) ?_
    intro g2
    refine restTE IntIs (fun j => decide ((bitsI x).getD j 0 < z) && decide ((z - (bitsI x).getD j 0).fmod d = 0)) (fun j => (bitsI x).getD j 0) (.inr ⟨_, .tail _ (.tail _ (.head _)), rfl, _, rfl⟩) ?_ ?_
    · rintro i2 v2 I2 oI2 C2 oC2 D2 m₃ ys h4 tk4 E4 hi2 hv2 hC2 hx2 F5 N6
      obtain ⟨y, t7, rfl, hy⟩ := IntsAre.at hbs i2 v2 (by simpa using hv2)
      have hy2 : (bitsI x).getD i2 0 = y := by rw [List.getD_eq_getElem?_getD, hy]; rfl
      rw [hy2]
      dsimp only
      k_steps
      · exact ⟨⟨_, rfl⟩, by rw [decide_eq_true (show y < z from by assumption), decide_eq_true (show (z - y).fmod (d : Int) = 0 from by assumption)]; rfl, _, rfl⟩
      · exact ⟨⟨_, rfl⟩, by rw [decide_eq_false (show ¬ (z - y).fmod (d : Int) = 0 from by assumption), Bool.and_false]⟩
      · exact ⟨⟨_, rfl⟩, by rw [decide_eq_false (show ¬ y < z from by assumption), Bool.false_and]⟩
    · intro ys hys
      rw [hsz2, range_filter_mapP (bitsI x) (fun o => decide (o < z) && decide ((z - o).fmod d = 0))] at hys
      have hys' := hys.ints
      have hal := ahead_len d x z
      rw [show ((bitsI x).filter fun o => decide (o < z) && decide ((z - o).fmod d = 0)) = aheadF d x z from rfl] at hys'
      intro D h4 tk4 F5 N6 off5
      simp only [LCg.Off1, and_true] at off5
      obtain ⟨p1, p2, p3, p4, p5, p6, p7, p8, p9, p10⟩ := off5
      dsimp only
      k_steps
      (refine' appendK ?k1 ?k2 ?k3 ?k4 ?_; (case k1 => k_asm); (case k2 => k_asm); (case k3 => k_updF); (case k4 => with_reducible assumption))
      intro _ _ _ _
      dsimp only
      k_steps
      rename News _ _ _ _ => NN
      rename Fr _ _ _ _ => FF
      refine hTq _ _ ?_
      refine' ⟨_, _, _, _, rfl, FF, ?N, ?off, _, _, _, _, _, _, ?hin, lt, lt2, ?c3, d7, rfl, ?hm⟩
      case N => exact News.perm NN (by kcf_all)
      case c3 => assumption
      case off =>
        simp only [cellsL, List.forall_mem_cons]
        exact ⟨f1, f2, f3, f4, f5, f6, f7, f8, f9, fun _ h => nomatch h⟩
      case hin =>
        rw [List.take_add_one, hz, List.map_append]
        exact IntsAre.append hhs (.cons _ _ .nil)
      case hm =>
        intro y h1
        show (if y = _ then _ else if y = _ then _ else m₁ y) = _
        rw [if_neg h1]
        split
        · rename y = _ => hy
          rw [hy, e1]
        · exact hm y h1
end Mine
end

/-! LawH -/
section
open PySem PySem.W PySem.Spec PySem.Calls PyProof.Rows
set_option maxRecDepth 100000
set_option maxHeartbeats 8000000
namespace Mine
noncomputable def powsI (r : List Bool) : List Int := ((List.range 12).filter fun i => r.getD i false).map fun (i : Nat) => (2 : Int) ^ i
noncomputable def numL (r : List Bool) : Nat := (((List.range 12).filter fun i => r.getD i false).map fun (i : Nat) => 2 ^ i).sum
theorem powsI_len (r : List Bool) : (powsI r).length ≤ 12 := by
  unfold powsI
  rw [List.length_map]
  have := List.length_filter_le (fun i => r.getD i false) (List.range 12)
  rwa [List.length_range] at this
theorem powsI_sum (r : List Bool) : (powsI r).sum = ((numL r : Nat) : Int) := by
  unfold powsI numL
  induction (List.range 12).filter fun i => r.getD i false with
  | nil => rfl
  | cons a l ih => simp only [List.map_cons, List.sum_cons, ih]; rw [← kbt_cast]; omega
local macro_rules | `(tactic| walk_at "call ref") => `(tactic| (refine stop_at ?_))
local macro_rules | `(tactic| walk_at "subscriptTail Name Name str int") => `(tactic| (refine stop_at ?_))
local macro_rules | `(tactic| walk_at "eval ListComp") => `(tactic| (refine stop_at ?_))
local macro_rules | `(tactic| walk_at "binaryOp LShift int int") => `(tactic| (refine stop_at ?_))
/-- statement 13: the words of the homes -/
theorem lawA13 {w : World} {mean : ExcName → Option Value} {mg mb : Str → Option Value} {fa : Addr} {cd : Value} {g h1 : Heap} {L : Addr} {tk : Tok} {s : Shared} {H : Addr} {hs : List Value} {kh x d : Nat} {r : List Bool} {c1 c2 c3 c4 c5 c6 c7 : Obj} {m : Str → Option Value} {t5 : Tok} {Q : Flow → Shared → Prop}
   (C : Cx w mean mg mb g) (hr : r.length = 12) (hhs : IntsAre hs (homesI d x)) (hlh : (homesI d x).length ≤ 12) (hX : numL r < 4096) (hW : flagsF (numL r) = wordsF (homesI d x)) (d5 : c5.data = .cell (some (.str (txt r) t5))) (d7 : c7.data = .cell (some (.ref H)))
   (F : Fr g L h1 m) (N : News g L h1 ((H, W.listOf hs.toArray kh) :: cellsL L c1 c2 c3 c4 c5 c6 c7))
   (next : ∀ h' tk', Fr g L h' m → News g L h' ((H, W.listOf hs.toArray kh) :: cellsL L c1 c2 c3 c4 c5 c6 c7) → LawAt w L fa cd 14 Q { s with heap := h', toks := tk' }) :
   LawAt w L fa cd 13 Q { s with heap := h1, toks := tk } := by
  refine LawAt.cut 1 ?_
  unfold lawA lawEnv
  conv in (occs := *) lawScope => all_goals whnf
  conv in List.drop _ _ => whnf
  dsimp only [List.take]
  obtain ⟨B0, X, T⟩ := C
  revert X
  k_fill
  w_on
  intro X
  have T := T
  (try dsimp only)
  (try k_fold)
  k_steps
  refine ListComp_M (F₀ := by k_asm) (by with_unfolding_all rfl) (by decide) (by rfl) (by decide) (by rfl) ?_
  (try dsimp only)
  k_steps
  refine LCt.CompSrcT.range (n := 12) (by rfl) (by k_asm) (by k_asm) (by assumption) (by decide) (by decide) (by decide) ?_
  intro g2
  refine restTE IntIs (fun i => r.getD i false) (fun i => (2 : Int) ^ i) trivial ?_ ?_
  · rintro i v I oI C oC D m₂ ys h2 tk2 E' hi ⟨t2, rfl⟩ hC hx2 F2 N2
    obtain ⟨q, hq⟩ : ∃ q : Int, 0 + (i : Int) = q := ⟨_, rfl⟩
    rw [hq] at hx2
    have hqi : q = (i : Int) := by omega
    have hq0 : 0 ≤ q := by omega
    have hq1 : q ≤ 1000000 := by omega
    have hp : (1 : Int) * 2 ^ q.toNat = 2 ^ i := by rw [Int.one_mul, hqi]; rfl
    generalize hP : (2 : Int) ^ i = P at hp ⊢
    cases ha : r.getD i false with
    | false =>
      obtain ⟨a1, a2, a3, a4⟩ := sign_at hr hqi (by omega) false ha
      simp only [Bool.false_eq_true, if_false] at a1
      dsimp only
      k_steps
      refine item_is (by with_reducible assumption) (by with_reducible assumption) (by with_reducible assumption) (by with_reducible assumption) ?_
      intro _ _
      (try dsimp only)
      k_steps
      exact ⟨⟨_, rfl⟩, rfl⟩
    | true =>
      obtain ⟨a1, a2, a3, a4⟩ := sign_at hr hqi (by omega) true ha
      simp only [if_true] at a1
      dsimp only
      k_steps
      refine item_is (by with_reducible assumption) (by with_reducible assumption) (by with_reducible assumption) (by with_reducible assumption) ?_
      intro _ _
      (try dsimp only)
      k_steps
      refine lsh_is (by decide) (by with_reducible assumption) (by with_reducible assumption) (by with_reducible assumption) ?_
      intro _ _
      (try dsimp only)
      k_steps
      exact ⟨⟨_, rfl⟩, rfl, _, rfl⟩
  · intro ys hys
    have hys' : IntsAre ys (powsI r) := hys.ints
    have hpl := powsI_len r
    intro D h2 tk2 F2 N2 off2
    dsimp only
    k_steps
    have hsum := powsI_sum r
    rw [hsum]
    rename IntsAre hs _ => hhs
    rename News _ _ _ _ => NN
    rename Fr _ _ _ _ => FF
    refine' Ctr.use (c_flags w mean mg mb (numL r) _) B0 FF NN X T rfl rfl rfl rfl hX (law_dp _ (by decide)) (law_un _ (by decide)) ?_
    rintro v tl h3 tk3 F3 N3 off3 ⟨t6, rfl⟩
    have N4 : News g L h3 ((H, W.listOf hs.toArray kh) :: cellsL L c1 c2 c3 c4 c5 c6 c7) := fun p hp => N3 p (List.mem_append_right _ (.tail _ hp))
    clear N3 off3
    dsimp only
    k_steps
    rename IntsAre hs _ => hhs
    refine' CtrL.use (c_words w mean mg mb H hs (homesI d x) kh hhs) B0 F3 N4 (by kcf_all) X T rfl rfl rfl rfl hlh (law_dp _ (by decide)) (law_un _ (by decide)) ?_
    rintro v out h4 tk4 F5 N6 off4 ⟨t7, rfl⟩
    have N7 : News g L h4 ((H, W.listOf hs.toArray kh) :: cellsL L c1 c2 c3 c4 c5 c6 c7) := fun p hp => N6 p (List.mem_append_right _ hp)
    clear N6 off4
    rw [hW]
    dsimp only
    k_steps
    · exact next _ _ F5 N7
end Mine
end

/-! Nest -/
section
open PySem PySem.W PySem.Spec PySem.Calls PyProof.Rows
set_option maxRecDepth 100000
namespace Mine
section
variable {prog : Program} {w : World} {A : Around} {E : Value → Shared → Prop} {R : Result → Shared → Prop} {s : Shared}
/-- a comprehension of two sources, the inner with a test -/
noncomputable abbrev comp2 (elt t1 i1 t2 i2 ct : Expr) (scope : Scope) (pos : Pos) : Expr := .ListComp elt [⟨t1, i1, [], 0⟩, ⟨t2, i2, [ct], 0⟩] scope pos
theorem compTurn_a (elt t1 i1 t2 i2 ct : Expr) (scope : Scope) (pos : Pos) (it acc : Value) (env : Env) :
    compTurn (comp2 elt t1 i1 t2 i2 ct scope pos) 0 it acc env = (standAt i1.pos >>= fun _ => pyNext it >>= fun r => match r with
      | none => pure (.done .next)
      | some v => letOwnedTupleGo t1 it v >>= fun _ => assign t1 env v >>= fun _ =>
        eval i2 env >>= fun x => standAt i2.pos >>= fun _ => foldedSetIterable i2 env x >>= fun x => holding [x] (pyIter x) >>= fun it2 => runOwn (.compStart (comp2 elt t1 i1 t2 i2 ct scope pos) 1 it2 acc env) env >>= fun _ =>
          again (.compLoop (comp2 elt t1 i1 t2 i2 ct scope pos) 0 it acc env)) := by rfl
theorem compTurn_b (elt t1 i1 t2 i2 ct : Expr) (scope : Scope) (pos : Pos) (it acc : Value) (env : Env) :
    compTurn (comp2 elt t1 i1 t2 i2 ct scope pos) 1 it acc env = (do
      standAt i2.pos
      match ← pyNext it with
      | none => pure (.done .next)
      | some v =>
        letOwnedTupleGo t2 it v
        assign t2 env v
        let mut ok := true
        for c in [ct] do
          if ok then ok ← isTrue c env (eval c env)
        if ok then
          (do let _ ← call (.builtin "list.append") [acc, ← eval elt env])
        again (.compLoop (comp2 elt t1 i1 t2 i2 ct scope pos) 1 it acc env)) := by rfl
theorem comp2_b {elt t1 i1 t2 i2 ct : Expr} {scope : Scope} {pos : Pos} {it acc : Value} {env : Env} (I : Nat → Shared → Prop)
    (turn : ∀ n s, I n s → wpAny (model prog w) A (pyNext it) (fun r s₁ => match r with
      | none => R (.ok .next) s₁
      | some v => wpAny (model prog w) A (assign t2 env v) (fun _ s₂ =>
          wpAny (model prog w) A (isTrue ct env (eval ct env)) (fun ok s₃ =>
            if ok = true then wpAny (model prog w) A (eval elt env) (fun x s₄ =>
              wpAny (model prog w) A (call (.builtin "list.append") [acc, x]) (fun _ s₅ => ∃ m, m < n ∧ I m s₅) (fun _ _ => False) s₄) (fun _ _ => False) s₃
            else ∃ m, m < n ∧ I m s₃) (fun _ _ => False) s₂) (fun _ _ => False) s₁) (fun _ _ => False) s)
    (n : Nat) (h : I n s) (ht : ∀ v, letOwnedTupleGo t2 it v = pure () := by intro _; rfl) :
    codeAny (model prog w) A (.compLoop (comp2 elt t1 i1 t2 i2 ct scope pos) 1 it acc env) R s := by
  refine codeAny_loop rfl I (fun n s hI => ?_) n h
  show wpAny _ A ((compTurn (comp2 elt t1 i1 t2 i2 ct scope pos) 1 it acc env).onRaise (fun x => do noteFrame x env; theTreesLotGoes x)) _ _ s
  refine wpAny_noted ?_
  rw [compTurn_b]
  refine wpAny_bind (wpAny_standAt (wpAny_bind (wpAny_mono (turn n s hI) (fun r s₁ h₁ => ?_) fun _ _ h' => h'.elim)))
  cases r with
  | none => exact wpAny_pure h₁
  | some v =>
    refine wpAny_bind (wpAny_of_eq (ht v) ?_)
    refine wpAny_bind (wpAny_mono h₁ (fun _ s₂ h₂ => wpAny_bind (wpAny_tests_one (wpAny_mono h₂ (fun ok s₃ h₃ => ?_) fun _ _ h' => h'.elim))) fun _ _ h' => h'.elim)
    cases ok with
    | false => exact wpAny_pure ⟨rfl, h₃⟩
    | true =>
      exact wpAny_bind (wpAny_bind (wpAny_mono h₃ (fun x s₄ h₄ => wpAny_bind (wpAny_mono h₄ (fun _ s₅ h₅ => wpAny_pure (wpAny_pure ⟨rfl, h₅⟩)) fun _ _ h' => h'.elim)) fun _ _ h' => h'.elim))
theorem comp2_start {elt t1 i1 t2 i2 ct : Expr} {scope : Scope} {pos : Pos} {it acc : Value} {env : Env}
    (h0 : codeAny (model prog w) A (.compLoop (comp2 elt t1 i1 t2 i2 ct scope pos) 1 it acc env) R s)
    (h : wpAny (model prog w) A (pyIter it) (fun it' s' => codeAny (model prog w) A (.compLoop (comp2 elt t1 i1 t2 i2 ct scope pos) 1 it' acc env) R s') (fun _ _ => False) s) :
    codeAny (model prog w) A (.compStart (comp2 elt t1 i1 t2 i2 ct scope pos) 1 it acc env) R s := by
  refine codeAny_of_tree ?_
  show wpAny _ _ ((compStart (comp2 elt t1 i1 t2 i2 ct scope pos) 1 it acc env).onRaise (fun x => do noteFrame x env; standAt theWindowsPlace)) _ _ s
  refine wpAny_notedAt ?_
  unfold compStart
  show wpAny _ _ (ask >>= _) _ _ s
  refine wpAny_bind (wpAny_askSetting (wpAny_ite ?_))
  split
  · first
      | exact wpAny_bind (wpAny_pure (wpAny_pure (And.intro rfl h0)))
      | exact wpAny_pure (And.intro rfl h0)
  · first
      | exact wpAny_bind (wpAny_rule (wpAny_bind (wpAny_standAt (wpAny_bind (wpAny_mono h (fun it' s' h' => wpAny_pure (And.intro rfl h')) fun _ _ x => x.elim)))))
      | (refine wpAny_bind (wpAny_rule ?_); show wpAny _ _ (standAt i2.pos >>= _) _ _ s; exact wpAny_bind (wpAny_standAt (wpAny_bind (wpAny_mono h (fun it' s' h' => wpAny_pure (And.intro rfl h')) fun _ _ x => x.elim))))
theorem comp2_a {elt t1 i1 t2 i2 ct : Expr} {scope : Scope} {pos : Pos} {it acc : Value} {env : Env} (I : Nat → Shared → Prop)
    (turn : ∀ n s, I n s → wpAny (model prog w) A (pyNext it) (fun r s₁ => match r with
      | none => R (.ok .next) s₁
      | some v => wpAny (model prog w) A (assign t1 env v) (fun _ s₂ => wpAny (model prog w) A (eval i2 env) (fun xv s₃ => wpAny (model prog w) A (pyIter xv) (fun it2 s₄ =>
          codeAny (model prog w) A (.compStart (comp2 elt t1 i1 t2 i2 ct scope pos) 1 it2 acc env) (fun r s₅ => match r with | .ok _ => ∃ m, m < n ∧ I m s₅ | .error _ => False) s₄) (fun _ _ => False) s₃)
          (fun _ _ => False) s₂) (fun _ _ => False) s₁) (fun _ _ => False) s)
    (n : Nat) (h : I n s) (ht : ∀ v, letOwnedTupleGo t1 it v = pure () := by intro _; rfl) (hf : ∀ x, foldedSetIterable i2 env x = pure x := by intro _; rfl) :
    codeAny (model prog w) A (.compLoop (comp2 elt t1 i1 t2 i2 ct scope pos) 0 it acc env) R s := by
  refine codeAny_loop rfl I (fun n s hI => ?_) n h
  show wpAny _ A ((compTurn (comp2 elt t1 i1 t2 i2 ct scope pos) 0 it acc env).onRaise (fun x => do noteFrame x env; theTreesLotGoes x)) _ _ s
  refine wpAny_noted ?_
  rw [compTurn_a]
  refine wpAny_bind (wpAny_standAt (wpAny_bind (wpAny_mono (turn n s hI) (fun r s₁ h₁ => ?_) fun _ _ h' => h'.elim)))
  cases r with
  | none => exact wpAny_pure h₁
  | some v =>
    refine wpAny_bind (wpAny_of_eq (ht v) ?_)
    refine wpAny_bind (wpAny_mono h₁ (fun _ s₂ h₂ => wpAny_bind (wpAny_mono h₂ (fun xv s₃ h₃ => wpAny_bind (wpAny_standAt (wpAny_bind (wpAny_of_eq (hf xv) (wpAny_bind (wpAny_holding (wpAny_mono h₃ (fun it2 s₄ h₄ => ?_) fun _ _ h' => h'.elim))))))) fun _ _ h' => h'.elim)) fun _ _ h' => h'.elim)
    refine wpAny_bind (wpAny_runOwn (codeAny_mono h₄ fun r s₅ h₅ => ?_))
    cases r with
    | ok f => exact wpAny_pure ⟨rfl, h₅⟩
    | error x => exact h₅.elim
end
end Mine
end

/-! Nest2 -/
section
open PySem PySem.W PySem.Spec PySem.Calls PyProof.Rows
set_option maxRecDepth 100000
namespace Mine
section
variable {prog : Program} {w : World} {A : Around} {h₀ : Heap} {L : Addr} {m : Str → Option Value} {env : Env}
/-- what stands at the inner loop's turn -/
inductive In2 (s : Shared) (h₀ : Heap) (L I I2 D C : Addr) (m : Str → Option Value) (x : Str) (tx : Tok) (oI : Obj) (i : Nat) (p : Nat → Bool) (n0 : Nat) (news : List (Addr × Obj)) (k : Nat) (s' : Shared) : Prop
  | mk (h' : Heap) (tk : Tok) (j : Nat) (ys' : List Value) (mC' : Str → Option Value) (e : s' = { s with heap := h', toks := tk }) (hj : j ≤ i) (hk : k = i + 1 - j) (hyl : ys'.length = n0 + ((List.range j).filter p).length) (hst : IsRangeIter h' I2 (0 + (j : Int) * 1) ((i : Int) - (j : Int)) 1)
    (hI : h'.get? I = some oI) (F : Fr h₀ L h' m) (hC : h'.Ns C mC') (hmx : mC' x = some (.int (i : Int) tx)) (N : News h₀ L h' ((D, LCg.lst ys') :: news))
/-- the inner loop -/
theorem inner2 {elt t1 i1 i2 ct : Expr} {x y : Str} {py : Pos} {scope : Scope} {cl : List (Str × Addr)} {pos : Pos} {s : Shared} {R : Result → Shared → Prop} {I I2 C D : Addr} {oI : Obj} {i : Nat} {tx : Tok} {mC : Str → Option Value} {ys : List Value} {news : List (Addr × Obj)} (p : Nat → Bool)
    (hh : A.handled = none) (hkind : scope.kind = .function) (hy : scope.names.lookup y = some .local) (hxy : x ≠ y) (hsz : ys.length + i ≤ 10000)
    (n1 : I ≠ I2) (n2 : C ≠ I2) (n3 : D ≠ I2) (n4 : L ≠ I2) (n5 : ∀ q ∈ news, q.1 ≠ I2) (n6 : I ≠ C) (n7 : I ≠ D) (n8 : C ≠ D) (n9 : ∀ q ∈ news, q.1 ≠ C ∧ q.1 ≠ D ∧ q.1 ≠ I) (f1 : h₀.get? I2 = none) (f2 : h₀.get? C = none) (f3 : h₀.get? D = none) (f4 : h₀.get? I = none) (l1 : I ≠ L) (l2 : C ≠ L) (l3 : D ≠ L)
    (hst : IsRangeIter s.heap I2 (0 + ((0 : Nat) : Int) * 1) ((i : Int) - ((0 : Nat) : Int)) 1) (hI : s.heap.get? I = some oI) (F : Fr h₀ L s.heap m) (hC : s.heap.Ns C mC) (hmx : mC x = some (.int (i : Int) tx)) (N : News h₀ L s.heap ((D, LCg.lst ys) :: news))
    (test : ∀ j t oC oI2 m₂ ys h tk, j < i → LCg.NsObj oC m₂ → m₂ x = some (.int (i : Int) tx) → m₂ y = some (.int (0 + (j : Int)) t) → Fr h₀ L h m → News h₀ L h ((I2, oI2) :: (I, oI) :: (C, oC) :: (D, LCg.lst ys) :: news) →
      wpAny (model prog w) A (isTrue ct (compEnvC scope cl C env) (eval ct (compEnvC scope cl C env))) (fun b s' => (∃ tk', s' = { s with heap := h, toks := tk' }) ∧ b = p j) (fun _ _ => False) { s with heap := h, toks := tk })
    (elm : ∀ j t oC oI2 m₂ ys h tk, j < i → LCg.NsObj oC m₂ → m₂ x = some (.int (i : Int) tx) → m₂ y = some (.int (0 + (j : Int)) t) → Fr h₀ L h m → News h₀ L h ((I2, oI2) :: (I, oI) :: (C, oC) :: (D, LCg.lst ys) :: news) →
      wpAny (model prog w) A (eval elt (compEnvC scope cl C env)) (fun _ s' => ∃ h' tk', s' = { s with heap := h', toks := tk' } ∧ Fr h₀ L h' m ∧ News h₀ L h' ((I2, oI2) :: (I, oI) :: (C, oC) :: (D, LCg.lst ys) :: news)) (fun _ _ => False) { s with heap := h, toks := tk })
    (done : ∀ h' tk ys' mC', ys'.length = ys.length + ((List.range i).filter p).length → h'.get? I = some oI → Fr h₀ L h' m → h'.Ns C mC' → News h₀ L h' ((D, LCg.lst ys') :: news) → R (.ok .next) { s with heap := h', toks := tk }) :
    codeAny (model prog w) A (.compStart (comp2 elt t1 i1 (.Name y py) i2 ct scope pos) 1 (.ref I2) (.ref D) (compEnvC scope cl C env)) R s := by
  have W := LCg.range_walks (prog := prog) (w := w) (A := A) (I := I2) hh 0 i
  have loop : codeAny (model prog w) A (.compLoop (comp2 elt t1 i1 (.Name y py) i2 ct scope pos) 1 (.ref I2) (.ref D) (compEnvC scope cl C env)) R s := by
    refine comp2_b (In2 s h₀ L I I2 D C m x tx oI i p ys.length news) ?_ (i + 1) ⟨s.heap, s.toks, 0, ys, mC, rfl, Nat.zero_le _, rfl, by simp, hst, hI, F, hC, hmx, N⟩
    rintro k s' ⟨h', tk, j, ys', mC', rfl, hj, rfl, hyl, hst', hI', F', hC', hmx', N'⟩
    by_cases hlt : j < i
    · refine W.item j _ _ _ hlt hst' fun v h₂ tk₂ hPv hst₂ hk₂ => ?_
      obtain ⟨t, rfl⟩ := hPv
      have F₂ : Fr h₀ L h₂ m := LCg.fr_but F' hk₂ n4 f1
      have N₂ : News h₀ L h₂ ((D, LCg.lst ys') :: news) := LCg.news_but N' hk₂ fun q hq => by
        rcases List.mem_cons.mp hq with rfl | hq
        · exact n3
        · exact n5 q hq
      have hI₂ : h₂.get? I = some oI := hk₂ _ _ (by simpa using n1) hI'
      refine wpAny_assign_Name (wpAny_storeName_local (lookup_relabel_local hy) (hC'.at' fun o e => hk₂ _ o (by simpa using n2) e) (fun h₃ hn₃ hs₃ => ?_) (by simp [compEnvC, relabel, hkind]))
      have hs₃ : Heap.SameBut C h₂ h₃ := hs₃
      have hst₃ : IsRangeIter h₃ I2 (0 + ((j + 1 : Nat) : Int) * 1) ((i : Int) - ((j + 1 : Nat) : Int)) 1 := hs₃.extBut _ _ (Ne.symm n2) hst₂
      obtain ⟨oC, heC, hoC⟩ := LCg.ns_obj hn₃
      have F₃ : Fr h₀ L h₃ m := F₂.change hs₃ l2 f2
      have hI₃ : h₃.get? I = some oI := hs₃.extBut _ _ n6 hI₂
      obtain ⟨oI2, heI2⟩ : ∃ o, h₃.get? I2 = some o := ⟨_, hst₃⟩
      have N₃ : News h₀ L h₃ ((I2, oI2) :: (I, oI) :: (C, oC) :: (D, LCg.lst ys') :: news) := fun q hq => by
        rcases List.mem_cons.mp hq with rfl | hq
        · exact ⟨heI2, Ne.symm n4, f1⟩
        rcases List.mem_cons.mp hq with rfl | hq
        · exact ⟨hI₃, l1, f4⟩
        rcases List.mem_cons.mp hq with rfl | hq
        · exact ⟨heC, l2, f2⟩
        · refine ⟨hs₃.extBut _ _ ?_ (N₂ q hq).1, (N₂ q hq).2⟩
          rcases List.mem_cons.mp hq with rfl | hq
          · exact Ne.symm n8
          · exact (n9 q hq).1
      have hx₃ : (fun z => if z = y then some (Value.int (0 + (j : Int)) t) else mC' z) x = some (.int (i : Int) tx) := by
        show (if x = y then _ else _) = _
        rw [if_neg hxy]; exact hmx'
      refine wpAny_mono (test j t oC oI2 _ ys' h₃ _ hlt hoC hx₃ (by simp) F₃ N₃) (fun b s₃ h₃' => ?_) fun _ _ e => e
      obtain ⟨⟨tk₃, rfl⟩, hb⟩ := h₃'
      cases hpj : p j with
      | false =>
        rw [hpj] at hb
        subst hb
        simp only [Bool.false_eq_true, if_false]
        refine ⟨i + 1 - (j + 1), by omega, h₃, tk₃, j + 1, ys', _, rfl, hlt, rfl, ?_, hst₃, hI₃, F₃, hn₃, hx₃, fun q hq => N₃ q (.tail _ (.tail _ (.tail _ hq)))⟩
        rw [List.range_succ, List.filter_append, hyl]
        simp [hpj]
      | true =>
        rw [hpj] at hb
        subst hb
        simp only [if_true]
        refine wpAny_mono (elm j t oC oI2 _ ys' h₃ tk₃ hlt hoC hx₃ (by simp) F₃ N₃) (fun v s₄ h₄ => ?_) fun _ _ e => e
        obtain ⟨h₄, tk₄, rfl, F₄, N₄⟩ := h₄
        have zI2 := (N₄ (I2, oI2) (.head _)).1
        have zI := (N₄ (I, oI) (.tail _ (.head _))).1
        have zC := (N₄ (C, oC) (.tail _ (.tail _ (.head _)))).1
        have zD := (N₄ (D, LCg.lst ys') (.tail _ (.tail _ (.tail _ (.head _))))).1
        have hle : ((List.range j).filter p).length ≤ j := by
          have := List.length_filter_le p (List.range j); rwa [List.length_range] at this
        refine append_at (hsz := by show ys'.toArray.size ≤ sizeLine; rw [List.size_toArray, sizeLine_eq]; omega) zD fun h₅ hs₅ hD₅ => ?_
        have hst₄ : IsRangeIter h₄ I2 (0 + ((j + 1 : Nat) : Int) * 1) ((i : Int) - ((j + 1 : Nat) : Int)) 1 := by
          have e : oI2 = _ := Option.some.inj (heI2.symm.trans hst₃)
          rw [e] at zI2; exact zI2
        refine ⟨i + 1 - (j + 1), by omega, h₅, tk₄, j + 1, ys' ++ [v], _, rfl, hlt, rfl, ?_, hs₅.extBut _ _ (Ne.symm n3) hst₄, hs₅.extBut _ _ n7 zI, F₄.change hs₅ l3 f3, (hoC.ns zC).sameBut hs₅ n8, hx₃, fun q hq => ?_⟩
        · rw [List.range_succ, List.filter_append, List.length_append, List.length_append, hyl]
          simp [hpj]; omega
        · rcases List.mem_cons.mp hq with rfl | hq
          · exact ⟨hD₅.trans (congrArg some (LCg.lst_snoc ys' v)), l3, f3⟩
          · have z := N₄ q (.tail _ (.tail _ (.tail _ (.tail _ hq))))
            exact ⟨hs₅.extBut _ _ (n9 q hq).2.1 z.1, z.2⟩
    · obtain rfl : j = i := Nat.le_antisymm hj (Nat.not_lt.mp hlt)
      refine W.done _ _ _ hst' fun h₂ tk₂ hk₂ => ?_
      refine done h₂ tk₂ ys' mC' hyl (hk₂ _ _ (by simpa using n1) hI') (LCg.fr_but F' hk₂ n4 f1) (hC'.at' fun o e => hk₂ _ o (by simpa using n2) e) (LCg.news_but N' hk₂ fun q hq => ?_)
      rcases List.mem_cons.mp hq with rfl | hq
      · exact n3
      · exact n5 q hq
  exact comp2_start loop (W.self 0 _ _ _ hst loop)
end
end Mine
end

/-! Nest3 -/
section
open PySem PySem.W PySem.Spec PySem.Calls PyProof.Rows
set_option maxRecDepth 100000
namespace Mine
/-- how many pairs -/
noncomputable def cnt2 (p : Nat → Nat → Bool) : Nat → Nat
  | 0 => 0
  | n + 1 => cnt2 p n + ((List.range n).filter (p n)).length
theorem cnt2_s (p : Nat → Nat → Bool) (n : Nat) : cnt2 p (n + 1) = cnt2 p n + ((List.range n).filter (p n)).length := rfl
/-- what stands at the outer loop's turn -/
inductive In3 (s₂ : Shared) (h₀ : Heap) (L I D C : Addr) (m : Str → Option Value) (n : Nat) (p : Nat → Nat → Bool) (news : List (Addr × Obj)) (k : Nat) (s' : Shared) : Prop
  | mk (h' : Heap) (tk : Tok) (i : Nat) (ys : List Value) (m' : Str → Option Value) (e : s' = { s₂ with heap := h', toks := tk }) (hi : i ≤ n) (hk : k = n + 1 - i) (hyl : ys.length = cnt2 p i) (hst : IsRangeIter h' I (0 + (i : Int) * 1) ((n : Int) - (i : Int)) 1)
    (F : Fr h₀ L h' m) (hn : h'.Ns C m') (N : News h₀ L h' ((D, LCg.lst ys) :: news))
theorem cnt2_le (p : Nat → Nat → Bool) : ∀ n, cnt2 p n ≤ n * n
  | 0 => Nat.le_refl _
  | n + 1 => by
    have h1 := cnt2_le p n
    have h2 := List.length_filter_le (p n) (List.range n)
    rw [List.length_range] at h2
    simp only [cnt2_s, Nat.add_mul, Nat.mul_add, Nat.one_mul, Nat.mul_one]; omega
section
variable {prog : Program} {w : World} {A : Around} {h₀ : Heap} {L : Addr} {m : Str → Option Value} {env : Env} {E : Value → Shared → Prop}
theorem block2 {elt i1 i2 ct : Expr} {x y : Str} {px py : Pos} {scope : Scope} {cl : List (Str × Addr)} {pos : Pos} {s₂ : Shared} {I : Addr} {n : Nat} {news : List (Addr × Obj)} {RR : Value → Addr → Result → Shared → Prop} (p : Nat → Nat → Bool)
    (hh : A.handled = none) (hsz : n ≤ 50) (hcell : ∀ y ∈ scope.names, y.2 ≠ .cell) (hkind : scope.kind = .function) (hx : scope.names.lookup x = some .local) (hy : scope.names.lookup y = some .local) (hxy : x ≠ y)
    (hst : IsRangeIter s₂.heap I (0 + ((0 : Nat) : Int) * 1) ((n : Int) - ((0 : Nat) : Int)) 1) (hIlt : I < s₂.heap.objs.size)
    (F : Fr h₀ L s₂.heap m) (N : News h₀ L s₂.heap news) (hIL : L ≠ I) (hI₀ : h₀.get? I = none) (off : ∀ q ∈ news, q.1 ≠ I)
    (src : ∀ i t oC oI m₂ ys C D h tk, i < n → LCg.NsObj oC m₂ → m₂ x = some (.int (0 + (i : Int)) t) → Fr h₀ L h m → News h₀ L h ((I, oI) :: (C, oC) :: (D, LCg.lst ys) :: news) →
      wpAny (model prog w) A (eval i2 (compEnvC scope cl C env)) (fun xv s' => ∃ r u1 u2 u3 h' tk', xv = .ref r ∧ s' = { s₂ with heap := h', toks := tk' } ∧ Fr h₀ L h' m ∧ News h₀ L h' ((I, oI) :: (C, oC) :: (D, LCg.lst ys) :: news) ∧ IsRange h' r 0 (i : Int) 1 u1 u2 u3) (fun _ _ => False) { s₂ with heap := h, toks := tk })
    (test : ∀ i j ti tj oC oI oI2 m₂ ys I2 C D h tk, i < n → j < i → LCg.NsObj oC m₂ → m₂ x = some (.int (i : Int) ti) → m₂ y = some (.int (0 + (j : Int)) tj) → Fr h₀ L h m → News h₀ L h ((I2, oI2) :: (I, oI) :: (C, oC) :: (D, LCg.lst ys) :: news) →
      wpAny (model prog w) A (isTrue ct (compEnvC scope cl C env) (eval ct (compEnvC scope cl C env))) (fun b s' => (∃ tk', s' = { s₂ with heap := h, toks := tk' }) ∧ b = p i j) (fun _ _ => False) { s₂ with heap := h, toks := tk })
    (elm : ∀ i j ti tj oC oI oI2 m₂ ys I2 C D h tk, i < n → j < i → LCg.NsObj oC m₂ → m₂ x = some (.int (i : Int) ti) → m₂ y = some (.int (0 + (j : Int)) tj) → Fr h₀ L h m → News h₀ L h ((I2, oI2) :: (I, oI) :: (C, oC) :: (D, LCg.lst ys) :: news) →
      wpAny (model prog w) A (eval elt (compEnvC scope cl C env)) (fun _ s' => ∃ h' tk', s' = { s₂ with heap := h', toks := tk' } ∧ Fr h₀ L h' m ∧ News h₀ L h' ((I2, oI2) :: (I, oI) :: (C, oC) :: (D, LCg.lst ys) :: news)) (fun _ _ => False) { s₂ with heap := h, toks := tk })
    (hRR : ∀ D C h tk m' ys, Fr h₀ L h m → News h₀ L h ((D, LCg.lst ys) :: news) → LCg.Off1 D news → h.Ns C m' → h₀.get? C = none → h₀.get? D = none → C ≠ L → D ≠ L → C ≠ D → (∀ q ∈ news, q.1 ≠ C) → ys.length = cnt2 p n → RR (.ref D) C (.ok .next) { s₂ with heap := h, toks := tk })
    (hf2 : ∀ C v, foldedSetIterable i2 (compEnvC scope cl C env) v = pure v) :
    wpAny (model prog w) A (newList []) (fun acc s₃ => wpAny (model prog w) A (newFunctionEnv scope env.globals cl [] env.qual none .none (some env)) (fun cenv s₄ =>
      codeAny (model prog w) A (.compStart (comp2 elt (.Name x px) i1 (.Name y py) i2 ct scope pos) 0 (.ref I) acc { cenv with scope := relabel scope env }) (RR acc cenv.locals) s₄) E s₃) E s₂ := by
  refine wpAny_newObj_type (wpAny_newFunctionEnv hcell (by intro y hy; simp at hy) (fun h₁ hns₁ hsb₁ => ?_) hkind)
  dsimp only at hns₁ hsb₁ ⊢
  generalize hH2 : s₂.heap.push { cls := .type "list", dict := none, data := .seq ([] : List Value).toArray } = H2 at hns₁ hsb₁ ⊢
  have hC : H2.objs.size = s₂.heap.objs.size + 1 := by rw [← hH2, Heap.size_push]
  have hDC : s₂.heap.objs.size ≠ H2.objs.size := by rw [hC]; exact Nat.ne_of_lt (Nat.lt_succ_self _)
  have below : ∀ b, b < s₂.heap.objs.size → b ≠ H2.objs.size ∧ b ≠ s₂.heap.objs.size := fun b hb => ⟨by rw [hC]; exact Nat.ne_of_lt (Nat.lt_succ_of_lt hb), Nat.ne_of_lt hb⟩
  have old : ∀ b o, s₂.heap.get? b = some o → h₁.get? b = some o := fun b o e => hsb₁.extBut b o (below b (Heap.lt_size e)).1 (Heap.get?_push_of_some _ (hH2 ▸ Heap.get?_push_of_some _ e))
  have hacc : h₁.get? s₂.heap.objs.size = some (LCg.lst []) := hsb₁.extBut _ _ hDC (Heap.get?_push_of_some _ (hH2 ▸ Heap.get?_push_size _ rfl))
  have fresh₀ : ∀ a, s₂.heap.objs.size ≤ a → h₀.get? a = none := fun a ha => by
    cases e : h₀.get? a with
    | none => rfl
    | some o' =>
      have h5 := F.keep a o' e
      exact absurd (Heap.lt_size h5) (Nat.not_lt.mpr ha)
  have hD₀ : h₀.get? s₂.heap.objs.size = none := fresh₀ _ (Nat.le_refl _)
  have hC₀ : h₀.get? H2.objs.size = none := fresh₀ _ (by rw [hC]; exact Nat.le_succ _)
  have hLlt : L < s₂.heap.objs.size := F.ns.lt
  have hDL : s₂.heap.objs.size ≠ L := Ne.symm (below L hLlt).2
  have hCL : H2.objs.size ≠ L := Ne.symm (below L hLlt).1
  have hCI : I ≠ H2.objs.size := (below I hIlt).1
  have hDI : I ≠ s₂.heap.objs.size := (below I hIlt).2
  have offN : ∀ q ∈ news, q.1 ≠ H2.objs.size ∧ q.1 ≠ s₂.heap.objs.size ∧ q.1 ≠ I := fun q hq => ⟨(below _ (Heap.lt_size (N q hq).1)).1, (below _ (Heap.lt_size (N q hq).1)).2, off q hq⟩
  have offD : LCg.Off1 s₂.heap.objs.size news := LCg.Off3.one (LCg.Off3.of (I := I) (C := H2.objs.size) fun q hq => ⟨off q hq, (offN q hq).1, (offN q hq).2.1⟩)
  have W := LCg.range_walks (prog := prog) (w := w) (A := A) (I := I) hh 0 n
  have hst₁ : IsRangeIter h₁ I (0 + ((0 : Nat) : Int) * 1) ((n : Int) - ((0 : Nat) : Int)) 1 := old _ _ hst
  generalize hDe : s₂.heap.objs.size = D at *
  generalize hCe : H2.objs.size = C at *
  have N₁ : News h₀ L h₁ ((D, LCg.lst []) :: news) := fun q hq => by
    rcases List.mem_cons.mp hq with rfl | hq
    · exact ⟨hacc, hDL, hD₀⟩
    · exact ⟨old _ _ (N q hq).1, (N q hq).2⟩
  have loop : ∀ s₃ : Shared, s₃ = { s₂ with heap := h₁, toks := s₂.toks + ([] : List (Str × Value)).length } →
      codeAny (model prog w) A (.compLoop (comp2 elt (.Name x px) i1 (.Name y py) i2 ct scope pos) 0 (.ref I) (.ref D) (compEnvC scope cl C env)) (RR (.ref D) C) s₃ := by
    rintro s₃ rfl
    refine comp2_a (hf := hf2 C) (In3 s₂ h₀ L I D C m n p news) ?_ (n + 1)
      ⟨h₁, _, 0, [], _, rfl, Nat.zero_le _, rfl, rfl, hst₁, F.keeps old, hns₁, N₁⟩
    rintro k s' ⟨h', tk, i, ys, m', rfl, hi, rfl, hyl, hst', F', hn', N'⟩
    by_cases hlt : i < n
    · refine W.item i _ _ _ hlt hst' fun v h₂ tk₂ hPv hst₂ hk₂ => ?_
      obtain ⟨t, rfl⟩ := hPv
      have F₂ : Fr h₀ L h₂ m := LCg.fr_but F' hk₂ hIL hI₀
      have N₂ : News h₀ L h₂ ((D, LCg.lst ys) :: news) := LCg.news_but N' hk₂ fun q hq => by
        rcases List.mem_cons.mp hq with rfl | hq
        · exact Ne.symm hDI
        · exact off q hq
      refine wpAny_assign_Name (wpAny_storeName_local (lookup_relabel_local hx) (hn'.at' fun o e => hk₂ _ o (by simpa using Ne.symm hCI) e) (fun h₃ hn₃ hs₃ => ?_) (by simp [compEnvC, relabel, hkind]))
      have hs₃ : Heap.SameBut C h₂ h₃ := hs₃
      have hst₃ : IsRangeIter h₃ I (0 + ((i + 1 : Nat) : Int) * 1) ((n : Int) - ((i + 1 : Nat) : Int)) 1 := hs₃.extBut _ _ hCI hst₂
      obtain ⟨oC, heC, hoC⟩ := LCg.ns_obj hn₃
      have F₃ : Fr h₀ L h₃ m := F₂.change hs₃ hCL hC₀
      obtain ⟨oI, heI, hoI⟩ : ∃ o, h₃.get? I = some o ∧ ∀ h', h'.get? I = some o → IsRangeIter h' I (0 + ((i + 1 : Nat) : Int) * 1) ((n : Int) - ((i + 1 : Nat) : Int)) 1 := ⟨_, hst₃, fun _ e => e⟩
      have N₃ : News h₀ L h₃ ((I, oI) :: (C, oC) :: (D, LCg.lst ys) :: news) := fun q hq => by
        rcases List.mem_cons.mp hq with rfl | hq
        · exact ⟨heI, Ne.symm hIL, hI₀⟩
        rcases List.mem_cons.mp hq with rfl | hq
        · exact ⟨heC, hCL, hC₀⟩
        · refine ⟨hs₃.extBut _ _ ?_ (N₂ q hq).1, (N₂ q hq).2⟩
          rcases List.mem_cons.mp hq with rfl | hq
          · exact hDC
          · exact (offN q hq).1
      refine wpAny_mono (src i t oC oI _ ys C D h₃ _ hlt hoC (by simp) F₃ N₃) (fun xv s₄ h₄ => ?_) fun _ _ e => e
      obtain ⟨r, u1, u2, u3, h₄, tk₄, rfl, rfl, F₄, N₄, hr⟩ := h₄
      have hrs : Builtin.Range.rangeSize 0 (i : Int) 1 = (i : Int) := rsize_up i
      refine wpAny_pyIter_range hr (small_up (by omega)) ?_
      have lt4 : ∀ q ∈ (I, oI) :: (C, oC) :: (D, LCg.lst ys) :: news, q.1 ≠ h₄.objs.size := fun q hq => Nat.ne_of_lt (Heap.lt_size (N₄ q hq).1)
      have up : ∀ b o, h₄.get? b = some o → (h₄.push { cls := .type "range_iterator", data := .fields #[rawInt 0, rawInt (Builtin.Range.rangeSize 0 (i : Int) 1), rawInt 1] }).get? b = some o := fun b o e => Heap.get?_push_of_some _ e
      have f4 : h₀.get? h₄.objs.size = none := by
        cases e : h₀.get? h₄.objs.size with
        | none => rfl
        | some o' => exact absurd (Heap.lt_size (F₄.keep _ _ e)) (Nat.lt_irrefl _)
      have hcl := cnt2_le p i
      have hii : i * i ≤ 50 * 50 := Nat.mul_le_mul (by omega) (by omega)
      refine inner2 (p i) hh hkind hy hxy (by omega) (lt4 _ (.head _)) (lt4 _ (.tail _ (.head _))) (lt4 _ (.tail _ (.tail _ (.head _)))) (Nat.ne_of_lt F₄.ns.lt) (fun q hq => lt4 q (.tail _ (.tail _ (.tail _ hq)))) hCI hDI (Ne.symm hDC) offN f4 hC₀ hD₀ hI₀ (Ne.symm hIL) hCL hDL
        (mC := _) (tx := t) ?_ (up _ _ (N₄ _ (.head _)).1) (F₄.keeps up) ((hoC.ns (N₄ _ (.tail _ (.head _))).1).at' fun o e => up _ _ e) ?_ (fun q hq => ⟨up _ _ (N₄ q (.tail _ (.tail _ hq))).1, (N₄ q (.tail _ (.tail _ hq))).2⟩)
        (fun j tj oC oI2 m₂ ys h tk hj => test i j t tj oC oI oI2 m₂ ys _ C D h tk hlt hj) (fun j tj oC oI2 m₂ ys h tk hj => elm i j t tj oC oI oI2 m₂ ys _ C D h tk hlt hj) ?_
      · show (Heap.push _ _).get? _ = _
        rw [hrs]
        simpa using Heap.get?_push_size _ rfl
      · simp
      · intro h₆ tk₆ ys₆ m₆ hl₆ hI₆ F₆ hn₆ N₆
        exact ⟨n + 1 - (i + 1), by omega, h₆, tk₆, i + 1, ys₆, m₆, rfl, hlt, rfl, by rw [hl₆, hyl]; rfl, hoI _ hI₆, F₆, hn₆, N₆⟩
    · obtain rfl : i = n := Nat.le_antisymm hi (Nat.not_lt.mp hlt)
      refine W.done _ _ _ hst' fun h₂ tk₂ hk₂ => ?_
      exact hRR D C h₂ tk₂ m' ys (LCg.fr_but F' hk₂ hIL hI₀) (LCg.news_but N' hk₂ fun q hq => by
        rcases List.mem_cons.mp hq with rfl | hq
        · exact Ne.symm hDI
        · exact off q hq) offD (hn'.at' fun o e => hk₂ _ o (by simpa using Ne.symm hCI) e) hC₀ hD₀ hCL hDL (Ne.symm hDC) (fun q hq => (offN q hq).1) hyl
  exact codeAny_compStart_list (loop _ rfl) (W.self 0 _ _ _ hst₁ (loop _ rfl))
end
end Mine
end

/-! Nest4 -/
section
open PySem PySem.W PySem.Spec PySem.Calls PyProof.Rows
set_option maxRecDepth 100000
namespace Mine
section
variable {prog : Program} {w : World} {A : Around} {h₀ : Heap} {L : Addr} {m : Str → Option Value} {env : Env} {E : Value → Shared → Prop} {s : Shared}
/-- the outer source at hand: a range from 0 -/
inductive Src2 (prog : Program) (w : World) (A : Around) (h₀ : Heap) (L : Addr) (m : Str → Option Value) (env : Env) (elt i2 ct : Expr) (x y : Str) (scope : Scope) (cl : List (Str × Addr)) (z : Str) (Q : Flow → Shared → Prop) (xv : Value) (s₁ : Shared) : Prop
  | mk (r : Addr) (t u v : Tok) (n : Nat) (news : List (Addr × Obj)) (p : Nat → Nat → Bool) (hx : xv = .ref r) (hh : A.handled = none) (F : Fr h₀ L s₁.heap m) (N : News h₀ L s₁.heap news) (hr : IsRange s₁.heap r 0 ((n : Nat) : Int) 1 t u v) (hn : n ≤ 50)
    (src : ∀ i t oC oI m₂ ys I C D h tk, i < n → LCg.NsObj oC m₂ → m₂ x = some (.int (0 + (i : Int)) t) → Fr h₀ L h m → News h₀ L h ((I, oI) :: (C, oC) :: (D, LCg.lst ys) :: news) →
      wpAny (model prog w) A (eval i2 (compEnvC scope cl C env)) (fun xv s' => ∃ r u1 u2 u3 h' tk', xv = .ref r ∧ s' = { s₁ with heap := h', toks := tk' } ∧ Fr h₀ L h' m ∧ News h₀ L h' ((I, oI) :: (C, oC) :: (D, LCg.lst ys) :: news) ∧ IsRange h' r 0 (i : Int) 1 u1 u2 u3) (fun _ _ => False) { s₁ with heap := h, toks := tk })
    (test : ∀ i j ti tj oC oI oI2 m₂ ys I2 I C D h tk, i < n → j < i → LCg.NsObj oC m₂ → m₂ x = some (.int (i : Int) ti) → m₂ y = some (.int (0 + (j : Int)) tj) → Fr h₀ L h m → News h₀ L h ((I2, oI2) :: (I, oI) :: (C, oC) :: (D, LCg.lst ys) :: news) →
      wpAny (model prog w) A (isTrue ct (compEnvC scope cl C env) (eval ct (compEnvC scope cl C env))) (fun b s' => (∃ tk', s' = { s₁ with heap := h, toks := tk' }) ∧ b = p i j) (fun _ _ => False) { s₁ with heap := h, toks := tk })
    (elm : ∀ i j ti tj oC oI oI2 m₂ ys I2 I C D h tk, i < n → j < i → LCg.NsObj oC m₂ → m₂ x = some (.int (i : Int) ti) → m₂ y = some (.int (0 + (j : Int)) tj) → Fr h₀ L h m → News h₀ L h ((I2, oI2) :: (I, oI) :: (C, oC) :: (D, LCg.lst ys) :: news) →
      wpAny (model prog w) A (eval elt (compEnvC scope cl C env)) (fun _ s' => ∃ h' tk', s' = { s₁ with heap := h', toks := tk' } ∧ Fr h₀ L h' m ∧ News h₀ L h' ((I2, oI2) :: (I, oI) :: (C, oC) :: (D, LCg.lst ys) :: news)) (fun _ _ => False) { s₁ with heap := h, toks := tk })
    (fin : ∀ D h tk ys, Fr h₀ L h (fun a => if a = z then some (.ref D) else m a) → News h₀ L h ((D, LCg.lst ys) :: news) → LCg.Off1 D news → ys.length = cnt2 p n → Q .next { s₁ with heap := h, toks := tk })
theorem Assign_2 {elt i1 i2 ct : Expr} {x y z : Str} {px py pz : Pos} {scope : Scope} {cl : List (Str × Addr)} {pos spos : Pos} {Q : Flow → Shared → Prop} (_F₀ : Fr h₀ L s.heap m) (hLe : env.locals = L)
    (hsw : swapsWith (comp2 elt (.Name x px) i1 (.Name y py) i2 ct scope pos) (some (.Name z pz)) spos.line env = pure true)
    (hclos : closureFor scope env = pure cl) (hcell : ∀ z ∈ scope.names, z.2 ≠ .cell) (hkind : scope.kind = .function)
    (hnames : ∀ z ∈ scope.names, z.2 = .local → scope.names.lookup z.1 = some .local) (hx : scope.names.lookup x = some .local) (hy : scope.names.lookup y = some .local) (hxy : x ≠ y)
    (hz : env.kindOf z = some .local) (hp : (env.scope.kind == .class || (env.scope.kind == .module && env.locals != env.globals)) = false)
    (hf2 : ∀ C v, foldedSetIterable i2 (compEnvC scope cl C env) v = pure v)
    (h : wpAny (model prog w) A (eval i1 env) (Src2 prog w A h₀ L m env elt i2 ct x y scope cl z Q) E s)
    (hs : ∀ x, foldedSetIterable i1 env x = pure x := by intro _; rfl) :
    wpAny (model prog w) A (exec (.Assign [.Name z pz] (comp2 elt (.Name x px) i1 (.Name y py) i2 ct scope pos) spos) env) Q E s := by
  subst hLe
  rw [exec_Assign_Name_used _ _ _ _ hsw]
  refine wpAny_bind (wpAny_standAt (wpAny_bind ?_))
  show wpAny _ A (do let _ ← comprehension (comp2 elt (.Name x px) i1 (.Name y py) i2 ct scope pos) scope env _ (newList []) false (eval i1 env) (some (assign (.Name z pz) env))) _ _ s
  refine wpAny_bind (wpAny_mono (wpAny_comprehension_free (use := some (assign (.Name z pz) env)) (Q := fun _ s' => Q .next s') rfl hs hclos hkind hnames
    (wpAny_mono h (fun xv s₁ h₁ => ?_) fun _ _ e => e)) (fun _ s' hq => wpAny_pure (wpAny_pure hq)) fun _ _ e => e)
  obtain ⟨r, t, u, v, n, news, p, rfl, hh, F, N, hr, hn, src, test, elm, fin⟩ := h₁
  refine wpAny_pyIter_range hr (small_up (by omega)) ?_
  have up : ∀ b o, s₁.heap.get? b = some o → (s₁.heap.push { cls := .type "range_iterator", data := .fields #[rawInt 0, rawInt (Builtin.Range.rangeSize 0 (n : Int) 1), rawInt 1] }).get? b = some o := fun b o e => Heap.get?_push_of_some _ e
  refine block2 p hh hn hcell hkind hx hy hxy (by show IsRangeIter _ _ _ _ _; rw [rsize_up]; simpa using Heap.get?_push_size _ rfl) (by rw [Heap.size_push]; exact Nat.lt_succ_self _) (F.keeps up) (N.grown up) (Nat.ne_of_lt F.ns.lt) (next_is_new F) (fun q hq => Nat.ne_of_lt (Heap.lt_size (N q hq).1))
    (fun i t oC oI m₂ ys C D h tk => src i t oC oI m₂ ys _ C D h tk) (fun i j ti tj oC oI oI2 m₂ ys I2 C D h tk => test i j ti tj oC oI oI2 m₂ ys I2 _ C D h tk) (fun i j ti tj oC oI oI2 m₂ ys I2 C D h tk => elm i j ti tj oC oI oI2 m₂ ys I2 _ C D h tk) ?_ hf2
  intro D C h' tk m' ys F' N' o1 hn hC₀ hD₀ hCL hDL hCD offC hlen
  show wpAny _ A (assign (.Name z pz) env (.ref D)) _ _ _
  refine wpAny_assign_Name (wpAny_storeName_local hz F'.ns (fun h₂ hn₂ hs₂ => ?_) hp)
  have hL₀ : h₀.get? env.locals = none := Heap.get?_none_of_le F'.above
  have F₂ : Fr h₀ env.locals h₂ (fun a => if a = z then some (.ref D) else m a) := ⟨hn₂, fun b o e => hs₂.extBut b o (fun q => by rw [q, hL₀] at e; cases e) (F'.keep b o e), F'.above⟩
  refine ⟨m', hn.sameBut hs₂ hCL, fun h'' hs'' => ?_⟩
  refine fin D h'' _ ys (F₂.change hs'' hCL hC₀) (fun q hq => ?_) o1 hlen
  · have z : h₂.get? q.1 = some q.2 := hs₂.extBut _ _ (N' q hq).2.1 (N' q hq).1
    refine ⟨hs''.extBut _ _ ?_ z, (N' q hq).2⟩
    rcases List.mem_cons.mp hq with rfl | hq
    · exact Ne.symm hCD
    · exact offC q hq
end
end Mine
end

/-! LawP -/
section
open PySem PySem.W PySem.Spec PySem.Calls PyProof.Rows
set_option maxRecDepth 100000
set_option maxHeartbeats 8000000
namespace Mine
/-- how many pairs of homes stand crossed -/
noncomputable def crossF (l : List Int) : Nat := cnt2 (fun i j => decide (l.getD i 0 < l.getD j 0)) l.length
noncomputable def Stop2 (prog : Program) (w : World) (A : Around) (h₀ : Heap) (L : Addr) (m : Str → Option Value) (env : Env) (elt i2 ct : Expr) (x y : Str) (scope : Scope) (cl : List (Str × Addr)) (z : Str) (Q : Flow → Shared → Prop) (xv : Value) (s₁ : Shared) : Prop :=
  Src2 prog w A h₀ L m env elt i2 ct x y scope cl z Q xv s₁
/-- statement 14: crossed -/
theorem lawA14 {w : World} {mean : ExcName → Option Value} {mg mb : Str → Option Value} {fa : Addr} {cd : Value} {g h1 : Heap} {L : Addr} {tk : Tok} {s : Shared} {H : Addr} {hs : List Value} {kh : Nat} {hl : List Int} {c1 c2 c3 c4 c5 c6 c7 : Obj} {m : Str → Option Value} {Q : Flow → Shared → Prop}
   (C : Cx w mean mg mb g) (hhs : IntsAre hs hl) (hlh : hl.length ≤ 12) (d7 : c7.data = .cell (some (.ref H)))
   (F : Fr g L h1 m) (N : News g L h1 ((H, W.listOf hs.toArray kh) :: cellsL L c1 c2 c3 c4 c5 c6 c7))
   (next : ∀ D ys h' tk', ys.length = crossF hl → Fr g L h' (fun y => if y = Str.ofString "crossed" then some (.ref D) else m y) → News g L h' ((D, LCg.lst ys) :: cellsL L c1 c2 c3 c4 c5 c6 c7) → LawAt w L fa cd 15 Q { s with heap := h', toks := tk' }) :
   LawAt w L fa cd 14 Q { s with heap := h1, toks := tk } := by
  refine LawAt.cut 1 ?_
  unfold lawA lawEnv
  conv in (occs := *) lawScope => all_goals whnf
  conv in List.drop _ _ => whnf
  dsimp only [List.take]
  obtain ⟨B0, X, T⟩ := C
  revert X
  k_fill
  w_on
  intro X
  have T := T
  (try dsimp only)
  (try k_fold)
  refine wpAny_execs_cons ?_
  k_dflt (refine Assign_2 F (by rfl) (by with_unfolding_all rfl) (by with_unfolding_all rfl) (by decide) (by rfl) (by decide) (by rfl) (by rfl) (by decide) (by rfl) (by rfl) (by intro _ _; rfl) ?_)
  k_steps
  rename IntsAre hs _ => hhs
  refine' ⟨_, _, _, _, hl.length, _, fun i j => decide (hl.getD i 0 < hl.getD j 0), rfl, rfl, ?F, ?N, ?R, by omega, ?src, ?test, ?elm, ?fin⟩
  case F => k_asm
  case N => k_asm
  case R => assumption
  case src =>
    intro i t oC oI m₂ ys I C D h tk hi hC hx F2 N2
    rw [Int.zero_add] at hx
    dsimp only
    k_steps
    · k_asm
    · k_asm
  case test =>
    intro i j ti tj oC oI oI2 m₂ ys I2 I C D h tk hi hj hC hx hy F2 N2
    obtain ⟨q, hq⟩ : ∃ q : Int, 0 + (j : Int) = q := ⟨_, rfl⟩
    rw [hq] at hy
    dsimp only
    k_steps
    rw [Int.zero_add] at hq
    rw [← hq]
    rfl
  case elm =>
    intro i j ti tj oC oI oI2 m₂ ys I2 I C D h tk hi hj hC hx hy F2 N2
    dsimp only
    k_steps
    · k_asm
    · rename News _ _ _ _ => NN
      exact fun p hp => NN p (.tail _ hp)
  case fin =>
    intro D h tk ys F2 N2 off2 hlen
    dsimp only
    k_steps
    refine next D ys _ _ hlen F2 (fun p hp => N2 p ?_)
    rcases List.mem_cons.mp hp with rfl | hp
    · exact .head _
    · exact .tail _ (.tail _ hp)
local macro_rules | `(tactic| walk_at "call builtin:len") => `(tactic| (refine stop_at ?_))
/-- statement 15: the parity -/
theorem lawA15 {w : World} {mean : ExcName → Option Value} {mg mb : Str → Option Value} {fa : Addr} {cd : Value} {g h1 : Heap} {L : Addr} {tk : Tok} {s : Shared} {D : Addr} {ys : List Value} {p : Nat} {news : List (Addr × Obj)} {m : Str → Option Value} {t3 : Tok} {Q : Flow → Shared → Prop}
   (C : Cx w mean mg mb g) (hl : ys.length ≤ 10000) (hpar : ((p : Int) - (ys.length : Int)).fmod 2 = 0) (e1 : m (Str.ofString "crossed") = some (.ref D)) (e5 : m (Str.ofString "passed") = some (.int (p : Int) t3))
   (F : Fr g L h1 m) (N : News g L h1 ((D, LCg.lst ys) :: news))
   (next : ∀ h' tk', Fr g L h' m → News g L h' news → LawAt w L fa cd 16 Q { s with heap := h', toks := tk' }) :
   LawAt w L fa cd 15 Q { s with heap := h1, toks := tk } := by
  refine LawAt.cut 1 ?_
  unfold lawA lawEnv
  conv in (occs := *) lawScope => all_goals whnf
  conv in List.drop _ _ => whnf
  dsimp only [List.take]
  obtain ⟨B0, X, T⟩ := C
  revert X
  k_fill
  w_on
  intro X
  have T := T
  have hps : ∀ p_1 ∈ [(Str.ofString "crossed", Value.ref D), (Str.ofString "passed", .int (p : Int) t3)], m p_1.1 = some p_1.2 := by simp only [List.forall_mem_cons]; exact ⟨e1, e5, fun _ h => nomatch h⟩
  have F3 := Fr.lits F [(Str.ofString "crossed", Value.ref D), (Str.ofString "passed", .int (p : Int) t3)] hps
  clear F
  (try dsimp only)
  (try k_fold)
  k_steps
  refine len_list (News.isList N (.head _)) (by rw [List.size_toArray]; omega) ?_
  rw [List.size_toArray]
  generalize hY : (ys.length : Int) = Y at *
  dsimp only
  k_steps
  · rename News _ _ _ _ => NN
    rename Fr _ _ _ _ => FF
    exact next _ _ (Fr.unlits [(Str.ofString "crossed", Value.ref D), (Str.ofString "passed", .int (p : Int) t3)] FF hps) (fun p hp => NN p (.tail _ hp))
end Mine
end

/-! Indent -/
section
open PySem PySem.W PySem.Spec PySem.Calls PyProof.Rows
set_option maxRecDepth 100000
set_option maxHeartbeats 8000000
namespace Mine
/-- the sum of i * cs[i] for i from 1 below 1 + n -/
noncomputable def ilF (cs : List Int) : Nat → Int
  | 0 => 0
  | n + 1 => ilF cs n + (1 + (n : Int)) * cs.getD (1 + n) 0
theorem ilF_s (cs : List Int) (n : Nat) : ilF cs (n + 1) = ilF cs n + (1 + (n : Int)) * cs.getD (1 + n) 0 := rfl
theorem ilF_bound {cs : List Int} (h : ∀ q : Nat, 0 ≤ cs.getD q 0 ∧ cs.getD q 0 ≤ 200) : ∀ n : Nat, n ≤ 200 → 0 ≤ ilF cs n ∧ ilF cs n ≤ (n : Int) * 40000
  | 0, _ => ⟨Int.le_refl 0, Int.le_refl 0⟩
  | n + 1, hn => by
    have h1 := ilF_bound h n (by omega)
    have h2 := h (1 + n)
    have h3 : 0 ≤ (1 + (n : Int)) * cs.getD (1 + n) 0 := Int.mul_nonneg (by omega) h2.1
    have h4 : (1 + (n : Int)) * cs.getD (1 + n) 0 ≤ 200 * 200 := Int.mul_le_mul (by omega) h2.2 h2.1 (by omega)
    rw [ilF_s]; omega
local macro_rules | `(tactic| walk_at "exec For Name Call cons nil") => `(tactic| (refine stop_at ?_))
local macro_rules | `(tactic| walk_at "call builtin:len") => `(tactic| (refine stop_at ?_))
local macro_rules | `(tactic| walk_at "subscriptTail Name Name ref int") => `(tactic| (refine stop_at ?_))
/-- what the loop keeps -/
inductive InJ (tl : List (Addr × Obj)) (z b : Int) (Ca x : Addr) (k8 t1 : Tok) (m : Str → Option Value) (nw : List (Addr × Obj)) : Prop
  | mk (ti : Tok) (hnw : nw = tl) (e1 : m (Str.ofString "il") = some (.int z ti)) (e2 : m (Str.ofString "count") = some (.ref Ca)) (e3 : m (Str.ofString "trailing") = some (.int b k8)) (e4 : m (Str.ofString "self") = some (.ref x)) (e5 : m (Str.ofString "tabsize") = some (.int 1 t1))
theorem c_indent (w : World) (mean : ExcName → Option Value) (mg mb : Str → Option Value) (y : Str) (st : WsSt) (x : Addr) (tl : List (Addr × Obj)) (t1 : Tok) (hw : WsIs w y st (.ref x) tl) :
    CtrL 0 w mean mg mb 74 [.ref x, .int 1 t1] tl (st.cs.length ≤ 200 ∧ (∀ c ∈ st.cs, 0 ≤ c ∧ c ≤ 200) ∧ 0 ≤ st.b ∧ st.b ≤ 200 ∧ 0 ≤ st.nt ∧ st.nt ≤ 200) (fun v out => IntIs v (st.b + (ilF st.cs (st.cs.length - 1) + st.nt))) := by
  obtain ⟨x', dx, Ta, Ca, vs, k0, k1, k2, k3, k4, k5, k6, k7, k8, ex, hvs, n1, n2, n3, n4, n5, n6, rfl⟩ := hw
  cases ex
  unfold CtrL
  intro dp un gd fr base g s Q E B
  k_fill
  w_on
  intro X T hst hsz hN hp hdp hun hret
  obtain ⟨hp1, hp2, hp3, hp4, hp5, hp6⟩ := hp
  refine wpAny_call ?_
  k_dflt (refine' enterP (g := g) (binds := [(Str.ofString "self", .ref x), (Str.ofString "tabsize", .int 1 t1)]) (X.keeps hst) (T.nolimit.keeps hst) hst hsz hN ?k6 ?k7 ?k8 ?k9 ?kB ?_ ?c2 ?c3 ?c4 ?c5; (case k6 => k_is); (case k7 => k_is); (case k8 => (dsimp only; omega)); (case k9 => exact BindsTo.of_eq rfl); (case kB => exact locs rfl); (case c2 => exact rfl); (case c3 => exact rfl); (case c4 => exact rfl); (case c5 => decide))
  intro L' h' F' N' _
  clear hN
  have hlen : vs.length = st.cs.length := hvs.length
  have hcd : ∀ q : Nat, 0 ≤ st.cs.getD q 0 ∧ st.cs.getD q 0 ≤ 200 := by
    intro q
    rcases Nat.lt_or_ge q st.cs.length with h | h
    · rw [List.getD_eq_getElem?_getD, List.getElem?_eq_getElem h, Option.getD_some]
      exact hp2 _ (List.getElem_mem h)
    · rw [List.getD_eq_getElem?_getD, List.getElem?_eq_none h]; decide
  simp only [wsTl] at N'
  dsimp only
  refine boxQ fun Tz hTz => ?_
  show (let Az := _; wpAny _ Az _ _ _ _)
  intro Az
  k_steps
  refine For_at (by k_asm) ?_
  (try dsimp only)
  k_steps
  (refine' len_tupK ?k1 ?k2 ?k3 ?k4 ?_; (case k1 => k_asm); (case k2 => k_mem); (case k3 => assumption); (case k4 => omega))
  dsimp only
  k_steps
  rename IntsAre _ _ => hvs
  refine' iterI_range (n := st.cs.length - 1) (fun i m nw => InJ (wsTl w y st x dx Ta Ca vs k0 k1 k2 k3 k4 k5 k6 k7 k8) (ilF st.cs i) st.b Ca x k8 t1 m nw) rfl (by assumption) (small_one (by omega) (by omega) (by omega) (by omega)) ?hn (by k_asm) ?N ⟨_, rfl, rfl, rfl, rfl, rfl, rfl⟩ ?turn ?done
  case hn =>
    unfold Builtin.Range.rangeSize
    rw [if_pos (by decide)]
    split <;> omega
  case N => k_asm
  case turn =>
    intro i q ti m₁ nw I oI h1 tk1 hi hq hJJ F N off Tq hTq
    obtain ⟨tl, rfl, e1, e2, e3, e4, e5⟩ := hJJ
    have F1 := Fr.lits F [(Str.ofString "il", .int (ilF st.cs i) tl), (Str.ofString "count", .ref Ca), (Str.ofString "trailing", .int st.b k8), (Str.ofString "self", .ref x), (Str.ofString "tabsize", .int 1 t1)] (by simp only [List.forall_mem_cons]; exact ⟨e1, e2, e3, e4, e5, fun _ h => nomatch h⟩)
    clear F
    simp only [wsTl] at N
    have hq1 : 0 ≤ q := by omega
    have hq2 : q < st.cs.length := by omega
    have hq3 := hcd q.toNat
    dsimp only
    k_steps
    (refine' item_tupK ?k1 ?k2 ?k3 ?k4 ?k5 ?k6 ?_; (case k1 => k_asm); (case k2 => k_mem); (case k3 => assumption); (case k4 => omega); (case k5 => omega); (case k6 => omega))
    intro _
    dsimp only
    k_steps
    have e : ilF st.cs (i + 1) = ilF st.cs i + Int.fdiv q 1 * st.cs.getD q.toNat 0 := by
      have h2 : q = 1 + (i : Int) := by omega
      have h3 : Int.fdiv q 1 = q := by simp
      have h4 : q.toNat = 1 + i := by omega
      rw [ilF_s, h3, h4, h2]
    refine hTq _ _ ?_
    refine' ⟨_, _, _, _, rfl, (by assumption), (by assumption), ?off, _, rfl, ?hil, rfl, rfl, rfl, rfl⟩
    case hil => rw [e]; rfl
    case off => exact off
  case done =>
    intro m₁ nw h1 tk1 hJJ F N
    obtain ⟨ti, rfl, e1, e2, e3, e4, e5⟩ := hJJ
    have F1 := Fr.lits F [(Str.ofString "il", .int (ilF st.cs (st.cs.length - 1)) ti), (Str.ofString "count", .ref Ca), (Str.ofString "trailing", .int st.b k8), (Str.ofString "self", .ref x), (Str.ofString "tabsize", .int 1 t1)] (by simp only [List.forall_mem_cons]; exact ⟨e1, e2, e3, e4, e5, fun _ h => nomatch h⟩)
    clear F
    simp only [wsTl] at N
    have hbig := ilF_bound hcd (st.cs.length - 1) (by omega)
    generalize hS : ilF st.cs (st.cs.length - 1) = S at *
    dsimp only
    k_steps
    dsimp only
    refine hTz _ _ ?_
    refine hret _ [] _ _ F1.keep (fun p hp => (N p hp).1) (fun _ hp => nomatch hp) ?_
    exact ⟨_, by rw [Int.one_mul]⟩
end Mine
end

/-! LawI -/
section
open PySem PySem.W PySem.Spec PySem.Calls PyProof.Rows
set_option maxRecDepth 100000
set_option maxHeartbeats 8000000
namespace Mine
local macro_rules | `(tactic| walk_at "call ref") => `(tactic| (refine stop_at ?_))
/-- statement 16: the pages -/
theorem lawA16 {w : World} {mean : ExcName → Option Value} {mg mb : Str → Option Value} {fa : Addr} {cd : Value} {g h1 : Heap} {L : Addr} {tk : Tok} {s : Shared} {x : Nat} {r r0 : List Bool} {c1 c2 c3 c4 c5 c6 c7 : Obj} {m : Str → Option Value} {u1 t5 : Tok} {Q : Flow → Shared → Prop}
   (C : Cx w mean mg mb g) (hr : r.length = 12) (hr0 : r0.length = 12) (d5 : c5.data = .cell (some (.str (txt r) t5))) (e3 : m (Str.ofString "start") = some (.str (txt r0) u1))
   (F : Fr g L h1 m) (N : News g L h1 (cellsL L c1 c2 c3 c4 c5 c6 c7))
   (next : ∀ v1 v2 tl1 tl2 h' tk', WsIs w (txt (pageF r0).1 ++ Str.ofString "x") (wsF (pageF r0).1) v1 tl1 → WsIs w (txt (pageF r).1 ++ Str.ofString "x") (wsF (pageF r).1) v2 tl2 →
     (∀ q ∈ tl1, ∀ p ∈ tl2, q.1 ≠ p.1) → (∀ q ∈ cellsL L c1 c2 c3 c4 c5 c6 c7, ∀ p ∈ tl2 ++ tl1, q.1 ≠ p.1) →
     Fr g L h' (fun y => if y = Str.ofString "first" then some v1 else if y = Str.ofString "last" then some v2 else m y) →
     News g L h' (tl2 ++ (tl1 ++ cellsL L c1 c2 c3 c4 c5 c6 c7)) → LawAt w L fa cd 17 Q { s with heap := h', toks := tk' }) :
   LawAt w L fa cd 16 Q { s with heap := h1, toks := tk } := by
  refine LawAt.cut 1 ?_
  unfold lawA lawEnv
  conv in (occs := *) lawScope => all_goals whnf
  conv in List.drop _ _ => whnf
  dsimp only [List.take]
  obtain ⟨B0, X, T⟩ := C
  revert X
  k_fill
  w_on
  intro X
  have T := T
  have hps : ∀ p_1 ∈ [(Str.ofString "start", Value.str (txt r0) u1)], m p_1.1 = some p_1.2 := by simp only [List.forall_mem_cons]; exact ⟨e3, fun _ h => nomatch h⟩
  have F3 := Fr.lits F [(Str.ofString "start", .str (txt r0) u1)] hps
  clear F
  (try dsimp only)
  (try k_fold)
  k_steps
  rename News _ _ _ _ => NN
  rename Fr _ _ _ _ => FF
  refine' Ctr.use (c_page w mean mg mb r0 _) B0 FF NN X T rfl rfl rfl rfl (Nat.le_of_eq hr0) (law_dp _ (by decide)) (law_un _ (by decide)) ?_
  rintro v1 tl1 h2 tk2 F2 N2 off2 hW1
  dsimp only
  k_steps
  rename News _ _ _ _ => NN
  rename Fr _ _ _ _ => FF
  refine' Ctr.use (c_page w mean mg mb r _) B0 FF NN X T rfl rfl rfl rfl (Nat.le_of_eq hr) (law_dp _ (by decide)) (law_un _ (by decide)) ?_
  rintro v2 tl2 h3 tk3 F4 N4 off4 hW2
  dsimp only
  k_steps
  rename News _ _ _ _ => NN
  rename Fr _ _ _ _ => FF
  refine next v1 v2 tl1 tl2 _ _ hW1 hW2 (fun q hq p hp => off4 q (List.mem_append_left _ hq) p hp) ?_ (Fr.unlits2 [(Str.ofString "start", .str (txt r0) u1)] FF hps) (fun p hp => NN p (.tail _ hp))
  intro q hq p hp
  rcases List.mem_append.mp hp with hp | hp
  · exact off4 q (List.mem_append_right _ hq) p hp
  · exact off2 q hq p hp
end Mine
end

/-! LawJ -/
section
open PySem PySem.W PySem.Spec PySem.Calls PyProof.Rows
set_option maxRecDepth 100000
set_option maxHeartbeats 8000000
namespace Mine
/-- the state of a row's page -/
noncomputable def pgF (r : List Bool) : WsSt := wsF (pageF r).1
noncomputable def PgB (st : WsSt) : Prop := st.cs.length ≤ 30 ∧ (∀ c ∈ st.cs, 0 ≤ c ∧ c ≤ 30) ∧ 0 ≤ st.b ∧ st.b ≤ 200 ∧ 0 ≤ st.nt ∧ st.nt ≤ 200
noncomputable def indF (st : WsSt) : Int := st.b + (ilF st.cs (st.cs.length - 1) + st.nt)
theorem PgB.ind {st : WsSt} (h : PgB st) : st.cs.length ≤ 200 ∧ (∀ c ∈ st.cs, 0 ≤ c ∧ c ≤ 200) ∧ 0 ≤ st.b ∧ st.b ≤ 200 ∧ 0 ≤ st.nt ∧ st.nt ≤ 200 := by
  obtain ⟨h1, h2, h3, h4, h5, h6⟩ := h
  refine ⟨by omega, fun c hc => ?_, h3, h4, h5, h6⟩
  have := h2 c hc; omega
local macro_rules | `(tactic| walk_at "call ref") => `(tactic| (refine stop_at ?_))
/-- statement 17: the column -/
theorem lawA17 {w : World} {mean : ExcName → Option Value} {mg mb : Str → Option Value} {fa : Addr} {cd : Value} {g h1 : Heap} {L : Addr} {tk : Tok} {s : Shared} {d k : Nat} {y1 y2 : Str} {st1 st2 : WsSt} {v1 v2 : Value} {tl1 tl2 : List (Addr × Obj)} {c1 c2 c3 c4 c5 c6 c7 : Obj} {m : Str → Option Value} {t1 t2 : Tok} {Q : Flow → Shared → Prop}
   (C : Cx w mean mg mb g) (hd4 : d ≤ 4) (hk : k ≤ 1000) (hb1 : PgB st1) (hb2 : PgB st2) (hi : indF st1 - indF st2 = (d : Int) * (k : Int)) (hW1 : WsIs w y1 st1 v1 tl1) (hW2 : WsIs w y2 st2 v2 tl2)
   (d1 : c1.data = .cell (some (.int (d : Int) t1))) (e1 : m (Str.ofString "first") = some v1) (e2 : m (Str.ofString "last") = some v2) (e4 : m (Str.ofString "moves") = some (.int (k : Int) t2))
   (F : Fr g L h1 m) (N : News g L h1 (tl2 ++ (tl1 ++ cellsL L c1 c2 c3 c4 c5 c6 c7)))
   (next : ∀ h' tk', Fr g L h' m → News g L h' (tl2 ++ (tl1 ++ cellsL L c1 c2 c3 c4 c5 c6 c7)) → LawAt w L fa cd 18 Q { s with heap := h', toks := tk' }) :
   LawAt w L fa cd 17 Q { s with heap := h1, toks := tk } := by
  refine LawAt.cut 1 ?_
  unfold lawA lawEnv
  conv in (occs := *) lawScope => all_goals whnf
  conv in List.drop _ _ => whnf
  dsimp only [List.take]
  obtain ⟨B0, X, T⟩ := C
  revert X
  k_fill
  w_on
  intro X
  have T := T
  have HW1 := hW1
  have HW2 := hW2
  obtain ⟨x1, dx1, Ta1, Ca1, vs1, j0, j1, j2, j3, j4, j5, j6, j7, j8, rfl, hvs1, n1, n2, n3, n4, n5, n6, rfl⟩ := hW1
  obtain ⟨x2, dx2, Ta2, Ca2, vs2, k0, k1, k2, k3, k4, k5, k6, k7, k8, rfl, hvs2, p1, p2, p3, p4, p5, p6, rfl⟩ := hW2
  have hps : ∀ p_1 ∈ [(Str.ofString "first", Value.ref x1), (Str.ofString "last", .ref x2), (Str.ofString "moves", .int (k : Int) t2)], m p_1.1 = some p_1.2 := by simp only [List.forall_mem_cons]; exact ⟨e1, e2, e4, fun _ h => nomatch h⟩
  have F3 := Fr.lits F [(Str.ofString "first", Value.ref x1), (Str.ofString "last", .ref x2), (Str.ofString "moves", .int (k : Int) t2)] hps
  clear F
  have N0 := N
  simp only [wsTl, List.cons_append, List.nil_append] at N
  (try dsimp only)
  (try k_fold)
  k_steps
  rename Fr _ _ _ _ => FF
  refine' CtrL.use (news := wsTl w y2 st2 x2 dx2 Ta2 Ca2 vs2 k0 k1 k2 k3 k4 k5 k6 k7 k8 ++ (wsTl w y1 st1 x1 dx1 Ta1 Ca1 vs1 j0 j1 j2 j3 j4 j5 j6 j7 j8 ++ cellsL L c1 c2 c3 c4 c5 c6 c7)) (c_indent w mean mg mb y1 st1 x1 _ _ HW1) B0 FF N (fun p hp => List.mem_append_right _ (List.mem_append_left _ hp)) X T rfl rfl rfl rfl hb1.ind (law_dp _ (by decide)) (law_un _ (by decide)) ?_
  rintro v out h3 tk3 F4 N4 off4 ⟨t6, rfl⟩
  have N5 : News g L h3 _ := fun p hp => N4 p (List.mem_append_right _ hp)
  clear N4 off4
  simp only [wsTl, List.cons_append, List.nil_append] at N5
  dsimp only
  k_steps
  rename Fr _ _ _ _ => FF
  refine' CtrL.use (news := wsTl w y2 st2 x2 dx2 Ta2 Ca2 vs2 k0 k1 k2 k3 k4 k5 k6 k7 k8 ++ (wsTl w y1 st1 x1 dx1 Ta1 Ca1 vs1 j0 j1 j2 j3 j4 j5 j6 j7 j8 ++ cellsL L c1 c2 c3 c4 c5 c6 c7)) (c_indent w mean mg mb y2 st2 x2 _ _ HW2) B0 FF N5 (fun p hp => List.mem_append_left _ hp) X T rfl rfl rfl rfl hb2.ind (law_dp _ (by decide)) (law_un _ (by decide)) ?_
  rintro v out h4 tk4 F6 N6 off6 ⟨t7, rfl⟩
  have N7 : News g L h4 _ := fun p hp => N6 p (List.mem_append_right _ hp)
  clear N6 off6
  have hi2 : st1.b + (ilF st1.cs (st1.cs.length - 1) + st1.nt) - (st2.b + (ilF st2.cs (st2.cs.length - 1) + st2.nt)) = (d : Int) * (k : Int) := hi
  dsimp only
  k_steps
  · rename News _ _ _ _ => NN
    rename Fr _ _ _ _ => FF
    exact next _ _ (Fr.unlits [(Str.ofString "first", Value.ref x1), (Str.ofString "last", .ref x2), (Str.ofString "moves", .int (k : Int) t2)] FF hps) NN
end Mine
end

/-! Hooks -/
section
open PySem PySem.W PySem.Spec PySem.Calls PyProof.Rows
set_option maxRecDepth 100000
set_option maxHeartbeats 8000000
namespace Mine
theorem small_down {a : Int} (h1 : -1 ≤ a) (h2 : a ≤ 1000) : Builtin.Range.small a 0 (-1) = true := by
  have e : Builtin.Range.rangeSize a 0 (-1) = if a > 0 then a else 0 := by
    unfold Builtin.Range.rangeSize
    rw [if_neg (by decide), show (- (-1 : Int)) = 1 from rfl, Int.ediv_one]
    split <;> omega
  unfold Builtin.Range.small
  rw [e, if_neg (show ¬ ((-1 : Int) > 0) by decide)]
  by_cases ha : a > 0
  · rw [if_pos ha]
    simp only [Builtin.Range.rangeFitsLong, Bool.and_eq_true, Bool.or_eq_true, decide_eq_true_eq, beq_iff_eq]
    omega
  · rw [if_neg ha]
    simp only [Builtin.Range.rangeFitsLong, Bool.and_eq_true, Bool.or_eq_true, decide_eq_true_eq, beq_iff_eq]
    omega
/-- the parts, the greatest first, after i sizes -/
noncomputable def partsN (cs : List Int) : Nat → List Int
  | 0 => []
  | i + 1 => partsN cs i ++ (List.replicate (cs.getD (cs.length - 1 - i) 0).toNat [((cs.length - 1 - i : Nat) : Int)]).flatten
theorem partsN_s (cs : List Int) (i : Nat) : partsN cs (i + 1) = partsN cs i ++ (List.replicate (cs.getD (cs.length - 1 - i) 0).toNat [((cs.length - 1 - i : Nat) : Int)]).flatten := rfl
theorem range_map_getD (l : List Int) : (List.range l.length).map (fun i => l.getD i 0) = l := by
  apply List.ext_getElem
  · simp
  · intro i h1 h2
    simp at h1
    simp [h1]
theorem range_filter_map (l : List Int) (j : Int) : ((List.range l.length).filter (fun i => decide (j < l.getD i 0))).map (fun i => l.getD i 0) = l.filter fun p => decide (j < p) := by
  have h := List.filter_map (f := fun i => l.getD i 0) (p := fun p => decide (j < p)) (l := List.range l.length)
  rw [range_map_getD] at h
  rw [h]; rfl
/-- the hooks of the first j columns -/
noncomputable def hookRow (pn : List Int) (j : Int) : List Int :=
  (List.range (pn.filter fun p => decide (j < p)).length).map fun i => pn.getD i 0 - j + ((pn.filter fun p => decide (j < p)).length : Int) - (i : Int) - 1
noncomputable def hooksN (pn : List Int) : Nat → List Int
  | 0 => []
  | j + 1 => hooksN pn j ++ hookRow pn (j : Int)
theorem hooksN_s (pn : List Int) (j : Nat) : hooksN pn (j + 1) = hooksN pn j ++ hookRow pn (j : Int) := rfl
theorem hooksN_len (pn : List Int) : ∀ j, (hooksN pn j).length ≤ j * pn.length
  | 0 => Nat.zero_le _
  | j + 1 => by
    have h1 := hooksN_len pn j
    have h2 := List.length_filter_le (fun p => decide ((j : Int) < p)) pn
    simp only [hooksN_s, hookRow, List.length_append, List.length_map, List.length_range, Nat.add_mul, Nat.one_mul]
    omega
theorem partsN_len {cs : List Int} (h : ∀ q : Nat, 0 ≤ cs.getD q 0 ∧ cs.getD q 0 ≤ 30) : ∀ i, (partsN cs i).length ≤ 30 * i
  | 0 => Nat.zero_le _
  | i + 1 => by
    have h1 := partsN_len h i
    have h2 := h (cs.length - 1 - i)
    simp only [partsN_s, List.length_append, List.length_flatten, List.map_replicate, List.length_cons, List.length_nil, List.sum_replicate_nat]
    omega
local macro_rules | `(tactic| walk_at "exec For Name Call cons nil") => `(tactic| (refine stop_at ?_))
local macro_rules | `(tactic| walk_at "call builtin:len") => `(tactic| (refine stop_at ?_))
local macro_rules | `(tactic| walk_at "subscriptTail Name Name ref int") => `(tactic| (refine stop_at ?_))
local macro_rules | `(tactic| walk_at "eval ListComp") => `(tactic| (refine stop_at ?_))
local macro_rules | `(tactic| walk_at "call builtin:list.extend") => `(tactic| (refine stop_at ?_))
theorem hk_lt {l p h t c x d : Nat} (h1 : l + 1 + 1 + 1 < p) (h2 : p < h) (a1 : t < l) (a2 : c < l) (a3 : x < l) (a4 : d < l) :
    l + 1 + 1 + 1 < h ∧ l + 1 + 1 < h ∧ l + 1 < h ∧ t < h ∧ c < h ∧ x < h ∧ d < h :=
  have a := Nat.lt_trans h1 h2; have b := Nat.lt_of_succ_lt a; have e := Nat.lt_of_succ_lt b; have f := Nat.lt_of_succ_lt e
  ⟨a, b, e, Nat.lt_trans a1 f, Nat.lt_trans a2 f, Nat.lt_trans a3 f, Nat.lt_trans a4 f⟩
/-- what the first loop keeps -/
inductive HkJ (tl : List (Addr × Obj)) (L Ca : Addr) (zs : List Int) (m : Str → Option Value) (nw : List (Addr × Obj)) : Prop
  | mk (P : Addr) (ps : List Value) (kp : Nat) (op oj od : Obj) (vj vd : Option Value) (h1 : IntsAre ps zs) (h2 : @LT.lt Nat _ (L + 1 + 1 + 1) P) (d1 : op.data = .cell (some (.ref P))) (d2 : oj.data = .cell vj) (d3 : od.data = .cell vd)
    (hnw : nw = (P, W.listOf ps.toArray kp) :: (L + 1 + 1 + 1, od) :: (L + 1 + 1, oj) :: (L + 1, op) :: tl) (e1 : m (Str.ofString "counts") = some (.ref Ca))
/-- what the second loop keeps -/
inductive HkK (tl : List (Addr × Obj)) (L P : Addr) (ps : List Value) (kp : Nat) (op : Obj) (zs : List Int) (m : Str → Option Value) (nw : List (Addr × Obj)) : Prop
  | mk (H : Addr) (hs : List Value) (kh : Nat) (oj od : Obj) (vj vd : Option Value) (h1 : IntsAre hs zs) (h2 : @LT.lt Nat _ P H) (d2 : oj.data = .cell vj) (d3 : od.data = .cell vd)
    (hnw : nw = (H, W.listOf hs.toArray kh) :: (P, W.listOf ps.toArray kp) :: (L + 1 + 1 + 1, od) :: (L + 1 + 1, oj) :: (L + 1, op) :: tl) (e1 : m (Str.ofString "hooks") = some (.ref H))
theorem c_hooks (w : World) (mean : ExcName → Option Value) (mg mb : Str → Option Value) (y : Str) (st : WsSt) (x : Addr) (tl : List (Addr × Obj)) (hw : WsIs w y st (.ref x) tl) :
    CtrL 0 w mean mg mb 126 [.ref x] tl (st.cs.length ≤ 30 ∧ (∀ c ∈ st.cs, 0 ≤ c ∧ c ≤ 30)) (fun v out => ∃ H hs kh, v = .ref H ∧ IntsAre hs (hooksN (partsN st.cs (st.cs.length - 1)) (st.cs.length - 1)) ∧ out = [(H, W.listOf hs.toArray kh)]) := by
  obtain ⟨x', dx, Ta, Ca, vs, k0, k1, k2, k3, k4, k5, k6, k7, k8, ex, hvs, n1, n2, n3, n4, n5, n6, rfl⟩ := hw
  cases ex
  unfold CtrL
  intro dp un gd fr base g s Q E B
  k_fill
  w_on
  intro X T hst hsz hN hp hdp hun hret
  obtain ⟨hp1, hp2⟩ := hp
  refine wpAny_call ?_
  k_dflt (refine' enterC (g := g) (news := wsTl w y st x dx Ta Ca vs k0 k1 k2 k3 k4 k5 k6 k7 k8) (binds := [(Str.ofString "page", .ref x)]) (X.keeps hst) (T.nolimit.keeps hst) hst hsz hN ?k6 ?k7 ?k8 ?k9 ?kB ?kD ?_ ?c2 ?c3 ?c4; (case k6 => k_is); (case k7 => k_is); (case k8 => (dsimp only; omega)); (case k9 => exact BindsTo.of_eq rfl); (case kB => exact rfl); (case kD => decide +kernel); (case c2 => exact rfl); (case c3 => exact rfl); (case c4 => exact rfl))
  intro L' h' tk' cells' F' N' Y' lt1
  obtain ⟨oc1, oc2, oc3, hE, dc1, dc2, dc3⟩ := CellsAre.three Y'
  subst hE
  clear Y'
  replace dc1 : oc1.data = .cell none := dc1.trans rfl
  replace dc2 : oc2.data = .cell none := dc2.trans rfl
  replace dc3 : oc3.data = .cell none := dc3.trans rfl
  replace F' : Fr g L' h' (fun y => if y = Str.ofString "page" then some (.ref x) else none) := F'
  simp only [wsTl, List.cons_append, List.nil_append] at N'
  simp only [wsTl, List.forall_mem_cons] at lt1
  obtain ⟨lt1, lt2, lt3, lt4, _⟩ := lt1
  have lt1' := ltN lt1
  have lt2' := ltN lt2
  have lt3' := ltN lt3
  have lt4' := ltN lt4
  clear hN
  dsimp only
  (try k_fold)
  refine boxQ fun Tz hTz => ?_
  show (let Az := _; wpAny _ Az _ _ _ _)
  intro Az
  k_steps
  refine For_at (by k_asm) ?_
  (try dsimp only)
  k_steps
  (refine' len_tupK ?k1 ?k2 ?k3 ?k4 ?_; (case k1 => k_asm); (case k2 => k_mem); (case k3 => assumption); (case k4 => omega))
  dsimp only
  k_steps
  rename IntsAre _ _ => hvs
  have hcd : ∀ q : Nat, 0 ≤ st.cs.getD q 0 ∧ st.cs.getD q 0 ≤ 30 := by
    intro q
    rcases Nat.lt_or_ge q st.cs.length with h | h
    · rw [List.getD_eq_getElem?_getD, List.getElem?_eq_getElem h, Option.getD_some]
      exact hp2 _ (List.getElem_mem h)
    · rw [List.getD_eq_getElem?_getD, List.getElem?_eq_none h]; decide
  refine' iterI_range (n := st.cs.length - 1) (fun i m nw => HkJ (wsTl w y st x dx Ta Ca vs k0 k1 k2 k3 k4 k5 k6 k7 k8) L' Ca (partsN st.cs i) m nw) rfl (by assumption) ?hsm ?hn (by k_asm) ?N ⟨_, [], 0, _, _, _, _, _, .nil, ?lt, ?d1, ?d2, ?d3, rfl, rfl⟩ ?turn ?done
  case N => k_asm
  case d1 => assumption
  case lt => omega
  case d2 => assumption
  case d3 => assumption
  case hsm => exact small_down (by omega) (by omega)
  case hn =>
    unfold Builtin.Range.rangeSize
    rw [if_neg (by decide), show (- (-1 : Int)) = 1 from rfl, Int.ediv_one]
    split <;> omega
  case turn =>
    intro i q ti m₁ nw I oI h1 tk1 hi hq hJJ F N off Tq hTq
    obtain ⟨Pa, ps, kp, op, oj, od, vj, vd, hps, hPl, d1, d2, d3, rfl, e1⟩ := hJJ
    have F1 := Fr.lits F [(Str.ofString "counts", .ref Ca)] (by simp only [List.forall_mem_cons]; exact ⟨e1, fun _ h => nomatch h⟩)
    clear F
    simp only [wsTl] at N
    simp only [wsTl, List.forall_mem_cons] at off
    obtain ⟨o1, o2, o3, o4, o5, o6, o7, o8, _⟩ := off
    have o1 := neN o1
    have hq1 : 0 ≤ q := by omega
    have hq2 : q < st.cs.length := by omega
    have hq3 := hcd q.toNat
    have hlp := partsN_len hcd i
    have hlq := hps.length
    dsimp only
    k_steps
    (refine' item_tupK ?k1 ?k2 ?k3 ?k4 ?k5 ?k6 ?_; (case k1 => k_asm); (case k2 => k_mem); (case k3 => assumption); (case k4 => omega); (case k5 => omega); (case k6 => omega))
    intro _
    dsimp only
    k_steps
    (refine' extendK ?k1 ?k2 ?k3 ?k4 ?k5 ?_; (case k1 => k_asm); (case k2 => k_asm); (case k3 => k_mem); (case k4 => k_updF); (case k5 => simp only [List.length_flatten, List.map_replicate, List.length_cons, List.length_nil, List.sum_replicate_nat]; omega))
    intro _ _ _ _
    dsimp only
    k_steps
    refine hTq _ _ ?_
    refine' ⟨_, _, _, _, rfl, (by assumption), ?N, ?off, _, _, _, _, _, _, _, _, ?hin, hPl, d1, d2, d3, rfl, rfl⟩
    case N => exact News.perm (by assumption) (by kcf_all)
    case off => simp only [wsTl, List.forall_mem_cons]; exact ⟨o1, o2, o3, o4, o5, o6, o7, o8, fun _ h => nomatch h⟩
    case hin =>
      have e2 : ((st.cs.length - 1 - i : Nat) : Int) = q := by omega
      have e3 : q.toNat = st.cs.length - 1 - i := by omega
      rw [partsN_s, e2, ← e3]
      exact IntsAre.append hps (by assumption)
  case done =>
    intro m₁ nw h1 tk1 hJJ F N
    obtain ⟨Pa, ps, kp, op, oj, od, vj, vd, hps, hPl, d1, d2, d3, rfl, e1⟩ := hJJ
    have F1 := Fr.lits F [(Str.ofString "counts", .ref Ca)] (by simp only [List.forall_mem_cons]; exact ⟨e1, fun _ h => nomatch h⟩)
    clear F
    simp only [wsTl] at N
    have hlp := partsN_len hcd (st.cs.length - 1)
    have hlq := hps.length
    have hpl : (partsN st.cs (st.cs.length - 1)).length ≤ 900 := Nat.le_trans hlp (Nat.le_trans (Nat.mul_le_mul_left 30 (Nat.le_trans (Nat.sub_le _ _) hp1)) (by decide))
    generalize hPN : partsN st.cs (st.cs.length - 1) = pn at hps hlp hlq hpl
    dsimp only
    k_steps
    refine For_at (by k_asm) ?_
    (try dsimp only)
    k_steps
    (refine' len_tupK ?k1 ?k2 ?k3 ?k4 ?_; (case k1 => k_asm); (case k2 => k_mem); (case k3 => assumption); (case k4 => omega))
    dsimp only
    k_steps
    refine' iterI_range (n := st.cs.length - 1) (fun i m nw => HkK (wsTl w y st x dx Ta Ca vs k0 k1 k2 k3 k4 k5 k6 k7 k8) L' Pa ps kp op (hooksN pn i) m nw) rfl (by assumption) (small_one (by omega) (by omega) (by omega) (by omega)) ?hn (by k_asm) ?N ⟨_, [], 0, _, _, _, _, .nil, ?lt, ?d2, ?d3, rfl, rfl⟩ ?turn ?done
    case N => k_asm
    case lt => omega
    case d2 => assumption
    case d3 => assumption
    case hn =>
      unfold Builtin.Range.rangeSize
      rw [if_pos (by decide)]
      split <;> omega
    case turn =>
      intro i q ti m₂ nw I oI h1 tk1 hi hq hJJ F N off Tq hTq
      obtain ⟨H, hs, kh, oj, od, vj, vd, hhs, hHl, d2, d3, rfl, e1⟩ := hJJ
      have F1 := Fr.lits F [(Str.ofString "hooks", .ref H)] (by simp only [List.forall_mem_cons]; exact ⟨e1, fun _ h => nomatch h⟩)
      clear F
      simp only [wsTl] at N
      simp only [wsTl, List.forall_mem_cons] at off
      obtain ⟨o1, o2, o3, o4, o5, o6, o7, o8, o9, _⟩ := off
      have o1' := neN o1
      have o2' := neN o2
      have o3' := neN o3
      have o4' := neN o4
      have o5' := neN o5
      have hq1 : q = (i : Int) := hq.trans (by simp)
      have hi30 : i ≤ 30 := Nat.le_trans (Nat.le_of_lt hi) (Nat.le_trans (Nat.sub_le _ _) hp1)
      have hsz2 : ps.toArray.size = pn.length := by rw [List.size_toArray, hlq]
      dsimp only
      k_steps
      refine ListComp_M (F₀ := by k_asm) (by with_unfolding_all rfl) (by decide) (by rfl) (by decide) (by rfl) ?_
      dsimp only
      k_steps
      refine LCt.CompSrcT.ledger (by rfl) (by k_asm) (by k_asm) (.tail _ (.tail _ (.head _))) (line_up (by rw [hsz2]; exact Nat.le_trans hpl (by decide))) ?_
      intro g2
      refine restTE IntIs (fun i => decide (q < pn.getD i 0)) (fun i => pn.getD i 0) (.inr ⟨_, .tail _ (.tail _ (.head _)), rfl, _, rfl⟩) ?_ ?_
      · rintro i2 v I2 oI2 C oC D m₃ ys h2 tk2 E' hi2 hv hC hx2 F2 N2
        rename IntsAre _ pn => hps
        obtain ⟨z, t2, rfl, hz⟩ := IntsAre.at hps i2 v (by simpa using hv)
        have hz2 : pn.getD i2 0 = z := by rw [List.getD_eq_getElem?_getD, hz]; rfl
        dsimp only
        k_steps
        · exact ⟨⟨_, rfl⟩, by rw [hz2]; exact decide_eq_true (by omega), _, by rw [hz2]⟩
        · exact ⟨⟨_, rfl⟩, by rw [hz2]; exact decide_eq_false (by omega)⟩
      · intro ys hys
        rw [hsz2, range_filter_map] at hys
        have hys' := hys.ints
        have hfl : (pn.filter fun p => decide (q < p)).length ≤ pn.length := List.length_filter_le _ _
        intro D h2 tk2 F2 N2 off2
        simp only [LCg.Off1, and_true] at off2
        obtain ⟨v1, v2, v3, v4, v5, v6, v7, v8, v9, v10⟩ := off2
        dsimp only
        k_steps
        refine len_lstK (by k_asm) (.head _) hys' (Nat.le_trans hfl (Nat.le_trans hpl (by decide))) ?_
        intro k9 k10
        dsimp only
        k_steps
        refine ListComp_N (F₀ := by k_asm) (by with_unfolding_all rfl) (by decide) (by rfl) (by decide) (by rfl) ?_
        dsimp only
        k_steps
        have hlH : (hooksN pn i).length ≤ i * pn.length := hooksN_len pn i
        have hlh := hhs.length
        have hlm : i * pn.length ≤ 30 * 900 := Nat.mul_le_mul hi30 hpl
        have hrow : hookRow pn q = (List.range (pn.filter fun p => decide (q < p)).length).map fun i => pn.getD i 0 - q + ((pn.filter fun p => decide (q < p)).length : Int) - (i : Int) - 1 := rfl
        refine LCg.CompSrc.range (n := (pn.filter fun p => decide (q < p)).length) (by rfl) (by k_asm) (by k_asm) (by assumption) (small_up (Nat.le_trans hfl (Nat.le_trans hpl (by decide)))) (rsize_up _) (line_up (Nat.le_trans hfl (Nat.le_trans hpl (by decide)))) ?_
        intro g3
        refine restUE IntIs (fun i => pn.getD i 0 - q + ((pn.filter fun p => decide (q < p)).length : Int) - (i : Int) - 1) trivial ?_ ?_
        · rintro i3 v I3 oI3 C3 oC3 D3 m₃ ys3 h3 tk3 E3 hi3 ⟨t3, rfl⟩ hC3 hx3 F3 N3
          obtain ⟨q3, hq3⟩ : ∃ q3 : Int, 0 + (i3 : Int) = q3 := ⟨_, rfl⟩
          rw [hq3] at hx3
          dsimp only
          k_steps
          refine item_lstI (by k_asm) (by k_mem) (by assumption) (by omega) (by omega) (Nat.le_trans hpl (by decide)) ?_
          intro t9
          (try dsimp only)
          k_steps
          have hq4 : q3 = (i3 : Int) := by rw [← hq3, Int.zero_add]
          subst hq4
          exact ⟨⟨_, rfl⟩, _, rfl⟩
        · intro ys3 hys3
          have hys3' := hys3.ints
          rw [← hrow] at hys3'
          have hly := hys3'.length
          rw [hrow, List.length_map, List.length_range] at hly
          intro D3 h3 tk3 F3 N3 off3
          simp only [LCg.Off1, and_true] at off3
          obtain ⟨p1, p2, p3, p4, p5, p6, p7, p8, p9, p10, p11⟩ := off3
          have hz5 : hs.length + ys3.length ≤ 1000000 := by rw [hlh, hly]; exact Nat.le_trans (Nat.add_le_add hlH hfl) (Nat.le_trans (Nat.add_le_add hlm hpl) (by decide))
          obtain ⟨r1, r2, r3, r4, r5, r6, r7⟩ := hk_lt hPl hHl lt1' lt2' lt3' lt4'
          dsimp only
          k_steps
          (refine' extendK ?k1 ?k2 ?k3 ?k4 ?k5 ?_; (case k1 => k_asm); (case k2 => k_asm); (case k3 => k_mem); (case k4 => k_updF); (case k5 => assumption))
          intro _ _ _ _
          dsimp only
          k_steps
          refine hTq _ _ ?_
          refine' ⟨_, _, _, _, rfl, (by assumption), ?N, ?off, _, _, _, _, _, _, _, ?hin, hHl, ?c2, ?c3, rfl, rfl⟩
          case N => exact News.perm (by assumption) (by kcf_all)
          case off => simp only [wsTl, List.forall_mem_cons]; exact ⟨o1, o2, o3, o4, o5, o6, o7, o8, o9, fun _ h => nomatch h⟩
          case hin =>
            rw [hooksN_s, ← hq1]
            exact IntsAre.append hhs hys3'
          case c2 => assumption
          case c3 => assumption
    case done =>
      intro m₂ nw h1 tk1 hJJ F N
      obtain ⟨H, hs, kh, oj, od, vj, vd, hhs, hHl, d2, d3, rfl, e1⟩ := hJJ
      have F1 := Fr.lits F [(Str.ofString "hooks", .ref H)] (by simp only [List.forall_mem_cons]; exact ⟨e1, fun _ h => nomatch h⟩)
      clear F
      obtain ⟨r1, r2, r3, r4, r5, r6, r7⟩ := hk_lt hPl hHl lt1' lt2' lt3' lt4'
      dsimp only
      k_steps
      dsimp only
      refine hTz _ _ ?_
      refine hret _ [(H, W.listOf hs.toArray kh)] _ _ F1.keep (fun p hp => (N p (.tail _ (.tail _ (.tail _ (.tail _ (.tail _ hp)))))).1) ?_ ⟨H, hs, kh, rfl, by rw [hPN]; exact hhs, rfl⟩
      simp only [List.forall_mem_cons]
      refine ⟨⟨(N _ (.head _)).1, (N _ (.head _)).2.2, ?_⟩, fun _ h => nomatch h⟩
      simp only [wsTl, List.forall_mem_cons]
      exact ⟨Nat.ne_of_lt r4, Nat.ne_of_lt r5, Nat.ne_of_lt r6, Nat.ne_of_lt r7, fun _ h => nomatch h⟩
end Mine
end

/-! LawK -/
section
open PySem PySem.W PySem.Spec PySem.Calls PyProof.Rows
set_option maxRecDepth 100000
set_option maxHeartbeats 8000000
namespace Mine
/-- the hooks of a page -/
noncomputable def hkF (st : WsSt) : List Int := hooksN (partsN st.cs (st.cs.length - 1)) (st.cs.length - 1)
noncomputable def wholeF (d : Nat) (st : WsSt) : List Int := (hkF st).filter fun z => decide (z.fmod (d : Int) = 0)
theorem PgB.hook {st : WsSt} (h : PgB st) : st.cs.length ≤ 30 ∧ ∀ c ∈ st.cs, 0 ≤ c ∧ c ≤ 30 := ⟨h.1, h.2.1⟩
local macro_rules | `(tactic| walk_at "call ref") => `(tactic| (refine stop_at ?_))
local macro_rules | `(tactic| walk_at "exec Assign cons ListComp") => `(tactic| (refine stop_at ?_))
/-- statement 18: whole -/
theorem lawA18 {w : World} {mean : ExcName → Option Value} {mg mb : Str → Option Value} {fa : Addr} {cd : Value} {g h1 : Heap} {L : Addr} {tk : Tok} {s : Shared} {d : Nat} {y1 : Str} {st1 : WsSt} {v1 : Value} {tl1 oth : List (Addr × Obj)} {c1 c2 c3 c4 c5 c6 c7 : Obj} {m : Str → Option Value} {t1 : Tok} {Q : Flow → Shared → Prop}
   (C : Cx w mean mg mb g) (hd2 : 2 ≤ d) (hd4 : d ≤ 4) (hb1 : PgB st1) (hl : (hkF st1).length ≤ 100000) (hW1 : WsIs w y1 st1 v1 tl1) (hsub : ∀ p ∈ tl1, p ∈ oth)
   (d1 : c1.data = .cell (some (.int (d : Int) t1))) (e1 : m (Str.ofString "first") = some v1)
   (F : Fr g L h1 m) (N : News g L h1 (cellsL L c1 c2 c3 c4 c5 c6 c7 ++ oth))
   (next : ∀ D ws h' tk', IntsAre ws (wholeF d st1) → LCg.Off1 D (cellsL L c1 c2 c3 c4 c5 c6 c7 ++ oth) → Fr g L h' (fun y => if y = Str.ofString "whole" then some (.ref D) else m y) → News g L h' ((D, W.listOf ws.toArray ws.length) :: (cellsL L c1 c2 c3 c4 c5 c6 c7 ++ oth)) → LawAt w L fa cd 19 Q { s with heap := h', toks := tk' }) :
   LawAt w L fa cd 18 Q { s with heap := h1, toks := tk } := by
  refine LawAt.cut 1 ?_
  unfold lawA lawEnv
  conv in (occs := *) lawScope => all_goals whnf
  conv in List.drop _ _ => whnf
  dsimp only [List.take]
  obtain ⟨B0, X, T⟩ := C
  revert X
  k_fill
  w_on
  intro X
  have T := T
  have hps : ∀ p_1 ∈ [(Str.ofString "first", v1)], m p_1.1 = some p_1.2 := by simp only [List.forall_mem_cons]; exact ⟨e1, fun _ h => nomatch h⟩
  have F3 := Fr.lits F [(Str.ofString "first", v1)] hps
  clear F
  have HW1 := hW1
  simp only [cellsL, List.cons_append, List.nil_append] at N
  obtain ⟨x1, dx1, Ta1, Ca1, vs1, j0, j1, j2, j3, j4, j5, j6, j7, j8, rfl, hvs1, n1, n2, n3, n4, n5, n6, rfl⟩ := hW1
  (try dsimp only)
  (try k_fold)
  k_steps
  refine Assign_M (F₀ := by k_asm) (by rfl) (by with_unfolding_all rfl) (by with_unfolding_all rfl) (by decide) (by rfl) (by decide) (by rfl) (by rfl) (by rfl) ?_
  (try dsimp only)
  k_steps
  rename Fr _ _ _ _ => FF
  refine' CtrL.use (c_hooks w mean mg mb y1 st1 x1 _ HW1) B0 FF N (fun p hp => .tail _ (.tail _ (.tail _ (.tail _ (.tail _ (.tail _ (.tail _ (hsub p hp)))))))) X T rfl rfl rfl rfl hb1.hook (law_dp _ (by decide)) (law_un _ (by decide)) ?_
  rintro v out h3 tk3 F4 N4 off4 ⟨H, hs, kh, rfl, hhs, rfl⟩
  rw [show hooksN (partsN st1.cs (st1.cs.length - 1)) (st1.cs.length - 1) = hkF st1 from rfl] at hhs
  simp only [List.cons_append, List.nil_append] at N4
  have hsz : hs.toArray.size = (hkF st1).length := by rw [List.size_toArray, hhs.length]
  have hdz : (d : Int) ≠ 0 := by omega
  clear FF N
  dsimp only
  k_steps
  refine LCt.CompSrcT.ledger (by rfl) (by k_asm) (by k_asm) (.head _) (line_up (by rw [hsz]; exact hl)) ?_
  intro g2
  refine restTE IntIs (fun j => decide (((hkF st1).getD j 0).fmod (d : Int) = 0)) (fun j => (hkF st1).getD j 0) (.inr ⟨_, .head _, rfl, _, rfl⟩) ?_ ?_
  · rintro i2 v2 I2 oI2 C2 oC2 D2 m₃ ys h4 tk4 E4 hi2 hv2 hC2 hx2 F5 N6
    obtain ⟨y, t7, rfl, hy⟩ := IntsAre.at hhs i2 v2 (by simpa using hv2)
    have hy2 : (hkF st1).getD i2 0 = y := by rw [List.getD_eq_getElem?_getD, hy]; rfl
    rw [hy2]
    dsimp only
    k_steps
    · exact ⟨⟨_, rfl⟩, decide_eq_true (by assumption), _, rfl⟩
    · exact ⟨⟨_, rfl⟩, decide_eq_false (by assumption)⟩
  · intro ys hys
    rw [hsz, range_filter_mapP (hkF st1) (fun z => decide (z.fmod (d : Int) = 0))] at hys
    have hys' : IntsAre ys (wholeF d st1) := hys.ints
    intro D h4 tk4 F5 N6 off5
    dsimp only
    k_steps
    rename News _ _ _ _ => NN
    rename Fr _ _ _ _ => FF
    refine next D ys _ _ hys' off5.2 (Fr.unlits1 [(Str.ofString "first", .ref x1)] FF hps) (fun p hp => NN p ?_)
    rcases List.mem_cons.mp hp with rfl | hp
    · exact .head _
    · exact .tail _ (.tail _ hp)
end Mine
end

/-! LawM -/
section
open PySem PySem.W PySem.Spec PySem.Calls PyProof.Rows
set_option maxRecDepth 100000
set_option maxHeartbeats 8000000
namespace Mine
/-- the hooks of the rows of one remainder, the first i of them -/
noncomputable def partedF (d : Nat) (r : List Bool) : Nat → List Int
  | 0 => []
  | i + 1 => partedF d r i ++ (hkF (pgF (strandL d i r))).map fun z => (d : Int) * z
theorem partedF_s (d : Nat) (r : List Bool) (i : Nat) : partedF d r (i + 1) = partedF d r i ++ (hkF (pgF (strandL d i r))).map fun z => (d : Int) * z := rfl
local macro_rules | `(tactic| walk_at "call ref") => `(tactic| (refine stop_at ?_))
local macro_rules | `(tactic| walk_at "call builtin:list.extend") => `(tactic| (refine stop_at ?_))
local macro_rules | `(tactic| walk_at "exec For Name Call cons nil") => `(tactic| (refine stop_at ?_))
local macro_rules | `(tactic| walk_at "eval ListComp") => `(tactic| (refine stop_at ?_))
local macro_rules | `(tactic| k_all) => `(tactic| with_reducible assumption)
theorem news_mid {g h : Heap} {L : Addr} {a : Addr × Obj} {tl rest : List (Addr × Obj)} (N : News g L h ([a] ++ (tl ++ rest))) : News g L h (a :: rest) := fun p hp => N p (by
  rcases List.mem_cons.mp hp with rfl | hp
  · exact .head _
  · exact .tail _ (List.mem_append_right tl hp))
theorem allLt_ne {P : Nat} {l : List (Addr × Obj)} (h : AllLt P l) : ∀ p ∈ l, p.1 ≠ P := by
  induction l with
  | nil => exact fun _ hp => nomatch hp
  | cons x r ih =>
    intro p hp
    rcases List.mem_cons.mp hp with rfl | hp
    · exact Nat.ne_of_lt h.1
    · exact ih h.2 p hp
theorem partedF_len {d : Nat} {r : List Bool} (h : ∀ i, i < d → (hkF (pgF (strandL d i r))).length ≤ 1000) : ∀ i, i ≤ d → (partedF d r i).length ≤ 1000 * i
  | 0, _ => Nat.zero_le _
  | i + 1, hi => by
    have h1 := partedF_len h i (by omega)
    have h2 := h i (by omega)
    simp only [partedF_s, List.length_append, List.length_map]
    omega
/-- what the loop keeps -/
inductive PaJ (L : Addr) (c1 c2 c3 c4 c5 c7 : Obj) (oth : List (Addr × Obj)) (zs : List Int) (m m' : Str → Option Value) (nw : List (Addr × Obj)) : Prop
  | mk (P : Addr) (ps : List Value) (kp : Nat) (c6 : Obj) (v6 : Option Value) (h1 : IntsAre ps zs) (lt : @LT.lt Nat _ (L + 1 + 1 + 1 + 1 + 1 + 1 + 1) P) (ho : ∀ p ∈ oth, p.1 ≠ P) (d6 : c6.data = .cell v6)
    (hnw : nw = (P, W.listOf ps.toArray kp) :: (cellsL L c1 c2 c3 c4 c5 c6 c7 ++ oth)) (hmP : m' (Str.ofString "parted") = some (.ref P)) (hm : ∀ y, y ≠ Str.ofString "parted" → m' y = m y)
/-- statements 19, 20: parted -/
theorem lawA19 {w : World} {mean : ExcName → Option Value} {mg mb : Str → Option Value} {fa : Addr} {cd : Value} {g h1 : Heap} {L : Addr} {tk : Tok} {s : Shared} {d : Nat} {r0 : List Bool} {oth : List (Addr × Obj)} {c1 c2 c3 c4 c5 c6 c7 : Obj} {m : Str → Option Value} {t1 u1 : Tok} {v6 : Option Value} {Q : Flow → Shared → Prop}
   (C : Cx w mean mg mb g) (hd2 : 2 ≤ d) (hd4 : d ≤ 4) (hr0 : r0.length = 12) (hbS : ∀ i, i < d → PgB (pgF (strandL d i r0)) ∧ (hkF (pgF (strandL d i r0))).length ≤ 1000 ∧ ∀ z ∈ hkF (pgF (strandL d i r0)), -1000 ≤ z ∧ z ≤ 1000)
   (d1 : c1.data = .cell (some (.int (d : Int) t1))) (d6 : c6.data = .cell v6) (e3 : m (Str.ofString "start") = some (.str (txt r0) u1)) (ho6 : ∀ p ∈ oth, p.1 ≠ L + 1 + 1 + 1 + 1 + 1 + 1)
   (F : Fr g L h1 m) (N : News g L h1 (cellsL L c1 c2 c3 c4 c5 c6 c7 ++ oth))
   (next : ∀ P ps kp c6 m' h' tk', IntsAre ps (partedF d r0 d) → (∀ y, y ≠ Str.ofString "parted" → m' y = m y) → m' (Str.ofString "parted") = some (.ref P) → Fr g L h' m' → News g L h' ((P, W.listOf ps.toArray kp) :: (cellsL L c1 c2 c3 c4 c5 c6 c7 ++ oth)) → LawAt w L fa cd 21 Q { s with heap := h', toks := tk' }) :
   LawAt w L fa cd 19 Q { s with heap := h1, toks := tk } := by
  refine LawAt.cut 2 ?_
  unfold lawA lawEnv
  conv in (occs := *) lawScope => all_goals whnf
  conv in List.drop _ _ => whnf
  dsimp only [List.take]
  obtain ⟨B0, X, T⟩ := C
  revert X
  k_fill
  w_on
  intro X
  have T := T
  simp only [cellsL, List.cons_append, List.nil_append] at N
  (try dsimp only)
  (try k_fold)
  k_steps
  refine For_at (by k_asm) ?_
  (try dsimp only)
  k_steps
  refine' iterI_range (n := d) (fun i m' nw => PaJ L c1 c2 c3 c4 c5 c7 oth (partedF d r0 i) m m' nw) rfl (by assumption) (small_up (by omega)) (rsize_up d) ?F ?N ?J ?turn ?done
  case F => k_asm
  case N => k_asm
  case J =>
    rename (_ < _ ∧ _) => l1
    refine' ⟨_, [], 0, c6, v6, .nil, l1.1, allLt_ne l1.2.2.2.2.2.2.2, d6, rfl, rfl, ?m⟩
    intro y hy
    exact if_neg hy
  case done =>
    intro m₁ nw h2 tk2 hJJ F2 N2
    obtain ⟨P, ps, kp, c6, v6, hps, lt, hoP, d6, rfl, hmP, hm⟩ := hJJ
    dsimp only
    k_steps
    exact next P ps kp c6 m₁ _ _ hps hm hmP F2 N2
  case turn =>
    intro i q ti m₁ nw I oI h2 tk2 hi hq hJJ F2 N2 off Tq hTq
    obtain ⟨P, ps, kp, c6, v6, hps, lt, hoP, d6, rfl, hmP, hm⟩ := hJJ
    have e3' : m₁ (Str.ofString "start") = some (.str (txt r0) u1) := (hm _ (by decide)).trans e3
    have F3 := Fr.lits F2 [(Str.ofString "parted", .ref P), (Str.ofString "start", .str (txt r0) u1)] (by simp only [List.forall_mem_cons]; exact ⟨hmP, e3', fun _ h => nomatch h⟩)
    clear F2
    simp only [cellsL, List.cons_append, List.nil_append] at N2
    simp only [cellsL, List.cons_append, List.nil_append, List.forall_mem_cons] at off
    obtain ⟨f1, f2, f3, f4, f5, f6, f7, f8, f9⟩ := off
    have f1 := neN f1
    have f2 := neN f2
    have f3 := neN f3
    have f4 := neN f4
    have f5 := neN f5
    have f6 := neN f6
    have f7 := neN f7
    have f8 := neN f8
    obtain ⟨q1, q2, q3, q4, q5, q6⟩ := h_lt lt
    have hqi : q = (i : Int) := hq.trans (by simp)
    subst hqi
    obtain ⟨hb, hl1, hl2⟩ := hbS i hi
    have hxl : (txt r0).length = 12 := (txt_len r0).trans hr0
    have hst := @strand_is d i r0 hd2 hd4 hi hr0
    dsimp only
    k_steps
    refine ListComp_N (F₀ := by k_asm) (by with_unfolding_all rfl) (by decide) (by rfl) (by decide) (by rfl) ?_
    (try dsimp only)
    k_steps
    rename News _ _ _ _ => NN
    rename Fr _ _ _ _ => FF
    refine' Ctr.use (c_strand w mean mg mb (txt r0) (i : Int) (d : Int) _ _ _) B0 FF NN X T rfl rfl rfl rfl ⟨hxl, by omega, by omega, by omega, by omega⟩ (law_dp _ (by decide)) (law_un _ (by decide)) ?_
    rintro v tl h3 tk3 F4 N4 off4 ⟨n, hn, t6, rfl⟩
    have N5 : News g L h3 _ := fun p hp => N4 p (List.mem_append_right _ hp)
    clear N4 off4 NN FF
    rw [hst hn]
    dsimp only
    k_steps
    rename Fr _ _ _ _ => FF
    refine' Ctr.use (c_page w mean mg mb (strandL d i r0) _) B0 FF N5 X T rfl rfl rfl rfl (strand_len hd2 hi hr0) (law_dp _ (by decide)) (law_un _ (by decide)) ?_
    rintro v tl h4 tk4 F5 N6 off5 hW
    have HW := hW
    obtain ⟨x1, dx1, Ta1, Ca1, vs1, j0, j1, j2, j3, j4, j5, j6, j7, j8, rfl, hvs1, n1, n2, n3, n4, n5, n6, rfl⟩ := hW
    clear off5 FF
    dsimp only
    k_steps
    rename Fr _ _ _ _ => FF
    refine' CtrL.use (c_hooks w mean mg mb _ (pgF (strandL d i r0)) x1 _ HW) B0 FF N6 (fun p hp => List.mem_append_left _ hp) X T rfl rfl rfl rfl hb.hook (law_dp _ (by decide)) (law_un _ (by decide)) ?_
    rintro v out h5 tk5 F6 N7 off7 ⟨H, hs, kh, rfl, hhs, rfl⟩
    have N8 := news_mid N7
    have hPH : @Ne Nat P H := off7 (P, W.listOf ps.toArray kp) (List.mem_append_right _ (.tail _ (.head _))) _ (.head _)
    clear N7 FF off7
    rw [show hooksN (partsN (pgF (strandL d i r0)).cs ((pgF (strandL d i r0)).cs.length - 1)) ((pgF (strandL d i r0)).cs.length - 1) = hkF (pgF (strandL d i r0)) from rfl] at hhs
    have hsz : hs.toArray.size = (hkF (pgF (strandL d i r0))).length := by rw [List.size_toArray, hhs.length]
    have hpl := partedF_len (d := d) (r := r0) (fun i hi => (hbS i hi).2.1) i (by omega)
    have hpsl := hps.length
    generalize hK : hkF (pgF (strandL d i r0)) = K at hhs hsz hl1 hl2
    refine LCg.CompSrc.ledger (by rfl) (by k_asm) (by k_asm) (.head _) (line_up (by rw [hsz]; exact Nat.le_trans hl1 (by decide))) ?_
    intro g2
    refine restUE IntIs (fun j => (d : Int) * K.getD j 0) (.inr ⟨_, .head _, rfl, _, rfl⟩) ?_ ?_
    · rintro i2 v2 I2 oI2 C2 oC2 D2 m₃ ys h6 tk6 E6 hi2 hv2 hC2 hx2 F7 N9
      obtain ⟨y, t7, rfl, hy⟩ := IntsAre.at hhs i2 v2 (by simpa using hv2)
      have hy2 : K.getD i2 0 = y := by rw [List.getD_eq_getElem?_getD, hy]; rfl
      obtain ⟨hy3, hy4⟩ := hl2 y (List.mem_of_getElem? hy)
      rw [hy2]
      dsimp only
      k_steps
      exact ⟨⟨_, rfl⟩, _, rfl⟩
    · intro ys hys
      have eK : (List.range hs.toArray.size).map (fun j => (d : Int) * K.getD j 0) = K.map fun z => (d : Int) * z := by
        rw [hsz]
        have := congrArg (List.map fun z => (d : Int) * z) (range_map_getD' K)
        rw [List.map_map] at this
        exact this
      rw [eK] at hys
      have hys' := hys.ints
      have hyl := hys'.length
      rw [List.length_map] at hyl
      intro D h6 tk6 F7 N9 off9
      obtain ⟨p1, p2, p3, p4, p5⟩ := off9
      dsimp only
      k_steps
      rename Fr _ _ _ _ => FF
      refine extendK FF N9 (.head _) (.tail (Ne.symm p3) (.tail (Ne.symm hPH) (.tail (Ne.symm f1) (.head ?_)))) (by omega) ?_
      · simp only [List.forall_mem_cons]
        exact ⟨Nat.ne_of_lt lt, Nat.ne_of_lt q1, Nat.ne_of_lt q2, Nat.ne_of_lt q3, Nat.ne_of_lt q4, Nat.ne_of_lt q5, Nat.ne_of_lt q6, hoP⟩
      · intro h8 k8 F10 N10
        dsimp only
        k_steps
        refine hTq _ _ ?_
        refine' ⟨_, _, _, _, rfl, F10, (fun p hp => N10 p (.tail _ (.tail _ hp))), ?off, P, _, _, _, _, ?hin, lt, hoP, ?c6, rfl, rfl, ?hm⟩
        case c6 => assumption
        case off =>
          simp only [List.forall_mem_cons]
          exact ⟨f1, f2, f3, f4, f5, f6, f7, f8, f9⟩
        case hin =>
          rw [partedF_s, hK]
          exact IntsAre.append hps hys'
        case hm =>
          intro y h1
          show (if y = _ then _ else if y = _ then _ else m₁ y) = _
          rw [if_neg h1]
          split
          · rename y = _ => hy
            rw [hy, e3]
          · exact hm y h1
end Mine
end

/-! LawN -/
section
open PySem PySem.W PySem.Spec PySem.Calls PyProof.Rows
set_option maxRecDepth 100000
set_option maxHeartbeats 8000000
namespace Mine
theorem perm_sorted {a b : List Int} (p : a.Perm b) (ha : a.Pairwise (· ≤ ·)) (hb : b.Pairwise (· ≤ ·)) : a = b := by
  induction a generalizing b with
  | nil => exact p.nil_eq
  | cons x r ih =>
    cases b with
    | nil => exact absurd p.symm.nil_eq (by simp)
    | cons y t =>
      have h1 := List.pairwise_cons.mp ha
      have h2 := List.pairwise_cons.mp hb
      have e : x = y := by
        rcases List.mem_cons.mp (p.mem_iff.mp (List.mem_cons_self (a := x) (l := r))) with e | hx
        · exact e
        · rcases List.mem_cons.mp (p.mem_iff.mpr (List.mem_cons_self (a := y) (l := t))) with e | hy
          · exact e.symm
          · exact Int.le_antisymm (h1.1 y hy) (h2.1 x hx)
      subst e
      rw [ih (List.Perm.cons_inv p) h1.2 h2.2]
local macro_rules | `(tactic| walk_at "call builtin:sorted") => `(tactic| (refine stop_at ?_))
/-- statement 21: the hooks of both -/
theorem lawA21 {w : World} {mean : ExcName → Option Value} {mg mb : Str → Option Value} {fa : Addr} {cd : Value} {g h1 : Heap} {L : Addr} {tk : Tok} {s : Shared} {k : Nat} {W P : Addr} {wl pl : List Int} {ws ps : List Value} {kw kp : Nat} {news : List (Addr × Obj)} {m : Str → Option Value} {t2 : Tok} {Q : Flow → Shared → Prop}
   (C : Cx w mean mg mb g) (hws : IntsAre ws wl) (hps : IntsAre ps pl) (hl1 : wl.length < 64) (hk : wl.length = k) (hperm : wl.Perm pl)
   (e1 : m (Str.ofString "whole") = some (.ref W)) (e2 : m (Str.ofString "parted") = some (.ref P)) (e4 : m (Str.ofString "moves") = some (.int (k : Int) t2))
   (F : Fr g L h1 m) (N : News g L h1 ((P, PySem.W.listOf ps.toArray kp) :: (W, PySem.W.listOf ws.toArray kw) :: news))
   (next : ∀ h' tk', Fr g L h' m → News g L h' news → LawAt w L fa cd 22 Q { s with heap := h', toks := tk' }) :
   LawAt w L fa cd 21 Q { s with heap := h1, toks := tk } := by
  refine LawAt.cut 1 ?_
  unfold lawA lawEnv
  conv in (occs := *) lawScope => all_goals whnf
  conv in List.drop _ _ => whnf
  dsimp only [List.take]
  obtain ⟨B0, X, T⟩ := C
  revert X
  k_fill
  w_on
  intro X
  have T := T
  have hps' : ∀ p_1 ∈ [(Str.ofString "whole", Value.ref W), (Str.ofString "parted", .ref P), (Str.ofString "moves", .int (k : Int) t2)], m p_1.1 = some p_1.2 := by simp only [List.forall_mem_cons]; exact ⟨e1, e2, e4, fun _ h => nomatch h⟩
  have F3 := Fr.lits F [(Str.ofString "whole", Value.ref W), (Str.ofString "parted", .ref P), (Str.ofString "moves", .int (k : Int) t2)] hps'
  clear F
  (try dsimp only)
  (try k_fold)
  have hl2 : pl.length < 64 := by rw [← hperm.length_eq]; exact hl1
  k_steps
  · rename Fr _ _ _ _ => FF
    rename News _ _ _ _ => NN
    refine kso_sorted FF NN (News.isList NN (.tail _ (.head _))) hws hl1 ?_
    intro D1 vs1 ns1 q1 h2 F2 N2 l1 i1 _ p1 o1 _
    dsimp only
    k_steps
    rename Fr _ _ _ _ => FF
    rename News _ _ _ _ => NN
    refine kso_sorted FF NN (News.isList NN (.tail _ (.head _))) hps hl2 ?_
    intro D2 vs2 ns2 q2 h3 F3 N3 l2 i2 _ p2 o2 _
    have e : ns1 = ns2 := perm_sorted ((p1.trans hperm).trans p2.symm) o1 o2
    subst e
    have hl3 : ns1.length < 64 := by rw [p1.length_eq]; exact hl1
    dsimp only
    k_steps
    rename Fr _ _ _ _ => FF
    rename News _ _ _ _ => NN
    exact next _ _ (Fr.unlits [(Str.ofString "whole", Value.ref W), (Str.ofString "parted", .ref P), (Str.ofString "moves", .int (k : Int) t2)] FF hps') (fun p hp => NN p (.tail _ (.tail _ (.tail _ (.tail _ hp)))))
local macro_rules | `(tactic| walk_at "call ref") => `(tactic| (refine stop_at ?_))
local macro_rules | `(tactic| walk_at "eval ListComp") => `(tactic| (refine stop_at ?_))
/-- statement 22: no hook is left -/
theorem lawA22 {w : World} {mean : ExcName → Option Value} {mg mb : Str → Option Value} {fa : Addr} {cd : Value} {g h1 : Heap} {L : Addr} {tk : Tok} {s : Shared} {d : Nat} {y1 : Str} {st1 : WsSt} {v1 : Value} {tl1 oth : List (Addr × Obj)} {c1 c2 c3 c4 c5 c6 c7 : Obj} {m : Str → Option Value} {t1 : Tok} {Q : Flow → Shared → Prop}
   (C : Cx w mean mg mb g) (hd2 : 2 ≤ d) (hb1 : PgB st1) (hl : (hkF st1).length ≤ 100000) (hW1 : WsIs w y1 st1 v1 tl1) (hsub : ∀ p ∈ tl1, p ∈ oth) (hnil : wholeF d st1 = [])
   (d1 : c1.data = .cell (some (.int (d : Int) t1))) (e1 : m (Str.ofString "last") = some v1)
   (F : Fr g L h1 m) (N : News g L h1 (cellsL L c1 c2 c3 c4 c5 c6 c7 ++ oth))
   (fin : ∀ m' h' tk', Fr g L h' m' → Q (.ret (.bool true)) { s with heap := h', toks := tk' }) :
   LawAt w L fa cd 22 Q { s with heap := h1, toks := tk } := by
  refine LawAt.cut 1 ?_
  unfold lawA lawEnv
  conv in (occs := *) lawScope => all_goals whnf
  conv in List.drop _ _ => whnf
  dsimp only [List.take]
  obtain ⟨B0, X, T⟩ := C
  revert X
  k_fill
  w_on
  intro X
  have T := T
  have hps : ∀ p_1 ∈ [(Str.ofString "last", v1)], m p_1.1 = some p_1.2 := by simp only [List.forall_mem_cons]; exact ⟨e1, fun _ h => nomatch h⟩
  have F3 := Fr.lits F [(Str.ofString "last", v1)] hps
  clear F
  have HW1 := hW1
  simp only [cellsL, List.cons_append, List.nil_append] at N
  obtain ⟨x1, dx1, Ta1, Ca1, vs1, j0, j1, j2, j3, j4, j5, j6, j7, j8, rfl, hvs1, n1, n2, n3, n4, n5, n6, rfl⟩ := hW1
  (try dsimp only)
  (try k_fold)
  k_steps
  refine ListComp_M (F₀ := by k_asm) (by with_unfolding_all rfl) (by decide) (by rfl) (by decide) (by rfl) ?_
  (try dsimp only)
  k_steps
  rename Fr _ _ _ _ => FF
  refine' CtrL.use (c_hooks w mean mg mb y1 st1 x1 _ HW1) B0 FF N (fun p hp => .tail _ (.tail _ (.tail _ (.tail _ (.tail _ (.tail _ (.tail _ (hsub p hp)))))))) X T rfl rfl rfl rfl hb1.hook (law_dp _ (by decide)) (law_un _ (by decide)) ?_
  rintro v out h3 tk3 F4 N4 off4 ⟨H, hs, kh, rfl, hhs, rfl⟩
  rw [show hooksN (partsN st1.cs (st1.cs.length - 1)) (st1.cs.length - 1) = hkF st1 from rfl] at hhs
  simp only [List.cons_append, List.nil_append] at N4
  have hsz : hs.toArray.size = (hkF st1).length := by rw [List.size_toArray, hhs.length]
  have hdz : (d : Int) ≠ 0 := by omega
  clear FF N
  dsimp only
  k_steps
  refine LCt.CompSrcT.ledger (by rfl) (by k_asm) (by k_asm) (.head _) (line_up (by rw [hsz]; exact hl)) ?_
  intro g2
  refine restTE IntIs (fun j => decide (((hkF st1).getD j 0).fmod (d : Int) = 0)) (fun j => (hkF st1).getD j 0) (.inr ⟨_, .head _, rfl, _, rfl⟩) ?_ ?_
  · rintro i2 v2 I2 oI2 C2 oC2 D2 m₃ ys h4 tk4 E4 hi2 hv2 hC2 hx2 F5 N6
    obtain ⟨y, t7, rfl, hy⟩ := IntsAre.at hhs i2 v2 (by simpa using hv2)
    have hy2 : (hkF st1).getD i2 0 = y := by rw [List.getD_eq_getElem?_getD, hy]; rfl
    rw [hy2]
    dsimp only
    k_steps
    · exact ⟨⟨_, rfl⟩, decide_eq_true (by assumption), _, rfl⟩
    · exact ⟨⟨_, rfl⟩, decide_eq_false (by assumption)⟩
  · intro ys hys
    rw [hsz, range_filter_mapP (hkF st1) (fun z => decide (z.fmod (d : Int) = 0))] at hys
    have hys' : IntsAre ys (wholeF d st1) := hys.ints
    rw [hnil] at hys'
    intro D h4 tk4 F5 N6 off5
    dsimp only
    k_steps
    rename Fr _ _ _ _ => FF
    exact fin _ _ _ FF
end Mine
end

/-! LawQ -/
section
open PySem PySem.W PySem.Spec PySem.Calls PyProof.Rows
set_option maxRecDepth 100000
set_option maxHeartbeats 8000000
namespace Mine
/-- what the plain mathematics says of a row's end -/
structure EndOk (d x : Nat) (r : List Bool) (k p : Nat) : Prop where
  hX : numL r < 4096
  hW : flagsF (numL r) = wordsF (homesI d x)
  par : ((p : Int) - (crossF (homesI d x) : Int)).fmod 2 = 0
  hk : k ≤ 1000
  b1 : PgB (pgF (rowL x))
  b2 : PgB (pgF r)
  ind : indF (pgF (rowL x)) - indF (pgF r) = (d : Int) * (k : Int)
  l1 : (hkF (pgF (rowL x))).length ≤ 100000
  l2 : (hkF (pgF r)).length ≤ 100000
  bS : ∀ i, i < d → PgB (pgF (strandL d i (rowL x))) ∧ (hkF (pgF (strandL d i (rowL x)))).length ≤ 1000 ∧ ∀ z ∈ hkF (pgF (strandL d i (rowL x))), -1000 ≤ z ∧ z ≤ 1000
  wl : (wholeF d (pgF (rowL x))).length < 64
  wk : (wholeF d (pgF (rowL x))).length = k
  perm : (wholeF d (pgF (rowL x))).Perm (partedF d (rowL x) d)
  nil : wholeF d (pgF r) = []
theorem homes_len (d x : Nat) : (homesI d x).length ≤ 12 := by unfold homesI; rw [List.length_map]; exact bitsI_len x
/-- the law, walked whole -/
theorem law_run {w : World} {mean : ExcName → Option Value} {mg mb : Str → Option Value} {fa : Addr} {cd : Value} {g h1 : Heap} {L : Addr} {tk : Tok} {s : Shared} {l : Addr} {vs : List Value} {ns : List Int} {c1 c2 c3 c4 c5 c6 c7 : Obj} {Q : Flow → Shared → Prop}
   (plain : ∀ d x r k p, 2 ≤ d → d ≤ 4 → x < 4096 → r.length = 12 → Run d (rowL x) r k p → freeN d r = [] → EndOk d x r k p)
   (C : Cx w mean mg mb g) (hl : g.IsList l vs.toArray) (hI : IntsAre vs ns) (hlen : ns.length ≤ 63)
   (d1 : c1.data = .cell none) (d2 : c2.data = .cell none) (d3 : c3.data = .cell none) (d4 : c4.data = .cell none) (d5 : c5.data = .cell none) (d6 : c6.data = .cell none) (d7 : c7.data = .cell none)
   (F : Fr g L h1 (fun y => if y = Str.ofString "script" then some (.ref l) else none)) (N : News g L h1 (cellsL L c1 c2 c3 c4 c5 c6 c7))
   (fin : ∀ m' h' tk', Fr g L h' m' → Q (.ret (.bool true)) { s with heap := h', toks := tk' }) :
   LawAt w L fa cd 0 Q { s with heap := h1, toks := tk } := by
  refine lawA0 C hl hI hlen F N ?_
  intro R ws r0 r1 r2 h2 tk2 F2 N2 hR hws
  refine lawA1 C hws hR d1 d2 F2 N2 ?_
  intro x d c1 c2 t1 t2 h3 tk3 hx hd2 hd4 hxe F3 N3 d1 d2
  refine lawA3 C hR d2 F3 N3 ?_
  intro B bs h4 tk4 hbs hB F4 N4
  refine lawA4 C hws hR hxe d4 hB F4 N4 ?_
  intro c4 t4 h5 tk5 d4 F5 N5
  refine lawA5 C hR hx d4 hbs hB F5 N5 ?_
  intro h6 tk6 F6 N6
  refine lawA6 C hR d4 d5 hB F6 N6 ?_
  intro h7 tk7 c5 m u1 u2 u3 u5 F7 e1 e2 e3 e4 e5 d5 N7
  refine lawA10 C d3 d5 d6 F7 e1 e2 e3 e4 e5 N7 (law_turn C hl hI hlen hd2 hd4 d1 (fun _ _ _ _ _ _ _ => hB.2)) ?_
  intro r m nw h8 tk8 hfr hJJ F8 N8
  obtain ⟨k, p, c3, c5, c6, v3, v6, u1, u2, u3, u5, hrun, hr, e1, e2, e3, e4, e5, d3, d5, d6, rfl⟩ := hJJ
  have ok := plain d x r k p hd2 hd4 hx hr hrun hfr
  refine lawA11 C hd2 hd4 hbs (show LCg.Off1 B (cellsL L c1 c2 c3 c4 c5 c6 c7) from hB.2) d1 d3 d7 F8 e1 N8 ?_
  intro H hs kh c3 c7 v3 m9 h9 tk9 hhs hH d3 d7 hm F9 N9
  have e3 : m9 (Str.ofString "start") = some (.str (txt (rowL x)) u1) := (hm _ (by decide)).trans e3
  have e4 : m9 (Str.ofString "moves") = some (.int (k : Int) u2) := (hm _ (by decide)).trans e4
  have e5 : m9 (Str.ofString "passed") = some (.int (p : Int) u3) := (hm _ (by decide)).trans e5
  refine lawA13 C hr hhs (homes_len d x) ok.hX ok.hW d5 d7 F9 N9 ?_
  intro h10 tk10 F10 N10
  refine lawA14 C hhs (homes_len d x) d7 F10 N10 ?_
  intro D ys h11 tk11 hys F11 N11
  have hyl : ys.length ≤ 10000 := by
    rw [hys]
    refine Nat.le_trans (cnt2_le _ _) (Nat.le_trans (Nat.mul_le_mul (homes_len d x) (homes_len d x)) (by decide))
  refine lawA15 (m := (fun y => if y = Str.ofString "crossed" then some (.ref D) else m9 y)) (p := p) (t3 := u3) C hyl (by rw [hys]; exact ok.par) rfl e5 F11 N11 ?_
  intro h12 tk12 F12 N12
  refine lawA16 (m := (fun y => if y = Str.ofString "crossed" then some (.ref D) else m9 y)) (x := x) (r0 := rowL x) (u1 := u1) C hr (rowL_len x) d5 e3 F12 N12 ?_
  intro v1 v2 tl1 tl2 h13 tk13 hW1 hW2 hn1 hn2 F13 N13
  refine lawA17 (m := (fun y => if y = Str.ofString "first" then some v1 else if y = Str.ofString "last" then some v2 else if y = Str.ofString "crossed" then some (.ref D) else m9 y)) (st1 := pgF (rowL x)) (st2 := pgF r) (k := k) (t2 := u2) C hd4 ok.hk ok.b1 ok.b2 ok.ind hW1 hW2 d1 rfl rfl e4 F13 N13 ?_
  intro h14 tk14 F14 N14
  have N14' : News g L h14 (cellsL L c1 c2 c3 c4 c5 c6 c7 ++ (tl2 ++ tl1)) := fun q hq => N14 q (by
    rcases List.mem_append.mp hq with hq | hq
    · exact List.mem_append_right _ (List.mem_append_right _ hq)
    · rcases List.mem_append.mp hq with hq | hq
      · exact List.mem_append_left _ hq
      · exact List.mem_append_right _ (List.mem_append_left _ hq))
  refine lawA18 (m := (fun y => if y = Str.ofString "first" then some v1 else if y = Str.ofString "last" then some v2 else if y = Str.ofString "crossed" then some (.ref D) else m9 y)) (oth := tl2 ++ tl1) C hd2 hd4 ok.b1 ok.l1 hW1 (fun q hq => List.mem_append_right _ hq) d1 rfl F14 N14' ?_
  intro Dw ww h15 tk15 hww hDw F15 N15
  have N15' : News g L h15 (cellsL L c1 c2 c3 c4 c5 c6 c7 ++ ((Dw, W.listOf ww.toArray ww.length) :: (tl2 ++ tl1))) := fun q hq => N15 q (by
    rcases List.mem_append.mp hq with hq | hq
    · exact .tail _ (List.mem_append_left _ hq)
    · rcases List.mem_cons.mp hq with rfl | hq
      · exact .head _
      · exact .tail _ (List.mem_append_right _ hq))
  refine lawA19 (m := (fun y => if y = Str.ofString "whole" then some (.ref Dw) else if y = Str.ofString "first" then some v1 else if y = Str.ofString "last" then some v2 else if y = Str.ofString "crossed" then some (.ref D) else m9 y)) (u1 := u1) (oth := (Dw, W.listOf ww.toArray ww.length) :: (tl2 ++ tl1)) C hd2 hd4 (rowL_len x) ok.bS d1 d6 e3 ?_ F15 N15' ?_
  · intro q hq
    rcases List.mem_cons.mp hq with rfl | hq
    · exact Ne.symm hDw.2.1
    · exact Ne.symm (hn2 (L + 1 + 1 + 1 + 1 + 1 + 1, c6) (.tail _ (.head _)) q hq)
  · intro P ps kp c6 m16 h16 tk16 hps hm16 hmP F16 N16
    have w1 : m16 (Str.ofString "whole") = some (.ref Dw) := (hm16 _ (by decide)).trans rfl
    have w2 : m16 (Str.ofString "moves") = some (.int (k : Int) u2) := (hm16 _ (by decide)).trans e4
    have w3 : m16 (Str.ofString "last") = some v2 := (hm16 _ (by decide)).trans rfl
    refine lawA21 (news := cellsL L c1 c2 c3 c4 c5 c6 c7 ++ (tl2 ++ tl1)) (kw := ww.length) (kp := kp) C hww hps ok.wl ok.wk ok.perm w1 hmP w2 F16 (fun q hq => N16 q ?_) ?_
    · rcases List.mem_cons.mp hq with rfl | hq
      · exact .head _
      · rcases List.mem_cons.mp hq with rfl | hq
        · exact .tail _ (List.mem_append_right _ (.head _))
        · rcases List.mem_append.mp hq with hq | hq
          · exact .tail _ (List.mem_append_left _ hq)
          · exact .tail _ (List.mem_append_right _ (.tail _ hq))
    · intro h17 tk17 F17 N17
      exact lawA22 (oth := tl2 ++ tl1) C hd2 ok.b2 ok.l2 hW2 (fun q hq => List.mem_append_left _ hq) ok.nil d1 w3 F17 N17 fin
end Mine
end

/-! LawTop -/
section
open PySem PySem.W PySem.Spec PySem.Calls PyProof.Rows
set_option maxRecDepth 100000
set_option maxHeartbeats 8000000
namespace Mine
theorem law_top (plain : ∀ d x r k p, 2 ≤ d → d ≤ 4 → x < 4096 → r.length = 12 → Run d (rowL x) r k p → freeN d r = [] → EndOk d x r k p) : PySem.Challenge.rw_re0114_01.Holds := by
  refine hd ?_
  k_go0
  rename Below callerA _ _ _ => K0
  rename Fr _ _ _ _ => FF
  rename News _ _ _ _ => NN
  rename Frag.In _ _ => KX
  rename Top _ _ _ _ _ _ => TT
  rename Heap.IsList _ _ _ => hL
  rename IntsAre _ _ => hI
  rename ¬ (_ : Int) < _ => hc
  rename_i d7 d6 d5 d4 d3 d2 d1 x0
  refine wpAny_mono (law_run plain ⟨K0, KX, TT⟩ hL hI (by omega) (d1.trans rfl) (d2.trans rfl) (d3.trans rfl) (d4.trans rfl) (d5.trans rfl) (d6.trans rfl) (d7.trans rfl) FF NN ?_) (fun _ _ h => h) (fun _ _ h => h.elim)
  intro m' h' tk' F'
  dsimp only
  k_steps
end Mine
end

/-! M2 -/
section
open PySem PySem.W PySem.Spec PySem.Calls PyProof.Rows
set_option maxRecDepth 100000
namespace Mine
theorem snoc_ind {P : List Bool → Prop} (h0 : P []) (h1 : ∀ l b, P l → P (l ++ [b])) (l : List Bool) : P l := by
  have key : ∀ r : List Bool, P r.reverse := by
    intro r
    induction r with
    | nil => exact h0
    | cons b r ih => rw [List.reverse_cons]; exact h1 _ _ ih
  have := key l.reverse
  rwa [List.reverse_reverse] at this
theorem pageF_snoc (l : List Bool) (b : Bool) : pageF (l ++ [b]) = pageStep (pageF l) b := by
  unfold pageF; rw [List.foldl_append]; rfl
theorem wsF_app (a b : List Bool) : wsF (a ++ b) = b.foldl wsStep (wsF a) := by
  unfold wsF; rw [List.foldl_append]
theorem pageF_gaps (l : List Bool) : (pageF l).2 = List.replicate (l.count false) false := by
  induction l using snoc_ind with
  | h0 => rfl
  | h1 l b ih =>
    rw [pageF_snoc]
    cases b
    · simp only [pageStep, Bool.false_eq_true, if_false, ih, List.count_append]
      simp [List.replicate_succ']
    · simp [pageStep, ih, List.count_append]
theorem ws_blanks (k : Nat) (s : WsSt) : (List.replicate k false).foldl wsStep s = { s with n := s.n + k, b := s.b + k } := by
  induction k generalizing s with
  | zero => simp
  | succ k ih =>
    rw [List.replicate_succ, List.foldl_cons, ih]
    simp only [wsStep, Bool.false_eq_true, if_false]
    congr 1 <;> push_cast <;> omega
/-- the parts of sizes k .. 1 -/
noncomputable def partsD (cs : List Int) : Nat → List Int
  | 0 => []
  | k + 1 => List.replicate (cs.getD (k + 1) 0).toNat ((k + 1 : Nat) : Int) ++ partsD cs k
theorem partsD_s (cs : List Int) (k : Nat) : partsD cs (k + 1) = List.replicate (cs.getD (k + 1) 0).toNat ((k + 1 : Nat) : Int) ++ partsD cs k := rfl
theorem partsD_z (cs : List Int) : partsD cs 0 = [] := rfl
theorem flat_rep (n : Nat) (x : Int) : (List.replicate n [x]).flatten = List.replicate n x := by
  induction n with
  | zero => rfl
  | succ n ih => rw [List.replicate_succ, List.flatten_cons, ih]; rfl
theorem parts_mid (cs : List Int) : ∀ i, i ≤ cs.length - 1 → partsN cs i ++ partsD cs (cs.length - 1 - i) = partsD cs (cs.length - 1)
  | 0, _ => by simp [partsN]
  | i + 1, hi => by
    rw [← parts_mid cs i (Nat.le_of_lt hi), partsN_s, List.append_assoc]
    congr 1
    obtain ⟨k, hk⟩ : ∃ k, cs.length - 1 - i = k + 1 := Nat.exists_eq_succ_of_ne_zero (Nat.ne_of_gt (Nat.sub_pos_of_lt hi))
    rw [hk, Nat.sub_add_eq, hk, Nat.add_sub_cancel, partsD_s, flat_rep]
theorem parts_eq (cs : List Int) : partsN cs (cs.length - 1) = partsD cs (cs.length - 1) := by
  have := parts_mid cs (cs.length - 1) (Nat.le_refl _)
  rw [Nat.sub_self, partsD_z, List.append_nil] at this
  exact this
theorem partsD_congr {a b : List Int} : ∀ k, (∀ j, 1 ≤ j → j ≤ k → a.getD j 0 = b.getD j 0) → partsD a k = partsD b k
  | 0, _ => rfl
  | k + 1, h => by rw [partsD_s, partsD_s, h (k + 1) (by omega) (by omega), partsD_congr k fun j h1 h2 => h j h1 (by omega)]
theorem partsD_beyond (cs : List Int) : ∀ k, cs.length - 1 ≤ k → partsD cs k = partsD cs (cs.length - 1)
  | 0, h => by rw [show cs.length - 1 = 0 by omega]
  | k + 1, h => by
    by_cases e : cs.length - 1 = k + 1
    · rw [e]
    · rw [partsD_s, partsD_beyond cs k (by omega), List.getD_eq_getElem?_getD, List.getElem?_eq_none (by omega)]
      rfl
theorem pg_false (l : List Bool) : pgF (l ++ [false]) = pgF l := by
  unfold pgF; rw [pageF_snoc]; rfl
/-- the counts behind one more tab at G -/
noncomputable def csUp (cs : List Int) (G : Nat) : List Int :=
  let c := if cs.length ≤ G then cs ++ List.replicate (G - cs.length + 1) 0 else cs
  c.set G (c.getD G 0 + 1)
theorem pg_true {l : List Bool} (hb : (pgF l).b = 0) : (pgF (l ++ [true])).b = 0 ∧ (pgF (l ++ [true])).nt = (pgF l).nt + 1 ∧ (pgF (l ++ [true])).cs = csUp (pgF l).cs (l.count false) := by
  have e : pgF (l ++ [true]) = wsStep { pgF l with n := (pgF l).n + (l.count false : Nat), b := (pgF l).b + (l.count false : Nat) } true := by
    unfold pgF
    rw [pageF_snoc]
    simp only [pageStep, if_true]
    rw [wsF_app, wsF_app, pageF_gaps, ws_blanks]
    rfl
  rw [e, hb]
  refine ⟨rfl, rfl, ?_⟩
  unfold csUp
  simp only [wsStep, if_true, Int.zero_add, Int.toNat_natCast, flat_rep]
  by_cases h : (pgF l).cs.length ≤ l.count false
  · rw [if_pos (by omega), if_pos h]
    have : (((l.count false : Nat) : Int) - ((pgF l).cs.length : Int) + 1).toNat = l.count false - (pgF l).cs.length + 1 := by omega
    rw [this]
  · rw [if_neg (by omega), if_neg h]
theorem csUp_len {cs : List Int} {G : Nat} (h : cs.length ≤ G + 1) : (csUp cs G).length = G + 1 := by
  unfold csUp
  split <;> simp <;> omega
theorem csUp_get {cs : List Int} {G : Nat} (j : Nat) : (csUp cs G).getD j 0 = if j = G then cs.getD G 0 + 1 else cs.getD j 0 := by
  have key : ∀ c : List Int, (∀ j, c.getD j 0 = cs.getD j 0) → G < c.length → (c.set G (c.getD G 0 + 1)).getD j 0 = if j = G then cs.getD G 0 + 1 else cs.getD j 0 := by
    intro c hc hG
    rw [List.getD_eq_getElem?_getD, List.getElem?_set]
    by_cases e : G = j
    · subst e; rw [if_pos rfl, if_pos hG, if_pos rfl, hc]; rfl
    · rw [if_neg e, if_neg (fun q => e q.symm), ← List.getD_eq_getElem?_getD, hc]
  unfold csUp
  by_cases h : cs.length ≤ G
  · rw [if_pos h]
    refine key _ (fun j => ?_) (by simp; omega)
    rw [List.getD_eq_getElem?_getD, List.getD_eq_getElem?_getD]
    rcases Nat.lt_or_ge j cs.length with hj | hj
    · rw [List.getElem?_append_left hj]
    · rw [List.getElem?_append_right hj, List.getElem?_eq_none hj, List.getElem?_replicate]
      split <;> rfl
  · rw [if_neg h]
    exact key cs (fun _ => rfl) (by omega)
structure PgI (l : List Bool) : Prop where
  b : (pgF l).b = 0
  nt : (pgF l).nt = (l.count true : Int)
  len : (pgF l).cs.length ≤ l.count false + 1
  ent : ∀ j, 0 ≤ (pgF l).cs.getD j 0 ∧ (pgF l).cs.getD j 0 ≤ (l.count true : Int)
theorem pgI (l : List Bool) : PgI l := by
  induction l using snoc_ind with
  | h0 => exact ⟨rfl, rfl, by decide, fun j => by simp [pgF, pageF, wsF]⟩
  | h1 l t ih =>
    cases t
    · have e := pg_false l
      refine ⟨by rw [e]; exact ih.b, ?_, ?_, fun j => ?_⟩
      · rw [e, ih.nt]; simp [List.count_append]
      · rw [e]; have := ih.len; simp only [List.count_append, List.count_cons, List.count_nil]; omega
      · rw [e]; have := ih.ent j; simpa [List.count_append] using this
    · obtain ⟨e1, e2, e3⟩ := pg_true ih.b
      refine ⟨e1, ?_, ?_, fun j => ?_⟩
      · rw [e2, ih.nt]; simp [List.count_append]
      · rw [e3, csUp_len ih.len]; simp [List.count_append]
      · rw [e3, csUp_get]
        have h1 := ih.ent j
        have h2 := ih.ent (l.count false)
        have h3 : ((l ++ [true]).count true : Int) = (l.count true : Int) + 1 := by simp [List.count_append]
        rw [h3]
        split <;> omega
noncomputable def partL (l : List Bool) : List Int := partsN (pgF l).cs ((pgF l).cs.length - 1)
theorem partL_false (l : List Bool) : partL (l ++ [false]) = partL l := by unfold partL; rw [pg_false]
theorem partL_true (l : List Bool) : partL (l ++ [true]) = if l.count false = 0 then [] else (l.count false : Int) :: partL l := by
  have ih := pgI l
  obtain ⟨_, _, e3⟩ := pg_true ih.b
  unfold partL
  rw [parts_eq, parts_eq, e3, csUp_len ih.len, Nat.add_sub_cancel]
  cases hG : l.count false with
  | zero => rfl
  | succ g =>
    rw [if_neg (by omega)]
    have hlen := ih.len
    rw [hG] at hlen
    have h0 := ih.ent (g + 1)
    rw [← partsD_beyond (pgF l).cs (g + 1) (by omega), partsD_s, partsD_s, csUp_get, if_pos rfl]
    rw [partsD_congr (b := (pgF l).cs) g (fun j h1 h2 => by rw [csUp_get, if_neg (by omega)])]
    have : ((pgF l).cs.getD (g + 1) 0 + 1).toNat = ((pgF l).cs.getD (g + 1) 0).toNat + 1 := by omega
    rw [this, List.replicate_succ]; rfl
end Mine
end

/-! M3 -/
section
open PySem PySem.W PySem.Spec PySem.Calls PyProof.Rows
set_option maxRecDepth 100000
namespace Mine
noncomputable def deepN (pn : List Int) (j : Nat) : Nat := (pn.filter fun p => decide ((j : Int) < p)).length
theorem hookRow_cons {pn : List Int} {G j : Nat} (h : j < G) : hookRow ((G : Int) :: pn) (j : Int) = ((G : Int) - (j : Int) + (deepN pn j : Int)) :: hookRow pn (j : Int) := by
  unfold hookRow deepN
  rw [List.filter_cons, if_pos (by simpa using h), List.length_cons, List.range_succ_eq_map, List.map_cons, List.map_map]
  congr 1
  · simp; omega
  · apply List.map_congr_left
    intro i _
    simp only [Function.comp, Nat.succ_eq_add_one, List.getD_cons_succ]
    push_cast
    omega
theorem partL_le (l : List Bool) : ∀ z ∈ partL l, z ≤ (l.count false : Int) := by
  induction l using snoc_ind with
  | h0 => intro z hz; simp [partL, pgF, pageF, wsF, partsN] at hz
  | h1 l t ih =>
    cases t
    · rw [partL_false]
      intro z hz
      have := ih z hz
      simp only [List.count_append, List.count_cons, List.count_nil]
      push_cast; simp; omega
    · rw [partL_true]
      intro z hz
      have e : ((l ++ [true]).count false : Int) = (l.count false : Int) := by simp [List.count_append]
      rw [e]
      split at hz
      · cases hz
      · rcases List.mem_cons.mp hz with rfl | hz
        · omega
        · exact ih z hz
theorem deep_top (l : List Bool) {j : Nat} (h : l.count false ≤ j) : deepN (partL l) j = 0 := by
  unfold deepN
  rw [List.length_eq_zero_iff, List.filter_eq_nil_iff]
  intro z hz
  have := partL_le l z hz
  simp only [decide_eq_true_eq]; omega
/-- the places of the gaps -/
noncomputable def gapsP (l : List Bool) : List Nat := (List.range l.length).filter fun g => !(l.getD g false)
theorem getD_snoc {l : List Bool} {t : Bool} {g : Nat} (h : g < l.length) : (l ++ [t]).getD g false = l.getD g false := by
  rw [List.getD_eq_getElem?_getD, List.getElem?_append_left h, List.getD_eq_getElem?_getD]
theorem getD_last (l : List Bool) (t : Bool) : (l ++ [t]).getD l.length false = t := by
  rw [List.getD_eq_getElem?_getD, List.getElem?_append_right (Nat.le_refl _)]; simp
theorem gapsP_snoc (l : List Bool) (t : Bool) : gapsP (l ++ [t]) = gapsP l ++ (if t then [] else [l.length]) := by
  unfold gapsP
  rw [List.length_append, List.length_singleton, List.range_succ, List.filter_append]
  congr 1
  · exact List.filter_congr fun g hg => by rw [getD_snoc (List.mem_range.mp hg)]
  · rw [List.filter_cons, getD_last]; cases t <;> rfl
theorem deep_cons {pn : List Int} {G j : Nat} (h : j < G) : deepN ((G : Int) :: pn) j = deepN pn j + 1 := by
  unfold deepN
  rw [List.filter_cons, if_pos (by simpa using h), List.length_cons]
theorem gap_pos (l : List Bool) : (gapsP l).map (fun (g : Nat) => (l.length : Int) - (g : Int)) = (List.range (l.count false)).map fun (j : Nat) => (l.count false : Int) - (j : Int) + (deepN (partL l) j : Int) := by
  induction l using snoc_ind with
  | h0 => rfl
  | h1 l t ih =>
    rw [gapsP_snoc, List.map_append]
    have e1 : (gapsP l).map (fun (g : Nat) => ((l ++ [t]).length : Int) - (g : Int)) = ((gapsP l).map fun (g : Nat) => (l.length : Int) - (g : Int)).map fun z => z + 1 := by
      rw [List.map_map]
      apply List.map_congr_left
      intro g _
      simp; omega
    rw [e1, ih, List.map_map]
    cases t
    · have e2 : (l ++ [false]).count false = l.count false + 1 := by simp [List.count_append]
      rw [e2, partL_false, List.range_succ, List.map_append]
      congr 1
      · apply List.map_congr_left
        intro j _
        simp only [Function.comp]; push_cast; omega
      · have := deep_top l (Nat.le_refl _)
        simp [this]
        omega
    · have e2 : (l ++ [true]).count false = l.count false := by simp [List.count_append]
      rw [e2]
      simp only [if_true, List.map_nil, List.append_nil]
      apply List.map_congr_left
      intro j hj
      have hj' := List.mem_range.mp hj
      rw [partL_true, if_neg (by omega), deep_cons hj']
      simp only [Function.comp]; push_cast; omega
/-- the hooks of one gap -/
noncomputable def colS (l : List Bool) (g : Nat) : List Int := ((List.range l.length).reverse.filter fun b => decide (g < b) && l.getD b false).map fun (b : Nat) => (b : Int) - (g : Int)
theorem gapsP_lt {l : List Bool} {g : Nat} (h : g ∈ gapsP l) : g < l.length := List.mem_range.mp (List.mem_filter.mp h).1
theorem colS_snoc {l : List Bool} {t : Bool} {g : Nat} (h : g < l.length) : colS (l ++ [t]) g = (if t then [(l.length : Int) - (g : Int)] else []) ++ colS l g := by
  unfold colS
  rw [List.length_append, List.length_singleton, List.range_succ, List.reverse_append, List.reverse_singleton, List.singleton_append, List.filter_cons, getD_last]
  have e : ((List.range l.length).reverse.filter fun b => decide (g < b) && (l ++ [t]).getD b false) = (List.range l.length).reverse.filter fun b => decide (g < b) && l.getD b false :=
    List.filter_congr fun b hb => by rw [getD_snoc (List.mem_range.mp (List.mem_reverse.mp hb))]
  rw [e]
  cases t
  · simp
  · rw [if_pos (by simpa using h)]; rfl
theorem colS_last (l : List Bool) (t : Bool) : colS (l ++ [t]) l.length = [] := by
  unfold colS
  rw [List.map_eq_nil_iff, List.filter_eq_nil_iff]
  intro b hb
  have := List.mem_range.mp (List.mem_reverse.mp hb)
  rw [List.length_append, List.length_singleton] at this
  simp; omega
theorem zipWith_same {α β γ δ : Type} (h : β → γ → δ) (f : α → β) (g : α → γ) (l : List α) : List.zipWith h (l.map f) (l.map g) = l.map fun a => h (f a) (g a) := by
  induction l with
  | nil => rfl
  | cons a r ih => simp [ih]
theorem cols (l : List Bool) : (gapsP l).map (colS l) = (List.range (l.count false)).map fun (j : Nat) => hookRow (partL l) (j : Int) := by
  induction l using snoc_ind with
  | h0 => rfl
  | h1 l t ih =>
    rw [gapsP_snoc, List.map_append]
    cases t
    · have e1 : (gapsP l).map (colS (l ++ [false])) = (gapsP l).map (colS l) := List.map_congr_left fun g hg => by rw [colS_snoc (gapsP_lt hg)]; rfl
      have e2 : (l ++ [false]).count false = l.count false + 1 := by simp [List.count_append]
      rw [e1, ih, e2, partL_false, List.range_succ, List.map_append]
      congr 1
      have := deep_top l (Nat.le_refl _)
      unfold deepN at this
      simp only [Bool.false_eq_true, if_false, List.map_cons, List.map_nil, colS_last, hookRow, this, List.range_zero]
    · have e2 : (l ++ [true]).count false = l.count false := by simp [List.count_append]
      rw [e2]
      simp only [if_true, List.map_nil, List.append_nil]
      have e3 : (gapsP l).map (colS (l ++ [true])) = List.zipWith (fun a b => a :: b) ((gapsP l).map fun (g : Nat) => (l.length : Int) - (g : Int)) ((gapsP l).map (colS l)) := by
        rw [zipWith_same]
        exact List.map_congr_left fun g hg => by rw [colS_snoc (gapsP_lt hg)]; rfl
      rw [e3, gap_pos, ih, zipWith_same]
      apply List.map_congr_left
      intro j hj
      have hj' := List.mem_range.mp hj
      rw [partL_true, if_neg (by omega), hookRow_cons hj']
theorem hooksN_flat (pn : List Int) : ∀ n, hooksN pn n = ((List.range n).map fun (j : Nat) => hookRow pn (j : Int)).flatten
  | 0 => rfl
  | n + 1 => by rw [hooksN_s, hooksN_flat pn n, List.range_succ, List.map_append, List.flatten_append]; simp
theorem partsD_le (cs : List Int) : ∀ k, ∀ z ∈ partsD cs k, z ≤ (k : Int)
  | 0 => fun z hz => nomatch hz
  | k + 1 => fun z hz => by
    rcases List.mem_append.mp hz with hz | hz
    · rw [(List.mem_replicate.mp hz).2]; exact Int.le_refl _
    · have := partsD_le cs k z hz; omega
theorem hooksN_more (pn : List Int) {k : Nat} (h : ∀ z ∈ pn, z ≤ (k : Int)) : ∀ n, hooksN pn (k + n) = hooksN pn k
  | 0 => rfl
  | n + 1 => by
    rw [← Nat.add_assoc, hooksN_s, hooksN_more pn h n]
    have e : (pn.filter fun p => decide (((k + n : Nat) : Int) < p)) = [] := by
      rw [List.filter_eq_nil_iff]
      intro z hz
      have := h z hz
      simp only [decide_eq_true_eq]; omega
    rw [hookRow, e]; simp
/-- the hooks of a row's page: for each gap, the beads behind it, the last first -/
theorem hkF_is (l : List Bool) : hkF (pgF l) = ((gapsP l).map (colS l)).flatten := by
  have h1 : hkF (pgF l) = hooksN (partL l) ((pgF l).cs.length - 1) := rfl
  have h2 := (pgI l).len
  have h3 := hooksN_more (partL l) (k := (pgF l).cs.length - 1) (fun z hz => by
    rw [partL, parts_eq] at hz
    exact partsD_le _ _ z hz) (l.count false - ((pgF l).cs.length - 1))
  rw [show (pgF l).cs.length - 1 + (l.count false - ((pgF l).cs.length - 1)) = l.count false by omega] at h3
  rw [h1, ← h3, hooksN_flat, cols]
end Mine
end

/-! M4 -/
section
open PySem PySem.W PySem.Spec PySem.Calls PyProof.Rows
set_option maxRecDepth 100000
namespace Mine
theorem il_congr {a b : List Int} : ∀ n, (∀ j, 1 ≤ j → j ≤ n → a.getD j 0 = b.getD j 0) → ilF a n = ilF b n
  | 0, _ => rfl
  | n + 1, h => by rw [ilF_s, ilF_s, il_congr n fun j h1 h2 => h j h1 (by omega), h (1 + n) (by omega) (by omega)]
theorem il_beyond (cs : List Int) {k : Nat} (h : cs.length - 1 ≤ k) : ∀ n, ilF cs (k + n) = ilF cs k
  | 0 => rfl
  | n + 1 => by
    rw [← Nat.add_assoc, ilF_s, il_beyond cs h n]
    have e : cs.getD (1 + (k + n)) 0 = 0 := by rw [List.getD_eq_getElem?_getD, List.getElem?_eq_none (by omega)]; rfl
    rw [e, Int.mul_zero, Int.add_zero]
theorem il_up {l : List Bool} : ilF (csUp (pgF l).cs (l.count false)) (l.count false) = ilF (pgF l).cs ((pgF l).cs.length - 1) + (l.count false : Int) := by
  have hl := (pgI l).len
  have hb := il_beyond (pgF l).cs (Nat.le_refl ((pgF l).cs.length - 1)) (l.count false - ((pgF l).cs.length - 1))
  rw [show (pgF l).cs.length - 1 + (l.count false - ((pgF l).cs.length - 1)) = l.count false by omega] at hb
  rw [← hb]
  cases hG : l.count false with
  | zero => simp [ilF]
  | succ g =>
    rw [ilF_s, ilF_s, il_congr (b := (pgF l).cs) g (fun j h1 h2 => by rw [csUp_get, if_neg (by omega)]), csUp_get, if_pos (by omega), show 1 + g = g + 1 by omega, Int.mul_add]
    push_cast; omega
theorem ind_is (l : List Bool) : indF (pgF l) = (invL l : Int) + (l.count true : Int) := by
  induction l using snoc_ind with
  | h0 => rfl
  | h1 l t ih =>
    cases t
    · rw [pg_false, ih, invL_app]; simp [invL, List.count_append]
    · have hi := pgI l
      obtain ⟨e1, e2, e3⟩ := pg_true hi.b
      have h5 : indF (pgF (l ++ [true])) = indF (pgF l) + (l.count false : Int) + 1 := by
        unfold indF
        rw [e1, e2, e3, csUp_len hi.len, Nat.add_sub_cancel, il_up, hi.b]; omega
      rw [h5, ih, invL_app]
      simp [invL, List.count_append]; omega
theorem count_move {d q : Nat} {l : List Bool} (hd : 1 ≤ d) (hl : l.length = 12) (h : q ∈ freeN d l) : (moveL d q l).count true = l.count true := by
  obtain ⟨h1, _⟩ := row_cut hd hl h
  have e := congrArg (List.count true) h1
  rw [e]
  unfold moveL
  simp only [List.count_append, List.count_cons, List.count_nil]
  simp
  omega
theorem run_inv {d : Nat} {l0 l : List Bool} {k p : Nat} (h : Run d l0 l k p) (hd : 1 ≤ d) (hl0 : l0.length = 12) : l.length = 12 ∧ invL l0 = invL l + d * k ∧ l.count true = l0.count true := by
  induction h with
  | start => exact ⟨hl0, by simp, rfl⟩
  | move _ hq ih =>
    obtain ⟨h1, h2, h3⟩ := ih
    refine ⟨moveL_len hd h1 hq, ?_, ?_⟩
    · have := invL_move hd h1 hq
      rw [h2, this, Nat.mul_add, Nat.mul_one]; omega
    · rw [count_move hd h1 hq, h3]
theorem run_ind {d x : Nat} {r : List Bool} {k p : Nat} (h : Run d (rowL x) r k p) (hd : 1 ≤ d) : indF (pgF (rowL x)) - indF (pgF r) = (d : Int) * (k : Int) := by
  obtain ⟨_, h2, h3⟩ := run_inv h hd (rowL_len x)
  rw [ind_is, ind_is, h3, h2]
  push_cast; omega
end Mine
end

/-! M5 -/
section
open PySem PySem.W PySem.Spec PySem.Calls PyProof.Rows
set_option maxRecDepth 100000
namespace Mine
theorem pgB {l : List Bool} (h : l.length ≤ 12) : PgB (pgF l) := by
  have hi := pgI l
  have h1 := count_tf l
  have h2 := hi.len
  refine ⟨by omega, fun c hc => ?_, by rw [hi.b]; decide, by rw [hi.b]; decide, by rw [hi.nt]; omega, by rw [hi.nt]; omega⟩
  obtain ⟨j, hj, rfl⟩ := List.getElem_of_mem hc
  have := hi.ent j
  rw [List.getD_eq_getElem?_getD, List.getElem?_eq_getElem hj, Option.getD_some] at this
  omega
theorem hk_mem {l : List Bool} {z : Int} (h : z ∈ hkF (pgF l)) : 0 < z ∧ z ≤ (l.length : Int) := by
  rw [hkF_is] at h
  obtain ⟨c, hc, hz⟩ := List.mem_flatten.mp h
  obtain ⟨g, hg, rfl⟩ := List.mem_map.mp hc
  obtain ⟨b, hb, rfl⟩ := List.mem_map.mp hz
  obtain ⟨h1, h2⟩ := List.mem_filter.mp hb
  have h3 := List.mem_range.mp (List.mem_reverse.mp h1)
  simp only [Bool.and_eq_true, decide_eq_true_eq] at h2
  omega
theorem flat_len {α β : Type} (f : α → List β) (n : Nat) : ∀ l : List α, (∀ a ∈ l, (f a).length ≤ n) → ((l.map f).flatten).length ≤ l.length * n
  | [], _ => by simp
  | a :: r, h => by
    have h1 := flat_len f n r fun b hb => h b (.tail _ hb)
    have h2 := h a (.head _)
    simp only [List.map_cons, List.flatten_cons, List.length_append, List.length_cons, Nat.add_mul, Nat.one_mul]; omega
theorem hk_len (l : List Bool) : (hkF (pgF l)).length ≤ l.length * l.length := by
  rw [hkF_is]
  refine Nat.le_trans (flat_len (colS l) l.length _ fun g _ => ?_) (Nat.mul_le_mul_right _ ?_)
  · unfold colS
    rw [List.length_map]
    refine Nat.le_trans (List.length_filter_le _ _) ?_
    rw [List.length_reverse, List.length_range]; exact Nat.le_refl _
  · refine Nat.le_trans (List.length_filter_le _ _) ?_
    rw [List.length_range]; exact Nat.le_refl _
end Mine
end

/-! M6 -/
section
open PySem PySem.W PySem.Spec PySem.Calls PyProof.Rows
set_option maxRecDepth 100000
namespace Mine
/-- index pairs -/
noncomputable def pairsN (n : Nat) : List (Nat × Nat) := ((List.range n).map fun g => (List.range n).reverse.map fun b => (g, b)).flatten
/-- the hook of a pair -/
noncomputable def hkO (p : Nat → Bool) (q : Nat × Nat) : Option Int := if !(p q.1) && (decide (q.1 < q.2) && p q.2) then some ((q.2 : Int) - (q.1 : Int)) else none
theorem filterMap_flatten' {α β : Type} (f : α → Option β) : ∀ L : List (List α), L.flatten.filterMap f = (L.map fun l => l.filterMap f).flatten
  | [] => rfl
  | a :: r => by rw [List.flatten_cons, List.filterMap_append, filterMap_flatten' f r]; rfl
theorem col_o {p : Nat → Bool} {g : Nat} (hg : p g = false) (R : List Nat) : (R.map fun b => (g, b)).filterMap (hkO p) = (R.filter fun b => decide (g < b) && p b).map fun (b : Nat) => (b : Int) - (g : Int) := by
  induction R with
  | nil => rfl
  | cons b r ih =>
    rw [List.map_cons, List.filterMap_cons, List.filter_cons, ih]
    cases h : (decide (g < b) && p b) <;> simp [hkO, hg, h]
theorem col_no {p : Nat → Bool} {g : Nat} (hg : p g = true) (R : List Nat) : (R.map fun b => (g, b)).filterMap (hkO p) = [] := by
  induction R with
  | nil => rfl
  | cons b r ih => rw [List.map_cons, List.filterMap_cons, ih]; simp [hkO, hg]
theorem hk_pairs (l : List Bool) : hkF (pgF l) = (pairsN l.length).filterMap (hkO fun c => l.getD c false) := by
  rw [hkF_is, pairsN, filterMap_flatten', List.map_map]
  unfold gapsP colS
  generalize (List.range l.length).reverse = R
  induction List.range l.length with
  | nil => rfl
  | cons g r ih =>
    rw [List.filter_cons, List.map_cons, List.flatten_cons, ← ih]
    cases h : l.getD g false
    · rw [if_pos (by simp)]
      rw [List.map_cons, List.flatten_cons]
      congr 1
      exact (col_o (p := fun c => l.getD c false) h R).symm
    · rw [if_neg (by simp)]
      show _ = (R.map fun b => (g, b)).filterMap _ ++ _
      rw [col_no (p := fun c => l.getD c false) h R]; rfl
end Mine
end

/-! M7 -/
section
open PySem PySem.W PySem.Spec PySem.Calls PyProof.Rows
set_option maxRecDepth 100000
namespace Mine
/-- the hook of a pair of one remainder -/
noncomputable def hkW (d : Nat) (p : Nat → Bool) (q : Nat × Nat) : Option Int := if decide (q.1 < q.2) && ((q.2 - q.1) % d == 0) then hkO p q else none
theorem hkW_is (d : Nat) (p : Nat → Bool) (q : Nat × Nat) : (hkO p q).filter (fun z => decide (z.fmod (d : Int) = 0)) = hkW d p q := by
  unfold hkW hkO
  by_cases h : (!(p q.1) && (decide (q.1 < q.2) && p q.2)) = true
  · rw [if_pos h]
    simp only [Bool.and_eq_true, decide_eq_true_eq] at h
    have e : (q.2 : Int) - (q.1 : Int) = ((q.2 - q.1 : Nat) : Int) := by omega
    rw [e, Option.filter_some, fmod_nat]
    by_cases h0 : (q.2 - q.1) % d = 0
    · simp [h0, h.2.1]
    · have h1 : ¬ (((q.2 - q.1) % d : Nat) : Int) = 0 := by omega
      rw [if_neg (fun q => h1 (of_decide_eq_true q)), if_neg (by simp [h0])]
  · rw [if_neg h]; simp
theorem whole_pairs (d : Nat) (l : List Bool) : wholeF d (pgF l) = (pairsN l.length).filterMap (hkW d fun c => l.getD c false) := by
  unfold wholeF
  rw [hk_pairs, List.filter_filterMap]
  congr 1
  funext q
  exact hkW_is d _ q
end Mine
end

/-! M8 -/
section
open PySem PySem.W PySem.Spec PySem.Calls PyProof.Rows
set_option maxRecDepth 100000
namespace Mine
/-- the index pairs, strand by strand -/
noncomputable def strandN (d i : Nat) : Nat := (12 - i + d - 1) / d
noncomputable def pairsS (d : Nat) : Nat → List (Nat × Nat)
  | 0 => []
  | i + 1 => pairsS d i ++ (pairsN (strandN d i)).map fun q => (i + q.1 * d, i + q.2 * d)
theorem pairsS_s (d i : Nat) : pairsS d (i + 1) = pairsS d i ++ (pairsN (strandN d i)).map fun q => (i + q.1 * d, i + q.2 * d) := rfl
theorem perm2 : ((pairsN 12).filter fun q => decide (q.1 < q.2) && ((q.2 - q.1) % 2 == 0)).Perm ((pairsS 2 2).filter fun q => decide (q.1 < q.2) && ((q.2 - q.1) % 2 == 0)) := by decide +kernel
theorem perm3 : ((pairsN 12).filter fun q => decide (q.1 < q.2) && ((q.2 - q.1) % 3 == 0)).Perm ((pairsS 3 3).filter fun q => decide (q.1 < q.2) && ((q.2 - q.1) % 3 == 0)) := by decide +kernel
theorem perm4 : ((pairsN 12).filter fun q => decide (q.1 < q.2) && ((q.2 - q.1) % 4 == 0)).Perm ((pairsS 4 4).filter fun q => decide (q.1 < q.2) && ((q.2 - q.1) % 4 == 0)) := by decide +kernel
theorem strand_get {d i j : Nat} {r : List Bool} (h : j < strandN d i) : (strandL d i r).getD j false = r.getD (i + j * d) false := by
  unfold strandL
  have h' : j < (12 - i + d - 1) / d := h
  rw [List.getD_eq_getElem?_getD, List.getElem?_map, List.getElem?_range h']; rfl
end Mine
end

/-! M10 -/
section
open PySem PySem.W PySem.Spec PySem.Calls PyProof.Rows
set_option maxRecDepth 100000
namespace Mine
/-- the places, cut at a bead that goes -/
theorem range_cut {a e f : Nat} (h : a + (1 + (e + (1 + f))) = 12) : List.range 12 = List.range' 0 a ++ a :: (List.range' (a + 1) e ++ (a + 1 + e) :: List.range' (a + 1 + e + 1) f) := by
  rw [List.range_eq_range', ← h, ← List.range'_append_1, Nat.zero_add, Nat.add_comm 1 (e + (1 + f)), List.range'_succ, ← List.range'_append_1, Nat.add_comm 1 f, List.range'_succ]
/-- beads by their places -/
noncomputable def beadsN (p : Nat → Bool) : List Nat := (List.range 12).filter p
noncomputable def sameN (d c o : Nat) : Bool := decide (o < c) && o % d == c % d
noncomputable def aheadN (d : Nat) (p : Nat → Bool) (c : Nat) : Nat := ((List.range 12).filter fun o => p o && sameN d c o).length
noncomputable def homeN (d : Nat) (p : Nat → Bool) (c : Nat) : Nat := c % d + d * aheadN d p c
noncomputable def homesN (d : Nat) (p : Nat → Bool) : List Nat := (beadsN p).map (homeN d p)
/-- a move, told by the places -/
structure Mv (a e f : Nat) (p p' : Nat → Bool) : Prop where
  h : a + (1 + (e + (1 + f))) = 12
  pq : p (a + 1 + e) = true
  pg : p a = false
  pq' : p' (a + 1 + e) = false
  pg' : p' a = true
  same : ∀ c, c ≠ a + 1 + e → c ≠ a → p' c = p c
theorem mod_iff {d a b : Nat} (h : a ≤ b) : (b - a) % d = 0 ↔ a % d = b % d := by
  constructor
  · intro e
    obtain ⟨k, hk⟩ := Nat.dvd_of_mod_eq_zero e
    have : b = a + d * k := by rw [← hk, Nat.add_sub_cancel' h]
    rw [this, Nat.add_mul_mod_self_left]
  · intro e; exact Nat.sub_mod_eq_zero_of_mod_eq e.symm
theorem mod_near {d a t : Nat} (h0 : 0 < t) (h1 : t < d) : a % d ≠ (a + t) % d := by
  intro e
  have := (mod_iff (d := d) (Nat.le_add_right a t)).mpr e
  rw [Nat.add_sub_cancel_left, Nat.mod_eq_of_lt h1] at this
  exact absurd this (Nat.ne_of_gt h0)
theorem q_mod (a e : Nat) : (a + 1 + e) % (e + 1) = a % (e + 1) := by rw [Nat.add_assoc, Nat.add_comm 1 e, Nat.add_mod_right]
theorem mid_mod {a e c : Nat} (h1 : a < c) (h2 : c < a + 1 + e) : a % (e + 1) ≠ c % (e + 1) := by
  obtain ⟨t, rfl⟩ := Nat.exists_eq_add_of_lt h1
  rw [Nat.add_assoc]
  refine mod_near (Nat.succ_pos t) ?_
  rw [Nat.add_assoc, Nat.add_assoc, Nat.add_comm 1 e] at h2
  exact Nat.lt_of_add_lt_add_left h2
section
variable {a e f : Nat} {p p' : Nat → Bool} (M : Mv a e f p p')
include M
theorem Mv.lo (c : Nat) (h : c ∈ List.range' 0 a) : c < a ∧ c ≠ a + 1 + e ∧ p' c = p c := by
  have h1 : c < a := by have := (List.mem_range'_1.mp h).2; rwa [Nat.zero_add] at this
  have h2 : c ≠ a + 1 + e := Nat.ne_of_lt (Nat.lt_of_lt_of_le h1 (Nat.le_trans (Nat.le_succ a) (Nat.le_add_right _ _)))
  exact ⟨h1, h2, M.same c h2 (Nat.ne_of_lt h1)⟩
theorem Mv.mid (c : Nat) (h : c ∈ List.range' (a + 1) e) : a < c ∧ c < a + 1 + e ∧ p' c = p c := by
  have h' := List.mem_range'_1.mp h
  exact ⟨h'.1, h'.2, M.same c (Nat.ne_of_lt h'.2) (Nat.ne_of_gt h'.1)⟩
theorem Mv.hi (c : Nat) (h : c ∈ List.range' (a + 1 + e + 1) f) : a + 1 + e < c ∧ a < c ∧ p' c = p c := by
  have h1 : a + 1 + e < c := (List.mem_range'_1.mp h).1
  have h2 : a < c := Nat.lt_of_le_of_lt (Nat.le_trans (Nat.le_succ a) (Nat.le_add_right _ _)) h1
  exact ⟨h1, h2, M.same c (Nat.ne_of_gt h1) (Nat.ne_of_gt h2)⟩
theorem Mv.cut (g : Nat → Bool) : (List.range 12).filter g = (List.range' 0 a).filter g ++ ((if g a then [a] else []) ++ ((List.range' (a + 1) e).filter g ++ ((if g (a + 1 + e) then [a + 1 + e] else []) ++ (List.range' (a + 1 + e + 1) f).filter g))) := by
  rw [range_cut M.h, List.filter_append, List.filter_cons, List.filter_append, List.filter_cons]
  cases g a <;> cases g (a + 1 + e) <;> rfl
theorem Mv.same3 (g : Nat → Bool) : (List.range' 0 a).filter (fun o => p' o && g o) = (List.range' 0 a).filter (fun o => p o && g o) ∧ (List.range' (a + 1) e).filter (fun o => p' o && g o) = (List.range' (a + 1) e).filter (fun o => p o && g o) ∧ (List.range' (a + 1 + e + 1) f).filter (fun o => p' o && g o) = (List.range' (a + 1 + e + 1) f).filter (fun o => p o && g o) :=
  ⟨List.filter_congr fun o ho => by rw [(M.lo o ho).2.2], List.filter_congr fun o ho => by rw [(M.mid o ho).2.2], List.filter_congr fun o ho => by rw [(M.hi o ho).2.2]⟩
theorem Mv.ahead (c : Nat) (hq : c ≠ a + 1 + e) (hg : c ≠ a) : aheadN (e + 1) p' c = aheadN (e + 1) p c := by
  unfold aheadN
  obtain ⟨e1, e2, e3⟩ := M.same3 (sameN (e + 1) c)
  rw [M.cut, M.cut (fun o => p o && sameN (e + 1) c o), e1, e2, e3]
  simp only [M.pq, M.pg, M.pq', M.pg', Bool.true_and, Bool.false_and, Bool.false_eq_true, if_false, List.nil_append]
  have e4 : sameN (e + 1) c a = sameN (e + 1) c (a + 1 + e) := by
    unfold sameN
    rw [q_mod]
    by_cases h : a % (e + 1) = c % (e + 1)
    · rw [h, beq_self_eq_true, Bool.and_true, Bool.and_true]
      refine decide_eq_decide.mpr ⟨fun h1 => ?_, fun h1 => Nat.lt_of_le_of_lt (Nat.le_trans (Nat.le_succ a) (Nat.le_add_right _ _)) h1⟩
      rcases Nat.lt_or_ge (a + 1 + e) c with h2 | h2
      · exact h2
      · exact absurd h (mid_mod h1 (Nat.lt_of_le_of_ne h2 hq))
    · rw [beq_eq_false_iff_ne.mpr h, Bool.and_false, Bool.and_false]
  rw [e4]
  cases sameN (e + 1) c (a + 1 + e)
  · rfl
  · simp only [if_true, List.length_append, List.length_cons, List.length_nil]
    rw [Nat.add_left_comm (0 + 1)]
theorem Mv.ahead' : aheadN (e + 1) p' a = aheadN (e + 1) p (a + 1 + e) := by
  unfold aheadN
  rw [M.cut, M.cut (fun o => p o && sameN (e + 1) (a + 1 + e) o)]
  have z : ∀ x c, ¬ x < c → sameN (e + 1) c x = false := fun x c h => by unfold sameN; rw [decide_eq_false h, Bool.false_and]
  simp only [M.pg, M.pq', z a a (Nat.lt_irrefl _), z (a + 1 + e) _ (Nat.lt_irrefl _), Bool.false_and, Bool.and_false, Bool.false_eq_true, if_false, List.nil_append]
  have e1 : (List.range' 0 a).filter (fun o => p' o && sameN (e + 1) a o) = (List.range' 0 a).filter (fun o => p o && sameN (e + 1) (a + 1 + e) o) := List.filter_congr fun o ho => by
    obtain ⟨x, _, y⟩ := M.lo o ho
    unfold sameN
    rw [y, q_mod, decide_eq_true x, decide_eq_true (Nat.lt_of_lt_of_le x (Nat.le_trans (Nat.le_succ a) (Nat.le_add_right _ _)))]
  have e2 : (List.range' (a + 1) e).filter (fun o => p' o && sameN (e + 1) a o) = (List.range' (a + 1) e).filter (fun o => p o && sameN (e + 1) (a + 1 + e) o) := List.filter_congr fun o ho => by
    obtain ⟨x, y, _⟩ := M.mid o ho
    rw [z o a (Nat.not_lt.mpr (Nat.le_of_lt x))]
    unfold sameN
    rw [q_mod, beq_eq_false_iff_ne.mpr (Ne.symm (mid_mod x y)), Bool.and_false, Bool.and_false, Bool.and_false]
  have e3 : (List.range' (a + 1 + e + 1) f).filter (fun o => p' o && sameN (e + 1) a o) = (List.range' (a + 1 + e + 1) f).filter (fun o => p o && sameN (e + 1) (a + 1 + e) o) := List.filter_congr fun o ho => by
    obtain ⟨x, y, _⟩ := M.hi o ho
    rw [z o a (Nat.not_lt.mpr (Nat.le_of_lt y)), z o (a + 1 + e) (Nat.not_lt.mpr (Nat.le_of_lt x)), Bool.and_false, Bool.and_false]
  rw [e1, e2, e3]
theorem Mv.home (c : Nat) (hq : c ≠ a + 1 + e) (hg : c ≠ a) : homeN (e + 1) p' c = homeN (e + 1) p c := by unfold homeN; rw [M.ahead c hq hg]
theorem Mv.home' : homeN (e + 1) p' a = homeN (e + 1) p (a + 1 + e) := by unfold homeN; rw [M.ahead', q_mod]
theorem Mv.beads : beadsN p = (List.range' 0 a).filter p ++ ((List.range' (a + 1) e).filter p ++ (a + 1 + e) :: (List.range' (a + 1 + e + 1) f).filter p) := by
  unfold beadsN
  rw [M.cut, M.pq, M.pg]; rfl
theorem Mv.beads' : beadsN p' = (List.range' 0 a).filter p ++ a :: ((List.range' (a + 1) e).filter p ++ (List.range' (a + 1 + e + 1) f).filter p) := by
  unfold beadsN
  rw [M.cut, M.pq', M.pg']
  rw [List.filter_congr (q := p) fun o ho => (M.lo o ho).2.2, List.filter_congr (q := p) fun o ho => (M.mid o ho).2.2, List.filter_congr (q := p) fun o ho => (M.hi o ho).2.2]; rfl
/-- the homes stay, but one goes past those between -/
theorem Mv.homes : ∃ A B V : List Nat, homesN (e + 1) p = A ++ (B ++ homeN (e + 1) p (a + 1 + e) :: V) ∧ homesN (e + 1) p' = A ++ homeN (e + 1) p (a + 1 + e) :: (B ++ V) ∧ B.length = ((List.range' (a + 1) e).filter p).length ∧ homeN (e + 1) p (a + 1 + e) ∉ B := by
  refine ⟨((List.range' 0 a).filter p).map (homeN (e + 1) p), ((List.range' (a + 1) e).filter p).map (homeN (e + 1) p), ((List.range' (a + 1 + e + 1) f).filter p).map (homeN (e + 1) p), ?_, ?_, List.length_map .., ?_⟩
  · unfold homesN
    rw [M.beads, List.map_append, List.map_append, List.map_cons]
  · unfold homesN
    rw [M.beads', List.map_append, List.map_cons, List.map_append, M.home']
    rw [List.map_congr_left fun o ho => M.home o (M.lo o (List.mem_filter.mp ho).1).2.1 (Nat.ne_of_lt (M.lo o (List.mem_filter.mp ho).1).1)]
    rw [List.map_congr_left fun o ho => M.home o (Nat.ne_of_lt (M.mid o (List.mem_filter.mp ho).1).2.1) (Nat.ne_of_gt (M.mid o (List.mem_filter.mp ho).1).1)]
    rw [List.map_congr_left fun o ho => M.home o (Nat.ne_of_gt (M.hi o (List.mem_filter.mp ho).1).1) (Nat.ne_of_gt (M.hi o (List.mem_filter.mp ho).1).2.1)]
  · intro hm
    obtain ⟨o, ho, e1⟩ := List.mem_map.mp hm
    obtain ⟨x, y, _⟩ := M.mid o (List.mem_filter.mp ho).1
    have := congrArg (· % (e + 1)) e1
    simp only [homeN, Nat.add_mul_mod_self_left, Nat.mod_mod, q_mod] at this
    exact mid_mod x y this.symm
theorem Mv.sum : (beadsN p).sum = (beadsN p').sum + (e + 1) := by
  rw [M.beads, M.beads']
  simp only [List.sum_append, List.sum_cons]
  simp only [Nat.add_assoc, Nat.add_left_comm, Nat.add_comm]
end
theorem btw_count (l : List Bool) : ∀ (n a : Nat), a + n ≤ l.length → ((l.drop a).take n).count true = ((List.range' a n).filter fun c => l.getD c false).length
  | 0, a, _ => by simp
  | n + 1, a, h => by
    have ha : a < l.length := Nat.lt_of_lt_of_le (Nat.lt_add_of_pos_right (Nat.succ_pos n)) h
    rw [List.drop_eq_getElem_cons ha, List.take_succ_cons, List.range'_succ, List.filter_cons, List.count_cons, btw_count l n (a + 1) (by rw [Nat.add_assoc, Nat.add_comm 1 n]; exact h)]
    have e : l.getD a false = l[a] := by rw [List.getD_eq_getElem?_getD, List.getElem?_eq_getElem ha]; rfl
    rw [e]
    cases l[a] <;> simp
theorem getD_cat (u v : List Bool) (t : Nat) : (u ++ v).getD (u.length + t) false = v.getD t false := by
  rw [List.getD_eq_getElem?_getD, List.getElem?_append_right (Nat.le_add_right _ _), Nat.add_sub_cancel_left, List.getD_eq_getElem?_getD]
/-- a move as the places see it -/
theorem mv_list (u m v : List Bool) (h : u.length + (1 + (m.length + (1 + v.length))) = 12) : Mv u.length m.length v.length (fun c => (u ++ false :: (m ++ true :: v)).getD c false) (fun c => (u ++ true :: (m ++ false :: v)).getD c false) := by
  have g : ∀ (x y : Bool), (u ++ x :: (m ++ y :: v)).getD (u.length + 1 + m.length) false = y := fun x y => by
    rw [Nat.add_assoc, getD_cat, Nat.add_comm 1]
    exact getD_cat m (y :: v) 0
  refine ⟨h, g _ _, getD_cat u _ 0, g _ _, getD_cat u _ 0, fun c h1 h2 => ?_⟩
  show (u ++ true :: (m ++ false :: v)).getD c false = (u ++ false :: (m ++ true :: v)).getD c false
  rcases Nat.lt_or_ge c u.length with hc | hc
  · rw [List.getD_eq_getElem?_getD, List.getD_eq_getElem?_getD, List.getElem?_append_left hc, List.getElem?_append_left hc]
  · obtain ⟨t, rfl⟩ := Nat.exists_eq_add_of_le hc
    rw [getD_cat, getD_cat]
    cases t with
    | zero => exact absurd rfl h2
    | succ t =>
      show (m ++ false :: v).getD t false = (m ++ true :: v).getD t false
      rcases Nat.lt_or_ge t m.length with ht | ht
      · rw [List.getD_eq_getElem?_getD, List.getD_eq_getElem?_getD, List.getElem?_append_left ht, List.getElem?_append_left ht]
      · obtain ⟨s, rfl⟩ := Nat.exists_eq_add_of_le ht
        rw [getD_cat, getD_cat]
        cases s with
        | zero => exact absurd (by rw [Nat.add_zero, Nat.add_assoc, Nat.add_comm 1]) h1
        | succ s => rfl
theorem mv_of {d q : Nat} {l : List Bool} (hd : 1 ≤ d) (hl : l.length = 12) (h : q ∈ freeN d l) : ∃ a e f, d = e + 1 ∧ (btw d q l).count true = ((List.range' (a + 1) e).filter fun c => l.getD c false).length ∧ Mv a e f (fun c => l.getD c false) (fun c => (moveL d q l).getD c false) := by
  obtain ⟨e1, hb⟩ := row_cut hd hl h
  have e1' : l = l.take (q - d) ++ false :: (btw d q l ++ true :: l.drop (q + 1)) := e1.trans (by simp only [List.append_assoc, List.cons_append, List.nil_append])
  have e2 : moveL d q l = l.take (q - d) ++ true :: (btw d q l ++ false :: l.drop (q + 1)) := by unfold moveL; simp
  have hlen := congrArg List.length e1'
  simp only [List.length_append, List.length_cons] at hlen
  have M := mv_list (l.take (q - d)) (btw d q l) (l.drop (q + 1)) (by rw [hl] at hlen; rw [hlen]; simp only [Nat.add_assoc, Nat.add_left_comm, Nat.add_comm])
  rw [← e1', ← e2] at M
  refine ⟨_, _, _, by rw [hb, Nat.sub_add_cancel hd], ?_, M⟩
  obtain ⟨h1, h2, _⟩ := freeN_mem h
  have ha : (l.take (q - d)).length = q - d := by rw [List.length_take, hl]; exact Nat.min_eq_left (Nat.le_of_lt (Nat.lt_of_le_of_lt (Nat.sub_le _ _) h2))
  rw [ha, hb]
  refine btw_count l (d - 1) (q - d + 1) ?_
  rw [hl, Nat.add_assoc, Nat.add_sub_cancel' hd, Nat.sub_add_cancel h1]
  exact Nat.le_of_lt h2
/-- pairs that stand crossed -/
noncomputable def crs : List Nat → Nat
  | [] => 0
  | a :: r => r.countP (fun b => decide (b < a)) + crs r
theorem crs_c (a : Nat) (r : List Nat) : crs (a :: r) = r.countP (fun b => decide (b < a)) + crs r := rfl
theorem crs_past {h : Nat} {V : List Nat} : ∀ B : List Nat, h ∉ B → (crs (h :: (B ++ V)) + crs (B ++ h :: V)) % 2 = B.length % 2
  | [], _ => by simp only [List.nil_append, List.length_nil]; omega
  | b :: B, hb => by
    have ih := crs_past (V := V) B (fun q => hb (.tail _ q))
    have hne : h ≠ b := fun q => hb (q ▸ .head _)
    simp only [List.cons_append, crs_c, List.countP_cons, List.countP_append, List.length_cons, decide_eq_true_eq] at ih ⊢
    rcases Nat.lt_or_gt_of_ne hne with hl | hl
    · rw [if_neg (by omega), if_pos hl]; omega
    · rw [if_pos hl, if_neg (by omega)]; omega
theorem crs_ahead {X Y : List Nat} (h : X.Perm Y) : ∀ A : List Nat, (crs (A ++ X) + crs (A ++ Y)) % 2 = (crs X + crs Y) % 2
  | [] => rfl
  | a :: A => by
    have ih := crs_ahead h A
    simp only [List.cons_append, crs_c]
    rw [(h.append_left A).countP_eq]
    omega
theorem crs_sorted : ∀ {l : List Nat}, l.Pairwise (· < ·) → crs l = 0
  | [], _ => rfl
  | a :: r, h => by
    obtain ⟨h1, h2⟩ := List.pairwise_cons.mp h
    rw [crs_c, crs_sorted h2, List.countP_eq_zero.mpr]
    intro b hb
    have := h1 b hb
    simp only [decide_eq_true_eq]; omega
/-- what a run keeps -/
theorem run_homes {d : Nat} {l0 l : List Bool} {k n : Nat} (h : Run d l0 l k n) (hd : 1 ≤ d) (hl0 : l0.length = 12) : l.length = 12 ∧ (homesN d fun c => l0.getD c false).Perm (homesN d fun c => l.getD c false) ∧ (n + crs (homesN d fun c => l0.getD c false)) % 2 = crs (homesN d fun c => l.getD c false) % 2 ∧ (beadsN fun c => l0.getD c false).sum = (beadsN fun c => l.getD c false).sum + d * k := by
  induction h with
  | start => exact ⟨hl0, .refl _, by simp, by simp⟩
  | @move l k n q _ hq ih =>
    obtain ⟨i1, i2, i3, i4⟩ := ih
    obtain ⟨a, e, f, rfl, hb, M⟩ := mv_of hd i1 hq
    obtain ⟨A, B, V, e1, e2, e3, e4⟩ := M.homes
    rw [← e3] at hb
    generalize homeN (e + 1) (fun c => l.getD c false) (a + 1 + e) = hh at e1 e2 e4
    refine ⟨moveL_len hd i1 hq, i2.trans ?_, ?_, ?_⟩
    · rw [e1, e2]
      exact (List.perm_middle).append_left A
    · have c1 := crs_past (V := V) B e4
      have c2 := crs_ahead (X := B ++ hh :: V) (Y := hh :: (B ++ V)) List.perm_middle A
      rw [← e1, ← e2] at c2
      rw [hb]; omega
    · rw [i4, M.sum, Nat.mul_add, Nat.mul_one, Nat.add_assoc, Nat.add_comm (e + 1)]
/-- a row where no bead can go -/
theorem stuck_down {d : Nat} {l : List Bool} (hl : l.length = 12) (h : freeN d l = []) (b : Nat) : ∀ t, l.getD (b + d * t) false = true → l.getD b false = true
  | 0, e => by simpa using e
  | t + 1, e => by
    refine stuck_down hl h b t ?_
    rcases Bool.eq_false_or_eq_true (l.getD (b + d * t) false) with g | g
    · exact g
    · exfalso
      have hlt : b + d * (t + 1) < 12 := by
        rcases Nat.lt_or_ge (b + d * (t + 1)) 12 with q | q
        · exact q
        · rw [List.getD_eq_getElem?_getD, List.getElem?_eq_none (by omega)] at e; exact absurd e (by decide)
      rw [Nat.mul_add, Nat.mul_one] at hlt e
      have : b + d * t + d ∈ freeN d l := by
        unfold freeN
        refine List.mem_map.mpr ⟨b + d * t, List.mem_filter.mpr ⟨List.mem_range.mpr (by omega), ?_⟩, by omega⟩
        rw [g, show d + (b + d * t) = b + (d * t + d) by omega, e]; rfl
      rw [h] at this; cases this
theorem stuck_ahead {d : Nat} {l : List Bool} (hl : l.length = 12) (h : freeN d l = []) {b : Nat} (hb : l.getD b false = true) : aheadN d (fun c => l.getD c false) b = ((List.range 12).filter fun o => sameN d b o).length := by
  unfold aheadN
  congr 1
  refine List.filter_congr fun o _ => ?_
  by_cases e : sameN d b o = true
  · rw [e, Bool.and_true]
    simp only [sameN, Bool.and_eq_true, decide_eq_true_eq, beq_iff_eq] at e
    obtain ⟨k, hk⟩ := Nat.dvd_of_mod_eq_zero ((mod_iff (Nat.le_of_lt e.1)).mpr e.2)
    refine stuck_down hl h o k ?_
    rw [← hk, Nat.add_sub_cancel' (Nat.le_of_lt e.1)]; exact hb
  · rw [Bool.eq_false_iff.mpr e, Bool.and_false]
theorem home_all : ∀ d : Fin 5, ∀ b : Fin 12, 2 ≤ d.val → b.val % d.val + d.val * ((List.range 12).filter fun o => sameN d.val b.val o).length = b.val := by decide +kernel
theorem stuck_homes {d : Nat} {l : List Bool} (hd2 : 2 ≤ d) (hd4 : d ≤ 4) (hl : l.length = 12) (h : freeN d l = []) : homesN d (fun c => l.getD c false) = beadsN fun c => l.getD c false := by
  unfold homesN
  have : (beadsN fun c => l.getD c false).map (homeN d fun c => l.getD c false) = (beadsN fun c => l.getD c false).map id := List.map_congr_left fun b hb => by
    obtain ⟨h1, h2⟩ := List.mem_filter.mp hb
    have h1 := List.mem_range.mp h1
    unfold homeN
    rw [stuck_ahead hl h h2]
    exact home_all ⟨d, by omega⟩ ⟨b, h1⟩ hd2
  rw [this, List.map_id]
theorem beads_sorted (p : Nat → Bool) : (beadsN p).Pairwise (· < ·) := List.Pairwise.filter _ List.pairwise_lt_range
end Mine
end

/-! M9 -/
section
open PySem PySem.W PySem.Spec PySem.Calls PyProof.Rows
set_option maxRecDepth 100000
namespace Mine
theorem hkW_cond (d : Nat) (p : Nat → Bool) (L : List (Nat × Nat)) : (L.filter fun q => decide (q.1 < q.2) && ((q.2 - q.1) % d == 0)).filterMap (hkW d p) = L.filterMap (hkW d p) := by
  rw [List.filterMap_filter]
  congr 1
  funext q
  unfold hkW
  split <;> rfl
theorem strandN_len (d i : Nat) (r : List Bool) : (strandL d i r).length = strandN d i := by
  unfold strandL strandN; rw [List.length_map, List.length_range]
theorem pairsN_lt {n : Nat} {q : Nat × Nat} (h : q ∈ pairsN n) : q.1 < n ∧ q.2 < n := by
  unfold pairsN at h
  obtain ⟨l, hl, hq⟩ := List.mem_flatten.mp h
  obtain ⟨g, hg, rfl⟩ := List.mem_map.mp hl
  obtain ⟨b, hb, rfl⟩ := List.mem_map.mp hq
  exact ⟨List.mem_range.mp hg, List.mem_range.mp (List.mem_reverse.mp hb)⟩
theorem hk_strand {d i : Nat} {r : List Bool} {q : Nat × Nat} (hd : 1 ≤ d) (h1 : q.1 < strandN d i) (h2 : q.2 < strandN d i) : (hkO (fun c => (strandL d i r).getD c false) q).map (fun z => (d : Int) * z) = hkW d (fun c => r.getD c false) (i + q.1 * d, i + q.2 * d) := by
  unfold hkW hkO
  simp only [strand_get h1, strand_get h2]
  have e : (i + q.1 * d < i + q.2 * d) ↔ q.1 < q.2 := by
    constructor
    · intro h; exact Nat.lt_of_mul_lt_mul_right (a := d) (by omega)
    · intro h; have := Nat.mul_lt_mul_of_pos_right h (show 0 < d by omega); omega
  have e2 : (i + q.2 * d - (i + q.1 * d)) % d = 0 := by
    rw [Nat.add_sub_add_left, ← Nat.sub_mul, Nat.mul_mod_left]
  simp only [e, e2]
  by_cases h : q.1 < q.2
  · simp only [h, decide_true, Bool.true_and, beq_self_eq_true, if_true]
    split
    · simp only [Option.map_some, Option.some.injEq]
      push_cast
      rw [Int.mul_sub, Int.mul_comm (d : Int), Int.mul_comm (d : Int)]; omega
    · rfl
  · simp [h]
theorem fm_congr {α β : Type} {f g : α → Option β} : ∀ {l : List α}, (∀ a ∈ l, f a = g a) → l.filterMap f = l.filterMap g
  | [], _ => rfl
  | a :: r, h => by rw [List.filterMap_cons, List.filterMap_cons, h a (.head _), fm_congr fun b hb => h b (.tail _ hb)]
theorem parted_pairs {d : Nat} (hd : 1 ≤ d) (r : List Bool) : ∀ i, partedF d r i = (pairsS d i).filterMap (hkW d fun c => r.getD c false)
  | 0 => rfl
  | i + 1 => by
    rw [partedF_s, pairsS_s, List.filterMap_append, parted_pairs hd r i, hk_pairs, strandN_len, List.filterMap_map, List.map_filterMap]
    congr 1
    refine fm_congr ?_
    intro q hq
    obtain ⟨h1, h2⟩ := pairsN_lt hq
    exact hk_strand hd h1 h2
theorem perm_is {d : Nat} {l : List Bool} (hd2 : 2 ≤ d) (hd4 : d ≤ 4) (hl : l.length = 12) : (wholeF d (pgF l)).Perm (partedF d l d) := by
  rw [parted_pairs (by omega), whole_pairs, hl, ← hkW_cond, ← hkW_cond d _ (pairsS d d)]
  apply List.Perm.filterMap
  have hd : d = 2 ∨ d = 3 ∨ d = 4 := by omega
  rcases hd with rfl | rfl | rfl
  · exact perm2
  · exact perm3
  · exact perm4
theorem sum_ite (c : Nat → Bool) : ∀ L : List Nat, (L.map fun g => if c g then 1 else 0).sum = (L.filter c).length
  | [] => rfl
  | a :: r => by rw [List.map_cons, List.sum_cons, sum_ite c r, List.filter_cons]; split <;> simp <;> omega
theorem sum_add (f g : Nat → Nat) : ∀ L : List Nat, (L.map fun a => f a + g a).sum = (L.map f).sum + (L.map g).sum
  | [] => rfl
  | a :: r => by simp only [List.map_cons, List.sum_cons, sum_add f g r]; omega
theorem sum_zero : ∀ L : List Nat, (L.map fun _ => 0).sum = 0
  | [] => rfl
  | _ :: r => by rw [List.map_cons, List.sum_cons, sum_zero r]
theorem sum_swap (f : Nat → Nat → Nat) (B : List Nat) : ∀ A : List Nat, (A.map fun a => (B.map fun b => f a b).sum).sum = (B.map fun b => (A.map fun a => f a b).sum).sum
  | [] => (sum_zero B).symm
  | a :: r => by
    simp only [List.map_cons, List.sum_cons]
    rw [sum_swap f B r, ← sum_add]
theorem len_pairs (f : Nat × Nat → Option Int) (R B : List Nat) : (((R.map fun g => B.map fun b => (g, b)).flatten).filterMap f).length = (R.map fun g => (B.map fun b => if (f (g, b)).isSome then 1 else 0).sum).sum := by
  have one : ∀ (g : Nat) (B : List Nat), ((B.map fun b => (g, b)).filterMap f).length = (B.map fun b => if (f (g, b)).isSome then 1 else 0).sum := by
    intro g B
    induction B with
    | nil => rfl
    | cons b r ih =>
      rw [List.map_cons, List.map_cons, List.sum_cons, ← ih, List.filterMap_cons]
      cases f (g, b) <;> simp <;> omega
  induction R with
  | nil => rfl
  | cons g r ih => rw [List.map_cons, List.flatten_cons, List.filterMap_append, List.length_append, ih, one, List.map_cons, List.sum_cons]
/-- gaps ahead, of the same remainder -/
noncomputable def gapsN (d : Nat) (p : Nat → Bool) (c : Nat) : Nat := ((List.range 12).filter fun o => !(p o) && sameN d c o).length
theorem filter_two (p c : Nat → Bool) : ∀ L : List Nat, (L.filter fun o => p o && c o).length + (L.filter fun o => !(p o) && c o).length = (L.filter c).length
  | [] => rfl
  | a :: r => by
    have ih := filter_two p c r
    simp only [List.filter_cons]
    cases p a <;> cases c a <;> simp <;> omega
theorem gaps_home {d : Nat} (hd2 : 2 ≤ d) (hd4 : d ≤ 4) (p : Nat → Bool) {b : Nat} (hb : b < 12) : homeN d p b + d * gapsN d p b = b := by
  have h1 := filter_two p (sameN d b) (List.range 12)
  have h2 := home_all ⟨d, by omega⟩ ⟨b, hb⟩ hd2
  simp only at h2
  rw [← h1, Nat.mul_add] at h2
  unfold homeN aheadN gapsN
  omega
theorem whole_len {d : Nat} {l : List Bool} (hd2 : 2 ≤ d) (hd4 : d ≤ 4) (hl : l.length = 12) : (homesN d fun c => l.getD c false).sum + d * (wholeF d (pgF l)).length = (beadsN fun c => l.getD c false).sum := by
  rw [whole_pairs, hl]
  generalize (fun c => l.getD c false) = p
  unfold pairsN
  rw [len_pairs, sum_swap]
  have e1 : (fun b => ((List.range 12).map fun a => if (hkW d p (a, b)).isSome then 1 else 0).sum) = fun b => if p b then gapsN d p b else 0 := by
    funext b
    rw [sum_ite]
    unfold gapsN
    split
    · rename_i hb
      congr 1
      refine List.filter_congr fun o _ => ?_
      unfold hkW hkO sameN
      simp only [hb, Bool.and_true]
      by_cases h1 : o < b
      · have e : ((b - o) % d == 0) = (o % d == b % d) := by rw [Bool.eq_iff_iff, beq_iff_eq, beq_iff_eq]; exact mod_iff (Nat.le_of_lt h1)
        rw [e, decide_eq_true h1]
        cases p o <;> cases (o % d == b % d) <;> rfl
      · rw [decide_eq_false h1]
        cases p o <;> rfl
    · rename_i hb
      rw [List.length_eq_zero_iff, List.filter_eq_nil_iff]
      intro o _
      unfold hkW hkO
      simp [hb]
  rw [e1]
  have e2 : ((List.range 12).reverse.map fun b => if p b then gapsN d p b else 0).sum = ((List.range 12).map fun b => if p b then gapsN d p b else 0).sum := ((List.reverse_perm _).map _).sum_nat
  rw [e2]
  unfold homesN beadsN
  have key : ∀ L : List Nat, (∀ b ∈ L, b < 12) → ((L.filter p).map (homeN d p)).sum + d * (L.map fun b => if p b then gapsN d p b else 0).sum = (L.filter p).sum := by
    intro L
    induction L with
    | nil => intro _; rfl
    | cons b r ih =>
      intro h
      have h1 := gaps_home hd2 hd4 p (h b (.head _))
      have h2 := ih fun c hc => h c (.tail _ hc)
      rw [List.filter_cons, List.map_cons, List.sum_cons, Nat.mul_add]
      split
      · rw [List.map_cons, List.sum_cons, List.sum_cons]; omega
      · omega
  exact key _ fun b hb => List.mem_range.mp hb
end Mine
end

/-! M11 -/
section
open PySem PySem.W PySem.Spec PySem.Calls PyProof.Rows
set_option maxRecDepth 100000
namespace Mine
theorem rowL_get {x c : Nat} (h : c < 12) : (rowL x).getD c false = x.testBit c := by
  unfold rowL
  rw [List.getD_eq_getElem?_getD, List.getElem?_map, List.getElem?_range h]; rfl
theorem bits_beads (x : Nat) : bitsI x = (beadsN fun c => (rowL x).getD c false).map fun (i : Nat) => (i : Int) := by
  unfold bitsI beadsN
  rw [List.filter_congr fun c hc => (rowL_get (x := x) (List.mem_range.mp hc)).symm]
theorem ahead_int {d x c : Nat} : (aheadF d x (c : Int)).length = aheadN d (fun c => (rowL x).getD c false) c := by
  unfold aheadF aheadN
  rw [bits_beads, List.filter_map, List.length_map]
  unfold beadsN
  rw [List.filter_filter]
  congr 1
  refine List.filter_congr fun o _ => ?_
  rw [Bool.and_comm]
  congr 1
  simp only [Function.comp]
  unfold sameN
  by_cases h : o < c
  · have e : (c : Int) - (o : Int) = ((c - o : Nat) : Int) := (Int.ofNat_sub (Nat.le_of_lt h)).symm
    rw [e, fmod_nat, decide_eq_true (Int.ofNat_lt.mpr h), decide_eq_true h, Bool.true_and, Bool.true_and, Bool.eq_iff_iff, decide_eq_true_eq, beq_iff_eq, ← mod_iff (Nat.le_of_lt h)]
    exact Int.natCast_eq_zero
  · rw [decide_eq_false (fun q => h (Int.ofNat_lt.mp q)), decide_eq_false h]; rfl
theorem homes_int (d x : Nat) : homesI d x = (homesN d fun c => (rowL x).getD c false).map fun (i : Nat) => (i : Int) := by
  unfold homesI homesN
  rw [bits_beads, List.map_map, List.map_map]
  refine List.map_congr_left fun c _ => ?_
  simp only [Function.comp]
  unfold homeF homeN
  rw [ahead_int, fmod_nat]
  push_cast; rfl
/-- the crossed pairs, by places and by the list -/
theorem crs_snoc (a : Nat) : ∀ l : List Nat, crs (l ++ [a]) = crs l + l.countP (fun b => decide (a < b))
  | [] => rfl
  | b :: r => by
    have ih := crs_snoc a r
    simp only [List.cons_append, crs_c, ih, List.countP_append, List.countP_cons, List.countP_nil]
    omega
theorem cnt2_congr {p q : Nat → Nat → Bool} : ∀ n, (∀ i j, i < n → j < i → p i j = q i j) → cnt2 p n = cnt2 q n
  | 0, _ => rfl
  | n + 1, h => by
    rw [cnt2_s, cnt2_s, cnt2_congr n fun i j h1 h2 => h i j (by omega) h2]
    congr 2
    exact List.filter_congr fun j hj => h n j (by omega) (List.mem_range.mp hj)
theorem get_int (l : List Nat) (i : Nat) : (l.map fun (i : Nat) => (i : Int)).getD i 0 = ((l.getD i 0 : Nat) : Int) := by
  rw [List.getD_eq_getElem?_getD, List.getElem?_map, List.getD_eq_getElem?_getD]
  cases l[i]? <;> rfl
theorem count_range (f : Nat → Bool) (l : List Nat) : ((List.range l.length).filter fun j => f (l.getD j 0)).length = l.countP f := by
  rw [List.countP_eq_length_filter]
  have e : l = (List.range l.length).map fun j => l.getD j 0 := by
    apply List.ext_getElem (by simp)
    intro i h1 h2
    simp [h1]
  conv => rhs; rw [e]
  rw [List.filter_map, List.length_map]; rfl
theorem snoc_n {P : List Nat → Prop} (h0 : P []) (h1 : ∀ l b, P l → P (l ++ [b])) (l : List Nat) : P l := by
  have key : ∀ r : List Nat, P r.reverse := by
    intro r
    induction r with
    | nil => exact h0
    | cons b r ih => rw [List.reverse_cons]; exact h1 _ _ ih
  have := key l.reverse
  rwa [List.reverse_reverse] at this
theorem cross_crs (l : List Nat) : crossF (l.map fun (i : Nat) => (i : Int)) = crs l := by
  have e : crossF (l.map fun (i : Nat) => (i : Int)) = cnt2 (fun i j => decide (l.getD i 0 < l.getD j 0)) l.length := by
    unfold crossF
    rw [List.length_map]
    refine cnt2_congr _ fun i j _ _ => ?_
    rw [get_int, get_int]
    exact decide_eq_decide.mpr (by omega)
  rw [e]
  clear e
  induction l using snoc_n with
  | h0 => rfl
  | h1 l a ih =>
    rw [crs_snoc, ← ih, List.length_append, List.length_singleton, cnt2_s]
    have g : ∀ j, j < l.length → (l ++ [a]).getD j 0 = l.getD j 0 := fun j hj => by
      rw [List.getD_eq_getElem?_getD, List.getElem?_append_left hj, List.getD_eq_getElem?_getD]
    have g1 : (l ++ [a]).getD l.length 0 = a := by
      rw [List.getD_eq_getElem?_getD, List.getElem?_append_right (Nat.le_refl _)]; simp
    congr 1
    · exact cnt2_congr _ fun i j h1 h2 => by rw [g i h1, g j (by omega)]
    · rw [← count_range]
      congr 1
      exact List.filter_congr fun j hj => by rw [g1, g j (List.mem_range.mp hj)]
/-- the number of a row -/
theorem num_n (p : Nat → Bool) : ∀ n, (((List.range n).filter p).map fun (i : Nat) => 2 ^ i).sum < 2 ^ n ∧ ∀ j, ((((List.range n).filter p).map fun (i : Nat) => 2 ^ i).sum).testBit j = (decide (j < n) && p j)
  | 0 => ⟨Nat.zero_lt_one, fun j => by simp⟩
  | n + 1 => by
    obtain ⟨h1, h2⟩ := num_n p n
    rw [List.range_succ, List.filter_append, List.map_append, List.sum_append, List.filter_cons, List.filter_nil]
    generalize (((List.range n).filter p).map fun (i : Nat) => 2 ^ i).sum = S at h1 h2
    cases hp : p n
    · simp only [Bool.false_eq_true, if_false, List.map_nil, List.sum_nil, Nat.add_zero]
      refine ⟨by rw [Nat.pow_succ]; omega, fun j => ?_⟩
      rw [h2]
      by_cases e : j = n
      · subst e; rw [hp]; simp
      · congr 1; exact decide_eq_decide.mpr (by omega)
    · simp only [if_true, List.map_cons, List.map_nil, List.sum_cons, List.sum_nil, Nat.add_zero]
      rw [Nat.add_comm S]
      refine ⟨by rw [Nat.pow_succ]; omega, fun j => ?_⟩
      rcases Nat.lt_trichotomy j n with e | e | e
      · rw [Nat.testBit_two_pow_add_gt e, h2, decide_eq_true e, decide_eq_true (show j < n + 1 by omega)]
      · subst e
        rw [Nat.testBit_two_pow_add_eq, h2, hp]; simp
      · have : 2 ^ n + S < 2 ^ j := by
          have a := Nat.pow_le_pow_right (n := 2) (by decide) (show n + 1 ≤ j by omega)
          rw [Nat.pow_succ] at a; omega
        rw [Nat.testBit_lt_two_pow this, decide_eq_false (by omega)]; rfl
theorem numL_lt (r : List Bool) : numL r < 4096 := (num_n (fun i => r.getD i false) 12).1
theorem numL_bit {r : List Bool} {j : Nat} (h : j < 12) : (numL r).testBit j = r.getD j false := by
  have := (num_n (fun i => r.getD i false) 12).2 j
  rw [decide_eq_true h] at this
  exact this
theorem numL_zero {r : List Bool} : numL r = 0 ↔ (beadsN fun c => r.getD c false) = [] := by
  constructor
  · intro h
    unfold beadsN
    rw [List.filter_eq_nil_iff]
    intro c hc
    rw [← numL_bit (List.mem_range.mp hc), h]; simp
  · intro h
    unfold beadsN at h
    unfold numL
    rw [h]; rfl
/-- the words of the end are those of the homes -/
theorem words_end {d x : Nat} {r : List Bool} (hp : (homesN d fun c => (rowL x).getD c false).Perm (beadsN fun c => r.getD c false)) : flagsF (numL r) = wordsF (homesI d x) := by
  unfold flagsF wordsF
  have e0 : (homesI d x = []) ↔ numL r = 0 := by
    rw [homes_int, List.map_eq_nil_iff, numL_zero]
    constructor
    · intro h; rw [h] at hp; exact hp.nil_eq.symm
    · intro h; rw [h] at hp; exact hp.eq_nil
  by_cases h : numL r = 0
  · rw [if_pos h, if_pos (e0.mpr h)]
  · rw [if_neg h, if_neg fun q => h (e0.mp q)]
    unfold bitNames
    congr 2
    refine List.filter_congr fun i hi => ?_
    have hi := List.mem_range.mp hi
    rw [numL_bit hi, homes_int, List.any_map]
    rw [hp.any_eq]
    cases hr : r.getD i false
    · symm
      rw [Bool.eq_false_iff]
      intro q
      obtain ⟨z, hz, e⟩ := List.any_eq_true.mp q
      have e : z = i := by
        have e : (z : Int) = (i : Int) := eq_of_beq e
        omega
      have := (List.mem_filter.mp hz).2
      rw [e, hr] at this; cases this
    · symm
      refine List.any_eq_true.mpr ⟨i, List.mem_filter.mpr ⟨List.mem_range.mpr hi, hr⟩, by simp⟩
theorem beads_sum (p : Nat → Bool) : (beadsN p).sum ≤ 66 := by
  have key : ∀ L : List Nat, (L.filter p).sum ≤ L.sum := by
    intro L
    induction L with
    | nil => exact Nat.le_refl _
    | cons a r ih => rw [List.filter_cons, List.sum_cons]; split <;> (try rw [List.sum_cons]) <;> omega
  exact key (List.range 12)
theorem plain_end (d x : Nat) (r : List Bool) (k n : Nat) (hd2 : 2 ≤ d) (hd4 : d ≤ 4) (_hx : x < 4096) (hr : r.length = 12) (h : Run d (rowL x) r k n) (hf : freeN d r = []) : EndOk d x r k n := by
  have hl := rowL_len x
  obtain ⟨_, i2, i3, i4⟩ := run_homes h (by omega) hl
  have hs := stuck_homes hd2 hd4 hr hf
  rw [hs] at i2 i3
  rw [crs_sorted (beads_sorted _)] at i3
  have w1 := whole_len hd2 hd4 hl
  have w2 := whole_len hd2 hd4 hr
  rw [hs] at w2
  have b1 := beads_sum fun c => (rowL x).getD c false
  have hn : (wholeF d (pgF r)).length = 0 := by
    rcases Nat.eq_zero_or_pos (wholeF d (pgF r)).length with e | e
    · exact e
    · have := Nat.mul_le_mul hd2 e; omega
  have hk : (wholeF d (pgF (rowL x))).length = k := by
    have := i2.sum_nat
    have : d * (wholeF d (pgF (rowL x))).length = d * k := by omega
    exact Nat.eq_of_mul_eq_mul_left (by omega) this
  have hk33 : k ≤ 33 := by
    have := Nat.mul_le_mul_right k hd2
    omega
  have lx := hk_len (rowL x)
  have lr := hk_len r
  rw [hl] at lx
  rw [hr] at lr
  have st : ∀ i, i < d → (strandL d i (rowL x)).length ≤ 12 := fun i hi => by
    rcases strand_short (l := rowL x) hd2 hd4 hi with e | e | e <;> omega
  exact {
    hX := numL_lt r
    hW := words_end i2
    par := by
      rw [homes_int, cross_crs]
      generalize crs (homesN d fun c => (rowL x).getD c false) = c at i3
      rw [Int.fmod_eq_emod_of_nonneg _ (by decide)]
      omega
    hk := by omega
    b1 := pgB (by omega)
    b2 := pgB (by omega)
    ind := run_ind h (by omega)
    l1 := by omega
    l2 := by omega
    bS := fun i hi => by
      have s1 := st i hi
      refine ⟨pgB s1, ?_, fun z hz => ?_⟩
      · have := hk_len (strandL d i (rowL x))
        have := Nat.mul_le_mul s1 s1
        omega
      · have := hk_mem hz; omega
    wl := by omega
    wk := hk
    perm := perm_is hd2 hd4 hl
    nil := List.length_eq_zero_iff.mp hn }
end Mine
end

theorem PySem.Challenge.cw_re0114_01_holds : PySem.Challenge.rw_re0114_01.Holds := by
  exact Mine.law_top Mine.plain_end
