import PyProof.Rows.All
import Wide.All
import OpenK.AllK
import Wide.FinOn
import Lean
import PySem.Challenge.RW_fq0029_01
open PySem PySem.W PyProof.Rows
set_option Elab.async false
set_option maxRecDepth 100000
set_option maxHeartbeats 0
set_option linter.unusedVariables false
namespace Mine
theorem quiet : True := by
  run_tac do
    for n in [`Mine.hd.heap_1447, `Mine.hd.tree_1446, `Mine.hd.tree_1182, `Mine.hd.tree_1415, `Mine.hd.tree_1403, `Mine.hd.heap_39, `Mine.hd.tree_1360, `Mine.hd.tree_1340, `Mine.hd.tree_1311, `Mine.hd.tree_1231, `Mine.hd.tree_1217, `Mine.hd.tree_963, `Mine.hd.tree_629, `Mine.hd.tree_906, `Mine.hd.tree_858, `Mine.hd.tree_810, `Mine.hd.view_39, `Mine.hd.tree_763, `Mine.hd.tree_697] do
      PySem.W.Fast.primed.modify (·.insert n none)
  trivial
open_top hd for PySem.Challenge.rw_fq0029_01
theorem calm : True := by
  w_top off
  trivial
end Mine
open PySem.Calls PySem.Spec
set_option pp.deepTerms false
set_option pp.maxSteps 3000
namespace Mine
/-- nothing that stood is changed -/
structure Keeps (h h' : Heap) : Prop where
  keep : ∀ b o, h.get? b = some o → h'.get? b = some o
  size : h.objs.size ≤ h'.objs.size
theorem Keeps.refl {h : Heap} : Keeps h h := ⟨fun _ _ e => e, Nat.le_refl _⟩
theorem Keeps.trans {h h' h'' : Heap} (a : Keeps h h') (b : Keeps h' h'') : Keeps h h'' := ⟨fun x o e => b.keep x o (a.keep x o e), Nat.le_trans a.size b.size⟩
theorem keeps_of {h h' : Heap} {L : Addr} {m : Str → Option Value} (F : Fr h L h' m) : Keeps h h' := ⟨F.keep, Nat.le_trans F.above (Nat.le_of_lt F.ns.lt)⟩
theorem fr_onto {h₀ h h' : Heap} {L : Addr} {m : Str → Option Value} (F : Fr h₀ L h m) (k : Keeps h h') : Fr h₀ L h' m := ⟨F.ns.keeps k.keep, fun b o e => k.keep b o (F.keep b o e), F.above⟩
theorem news_onto {h₀ h h' : Heap} {L : Addr} {news : List (Addr × Obj)} (N : News h₀ L h news) (k : Keeps h h') : News h₀ L h' news := fun p hp => ⟨k.keep _ _ (N p hp).1, (N p hp).2⟩
theorem get_none_of_size {h : Heap} {a : Addr} (ha : h.objs.size ≤ a) : h.get? a = none := by
  cases e : h.get? a with
  | none => rfl
  | some o => exact absurd (Heap.lt_size e) (Nat.not_lt.mpr ha)
theorem fr_none {h₀ h : Heap} {L a : Addr} {m : Str → Option Value} (F : Fr h₀ L h m) (ha : h.objs.size ≤ a) : h₀.get? a = none := by
  cases e : h₀.get? a with
  | none => rfl
  | some o => exact absurd (Heap.lt_size (F.keep _ _ e)) (Nat.not_lt.mpr ha)
theorem news_add {h₀ h h' : Heap} {L r : Addr} {o : Obj} {m : Str → Option Value} {news : List (Addr × Obj)} (F : Fr h₀ L h m) (N : News h₀ L h' news) (hr : h.objs.size ≤ r) (ho : h'.get? r = some o) : News h₀ L h' ((r, o) :: news) := fun p hp => by
  rcases List.mem_cons.mp hp with rfl | hp
  · exact ⟨ho, Nat.ne_of_gt (Nat.lt_of_lt_of_le F.ns.lt hr), fr_none F hr⟩
  · exact N p hp
theorem news_lt {h₀ h : Heap} {L : Addr} {news : List (Addr × Obj)} (N : News h₀ L h news) {r : Addr} (hr : h.objs.size ≤ r) : ∀ p ∈ news, p.1 < r := fun p hp => Nat.lt_of_lt_of_le (Heap.lt_size (N p hp).1) hr

section
variable {prog : Program} {w : World} {A₀ A : Around} {s : Shared} {K : Frag} {L : Addr} {base h₀ : Heap} {m mg mb : Str → Option Value} {p : Program} {loose : List Str} {mean : ExcName → Option Value}
/-- a def's call over the whole heap as its base -/
theorem enterW {env : Env} {outer : List Env} {R : Result → Shared → Prop} {name qual : Str} {params : Arguments} {body : List Stmt} {scope : Scope} {dV kV doc pm cdv ct oc : Value} {an od : Option Addr} {osl : Array (Option Value)} {f : Addr} {args : Args} {binds : List (Str × Value)}
    (B : Below A₀ base outer h₀) (F : Fr h₀ L s.heap m) (X₀ : K.In h₀) (T : Top p loose mean mg mb h₀) (hA : A.frames = some (env :: outer)) (hf : env.frame = some L) (hke : env.scope.kind = .function)
    (ho : K.lookup f = some ⟨oc, od, .func (fnOf name qual params body scope dV kV doc pm an cdv ct), osl⟩) (hcd : codeIn K cdv qual = true) (hroom : A.depth < recursionLimit)
    (hbind : BindsTo s (fnOf name qual params body scope dV kV doc pm an cdv ct) args binds) (hloc : ∀ y ∈ binds, scope.names.lookup y.1 = some .local)
    (h : ∀ L' h₁, Fr s.heap L' h₁ (fun y => binds.reverse.lookup y) → News s.heap L' h₁ [] → Below A base (env :: outer) s.heap → K.In s.heap → Top p loose mean mg mb s.heap →
      wpAny (model prog w) (A.deeper (envOf qual scope L' f cdv)) (execs body (envOf qual scope L' f cdv))
        (fun fl s' => R (.ok (.ret (match fl with | .ret v => v | _ => .none))) s')
        (fun e s' => wpAny (model prog w) (A.deeper (envOf qual scope L' f cdv)) (leaving (envOf qual scope L' f cdv) e) (fun _ s'' => R (.error e) s'') (fun e' s'' => R (.error e') s'') s')
        { s with heap := h₁, toks := s.toks + binds.length })
    (hco : scope.isCoroutine = false) (hgen : scope.isGenerator = false) (hk : scope.kind = .function)
    (hcell : ∀ x ∈ scope.names, x.2 ≠ .cell) : codeAny (model prog w) A (.call (.ref f) args) R s := by
  have X := X₀.keeps F.keep
  have T' := T.keeps F.keep
  have B' := pushX B F hf hke
  refine codeAny_call_def (fd := fnOf name qual params body scope dV kV doc pm an cdv ct) (body := body) (binds := binds) hroom (X _ _ ho) rfl T'.nolimit (codeRec_of X hcd) rfl hbind hcell hloc (fun h₁ hns hk₁ => ?_) hco hgen hk
  exact h s.heap.objs.size h₁ ⟨hns, hk₁, Nat.le_refl _⟩ News.nil ⟨hA, fun b o e => B'.stays b o e, B'.frames⟩ X T'
end
def Bot : Value → Shared → Prop := fun _ _ => False
def ForAt (prog : Program) (w : World) (A : Around) (env : Env) (target : Expr) (body : List Stmt) (Q : Flow → Shared → Prop) (it : Value) (s₀ : Shared) : Prop :=
  ∃ (n : Nat) (I : Nat → Shared → Prop), I n s₀ ∧ ∀ n s, I n s → wpAny (model prog w) A (pyNext it) (fun r s₁ => match r with
    | none => Q .next s₁
    | some v => wpAny (model prog w) A (letOwnedTupleGo target it v) (fun _ s₁' => wpAny (model prog w) A (assign target env v) (fun _ s₂ => wpAny (model prog w) A (execs body env) (fun f s₃ => match f with
        | .next | .cont => ∃ m, m < n ∧ I m s₃
        | .brk => Q .next s₃
        | .ret v => Q (.ret v) s₃) Bot s₂) Bot s₁') Bot s₁) Bot s
section
variable {prog : Program} {w : World} {A : Around} {E : Value → Shared → Prop} {s : Shared} {env : Env}
theorem bot_mono {α : Type} {M : Model} {t : Sem α} {Q : α → Shared → Prop} (h : wpAny M A t Q Bot s) : wpAny M A t Q E s := wpAny_mono h (fun _ _ x => x) fun _ _ x => x.elim
theorem forLoop_my {target : Expr} {body : List Stmt} {Q : Flow → Shared → Prop} {it : Value} (h : ForAt prog w A env target body Q it s) :
    codeAny (model prog w) A (.forLoop target it body [] env) (fun r s' => match r with | .ok f => Q f s' | .error e => cameBackBy (model prog w) A env E e s') s := by
  obtain ⟨n, I, hI, turn⟩ := h
  refine codeAny_forLoop_any I (fun n s hI => ?_) n hI
  refine wpAny_mono (turn n s hI) (fun r s₁ h₁ => ?_) fun _ _ x => x.elim
  cases r with
  | none => exact wpAny_execs_nil h₁
  | some v =>
    refine wpAny_mono h₁ (fun _ s₁' h₂ => wpAny_mono h₂ (fun _ s₂ h₃ => wpAny_mono h₃ (fun f s₃ h₄ => ?_) fun _ _ x => x.elim) fun _ _ x => x.elim) fun _ _ x => x.elim
    cases f <;> exact h₄
theorem For_my {target iter : Expr} {body : List Stmt} {pos : Pos} {Q : Flow → Shared → Prop}
    (h : wpAny (model prog w) A (eval iter env) (fun xv s₁ => wpAny (model prog w) A (pyIter xv) (fun it s₂ => ForAt prog w A env target body Q it s₂) E s₁) E s)
    (hs : ∀ x, foldedSetIterable iter env x = pure x) : wpAny (model prog w) A (exec (.For target iter body [] pos) env) Q E s := by
  refine wpAny_For (wpAny_mono h (fun xv s₁ h₁ => wpAny_mono h₁ (fun it s₂ h₂ => ?_) fun _ _ e => e) fun _ _ e => e) hs
  exact forLoop_my h₂

/-- the end of a turn -/
def TurnEnd (h₀ : Heap) (L : Addr) (J : (Str → Option Value) → List (Addr × Obj) → Prop) (own : List (Addr × Obj)) (Q : Flow → Shared → Prop) (s : Shared) (f : Flow) (s₃ : Shared) : Prop :=
  match f with
  | .next | .cont => ∃ h' tk m' news', s₃ = { s with heap := h', toks := tk } ∧ Fr h₀ L h' m' ∧ News h₀ L h' (own ++ news') ∧ J m' news'
  | .brk => Q .next s₃
  | .ret v => Q (.ret v) s₃
theorem TurnEnd.next {h₀ : Heap} {L : Addr} {J : (Str → Option Value) → List (Addr × Obj) → Prop} {own : List (Addr × Obj)} {Q : Flow → Shared → Prop} {s : Shared} {h' : Heap} {tk : Nat} {m' : Str → Option Value} {news' : List (Addr × Obj)}
    (F : Fr h₀ L h' m') (N : News h₀ L h' (own ++ news')) (hJ : J m' news') : TurnEnd h₀ L J own Q s .next { s with heap := h', toks := tk } := ⟨h', tk, m', news', rfl, F, N, hJ⟩
theorem TurnEnd.cont {h₀ : Heap} {L : Addr} {J : (Str → Option Value) → List (Addr × Obj) → Prop} {own : List (Addr × Obj)} {Q : Flow → Shared → Prop} {s : Shared} {h' : Heap} {tk : Nat} {m' : Str → Option Value} {news' : List (Addr × Obj)}
    (F : Fr h₀ L h' m') (N : News h₀ L h' (own ++ news')) (hJ : J m' news') : TurnEnd h₀ L J own Q s .cont { s with heap := h', toks := tk } := ⟨h', tk, m', news', rfl, F, N, hJ⟩

theorem forWalks {x : Str} {px : Pos} {body : List Stmt} {Q : Flow → Shared → Prop} {I : Addr} {fp : List Addr} {n : Nat} {P : Nat → Value → Prop} {St : Nat → Heap → Prop} {h₀ : Heap} {m : Str → Option Value} {own news : List (Addr × Obj)}
    (W : Walks prog w A I fp [I] n P St) (hx : env.kindOf x = some .local) (hp : (env.scope.kind == .class || (env.scope.kind == .module && env.locals != env.globals)) = false)
    (hSt : ∀ i h, St i h → ∃ io, h.get? I = some io) (hst : St 0 s.heap) (F : Fr h₀ env.locals s.heap m) (N : News h₀ env.locals s.heap (own ++ news))
    (hfp : ∀ b ∈ fp, b ≠ env.locals ∧ (b = I ∨ (∃ o, h₀.get? b = some o) ∨ ∃ o, (b, o) ∈ own)) (hIL : I ≠ env.locals) (hI0 : h₀.get? I = none) (hIo : ∀ p ∈ own, p.1 ≠ I)
    (J : Nat → (Str → Option Value) → List (Addr × Obj) → Prop) (h0 : J 0 m news) (hJI : ∀ i m₁ news₁, J i m₁ news₁ → ∀ p ∈ news₁, p.1 ≠ I)
    (turn : ∀ i v m₁ news₁ h tk io, i < n → P i v → J i m₁ news₁ → Fr h₀ env.locals h (fun y => if y = x then some v else m₁ y) → News h₀ env.locals h (((I, io) :: own) ++ news₁) →
      wpAny (model prog w) A (execs body env) (TurnEnd h₀ env.locals (J (i + 1)) ((I, io) :: own) Q { s with heap := h, toks := tk }) Bot { s with heap := h, toks := tk })
    (done : ∀ m₁ news₁ h tk, J n m₁ news₁ → Fr h₀ env.locals h m₁ → News h₀ env.locals h (own ++ news₁) → Q .next { s with heap := h, toks := tk }) :
    ForAt prog w A env (.Name x px) body Q (.ref I) s := by
  refine ⟨n + 1, fun k s' => ∃ h' tk m' news' i, s' = { s with heap := h', toks := tk } ∧ St i h' ∧ Fr h₀ env.locals h' m' ∧ News h₀ env.locals h' (own ++ news') ∧ J i m' news' ∧ i ≤ n ∧ k = n + 1 - i,
    ⟨s.heap, s.toks, m, news, 0, rfl, hst, F, N, h0, Nat.zero_le _, rfl⟩, ?_⟩
  rintro k s' ⟨h', tk, m', news', i, rfl, hst', F', N', hJ, hi, rfl⟩
  have off : ∀ p ∈ own ++ news', p.1 ≠ I := fun p hp => (List.mem_append.mp hp).elim (hIo p) (hJI i m' news' hJ p)
  have nx : ∀ h₁ : Heap, (∀ b o, b ∉ [I] → h'.get? b = some o → h₁.get? b = some o) → Fr h₀ env.locals h₁ m' ∧ News h₀ env.locals h₁ (own ++ news') := fun h₁ hk₁ =>
    ⟨⟨F'.ns.at' fun o e => hk₁ _ o (fun hb => hIL (List.mem_singleton.mp hb).symm) e, fun b o e => hk₁ b o (fun hb => by rw [List.mem_singleton.mp hb, hI0] at e; cases e) (F'.keep b o e), F'.above⟩,
      fun p hp => ⟨hk₁ _ _ (fun hb => off p hp (List.mem_singleton.mp hb)) (N' p hp).1, (N' p hp).2⟩⟩
  by_cases hlt : i < n
  · refine W.item i _ _ _ hlt hst' fun v h₁ tk₁ hP hst₁ hk₁ => ?_
    obtain ⟨F₁, N₁⟩ := nx h₁ hk₁
    refine wpAny_of_eq (by rfl) ?_
    refine wpAny_assign_Name (wpAny_storeName_local hx F₁.ns (fun h₂ hn₂ hs₂ => ?_) hp)
    have F₂ := F₁.set hn₂ hs₂
    have N₂ := N₁.set hs₂
    obtain ⟨io, hio⟩ := hSt _ _ hst₁
    have hio₂ : h₂.get? I = some io := (hs₂.2 I hIL).trans hio
    have N₃ : News h₀ env.locals h₂ (((I, io) :: own) ++ news') := fun p hp => by
      rw [List.cons_append] at hp
      rcases List.mem_cons.mp hp with rfl | hp
      · exact ⟨hio₂, hIL, hI0⟩
      · exact N₂ p hp
    have hst₂ : St (i + 1) h₂ := W.frame _ _ _ hst₁ fun b hb o e => (hs₂.2 b (hfp b hb).1).trans e
    have fin : ∀ h₃ m₃ news₃, Fr h₀ env.locals h₃ m₃ → News h₀ env.locals h₃ (((I, io) :: own) ++ news₃) → St (i + 1) h₃ := fun h₃ m₃ news₃ F₃ N₃' => W.frame _ _ _ hst₂ fun b hb o e => by
      rcases (hfp b hb).2 with rfl | ⟨o', ho'⟩ | ⟨o', ho'⟩
      · rw [hio₂] at e; cases e; exact (N₃' _ (.head _)).1
      · have := F₂.keep b o' ho'; rw [e] at this; cases this; exact F₃.keep b _ ho'
      · have := (N₃ (b, o') (List.mem_append_left _ (.tail _ ho'))).1; rw [e] at this; cases this; exact (N₃' (b, _) (List.mem_append_left _ (.tail _ ho'))).1
    refine wpAny_mono (turn i v m' news' _ _ io hlt hP hJ F₂ N₃) (fun f s₃ h₃ => ?_) fun _ _ e => e
    cases f with
    | ret v => exact h₃
    | brk => exact h₃
    | cont =>
      obtain ⟨h₃', tk₃, m₃, news₃, rfl, F₃, N₃', hJ₃⟩ := h₃
      exact ⟨n + 1 - (i + 1), by omega, h₃', tk₃, m₃, news₃, i + 1, rfl, fin _ _ _ F₃ N₃', F₃, fun p hp => N₃' p (.tail _ hp), hJ₃, hlt, rfl⟩
    | next =>
      obtain ⟨h₃', tk₃, m₃, news₃, rfl, F₃, N₃', hJ₃⟩ := h₃
      exact ⟨n + 1 - (i + 1), by omega, h₃', tk₃, m₃, news₃, i + 1, rfl, fin _ _ _ F₃ N₃', F₃, fun p hp => N₃' p (.tail _ hp), hJ₃, hlt, rfl⟩
  · have hin : i = n := by omega
    subst hin
    refine W.done _ _ _ hst' fun h₁ tk₁ hk₁ => ?_
    obtain ⟨F₁, N₁⟩ := nx h₁ hk₁
    exact done m' news' h₁ tk₁ hJ F₁ N₁

/-- over the keys of a dict of the base -/
theorem forDict {K : Type} [DecidableEq K] {knd : KeyKind prog w K} {x : Str} {px : Pos} {body : List Stmt} {Q : Flow → Shared → Prop} {d : Addr} {kvs : List (K × Value)} {h₀ : Heap} {m : Str → Option Value} {news : List (Addr × Obj)}
    (F : Fr h₀ env.locals s.heap m) (N : News h₀ env.locals s.heap news) (hd : h₀.DictOf knd d kvs) (hsys : (d == sysModules) = false) (hh : A.handled = none)
    (hx : env.kindOf x = some .local) (hp : (env.scope.kind == .class || (env.scope.kind == .module && env.locals != env.globals)) = false)
    (J : Nat → (Str → Option Value) → List (Addr × Obj) → Prop) (h0 : J 0 m news)
    (turn : ∀ I i k key v m₁ news₁ h tk io, (∀ p ∈ news, p.1 < I) → news₁.map (·.1) = news.map (·.1) → kvs[i]? = some (k, v) → knd.is k key = true → J i m₁ news₁ →
      Fr h₀ env.locals h (fun y => if y = x then some key else m₁ y) → News h₀ env.locals h ((I, io) :: news₁) →
      wpAny (model prog w) A (execs body env) (TurnEnd h₀ env.locals (fun m' n' => n'.map (·.1) = news.map (·.1) ∧ J (i + 1) m' n') [(I, io)] Q { s with heap := h, toks := tk }) Bot { s with heap := h, toks := tk })
    (done : ∀ m₁ news₁ h tk, news₁.map (·.1) = news.map (·.1) → J kvs.length m₁ news₁ → Fr h₀ env.locals h m₁ → News h₀ env.locals h news₁ → Q .next { s with heap := h, toks := tk }) :
    wpAny (model prog w) A (pyIter (.ref d)) (fun it s₂ => ForAt prog w A env (.Name x px) body Q it s₂) E s := by
  obtain ⟨ep, hat⟩ := (hd.keep F.keep).dictAt
  refine wpAny_pyIter_dict hsys hat ?_
  obtain ⟨od, esd, hod, _⟩ := id hat
  obtain ⟨ob, _, _, hob, _⟩ := id hd
  have hlt : d < s.heap.objs.size := Heap.lt_size hod
  have hne : d ≠ s.heap.objs.size := Nat.ne_of_lt hlt
  have hnl : ∀ p ∈ news, p.1 < s.heap.objs.size := fun p hp => Heap.lt_size (N p hp).1
  have nI : ∀ l : List (Addr × Obj), l.map (·.1) = news.map (·.1) → ∀ p ∈ l, p.1 ≠ s.heap.objs.size := fun l e p hp => by
    have : p.1 ∈ l.map (·.1) := List.mem_map.mpr ⟨p, hp, rfl⟩
    rw [e] at this
    obtain ⟨q, hq, e'⟩ := List.mem_map.mp this
    rw [← e']; exact Nat.ne_of_lt (hnl q hq)
  have hdL : d ≠ env.locals := Nat.ne_of_lt (Nat.lt_of_lt_of_le (Heap.lt_size hob) F.above)
  refine forWalks (own := []) (Walks.dictKeys (knd := knd) hh s.heap.objs.size d hne kvs ep) hx hp (fun i h st => ?_) ⟨⟨_, Heap.get?_push_size _ rfl, rfl, rfl⟩, hat.push _⟩ (F.push _) (fun p hp => ⟨Heap.get?_push_of_some _ (N p hp).1, (N p hp).2⟩) ?_
    (Nat.ne_of_gt F.ns.lt) (fr_none F (Nat.le_refl _)) (fun p hp => nomatch hp) (fun i m₁ n₁ => n₁.map (·.1) = news.map (·.1) ∧ J i m₁ n₁) ⟨rfl, h0⟩ (fun i m₁ n₁ hJ => nI n₁ hJ.1) ?_ ?_
  · obtain ⟨⟨o, ho, _⟩, _⟩ := st; exact ⟨o, ho⟩
  · intro b hb
    rcases List.mem_cons.mp hb with rfl | hb
    · exact ⟨Nat.ne_of_gt F.ns.lt, .inl rfl⟩
    · rw [List.mem_singleton.mp hb]; exact ⟨hdL, .inr (.inl ⟨ob, hob⟩)⟩
  · rintro i v m₁ n₁ h tk io hi ⟨k, y, hk, hkey⟩ ⟨hadr, hJ⟩ F₁ N₁
    exact turn _ i k v y m₁ n₁ h tk io hnl hadr hk hkey hJ F₁ N₁
  · rintro m₁ n₁ h tk ⟨hadr, hJ⟩ F₁ N₁
    exact done m₁ n₁ h tk hadr hJ F₁ N₁
/-- over a list of the base -/
theorem forList {x : Str} {px : Pos} {body : List Stmt} {Q : Flow → Shared → Prop} {d : Addr} {vs : Array Value} {h₀ : Heap} {m : Str → Option Value} {news : List (Addr × Obj)}
    (F : Fr h₀ env.locals s.heap m) (N : News h₀ env.locals s.heap news) (hd : h₀.IsList d vs) (hh : A.handled = none)
    (hx : env.kindOf x = some .local) (hp : (env.scope.kind == .class || (env.scope.kind == .module && env.locals != env.globals)) = false)
    (J : Nat → (Str → Option Value) → List (Addr × Obj) → Prop) (h0 : J 0 m news)
    (turn : ∀ I i v m₁ news₁ h tk io, (∀ p ∈ news, p.1 < I) → news₁.map (·.1) = news.map (·.1) → vs[i]? = some v → J i m₁ news₁ →
      Fr h₀ env.locals h (fun y => if y = x then some v else m₁ y) → News h₀ env.locals h ((I, io) :: news₁) →
      wpAny (model prog w) A (execs body env) (TurnEnd h₀ env.locals (fun m' n' => n'.map (·.1) = news.map (·.1) ∧ J (i + 1) m' n') [(I, io)] Q { s with heap := h, toks := tk }) Bot { s with heap := h, toks := tk })
    (done : ∀ m₁ news₁ h tk, news₁.map (·.1) = news.map (·.1) → J vs.size m₁ news₁ → Fr h₀ env.locals h m₁ → News h₀ env.locals h news₁ → Q .next { s with heap := h, toks := tk }) :
    wpAny (model prog w) A (pyIter (.ref d)) (fun it s₂ => ForAt prog w A env (.Name x px) body Q it s₂) E s := by
  have hds : s.heap.IsList d vs := hd.at fun o e => F.keep d o e
  refine wpAny_pyIter_list hds ?_
  obtain ⟨ob, hob, _⟩ := id hd
  have hlt : d < s.heap.objs.size := Heap.lt_size (F.keep _ _ hob)
  have hne : d ≠ s.heap.objs.size := Nat.ne_of_lt hlt
  have hnl : ∀ p ∈ news, p.1 < s.heap.objs.size := fun p hp => Heap.lt_size (N p hp).1
  have nI : ∀ l : List (Addr × Obj), l.map (·.1) = news.map (·.1) → ∀ p ∈ l, p.1 ≠ s.heap.objs.size := fun l e p hp => by
    have : p.1 ∈ l.map (·.1) := List.mem_map.mpr ⟨p, hp, rfl⟩
    rw [e] at this
    obtain ⟨q, hq, e'⟩ := List.mem_map.mp this
    rw [← e']; exact Nat.ne_of_lt (hnl q hq)
  have hdL : d ≠ env.locals := Nat.ne_of_lt (Nat.lt_of_lt_of_le (Heap.lt_size hob) F.above)
  refine forWalks (own := []) (Walks.list hh s.heap.objs.size d hne vs) hx hp (fun i h st => ?_) ⟨⟨_, Heap.get?_push_size _ rfl, rfl, rfl⟩, hds.at fun o e => Heap.get?_push_of_some _ e⟩ (F.push _) (fun p hp => ⟨Heap.get?_push_of_some _ (N p hp).1, (N p hp).2⟩) ?_
    (Nat.ne_of_gt F.ns.lt) (fr_none F (Nat.le_refl _)) (fun p hp => nomatch hp) (fun i m₁ n₁ => n₁.map (·.1) = news.map (·.1) ∧ J i m₁ n₁) ⟨rfl, h0⟩ (fun i m₁ n₁ hJ => nI n₁ hJ.1) ?_ ?_
  · obtain ⟨⟨o, ho, _⟩, _⟩ := st; exact ⟨o, ho⟩
  · intro b hb
    rcases List.mem_cons.mp hb with rfl | hb
    · exact ⟨Nat.ne_of_gt F.ns.lt, .inl rfl⟩
    · rw [List.mem_singleton.mp hb]; exact ⟨hdL, .inr (.inl ⟨ob, hob⟩)⟩
  · rintro i v m₁ n₁ h tk io hi hk ⟨hadr, hJ⟩ F₁ N₁
    exact turn _ i v m₁ n₁ h tk io hnl hadr hk hJ F₁ N₁
  · rintro m₁ n₁ h tk ⟨hadr, hJ⟩ F₁ N₁
    exact done m₁ n₁ h tk hadr hJ F₁ N₁
end
section
variable {prog : Program} {w : World} {A : Around} {E : Value → Shared → Prop} {s : Shared} {h₀ : Heap} {L : Addr} {m : Str → Option Value} {news : List (Addr × Obj)} {d : Addr} {k : Int} {u : Tok} {kvs : List (Int × Value)} {o : Obj}
abbrev ik (prog : Program) (w : World) := PySem.intKind prog w
/-- a dict that stands: in the base or in the ledger -/
def DictHere (prog : Program) (w : World) (h : Heap) (d : Addr) (kvs : List (Int × Value)) : Prop := h.DictOf (PySem.intKind prog w) d kvs
theorem here_base (F : Fr h₀ L s.heap m) (hd : h₀.DictOf (PySem.intKind prog w) d kvs) : DictHere prog w s.heap d kvs := hd.keep F.keep
theorem here_news (N : News h₀ L s.heap news) (hm : (d, o) ∈ news) (hd : o.IsDictOf (PySem.intKind prog w) kvs) : DictHere prog w s.heap d kvs := Heap.dictOf_iff.mpr ⟨o, (N _ hm).1, hd⟩
theorem item_d {value slice : Expr} {v : Value} {Q : Value → Shared → Prop} (hd : DictHere prog w s.heap d kvs) (hv : valueAt kvs k = some v) (h : Q v { s with toks := s.toks + 1 })
    (hs : subscripted slice false (.ref d) (.int k u) = operate [.ref d, .int k u] (getItem (.ref d) (.int k u)) := by with_unfolding_all rfl) :
    wpAny (model prog w) A (subscriptTail value slice (.ref d) (.int k u)) Q E s :=
  tail_any hd.typeIs slot_dict_getitem.lookup (wpAny_getItem_of (intKind_is prog w k u) hd.mapOf hv h) hs
theorem in_d {Q : Value → Shared → Prop} (hd : DictHere prog w s.heap d kvs) (lo : (d == sysModules) = false) (h : Q (.bool (valueAt kvs k).isSome) { s with toks := s.toks + 1 }) :
    wpAny (model prog w) A (compareOp .In (.int k u) (.ref d)) Q E s := wpAny_in_of (intKind_is prog w k u) lo hd.mapOf h
theorem notin_d {Q : Value → Shared → Prop} (hd : DictHere prog w s.heap d kvs) (lo : (d == sysModules) = false) (h : Q (.bool (!(valueAt kvs k).isSome)) { s with toks := s.toks + 1 }) :
    wpAny (model prog w) A (compareOp .NotIn (.int k u) (.ref d)) Q E s := wpAny_notIn_of (intKind_is prog w k u) lo hd.mapOf h
/-- a list that a loop walks and lets grow -/
theorem forGrow {env : Env} {q : Addr} {items : List Value} {nq : Nat} {x : Str} {px : Pos} {body : List Stmt} {Q : Flow → Shared → Prop} (bound : Nat)
    (F : Fr h₀ env.locals s.heap m) (N : News h₀ env.locals s.heap ((q, W.listOf items.toArray nq) :: news)) (hh : A.handled = none)
    (hx : env.kindOf x = some .local) (hp : (env.scope.kind == .class || (env.scope.kind == .module && env.locals != env.globals)) = false)
    (J : Nat → List Value → (Str → Option Value) → List (Addr × Obj) → Prop) (h0 : J 0 items m news) (hq : ∀ p ∈ news, p.1 ≠ q) (hb : ∀ i its m₁ n₁, J i its m₁ n₁ → its.length ≤ bound)
    (turn : ∀ I i v its n' m₁ news₁ h tk io, (∀ p ∈ news, p.1 < I) → q < I → news₁.map (·.1) = news.map (·.1) → its[i]? = some v → J i its m₁ news₁ →
      Fr h₀ env.locals h (fun y => if y = x then some v else m₁ y) → News h₀ env.locals h ((I, io) :: (q, W.listOf its.toArray n') :: news₁) →
      wpAny (model prog w) A (execs body env) (TurnEnd h₀ env.locals (fun m' nn => ∃ its' n'' news₂, nn = (q, W.listOf its'.toArray n'') :: news₂ ∧ news₂.map (·.1) = news.map (·.1) ∧ i + 1 ≤ its'.length ∧ J (i + 1) its' m' news₂) [(I, io)] Q { s with heap := h, toks := tk }) Bot { s with heap := h, toks := tk })
    (done : ∀ its n' m₁ news₁ h tk, news₁.map (·.1) = news.map (·.1) → J its.length its m₁ news₁ → Fr h₀ env.locals h m₁ → News h₀ env.locals h ((q, W.listOf its.toArray n') :: news₁) → Q .next { s with heap := h, toks := tk }) :
    wpAny (model prog w) A (pyIter (.ref q)) (fun it s₂ => ForAt prog w A env (.Name x px) body Q it s₂) E s := by
  have hlq : s.heap.IsList q items.toArray := ⟨_, (N _ (.head _)).1, rfl, nq, rfl⟩
  refine wpAny_pyIter_list hlq ?_
  have hnl : ∀ p ∈ ((q, W.listOf items.toArray nq) :: news), p.1 < s.heap.objs.size := fun p hp => Heap.lt_size (N p hp).1
  have hqI : q < s.heap.objs.size := hnl _ (.head _)
  have hqL : q ≠ env.locals := (N _ (.head _)).2.1
  have hIL : s.heap.objs.size ≠ env.locals := Nat.ne_of_gt F.ns.lt
  have hI0 : h₀.get? s.heap.objs.size = none := fr_none F (Nat.le_refl _)
  have nI : ∀ l : List (Addr × Obj), l.map (·.1) = news.map (·.1) → ∀ p ∈ l, p.1 ≠ s.heap.objs.size := fun l e p hp => by
    have : p.1 ∈ l.map (·.1) := List.mem_map.mpr ⟨p, hp, rfl⟩
    rw [e] at this
    obtain ⟨r, hr, e'⟩ := List.mem_map.mp this
    rw [← e']; exact Nat.ne_of_lt (hnl r (.tail _ hr))
  refine ⟨bound + 1, fun k s' => ∃ h' tk m' its n' news' i, s' = { s with heap := h', toks := tk } ∧ h'.IsListIter s.heap.objs.size q i ∧ Fr h₀ env.locals h' m' ∧ News h₀ env.locals h' ((q, W.listOf its.toArray n') :: news') ∧ news'.map (·.1) = news.map (·.1) ∧ J i its m' news' ∧ i ≤ its.length ∧ k = bound + 1 - i,
    ⟨_, s.toks, m, items, nq, news, 0, rfl, ⟨_, Heap.get?_push_size _ rfl, rfl, rfl⟩, F.push _, (fun p hp => ⟨Heap.get?_push_of_some _ (N p hp).1, (N p hp).2⟩), rfl, h0, Nat.zero_le _, rfl⟩, ?_⟩
  rintro k s' ⟨h', tk, m', its, n', news', i, rfl, hit, F', N', hadr, hJ, hi, rfl⟩
  have hl' : h'.IsList q its.toArray := ⟨_, (N' _ (.head _)).1, rfl, n', rfl⟩
  have off : ∀ p ∈ ((q, W.listOf its.toArray n') :: news'), p.1 ≠ s.heap.objs.size := fun p hp => by
    rcases List.mem_cons.mp hp with rfl | hp
    · exact Nat.ne_of_lt hqI
    · exact nI _ hadr p hp
  have hbd := hb _ _ _ _ hJ
  cases hv : its[i]? with
  | none =>
    have hlen : i = its.length := Nat.le_antisymm hi (by simpa using hv)
    refine wpAny_pyNext_list_end hh hit hl' (by simpa using hv) fun h₁ he₁ => ?_
    subst hlen
    refine done its n' m' news' h₁ tk hadr hJ ⟨F'.ns.extBut he₁ hIL.symm, fun b o e => he₁ b o (fun q => by rw [q, hI0] at e; cases e) (F'.keep b o e), F'.above⟩ fun p hp => ⟨he₁ _ _ (off p hp) (N' p hp).1, (N' p hp).2⟩
  | some v =>
    have hlt : i < its.length := by
      rcases Nat.lt_or_ge i its.length with h | h
      · exact h
      · rw [List.getElem?_eq_none h] at hv; cases hv
    refine wpAny_pyNext_list_item hit hl' (x := v) (by simpa using hv) fun h₁ hit₁ hs₁ => ?_
    have F₁ : Fr h₀ env.locals h₁ m' := F'.change hs₁ hIL hI0
    have N₁ : News h₀ env.locals h₁ ((q, W.listOf its.toArray n') :: news') := fun p hp => ⟨hs₁.extBut _ _ (off p hp) (N' p hp).1, (N' p hp).2⟩
    refine wpAny_of_eq (by rfl) ?_
    refine wpAny_assign_Name (wpAny_storeName_local hx F₁.ns (fun h₂ hn₂ hs₂ => ?_) hp)
    have F₂ := F₁.set hn₂ hs₂
    have N₂ := N₁.set hs₂
    obtain ⟨io, hio, hic, hid⟩ := id hit₁
    have hio₂ : h₂.get? s.heap.objs.size = some io := (hs₂.2 _ hIL).trans hio
    have N₃ : News h₀ env.locals h₂ ((s.heap.objs.size, io) :: (q, W.listOf its.toArray n') :: news') := fun p hp => by
      rcases List.mem_cons.mp hp with rfl | hp
      · exact ⟨hio₂, hIL, hI0⟩
      · exact N₂ p hp
    refine wpAny_mono (turn _ i v its n' m' news' _ _ io (fun p hp => hnl p (.tail _ hp)) hqI hadr hv hJ F₂ N₃) (fun f s₃ h₃ => ?_) fun _ _ e => e
    have fin : ∀ s₃, (∃ h' tk m' news', s₃ = { s with heap := h', toks := tk } ∧ Fr h₀ env.locals h' m' ∧ News h₀ env.locals h' ([(s.heap.objs.size, io)] ++ news') ∧ ∃ its' n'' news₂, news' = (q, W.listOf its'.toArray n'') :: news₂ ∧ news₂.map (·.1) = news.map (·.1) ∧ i + 1 ≤ its'.length ∧ J (i + 1) its' m' news₂) →
        ∃ mm, mm < bound + 1 - i ∧ ∃ h' tk m' its n' news' i, s₃ = { s with heap := h', toks := tk } ∧ h'.IsListIter s.heap.objs.size q i ∧ Fr h₀ env.locals h' m' ∧ News h₀ env.locals h' ((q, W.listOf its.toArray n') :: news') ∧ news'.map (·.1) = news.map (·.1) ∧ J i its m' news' ∧ i ≤ its.length ∧ mm = bound + 1 - i := by
      rintro s₃ ⟨h₃, tk₃, m₃, _, rfl, F₃, N₃', its', n'', news₂, rfl, had, hle, hJ₃⟩
      exact ⟨bound + 1 - (i + 1), by omega, h₃, tk₃, m₃, its', n'', news₂, i + 1, rfl, ⟨io, (N₃' _ (.head _)).1, hic, hid⟩, F₃, fun p hp => N₃' p (.tail _ hp), had, hJ₃, hle, rfl⟩
    cases f with
    | ret v => exact h₃
    | brk => exact h₃
    | cont => exact fin _ h₃
    | next => exact fin _ h₃
theorem setItem_my {v : Value} {g : Obj → List (Addr × Obj)} {Q : Unit → Shared → Prop} (F : Fr h₀ L s.heap m) (N : News h₀ L s.heap news) (U : UpdF d o news g) (hd : o.IsDictOf (PySem.intKind prog w) kvs) (hsz : kvs.length ≤ sizeLine)
    (h : ∀ h' o', Fr h₀ L h' m → News h₀ L h' (g o') → o'.IsDictOf (PySem.intKind prog w) (stored kvs k v) → Q () { s with heap := h', toks := s.toks + 1 }) :
    wpAny (model prog w) A (setItem (.ref d) (.int k u) v) Q E s := by
  obtain ⟨pre, post, rfl, hg, a, b⟩ := U.split
  have z := N (d, o) (List.mem_append.mpr (.inr (.head _)))
  refine wpAny_setItem_pairs (hsz := hsz) (intKind_is prog w k u) (Heap.dictOf_iff.mpr ⟨o, z.1, hd⟩) fun h' hm' hs' => ?_
  obtain ⟨o', ho', hd'⟩ := Heap.dictOf_iff.mp hm'
  exact h h' o' (F.change hs' z.2.1 z.2.2) (hg o' ▸ news_set N a b hs' ho') hd'
end
/-- the frame's names as a list -/
def lk (l : List (Str × Option Value)) : Str → Option Value := fun y => (List.lookup y l).join
theorem lk_set (l : List (Str × Option Value)) (x : Str) (v : Value) : (fun y => if y = x then some v else lk l y) = lk ((x, some v) :: l) := by
  funext y
  show (if y = x then some v else (List.lookup y l).join) = (List.lookup y ((x, some v) :: l)).join
  rw [List.lookup_cons]
  by_cases h : y = x
  · subst h; simp
  · have : (y == x) = false := by simpa using h
    simp [h, this]
theorem lk_of (l : List (Str × Value)) : (fun y => List.lookup y l) = lk (l.map fun p => (p.1, some p.2)) := by
  funext y
  show _ = (List.lookup y _).join
  induction l with
  | nil => rfl
  | cons p r ih =>
    obtain ⟨a, b⟩ := p
    rw [List.map_cons, List.lookup_cons, List.lookup_cons]
    cases y == a with
    | true => rfl
    | false => exact ih
def SameAt (l l' : List (Str × Option Value)) : List Str → Prop
  | [] => True
  | x :: r => (List.lookup x l).join = (List.lookup x l').join ∧ SameAt l l' r
theorem sameAt_cons {l l' : List (Str × Option Value)} {x : Str} {r : List Str} (h : (List.lookup x l).join = (List.lookup x l').join) (k : SameAt l l' r) : SameAt l l' (x :: r) := ⟨h, k⟩
theorem sameAt_nil {l l' : List (Str × Option Value)} : SameAt l l' [] := trivial
theorem sameAt_mem {l l' : List (Str × Option Value)} : ∀ {ks : List Str}, SameAt l l' ks → ∀ x ∈ ks, (List.lookup x l).join = (List.lookup x l').join
  | _ :: _, h, _, .head _ => h.1
  | _ :: _, h, _, .tail _ m => sameAt_mem h.2 _ m
theorem lookup_none_of {x : Str} : ∀ {l : List (Str × Option Value)}, x ∉ l.map (·.1) → List.lookup x l = none
  | [], _ => rfl
  | (a, b) :: r, h => by
    rw [List.map_cons, List.mem_cons, not_or] at h
    rw [List.lookup_cons, show (x == a) = false by simpa using h.1]
    exact lookup_none_of h.2
theorem lk_ext {l l' : List (Str × Option Value)} (h : SameAt l l' (l.map (·.1) ++ l'.map (·.1))) : lk l = lk l' := by
  funext x
  show (List.lookup x l).join = (List.lookup x l').join
  by_cases hx : x ∈ l.map (·.1) ++ l'.map (·.1)
  · exact sameAt_mem h x hx
  · rw [List.mem_append, not_or] at hx
    rw [lookup_none_of hx.1, lookup_none_of hx.2]
section
variable {M : Model} {A : Around} {E : Value → Shared → Prop} {s : Shared} {h₀ : Heap} {L a : Addr} {cn : Str} {cs : Scope} {ccd : Value} {cl : List (Str × Addr)} {x : Str} {v : Value} {Q : Unit → Shared → Prop} {news : List (Addr × Obj)}
theorem store_lk {l : List (Str × Option Value)} (F : Fr h₀ L s.heap (lk l)) (N : News h₀ L s.heap news)
    (h : ∀ h', Fr h₀ L h' (lk ((x, some v) :: l)) → News h₀ L h' news → Q () { s with heap := h', toks := s.toks + 1 })
    (hk : cs.kind = .function := by rfl) (hx : (envX cn cs L a ccd cl).kindOf x = some .local := by rfl) : wpAny M A (storeName (envX cn cs L a ccd cl) x v) Q E s :=
  storeX_L F N (fun h' F' N' => h h' (lk_set l x v ▸ F') N') hk hx
end
/-- the walk stops here -/
def Stop (P : Prop) : Prop := P
/-- an object beyond that of sys.modules is alive: what is made from now on is none of it -/
def Sys (h : Heap) : Prop := ∃ a o, sysModules < a ∧ h.get? a = some o
theorem Sys.keep {h h' : Heap} (S : Sys h) (k : ∀ b o, h.get? b = some o → h'.get? b = some o) : Sys h' := let ⟨a, o, l, ho⟩ := S; ⟨a, o, l, k _ _ ho⟩
theorem lo_size {h : Heap} {d : Addr} (S : Sys h) (hd : h.objs.size ≤ d) : (d == sysModules) = false := by
  obtain ⟨a, o, l, ho⟩ := S
  have := Heap.lt_size ho
  exact beq_eq_false_iff_ne.mpr fun e => by rw [e] at hd; exact absurd (Nat.lt_of_lt_of_le (Nat.lt_trans l this) hd) (Nat.lt_irrefl _)
theorem lo_fr {h₀ h : Heap} {L d : Addr} {m : Str → Option Value} (F : Fr h₀ L h m) (S : Sys h₀) (hd : h.objs.size ≤ d) : (d == sysModules) = false := lo_size (S.keep F.keep) hd
section
variable {prog : Program} {w : World} {A : Around} {E : Value → Shared → Prop} {s : Shared} {h₀ : Heap} {L : Addr} {m : Str → Option Value} {news : List (Addr × Obj)} {env : Env}
/-- {x: True for x in [k]} stored at a name -/
theorem dictTrue_one {x y : Str} {px px' py cp : Pos} {kd : Nat} {iter : Expr} {scope : Scope} {cl : List (Str × Addr)} {pos spos : Pos} {Q : Flow → Shared → Prop} (_F₀ : Fr h₀ L s.heap m) (S : Sys h₀)
    (hsw : swapsWith (.DictComp (.Name x px') (.Constant (.bool true) kd cp) [⟨.Name x px, iter, [], 0⟩] scope pos) (some (.Name y py)) spos.line env = pure true) (hL : env.locals = L)
    (hh : A.handled = none) (hclos : closureFor scope env = pure cl) (hcell : ∀ z ∈ scope.names, z.2 ≠ .cell) (hkind : scope.kind = .function)
    (hnames : ∀ z ∈ scope.names, z.2 = .local → scope.names.lookup z.1 = some .local) (hx : scope.names.lookup x = some .local)
    (hy : env.kindOf y = some .local) (hp : (env.scope.kind == .class || (env.scope.kind == .module && env.locals != env.globals)) = false)
    (hs : ∀ x, foldedSetIterable iter env x = pure x) (hkk : ∀ C, (compEnvC scope cl C env).scope.kind = .function) (hkx : ∀ C, (compEnvC scope cl C env).kindOf x = some .local) (hdx : (x == ("__debug__" : Str)) = false)
    (h : wpAny (model prog w) A (eval iter env) (fun xv s₁ => Stop (∃ ax k t, xv = .ref ax ∧ s₁.heap.IsList ax [Value.int k t].toArray ∧ Fr h₀ L s₁.heap m ∧ News h₀ L s₁.heap [] ∧
      ∀ D o h' tk, Fr h₀ L h' (fun z => if z = y then some (.ref D) else m z) → News h₀ L h' [(D, o)] → o.IsDictOf (PySem.intKind prog w) [(k, .bool true)] → (D == sysModules) = false → Q .next { s₁ with heap := h', toks := tk })) E s) :
    wpAny (model prog w) A (exec (.Assign [.Name y py] (.DictComp (.Name x px') (.Constant (.bool true) kd cp) [⟨.Name x px, iter, [], 0⟩] scope pos) spos) env) Q E s := by
  subst hL
  rw [exec_Assign_Name_used _ _ _ _ hsw]
  refine wpAny_bind (wpAny_standAt (wpAny_bind ?_))
  show wpAny _ A (do let _ ← comprehension (.DictComp (.Name x px') (.Constant (.bool true) kd cp) [⟨.Name x px, iter, [], 0⟩] scope pos) scope env _ newDict false (eval iter env) (some (assign (.Name y py) env))) _ _ s
  refine wpAny_bind (wpAny_mono (wpAny_comprehension_free (use := some (assign (.Name y py) env)) (Q := fun _ s' => Q .next s') rfl hs hclos hkind hnames
    (wpAny_mono h (fun xv s₁ h₁ => ?_) fun _ _ e => e)) (fun _ s' hq => wpAny_pure (wpAny_pure hq)) fun _ _ e => e)
  obtain ⟨ax, u, tu, rfl, hl, F, N, hQ⟩ := h₁
  have hlt : ax < s₁.heap.objs.size := by obtain ⟨_, e, _⟩ := hl; exact Heap.lt_size e
  refine wpAny_pyIter_list hl ?_
  refine wpAny_newObj_type (wpAny_newFunctionEnv hcell (by intro y hy; simp at hy) (fun h₁ hns₁ hsb₁ => ?_) hkind)
  dsimp only at hns₁ hsb₁ ⊢
  generalize hH1 : s₁.heap.push { cls := .type "list_iterator", data := .fields #[.ref ax, .int 0 0] } = H1 at hns₁ hsb₁ ⊢
  generalize hH2 : H1.push { cls := .type "dict", dict := none, data := .dict #[] } = H2 at hns₁ hsb₁ ⊢
  have z1 : H1.objs.size = s₁.heap.objs.size + 1 := by rw [← hH1, Heap.size_push]
  have z2 : H2.objs.size = s₁.heap.objs.size + 1 + 1 := by rw [← hH2, Heap.size_push, z1]
  have k1 : ∀ b o, s₁.heap.get? b = some o → H1.get? b = some o := fun b o e => hH1 ▸ Heap.get?_push_of_some _ e
  have k2 : ∀ b o, H1.get? b = some o → H2.get? b = some o := fun b o e => hH2 ▸ Heap.get?_push_of_some _ e
  have k3 : ∀ b o, H2.get? b = some o → h₁.get? b = some o := fun b o e => hsb₁.extBut b o (Nat.ne_of_lt (Heap.lt_size e)) (Heap.get?_push_of_some _ e)
  have kk : ∀ b o, s₁.heap.get? b = some o → h₁.get? b = some o := fun b o e => k3 b o (k2 b o (k1 b o e))
  have hIt : h₁.IsListIter s₁.heap.objs.size ax 0 := ⟨_, k3 _ _ (k2 _ _ (hH1 ▸ Heap.get?_push_size _ rfl)), rfl, rfl⟩
  have hD0 : h₁.DictOf (PySem.intKind prog w) H1.objs.size [] := Heap.dictOf_iff.mpr ⟨_, k3 _ _ (hH2 ▸ Heap.get?_push_size _ rfl), #[], 0, ⟨rfl, rfl, rfl⟩, rfl, fun e he => by simp at he, Pairs.nil, List.nodup_nil⟩
  have nI : ∀ b o, s₁.heap.get? b = some o → b ≠ s₁.heap.objs.size ∧ b ≠ H1.objs.size ∧ b ≠ H2.objs.size := fun b o e => by
    have := Heap.lt_size e
    refine ⟨Nat.ne_of_lt this, ?_, ?_⟩
    · rw [z1]; exact Nat.ne_of_lt (Nat.lt_succ_of_lt this)
    · rw [z2]; exact Nat.ne_of_lt (Nat.lt_succ_of_lt (Nat.lt_succ_of_lt this))
  have hID : s₁.heap.objs.size ≠ H1.objs.size := by rw [z1]; exact Nat.ne_of_lt (Nat.lt_succ_self _)
  have hIC : s₁.heap.objs.size ≠ H2.objs.size := by rw [z2]; exact Nat.ne_of_lt (Nat.lt_succ_of_lt (Nat.lt_succ_self _))
  have hDC : H1.objs.size ≠ H2.objs.size := by rw [z1, z2]; exact Nat.ne_of_lt (Nat.lt_succ_self _)
  have W := Walks.list (prog := prog) (w := w) hh s₁.heap.objs.size ax (Nat.ne_of_lt hlt) [Value.int u tu].toArray
  have hl1 : h₁.IsList ax [Value.int u tu].toArray := hl.at fun o e => kk _ _ e
  have fin : ∀ h' tk m', (∀ b o, s₁.heap.get? b = some o → h'.get? b = some o) → h'.Ns H2.objs.size m' → h'.DictOf (PySem.intKind prog w) H1.objs.size [(u, .bool true)] →
      compPost (model prog w) A E (some (assign (.Name y py) env)) (fun _ s' => Q .next s') (.ref H1.objs.size) H2.objs.size (.ok .next) { s₁ with heap := h', toks := tk } := fun h' tk m' kp hnC hD => by
    have hLs : env.locals < s₁.heap.objs.size := F.ns.lt
    have hLC : env.locals ≠ H2.objs.size := by rw [z2]; exact Nat.ne_of_lt (Nat.lt_succ_of_lt (Nat.lt_succ_of_lt hLs))
    have hLD : env.locals ≠ H1.objs.size := by rw [z1]; exact Nat.ne_of_lt (Nat.lt_succ_of_lt hLs)
    show wpAny _ A (assign (.Name y py) env (.ref H1.objs.size)) _ _ _
    refine wpAny_assign_Name (wpAny_storeName_local hy (F.ns.at' fun o e => kp _ o e) (fun h₂ hn₂ hs₂ => ?_) hp)
    refine ⟨m', hnC.sameBut hs₂ (Ne.symm hLC), fun h₃ hs₃ => ?_⟩
    have keep : ∀ b o, b ≠ env.locals → s₁.heap.get? b = some o → h₃.get? b = some o := fun b o hb e => hs₃.extBut b o (nI b o e).2.2 (hs₂.extBut b o hb (kp b o e))
    obtain ⟨oD, hoD', hDD⟩ := Heap.dictOf_iff.mp hD
    have hoD : h₃.get? H1.objs.size = some oD := hs₃.extBut _ _ hDC (hs₂.extBut _ _ (Ne.symm hLD) hoD')
    have hD0' : h₀.get? H1.objs.size = none := by
      cases e : h₀.get? H1.objs.size with
      | none => rfl
      | some o => exact absurd rfl (nI _ o (F.keep _ _ e)).2.1
    refine hQ H1.objs.size oD h₃ _ ⟨hn₂.sameBut hs₃ hLC, fun b o e => keep b o (Nat.ne_of_lt (Nat.lt_of_lt_of_le (Heap.lt_size e) F.above)) (F.keep b o e), F.above⟩ (fun p hp => ?_) hDD ?_
    · rw [List.mem_singleton.mp hp]
      exact ⟨hoD, Ne.symm hLD, hD0'⟩
    · exact lo_size (S.keep F.keep) (by rw [z1]; exact Nat.le_succ _)
  have loop : ∀ s₃ : Shared, s₃ = { s₁ with heap := h₁, toks := s₁.toks + ([] : List (Str × Value)).length } →
      codeAny (model prog w) A (.compLoop (.DictComp (.Name x px') (.Constant (.bool true) kd cp) [⟨.Name x px, iter, [], 0⟩] scope pos) 0 (.ref s₁.heap.objs.size) (.ref H1.objs.size) (compEnvC scope cl H2.objs.size env))
        (compPost (model prog w) A E (some (assign (.Name y py) env)) (fun _ s' => Q .next s') (.ref H1.objs.size) H2.objs.size) s₃ := by
    rintro s₃ rfl
    refine codeAny_compLoop_testsD
      (fun k s' => (k = 1 ∧ s' = { s₁ with heap := h₁, toks := s₁.toks + ([] : List (Str × Value)).length }) ∨ (k = 0 ∧ ∃ h' tk m', s' = { s₁ with heap := h', toks := tk } ∧ (∀ b o, s₁.heap.get? b = some o → h'.get? b = some o) ∧
        h'.IsListIter s₁.heap.objs.size ax 1 ∧ h'.Ns H2.objs.size m' ∧ h'.DictOf (PySem.intKind prog w) H1.objs.size [(u, .bool true)])) ?_ 1 (.inl ⟨rfl, rfl⟩)
    rintro k s' (⟨rfl, rfl⟩ | ⟨rfl, h', tk, m', rfl, kp, hit, hnC, hD⟩)
    · refine W.item 0 _ _ _ (by simp) ⟨hIt, hl1⟩ fun v' h₂ tk₂ hP hst hk₂ => ?_
      obtain rfl : v' = .int u tu := by simpa using hP.symm
      have o2 : ∀ b o, b ≠ s₁.heap.objs.size → h₁.get? b = some o → h₂.get? b = some o := fun b o hb e => hk₂ b o (by simpa using hb) e
      refine wpAny_assign_Name (wpAny_storeName_local (hkx _) (hns₁.at' fun o e => o2 _ o (Ne.symm hIC) e) (fun h₃ hn₃ hs₃ => ?_) (by rw [hkk]; rfl))
      rw [List.forIn_nil]
      refine wpAny_pure ?_
      rw [if_pos rfl]
      refine wpAny_Name (wpAny_loadName_local (hkk _) (hkx _) hn₃ (show (if x = x then some (Value.int u tu) else _) = some (Value.int u tu) from if_pos rfl) ?_) hdx
      refine wpAny_Constant_bool ?_
      have o3 : ∀ b o, b ≠ s₁.heap.objs.size → b ≠ H2.objs.size → h₁.get? b = some o → h₃.get? b = some o := fun b o hb hc e => hs₃.extBut b o hc (o2 b o hb e)
      have hD3 : h₃.DictOf (PySem.intKind prog w) H1.objs.size [] := by
        obtain ⟨o, e1, e2⟩ := Heap.dictOf_iff.mp hD0
        exact Heap.dictOf_iff.mpr ⟨o, o3 _ _ (Ne.symm hID) hDC e1, e2⟩
      have kp3 : ∀ b o, s₁.heap.get? b = some o → h₃.get? b = some o := fun b o e => o3 b o (nI b o e).1 (nI b o e).2.2 (kk b o e)
      refine wpAny_dictSet_pairs (knd := PySem.intKind prog w) (k := u) (kvs := []) (intKind_is prog w u tu) hD3 (fun h₄ hD4 hs₄ => ?_) (Nat.zero_le _)
      refine ⟨0, Nat.zero_lt_one, .inr ⟨rfl, h₄, _, _, rfl, fun b o e => hs₄.extBut b o (nI b o e).2.1 (kp3 b o e), ?_, hn₃.sameBut hs₄ (Ne.symm hDC), hD4⟩⟩
      obtain ⟨oi, hoi, r⟩ := hst.1
      exact ⟨oi, hs₄.extBut _ _ hID (hs₃.extBut _ _ hIC hoi), r⟩
    · refine W.done _ _ _ ⟨hit, hl.at fun o e => kp _ _ e⟩ fun h₂ tk₂ hk₂ => ?_
      have o2 : ∀ b o, b ≠ s₁.heap.objs.size → h'.get? b = some o → h₂.get? b = some o := fun b o hb e => hk₂ b o (by simpa using hb) e
      have kp2 : ∀ b o, s₁.heap.get? b = some o → h₂.get? b = some o := fun b o e => o2 b o (nI b o e).1 (kp b o e)
      refine fin h₂ tk₂ m' kp2 (hnC.at' fun o e => o2 _ o (Ne.symm hIC) e) ?_
      obtain ⟨o, e1, e2⟩ := Heap.dictOf_iff.mp hD
      exact Heap.dictOf_iff.mpr ⟨o, o2 _ _ (Ne.symm hID) e1, e2⟩
  exact codeAny_compStart_dict (loop _ rfl) (W.self 0 _ _ _ ⟨hIt, hl1⟩ (loop _ rfl))
end

section
variable {prog : Program} {w : World} {A : Around} {E : Value → Shared → Prop} {s : Shared} {h₀ h : Heap} {L d : Addr} {m : Str → Option Value} {news : List (Addr × Obj)} {kvs : List (Int × Value)} {o : Obj}
theorem ints_of_keys {prog : Program} {w : World} : ∀ (vs : List Value) (kvs : List (Int × Value)), vs.length = kvs.length → (∀ (j : Nat) (v : Value), vs[j]? = some v → ∃ k x, kvs[j]? = some (k, x) ∧ (PySem.intKind prog w).is k v = true) → IntsAre vs (kvs.map (·.1))
  | [], [], _, _ => .nil
  | [], _ :: _, hl, _ => by simp at hl
  | _ :: _, [], hl, _ => by simp at hl
  | v :: vs, kv :: kvs, hl, hP => by
    obtain ⟨k, x, e, hk⟩ := hP 0 v rfl
    simp only [List.getElem?_cons_zero, Option.some.injEq] at e
    subst e
    obtain ⟨t, rfl⟩ := Value.isInt_shape hk
    exact .cons k t (ints_of_keys (prog := prog) (w := w) vs kvs (by simpa using hl) fun j u hu => by simpa using hP (j + 1) u (by simpa using hu))
theorem list_d {Q : Value → Shared → Prop} (hh : A.handled = none) (F : Fr h₀ L s.heap m) (N : News h₀ L s.heap news) (hd : DictHere prog w s.heap d kvs) (lo : (d == sysModules) = false) (hn : kvs.length ≤ sizeLine)
    (h : ∀ (D : Addr) c h' tk (vs : List Value), Fr h₀ L h' m → News h₀ L h' ((D, W.listOf vs.toArray c) :: news) → (∀ q ∈ news, q.1 < D) → s.heap.objs.size ≤ D → IntsAre vs (kvs.map (·.1)) → Q (.ref D) { s with heap := h', toks := tk }) :
    wpAny (model prog w) A (call (.type "list") [.ref d]) Q E s := by
  obtain ⟨ep, hat⟩ := Heap.DictOf.dictAt hd
  refine kdl_call (kdl_dict (knd := PySem.intKind prog w) (kvs := kvs) (ep := ep) lo) hh hat hn fun h' tk acc' c' hk hD hacc => ?_
  refine h _ c' h' tk acc'.toList (F.keeps hk) (news_pushed F N hk (by first | (rw [Array.toArray_toList]; exact hD) | simpa using hD) rfl) (fun q hq => Heap.lt_size (N q hq).1) (Nat.le_refl _) ?_
  exact ints_of_keys (prog := prog) (w := w) acc'.toList kvs (by rw [Array.length_toList]; exact hacc.1) fun j v e => hacc.2 j v (by rw [← Array.getElem?_toList]; exact e)
end
/-- an adjacency dict: its nodes in order, each node's neighbours in order -/
structure AdjAt (prog : Program) (w : World) (h : Heap) (dd : Addr) (ns : List Int) (nb : Int → List Int) : Prop where
  top : ∃ kvs, h.DictOf (PySem.intKind prog w) dd kvs ∧ kvs.map (·.1) = ns ∧ ∀ n ∈ ns, ∃ a ivs, valueAt kvs n = some (.ref a) ∧ (a == sysModules) = false ∧ h.DictOf (PySem.intKind prog w) a ivs ∧ ivs.map (·.1) = nb n
  lo : (dd == sysModules) = false
def Closed (ns : List Int) (nb : Int → List Int) : Prop := ∀ n ∈ ns, ∀ k ∈ nb n, k ∈ ns
inductive Reach (nb : Int → List Int) (x : Int) : Int → Prop
  | refl : Reach nb x x
  | step {n k : Int} : Reach nb x n → k ∈ nb n → Reach nb x k
theorem Reach.mem {ns : List Int} {nb : Int → List Int} {x y : Int} (c : Closed ns nb) (hx : x ∈ ns) (h : Reach nb x y) : y ∈ ns := by
  induction h with
  | refl => exact hx
  | step _ hk ih => exact c _ ih _ hk
structure RInv (nb : Int → List Int) (x : Int) (qs : List Int) (i : Nat) : Prop where
  nodup : qs.Nodup
  head : qs.head? = some x
  reach : ∀ y ∈ qs, Reach nb x y
  done : ∀ j y, j < i → qs[j]? = some y → ∀ k ∈ nb y, k ∈ qs
theorem RInv.start (nb : Int → List Int) (x : Int) : RInv nb x [x] 0 := ⟨by simp, rfl, fun y hy => by rw [List.mem_singleton.mp hy]; exact .refl, fun j y hj => absurd hj (Nat.not_lt_zero _)⟩
theorem RInv.push {nb : Int → List Int} {x n k : Int} {qs : List Int} {i : Nat} (h : RInv nb x qs i) (hn : qs[i]? = some n) (hk : k ∈ nb n) (hq : k ∉ qs) : RInv nb x (qs ++ [k]) i := by
  have hi : i < qs.length := by
    rcases Nat.lt_or_ge i qs.length with h | h
    · exact h
    · rw [List.getElem?_eq_none h] at hn; cases hn
  refine ⟨?_, ?_, ?_, ?_⟩
  · rw [List.nodup_append]
    refine ⟨h.nodup, by simp, ?_⟩
    intro a ha b hb e
    rw [List.mem_singleton.mp hb] at e
    exact hq (e ▸ ha)
  · cases qs with
    | nil => cases h.head
    | cons a r => exact h.head
  · intro y hy
    rcases List.mem_append.mp hy with hy | hy
    · exact h.reach y hy
    · rw [List.mem_singleton.mp hy]
      exact .step (h.reach n (List.mem_of_getElem? hn)) hk
  · intro j y hj hy k' hk'
    have : j < qs.length := by omega
    rw [List.getElem?_append_left this] at hy
    exact List.mem_append_left _ (h.done j y hj hy k' hk')
theorem RInv.next {nb : Int → List Int} {x n : Int} {qs : List Int} {i : Nat} (h : RInv nb x qs i) (hn : qs[i]? = some n) (ha : ∀ k ∈ nb n, k ∈ qs) : RInv nb x qs (i + 1) :=
  ⟨h.nodup, h.head, h.reach, fun j y hj hy k hk => by
    rcases Nat.lt_or_eq_of_le (Nat.le_of_lt_succ hj) with hj | rfl
    · exact h.done j y hj hy k hk
    · rw [hn] at hy; cases hy; exact ha k hk⟩
theorem RInv.all {nb : Int → List Int} {x : Int} {qs : List Int} (h : RInv nb x qs qs.length) (y : Int) : y ∈ qs ↔ Reach nb x y := by
  refine ⟨h.reach y, fun hr => ?_⟩
  induction hr with
  | refl =>
    cases qs with
    | nil => cases h.head
    | cons a r => have := h.head; simp at this; subst this; exact .head _
  | step _ hk ih =>
    obtain ⟨j, hj, e⟩ := List.getElem_of_mem ih
    exact h.done j _ hj (by rw [List.getElem?_eq_getElem hj, e]) _ hk
theorem nodup_length_le {ns : List Int} : ∀ {qs : List Int}, qs.Nodup → (∀ y ∈ qs, y ∈ ns) → qs.length ≤ ns.length := by
  induction ns with
  | nil =>
    intro qs _ h
    cases qs with
    | nil => exact Nat.le_refl _
    | cons a r => cases h a (.head _)
  | cons b ns ih =>
    intro qs hn h
    by_cases hb : b ∈ qs
    · have hl : (qs.erase b).length = qs.length - 1 := List.length_erase_of_mem hb
      have h1 : (qs.erase b).length ≤ ns.length := by
        refine ih (hn.erase b) fun y hy => ?_
        have hy' : y ∈ qs := List.mem_of_mem_erase hy
        have hne : y ≠ b := fun e => by
          rw [e] at hy
          exact (List.Nodup.not_mem_erase hn) hy
        exact (List.mem_cons.mp (h y hy')).resolve_left hne
      have : 0 < qs.length := List.length_pos_of_mem hb
      rw [List.length_cons]; omega
    · have : qs.length ≤ ns.length := ih hn fun y hy => (List.mem_cons.mp (h y hy)).resolve_left fun e => hb (e ▸ hy)
      rw [List.length_cons]; omega
theorem valueAt_isSome {kvs : List (Int × Value)} {k : Int} : (valueAt kvs k).isSome = true ↔ k ∈ kvs.map (·.1) := by
  unfold valueAt
  rw [Option.isSome_map, List.find?_isSome]
  constructor
  · rintro ⟨p, hp, e⟩
    exact List.mem_map.mpr ⟨p, hp, by simpa using e⟩
  · intro h
    obtain ⟨p, hp, rfl⟩ := List.mem_map.mp h
    exact ⟨p, hp, by simp⟩
theorem keys_stored_new {kvs : List (Int × Value)} {k : Int} {v : Value} (h : k ∉ kvs.map (·.1)) : (stored kvs k v).map (·.1) = kvs.map (·.1) ++ [k] := by
  unfold stored
  rw [if_neg]
  · simp
  · intro e
    obtain ⟨p, hp, e⟩ := List.any_eq_true.mp e
    exact h (List.mem_map.mpr ⟨p, hp, by simpa using e⟩)
theorem ints_push {vs : List Value} {ns : List Int} (h : IntsAre vs ns) (k : Int) (t : Tok) : IntsAre (vs ++ [.int k t]) (ns ++ [k]) := by
  induction h with
  | nil => exact .cons k t .nil
  | cons n t' _ ih => exact .cons n t' ih
local macro_rules | `(tactic| walk_at "ENTER") => `(tactic| (refine' enterW ?k1 ?k2 ?k3 ?k5 ?kA ?kF ?kK ?k6 ?k7 ?k8 ?k9 ?kB ?_ ?c2 ?c3 ?c4 ?c5; (case kA => exact rfl); (case kF => exact rfl); (case kK => assumption); (case k1 => k_asm); (case k2 => k_asm); (case k3 => k_asm); (case k5 => k_asm); (case k6 => k_is); (case k7 => k_is); (case k8 => ktr_room); (case k9 => exact BindsTo.of_eq rfl); (case c5 => decide); (case kB => exact locs rfl); (case c2 => exact rfl); (case c3 => exact rfl); (case c4 => exact rfl); k_whole; intro L' h' F' N' B' X' T'; (try dsimp only); (try k_fold)))
local macro_rules | `(tactic| walk_at "HERE") => `(tactic| first | exact here_news (by k_asm) (by k_mem) (by assumption) | exact here_base (by k_asm) (by assumption))
local macro_rules | `(tactic| walk_at "SAME") => `(tactic| (refine lk_ext ?_; repeat' (first | exact sameAt_nil | refine sameAt_cons rfl ?_)))
local macro_rules | `(tactic| walk_at "storeName") => `(tactic| (k_here; k_dflt (refine' store_lk ?F ?N ?_ ?k ?x; (case F => k_asm); (case N => k_asm); (case k => rfl); (case x => rfl)); intro h' F' N'; (try k_sweep)))
local macro_rules | `(tactic| walk_at "exec For") => `(tactic| (k_here; (with_reducible refine For_my ?_ ?hs); (case hs => intro _; with_unfolding_all rfl)))
local macro_rules | `(tactic| walk_at "subscriptTail") => `(tactic| (k_here; (with_reducible show wpAny _ _ (subscriptTail _ _ (Value.ref _) (Value.int _ _)) _ _ _); k_dflt (refine' item_d ?a ?b ?_; (case a => walk_at "HERE"); (case b => assumption))))
local macro_rules | `(tactic| walk_at "compareOp In int ref") => `(tactic| (k_here; k_dflt (refine' in_d ?a ?b ?_; (case a => walk_at "HERE"); (case b => walk_at "LO"))))
local macro_rules | `(tactic| walk_at "compareOp NotIn int ref") => `(tactic| (k_here; k_dflt (refine' notin_d ?a ?b ?_; (case a => walk_at "HERE"); (case b => walk_at "LO"))))
local macro_rules | `(tactic| walk_at "setItem ref int") => `(tactic| (k_here; k_dflt (refine' setItem_my ?F ?N ?U ?d ?z ?_; (case F => k_asm); (case N => k_asm); (case U => k_updF); (case d => assumption); (case z => first | assumption | size_fits)); intro h' o' F' N' hd'; (try dsimp only at N'); (try k_sweep)))
local macro_rules | `(tactic| walk_at "exec Assign cons DictComp") => `(tactic| (k_here; (with_reducible show wpAny _ _ (exec (Stmt.Assign _ (Expr.DictComp _ (Expr.Constant (.bool true) _ _) _ _ _) _) _) _ _ _); k_dflt (refine' dictTrue_one ?hF ?hS ?hsw ?hL ?hh ?hclos ?hcell ?hkind ?hnames ?hx ?hy ?hp ?hs ?hkk ?hkx ?hdx ?_; (case hF => k_asm); (case hS => assumption); (case hsw => with_unfolding_all rfl); (case hL => rfl); (case hh => rfl); (case hclos => with_unfolding_all rfl); (case hcell => decide); (case hkind => rfl); (case hnames => decide); (case hx => with_unfolding_all rfl); (case hy => with_unfolding_all rfl); (case hp => with_unfolding_all rfl); (case hs => intro _; with_unfolding_all rfl); (case hkk => intro _; with_unfolding_all rfl); (case hkx => intro _; with_unfolding_all rfl); (case hdx => decide))))
local macro_rules | `(tactic| walk_at "LO") => `(tactic| assumption)
local macro_rules | `(tactic| walk_at "call type:list") => `(tactic| (k_here; (with_reducible show wpAny _ _ (call (Value.type "list") [Value.ref _]) _ _ _); k_dflt (refine' list_d ?hh ?F ?N ?a ?b ?c ?_; (case hh => rfl); (case F => k_asm); (case N => k_asm); (case a => walk_at "HERE"); (case b => walk_at "LO"); (case c => first | size_fits | (simp only [List.length_cons, List.length_nil]; size_fits))); intro D' c' h' tk' vs' F' N' l1' l2' hi'))
local macro_rules | `(tactic| walk_at "exec For Name Name cons nil") => `(tactic| (k_here; (with_reducible refine For_my ?_ ?hs); (case hs => intro _; with_unfolding_all rfl)))
local macro_rules | `(tactic| walk_at "exec For Name Subscript cons nil") => `(tactic| (k_here; (with_reducible refine For_my ?_ ?hs); (case hs => intro _; with_unfolding_all rfl)))
local macro_rules | `(tactic| walk_at "exec For Name Call cons nil") => `(tactic| (k_here; (with_reducible refine For_my ?_ ?hs); (case hs => intro _; with_unfolding_all rfl)))
local macro_rules | `(tactic| walk_at "exec For Name Attribute cons nil") => `(tactic| (k_here; (with_reducible refine For_my ?_ ?hs); (case hs => intro _; with_unfolding_all rfl)))
local macro_rules | `(tactic| walk_at "exec For Tuple Name cons nil") => `(tactic| (k_here; (with_reducible refine For_my ?_ ?hs); (case hs => intro _; with_unfolding_all rfl)))
local macro_rules | `(tactic| walk_at "exec For Tuple Call cons nil") => `(tactic| (k_here; (with_reducible refine For_my ?_ ?hs); (case hs => intro _; with_unfolding_all rfl)))
local macro_rules | `(tactic| walk_at "ROOM") => `(tactic| first | ktr_room | omega | (simp only [recursionLimit] at *; omega))
local macro_rules | `(tactic| walk_at "UNITS") => `(tactic| (have hcL9 := cLine_is; first | ktr_units | omega))
local macro_rules | `(tactic| walk_at "subscriptTail Call") => `(tactic| (k_here; k_dflt (refine kba_turn (value' := PySem.Expr.Name (PySem.Str.ofString "_") ⟨0, 0, 0, 0⟩) (fun _ => rfl) ?_)))
local macro_rules | `(tactic| walk_at "DAT") => `(tactic| first | exact Heap.DictAt.keep (by assumption) (Fr.keep (by k_asm)))
local macro_rules | `(tactic| walk_at "NE") => `(tactic| first | assumption | k_ne)
local macro_rules | `(tactic| walk_at "subscriptTail") => `(tactic| (k_here; (with_reducible show wpAny _ _ (subscriptTail _ _ (Value.ref _) (Value.int _ _)) _ _ _); k_dflt (refine' item_d ?a ?b ?_; (case a => walk_at "HERE"); (case b => walk_at "VSOME"))))
local macro_rules | `(tactic| walk_at "setItem ref int") => `(tactic| (k_here; k_dflt (refine' setItem_my ?F ?N ?U ?d ?z ?_; (case F => k_asm); (case N => k_asm); (case U => k_updF); (case d => assumption); (case z => walk_at "LEN")); intro h' o' F' N' hd'; (try dsimp only at N'); (try k_sweep)))
theorem reached_spec {w : World} {p : Program} {loose : List Str} {mean : ExcName → Option Value} {mg mb : Str → Option Value} {dp un : Nat} {gd : Option (List Code)} {cn : Str} {cs : Scope} {a : Addr} {ccd : Value} {cl : List (Str × Addr)} {outer : List Env} {A₀ : Around} {base h₀ : Heap} {L : Addr} {m : Str → Option Value} {s : Shared} {Q E : Value → Shared → Prop} {dd ls : Addr} {x : Int} {t : Tok} {ns : List Int} {nb : Int → List Int}
    (B : Below A₀ base outer h₀) (F : Fr h₀ L s.heap m) (X : (hd.heap_39 w.params).In h₀) (T : Top p loose mean mg mb h₀) (hk : cs.kind = .function) (S : Sys h₀)
    (hl : s.heap.IsList ls [Value.int x t].toArray) (hG : AdjAt PySem.Challenge.rw_fq0029_01.row.prog w s.heap dd ns nb) (hc : Closed ns nb) (hx : x ∈ ns) (hnl : ns.length ≤ 100)
    (hdp : dp + 1 < recursionLimit) (hun : un + 8 < cLine)
    (ret : ∀ q vs qs n h' tk', Keeps s.heap h' → s.heap.objs.size ≤ q → h'.get? q = some (W.listOf vs.toArray n) → IntsAre vs qs → RInv nb x qs qs.length → Q (.ref q) { s with heap := h', toks := tk' }) :
    wpAny (model PySem.Challenge.rw_fq0029_01.row.prog w) (ktrTop dp un gd cn cs L a ccd cl outer) (call (.ref 577) [.ref dd, .ref ls]) Q E s := by
  obtain ⟨⟨kvd, hkd, hkn, hnb⟩, hdlo⟩ := hG
  revert X
  k_fill
  intro X
  refine wpAny_call ?_
  refine' enterW (binds := [(("neighbors" : Str), (.ref dd : Value)), (("sources" : Str), (.ref ls : Value))]) ?k1 ?k2 ?k3 ?k5 ?kA ?kF ?kK ?k6 ?k7 ?k8 ?k9 ?kB ?_ ?c2 ?c3 ?c4 ?c5
  case kA => exact rfl
  case kF => exact rfl
  case kK => assumption
  case k1 => exact B
  case k2 => exact F
  case k3 => exact X
  case k5 => exact T
  case k6 => k_is
  case k7 => k_is
  case k8 => ktr_room
  case k9 => exact BindsTo.of_eq rfl
  case c5 => decide
  case kB => exact locs rfl
  case c2 => exact rfl
  case c3 => exact rfl
  case c4 => exact rfl
  intro L' h' F' N' B' X' T'
  try dsimp only
  k_fold
  have S' : Sys s.heap := S.keep F.keep
  replace F' : Fr s.heap L' h' (lk [(("sources" : Str), some (.ref ls : Value)), (("neighbors" : Str), some (.ref dd : Value))]) := (lk_of _ ▸ F' :)
  k_steps
  refine ⟨ls, x, t, rfl, hl.at fun o e => F'.keep _ _ e, F', N', ?_⟩
  intro D o h1 tk1 F1 N1 hD loD
  dsimp only
  rw [lk_set] at F1
  have hs1 := (keeps_of F1).size
  k_steps
  rename IntsAre _ _ => hvs
  rename Fr _ _ _ _ => F2
  rename News _ _ _ _ => N2
  rename_i q c1 hq1 tkq vs hlt hqs hq2
  have hcl : ∀ {qs : List Int} {i : Nat}, RInv nb x qs i → qs.length ≤ ns.length := fun h => nodup_length_le h.nodup fun y hy => (h.reach y hy).mem hc hx
  refine forGrow (bound := ns.length) F2 N2 rfl (by rfl) (by rfl)
    (fun i its m₁ n₁ => ∃ u1 u2 qs o kvs, m₁ = lk [("n", u1), ("nbr", u2), ("queue", some (.ref q)), ("seen", some (.ref D)), ("sources", some (.ref ls)), ("neighbors", some (.ref dd))] ∧ n₁ = [(D, o)] ∧
      o.IsDictOf (PySem.intKind PySem.Challenge.rw_fq0029_01.row.prog w) kvs ∧ kvs.map (·.1) = qs ∧ IntsAre its qs ∧ RInv nb x qs i)
    ⟨none, none, [x], o, _, by walk_at "SAME", rfl, hD, rfl, hvs, RInv.start nb x⟩ (by intro p hp; rw [List.mem_singleton.mp hp]; exact Nat.ne_of_lt (hlt _ (.head _))) ?_ ?_ ?_
  · rintro i its m₁ n₁ ⟨u1, u2, qs, o, kvs, -, -, -, -, hi, hI⟩
    rw [hi.length]; exact hcl hI
  · rintro I i v its n' m₁ n₁ h tk io hlt1 hqI hadr hv ⟨u1, u2, qs, o, kvs, rfl, rfl, ho, hkq, hi, hI⟩ F3 N3
    have hvq : ∃ n, qs[i]? = some n := by
      have : i < qs.length := by
        rw [← hi.length]
        rcases Nat.lt_or_ge i its.length with h | h
        · exact h
        · rw [List.getElem?_eq_none h] at hv; cases hv
      exact ⟨_, List.getElem?_eq_getElem this⟩
    obtain ⟨n, hn⟩ := hvq
    obtain ⟨tn, hvn⟩ := hi.get i n hn
    rw [hvn] at hv
    cases hv
    rw [lk_set] at F3
    obtain ⟨ad, ivs, hva, halo, hiv, hik⟩ := hnb n ((hI.reach n (List.mem_of_getElem? hn)).mem hc hx)
    have hDq := ltN (hlt _ (.head _))
    have hDI := ltN (hlt1 _ (.head _))
    have hqI' := ltN hqI
    k_steps
    have hin : i < qs.length := by
      rcases Nat.lt_or_ge i qs.length with h | h
      · exact h
      · rw [List.getElem?_eq_none h] at hn; cases hn
    refine forDict F3 N3 hiv halo rfl (by rfl) (by rfl)
      (fun j m₁ n₁ => ∃ u2 qs o kvs its n', m₁ = lk [("n", some (.int n tn)), ("nbr", u2), ("queue", some (.ref q)), ("seen", some (.ref D)), ("sources", some (.ref ls)), ("neighbors", some (.ref dd))] ∧ n₁ = [(I, io), (q, W.listOf its.toArray n'), (D, o)] ∧
        o.IsDictOf (PySem.intKind PySem.Challenge.rw_fq0029_01.row.prog w) kvs ∧ kvs.map (·.1) = qs ∧ IntsAre its qs ∧ RInv nb x qs i ∧ qs[i]? = some n ∧ ∀ k ∈ (nb n).take j, k ∈ qs)
      ⟨u2, qs, o, kvs, its, n', by walk_at "SAME", rfl, ho, hkq, hi, hI, hn, by simp⟩ ?_ ?_
    · rintro I2 j k key kv m₁ n₁ h2 tk2 io2 hltI hadr2 hkj hkey ⟨u2, qs, o, kvs, its, n', rfl, rfl, ho, rfl, hi, hI, hn, htake⟩ F4 N4
      obtain ⟨tk0, rfl⟩ := Value.isInt_shape hkey
      rw [lk_set] at F4
      have h1 := ltN (hltI _ (.head _))
      have h2' := ltN (hltI _ (.tail _ (.head _)))
      have h3 := ltN (hltI _ (.tail _ (.tail _ (.head _))))
      have hkn : k ∈ nb n := by rw [← hik]; exact List.mem_map.mpr ⟨(k, kv), List.mem_of_getElem? hkj, rfl⟩
      have hkt : (nb n).take (j + 1) = (nb n).take j ++ [k] := by
        have : (nb n)[j]? = some k := by rw [← hik, List.getElem?_map, hkj]; rfl
        rw [List.take_add_one, this]; rfl
      have hsz : kvs.length ≤ sizeLine := by
        have := hcl hI
        rw [List.length_map] at this
        rw [sizeLine_eq]; omega
      have hszl : its.toArray.size ≤ sizeLine := by
        have := hcl hI
        rw [← hi.length] at this
        rw [List.size_toArray, sizeLine_eq]; omega
      (try dsimp only at h1 h2' h3 hDq hDI)
      k_steps
      · rename (valueAt _ _).isSome = _ => hs
        rename News _ _ _ _ => N9
        rename Fr _ _ _ _ => F9
        refine TurnEnd.next F9 N9 ⟨rfl, _, _, _, _, _, _, by walk_at "SAME", rfl, ho, rfl, hi, hI, hn, fun k' hk' => ?_⟩
        rw [hkt] at hk'
        rcases List.mem_append.mp hk' with hk' | hk'
        · exact htake k' hk'
        · rw [List.mem_singleton.mp hk']; exact valueAt_isSome.mp hs
      · rename (valueAt _ _).isSome = _ => hs
        have hknew : k ∉ kvs.map (·.1) := fun e => by rw [valueAt_isSome.mpr e] at hs; cases hs
        rename News _ _ _ _ => N9
        rename Fr _ _ _ _ => F9
        refine TurnEnd.next F9 N9 ⟨rfl, _, _, _, _, its ++ [.int k tk0], _, by walk_at "SAME", by rw [List.push_toArray], by assumption, keys_stored_new hknew, ints_push hi k tk0, hI.push hn hkn hknew, ?_, fun k' hk' => ?_⟩
        · rw [List.getElem?_append_left (List.getElem?_eq_some_iff.mp hn).1]; exact hn
        · rw [hkt] at hk'
          rcases List.mem_append.mp hk' with hk' | hk'
          · exact List.mem_append_left _ (htake k' hk')
          · rw [List.mem_singleton.mp hk']; exact List.mem_append_right _ (.head _)
    · rintro m₁ n₁ h2 tk2 hadr2 ⟨u2, qs, o, kvs, its, n', rfl, rfl, ho, rfl, hi, hI, hn, hall⟩ F4 N4
      dsimp only
      have hik' : ivs.length = (nb n).length := by rw [← hik, List.length_map]
      rw [hik', List.take_length] at hall
      k_steps
      rename News _ _ _ _ => N9
      rename Fr _ _ _ _ => F9
      refine TurnEnd.next F9 N9 ⟨its, _, _, rfl, rfl, ?_, _, _, _, _, _, by walk_at "SAME", rfl, ho, rfl, hi, hI.next hn hall⟩
      rw [hi.length]
      rcases Nat.lt_or_ge i (kvs.map (·.1)).length with h | h
      · exact h
      · rw [List.getElem?_eq_none h] at hn; cases hn
  · rintro its n' m₁ n₁ h tk hadr ⟨u1, u2, qs, o, kvs, rfl, rfl, ho, hkq, hi, hI⟩ F3 N3
    dsimp only
    k_steps
    dsimp only
    k_unfold
    rw [hi.length] at hI
    rename News _ _ _ _ => N9
    rename Fr _ _ _ _ => F9
    exact ret _ _ _ _ _ _ (keeps_of F9) (Nat.le_trans hs1 hqs) (N9 _ (.head _)).1 hi hI
theorem AdjAt.keep {prog : Program} {w : World} {h h' : Heap} {dd : Addr} {ns : List Int} {nb : Int → List Int} (G : AdjAt prog w h dd ns nb) (k : ∀ b o, h.get? b = some o → h'.get? b = some o) : AdjAt prog w h' dd ns nb :=
  ⟨let ⟨kvs, h1, h2, h3⟩ := G.top; ⟨kvs, h1.keep k, h2, fun n hn => let ⟨a, ivs, e1, e2, e3, e4⟩ := h3 n hn; ⟨a, ivs, e1, e2, e3.keep k, e4⟩⟩, G.lo⟩
/-- a DiGraph's own objects -/
def DiObj (h : Heap) (g nd ad pd : Addr) : Prop := ∃ dx k1 k2 k3 k4 k5 t1 t2 t3 t4 t5 v1, h.get? g = some (instObj 831 dx) ∧
  h.get? dx = some (dictOf [⟨k1, .str "graph" t1, v1⟩, ⟨k2, .str "_node" t2, .ref nd⟩, ⟨k3, .str "_adj" t3, .ref ad⟩, ⟨k4, .str "_succ" t4, .ref ad⟩, ⟨k5, .str "_pred" t5, .ref pd⟩] 5)
theorem DiObj.keep {h h' : Heap} {g nd ad pd : Addr} (G : DiObj h g nd ad pd) (k : ∀ b o, h.get? b = some o → h'.get? b = some o) : DiObj h' g nd ad pd := by
  obtain ⟨dx, k1, k2, k3, k4, k5, t1, t2, t3, t4, t5, v1, e1, e2⟩ := G
  exact ⟨dx, k1, k2, k3, k4, k5, t1, t2, t3, t4, t5, v1, k _ _ e1, k _ _ e2⟩
/-- a DiGraph -/
structure DiG (prog : Program) (w : World) (h : Heap) (g : Addr) (ns : List Int) (sb pb : Int → List Int) : Prop where
  at_ : ∃ nd ad pd nkvs, DiObj h g nd ad pd ∧ (nd == sysModules) = false ∧ h.DictOf (PySem.intKind prog w) nd nkvs ∧ nkvs.map (·.1) = ns ∧ AdjAt prog w h ad ns sb ∧ AdjAt prog w h pd ns pb
theorem DiG.keep {prog : Program} {w : World} {h h' : Heap} {g : Addr} {ns : List Int} {sb pb : Int → List Int} (G : DiG prog w h g ns sb pb) (k : ∀ b o, h.get? b = some o → h'.get? b = some o) : DiG prog w h' g ns sb pb := by
  obtain ⟨nd, ad, pd, nkvs, e1, e3, e4, e5, e6, e7⟩ := G.at_
  exact ⟨nd, ad, pd, nkvs, e1.keep k, e3, e4.keep k, e5, e6.keep k, e7.keep k⟩
theorem InstAt.of_base {h₀ h : Heap} {L x C dx : Addr} {m : Str → Option Value} {od : Obj} {sl : Array (Option Value)} (F : Fr h₀ L h m) (h1 : h₀.get? x = some ⟨.ref C, some dx, .plain, sl⟩) (h2 : h₀.get? dx = some od) :
    PySem.W.InstAt h x ⟨.ref C, some dx, .plain, sl⟩ C (some od) := ⟨F.keep _ _ h1, rfl, rfl, F.keep _ _ h2⟩
theorem isList_news {h₀ h : Heap} {L l : Addr} {news : List (Addr × Obj)} {its : Array Value} {n : Nat} (N : News h₀ L h news) (hm : (l, W.listOf its n) ∈ news) : h.IsList l its := ⟨_, (N _ hm).1, rfl, n, rfl⟩
theorem rinv_len {nb : Int → List Int} {ns : List Int} {x : Int} {qs : List Int} {i : Nat} (h : RInv nb x qs i) (c : Closed ns nb) (hx : x ∈ ns) (hl : ns.length ≤ 100) : qs.length ≤ 100 :=
  Nat.le_trans (nodup_length_le h.nodup fun y hy => (h.reach y hy).mem c hx) hl
local macro_rules | `(tactic| k_inst) => `(tactic| (refine' InstAt.of_base ?F ?h1 ?h2; (case F => k_asm); (case h1 => assumption); (case h2 => assumption)))
local macro_rules | `(tactic| walk_at "LIST") => `(tactic| first | exact isList_news (by k_asm) (by k_mem) | exact Heap.IsList.at (by assumption) fun o e => Fr.keep (by k_asm) _ _ e)
local macro_rules | `(tactic| walk_at "ADJ") => `(tactic| exact AdjAt.keep (by assumption) (Fr.keep (by k_asm)))
local macro_rules | `(tactic| walk_at "call ref") => `(tactic| (k_here; (k_dflt (show wpAny _ _ (call (Value.ref _) [Value.ref _, Value.ref _]) _ _ _)); (with_reducible show wpAny _ _ (call (Value.ref 577) [Value.ref _, Value.ref _]) _ _ _); k_dflt (refine' reached_spec ?B ?F ?X ?T ?hk ?S ?hl ?hG ?hc ?hx ?hnl ?hdp ?hun ?_; (case B => k_asm); (case F => k_asm); (case X => k_asm); (case T => k_asm); (case hk => rfl); (case S => assumption); (case hl => walk_at "LIST"); (case hG => walk_at "ADJ"); (case hc => assumption); (case hx => assumption); (case hnl => assumption); (case hdp => walk_at "ROOM"); (case hun => walk_at "UNITS")); intro q' vs' qs' n' h' tk' hk' hq' hqo' hvs' hI'; (have hsz' := rinv_len hI' (by assumption) (by assumption) (by assumption)); (have N' := news_add (by k_asm) (news_onto (by k_asm) hk') hq' hqo'); (have l1' := news_lt (by k_asm) hq'); (have F' := fr_onto (by k_asm) hk'); (try k_lt l1'); (try dsimp only)))
local macro_rules | `(tactic| walk_at "DIG") => `(tactic| first | assumption | exact DiG.keep (by assumption) (Fr.keep (by k_asm)))
local macro_rules | `(tactic| walk_at "DIO") => `(tactic| first | assumption | exact DiObj.keep (by assumption) (Fr.keep (by k_asm)))
section
variable {prog : Program} {w : World} {A : Around} {E : Value → Shared → Prop} {s : Shared} {h₀ : Heap} {L l : Addr} {m : Str → Option Value} {news : List (Addr × Obj)} {vs : List Value} {ns : List Int}
theorem set_l {Q : Value → Shared → Prop} (hh : A.handled = none) (F : Fr h₀ L s.heap m) (N : News h₀ L s.heap news) (hl : s.heap.IsList l vs.toArray) (hi : IntsAre vs ns) (hb : ns.length ≤ 1000)
    (h : ∀ D h' tk o S n, Fr h₀ L h' m → News h₀ L h' ((D, o) :: news) → s.heap.objs.size ≤ D → (∀ p ∈ news, p.1 < D) → Obj.SetObjOf (PySem.intKind prog w) o S n → (∀ k, S k = true ↔ k ∈ ns) → n ≤ ns.length → Q (.ref D) { s with heap := h', toks := tk }) :
    wpAny (model prog w) A (call (.type "set") [.ref l]) Q E s := by
  have hvn : vs.length = ns.length := IntsAre.length hi
  have hsz : vs.toArray.size = ns.length := by rw [List.size_toArray, hvn]
  refine PySem.call_set_list (items := vs.toArray) (ns := ns) hh hl (by simpa using hi) (by rw [hsz]; unfold scanBound; omega) fun h' tk hS hk => ?_
  rw [hsz] at hS
  obtain ⟨o, ho, hso⟩ := hS.objOf
  have hLlt : L < s.heap.objs.size := F.ns.lt
  refine h _ h' tk o _ _ ⟨F.ns.at' fun o' e => hk L o' hLlt e, fun b o' e => hk b o' (Heap.lt_size (F.keep b o' e)) (F.keep b o' e), F.above⟩ (fun p hp => ?_) (Nat.le_refl _) (fun p hp => Heap.lt_size (N p hp).1) hso (fun k => ?_) (firstMet_length_le _ _)
  · rcases List.mem_cons.mp hp with rfl | hp
    · exact ⟨ho, Nat.ne_of_gt hLlt, fr_none F (Nat.le_refl _)⟩
    · exact ⟨hk _ _ (Heap.lt_size (N p hp).1) (N p hp).1, (N p hp).2⟩
  · rw [firstMet_any]
    have e : (List.range ns.length).map (fun i => ns.getD i 0) = ns := by
      apply List.ext_getElem
      · simp
      · intro i h1 h2
        simp [List.getD, List.getElem?_eq_getElem h2]
    rw [e, List.any_eq_true]
    constructor
    · rintro ⟨y, hy, e⟩
      have := eq_of_beq e; subst this; exact hy
    · intro hk; exact ⟨k, hk, by simp⟩
end
theorem mem_drop_one {qs : List Int} {x : Int} (hn : qs.Nodup) (hx : qs.head? = some x) (k : Int) : k ∈ qs.drop 1 ↔ k ∈ qs ∧ k ≠ x := by
  cases qs with
  | nil => cases hx
  | cons a r =>
    have : a = x := by simpa using hx
    subst this
    rw [List.nodup_cons] at hn
    constructor
    · intro h
      have h' : k ∈ r := h
      exact ⟨.tail _ h', fun e => hn.1 (e ▸ h')⟩
    · rintro ⟨h, hne⟩
      exact (List.mem_cons.mp h).resolve_left hne
local macro_rules | `(tactic| walk_at "call type:set cons nil") => `(tactic| (k_here; (with_reducible show wpAny _ _ (call (Value.type "set") [Value.ref _]) _ _ _); k_dflt (refine' set_l ?hh ?F ?N ?a ?b ?c ?_; (case hh => rfl); (case F => k_asm); (case N => k_asm); (case a => walk_at "LIST"); (case b => assumption); (case c => omega)); intro D' h' tk' o' S' n' F' N' hD' l1' hS' hm' hn'; (try k_lt l1'); (try dsimp only)))
theorem ancestors_spec {w : World} {p : Program} {loose : List Str} {mean : ExcName → Option Value} {mg mb : Str → Option Value} {dp un : Nat} {gd : Option (List Code)} {cn : Str} {cs : Scope} {a : Addr} {ccd : Value} {cl : List (Str × Addr)} {outer : List Env} {A₀ : Around} {base h₀ : Heap} {L : Addr} {m : Str → Option Value} {s : Shared} {Q E : Value → Shared → Prop} {g : Addr} {x : Int} {t : Tok} {ns : List Int} {sb pb : Int → List Int}
    (B : Below A₀ base outer h₀) (F : Fr h₀ L s.heap m) (X : (hd.heap_39 w.params).In h₀) (T : Top p loose mean mg mb h₀) (hk : cs.kind = .function) (S : Sys h₀)
    (hG : DiG PySem.Challenge.rw_fq0029_01.row.prog w s.heap g ns sb pb) (hc : Closed ns pb) (hx : x ∈ ns) (hnl : ns.length ≤ 100)
    (hdp : dp + 2 < recursionLimit) (hun : un + 16 < cLine)
    (ret : ∀ D o S n h' tk', Keeps s.heap h' → s.heap.objs.size ≤ D → h'.get? D = some o → Obj.SetObjOf (PySem.intKind PySem.Challenge.rw_fq0029_01.row.prog w) o S n → (∀ k, S k = true ↔ Reach pb x k ∧ k ≠ x) → n ≤ ns.length → Q (.ref D) { s with heap := h', toks := tk' }) :
    wpAny (model PySem.Challenge.rw_fq0029_01.row.prog w) (ktrTop dp un gd cn cs L a ccd cl outer) (call (.ref 584) [.ref g, .int x t]) Q E s := by
  obtain ⟨nd, ad, pd, nkvs, ⟨dx, k1, k2, k3, k4, k5, t1, t2, t3, t4, t5, v1, e1, e2⟩, e3, e4, e5, e6, e7⟩ := hG.at_
  revert X
  k_fill
  intro X
  refine wpAny_call ?_
  refine' enterW (binds := [(("G" : Str), (.ref g : Value)), (("node" : Str), (.int x t : Value))]) ?k1 ?k2 ?k3 ?k5 ?kA ?kF ?kK ?k6 ?k7 ?k8 ?k9 ?kB ?_ ?c2 ?c3 ?c4 ?c5
  case kA => exact rfl
  case kF => exact rfl
  case kK => assumption
  case k1 => exact B
  case k2 => exact F
  case k3 => exact X
  case k5 => exact T
  case k6 => k_is
  case k7 => k_is
  case k8 => ktr_room
  case k9 => exact BindsTo.of_eq rfl
  case c5 => decide
  case kB => exact locs rfl
  case c2 => exact rfl
  case c3 => exact rfl
  case c4 => exact rfl
  intro L' h' F' N' B' X' T'
  try dsimp only
  k_fold
  have S' : Sys s.heap := S.keep F.keep
  replace F' : Fr s.heap L' h' (lk [(("node" : Str), some (.int x t : Value)), (("G" : Str), some (.ref g : Value))]) := (lk_of _ ▸ F' :)
  k_steps
  rename News _ _ _ _ => N9
  rename Fr _ _ _ _ => F9
  rename RInv _ _ _ _ => hI
  rename Obj.SetObjOf _ _ _ _ => hS
  rename ∀ k, _ ↔ _ => hm
  have k9 := keeps_of F9
  clear F9
  rename Fr _ _ _ _ => F8
  rename_i hD' hle hlt
  have hz := nodup_length_le hI.nodup fun y hy => (hI.reach y hy).mem hc hx
  exact ret _ _ _ _ _ _ k9 (Nat.le_trans (keeps_of F8).size hD') (N9 _ (.head _)).1 hS (fun k => by rw [hm, mem_drop_one hI.nodup hI.head, hI.all]) (by rw [List.length_drop] at hle; omega)
section
variable {prog : Program} {w : World} {A : Around} {E : Value → Shared → Prop} {s : Shared} {env : Env}
/-- over the keys of a dict of the base, by an iterator that stands -/
theorem forKeys {K : Type} [DecidableEq K] {knd : KeyKind prog w K} {x : Str} {px : Pos} {body : List Stmt} {Q : Flow → Shared → Prop} {I d : Addr} {ep : Nat} {kvs : List (K × Value)} {h₀ : Heap} {m : Str → Option Value} {news : List (Addr × Obj)}
    (F : Fr h₀ env.locals s.heap m) (N : News h₀ env.locals s.heap news) (hd : h₀.DictAt knd d kvs ep) (hit : s.heap.IsKeyIter I d 0 kvs.length ep) (hI : ∀ p ∈ news, p.1 < I) (hIL : I ≠ env.locals) (hI0 : h₀.get? I = none) (hh : A.handled = none)
    (hx : env.kindOf x = some .local) (hp : (env.scope.kind == .class || (env.scope.kind == .module && env.locals != env.globals)) = false)
    (J : Nat → (Str → Option Value) → List (Addr × Obj) → Prop) (h0 : J 0 m news)
    (turn : ∀ i k key v m₁ news₁ h tk io, news₁.map (·.1) = news.map (·.1) → kvs[i]? = some (k, v) → knd.is k key = true → J i m₁ news₁ →
      Fr h₀ env.locals h (fun y => if y = x then some key else m₁ y) → News h₀ env.locals h ((I, io) :: news₁) →
      wpAny (model prog w) A (execs body env) (TurnEnd h₀ env.locals (fun m' n' => n'.map (·.1) = news.map (·.1) ∧ J (i + 1) m' n') [(I, io)] Q { s with heap := h, toks := tk }) Bot { s with heap := h, toks := tk })
    (done : ∀ m₁ news₁ h tk, news₁.map (·.1) = news.map (·.1) → J kvs.length m₁ news₁ → Fr h₀ env.locals h m₁ → News h₀ env.locals h news₁ → Q .next { s with heap := h, toks := tk }) :
    ForAt prog w A env (.Name x px) body Q (.ref I) s := by
  have hat := hd.keep F.keep
  obtain ⟨od, esd, hod, _⟩ := id hat
  obtain ⟨ob, _, hob, _⟩ := id hd
  have hne : d ≠ I := fun e => by rw [e, hI0] at hob; cases hob
  have nI : ∀ l : List (Addr × Obj), l.map (·.1) = news.map (·.1) → ∀ p ∈ l, p.1 ≠ I := fun l e p hp => by
    have : p.1 ∈ l.map (·.1) := List.mem_map.mpr ⟨p, hp, rfl⟩
    rw [e] at this
    obtain ⟨q, hq, e'⟩ := List.mem_map.mp this
    rw [← e']; exact Nat.ne_of_lt (hI q hq)
  have hdL : d ≠ env.locals := Nat.ne_of_lt (Nat.lt_of_lt_of_le (Heap.lt_size hob) F.above)
  refine forWalks (own := []) (Walks.dictKeys (knd := knd) hh I d hne kvs ep) hx hp (fun i h st => ?_) ⟨hit, hat⟩ F N ?_
    hIL hI0 (fun p hp => nomatch hp) (fun i m₁ n₁ => n₁.map (·.1) = news.map (·.1) ∧ J i m₁ n₁) ⟨rfl, h0⟩ (fun i m₁ n₁ hJ => nI n₁ hJ.1) ?_ ?_
  · obtain ⟨⟨o, ho, _⟩, _⟩ := st; exact ⟨o, ho⟩
  · intro b hb
    rcases List.mem_cons.mp hb with rfl | hb
    · exact ⟨hIL, .inl rfl⟩
    · rw [List.mem_singleton.mp hb]; exact ⟨hdL, .inr (.inl ⟨ob, hob⟩)⟩
  · rintro i v m₁ n₁ h tk io hi ⟨k, y, hk, hkey⟩ ⟨hadr, hJ⟩ F₁ N₁
    exact turn i k v y m₁ n₁ h tk io hadr hk hkey hJ F₁ N₁
  · rintro m₁ n₁ h tk ⟨hadr, hJ⟩ F₁ N₁
    exact done m₁ n₁ h tk hadr hJ F₁ N₁
end
section
variable {prog : Program} {w : World} {A : Around} {E : Value → Shared → Prop} {s : Shared} {h₀ : Heap} {L d : Addr} {m : Str → Option Value} {news : List (Addr × Obj)} {kvs : List (Int × Value)} {ep : Nat}
theorem keeps_push (h : Heap) (o : Obj) : Keeps h (h.push o) := ⟨fun _ _ e => Heap.get?_push_of_some _ e, by rw [Heap.size_push]; exact Nat.le_succ _⟩
theorem iter_d {Q : Value → Shared → Prop} (F : Fr h₀ L s.heap m) (N : News h₀ L s.heap news) (hd : s.heap.DictAt (PySem.intKind prog w) d kvs ep) (lo : (d == sysModules) = false)
    (h : ∀ I h' io, Fr h₀ L h' m → News h₀ L h' ((I, io) :: news) → Keeps s.heap h' → s.heap.objs.size ≤ I → h'.IsKeyIter I d 0 kvs.length ep → Q (.ref I) { s with heap := h' }) :
    wpAny (model prog w) A (call (.builtin "iter") [.ref d]) Q E s := by
  refine call_function_entry (by decide +kernel) (by decide +kernel) kdk_entry_iter (kdk_args_iter _) ?_
  unfold Builtin.«iter»
  refine wpAny_bind (m := someArgs "iter" 1 2 _) (wpAny_of_eq (a := [Value.ref d]) (by first | rfl | kernel_rfl) ?_)
  show wpAny _ _ (pyIter (.ref d) >>= _) _ _ _
  refine wpAny_bind (wpAny_pyIter_dict lo hd ?_)
  exact wpAny_pure ⟨_, rfl, h _ _ _ (F.push _) (News.push F N _ rfl) (keeps_push _ _) (Nat.le_refl _) ⟨_, Heap.get?_push_size _ rfl, rfl, rfl⟩⟩
theorem len_d {Q : Value → Shared → Prop} (hd : s.heap.DictOf (PySem.intKind prog w) d kvs) (lo : (d == sysModules) = false) (hn : kvs.length ≤ 1000) (h : ∀ t tk, Q (.int kvs.length t) { s with toks := tk }) :
    wpAny (model prog w) A (call (.builtin "len") [.ref d]) Q E s := call_len_dict lo hd (by omega) (h _ _)
end
theorem inst_at {h : Heap} {x C dx : Addr} {od : Obj} (h1 : h.get? x = some (instObj C dx)) (h2 : h.get? dx = some od) : PySem.W.InstAt h x (instObj C dx) C (some od) := ⟨h1, rfl, rfl, h2⟩
theorem news_tail {h₀ h : Heap} {L : Addr} {x : Addr × Obj} {news : List (Addr × Obj)} (N : News h₀ L h (x :: news)) : News h₀ L h news := fun p hp => N p (.tail _ hp)
theorem any_beq {qs : List Int} {n : Int} : (qs.any fun x => x == n) = true ↔ n ∈ qs := by
  rw [List.any_eq_true]
  constructor
  · rintro ⟨y, hy, e⟩
    have := eq_of_beq e; subst this; exact hy
  · intro h; exact ⟨n, h, by simp⟩
theorem isdir_spec {w : World} {p : Program} {loose : List Str} {mean : ExcName → Option Value} {mg mb : Str → Option Value} {dp un : Nat} {gd : Option (List Code)} {cn : Str} {cs : Scope} {a : Addr} {ccd : Value} {cl : List (Str × Addr)} {outer : List Env} {A₀ : Around} {base h₀ : Heap} {L : Addr} {m : Str → Option Value} {s : Shared} {Q E : Value → Shared → Prop} {g : Addr}
    (B : Below A₀ base outer h₀) (F : Fr h₀ L s.heap m) (X : (hd.heap_39 w.params).In h₀) (T : Top p loose mean mg mb h₀) (hk : cs.kind = .function) (S : Sys h₀) (hdp : dp + 1 < recursionLimit) (hun : un + 8 < cLine)
    (ret : ∀ h' tk', Keeps s.heap h' → Q (.bool true) { s with heap := h', toks := tk' }) :
    wpAny (model PySem.Challenge.rw_fq0029_01.row.prog w) (ktrTop dp un gd cn cs L a ccd cl outer) (call (.ref 828) [.ref g]) Q E s := by
  revert X
  k_fill
  intro X
  refine wpAny_call ?_
  refine' enterW (binds := [(("self" : Str), (.ref g : Value))]) ?k1 ?k2 ?k3 ?k5 ?kA ?kF ?kK ?k6 ?k7 ?k8 ?k9 ?kB ?_ ?c2 ?c3 ?c4 ?c5
  case kA => exact rfl
  case kF => exact rfl
  case kK => assumption
  case k1 => exact B
  case k2 => exact F
  case k3 => exact X
  case k5 => exact T
  case k6 => k_is
  case k7 => k_is
  case k8 => ktr_room
  case k9 => exact BindsTo.of_eq rfl
  case c5 => decide
  case kB => exact locs rfl
  case c2 => exact rfl
  case c3 => exact rfl
  case c4 => exact rfl
  intro L' h' F' N' B' X' T'
  try dsimp only
  k_fold
  have S' : Sys s.heap := S.keep F.keep
  replace F' : Fr s.heap L' h' (lk [(("self" : Str), some (.ref g : Value))]) := (lk_of _ ▸ F' :)
  k_steps
  rename Fr _ _ _ _ => F9
  exact ret _ _ (keeps_of F9)
theorem iter_spec {w : World} {p : Program} {loose : List Str} {mean : ExcName → Option Value} {mg mb : Str → Option Value} {dp un : Nat} {gd : Option (List Code)} {cn : Str} {cs : Scope} {a : Addr} {ccd : Value} {cl : List (Str × Addr)} {outer : List Env} {A₀ : Around} {base h₀ : Heap} {L : Addr} {m : Str → Option Value} {s : Shared} {Q E : Value → Shared → Prop} {g nd ad pd : Addr} {nkvs : List (Int × Value)} {ep : Nat}
    (B : Below A₀ base outer h₀) (F : Fr h₀ L s.heap m) (X : (hd.heap_39 w.params).In h₀) (T : Top p loose mean mg mb h₀) (hk : cs.kind = .function) (S : Sys h₀) (hO : DiObj s.heap g nd ad pd) (hat : s.heap.DictAt (PySem.intKind PySem.Challenge.rw_fq0029_01.row.prog w) nd nkvs ep) (lo : (nd == sysModules) = false) (hdp : dp + 1 < recursionLimit) (hun : un + 8 < cLine)
    (ret : ∀ I h' tk', Keeps s.heap h' → s.heap.objs.size ≤ I → h'.IsKeyIter I nd 0 nkvs.length ep → Q (.ref I) { s with heap := h', toks := tk' }) :
    wpAny (model PySem.Challenge.rw_fq0029_01.row.prog w) (ktrTop dp un gd cn cs L a ccd cl outer) (call (.ref 345) [.ref g]) Q E s := by
  obtain ⟨dx, k1, k2, k3, k4, k5, t1, t2, t3, t4, t5, v1, e1, e2⟩ := hO
  revert X
  k_fill
  intro X
  refine wpAny_call ?_
  refine' enterW (binds := [(("self" : Str), (.ref g : Value))]) ?k1 ?k2 ?k3 ?k5 ?kA ?kF ?kK ?k6 ?k7 ?k8 ?k9 ?kB ?_ ?c2 ?c3 ?c4 ?c5
  case kA => exact rfl
  case kF => exact rfl
  case kK => assumption
  case k1 => exact B
  case k2 => exact F
  case k3 => exact X
  case k5 => exact T
  case k6 => k_is
  case k7 => k_is
  case k8 => ktr_room
  case k9 => exact BindsTo.of_eq rfl
  case c5 => decide
  case kB => exact locs rfl
  case c2 => exact rfl
  case c3 => exact rfl
  case c4 => exact rfl
  intro L' h' F' N' B' X' T'
  try dsimp only
  k_fold
  have S' : Sys s.heap := S.keep F.keep
  replace F' : Fr s.heap L' h' (lk [(("self" : Str), some (.ref g : Value))]) := (lk_of _ ▸ F' :)
  k_steps
  refine iter_d F' N' (hat.keep F'.keep) lo fun I h2 io F2 N2 hk hI hit => ?_
  exact ret _ _ _ (keeps_of F2) (Nat.le_trans (keeps_of F').size hI) hit
theorem len_spec {w : World} {p : Program} {loose : List Str} {mean : ExcName → Option Value} {mg mb : Str → Option Value} {dp un : Nat} {gd : Option (List Code)} {cn : Str} {cs : Scope} {a : Addr} {ccd : Value} {cl : List (Str × Addr)} {outer : List Env} {A₀ : Around} {base h₀ : Heap} {L : Addr} {m : Str → Option Value} {s : Shared} {Q E : Value → Shared → Prop} {g nd ad pd : Addr} {nkvs : List (Int × Value)}
    (B : Below A₀ base outer h₀) (F : Fr h₀ L s.heap m) (X : (hd.heap_39 w.params).In h₀) (T : Top p loose mean mg mb h₀) (hk : cs.kind = .function) (S : Sys h₀) (hO : DiObj s.heap g nd ad pd) (hat : s.heap.DictOf (PySem.intKind PySem.Challenge.rw_fq0029_01.row.prog w) nd nkvs) (lo : (nd == sysModules) = false) (hnl : nkvs.length ≤ 100) (hdp : dp + 1 < recursionLimit) (hun : un + 8 < cLine)
    (ret : ∀ t h' tk', Keeps s.heap h' → Q (.int nkvs.length t) { s with heap := h', toks := tk' }) :
    wpAny (model PySem.Challenge.rw_fq0029_01.row.prog w) (ktrTop dp un gd cn cs L a ccd cl outer) (call (.ref 359) [.ref g]) Q E s := by
  obtain ⟨dx, k1, k2, k3, k4, k5, t1, t2, t3, t4, t5, v1, e1, e2⟩ := hO
  revert X
  k_fill
  intro X
  refine wpAny_call ?_
  refine' enterW (binds := [(("self" : Str), (.ref g : Value))]) ?k1 ?k2 ?k3 ?k5 ?kA ?kF ?kK ?k6 ?k7 ?k8 ?k9 ?kB ?_ ?c2 ?c3 ?c4 ?c5
  case kA => exact rfl
  case kF => exact rfl
  case kK => assumption
  case k1 => exact B
  case k2 => exact F
  case k3 => exact X
  case k5 => exact T
  case k6 => k_is
  case k7 => k_is
  case k8 => ktr_room
  case k9 => exact BindsTo.of_eq rfl
  case c5 => decide
  case kB => exact locs rfl
  case c2 => exact rfl
  case c3 => exact rfl
  case c4 => exact rfl
  intro L' h' F' N' B' X' T'
  try dsimp only
  k_fold
  have S' : Sys s.heap := S.keep F.keep
  replace F' : Fr s.heap L' h' (lk [(("self" : Str), some (.ref g : Value))]) := (lk_of _ ▸ F' :)
  k_steps
  refine len_d (hat.keep F'.keep) lo (by omega) fun t tk => ?_
  exact ret _ _ _ (keeps_of F')
theorem succs_spec {w : World} {p : Program} {loose : List Str} {mean : ExcName → Option Value} {mg mb : Str → Option Value} {dp un : Nat} {gd : Option (List Code)} {cn : Str} {cs : Scope} {a : Addr} {ccd : Value} {cl : List (Str × Addr)} {outer : List Env} {A₀ : Around} {base h₀ : Heap} {L : Addr} {m : Str → Option Value} {s : Shared} {Q E : Value → Shared → Prop} {g nd ad pd ai : Addr} {x : Int} {t : Tok} {kvd ivs : List (Int × Value)} {ep : Nat}
    (B : Below A₀ base outer h₀) (F : Fr h₀ L s.heap m) (X : (hd.heap_39 w.params).In h₀) (T : Top p loose mean mg mb h₀) (hk : cs.kind = .function) (S : Sys h₀) (hO : DiObj s.heap g nd ad pd) (hkd : s.heap.DictOf (PySem.intKind PySem.Challenge.rw_fq0029_01.row.prog w) ad kvd) (hva : valueAt kvd x = some (.ref ai)) (halo : (ai == sysModules) = false)
    (hat : s.heap.DictAt (PySem.intKind PySem.Challenge.rw_fq0029_01.row.prog w) ai ivs ep) (hdp : dp + 1 < recursionLimit) (hun : un + 8 < cLine)
    (ret : ∀ I h' tk', Keeps s.heap h' → s.heap.objs.size ≤ I → h'.IsKeyIter I ai 0 ivs.length ep → Q (.ref I) { s with heap := h', toks := tk' }) :
    wpAny (model PySem.Challenge.rw_fq0029_01.row.prog w) (ktrTop dp un gd cn cs L a ccd cl outer) (call (.ref 746) [.ref g, .int x t]) Q E s := by
  obtain ⟨dx, k1, k2, k3, k4, k5, t1, t2, t3, t4, t5, v1, e1, e2⟩ := hO
  revert X
  k_fill
  intro X
  refine wpAny_call ?_
  refine' enterW (binds := [(("self" : Str), (.ref g : Value)), (("n" : Str), (.int x t : Value))]) ?k1 ?k2 ?k3 ?k5 ?kA ?kF ?kK ?k6 ?k7 ?k8 ?k9 ?kB ?_ ?c2 ?c3 ?c4 ?c5
  case kA => exact rfl
  case kF => exact rfl
  case kK => assumption
  case k1 => exact B
  case k2 => exact F
  case k3 => exact X
  case k5 => exact T
  case k6 => k_is
  case k7 => k_is
  case k8 => ktr_room
  case k9 => exact BindsTo.of_eq rfl
  case c5 => decide
  case kB => exact locs rfl
  case c2 => exact rfl
  case c3 => exact rfl
  case c4 => exact rfl
  intro L' h' F' N' B' X' T'
  try dsimp only
  k_fold
  have S' : Sys s.heap := S.keep F.keep
  replace F' : Fr s.heap L' h' (lk [(("n" : Str), some (.int x t : Value)), (("self" : Str), some (.ref g : Value))]) := (lk_of _ ▸ F' :)
  k_steps
  refine iter_d F' N' (hat.keep F'.keep) halo fun I h2 io F2 N2 hk hI hit => ?_
  exact ret _ _ _ (keeps_of F2) (Nat.le_trans (keeps_of F').size hI) hit
theorem pyIterG_spec {w : World} {p : Program} {loose : List Str} {mean : ExcName → Option Value} {mg mb : Str → Option Value} {dp un : Nat} {gd : Option (List Code)} {cn : Str} {cs : Scope} {a : Addr} {ccd : Value} {cl : List (Str × Addr)} {outer : List Env} {A₀ : Around} {base h₀ : Heap} {L : Addr} {m : Str → Option Value} {s : Shared} {Q E : Value → Shared → Prop} {g nd ad pd : Addr} {nkvs : List (Int × Value)} {ep : Nat}
    (B : Below A₀ base outer h₀) (F : Fr h₀ L s.heap m) (X : (hd.heap_39 w.params).In h₀) (T : Top p loose mean mg mb h₀) (hk : cs.kind = .function) (S : Sys h₀) (hO : DiObj s.heap g nd ad pd) (hat : s.heap.DictAt (PySem.intKind PySem.Challenge.rw_fq0029_01.row.prog w) nd nkvs ep) (lo : (nd == sysModules) = false) (hdp : dp + 1 < recursionLimit) (hun : un + 8 < cLine)
    (ret : ∀ I h' tk', Keeps s.heap h' → s.heap.objs.size ≤ I → h'.IsKeyIter I nd 0 nkvs.length ep → Q (.ref I) { s with heap := h', toks := tk' }) :
    wpAny (model PySem.Challenge.rw_fq0029_01.row.prog w) (ktrTop dp un gd cn cs L a ccd cl outer) (pyIter (.ref g)) Q E s := by
  obtain ⟨dx, k1, k2, k3, k4, k5, t1, t2, t3, t4, t5, v1, e1, e2⟩ := id hO
  revert X
  k_fill
  intro X
  refine' owit_iter (f := 345) F X (inst_at e1 e2) ?hs ?hf ?_
  case hs => k_is
  case hf => k_is
  refine iter_spec B F X T hk S hO hat lo hdp hun fun I h' tk' hk' hI hit => ?_
  unfold OwitIt
  exact wpAny_specialOf hit.typeIs PySem.F.slot_dict_keyiterator_next.lookup (ret I h' tk' hk' hI hit)
local macro_rules | `(tactic| walk_at "call ref") => `(tactic| (k_here; (k_dflt (show wpAny _ _ (call (Value.ref _) [Value.ref _]) _ _ _)); (with_reducible show wpAny _ _ (call (Value.ref 828) [Value.ref _]) _ _ _); k_dflt (refine' isdir_spec ?B ?F ?X ?T ?hk ?S ?hdp ?hun ?_; (case B => k_asm); (case F => k_asm); (case X => k_asm); (case T => k_asm); (case hk => rfl); (case S => assumption); (case hdp => walk_at "ROOM"); (case hun => walk_at "UNITS")); intro h' tk' hk'; (have N' := news_onto (by k_asm) hk'); (have F' := fr_onto (by k_asm) hk'); (try dsimp only); (try k_sweep)))
local macro_rules | `(tactic| walk_at "PYITERG") => `(tactic| (k_dflt (refine' pyIterG_spec ?B ?F ?X ?T ?hk ?S ?hO ?hat ?lo ?hdp ?hun ?_; (case B => k_asm); (case F => k_asm); (case X => k_asm); (case T => k_asm); (case hk => rfl); (case S => assumption); (case hO => walk_at "DIO"); (case hat => walk_at "DAT"); (case lo => assumption); (case hdp => walk_at "ROOM"); (case hun => walk_at "UNITS"))))
def Acyc (ns : List Int) (sb : Int → List Int) : Prop := ∀ n ∈ ns, ∀ k ∈ sb n, ¬ Reach sb k n
theorem dag_spec {w : World} {p : Program} {loose : List Str} {mean : ExcName → Option Value} {mg mb : Str → Option Value} {dp un : Nat} {gd : Option (List Code)} {cn : Str} {cs : Scope} {a : Addr} {ccd : Value} {cl : List (Str × Addr)} {outer : List Env} {A₀ : Around} {base h₀ : Heap} {L : Addr} {m : Str → Option Value} {s : Shared} {Q E : Value → Shared → Prop} {g : Addr} {ns : List Int} {sb pb : Int → List Int}
    (B : Below A₀ base outer h₀) (F : Fr h₀ L s.heap m) (X : (hd.heap_39 w.params).In h₀) (T : Top p loose mean mg mb h₀) (hk : cs.kind = .function) (S : Sys h₀) (hG : DiG PySem.Challenge.rw_fq0029_01.row.prog w s.heap g ns sb pb) (hc : Closed ns sb) (hnl : ns.length ≤ 100) (hdp : dp + 3 < recursionLimit) (hun : un + 24 < cLine)
    (ret : ∀ b h' tk', Keeps s.heap h' → (b = true ↔ Acyc ns sb) → Q (.bool b) { s with heap := h', toks := tk' }) :
    wpAny (model PySem.Challenge.rw_fq0029_01.row.prog w) (ktrTop dp un gd cn cs L a ccd cl outer) (call (.ref 591) [.ref g]) Q E s := by
  obtain ⟨nd, ad, pd, nkvs, hO, e3, e4, e5, ⟨⟨kvd, hkd, hkn, hnb⟩, hdlo⟩, e7⟩ := hG.at_
  obtain ⟨ep, hat⟩ := e4.dictAt
  obtain ⟨dx, k1, k2, k3, k4, k5, t1, t2, t3, t4, t5, v1, e1, e2⟩ := id hO
  have hA : AdjAt PySem.Challenge.rw_fq0029_01.row.prog w s.heap ad ns sb := ⟨⟨kvd, hkd, hkn, hnb⟩, hdlo⟩
  revert X
  k_fill
  intro X
  refine wpAny_call ?_
  refine' enterW (binds := [(("G" : Str), (.ref g : Value))]) ?k1 ?k2 ?k3 ?k5 ?kA ?kF ?kK ?k6 ?k7 ?k8 ?k9 ?kB ?_ ?c2 ?c3 ?c4 ?c5
  case kA => exact rfl
  case kF => exact rfl
  case kK => assumption
  case k1 => exact B
  case k2 => exact F
  case k3 => exact X
  case k5 => exact T
  case k6 => k_is
  case k7 => k_is
  case k8 => ktr_room
  case k9 => exact BindsTo.of_eq rfl
  case c5 => decide
  case kB => exact locs rfl
  case c2 => exact rfl
  case c3 => exact rfl
  case c4 => exact rfl
  intro L' h' F' N' B' X' T'
  try dsimp only
  k_fold
  have S' : Sys s.heap := S.keep F.keep
  replace F' : Fr s.heap L' h' (lk [(("G" : Str), some (.ref g : Value))]) := (lk_of _ ▸ F' :)
  k_steps
  walk_at "PYITERG"
  intro I h2 tk2 hk2 hI hit
  dsimp only at *
  rename Fr _ _ _ _ => F2
  rename News _ _ _ _ => N2
  have F3 := fr_onto F2 hk2
  have N3 := news_onto N2 hk2
  refine forKeys F3 N3 hat hit (fun p hp => nomatch hp) (Nat.ne_of_gt (Nat.lt_of_lt_of_le F2.ns.lt hI)) (fr_none F2 hI) rfl (by rfl) (by rfl)
    (fun i m₁ n₁ => ∃ u1 u2, m₁ = lk [("n", u1), ("nbr", u2), ("G", some (.ref g))] ∧ n₁ = [] ∧ ∀ n ∈ ns.take i, ∀ k ∈ sb n, ¬ Reach sb k n)
    ⟨none, none, by walk_at "SAME", rfl, by simp⟩ ?_ ?_
  · rintro i n key v m₁ n₁ h tk io hadr hki hkey ⟨u1, u2, rfl, rfl, hdone⟩ F4 N4
    obtain ⟨tn, rfl⟩ := Value.isInt_shape hkey
    rw [lk_set] at F4
    have hnn : n ∈ ns := by rw [← e5]; exact List.mem_map.mpr ⟨(n, v), List.mem_of_getElem? hki, rfl⟩
    obtain ⟨ai, ivs, hva, halo, hiv, hik⟩ := hnb n hnn
    k_steps
    refine forDict F4 N4 hiv halo rfl (by rfl) (by rfl)
      (fun j m₁ n₁ => ∃ u2, m₁ = lk [("n", some (.int n tn)), ("nbr", u2), ("G", some (.ref g))] ∧ n₁ = [(I, io)] ∧ ∀ k ∈ (sb n).take j, ¬ Reach sb k n) ⟨u2, by walk_at "SAME", rfl, by simp⟩ ?_ ?_
    · rintro I2 j k key kv m₁ n₁ h3 tk3 io2 hltI hadr2 hkj hkey ⟨u2, rfl, rfl, htake⟩ F5 N5
      obtain ⟨tk0, rfl⟩ := Value.isInt_shape hkey
      rw [lk_set] at F5
      have h1 := ltN (hltI _ (.head _))
      have hkn' : k ∈ sb n := by rw [← hik]; exact List.mem_map.mpr ⟨(k, kv), List.mem_of_getElem? hkj, rfl⟩
      have hkns : k ∈ ns := hc n hnn k hkn'
      have hkt : (sb n).take (j + 1) = (sb n).take j ++ [k] := by
        have : (sb n)[j]? = some k := by rw [← hik, List.getElem?_map, hkj]; rfl
        rw [List.take_add_one, this]; rfl
      k_steps
      · rename (List.any _ _) = _ => hs
        rename RInv _ _ _ _ => hR
        rename Fr _ _ _ _ => F9
        exact ret _ _ _ (keeps_of F9) (by
          constructor
          · intro e; cases e
          · intro ha; exact absurd ((hR.all n).mp (any_beq.mp hs)) (ha n hnn k hkn'))
      · rename (List.any _ _) = _ => hs
        rename RInv _ _ _ _ => hR
        rename News _ _ _ _ => N9
        rename Fr _ _ _ _ => F9
        have N10 := news_tail (news_tail N9)
        refine TurnEnd.next F9 N10 ⟨rfl, _, by walk_at "SAME", rfl, fun k' hk' => ?_⟩
        rw [hkt] at hk'
        rcases List.mem_append.mp hk' with hk' | hk'
        · exact htake k' hk'
        · rw [List.mem_singleton.mp hk']
          intro hr
          have := any_beq.mpr ((hR.all n).mpr hr)
          rw [hs] at this
          cases this
    · rintro m₁ n₁ h3 tk3 hadr2 ⟨u2, rfl, rfl, hall⟩ F5 N5
      dsimp only
      have hik' : ivs.length = (sb n).length := by rw [← hik, List.length_map]
      rw [hik', List.take_length] at hall
      k_steps
      refine TurnEnd.next F5 N5 ⟨rfl, _, _, by walk_at "SAME", rfl, fun n' hn' => ?_⟩
      have : ns.take (i + 1) = ns.take i ++ [n] := by
        have : ns[i]? = some n := by rw [← e5, List.getElem?_map, hki]; rfl
        rw [List.take_add_one, this]; rfl
      rw [this] at hn'
      rcases List.mem_append.mp hn' with hn' | hn'
      · exact hdone n' hn'
      · rw [List.mem_singleton.mp hn']; exact hall
  · rintro m₁ n₁ h3 tk3 hadr2 ⟨u1, u2, rfl, rfl, hall⟩ F5 N5
    dsimp only
    have hl : nkvs.length = ns.length := by rw [← e5, List.length_map]
    rw [hl, List.take_length] at hall
    k_steps
    exact ret _ _ _ (keeps_of F5) ⟨fun _ => hall, fun _ => rfl⟩
section
variable {prog : Program} {w : World} {A₀ A : Around} {s : Shared} {K : Frag} {L : Addr} {base h₀ : Heap} {m mg mb : Str → Option Value} {p : Program} {loose : List Str} {mean : ExcName → Option Value}
/-- a def's call over the whole heap but a few objects as its base: these stand in the ledger -/
theorem enterH {env : Env} {outer : List Env} {R : Result → Shared → Prop} {name qual : Str} {params : Arguments} {body : List Stmt} {scope : Scope} {dV kV doc pm cdv ct oc : Value} {an od : Option Addr} {osl : Array (Option Value)} {f : Addr} {args : Args} {binds : List (Str × Value)} (H : List (Addr × Obj))
    (B : Below A₀ base outer h₀) (F : Fr h₀ L s.heap m) (N₀ : News h₀ L s.heap H) (X₀ : K.In h₀) (T : Top p loose mean mg mb h₀) (hA : A.frames = some (env :: outer)) (hf : env.frame = some L) (hke : env.scope.kind = .function)
    (ho : K.lookup f = some ⟨oc, od, .func (fnOf name qual params body scope dV kV doc pm an cdv ct), osl⟩) (hcd : codeIn K cdv qual = true) (hroom : A.depth < recursionLimit)
    (hbind : BindsTo s (fnOf name qual params body scope dV kV doc pm an cdv ct) args binds) (hloc : ∀ y ∈ binds, scope.names.lookup y.1 = some .local)
    (h : ∀ g L' h₁, g = hideAll s.heap (H.map (·.1)) → Fr g L' h₁ (fun y => binds.reverse.lookup y) → News g L' h₁ H → (∀ p ∈ H, p.1 < L') → Below A base (env :: outer) g → K.In g → Top p loose mean mg mb g → h₀.StaysIn g →
      wpAny (model prog w) (A.deeper (envOf qual scope L' f cdv)) (execs body (envOf qual scope L' f cdv))
        (fun fl s' => R (.ok (.ret (match fl with | .ret v => v | _ => .none))) s')
        (fun e s' => wpAny (model prog w) (A.deeper (envOf qual scope L' f cdv)) (leaving (envOf qual scope L' f cdv) e) (fun _ s'' => R (.error e) s'') (fun e' s'' => R (.error e') s'') s')
        { s with heap := h₁, toks := s.toks + binds.length })
    (hco : scope.isCoroutine = false) (hgen : scope.isGenerator = false) (hk : scope.kind = .function)
    (hcell : ∀ x ∈ scope.names, x.2 ≠ .cell) : codeAny (model prog w) A (.call (.ref f) args) R s := by
  obtain ⟨FG, BG, st, _⟩ := groundX (R := R) B F N₀ hA hf hke
  have X := X₀.keeps F.keep
  have T' := T.keeps F.keep
  refine codeAny_call_def (fd := fnOf name qual params body scope dV kV doc pm an cdv ct) (body := body) (binds := binds) hroom (X _ _ ho) rfl T'.nolimit (codeRec_of X hcd) rfl hbind hcell hloc (fun h₁ hns hk₁ => ?_) hco hgen hk
  exact h _ s.heap.objs.size h₁ rfl ⟨hns, fun b o e => hk₁ b o (of_hideAll _ e), Nat.le_of_eq (hideAll_size _ _)⟩
    (fun p hp => ⟨hk₁ _ _ (N₀ p hp).1, Nat.ne_of_lt (Heap.lt_size (N₀ p hp).1), hideAll_none _ (List.mem_map_of_mem hp)⟩) (fun p hp => Heap.lt_size (N₀ p hp).1) BG (X₀.keeps st) (T.keeps st) st
end
/-- nothing that stood is changed but at these places -/
structure KeepsBut (fp : List Addr) (h h' : Heap) : Prop where
  keep : ∀ b o, b ∉ fp → h.get? b = some o → h'.get? b = some o
  size : h.objs.size ≤ h'.objs.size
theorem keepsBut_of {h h' : Heap} {l : List Addr} {L : Addr} {m : Str → Option Value} (F : Fr (hideAll h l) L h' m) : KeepsBut l h h' :=
  ⟨fun b o hb e => F.keep b o (hideAll_get l e hb), Nat.le_trans (Nat.le_of_eq (hideAll_size l h).symm) (keeps_of F).size⟩
theorem KeepsBut.mono {fp fp' : List Addr} {h h' : Heap} (k : KeepsBut fp h h') (hs : ∀ x ∈ fp, x ∈ fp') : KeepsBut fp' h h' := ⟨fun b o hb e => k.keep b o (fun hm => hb (hs b hm)) e, k.size⟩
/-- a run that looks around, makes one object and goes on -/
theorem wp_peek_push {α : Type} {K : Frag} {M : Model} {A : Around} {E : Value → Shared → Prop} {Q : α → Shared → Prop} {s : Shared} {o : Obj} (X : K.In s.heap) :
    ∀ (t : Sem α) (g : Addr → Sem α), peekA K ⟨M.prog, M.w.params⟩ t = some (o, g) → wpAny M A (g s.heap.objs.size) Q E { s with heap := s.heap.push o } → wpAny M A t Q E s := by
  intro t
  induction t with
  | rule r k ih => exact fun g e q Γ p hΓ => ih () g e q Γ p hΓ
  | point r k ih => exact fun g e q Γ p hΓ => ih () g e q Γ p hΓ
  | ask k ih => exact fun g e q Γ p hΓ => ih _ g e q Γ p hΓ
  | load a r k ih =>
    intro g e q Γ p hΓ
    unfold peekA at e
    cases hl : K.lookup a with
    | none => rw [hl] at e; cases e
    | some ob => rw [hl] at e; exact ⟨ob, X _ _ hl, ih ob g e q Γ p hΓ⟩
  | alloc ob k _ =>
    intro g e q
    unfold peekA at e
    cases e
    exact (wpAny_bind (wpAny_alloc q) : wpAny M A (alloc _ >>= k) Q E s)
  | _ => intro g e; cases e
section
variable {prog : Program} {w : World} {A₀ A : Around} {s : Shared} {K : Frag} {L : Addr} {base h₀ : Heap} {m mg mb : Str → Option Value} {p : Program} {loose : List Str} {mean : ExcName → Option Value}
/-- the same of a def that takes further names: none is given -/
theorem enterM {env : Env} {outer : List Env} {R : Result → Shared → Prop} {name qual : Str} {params : Arguments} {body : List Stmt} {scope : Scope} {dV kV doc pm cdv ct oc : Value} {an od : Option Addr} {osl : Array (Option Value)} {f : Addr} {args : Args} {nm : Str} {front : List (Str × Value)} {g₁ : Addr → Sem (List (Str × Value))} (H : List (Addr × Obj))
    (B : Below A₀ base outer h₀) (F : Fr h₀ L s.heap m) (N₀ : News h₀ L s.heap H) (X₀ : K.In h₀) (T : Top p loose mean mg mb h₀) (hA : A.frames = some (env :: outer)) (hf : env.frame = some L) (hke : env.scope.kind = .function)
    (ho : K.lookup f = some ⟨oc, od, .func (fnOf name qual params body scope dV kV doc pm an cdv ct), osl⟩) (hcd : codeIn K cdv qual = true) (hroom : A.depth < recursionLimit)
    (hp : peekA K ⟨prog, w.params⟩ (bindArgs (fnOf name qual params body scope dV kV doc pm an cdv ct) args) = some (dictOf [] 0, g₁))
    (hk₁ : ∀ D, g₁ D = (forIn ([] : List (Str × Value)) PUnit.unit (fun x _ => (nsSet D x.1 x.2 >>= fun _ => pure (ForInStep.yield PUnit.unit))) >>= fun _ => pure (front ++ [(nm, Value.ref D)])))
    (hloc : ∀ D, ∀ y ∈ front ++ [(nm, Value.ref D)], scope.names.lookup y.1 = some .local)
    (h : ∀ D o g L' h₁ tk, (∀ p ∈ H, p.1 < D) → s.heap.objs.size ≤ D → (D == sysModules) = false → o.IsDictOf (strKind prog w) [] → Fr g L' h₁ (fun y => (front ++ [(nm, Value.ref D)]).reverse.lookup y) → News g L' h₁ ((D, o) :: H) →
      (∀ b x, b ∉ H.map (·.1) → s.heap.get? b = some x → g.get? b = some x) → s.heap.objs.size ≤ g.objs.size → Below A base (env :: outer) g → K.In g → Top p loose mean mg mb g → h₀.StaysIn g →
      wpAny (model prog w) (A.deeper (envOf qual scope L' f cdv)) (execs body (envOf qual scope L' f cdv))
        (fun fl s' => R (.ok (.ret (match fl with | .ret v => v | _ => .none))) s')
        (fun e s' => wpAny (model prog w) (A.deeper (envOf qual scope L' f cdv)) (leaving (envOf qual scope L' f cdv) e) (fun _ s'' => R (.error e) s'') (fun e' s'' => R (.error e') s'') s')
        { s with heap := h₁, toks := tk })
    (hco : scope.isCoroutine = false) (hgen : scope.isGenerator = false) (hk : scope.kind = .function)
    (hcell : ∀ x ∈ scope.names, x.2 ≠ .cell) : codeAny (model prog w) A (.call (.ref f) args) R s := by
  refine codeAny_call_function (fd := fnOf name qual params body scope dV kV doc pm an cdv ct) (body := body) hroom ((X₀.keeps F.keep) _ _ ho) rfl hco hgen rfl (codeRec_of (X₀.keeps F.keep) hcd) ?_
  refine wp_peek_push (o := dictOf [] 0) (X₀.keeps F.keep) _ g₁ hp ?_
  rw [hk₁, List.forIn_nil]
  refine wpAny_bind (wpAny_pure (wpAny_pure ?_))
  have F' := F.push (dictOf [] 0)
  have N' : News h₀ L (s.heap.push (dictOf [] 0)) ((s.heap.objs.size, dictOf [] 0) :: H) := News.push F N₀ _ rfl
  obtain ⟨FG, BG, st, _⟩ := groundX (s := { s with heap := s.heap.push (dictOf [] 0) }) (R := R) B F' N' hA hf hke
  have T' := T.keeps F'.keep
  refine wpAny_newFunctionEnv hcell (hloc _) (fun h₁ hns hsb => ⟨T'.nolimit.fresh _ hsb, codeAny_func ?_⟩) hk
  have hk₁ : ∀ b o, (s.heap.push (dictOf [] 0)).get? b = some o → h₁.get? b = some o := fun b o e => hsb.extBut b o (Nat.ne_of_lt (Heap.lt_size e)) (Heap.get?_push_of_some _ e)
  refine h s.heap.objs.size (dictOf [] 0) (hideAll (s.heap.push (dictOf [] 0)) (List.map (fun x : Addr × Obj => x.fst) ((s.heap.objs.size, dictOf [] 0) :: H))) (s.heap.push (dictOf [] 0)).objs.size h₁ _ (fun p hp => Heap.lt_size (N₀ p hp).1) (Nat.le_refl _) (F.notModules (modules_low T.nolimit)) (kp_isDict (ex := []) 0 0 List.nodup_nil) ⟨hns, fun b o e => hk₁ b o (of_hideAll _ e), Nat.le_of_eq (hideAll_size _ _)⟩
    (fun p hp => ⟨hk₁ _ _ (N' p hp).1, Nat.ne_of_lt (Heap.lt_size (N' p hp).1), hideAll_none _ (List.mem_map_of_mem (f := (·.1)) hp)⟩) (fun b x hb e => ?_) ?_ BG (X₀.keeps st) (T.keeps st) st
  · refine hideAll_get _ (Heap.get?_push_of_some _ e) fun hm => ?_
    rcases List.mem_cons.mp hm with rfl | hm
    · exact absurd (Heap.lt_size e) (Nat.lt_irrefl _)
    · exact hb hm
  · rw [hideAll_size, Heap.size_push]; exact Nat.le_succ _
end
section
section
variable {prog : Program} {w : World} {A : Around} {E : Value → Shared → Prop} {s : Shared} {h₀ : Heap} {L : Addr} {m : Str → Option Value} {news : List (Addr × Obj)} {d : Addr} {k : Int} {u : Tok} {kvs : List (Int × Value)} {o : Obj}
theorem get_d {dflt : Value} {Q : Value → Shared → Prop} (hd : DictHere prog w s.heap d kvs) (lo : (d == sysModules) = false) (h : Q ((valueAt kvs k).getD dflt) { s with toks := s.toks + 1 }) :
    wpAny (model prog w) A (call (.builtin "dict.get") [.ref d, .int k u, dflt]) Q E s :=
  call_meetsIn PySem.F.slot_dict_get hd.typeIs PySem.F.entry_dict_get (PySem.F.args_dict_get_3 _ _ _) (meets_dict_get_default (PySem.intKind prog w) d (intKind_is prog w k u) lo dflt) ⟨valueAt kvs, hd.mapOf, h⟩
theorem get_none {dflt : Value} {Q : Value → Shared → Prop} (hd : DictHere prog w s.heap d kvs) (lo : (d == sysModules) = false) (hn : valueAt kvs k = none) (h : Q dflt { s with toks := s.toks + 1 }) :
    wpAny (model prog w) A (call (.builtin "dict.get") [.ref d, .int k u, dflt]) Q E s := get_d hd lo (by rw [hn]; exact h)
/-- an empty dict takes in an empty dict -/
theorem upd_e {d₂ : Addr} {o₂ : Obj} {g : Obj → List (Addr × Obj)} {Q : Value → Shared → Prop} (F : Fr h₀ L s.heap m) (N : News h₀ L s.heap news) (U : UpdF d o news g) (hd : o.IsDictOf (PySem.strKind prog w) []) (hm : (d₂, o₂) ∈ news) (hd₂ : o₂.IsDictOf (PySem.strKind prog w) [])
    (hne : d ≠ d₂) (lo : (d₂ == sysModules) = false) (h : ∀ h' o', Fr h₀ L h' m → News h₀ L h' (g o') → o'.IsDictOf (PySem.strKind prog w) [] → Q .none { s with heap := h' }) :
    wpAny (model prog w) A (call (.builtin "dict.update") [.ref d, .ref d₂]) Q E s := by
  obtain ⟨pre, post, rfl, hg, a, b⟩ := U.split
  have z := N (d, o) (List.mem_append.mpr (.inr (.head _)))
  have hD : s.heap.DictOf (PySem.strKind prog w) d [] := Heap.dictOf_iff.mpr ⟨o, z.1, hd⟩
  have hD₂ : s.heap.DictOf (PySem.strKind prog w) d₂ [] := Heap.dictOf_iff.mpr ⟨o₂, (N _ hm).1, hd₂⟩
  refine call_meetsIn PySem.F.slot_dict_update hD.typeIs PySem.F.entry_dict_update (PySem.F.args_dict_update_2 _ _) (meets_dict_update _ d d₂ hne lo)
    ⟨[], [], hD, hD₂, (by decide), fun h' hmm _ hs => ?_⟩
  obtain ⟨o', ho', hd'⟩ := Heap.dictOf_iff.mp hmm
  exact h h' o' (F.change hs z.2.1 z.2.2) (hg o' ▸ news_set N a b hs ho') hd'
end
section
variable {prog : Program} {w : World} {A : Around} {E : Value → Shared → Prop} {s : Shared} {h₀ : Heap} {L : Addr} {m : Str → Option Value} {news : List (Addr × Obj)}
theorem newDict_my {env : Env} {pos : Pos} {Q : Value → Shared → Prop} (F : Fr h₀ L s.heap m) (N : News h₀ L s.heap news) (hbig : h₀.NoLimit)
    (k : ∀ d h' o, Fr h₀ L h' m → News h₀ L h' ((d, o) :: news) → (∀ p ∈ news, p.1 < d) → h₀.objs.size ≤ d → (d == sysModules) = false → o.IsDictOf (strKind prog w) [] → o.IsDictOf (PySem.intKind prog w) [] →
      Q (.ref d) { s with heap := h' }) : wpAny (model prog w) A (eval (.Dict [] [] pos) env) Q E s :=
  Dict_empty_made2 F N (modules_low hbig) fun h' o F' N' lo a b c e _ => k _ h' o F' N' (fun p hp => Heap.lt_size (N p hp).1) (keeps_of F).size lo a c
end
theorem empty_str (prog : Program) (w : World) : (dictOf [] 0).IsDictOf (PySem.strKind prog w) [] := kp_isDict (ex := []) 0 0 List.nodup_nil
theorem empty_int (prog : Program) (w : World) : (dictOf [] 0).IsDictOf (PySem.intKind prog w) [] :=
  ⟨#[], 0, ⟨rfl, rfl, rfl⟩, rfl, fun e he => by simp at he, Pairs.nil, List.nodup_nil⟩
theorem valueAt_none {kvs : List (Int × Value)} {k : Int} (h : k ∉ kvs.map (·.1)) : valueAt kvs k = none := by
  cases e : valueAt kvs k with
  | none => rfl
  | some v => exact absurd (valueAt_isSome.mp (by rw [e]; rfl)) h
theorem stored_new {kvs : List (Int × Value)} {k : Int} {v : Value} (h : k ∉ kvs.map (·.1)) : stored kvs k v = kvs ++ [(k, v)] := by
  unfold stored
  rw [if_neg]
  intro e
  obtain ⟨p, hp, e⟩ := List.any_eq_true.mp e
  exact h (List.mem_map.mpr ⟨p, hp, by simpa using e⟩)
theorem valueAt_stored {kvs : List (Int × Value)} {k k' : Int} {v : Value} (h : k ∉ kvs.map (·.1)) : valueAt (stored kvs k v) k' = if k' = k then some v else valueAt kvs k' := by
  rw [stored_new h]
  unfold valueAt
  rw [List.find?_append]
  by_cases e : k' = k
  · subst e
    have : kvs.find? (fun kv => decide (kv.1 = k')) = none := by
      rw [List.find?_eq_none]
      intro p hp hh
      exact h (List.mem_map.mpr ⟨p, hp, by simpa using hh⟩)
    rw [this, if_pos rfl]
    simp
  · rw [if_neg e]
    have : ([(k, v)] : List (Int × Value)).find? (fun kv => decide (kv.1 = k')) = none := by
      simp [Ne.symm e]
    rw [this, Option.or_none]
theorem va_nil {k : Int} : valueAt ([] : List (Int × Value)) k = none := rfl
theorem va_hit {kvs : List (Int × Value)} {k : Int} {v : Value} : valueAt (stored kvs k v) k = some v := by
  by_cases h : k ∈ kvs.map (·.1)
  · unfold stored
    rw [if_pos (List.any_eq_true.mpr (by obtain ⟨p, hp, e⟩ := List.mem_map.mp h; exact ⟨p, hp, by simpa using e⟩))]
    unfold valueAt
    induction kvs with
    | nil => cases h
    | cons p r ih =>
      by_cases e : p.1 = k
      · simp [e]
      · have : k ∈ r.map (·.1) := (List.mem_cons.mp h).resolve_left fun q => e q.symm
        simpa [e] using ih this
  · rw [valueAt_stored h, if_pos rfl]
theorem va_other {kvs : List (Int × Value)} {k k' : Int} {v v' : Value} (hne : k' ≠ k) (h : valueAt kvs k' = some v') : valueAt (stored kvs k v) k' = some v' := by
  rw [← h]
  by_cases hk : k ∈ kvs.map (·.1)
  · clear h
    unfold stored
    rw [if_pos (List.any_eq_true.mpr (by obtain ⟨p, hp, e⟩ := List.mem_map.mp hk; exact ⟨p, hp, by simpa using e⟩))]
    clear hk
    unfold valueAt
    induction kvs with
    | nil => rfl
    | cons p r ih =>
      by_cases e : p.1 = k
      · simpa [e, Ne.symm hne] using ih
      · by_cases e' : p.1 = k'
        · simp [e, e', hne]
        · simpa [e, e'] using ih
  · rw [valueAt_stored hk, if_neg hne]
theorem va_none_other {kvs : List (Int × Value)} {k k' : Int} {v : Value} (hne : k' ≠ k) (h : valueAt kvs k' = none) : valueAt (stored kvs k v) k' = none := by
  refine valueAt_none fun hm => ?_
  have hn : k' ∉ kvs.map (·.1) := fun e => by rw [← valueAt_isSome, h] at e; cases e
  unfold stored at hm
  split at hm
  · obtain ⟨p, hp, e⟩ := List.mem_map.mp hm
    obtain ⟨q, hq, rfl⟩ := List.mem_map.mp hp
    refine hn (List.mem_map.mpr ⟨q, hq, ?_⟩)
    split at e <;> simp_all
  · rw [List.map_append, List.mem_append] at hm
    rcases hm with hm | hm
    · exact hn hm
    · exact hne (by simpa using hm)
theorem stored_le {kvs : List (Int × Value)} {k : Int} {v : Value} : (stored kvs k v).length ≤ kvs.length + 1 := by
  unfold stored
  split
  · simp
  · simp
theorem sz1 {kvs : List (Int × Value)} (h : kvs.length ≤ 200) : kvs.length ≤ sizeLine := by rw [sizeLine_eq]; omega
theorem sz2 {kvs : List (Int × Value)} {k : Int} {v : Value} (h : kvs.length ≤ 200) : (stored kvs k v).length ≤ sizeLine := by rw [sizeLine_eq]; have := @stored_le kvs k v; omega
theorem sz3 {kvs : List (Int × Value)} {k k' : Int} {v v' : Value} (h : kvs.length ≤ 200) : (stored (stored kvs k v) k' v').length ≤ sizeLine := by rw [sizeLine_eq]; have := @stored_le kvs k v; have := @stored_le (stored kvs k v) k' v'; omega
theorem sz4 {k : Int} {v : Value} : (stored ([] : List (Int × Value)) k v).length ≤ sizeLine := sz2 (Nat.zero_le _)
section
variable {prog : Program} {w : World} {A : Around} {E : Value → Shared → Prop} {s : Shared} {d : Addr} {k : Int} {u : Tok} {kvs : List (Int × Value)}
theorem meth_get {pl : Sem Bool} {Q : Value × List Value → Shared → Prop} (hd : DictHere prog w s.heap d kvs) (h : Q (.builtin "dict.get", [.ref d]) s) : wpAny (model prog w) A (getMethod (.ref d) (Str.ofString "get") pl) Q E s :=
  getMethod_builtin hd.typeIs PySem.F.plainAttrs_dict PySem.F.slot_dict_get PySem.F.type_dict_get hd.mapOf.noDict h
theorem meth_upd {h₀ : Heap} {L : Addr} {news : List (Addr × Obj)} {o : Obj} {kvs : List (Str × Value)} {pl : Sem Bool} {Q : Value × List Value → Shared → Prop} (N : News h₀ L s.heap news) (hm : (d, o) ∈ news) (hd : o.IsDictOf (PySem.strKind prog w) kvs) (h : Q (.builtin "dict.update", [.ref d]) s) : wpAny (model prog w) A (getMethod (.ref d) (Str.ofString "update") pl) Q E s := by
  have hD : s.heap.DictOf (PySem.strKind prog w) d kvs := Heap.dictOf_iff.mpr ⟨o, (N _ hm).1, hd⟩
  exact getMethod_builtin hD.typeIs PySem.F.plainAttrs_dict PySem.F.slot_dict_update PySem.F.type_dict_update hD.mapOf.noDict h
theorem notin_yes {Q : Value → Shared → Prop} (hd : DictHere prog w s.heap d kvs) (lo : (d == sysModules) = false) (hn : valueAt kvs k = none) (h : Q (.bool true) { s with toks := s.toks + 1 }) :
    wpAny (model prog w) A (compareOp .NotIn (.int k u) (.ref d)) Q E s := notin_d hd lo (by rw [hn]; exact h)
theorem notin_no {v : Value} {Q : Value → Shared → Prop} (hd : DictHere prog w s.heap d kvs) (lo : (d == sysModules) = false) (hn : valueAt kvs k = some v) (h : Q (.bool false) { s with toks := s.toks + 1 }) :
    wpAny (model prog w) A (compareOp .NotIn (.int k u) (.ref d)) Q E s := notin_d hd lo (by rw [hn]; exact h)
end

local macro_rules | `(tactic| walk_at "eval Dict nil nil") => `(tactic| (k_here; k_dflt (refine' newDict_my ?k1 ?k2 (TopRead.nolimit (by k_asm)) ?_; (case k1 => k_asm); (case k2 => k_asm); k_whole); intro d' h' o' F' N' l1' hb' lo' hs' hi'; (try k_lt l1'); (try k_sweep)))
theorem fact_inner {w : World} {p : Program} {loose : List Str} {mean : ExcName → Option Value} {mg mb : Str → Option Value} {dp un : Nat} {gd : Option (List Code)} {cn : Str} {cs : Scope} {a : Addr} {ccd : Value} {cl : List (Str × Addr)} {outer : List Env} {A₀ : Around} {base h₀ : Heap} {L : Addr} {m : Str → Option Value} {s : Shared} {Q E : Value → Shared → Prop} {g : Addr} (B : Below A₀ base outer h₀) (F : Fr h₀ L s.heap m) (X : (hd.heap_39 w.params).In h₀) (T : Top p loose mean mg mb h₀) (hk : cs.kind = .function) (S : Sys h₀) (hdp : dp + 1 < recursionLimit) (hun : un + 8 < cLine)
    (ret : ∀ D o h' tk', Keeps s.heap h' → s.heap.objs.size ≤ D → h'.get? D = some o → o.IsDictOf (PySem.strKind PySem.Challenge.rw_fq0029_01.row.prog w) [] → o.IsDictOf (PySem.intKind PySem.Challenge.rw_fq0029_01.row.prog w) [] → Q (.ref D) { s with heap := h', toks := tk' }) :
    wpAny (model PySem.Challenge.rw_fq0029_01.row.prog w) (ktrTop dp un gd cn cs L a ccd cl outer) (call (.ref 306) [.ref g]) Q E s := by
  revert X
  k_fill
  intro X
  refine wpAny_call ?_
  refine' enterW (binds := [(("self" : Str), (.ref g : Value))]) ?k1 ?k2 ?k3 ?k5 ?kA ?kF ?kK ?k6 ?k7 ?k8 ?k9 ?kB ?_ ?c2 ?c3 ?c4 ?c5
  case kA => exact rfl
  case kF => exact rfl
  case kK => assumption
  case k1 => exact B
  case k2 => exact F
  case k3 => exact X
  case k5 => exact T
  case k6 => k_is
  case k7 => k_is
  case k8 => ktr_room
  case k9 => exact BindsTo.of_eq rfl
  case c5 => decide
  case kB => exact locs rfl
  case c2 => exact rfl
  case c3 => exact rfl
  case c4 => exact rfl
  intro L' h' F' N' B' X' T'
  try dsimp only
  k_fold
  have S' : Sys s.heap := S.keep F.keep
  replace F' : Fr s.heap L' h' (lk [(("self" : Str), some (.ref g : Value))]) := (lk_of _ ▸ F' :)
  k_steps
  rename Fr _ _ _ _ => F9
  rename News _ _ _ _ => N9
  exact ret _ _ _ _ (keeps_of F9) (by assumption) (N9 _ (.head _)).1 (by assumption) (by assumption)
theorem fact_attr {w : World} {p : Program} {loose : List Str} {mean : ExcName → Option Value} {mg mb : Str → Option Value} {dp un : Nat} {gd : Option (List Code)} {cn : Str} {cs : Scope} {a : Addr} {ccd : Value} {cl : List (Str × Addr)} {outer : List Env} {A₀ : Around} {base h₀ : Heap} {L : Addr} {m : Str → Option Value} {s : Shared} {Q E : Value → Shared → Prop} {g : Addr} (B : Below A₀ base outer h₀) (F : Fr h₀ L s.heap m) (X : (hd.heap_39 w.params).In h₀) (T : Top p loose mean mg mb h₀) (hk : cs.kind = .function) (S : Sys h₀) (hdp : dp + 1 < recursionLimit) (hun : un + 8 < cLine)
    (ret : ∀ D o h' tk', Keeps s.heap h' → s.heap.objs.size ≤ D → h'.get? D = some o → o.IsDictOf (PySem.strKind PySem.Challenge.rw_fq0029_01.row.prog w) [] → o.IsDictOf (PySem.intKind PySem.Challenge.rw_fq0029_01.row.prog w) [] → Q (.ref D) { s with heap := h', toks := tk' }) :
    wpAny (model PySem.Challenge.rw_fq0029_01.row.prog w) (ktrTop dp un gd cn cs L a ccd cl outer) (call (.ref 292) [.ref g]) Q E s := by
  revert X
  k_fill
  intro X
  refine wpAny_call ?_
  refine' enterW (binds := [(("self" : Str), (.ref g : Value))]) ?k1 ?k2 ?k3 ?k5 ?kA ?kF ?kK ?k6 ?k7 ?k8 ?k9 ?kB ?_ ?c2 ?c3 ?c4 ?c5
  case kA => exact rfl
  case kF => exact rfl
  case kK => assumption
  case k1 => exact B
  case k2 => exact F
  case k3 => exact X
  case k5 => exact T
  case k6 => k_is
  case k7 => k_is
  case k8 => ktr_room
  case k9 => exact BindsTo.of_eq rfl
  case c5 => decide
  case kB => exact locs rfl
  case c2 => exact rfl
  case c3 => exact rfl
  case c4 => exact rfl
  intro L' h' F' N' B' X' T'
  try dsimp only
  k_fold
  have S' : Sys s.heap := S.keep F.keep
  replace F' : Fr s.heap L' h' (lk [(("self" : Str), some (.ref g : Value))]) := (lk_of _ ▸ F' :)
  k_steps
  rename Fr _ _ _ _ => F9
  rename News _ _ _ _ => N9
  exact ret _ _ _ _ (keeps_of F9) (by assumption) (N9 _ (.head _)).1 (by assumption) (by assumption)
theorem fact_edge {w : World} {p : Program} {loose : List Str} {mean : ExcName → Option Value} {mg mb : Str → Option Value} {dp un : Nat} {gd : Option (List Code)} {cn : Str} {cs : Scope} {a : Addr} {ccd : Value} {cl : List (Str × Addr)} {outer : List Env} {A₀ : Around} {base h₀ : Heap} {L : Addr} {m : Str → Option Value} {s : Shared} {Q E : Value → Shared → Prop} {g : Addr} (B : Below A₀ base outer h₀) (F : Fr h₀ L s.heap m) (X : (hd.heap_39 w.params).In h₀) (T : Top p loose mean mg mb h₀) (hk : cs.kind = .function) (S : Sys h₀) (hdp : dp + 1 < recursionLimit) (hun : un + 8 < cLine)
    (ret : ∀ D o h' tk', Keeps s.heap h' → s.heap.objs.size ≤ D → h'.get? D = some o → o.IsDictOf (PySem.strKind PySem.Challenge.rw_fq0029_01.row.prog w) [] → o.IsDictOf (PySem.intKind PySem.Challenge.rw_fq0029_01.row.prog w) [] → Q (.ref D) { s with heap := h', toks := tk' }) :
    wpAny (model PySem.Challenge.rw_fq0029_01.row.prog w) (ktrTop dp un gd cn cs L a ccd cl outer) (call (.ref 313) [.ref g]) Q E s := by
  revert X
  k_fill
  intro X
  refine wpAny_call ?_
  refine' enterW (binds := [(("self" : Str), (.ref g : Value))]) ?k1 ?k2 ?k3 ?k5 ?kA ?kF ?kK ?k6 ?k7 ?k8 ?k9 ?kB ?_ ?c2 ?c3 ?c4 ?c5
  case kA => exact rfl
  case kF => exact rfl
  case kK => assumption
  case k1 => exact B
  case k2 => exact F
  case k3 => exact X
  case k5 => exact T
  case k6 => k_is
  case k7 => k_is
  case k8 => ktr_room
  case k9 => exact BindsTo.of_eq rfl
  case c5 => decide
  case kB => exact locs rfl
  case c2 => exact rfl
  case c3 => exact rfl
  case c4 => exact rfl
  intro L' h' F' N' B' X' T'
  try dsimp only
  k_fold
  have S' : Sys s.heap := S.keep F.keep
  replace F' : Fr s.heap L' h' (lk [(("self" : Str), some (.ref g : Value))]) := (lk_of _ ▸ F' :)
  k_steps
  rename Fr _ _ _ _ => F9
  rename News _ _ _ _ => N9
  exact ret _ _ _ _ (keeps_of F9) (by assumption) (N9 _ (.head _)).1 (by assumption) (by assumption)
theorem fact_outer {w : World} {p : Program} {loose : List Str} {mean : ExcName → Option Value} {mg mb : Str → Option Value} {dp un : Nat} {gd : Option (List Code)} {cn : Str} {cs : Scope} {a : Addr} {ccd : Value} {cl : List (Str × Addr)} {outer : List Env} {A₀ : Around} {base h₀ : Heap} {L : Addr} {m : Str → Option Value} {s : Shared} {Q E : Value → Shared → Prop} {g : Addr} (B : Below A₀ base outer h₀) (F : Fr h₀ L s.heap m) (X : (hd.heap_39 w.params).In h₀) (T : Top p loose mean mg mb h₀) (hk : cs.kind = .function) (S : Sys h₀) (hdp : dp + 1 < recursionLimit) (hun : un + 8 < cLine)
    (ret : ∀ D o h' tk', Keeps s.heap h' → s.heap.objs.size ≤ D → h'.get? D = some o → o.IsDictOf (PySem.strKind PySem.Challenge.rw_fq0029_01.row.prog w) [] → o.IsDictOf (PySem.intKind PySem.Challenge.rw_fq0029_01.row.prog w) [] → Q (.ref D) { s with heap := h', toks := tk' }) :
    wpAny (model PySem.Challenge.rw_fq0029_01.row.prog w) (ktrTop dp un gd cn cs L a ccd cl outer) (call (.ref 299) [.ref g]) Q E s := by
  revert X
  k_fill
  intro X
  refine wpAny_call ?_
  refine' enterW (binds := [(("self" : Str), (.ref g : Value))]) ?k1 ?k2 ?k3 ?k5 ?kA ?kF ?kK ?k6 ?k7 ?k8 ?k9 ?kB ?_ ?c2 ?c3 ?c4 ?c5
  case kA => exact rfl
  case kF => exact rfl
  case kK => assumption
  case k1 => exact B
  case k2 => exact F
  case k3 => exact X
  case k5 => exact T
  case k6 => k_is
  case k7 => k_is
  case k8 => ktr_room
  case k9 => exact BindsTo.of_eq rfl
  case c5 => decide
  case kB => exact locs rfl
  case c2 => exact rfl
  case c3 => exact rfl
  case c4 => exact rfl
  intro L' h' F' N' B' X' T'
  try dsimp only
  k_fold
  have S' : Sys s.heap := S.keep F.keep
  replace F' : Fr s.heap L' h' (lk [(("self" : Str), some (.ref g : Value))]) := (lk_of _ ▸ F' :)
  k_steps
  rename Fr _ _ _ _ => F9
  rename News _ _ _ _ => N9
  exact ret _ _ _ _ (keeps_of F9) (by assumption) (N9 _ (.head _)).1 (by assumption) (by assumption)
theorem fact_node {w : World} {p : Program} {loose : List Str} {mean : ExcName → Option Value} {mg mb : Str → Option Value} {dp un : Nat} {gd : Option (List Code)} {cn : Str} {cs : Scope} {a : Addr} {ccd : Value} {cl : List (Str × Addr)} {outer : List Env} {A₀ : Around} {base h₀ : Heap} {L : Addr} {m : Str → Option Value} {s : Shared} {Q E : Value → Shared → Prop} {g : Addr} (B : Below A₀ base outer h₀) (F : Fr h₀ L s.heap m) (X : (hd.heap_39 w.params).In h₀) (T : Top p loose mean mg mb h₀) (hk : cs.kind = .function) (S : Sys h₀) (hdp : dp + 1 < recursionLimit) (hun : un + 8 < cLine)
    (ret : ∀ D o h' tk', Keeps s.heap h' → s.heap.objs.size ≤ D → h'.get? D = some o → o.IsDictOf (PySem.strKind PySem.Challenge.rw_fq0029_01.row.prog w) [] → o.IsDictOf (PySem.intKind PySem.Challenge.rw_fq0029_01.row.prog w) [] → Q (.ref D) { s with heap := h', toks := tk' }) :
    wpAny (model PySem.Challenge.rw_fq0029_01.row.prog w) (ktrTop dp un gd cn cs L a ccd cl outer) (call (.ref 285) [.ref g]) Q E s := by
  revert X
  k_fill
  intro X
  refine wpAny_call ?_
  refine' enterW (binds := [(("self" : Str), (.ref g : Value))]) ?k1 ?k2 ?k3 ?k5 ?kA ?kF ?kK ?k6 ?k7 ?k8 ?k9 ?kB ?_ ?c2 ?c3 ?c4 ?c5
  case kA => exact rfl
  case kF => exact rfl
  case kK => assumption
  case k1 => exact B
  case k2 => exact F
  case k3 => exact X
  case k5 => exact T
  case k6 => k_is
  case k7 => k_is
  case k8 => ktr_room
  case k9 => exact BindsTo.of_eq rfl
  case c5 => decide
  case kB => exact locs rfl
  case c2 => exact rfl
  case c3 => exact rfl
  case c4 => exact rfl
  intro L' h' F' N' B' X' T'
  try dsimp only
  k_fold
  have S' : Sys s.heap := S.keep F.keep
  replace F' : Fr s.heap L' h' (lk [(("self" : Str), some (.ref g : Value))]) := (lk_of _ ▸ F' :)
  k_steps
  rename Fr _ _ _ _ => F9
  rename News _ _ _ _ => N9
  exact ret _ _ _ _ (keeps_of F9) (by assumption) (N9 _ (.head _)).1 (by assumption) (by assumption)
theorem fact_graph {w : World} {p : Program} {loose : List Str} {mean : ExcName → Option Value} {mg mb : Str → Option Value} {dp un : Nat} {gd : Option (List Code)} {cn : Str} {cs : Scope} {a : Addr} {ccd : Value} {cl : List (Str × Addr)} {outer : List Env} {A₀ : Around} {base h₀ : Heap} {L : Addr} {m : Str → Option Value} {s : Shared} {Q E : Value → Shared → Prop} {g : Addr} (B : Below A₀ base outer h₀) (F : Fr h₀ L s.heap m) (X : (hd.heap_39 w.params).In h₀) (T : Top p loose mean mg mb h₀) (hk : cs.kind = .function) (S : Sys h₀) (hdp : dp + 1 < recursionLimit) (hun : un + 8 < cLine)
    (ret : ∀ D o h' tk', Keeps s.heap h' → s.heap.objs.size ≤ D → h'.get? D = some o → o.IsDictOf (PySem.strKind PySem.Challenge.rw_fq0029_01.row.prog w) [] → o.IsDictOf (PySem.intKind PySem.Challenge.rw_fq0029_01.row.prog w) [] → Q (.ref D) { s with heap := h', toks := tk' }) :
    wpAny (model PySem.Challenge.rw_fq0029_01.row.prog w) (ktrTop dp un gd cn cs L a ccd cl outer) (call (.ref 320) [.ref g]) Q E s := by
  revert X
  k_fill
  intro X
  refine wpAny_call ?_
  refine' enterW (binds := [(("self" : Str), (.ref g : Value))]) ?k1 ?k2 ?k3 ?k5 ?kA ?kF ?kK ?k6 ?k7 ?k8 ?k9 ?kB ?_ ?c2 ?c3 ?c4 ?c5
  case kA => exact rfl
  case kF => exact rfl
  case kK => assumption
  case k1 => exact B
  case k2 => exact F
  case k3 => exact X
  case k5 => exact T
  case k6 => k_is
  case k7 => k_is
  case k8 => ktr_room
  case k9 => exact BindsTo.of_eq rfl
  case c5 => decide
  case kB => exact locs rfl
  case c2 => exact rfl
  case c3 => exact rfl
  case c4 => exact rfl
  intro L' h' F' N' B' X' T'
  try dsimp only
  k_fold
  have S' : Sys s.heap := S.keep F.keep
  replace F' : Fr s.heap L' h' (lk [(("self" : Str), some (.ref g : Value))]) := (lk_of _ ▸ F' :)
  k_steps
  rename Fr _ _ _ _ => F9
  rename News _ _ _ _ => N9
  exact ret _ _ _ _ (keeps_of F9) (by assumption) (N9 _ (.head _)).1 (by assumption) (by assumption)
end
local macro_rules | `(tactic| walk_at "eval Dict nil nil") => `(tactic| (k_here; k_dflt (refine' newDict_my ?k1 ?k2 (TopRead.nolimit (by k_asm)) ?_; (case k1 => k_asm); (case k2 => k_asm); k_whole); intro d' h' o' F' N' l1' hb' lo' hs' hi'; (try k_lt l1'); (try k_sweep)))
local macro_rules | `(tactic| walk_at "call ref") => `(tactic| (k_here; (k_dflt (show wpAny _ _ (call (Value.ref _) [Value.ref _]) _ _ _)); (first
  | ((with_reducible show wpAny _ _ (call (Value.ref 306) [Value.ref _]) _ _ _); k_dflt (refine' fact_inner ?B ?F ?X ?T ?hk ?S ?hdp ?hun ?_; (case B => k_asm); (case F => k_asm); (case X => k_asm); (case T => k_asm); (case hk => rfl); (case S => assumption); (case hdp => walk_at "ROOM"); (case hun => walk_at "UNITS")))
  | ((with_reducible show wpAny _ _ (call (Value.ref 292) [Value.ref _]) _ _ _); k_dflt (refine' fact_attr ?B ?F ?X ?T ?hk ?S ?hdp ?hun ?_; (case B => k_asm); (case F => k_asm); (case X => k_asm); (case T => k_asm); (case hk => rfl); (case S => assumption); (case hdp => walk_at "ROOM"); (case hun => walk_at "UNITS")))
  | ((with_reducible show wpAny _ _ (call (Value.ref 313) [Value.ref _]) _ _ _); k_dflt (refine' fact_edge ?B ?F ?X ?T ?hk ?S ?hdp ?hun ?_; (case B => k_asm); (case F => k_asm); (case X => k_asm); (case T => k_asm); (case hk => rfl); (case S => assumption); (case hdp => walk_at "ROOM"); (case hun => walk_at "UNITS")))
  | ((with_reducible show wpAny _ _ (call (Value.ref 299) [Value.ref _]) _ _ _); k_dflt (refine' fact_outer ?B ?F ?X ?T ?hk ?S ?hdp ?hun ?_; (case B => k_asm); (case F => k_asm); (case X => k_asm); (case T => k_asm); (case hk => rfl); (case S => assumption); (case hdp => walk_at "ROOM"); (case hun => walk_at "UNITS")))
  | ((with_reducible show wpAny _ _ (call (Value.ref 285) [Value.ref _]) _ _ _); k_dflt (refine' fact_node ?B ?F ?X ?T ?hk ?S ?hdp ?hun ?_; (case B => k_asm); (case F => k_asm); (case X => k_asm); (case T => k_asm); (case hk => rfl); (case S => assumption); (case hdp => walk_at "ROOM"); (case hun => walk_at "UNITS")))
  | ((with_reducible show wpAny _ _ (call (Value.ref 320) [Value.ref _]) _ _ _); k_dflt (refine' fact_graph ?B ?F ?X ?T ?hk ?S ?hdp ?hun ?_; (case B => k_asm); (case F => k_asm); (case X => k_asm); (case T => k_asm); (case hk => rfl); (case S => assumption); (case hdp => walk_at "ROOM"); (case hun => walk_at "UNITS")))); intro D' o' h' tk' hk' hD' ho' hs' hi'; (have N' := news_add (by k_asm) (news_onto (by k_asm) hk') hD' ho'); (have lo' := lo_fr (by k_asm) (by assumption) hD'); (have l1' := news_lt (by k_asm) hD'); (have F' := fr_onto (by k_asm) hk'); (try clear hk' ho' hD'); (try k_lt l1'); (try dsimp only); (try k_sweep)))
local macro_rules | `(tactic| walk_at "VNONE") => `(tactic| first | assumption | exact va_nil | exact va_none_other (by assumption) (by walk_at "VNONE"))
local macro_rules | `(tactic| walk_at "VSOME") => `(tactic| first | assumption | exact va_hit | exact va_other (by assumption) (by walk_at "VSOME"))
local macro_rules | `(tactic| walk_at "call builtin:dict.get") => `(tactic| (k_here; (with_reducible show wpAny _ _ (call (Value.builtin "dict.get") [Value.ref _, Value.int _ _, _]) _ _ _); k_dflt (refine' get_none ?a ?b ?c ?_; (case a => walk_at "HERE"); (case b => walk_at "LO"); (case c => walk_at "VNONE"))))
local macro_rules | `(tactic| walk_at "call builtin:dict.update") => `(tactic| (k_here; (with_reducible show wpAny _ _ (call (Value.builtin "dict.update") [Value.ref _, Value.ref _]) _ _ _); k_dflt (refine' upd_e ?F ?N ?U ?hd ?hm ?hd2 ?hne ?lo ?_; (case F => k_asm); (case N => k_asm); (case U => k_updF); (case hd => assumption); (case hm => k_mem); (case hd2 => assumption); (case hne => k_ne); (case lo => walk_at "LO")); intro h' o' F' N' hs'; (try dsimp only at N'); (try k_sweep)))
local macro_rules | `(tactic| walk_at "compareOp NotIn int ref") => `(tactic| (k_here; k_dflt (first
  | (refine' notin_yes ?a ?b ?c ?_; (case a => walk_at "HERE"); (case b => walk_at "LO"); (case c => walk_at "VNONE"))
  | (refine' notin_no ?a ?b ?c ?_; (case a => walk_at "HERE"); (case b => walk_at "LO"); (case c => walk_at "VSOME")))))
local macro_rules | `(tactic| walk_at "LEN") => `(tactic| first | assumption | size_fits | exact sz1 (by assumption) | exact sz2 (by assumption) | exact sz3 (by assumption) | exact sz4)
local macro_rules | `(tactic| walk_at "getMethod ref") => `(tactic| (k_here; first
  | ((with_reducible refine' meth_get ?a ?_); (case a => walk_at "HERE"))
  | ((with_reducible refine' meth_upd ?a ?b ?c ?_); (case a => k_asm); (case b => k_mem); (case c => assumption))))
section
variable {s : Shared} {g' h' : Heap} {L' : Addr} {m : Str → Option Value} {H : List (Addr × Obj)} {l : List Addr}
theorem kb_of (kb : ∀ b x, b ∉ H.map (·.1) → s.heap.get? b = some x → g'.get? b = some x) (kz : s.heap.objs.size ≤ g'.objs.size) (F : Fr g' L' h' m) : KeepsBut (H.map (·.1)) s.heap h' :=
  ⟨fun b o hb e => F.keep b o (kb b o hb e), Nat.le_trans kz (keeps_of F).size⟩
theorem fresh_of (kb : ∀ b x, b ∉ H.map (·.1) → s.heap.get? b = some x → g'.get? b = some x) {r : Addr} (hr : r ∉ H.map (·.1)) (hn : g'.get? r = none) : s.heap.get? r = none := by
  cases e : s.heap.get? r with
  | none => rfl
  | some o => rw [kb r o hr e] at hn; cases hn
theorem dict_kb {prog : Program} {w : World} (kb : ∀ b x, b ∉ H.map (·.1) → s.heap.get? b = some x → g'.get? b = some x) {d : Addr} {kvs : List (Int × Value)} (hd : d ∉ H.map (·.1)) (h : s.heap.DictOf (PySem.intKind prog w) d kvs) : g'.DictOf (PySem.intKind prog w) d kvs := by
  obtain ⟨o, ho, h⟩ := Heap.dictOf_iff.mp h
  exact Heap.dictOf_iff.mpr ⟨o, kb _ _ hd ho, h⟩
theorem here_at {prog : Program} {w : World} {news : List (Addr × Obj)} {d : Addr} {o : Obj} {kvs : List (Int × Value)} (N : News g' L' h' news) (hm : (d, o) ∈ news) (hd : o.IsDictOf (PySem.intKind prog w) kvs) : h'.DictOf (PySem.intKind prog w) d kvs := Heap.dictOf_iff.mpr ⟨o, (N _ hm).1, hd⟩
theorem nm_nil {x : Addr} : x ∉ ([] : List Addr) := fun h => nomatch h
theorem nm_cons {x a : Addr} {l : List Addr} (h : x ≠ a) (k : x ∉ l) : x ∉ a :: l := fun hm => (List.mem_cons.mp hm).elim h k
theorem nd_cons {a : Addr} {l : List Addr} (h : a ∉ l) (k : l.Nodup) : (a :: l).Nodup := List.nodup_cons.mpr ⟨h, k⟩
def AllNe (a : Nat) : List Nat → Prop
  | [] => True
  | b :: r => a ≠ b ∧ AllNe a r
def DistN : List Nat → Prop
  | [] => True
  | a :: r => AllNe a r ∧ DistN r
theorem allNe_of {a : Nat} : ∀ {l : List Nat}, a ∉ l → AllNe a l
  | [], _ => trivial
  | b :: r, h => ⟨fun e => h (e ▸ .head _), allNe_of fun hm => h (.tail _ hm)⟩
theorem distN : ∀ {l : List Addr}, l.Nodup → DistN l
  | [], _ => trivial
  | a :: r, h => ⟨allNe_of (List.nodup_cons.mp h).1, distN (List.nodup_cons.mp h).2⟩
end

theorem edge_oo {w : World} {p : Program} {loose : List Str} {mean : ExcName → Option Value} {mg mb : Str → Option Value} {dp un : Nat} {gd : Option (List Code)} {cn : Str} {cs : Scope} {a : Addr} {ccd : Value} {cl : List (Str × Addr)} {outer : List Env} {A₀ : Around} {base h₀ : Heap} {L : Addr} {m : Str → Option Value} {s : Shared} {Q E : Value → Shared → Prop} {g nd ad pd ru rv : Addr} {u v : Int} {tu tv : Tok} {nkv kva kvp ivs iws : List (Int × Value)} {on oa op ou ov : Obj}
    (B : Below A₀ base outer h₀) (F : Fr h₀ L s.heap m) (X : (hd.heap_39 w.params).In h₀) (T : Top p loose mean mg mb h₀) (hk : cs.kind = .function) (S : Sys h₀) (N₀ : News h₀ L s.heap [(ru, ou), (rv, ov)]) (hO : DiObj s.heap g nd ad pd) (hg : ∀ b ∈ [ru, rv], g ≠ b) (hdx : ∀ dx, s.heap.get? g = some (instObj 831 dx) → ∀ b ∈ [ru, rv], dx ≠ b)
    (had : s.heap.DictOf (PySem.intKind PySem.Challenge.rw_fq0029_01.row.prog w) ad kva) (hpd : s.heap.DictOf (PySem.intKind PySem.Challenge.rw_fq0029_01.row.prog w) pd kvp) (nad : ∀ b ∈ [ru, rv], ad ≠ b) (npd : ∀ b ∈ [ru, rv], pd ≠ b)
    (la : (ad == sysModules) = false) (lp : (pd == sysModules) = false)
    (hdist : [ru, rv].Nodup) (hlo : ∀ b ∈ [ru, rv], (b == sysModules) = false)
    (hou : ou.IsDictOf (PySem.intKind PySem.Challenge.rw_fq0029_01.row.prog w) ivs) (hu : valueAt kva u = some (.ref ru)) (hup : ∃ x, valueAt kvp u = some x) (szi : ivs.length ≤ 200) (nu : valueAt ivs v = none)
    (hov : ov.IsDictOf (PySem.intKind PySem.Challenge.rw_fq0029_01.row.prog w) iws) (hv : ∃ x, valueAt kva v = some x) (hvp : valueAt kvp v = some (.ref rv)) (szw : iws.length ≤ 200) (nv : valueAt iws u = none)
    (hdp : dp + 2 < recursionLimit) (hun : un + 16 < cLine)
    (ret : ∀ h' tk' x, KeepsBut [ru, rv] s.heap h' → h'.DictOf (PySem.intKind PySem.Challenge.rw_fq0029_01.row.prog w) ru (stored ivs v x) → h'.DictOf (PySem.intKind PySem.Challenge.rw_fq0029_01.row.prog w) rv (stored iws u x) → Q .none { s with heap := h', toks := tk' }) :
    wpAny (model PySem.Challenge.rw_fq0029_01.row.prog w) (ktrTop dp un gd cn cs L a ccd cl outer) (call (.ref 704) [.ref g, .int u tu, .int v tv]) Q E s := by
  obtain ⟨dx, k1, k2, k3, k4, k5, t1, t2, t3, t4, t5, v1, e1, e2⟩ := hO
  replace hdx := hdx dx e1
  have nmg : g ∉ [ru, rv] := fun h => hg _ h rfl
  have nmx : dx ∉ [ru, rv] := fun h => hdx _ h rfl
  obtain ⟨xu, hup⟩ := hup
  obtain ⟨xv, hv⟩ := hv
  have hdi := distN hdist
  have lq0 := hlo _ (.head _)
  have lq1 := hlo _ (.tail _ (.head _))
  clear hlo
  revert X
  k_fill
  intro X
  refine wpAny_call ?_
  refine' enterM (nm := "attr") (front := [(("self" : Str), (.ref g : Value)), (("u_of_edge" : Str), (.int u tu : Value)), (("v_of_edge" : Str), (.int v tv : Value))]) [(ru, ou), (rv, ov)] ?k1 ?k2 ?k2n ?k3 ?k5 ?kA ?kF ?kK ?k6 ?k7 ?k8 ?kP ?kT ?kB ?_ ?c2 ?c3 ?c4 ?c5
  case kA => exact rfl
  case kF => exact rfl
  case kK => assumption
  case k1 => exact B
  case k2 => exact F
  case k2n => exact N₀
  case k3 => exact X
  case k5 => exact T
  case k6 => k_is
  case k7 => k_is
  case k8 => ktr_room
  case kP => exact rfl
  case kT => exact fun _ => rfl
  case c5 => decide
  case kB => exact fun _ => locs rfl
  case c2 => exact rfl
  case c3 => exact rfl
  case c4 => exact rfl
  intro D' od' g' L' h' tk' lD' hD' loD' hod' F' N' kb' kz' B' X' T' st'
  try dsimp only
  k_fold
  have S' : Sys g' := S.keep st'
  replace F' : Fr g' L' h' (lk [(("attr" : Str), some (Value.ref D')), (("v_of_edge" : Str), some (.int v tv : Value)), (("u_of_edge" : Str), some (.int u tu : Value)), (("self" : Str), some (.ref g : Value))]) := (lk_of _ ▸ F' :)
  try k_lt lD'
  simp only [DistN, AllNe, and_true, true_and] at hdi
  replace e1 := kb' _ _ nmg e1
  replace e2 := kb' _ _ nmx e2
  replace had := dict_kb kb' (fun h => nad _ h rfl) had
  replace hpd := dict_kb kb' (fun h => npd _ h rfl) hpd
  k_steps
  rename Fr _ _ _ _ => F9
  rename News _ _ _ _ => N9
  exact ret _ _ _ (kb_of kb' kz' F9) (here_at N9 (.tail _ (.tail _ (.tail _ (.head _)))) (by assumption)) (here_at N9 (.tail _ (.tail _ (.tail _ (.tail _ (.head _))))) (by assumption))
local macro_rules | `(tactic| walk_at "NM") => `(tactic| first | exact nm_nil | (refine nm_cons ?_ ?_; k_ne; walk_at "NM"))
local macro_rules | `(tactic| walk_at "NODUP") => `(tactic| first | exact List.nodup_nil | (refine nd_cons ?_ ?_; walk_at "NM"; walk_at "NODUP"))
theorem edge_on {w : World} {p : Program} {loose : List Str} {mean : ExcName → Option Value} {mg mb : Str → Option Value} {dp un : Nat} {gd : Option (List Code)} {cn : Str} {cs : Scope} {a : Addr} {ccd : Value} {cl : List (Str × Addr)} {outer : List Env} {A₀ : Around} {base h₀ : Heap} {L : Addr} {m : Str → Option Value} {s : Shared} {Q E : Value → Shared → Prop} {g nd ad pd ru rv : Addr} {u v : Int} {tu tv : Tok} {nkv kva kvp ivs iws : List (Int × Value)} {on oa op ou ov : Obj}
    (B : Below A₀ base outer h₀) (F : Fr h₀ L s.heap m) (X : (hd.heap_39 w.params).In h₀) (T : Top p loose mean mg mb h₀) (hk : cs.kind = .function) (S : Sys h₀) (N₀ : News h₀ L s.heap [(nd, on), (ad, oa), (pd, op), (ru, ou)]) (hO : DiObj s.heap g nd ad pd) (hg : ∀ b ∈ [nd, ad, pd, ru], g ≠ b) (hdx : ∀ dx, s.heap.get? g = some (instObj 831 dx) → ∀ b ∈ [nd, ad, pd, ru], dx ≠ b)
    (hnd : on.IsDictOf (PySem.intKind PySem.Challenge.rw_fq0029_01.row.prog w) nkv) (had : oa.IsDictOf (PySem.intKind PySem.Challenge.rw_fq0029_01.row.prog w) kva) (hpd : op.IsDictOf (PySem.intKind PySem.Challenge.rw_fq0029_01.row.prog w) kvp) (szn : nkv.length ≤ 200) (sza : kva.length ≤ 200) (szp : kvp.length ≤ 200)
    (hdist : [nd, ad, pd, ru].Nodup) (hlo : ∀ b ∈ [nd, ad, pd, ru], (b == sysModules) = false)
    (hou : ou.IsDictOf (PySem.intKind PySem.Challenge.rw_fq0029_01.row.prog w) ivs) (hu : valueAt kva u = some (.ref ru)) (hup : ∃ x, valueAt kvp u = some x) (szi : ivs.length ≤ 200) (nu : valueAt ivs v = none)
    (hv : valueAt kva v = none) (hvp : valueAt kvp v = none)
    (hne : u ≠ v)
    (hdp : dp + 2 < recursionLimit) (hun : un + 16 < cLine)
    (ret : ∀ h' tk' x r3 r4 y2, KeepsBut [nd, ad, pd, ru] s.heap h' → h'.DictOf (PySem.intKind PySem.Challenge.rw_fq0029_01.row.prog w) nd (stored nkv v y2) → h'.DictOf (PySem.intKind PySem.Challenge.rw_fq0029_01.row.prog w) ad (stored kva v (.ref r3)) → h'.DictOf (PySem.intKind PySem.Challenge.rw_fq0029_01.row.prog w) pd (stored kvp v (.ref r4)) → h'.DictOf (PySem.intKind PySem.Challenge.rw_fq0029_01.row.prog w) ru (stored ivs v x) → h'.DictOf (PySem.intKind PySem.Challenge.rw_fq0029_01.row.prog w) r4 (stored [] u x) → h'.DictOf (PySem.intKind PySem.Challenge.rw_fq0029_01.row.prog w) r3 [] → s.heap.get? r3 = none → s.heap.get? r4 = none → (r3 == sysModules) = false → (r4 == sysModules) = false → [r3, r4].Nodup → Q .none { s with heap := h', toks := tk' }) :
    wpAny (model PySem.Challenge.rw_fq0029_01.row.prog w) (ktrTop dp un gd cn cs L a ccd cl outer) (call (.ref 704) [.ref g, .int u tu, .int v tv]) Q E s := by
  obtain ⟨dx, k1, k2, k3, k4, k5, t1, t2, t3, t4, t5, v1, e1, e2⟩ := hO
  replace hdx := hdx dx e1
  have nmg : g ∉ [nd, ad, pd, ru] := fun h => hg _ h rfl
  have nmx : dx ∉ [nd, ad, pd, ru] := fun h => hdx _ h rfl
  have hne2 : v ≠ u := fun e => hne e.symm
  obtain ⟨xu, hup⟩ := hup
  have hdi := distN hdist
  have lq0 := hlo _ (.head _)
  have lq1 := hlo _ (.tail _ (.head _))
  have lq2 := hlo _ (.tail _ (.tail _ (.head _)))
  have lq3 := hlo _ (.tail _ (.tail _ (.tail _ (.head _))))
  clear hlo
  revert X
  k_fill
  intro X
  refine wpAny_call ?_
  refine' enterM (nm := "attr") (front := [(("self" : Str), (.ref g : Value)), (("u_of_edge" : Str), (.int u tu : Value)), (("v_of_edge" : Str), (.int v tv : Value))]) [(nd, on), (ad, oa), (pd, op), (ru, ou)] ?k1 ?k2 ?k2n ?k3 ?k5 ?kA ?kF ?kK ?k6 ?k7 ?k8 ?kP ?kT ?kB ?_ ?c2 ?c3 ?c4 ?c5
  case kA => exact rfl
  case kF => exact rfl
  case kK => assumption
  case k1 => exact B
  case k2 => exact F
  case k2n => exact N₀
  case k3 => exact X
  case k5 => exact T
  case k6 => k_is
  case k7 => k_is
  case k8 => ktr_room
  case kP => exact rfl
  case kT => exact fun _ => rfl
  case c5 => decide
  case kB => exact fun _ => locs rfl
  case c2 => exact rfl
  case c3 => exact rfl
  case c4 => exact rfl
  intro D' od' g' L' h' tk' lD' hD' loD' hod' F' N' kb' kz' B' X' T' st'
  try dsimp only
  k_fold
  have S' : Sys g' := S.keep st'
  replace F' : Fr g' L' h' (lk [(("attr" : Str), some (Value.ref D')), (("v_of_edge" : Str), some (.int v tv : Value)), (("u_of_edge" : Str), some (.int u tu : Value)), (("self" : Str), some (.ref g : Value))]) := (lk_of _ ▸ F' :)
  try k_lt lD'
  simp only [DistN, AllNe, and_true, true_and] at hdi
  replace e1 := kb' _ _ nmg e1
  replace e2 := kb' _ _ nmx e2
  k_steps
  rename Fr _ _ _ _ => F9
  rename News _ _ _ _ => N9
  exact ret _ _ _ _ _ _ (kb_of kb' kz' F9) (here_at N9 (.tail _ (.tail _ (.tail _ (.tail _ (.tail _ (.tail _ (.head _))))))) (by assumption)) (here_at N9 (.tail _ (.tail _ (.tail _ (.tail _ (.tail _ (.tail _ (.tail _ (.head _)))))))) (by assumption)) (here_at N9 (.tail _ (.tail _ (.tail _ (.tail _ (.tail _ (.tail _ (.tail _ (.tail _ (.head _))))))))) (by assumption)) (here_at N9 (.tail _ (.tail _ (.tail _ (.tail _ (.tail _ (.tail _ (.tail _ (.tail _ (.tail _ (.head _)))))))))) (by assumption)) (here_at N9 (.tail _ (.tail _ (.head _))) (by assumption)) (here_at N9 (.tail _ (.tail _ (.tail _ (.head _)))) (by assumption)) (fresh_of kb' (by walk_at "NM") (N9 _ (.tail _ (.tail _ (.tail _ (.head _))))).2.2) (fresh_of kb' (by walk_at "NM") (N9 _ (.tail _ (.tail _ (.head _)))).2.2) (by assumption) (by assumption) (by walk_at "NODUP")
theorem edge_no {w : World} {p : Program} {loose : List Str} {mean : ExcName → Option Value} {mg mb : Str → Option Value} {dp un : Nat} {gd : Option (List Code)} {cn : Str} {cs : Scope} {a : Addr} {ccd : Value} {cl : List (Str × Addr)} {outer : List Env} {A₀ : Around} {base h₀ : Heap} {L : Addr} {m : Str → Option Value} {s : Shared} {Q E : Value → Shared → Prop} {g nd ad pd ru rv : Addr} {u v : Int} {tu tv : Tok} {nkv kva kvp ivs iws : List (Int × Value)} {on oa op ou ov : Obj}
    (B : Below A₀ base outer h₀) (F : Fr h₀ L s.heap m) (X : (hd.heap_39 w.params).In h₀) (T : Top p loose mean mg mb h₀) (hk : cs.kind = .function) (S : Sys h₀) (N₀ : News h₀ L s.heap [(nd, on), (ad, oa), (pd, op), (rv, ov)]) (hO : DiObj s.heap g nd ad pd) (hg : ∀ b ∈ [nd, ad, pd, rv], g ≠ b) (hdx : ∀ dx, s.heap.get? g = some (instObj 831 dx) → ∀ b ∈ [nd, ad, pd, rv], dx ≠ b)
    (hnd : on.IsDictOf (PySem.intKind PySem.Challenge.rw_fq0029_01.row.prog w) nkv) (had : oa.IsDictOf (PySem.intKind PySem.Challenge.rw_fq0029_01.row.prog w) kva) (hpd : op.IsDictOf (PySem.intKind PySem.Challenge.rw_fq0029_01.row.prog w) kvp) (szn : nkv.length ≤ 200) (sza : kva.length ≤ 200) (szp : kvp.length ≤ 200)
    (hdist : [nd, ad, pd, rv].Nodup) (hlo : ∀ b ∈ [nd, ad, pd, rv], (b == sysModules) = false)
    (hu : valueAt kva u = none) (hup : valueAt kvp u = none)
    (hov : ov.IsDictOf (PySem.intKind PySem.Challenge.rw_fq0029_01.row.prog w) iws) (hv : ∃ x, valueAt kva v = some x) (hvp : valueAt kvp v = some (.ref rv)) (szw : iws.length ≤ 200) (nv : valueAt iws u = none)
    (hne : u ≠ v)
    (hdp : dp + 2 < recursionLimit) (hun : un + 16 < cLine)
    (ret : ∀ h' tk' x r1 r2 y1, KeepsBut [nd, ad, pd, rv] s.heap h' → h'.DictOf (PySem.intKind PySem.Challenge.rw_fq0029_01.row.prog w) nd (stored nkv u y1) → h'.DictOf (PySem.intKind PySem.Challenge.rw_fq0029_01.row.prog w) ad (stored kva u (.ref r1)) → h'.DictOf (PySem.intKind PySem.Challenge.rw_fq0029_01.row.prog w) pd (stored kvp u (.ref r2)) → h'.DictOf (PySem.intKind PySem.Challenge.rw_fq0029_01.row.prog w) r1 (stored [] v x) → h'.DictOf (PySem.intKind PySem.Challenge.rw_fq0029_01.row.prog w) rv (stored iws u x) → h'.DictOf (PySem.intKind PySem.Challenge.rw_fq0029_01.row.prog w) r2 [] → s.heap.get? r1 = none → s.heap.get? r2 = none → (r1 == sysModules) = false → (r2 == sysModules) = false → [r1, r2].Nodup → Q .none { s with heap := h', toks := tk' }) :
    wpAny (model PySem.Challenge.rw_fq0029_01.row.prog w) (ktrTop dp un gd cn cs L a ccd cl outer) (call (.ref 704) [.ref g, .int u tu, .int v tv]) Q E s := by
  obtain ⟨dx, k1, k2, k3, k4, k5, t1, t2, t3, t4, t5, v1, e1, e2⟩ := hO
  replace hdx := hdx dx e1
  have nmg : g ∉ [nd, ad, pd, rv] := fun h => hg _ h rfl
  have nmx : dx ∉ [nd, ad, pd, rv] := fun h => hdx _ h rfl
  have hne2 : v ≠ u := fun e => hne e.symm
  obtain ⟨xv, hv⟩ := hv
  have hdi := distN hdist
  have lq0 := hlo _ (.head _)
  have lq1 := hlo _ (.tail _ (.head _))
  have lq2 := hlo _ (.tail _ (.tail _ (.head _)))
  have lq3 := hlo _ (.tail _ (.tail _ (.tail _ (.head _))))
  clear hlo
  revert X
  k_fill
  intro X
  refine wpAny_call ?_
  refine' enterM (nm := "attr") (front := [(("self" : Str), (.ref g : Value)), (("u_of_edge" : Str), (.int u tu : Value)), (("v_of_edge" : Str), (.int v tv : Value))]) [(nd, on), (ad, oa), (pd, op), (rv, ov)] ?k1 ?k2 ?k2n ?k3 ?k5 ?kA ?kF ?kK ?k6 ?k7 ?k8 ?kP ?kT ?kB ?_ ?c2 ?c3 ?c4 ?c5
  case kA => exact rfl
  case kF => exact rfl
  case kK => assumption
  case k1 => exact B
  case k2 => exact F
  case k2n => exact N₀
  case k3 => exact X
  case k5 => exact T
  case k6 => k_is
  case k7 => k_is
  case k8 => ktr_room
  case kP => exact rfl
  case kT => exact fun _ => rfl
  case c5 => decide
  case kB => exact fun _ => locs rfl
  case c2 => exact rfl
  case c3 => exact rfl
  case c4 => exact rfl
  intro D' od' g' L' h' tk' lD' hD' loD' hod' F' N' kb' kz' B' X' T' st'
  try dsimp only
  k_fold
  have S' : Sys g' := S.keep st'
  replace F' : Fr g' L' h' (lk [(("attr" : Str), some (Value.ref D')), (("v_of_edge" : Str), some (.int v tv : Value)), (("u_of_edge" : Str), some (.int u tu : Value)), (("self" : Str), some (.ref g : Value))]) := (lk_of _ ▸ F' :)
  try k_lt lD'
  simp only [DistN, AllNe, and_true, true_and] at hdi
  replace e1 := kb' _ _ nmg e1
  replace e2 := kb' _ _ nmx e2
  k_steps
  rename Fr _ _ _ _ => F9
  rename News _ _ _ _ => N9
  exact ret _ _ _ _ _ _ (kb_of kb' kz' F9) (here_at N9 (.tail _ (.tail _ (.tail _ (.tail _ (.tail _ (.tail _ (.head _))))))) (by assumption)) (here_at N9 (.tail _ (.tail _ (.tail _ (.tail _ (.tail _ (.tail _ (.tail _ (.head _)))))))) (by assumption)) (here_at N9 (.tail _ (.tail _ (.tail _ (.tail _ (.tail _ (.tail _ (.tail _ (.tail _ (.head _))))))))) (by assumption)) (here_at N9 (.tail _ (.tail _ (.tail _ (.head _)))) (by assumption)) (here_at N9 (.tail _ (.tail _ (.tail _ (.tail _ (.tail _ (.tail _ (.tail _ (.tail _ (.tail _ (.head _)))))))))) (by assumption)) (here_at N9 (.tail _ (.tail _ (.head _))) (by assumption)) (fresh_of kb' (by walk_at "NM") (N9 _ (.tail _ (.tail _ (.tail _ (.head _))))).2.2) (fresh_of kb' (by walk_at "NM") (N9 _ (.tail _ (.tail _ (.head _)))).2.2) (by assumption) (by assumption) (by walk_at "NODUP")
theorem edge_nn {w : World} {p : Program} {loose : List Str} {mean : ExcName → Option Value} {mg mb : Str → Option Value} {dp un : Nat} {gd : Option (List Code)} {cn : Str} {cs : Scope} {a : Addr} {ccd : Value} {cl : List (Str × Addr)} {outer : List Env} {A₀ : Around} {base h₀ : Heap} {L : Addr} {m : Str → Option Value} {s : Shared} {Q E : Value → Shared → Prop} {g nd ad pd ru rv : Addr} {u v : Int} {tu tv : Tok} {nkv kva kvp ivs iws : List (Int × Value)} {on oa op ou ov : Obj}
    (B : Below A₀ base outer h₀) (F : Fr h₀ L s.heap m) (X : (hd.heap_39 w.params).In h₀) (T : Top p loose mean mg mb h₀) (hk : cs.kind = .function) (S : Sys h₀) (N₀ : News h₀ L s.heap [(nd, on), (ad, oa), (pd, op)]) (hO : DiObj s.heap g nd ad pd) (hg : ∀ b ∈ [nd, ad, pd], g ≠ b) (hdx : ∀ dx, s.heap.get? g = some (instObj 831 dx) → ∀ b ∈ [nd, ad, pd], dx ≠ b)
    (hnd : on.IsDictOf (PySem.intKind PySem.Challenge.rw_fq0029_01.row.prog w) nkv) (had : oa.IsDictOf (PySem.intKind PySem.Challenge.rw_fq0029_01.row.prog w) kva) (hpd : op.IsDictOf (PySem.intKind PySem.Challenge.rw_fq0029_01.row.prog w) kvp) (szn : nkv.length ≤ 200) (sza : kva.length ≤ 200) (szp : kvp.length ≤ 200)
    (hdist : [nd, ad, pd].Nodup) (hlo : ∀ b ∈ [nd, ad, pd], (b == sysModules) = false)
    (hu : valueAt kva u = none) (hup : valueAt kvp u = none)
    (hv : valueAt kva v = none) (hvp : valueAt kvp v = none)
    (hne : u ≠ v)
    (hdp : dp + 2 < recursionLimit) (hun : un + 16 < cLine)
    (ret : ∀ h' tk' x r1 r2 y1 r3 r4 y2, KeepsBut [nd, ad, pd] s.heap h' → h'.DictOf (PySem.intKind PySem.Challenge.rw_fq0029_01.row.prog w) nd (stored (stored nkv u y1) v y2) → h'.DictOf (PySem.intKind PySem.Challenge.rw_fq0029_01.row.prog w) ad (stored (stored kva u (.ref r1)) v (.ref r3)) → h'.DictOf (PySem.intKind PySem.Challenge.rw_fq0029_01.row.prog w) pd (stored (stored kvp u (.ref r2)) v (.ref r4)) → h'.DictOf (PySem.intKind PySem.Challenge.rw_fq0029_01.row.prog w) r1 (stored [] v x) → h'.DictOf (PySem.intKind PySem.Challenge.rw_fq0029_01.row.prog w) r4 (stored [] u x) → h'.DictOf (PySem.intKind PySem.Challenge.rw_fq0029_01.row.prog w) r2 [] → h'.DictOf (PySem.intKind PySem.Challenge.rw_fq0029_01.row.prog w) r3 [] → s.heap.get? r1 = none → s.heap.get? r2 = none → s.heap.get? r3 = none → s.heap.get? r4 = none → (r1 == sysModules) = false → (r2 == sysModules) = false → (r3 == sysModules) = false → (r4 == sysModules) = false → [r1, r2, r3, r4].Nodup → Q .none { s with heap := h', toks := tk' }) :
    wpAny (model PySem.Challenge.rw_fq0029_01.row.prog w) (ktrTop dp un gd cn cs L a ccd cl outer) (call (.ref 704) [.ref g, .int u tu, .int v tv]) Q E s := by
  obtain ⟨dx, k1, k2, k3, k4, k5, t1, t2, t3, t4, t5, v1, e1, e2⟩ := hO
  replace hdx := hdx dx e1
  have nmg : g ∉ [nd, ad, pd] := fun h => hg _ h rfl
  have nmx : dx ∉ [nd, ad, pd] := fun h => hdx _ h rfl
  have hne2 : v ≠ u := fun e => hne e.symm
  have hdi := distN hdist
  have lq0 := hlo _ (.head _)
  have lq1 := hlo _ (.tail _ (.head _))
  have lq2 := hlo _ (.tail _ (.tail _ (.head _)))
  clear hlo
  revert X
  k_fill
  intro X
  refine wpAny_call ?_
  refine' enterM (nm := "attr") (front := [(("self" : Str), (.ref g : Value)), (("u_of_edge" : Str), (.int u tu : Value)), (("v_of_edge" : Str), (.int v tv : Value))]) [(nd, on), (ad, oa), (pd, op)] ?k1 ?k2 ?k2n ?k3 ?k5 ?kA ?kF ?kK ?k6 ?k7 ?k8 ?kP ?kT ?kB ?_ ?c2 ?c3 ?c4 ?c5
  case kA => exact rfl
  case kF => exact rfl
  case kK => assumption
  case k1 => exact B
  case k2 => exact F
  case k2n => exact N₀
  case k3 => exact X
  case k5 => exact T
  case k6 => k_is
  case k7 => k_is
  case k8 => ktr_room
  case kP => exact rfl
  case kT => exact fun _ => rfl
  case c5 => decide
  case kB => exact fun _ => locs rfl
  case c2 => exact rfl
  case c3 => exact rfl
  case c4 => exact rfl
  intro D' od' g' L' h' tk' lD' hD' loD' hod' F' N' kb' kz' B' X' T' st'
  try dsimp only
  k_fold
  have S' : Sys g' := S.keep st'
  replace F' : Fr g' L' h' (lk [(("attr" : Str), some (Value.ref D')), (("v_of_edge" : Str), some (.int v tv : Value)), (("u_of_edge" : Str), some (.int u tu : Value)), (("self" : Str), some (.ref g : Value))]) := (lk_of _ ▸ F' :)
  try k_lt lD'
  simp only [DistN, AllNe, and_true, true_and] at hdi
  replace e1 := kb' _ _ nmg e1
  replace e2 := kb' _ _ nmx e2
  k_steps
  rename Fr _ _ _ _ => F9
  rename News _ _ _ _ => N9
  exact ret _ _ _ _ _ _ _ _ _ (kb_of kb' kz' F9) (here_at N9 (.tail _ (.tail _ (.tail _ (.tail _ (.tail _ (.tail _ (.tail _ (.tail _ (.tail _ (.head _)))))))))) (by assumption)) (here_at N9 (.tail _ (.tail _ (.tail _ (.tail _ (.tail _ (.tail _ (.tail _ (.tail _ (.tail _ (.tail _ (.head _))))))))))) (by assumption)) (here_at N9 (.tail _ (.tail _ (.tail _ (.tail _ (.tail _ (.tail _ (.tail _ (.tail _ (.tail _ (.tail _ (.tail _ (.head _)))))))))))) (by assumption)) (here_at N9 (.tail _ (.tail _ (.tail _ (.tail _ (.tail _ (.tail _ (.head _))))))) (by assumption)) (here_at N9 (.tail _ (.tail _ (.head _))) (by assumption)) (here_at N9 (.tail _ (.tail _ (.tail _ (.tail _ (.tail _ (.head _)))))) (by assumption)) (here_at N9 (.tail _ (.tail _ (.tail _ (.head _)))) (by assumption)) (fresh_of kb' (by walk_at "NM") (N9 _ (.tail _ (.tail _ (.tail _ (.tail _ (.tail _ (.tail _ (.head _)))))))).2.2) (fresh_of kb' (by walk_at "NM") (N9 _ (.tail _ (.tail _ (.tail _ (.tail _ (.tail _ (.head _))))))).2.2) (fresh_of kb' (by walk_at "NM") (N9 _ (.tail _ (.tail _ (.tail _ (.head _))))).2.2) (fresh_of kb' (by walk_at "NM") (N9 _ (.tail _ (.tail _ (.head _)))).2.2) (by assumption) (by assumption) (by assumption) (by assumption) (by walk_at "NODUP")
theorem node_new {w : World} {p : Program} {loose : List Str} {mean : ExcName → Option Value} {mg mb : Str → Option Value} {dp un : Nat} {gd : Option (List Code)} {cn : Str} {cs : Scope} {a : Addr} {ccd : Value} {cl : List (Str × Addr)} {outer : List Env} {A₀ : Around} {base h₀ : Heap} {L : Addr} {m : Str → Option Value} {s : Shared} {Q E : Value → Shared → Prop} {g nd ad pd : Addr} {u : Int} {tu : Tok} {nkv kva kvp : List (Int × Value)} {on oa op : Obj}
    (B : Below A₀ base outer h₀) (F : Fr h₀ L s.heap m) (X : (hd.heap_39 w.params).In h₀) (T : Top p loose mean mg mb h₀) (hk : cs.kind = .function) (S : Sys h₀) (N₀ : News h₀ L s.heap [(nd, on), (ad, oa), (pd, op)]) (hO : DiObj s.heap g nd ad pd) (hg : ∀ b ∈ [nd, ad, pd], g ≠ b) (hdx : ∀ dx, s.heap.get? g = some (instObj 831 dx) → ∀ b ∈ [nd, ad, pd], dx ≠ b)
    (hnd : on.IsDictOf (PySem.intKind PySem.Challenge.rw_fq0029_01.row.prog w) nkv) (had : oa.IsDictOf (PySem.intKind PySem.Challenge.rw_fq0029_01.row.prog w) kva) (hpd : op.IsDictOf (PySem.intKind PySem.Challenge.rw_fq0029_01.row.prog w) kvp) (szn : nkv.length ≤ 200) (sza : kva.length ≤ 200) (szp : kvp.length ≤ 200)
    (hdist : [nd, ad, pd].Nodup) (hlo : ∀ b ∈ [nd, ad, pd], (b == sysModules) = false) (hu : valueAt kva u = none) (hup : valueAt kvp u = none)
    (hdp : dp + 2 < recursionLimit) (hun : un + 16 < cLine)
    (ret : ∀ h' tk' r1 r2 y, KeepsBut [nd, ad, pd] s.heap h' → h'.DictOf (PySem.intKind PySem.Challenge.rw_fq0029_01.row.prog w) nd (stored nkv u y) → h'.DictOf (PySem.intKind PySem.Challenge.rw_fq0029_01.row.prog w) ad (stored kva u (.ref r1)) → h'.DictOf (PySem.intKind PySem.Challenge.rw_fq0029_01.row.prog w) pd (stored kvp u (.ref r2)) →
      h'.DictOf (PySem.intKind PySem.Challenge.rw_fq0029_01.row.prog w) r1 [] → h'.DictOf (PySem.intKind PySem.Challenge.rw_fq0029_01.row.prog w) r2 [] → s.heap.get? r1 = none → s.heap.get? r2 = none → (r1 == sysModules) = false → (r2 == sysModules) = false → [r1, r2].Nodup → Q .none { s with heap := h', toks := tk' }) :
    wpAny (model PySem.Challenge.rw_fq0029_01.row.prog w) (ktrTop dp un gd cn cs L a ccd cl outer) (call (.ref 676) [.ref g, .int u tu]) Q E s := by
  obtain ⟨dx, k1, k2, k3, k4, k5, t1, t2, t3, t4, t5, v1, e1, e2⟩ := hO
  replace hdx := hdx dx e1
  have nmg : g ∉ [nd, ad, pd] := fun h => hg _ h rfl
  have nmx : dx ∉ [nd, ad, pd] := fun h => hdx _ h rfl
  have hdi := distN hdist
  have lq0 := hlo _ (.head _)
  have lq1 := hlo _ (.tail _ (.head _))
  have lq2 := hlo _ (.tail _ (.tail _ (.head _)))
  clear hlo
  revert X
  k_fill
  intro X
  refine wpAny_call ?_
  refine' enterM (nm := "attr") (front := [(("self" : Str), (.ref g : Value)), (("node_for_adding" : Str), (.int u tu : Value))]) [(nd, on), (ad, oa), (pd, op)] ?k1 ?k2 ?k2n ?k3 ?k5 ?kA ?kF ?kK ?k6 ?k7 ?k8 ?kP ?kT ?kB ?_ ?c2 ?c3 ?c4 ?c5
  case kA => exact rfl
  case kF => exact rfl
  case kK => assumption
  case k1 => exact B
  case k2 => exact F
  case k2n => exact N₀
  case k3 => exact X
  case k5 => exact T
  case k6 => k_is
  case k7 => k_is
  case k8 => ktr_room
  case kP => exact rfl
  case kT => exact fun _ => rfl
  case c5 => decide
  case kB => exact fun _ => locs rfl
  case c2 => exact rfl
  case c3 => exact rfl
  case c4 => exact rfl
  intro D' od' g' L' h' tk' lD' hD' loD' hod' F' N' kb' kz' B' X' T' st'
  try dsimp only
  k_fold
  have S' : Sys g' := S.keep st'
  replace F' : Fr g' L' h' (lk [(("attr" : Str), some (Value.ref D')), (("node_for_adding" : Str), some (.int u tu : Value)), (("self" : Str), some (.ref g : Value))]) := (lk_of _ ▸ F' :)
  try k_lt lD'
  simp only [DistN, AllNe, and_true, true_and] at hdi
  replace e1 := kb' _ _ nmg e1
  replace e2 := kb' _ _ nmx e2
  k_steps
  rename Fr _ _ _ _ => F9
  rename News _ _ _ _ => N9
  exact ret _ _ _ _ _ (kb_of kb' kz' F9) (here_at N9 (.tail _ (.tail _ (.tail _ (.tail _ (.head _))))) (by assumption)) (here_at N9 (.tail _ (.tail _ (.tail _ (.tail _ (.tail _ (.head _)))))) (by assumption)) (here_at N9 (.tail _ (.tail _ (.tail _ (.tail _ (.tail _ (.tail _ (.head _))))))) (by assumption)) (here_at N9 (.tail _ (.tail _ (.head _))) (by assumption)) (here_at N9 (.tail _ (.head _)) (by assumption)) (fresh_of kb' (by walk_at "NM") (N9 _ (.tail _ (.tail _ (.head _)))).2.2) (fresh_of kb' (by walk_at "NM") (N9 _ (.tail _ (.head _))).2.2) (by assumption) (by assumption) (by walk_at "NODUP")
/-- what a graph's dicts hold: address to rows -/
abbrev Cont := Addr → Option (List (Int × Value))
def upd (c : Cont) (a : Addr) (l : List (Int × Value)) : Cont := fun b => if b = a then some l else c b
theorem upd_same {c : Cont} {a : Addr} {l : List (Int × Value)} : upd c a l a = some l := if_pos rfl
theorem upd_other {c : Cont} {a b : Addr} {l : List (Int × Value)} (h : b ≠ a) : upd c a l b = c b := if_neg h
/-- the dicts of a digraph -/
structure DiC (c : Cont) (nd ad pd : Addr) (ns : List Int) (ra rp : Int → Addr) (sb pb : Int → List Int) : Prop where
  nds : ∃ l, c nd = some l ∧ l.map (·.1) = ns
  ads : ∃ l, c ad = some l ∧ l.map (·.1) = ns ∧ ∀ n ∈ ns, valueAt l n = some (.ref (ra n))
  pds : ∃ l, c pd = some l ∧ l.map (·.1) = ns ∧ ∀ n ∈ ns, valueAt l n = some (.ref (rp n))
  rows : ∀ n ∈ ns, ∃ l, c (ra n) = some l ∧ l.map (·.1) = sb n
  cols : ∀ n ∈ ns, ∃ l, c (rp n) = some l ∧ l.map (·.1) = pb n
  tops : [nd, ad, pd].Nodup
  offA : ∀ n ∈ ns, ra n ∉ [nd, ad, pd]
  offP : ∀ n ∈ ns, rp n ∉ [nd, ad, pd]
  injA : ∀ n ∈ ns, ∀ k ∈ ns, ra n = ra k → n = k
  injP : ∀ n ∈ ns, ∀ k ∈ ns, rp n = rp k → n = k
  offAP : ∀ n ∈ ns, ∀ k ∈ ns, ra n ≠ rp k
  lo1 : c sysModules = none
theorem DiC.lo {c : Cont} {nd ad pd : Addr} {ns : List Int} {ra rp : Int → Addr} {sb pb : Int → List Int} (D : DiC c nd ad pd ns ra rp sb pb) {a : Addr} {l : List (Int × Value)} (e : c a = some l) : (a == sysModules) = false :=
  beq_eq_false_iff_ne.mpr fun q => by rw [q, D.lo1] at e; cases e
def cNode (c : Cont) (nd ad pd : Addr) (n : Int) (r1 r2 : Addr) (nl al pl : List (Int × Value)) (y : Value) : Cont :=
  upd (upd (upd (upd (upd c nd (stored nl n y)) ad (stored al n (.ref r1))) pd (stored pl n (.ref r2))) r1 []) r2 []
def cArc (c : Cont) (ru rv : Addr) (il wl : List (Int × Value)) (u v : Int) (x : Value) : Cont := upd (upd c ru (stored il v x)) rv (stored wl u x)
theorem keys_new {l : List (Int × Value)} {ns : List Int} {n : Int} {v : Value} (h : l.map (·.1) = ns) (hn : n ∉ ns) : (stored l n v).map (·.1) = ns ++ [n] := by
  rw [keys_stored_new (by rw [h]; exact hn), h]
theorem DiC.node {c : Cont} {nd ad pd : Addr} {ns : List Int} {ra rp : Int → Addr} {sb pb : Int → List Int} (G : DiC c nd ad pd ns ra rp sb pb) {n : Int} (hn : n ∉ ns) {r1 r2 : Addr} (h1 : c r1 = none) (h2 : c r2 = none) (l1 : (r1 == sysModules) = false) (l2 : (r2 == sysModules) = false) (h12 : r1 ≠ r2)
    (hs : sb n = []) (hp : pb n = []) {nl al pl : List (Int × Value)} (hnl : c nd = some nl) (hal : c ad = some al) (hpl : c pd = some pl) (y : Value) :
    DiC (cNode c nd ad pd n r1 r2 nl al pl y) nd ad pd (ns ++ [n]) (fun k => if k = n then r1 else ra k) (fun k => if k = n then r2 else rp k) sb pb := by
  obtain ⟨⟨nl', e1, k1⟩, ⟨al', e2, k2, v2⟩, ⟨pl', e3, k3, v3⟩, rows, cols, tops, offA, offP, injA, injP, offAP, lo1⟩ := G
  rw [e1] at hnl; cases hnl
  rw [e2] at hal; cases hal
  rw [e3] at hpl; cases hpl
  have d1 : nd ≠ r1 := fun e => by rw [← e, e1] at h1; cases h1
  have d2 : nd ≠ r2 := fun e => by rw [← e, e1] at h2; cases h2
  have d3 : ad ≠ r1 := fun e => by rw [← e, e2] at h1; cases h1
  have d4 : ad ≠ r2 := fun e => by rw [← e, e2] at h2; cases h2
  have d5 : pd ≠ r1 := fun e => by rw [← e, e3] at h1; cases h1
  have d6 : pd ≠ r2 := fun e => by rw [← e, e3] at h2; cases h2
  have t1 : nd ≠ ad := fun e => by subst e; simp at tops
  have t2 : nd ≠ pd := fun e => by subst e; simp at tops
  have t3 : ad ≠ pd := fun e => by subst e; simp at tops
  have hA : ∀ k ∈ ns, ra k ≠ r1 ∧ ra k ≠ r2 := fun k hk => by
    obtain ⟨l, e, _⟩ := rows k hk
    exact ⟨fun q => (by rw [q, h1] at e; cases e), fun q => (by rw [q, h2] at e; cases e)⟩
  have hP : ∀ k ∈ ns, rp k ≠ r1 ∧ rp k ≠ r2 := fun k hk => by
    obtain ⟨l, e, _⟩ := cols k hk
    exact ⟨fun q => (by rw [q, h1] at e; cases e), fun q => (by rw [q, h2] at e; cases e)⟩
  have hne : ∀ k ∈ ns, k ≠ n := fun k hk e => hn (e ▸ hk)
  have mem : ∀ k, k ∈ ns ++ [n] ↔ k ∈ ns ∨ k = n := fun k => by simp
  have val : ∀ {l : List (Int × Value)} {f : Int → Addr} {r : Addr}, l.map (·.1) = ns → (∀ k ∈ ns, valueAt l k = some (.ref (f k))) → ∀ k ∈ ns ++ [n], valueAt (stored l n (.ref r)) k = some (.ref (if k = n then r else f k)) := fun hl hv k hk => by
    rcases (mem k).mp hk with hk | rfl
    · rw [if_neg (hne k hk)]; exact va_other (hne k hk) (hv k hk)
    · rw [if_pos rfl]; exact va_hit
  have keep : ∀ b, b ∉ [nd, ad, pd] → b ≠ r1 → b ≠ r2 → cNode c nd ad pd n r1 r2 nl al pl y b = c b := fun b hb q1 q2 => by
    have b1 : b ≠ nd := fun e => hb (by simp [e])
    have b2 : b ≠ ad := fun e => hb (by simp [e])
    have b3 : b ≠ pd := fun e => hb (by simp [e])
    unfold cNode
    rw [upd_other q2, upd_other q1, upd_other b3, upd_other b2, upd_other b1]
  have tl : ∀ {b : Addr} {l : List (Int × Value)}, c b = some l → sysModules ≠ b := fun e q => by rw [← q, lo1] at e; cases e
  refine ⟨⟨stored nl n y, ?_, keys_new k1 hn⟩, ⟨_, ?_, keys_new k2 hn, val k2 v2⟩, ⟨_, ?_, keys_new k3 hn, val k3 v3⟩, ?_, ?_, tops, ?_, ?_, ?_, ?_, ?_, ?_⟩
  · unfold cNode; rw [upd_other d2, upd_other d1, upd_other t2, upd_other t1, upd_same]
  · unfold cNode; rw [upd_other d4, upd_other d3, upd_other t3, upd_same]
  · unfold cNode; rw [upd_other d6, upd_other d5, upd_same]
  · intro k hk
    rcases (mem k).mp hk with hk | rfl
    · rw [if_neg (hne k hk), keep _ (offA k hk) (hA k hk).1 (hA k hk).2]; exact rows k hk
    · rw [if_pos rfl]; exact ⟨[], by unfold cNode; rw [upd_other h12, upd_same], hs.symm⟩
  · intro k hk
    rcases (mem k).mp hk with hk | rfl
    · rw [if_neg (hne k hk), keep _ (offP k hk) (hP k hk).1 (hP k hk).2]; exact cols k hk
    · rw [if_pos rfl]; exact ⟨[], by unfold cNode; rw [upd_same], hp.symm⟩
  · intro k hk
    rcases (mem k).mp hk with hk | rfl
    · rw [if_neg (hne k hk)]; exact offA k hk
    · rw [if_pos rfl]; simp [Ne.symm d1, Ne.symm d3, Ne.symm d5]
  · intro k hk
    rcases (mem k).mp hk with hk | rfl
    · rw [if_neg (hne k hk)]; exact offP k hk
    · rw [if_pos rfl]; simp [Ne.symm d2, Ne.symm d4, Ne.symm d6]
  · intro k hk j hj e
    rcases (mem k).mp hk with hk' | rfl <;> rcases (mem j).mp hj with hj' | rfl
    · rw [if_neg (hne k hk'), if_neg (hne j hj')] at e; exact injA k hk' j hj' e
    · rw [if_neg (hne k hk'), if_pos rfl] at e; exact absurd e (hA k hk').1
    · rw [if_neg (hne j hj'), if_pos rfl] at e; exact absurd e.symm (hA j hj').1
    · rfl
  · intro k hk j hj e
    rcases (mem k).mp hk with hk' | rfl <;> rcases (mem j).mp hj with hj' | rfl
    · rw [if_neg (hne k hk'), if_neg (hne j hj')] at e; exact injP k hk' j hj' e
    · rw [if_neg (hne k hk'), if_pos rfl] at e; exact absurd e (hP k hk').2
    · rw [if_neg (hne j hj'), if_pos rfl] at e; exact absurd e.symm (hP j hj').2
    · rfl
  · intro k hk j hj
    rcases (mem k).mp hk with hk' | rfl <;> rcases (mem j).mp hj with hj' | rfl
    · rw [if_neg (hne k hk'), if_neg (hne j hj')]; exact offAP k hk' j hj'
    · rw [if_neg (hne k hk'), if_pos rfl]; exact (hA k hk').2
    · rw [if_neg (hne j hj'), if_pos rfl]; exact fun e => (hP j hj').1 e.symm
    · rw [if_pos rfl, if_pos rfl]; exact h12
  · unfold cNode
    rw [upd_other fun e => by rw [← e] at l2; exact absurd (beq_self_eq_true sysModules) (by rw [l2]; exact Bool.false_ne_true), upd_other fun e => by rw [← e] at l1; exact absurd (beq_self_eq_true sysModules) (by rw [l1]; exact Bool.false_ne_true), upd_other (tl e3), upd_other (tl e2), upd_other (tl e1)]
    exact lo1
theorem DiC.arc {c : Cont} {nd ad pd : Addr} {ns : List Int} {ra rp : Int → Addr} {sb pb : Int → List Int} (G : DiC c nd ad pd ns ra rp sb pb) {u v : Int} (hu : u ∈ ns) (hv : v ∈ ns) (nu : v ∉ sb u) (nv : u ∉ pb v)
    {il wl : List (Int × Value)} (hil : c (ra u) = some il) (hwl : c (rp v) = some wl) (x : Value) :
    DiC (cArc c (ra u) (rp v) il wl u v x) nd ad pd ns ra rp (fun k => if k = u then sb u ++ [v] else sb k) (fun k => if k = v then pb v ++ [u] else pb k) := by
  obtain ⟨⟨nl', e1, k1⟩, ⟨al', e2, k2, v2⟩, ⟨pl', e3, k3, v3⟩, rows, cols, tops, offA, offP, injA, injP, offAP, lo1⟩ := G
  have top : ∀ b ∈ [nd, ad, pd], cArc c (ra u) (rp v) il wl u v x b = c b := fun b hb => by
    unfold cArc
    rw [upd_other fun e => offP v hv (by rw [← e]; exact hb), upd_other fun e => offA u hu (by rw [← e]; exact hb)]
  refine ⟨⟨_, (top nd (by simp)).trans e1, k1⟩, ⟨_, (top ad (by simp)).trans e2, k2, v2⟩, ⟨_, (top pd (by simp)).trans e3, k3, v3⟩, ?_, ?_, tops, offA, offP, injA, injP, offAP, ?_⟩
  · intro k hk
    unfold cArc
    rw [upd_other (offAP k hk v hv)]
    by_cases e : k = u
    · subst e
      rw [if_pos rfl]
      obtain ⟨l, hl, hk'⟩ := rows k hk
      rw [hil] at hl; cases hl
      exact ⟨_, upd_same, keys_new hk' nu⟩
    · rw [if_neg e, upd_other fun q => e (injA k hk u hu q)]; exact rows k hk
  · intro k hk
    unfold cArc
    by_cases e : k = v
    · subst e
      rw [if_pos rfl]
      obtain ⟨l, hl, hk'⟩ := cols k hk
      rw [hwl] at hl; cases hl
      exact ⟨_, upd_same, keys_new hk' nv⟩
    · rw [if_neg e, upd_other fun q => e (injP k hk v hv q), upd_other (fun q => offAP u hu k hk q.symm)]; exact cols k hk
  · have tl : ∀ {b : Addr} {l : List (Int × Value)}, c b = some l → sysModules ≠ b := fun e q => by rw [← q, lo1] at e; cases e
    unfold cArc
    rw [upd_other (tl hwl), upd_other (tl hil)]
    exact lo1
section
variable {prog : Program} {w : World}
def Holds (prog : Program) (w : World) (h : Heap) (c : Cont) : Prop := ∀ a l, c a = some l → h.DictOf (PySem.intKind prog w) a l
/-- a list of objects that make up a digraph -/
def Gr (prog : Program) (w : World) (H : List (Addr × Obj)) (g : Addr) (ns : List Int) (sb pb : Int → List Int) : Prop :=
  ∃ (c : Cont) (nd ad pd : Addr) (ra rp : Int → Addr) (dx : Addr) (k1 k2 k3 k4 k5 : Int) (t1 t2 t3 t4 t5 : Tok) (v1 : Value), DiC c nd ad pd ns ra rp sb pb ∧ (g, instObj 831 dx) ∈ H ∧
    (dx, dictOf [⟨k1, .str "graph" t1, v1⟩, ⟨k2, .str "_node" t2, .ref nd⟩, ⟨k3, .str "_adj" t3, .ref ad⟩, ⟨k4, .str "_succ" t4, .ref ad⟩, ⟨k5, .str "_pred" t5, .ref pd⟩] 5) ∈ H ∧
    c g = none ∧ c dx = none ∧ ∀ a l, c a = some l → ∃ o, (a, o) ∈ H ∧ o.IsDictOf (PySem.intKind prog w) l
def snap (h : Heap) (l : List Addr) : List (Addr × Obj) := l.filterMap fun a => (h.get? a).map fun o => (a, o)
theorem mem_snap {h : Heap} {l : List Addr} {a : Addr} {o : Obj} : (a, o) ∈ snap h l ↔ a ∈ l ∧ h.get? a = some o := by
  unfold snap
  rw [List.mem_filterMap]
  constructor
  · rintro ⟨b, hb, e⟩
    obtain ⟨o', ho', e⟩ := Option.map_eq_some_iff.mp e
    cases e
    exact ⟨hb, ho'⟩
  · rintro ⟨ha, ho⟩
    exact ⟨a, ha, by rw [ho]; rfl⟩
theorem gr_make {h₀ h h' : Heap} {L : Addr} {m : Str → Option Value} {H : List (Addr × Obj)} {R fp : List Addr} {c' : Cont} {nd ad pd : Addr} {ra rp : Int → Addr} {dx g : Addr} {ns : List Int} {sb pb : Int → List Int} {k1 k2 k3 k4 k5 : Int} {t1 t2 t3 t4 t5 : Tok} {v1 : Value}
    (F : Fr h₀ L h m) (N₀ : News h₀ L h H) (kb : KeepsBut fp h h') (hR : ∀ r ∈ R, h.get? r = none) (hg : (g, instObj 831 dx) ∈ H)
    (hdx : (dx, dictOf [⟨k1, .str "graph" t1, v1⟩, ⟨k2, .str "_node" t2, .ref nd⟩, ⟨k3, .str "_adj" t3, .ref ad⟩, ⟨k4, .str "_succ" t4, .ref ad⟩, ⟨k5, .str "_pred" t5, .ref pd⟩] 5) ∈ H)
    (gf : g ∉ fp) (df : dx ∉ fp) (cg : c' g = none) (cd : c' dx = none) (hc : ∀ a l, c' a = some l → h'.DictOf (PySem.intKind prog w) a l ∧ (a ∈ H.map (·.1) ∨ a ∈ R)) (D : DiC c' nd ad pd ns ra rp sb pb) :
    ∃ H', News h₀ L h' H' ∧ (∀ p ∈ H', p.1 ∈ H.map (·.1) ∨ h.get? p.1 = none) ∧ Gr prog w H' g ns sb pb := by
  have inH : ∀ {a : Addr} {o : Obj}, (a, o) ∈ H → a ∈ H.map (·.1) := fun hm => List.mem_map.mpr ⟨_, hm, rfl⟩
  refine ⟨snap h' (H.map (·.1) ++ R), fun p hp => ?_, fun p hp => ?_, c', nd, ad, pd, ra, rp, dx, k1, k2, k3, k4, k5, t1, t2, t3, t4, t5, v1, D, mem_snap.mpr ⟨List.mem_append_left _ (inH hg), kb.keep _ _ gf (N₀ _ hg).1⟩, mem_snap.mpr ⟨List.mem_append_left _ (inH hdx), kb.keep _ _ df (N₀ _ hdx).1⟩, cg, cd, fun a l e => ?_⟩
  · obtain ⟨a, o⟩ := p
    obtain ⟨ha, ho⟩ := mem_snap.mp hp
    refine ⟨ho, ?_⟩
    rcases List.mem_append.mp ha with ha | ha
    · obtain ⟨q, hq, rfl⟩ := List.mem_map.mp ha
      exact (N₀ q hq).2
    · have hn := hR a ha
      refine ⟨fun e => ?_, ?_⟩
      · obtain ⟨oL, _, _, hL, _⟩ := F.ns
        have e' : a = L := e
        rw [e', hL] at hn; cases hn
      · cases e : h₀.get? a with
        | none => rfl
        | some o => rw [F.keep _ _ e] at hn; cases hn
  · obtain ⟨a, o⟩ := p
    rcases List.mem_append.mp (mem_snap.mp hp).1 with ha | ha
    · exact .inl ha
    · exact .inr (hR a ha)
  · obtain ⟨hd, ha⟩ := hc a l e
    obtain ⟨o, ho, hio⟩ := Heap.dictOf_iff.mp hd
    exact ⟨o, mem_snap.mpr ⟨List.mem_append.mpr ha, ho⟩, hio⟩
theorem holds_gr {h₀ h : Heap} {L : Addr} {H : List (Addr × Obj)} {c : Cont} (N₀ : News h₀ L h H) (hc : ∀ a l, c a = some l → ∃ o, (a, o) ∈ H ∧ o.IsDictOf (PySem.intKind prog w) l) : Holds prog w h c := fun a l e => by
  obtain ⟨o, ho, hio⟩ := hc a l e
  exact Heap.dictOf_iff.mpr ⟨o, (N₀ _ ho).1, hio⟩
theorem holds_fresh {h : Heap} {c : Cont} (hh : Holds prog w h c) {r : Addr} (hr : h.get? r = none) : c r = none := by
  cases e : c r with
  | none => rfl
  | some l =>
    obtain ⟨o, ho, _⟩ := Heap.dictOf_iff.mp (hh r l e)
    rw [ho] at hr; cases hr
theorem dict_keep {h h' : Heap} {fp : List Addr} (kb : KeepsBut fp h h') {a : Addr} {l : List (Int × Value)} (hd : h.DictOf (PySem.intKind prog w) a l) (ha : a ∉ fp) : h'.DictOf (PySem.intKind prog w) a l := by
  obtain ⟨o, ho, hio⟩ := Heap.dictOf_iff.mp hd
  exact Heap.dictOf_iff.mpr ⟨o, kb.keep _ _ ha ho, hio⟩
/-- such a list, where it stands, is a digraph -/
theorem Gr.diG {h₀ h : Heap} {L : Addr} {H : List (Addr × Obj)} {g : Addr} {ns : List Int} {sb pb : Int → List Int} (G : Gr prog w H g ns sb pb) (N₀ : News h₀ L h H) (S : Sys h₀) : DiG prog w h g ns sb pb := by
  obtain ⟨c, nd, ad, pd, ra, rp, dx, k1, k2, k3, k4, k5, t1, t2, t3, t4, t5, v1, D, hg, hdx, cg, cdx, hc⟩ := G
  have hh := holds_gr N₀ hc
  have lo : ∀ {a : Addr} {l : List (Int × Value)}, c a = some l → (a == sysModules) = false := fun e => D.lo e
  obtain ⟨nl, e1, n1⟩ := D.nds
  obtain ⟨al, e2, n2, v2⟩ := D.ads
  obtain ⟨pl, e3, n3, v3⟩ := D.pds
  refine ⟨nd, ad, pd, nl, ⟨dx, k1, k2, k3, k4, k5, t1, t2, t3, t4, t5, v1, (N₀ _ hg).1, (N₀ _ hdx).1⟩, lo e1, hh _ _ e1, n1, ⟨⟨al, hh _ _ e2, n2, fun n hn => ?_⟩, lo e2⟩, ⟨⟨pl, hh _ _ e3, n3, fun n hn => ?_⟩, lo e3⟩⟩
  · obtain ⟨l, e, hl⟩ := D.rows n hn
    exact ⟨_, l, v2 n hn, lo e, hh _ _ e, hl⟩
  · obtain ⟨l, e, hl⟩ := D.cols n hn
    exact ⟨_, l, v3 n hn, lo e, hh _ _ e, hl⟩
end
def addn (ns : List Int) (n : Int) : List Int := if n ∈ ns then ns else ns ++ [n]
def arc (f : Int → List Int) (u v : Int) : Int → List Int := fun k => if k = u then f u ++ [v] else f k
theorem instObj_inj {a b c : Addr} (h : instObj a b = instObj a c) : b = c := by
  have : (instObj a b).dict = (instObj a c).dict := by rw [h]
  exact Option.some.inj this
theorem upd_cases {c : Cont} {a b : Addr} {l l' : List (Int × Value)} (e : upd c b l' a = some l) : (a = b ∧ l' = l) ∨ (a ≠ b ∧ c a = some l) := by
  by_cases h : a = b
  · subst h; rw [upd_same] at e; cases e; exact .inl ⟨rfl, rfl⟩
  · rw [upd_other h] at e; exact .inr ⟨h, e⟩
theorem DiC.arc' {c : Cont} {nd ad pd ru rv : Addr} {ns : List Int} {ra rp : Int → Addr} {sb pb : Int → List Int} (G : DiC c nd ad pd ns ra rp sb pb) {u v : Int} (hu : u ∈ ns) (hv : v ∈ ns) (nu : v ∉ sb u) (nv : u ∉ pb v)
    {il wl : List (Int × Value)} (hru : ra u = ru) (hrv : rp v = rv) (hil : c ru = some il) (hwl : c rv = some wl) (x : Value) :
    DiC (cArc c ru rv il wl u v x) nd ad pd ns ra rp (Mine.arc sb u v) (Mine.arc pb v u) := by
  subst hru; subst hrv; exact G.arc hu hv nu nv hil hwl x
theorem nodup3 {a b c : Addr} (h : [a, b, c].Nodup) {d : Addr} (hd : d ∉ [a, b, c]) : [a, b, c, d].Nodup := by
  have : [d, a, b, c].Nodup := List.nodup_cons.mpr ⟨hd, h⟩
  exact (List.Perm.nodup_iff (List.perm_append_comm (l₁ := [d]) (l₂ := [a, b, c]))).mp this
theorem add_edge_spec {w : World} {p : Program} {loose : List Str} {mean : ExcName → Option Value} {mg mb : Str → Option Value} {dp un : Nat} {gd : Option (List Code)} {cn : Str} {cs : Scope} {a : Addr} {ccd : Value} {cl : List (Str × Addr)} {outer : List Env} {A₀ : Around} {base h₀ : Heap} {L : Addr} {m : Str → Option Value} {s : Shared} {Q E : Value → Shared → Prop} {H : List (Addr × Obj)} {g : Addr} {u v : Int} {tu tv : Tok} {ns : List Int} {sb pb : Int → List Int}
    (B : Below A₀ base outer h₀) (F : Fr h₀ L s.heap m) (X : (hd.heap_39 w.params).In h₀) (T : Top p loose mean mg mb h₀) (hk : cs.kind = .function) (S : Sys h₀) (N₀ : News h₀ L s.heap H) (hG : Gr PySem.Challenge.rw_fq0029_01.row.prog w H g ns sb pb) (hl : ns.length ≤ 100) (hls : ∀ n, (sb n).length ≤ 100) (hlp : ∀ n, (pb n).length ≤ 100) (hs : ∀ n, n ∉ ns → sb n = [] ∧ pb n = [])
    (nu : v ∉ sb u) (nv : u ∉ pb v) (huv : u = v → u ∈ ns) (hdp : dp + 2 < recursionLimit) (hun : un + 16 < cLine)
    (ret : ∀ h' tk' H', KeepsBut (H.map (·.1)) s.heap h' → News h₀ L h' H' → (∀ p ∈ H', p.1 ∈ H.map (·.1) ∨ s.heap.get? p.1 = none) → Gr PySem.Challenge.rw_fq0029_01.row.prog w H' g (addn (addn ns u) v) (arc sb u v) (arc pb v u) → Q .none { s with heap := h', toks := tk' }) :
    wpAny (model PySem.Challenge.rw_fq0029_01.row.prog w) (ktrTop dp un gd cn cs L a ccd cl outer) (call (.ref 704) [.ref g, .int u tu, .int v tv]) Q E s := by
  obtain ⟨c, nd, ad, pd, ra, rp, dx, k1, k2, k3, k4, k5, t1, t2, t3, t4, t5, v1, D, hg, hdx, cg, cdx, hc⟩ := hG
  have hh := holds_gr N₀ hc
  have hO : DiObj s.heap g nd ad pd := ⟨dx, k1, k2, k3, k4, k5, t1, t2, t3, t4, t5, v1, (N₀ _ hg).1, (N₀ _ hdx).1⟩
  obtain ⟨nl, e1, n1⟩ := D.nds
  obtain ⟨al, e2, n2, v2⟩ := D.ads
  obtain ⟨pl, e3, n3, v3⟩ := D.pds
  obtain ⟨on, mn, in_⟩ := hc _ _ e1
  obtain ⟨oa, ma, ia⟩ := hc _ _ e2
  obtain ⟨op, mp, ip⟩ := hc _ _ e3
  have ln : nl.length ≤ 200 := by have := congrArg List.length n1; rw [List.length_map] at this; omega
  have la : al.length ≤ 200 := by have := congrArg List.length n2; rw [List.length_map] at this; omega
  have lp : pl.length ≤ 200 := by have := congrArg List.length n3; rw [List.length_map] at this; omega
  have inH : ∀ {a : Addr} {o : Obj}, (a, o) ∈ H → a ∈ H.map (·.1) := fun hm => List.mem_map.mpr ⟨_, hm, rfl⟩
  have inC : ∀ {a : Addr} {l : List (Int × Value)}, c a = some l → a ∈ H.map (·.1) := fun e => by obtain ⟨o, ho, _⟩ := hc _ _ e; exact inH ho
  have offg : ∀ {b : Addr} {l : List (Int × Value)}, c b = some l → g ≠ b := fun e q => by rw [← q, cg] at e; cases e
  have offd : ∀ {b : Addr} {l : List (Int × Value)}, c b = some l → dx ≠ b := fun e q => by rw [← q, cdx] at e; cases e
  have hdx' : ∀ {fp : List Addr}, (∀ b ∈ fp, ∃ l, c b = some l) → ∀ dx', s.heap.get? g = some (instObj 831 dx') → ∀ b ∈ fp, dx' ≠ b := fun hf dx' e b hb => by
    rw [(N₀ _ hg).1] at e
    obtain ⟨l, hl⟩ := hf b hb
    rw [← instObj_inj (Option.some.inj e)]
    exact offd hl
  have hg' : ∀ {fp : List Addr}, (∀ b ∈ fp, ∃ l, c b = some l) → ∀ b ∈ fp, g ≠ b := fun hf b hb => by
    obtain ⟨l, hl⟩ := hf b hb
    exact offg hl
  have nf : ∀ {fp : List Addr} {x : Addr}, (∀ b ∈ fp, x ≠ b) → x ∉ fp := fun h hm => h _ hm rfl
  have lo : ∀ {a : Addr} {l : List (Int × Value)}, c a = some l → (a == sysModules) = false := fun e => by
    exact D.lo e
  have inKa : ∀ n, (∃ x, valueAt al n = some x) ↔ n ∈ ns := fun n => by rw [← Option.isSome_iff_exists, valueAt_isSome, n2]
  have inKp : ∀ n, (∃ x, valueAt pl n = some x) ↔ n ∈ ns := fun n => by rw [← Option.isSome_iff_exists, valueAt_isSome, n3]
  have noA : ∀ n, n ∉ ns → valueAt al n = none := fun n h => valueAt_none (by rw [n2]; exact h)
  have noP : ∀ n, n ∉ ns → valueAt pl n = none := fun n h => valueAt_none (by rw [n3]; exact h)
  have fr : ∀ {r : Addr}, s.heap.get? r = none → c r = none := fun h => holds_fresh hh h
  have fne : ∀ {r b : Addr} {l : List (Int × Value)}, s.heap.get? r = none → c b = some l → r ≠ b := fun h e q => by rw [q] at h; rw [fr h] at e; cases e
  by_cases hu : u ∈ ns
  · by_cases hv : v ∈ ns
    · skip
      obtain ⟨il, ei, ki⟩ := D.rows u hu
      obtain ⟨ou, mu, iu⟩ := hc _ _ ei
      have li : il.length ≤ 200 := by have := congrArg List.length ki; rw [List.length_map] at this; have := hls u; omega
      have vi : valueAt il v = none := valueAt_none (by rw [ki]; exact nu)
      obtain ⟨wl, ew, kw⟩ := D.cols v hv
      obtain ⟨ov, mv, iv⟩ := hc _ _ ew
      have lw : wl.length ≤ 200 := by have := congrArg List.length kw; rw [List.length_map] at this; have := hlp v; omega
      have vw : valueAt wl u = none := valueAt_none (by rw [kw]; exact nv)
      have hf : ∀ b ∈ [ra u, rp v], ∃ l, c b = some l := (List.forall_mem_cons.mpr ⟨⟨_, ei⟩, (List.forall_mem_cons.mpr ⟨⟨_, ew⟩, (List.forall_mem_nil _)⟩)⟩)
      have N₁ : News h₀ L s.heap [(ra u, ou), (rp v, ov)] := (List.forall_mem_cons.mpr ⟨N₀ _ mu, (List.forall_mem_cons.mpr ⟨N₀ _ mv, (List.forall_mem_nil _)⟩)⟩)
      refine edge_oo (nkv := nl) (on := on) (oa := oa) (op := op) B F X T hk S N₁ hO (hg' hf) (hdx' hf) (hh _ _ e2) (hh _ _ e3) (List.forall_mem_cons.mpr ⟨fun q => D.offA u hu (by rw [← q]; simp), List.forall_mem_cons.mpr ⟨fun q => D.offP v hv (by rw [← q]; simp), List.forall_mem_nil _⟩⟩) (List.forall_mem_cons.mpr ⟨fun q => D.offA u hu (by rw [← q]; simp), List.forall_mem_cons.mpr ⟨fun q => D.offP v hv (by rw [← q]; simp), List.forall_mem_nil _⟩⟩) (lo e2) (lo e3) (by simp [D.offAP u hu v hv]) (List.forall_mem_cons.mpr ⟨lo ei, (List.forall_mem_cons.mpr ⟨lo ew, (List.forall_mem_nil _)⟩)⟩) iu (v2 u hu) ((inKp u).mpr hu) li vi iv ((inKa v).mpr hv) (v3 v hv) lw vw hdp hun fun h' tk' x kb du dv => ?_
      have D9 := DiC.arc' (ru := (ra u)) (rv := (rp v)) D hu hv nu nv rfl rfl ei ew x
      have hcc : ∀ a l, cArc c (ra u) (rp v) il wl u v x a = some l → h'.DictOf (PySem.intKind PySem.Challenge.rw_fq0029_01.row.prog w) a l ∧ (a ∈ H.map (·.1) ∨ a ∈ []) := fun a l e => by
        unfold cArc at e
        rcases upd_cases e with ⟨rfl, rfl⟩ | ⟨q0, e⟩
        · exact ⟨dv, .inl (inH mv)⟩
        rcases upd_cases e with ⟨rfl, rfl⟩ | ⟨q1, e⟩
        · exact ⟨du, .inl (inH mu)⟩
        exact ⟨dict_keep kb (hh _ _ e) (by simp only [List.mem_cons, List.not_mem_nil, or_false, not_or]; exact ⟨(by assumption), (by assumption)⟩), .inl (inC e)⟩
      have ng : cArc c (ra u) (rp v) il wl u v x g = none := by
        unfold cArc
        rw [upd_other (offg ew), upd_other (offg ei)]
        exact cg
      have ndx : cArc c (ra u) (rp v) il wl u v x dx = none := by
        unfold cArc
        rw [upd_other (offd ew), upd_other (offd ei)]
        exact cdx
      obtain ⟨H', N', hnew, G'⟩ := gr_make (R := []) F N₀ kb (List.forall_mem_nil _) hg hdx (nf (hg' hf)) (nf fun b hb => by obtain ⟨l, hl⟩ := hf b hb; exact offd hl) ng ndx hcc D9
      refine ret h' tk' H' (kb.mono fun b hb => by obtain ⟨l, hl⟩ := hf b hb; exact inC hl) N' hnew ?_
      have ens : addn (addn ns u) v = ns := by unfold addn; simp [hu, hv]
      rw [ens]; exact G'
    · skip
      obtain ⟨il, ei, ki⟩ := D.rows u hu
      obtain ⟨ou, mu, iu⟩ := hc _ _ ei
      have li : il.length ≤ 200 := by have := congrArg List.length ki; rw [List.length_map] at this; have := hls u; omega
      have vi : valueAt il v = none := valueAt_none (by rw [ki]; exact nu)
      have hf : ∀ b ∈ [nd, ad, pd, ra u], ∃ l, c b = some l := (List.forall_mem_cons.mpr ⟨⟨_, e1⟩, (List.forall_mem_cons.mpr ⟨⟨_, e2⟩, (List.forall_mem_cons.mpr ⟨⟨_, e3⟩, (List.forall_mem_cons.mpr ⟨⟨_, ei⟩, (List.forall_mem_nil _)⟩)⟩)⟩)⟩)
      have N₁ : News h₀ L s.heap [(nd, on), (ad, oa), (pd, op), (ra u, ou)] := (List.forall_mem_cons.mpr ⟨N₀ _ mn, (List.forall_mem_cons.mpr ⟨N₀ _ ma, (List.forall_mem_cons.mpr ⟨N₀ _ mp, (List.forall_mem_cons.mpr ⟨N₀ _ mu, (List.forall_mem_nil _)⟩)⟩)⟩)⟩)
      have hne : u ≠ v := fun e => hv (e ▸ hu)
      refine edge_on (rv := nd) (iws := []) (ov := on) B F X T hk S N₁ hO (hg' hf) (hdx' hf) in_ ia ip ln la lp (nodup3 D.tops (D.offA u hu)) (List.forall_mem_cons.mpr ⟨lo e1, (List.forall_mem_cons.mpr ⟨lo e2, (List.forall_mem_cons.mpr ⟨lo e3, (List.forall_mem_cons.mpr ⟨lo ei, (List.forall_mem_nil _)⟩)⟩)⟩)⟩) iu (v2 u hu) ((inKp u).mpr hu) li vi (noA v hv) (noP v hv) hne hdp hun fun h' tk' x r3 r4 y2 kb dn da dp_ du dv d3 f3 f4 l3 l4 hnd => ?_
      simp only [List.nodup_cons, List.mem_cons, List.not_mem_nil, or_false, not_or, not_false_eq_true, List.nodup_nil, and_true] at hnd
      have h34 := hnd
      have t12 : nd ≠ ad := fun e => by have := D.tops; subst e; simp at this
      have t13 : nd ≠ pd := fun e => by have := D.tops; subst e; simp at this
      have t23 : ad ≠ pd := fun e => by have := D.tops; subst e; simp at this
      have D2 := D.node hv (fr f3) (fr f4) l3 l4 h34 (hs v hv).1 (hs v hv).2 e1 e2 e3 y2
      have ou_ := D.offA u hu
      have a1 : (cNode c nd ad pd v r3 r4 nl al pl y2) (ra u) = some il := by unfold cNode; rw [upd_other (Ne.symm (fne f4 ei)), upd_other (Ne.symm (fne f3 ei)), upd_other (fun q => ou_ (by rw [q]; simp)), upd_other (fun q => ou_ (by rw [q]; simp)), upd_other (fun q => ou_ (by rw [q]; simp))]; exact ei
      have a4 : (cNode c nd ad pd v r3 r4 nl al pl y2) r4 = some [] := by unfold cNode; rw [upd_same]
      have D9 := DiC.arc' (ru := (ra u)) (rv := r4) D2 (List.mem_append_left _ hu) (by simp) nu nv (if_neg hne) (if_pos rfl) a1 a4 x
      have hcc : ∀ a l, cArc (cNode c nd ad pd v r3 r4 nl al pl y2) (ra u) r4 il [] u v x a = some l → h'.DictOf (PySem.intKind PySem.Challenge.rw_fq0029_01.row.prog w) a l ∧ (a ∈ H.map (·.1) ∨ a ∈ [r3, r4]) := fun a l e => by
        unfold cArc cNode at e
        rcases upd_cases e with ⟨rfl, rfl⟩ | ⟨q0, e⟩
        · exact ⟨dv, .inr (by simp)⟩
        rcases upd_cases e with ⟨rfl, rfl⟩ | ⟨q1, e⟩
        · exact ⟨du, .inl (inH mu)⟩
        rcases upd_cases e with ⟨rfl, rfl⟩ | ⟨q2, e⟩
        · exact absurd rfl q0
        rcases upd_cases e with ⟨rfl, rfl⟩ | ⟨q3, e⟩
        · exact ⟨d3, .inr (by simp)⟩
        rcases upd_cases e with ⟨rfl, rfl⟩ | ⟨q4, e⟩
        · exact ⟨dp_, .inl (inH mp)⟩
        rcases upd_cases e with ⟨rfl, rfl⟩ | ⟨q5, e⟩
        · exact ⟨da, .inl (inH ma)⟩
        rcases upd_cases e with ⟨rfl, rfl⟩ | ⟨q6, e⟩
        · exact ⟨dn, .inl (inH mn)⟩
        exact ⟨dict_keep kb (hh _ _ e) (by simp only [List.mem_cons, List.not_mem_nil, or_false, not_or]; exact ⟨(by assumption), (by assumption), (by assumption), (by assumption)⟩), .inl (inC e)⟩
      have ng : cArc (cNode c nd ad pd v r3 r4 nl al pl y2) (ra u) r4 il [] u v x g = none := by
        unfold cArc cNode
        rw [upd_other (fun q => by have := f4; rw [← q, (N₀ _ hg).1] at this; cases this), upd_other (offg ei), upd_other (fun q => by have := f4; rw [← q, (N₀ _ hg).1] at this; cases this), upd_other (fun q => by have := f3; rw [← q, (N₀ _ hg).1] at this; cases this), upd_other (offg e3), upd_other (offg e2), upd_other (offg e1)]
        exact cg
      have ndx : cArc (cNode c nd ad pd v r3 r4 nl al pl y2) (ra u) r4 il [] u v x dx = none := by
        unfold cArc cNode
        rw [upd_other (fun q => by have := f4; rw [← q, (N₀ _ hdx).1] at this; cases this), upd_other (offd ei), upd_other (fun q => by have := f4; rw [← q, (N₀ _ hdx).1] at this; cases this), upd_other (fun q => by have := f3; rw [← q, (N₀ _ hdx).1] at this; cases this), upd_other (offd e3), upd_other (offd e2), upd_other (offd e1)]
        exact cdx
      obtain ⟨H', N', hnew, G'⟩ := gr_make (R := [r3, r4]) F N₀ kb (List.forall_mem_cons.mpr ⟨f3, (List.forall_mem_cons.mpr ⟨f4, (List.forall_mem_nil _)⟩)⟩) hg hdx (nf (hg' hf)) (nf fun b hb => by obtain ⟨l, hl⟩ := hf b hb; exact offd hl) ng ndx hcc D9
      refine ret h' tk' H' (kb.mono fun b hb => by obtain ⟨l, hl⟩ := hf b hb; exact inC hl) N' hnew ?_
      have ens : addn (addn ns u) v = ns ++ [v] := by unfold addn; simp [hu, hv]
      rw [ens]; exact G'
  · by_cases hv : v ∈ ns
    · skip
      obtain ⟨wl, ew, kw⟩ := D.cols v hv
      obtain ⟨ov, mv, iv⟩ := hc _ _ ew
      have lw : wl.length ≤ 200 := by have := congrArg List.length kw; rw [List.length_map] at this; have := hlp v; omega
      have vw : valueAt wl u = none := valueAt_none (by rw [kw]; exact nv)
      have hf : ∀ b ∈ [nd, ad, pd, rp v], ∃ l, c b = some l := (List.forall_mem_cons.mpr ⟨⟨_, e1⟩, (List.forall_mem_cons.mpr ⟨⟨_, e2⟩, (List.forall_mem_cons.mpr ⟨⟨_, e3⟩, (List.forall_mem_cons.mpr ⟨⟨_, ew⟩, (List.forall_mem_nil _)⟩)⟩)⟩)⟩)
      have N₁ : News h₀ L s.heap [(nd, on), (ad, oa), (pd, op), (rp v, ov)] := (List.forall_mem_cons.mpr ⟨N₀ _ mn, (List.forall_mem_cons.mpr ⟨N₀ _ ma, (List.forall_mem_cons.mpr ⟨N₀ _ mp, (List.forall_mem_cons.mpr ⟨N₀ _ mv, (List.forall_mem_nil _)⟩)⟩)⟩)⟩)
      have hne : u ≠ v := fun e => hu (e ▸ hv)
      refine edge_no (ru := nd) (ivs := []) (ou := on) B F X T hk S N₁ hO (hg' hf) (hdx' hf) in_ ia ip ln la lp (nodup3 D.tops (D.offP v hv)) (List.forall_mem_cons.mpr ⟨lo e1, (List.forall_mem_cons.mpr ⟨lo e2, (List.forall_mem_cons.mpr ⟨lo e3, (List.forall_mem_cons.mpr ⟨lo ew, (List.forall_mem_nil _)⟩)⟩)⟩)⟩) (noA u hu) (noP u hu) iv ((inKa v).mpr hv) (v3 v hv) lw vw hne hdp hun fun h' tk' x r1 r2 y1 kb dn da dp_ du dv d2 f1 f2 l1 l2 hnd => ?_
      simp only [List.nodup_cons, List.mem_cons, List.not_mem_nil, or_false, not_or, not_false_eq_true, List.nodup_nil, and_true] at hnd
      have h12 := hnd
      have D1 := D.node hu (fr f1) (fr f2) l1 l2 h12 (hs u hu).1 (hs u hu).2 e1 e2 e3 y1
      have t12 : nd ≠ ad := fun e => by have := D.tops; subst e; simp at this
      have t13 : nd ≠ pd := fun e => by have := D.tops; subst e; simp at this
      have t23 : ad ≠ pd := fun e => by have := D.tops; subst e; simp at this
      have ov_ := D.offP v hv
      have a1 : (cNode c nd ad pd u r1 r2 nl al pl y1) r1 = some [] := by unfold cNode; rw [upd_other h12, upd_same]
      have a4 : (cNode c nd ad pd u r1 r2 nl al pl y1) (rp v) = some wl := by unfold cNode; rw [upd_other (Ne.symm (fne f2 ew)), upd_other (Ne.symm (fne f1 ew)), upd_other (fun q => ov_ (by rw [q]; simp)), upd_other (fun q => ov_ (by rw [q]; simp)), upd_other (fun q => ov_ (by rw [q]; simp))]; exact ew
      have D9 := DiC.arc' (ru := r1) (rv := (rp v)) D1 (by simp) (List.mem_append_left _ hv) nu nv (if_pos rfl) (if_neg (Ne.symm hne)) a1 a4 x
      have hcc : ∀ a l, cArc (cNode c nd ad pd u r1 r2 nl al pl y1) r1 (rp v) [] wl u v x a = some l → h'.DictOf (PySem.intKind PySem.Challenge.rw_fq0029_01.row.prog w) a l ∧ (a ∈ H.map (·.1) ∨ a ∈ [r1, r2]) := fun a l e => by
        unfold cArc cNode at e
        rcases upd_cases e with ⟨rfl, rfl⟩ | ⟨q0, e⟩
        · exact ⟨dv, .inl (inH mv)⟩
        rcases upd_cases e with ⟨rfl, rfl⟩ | ⟨q1, e⟩
        · exact ⟨du, .inr (by simp)⟩
        rcases upd_cases e with ⟨rfl, rfl⟩ | ⟨q2, e⟩
        · exact ⟨d2, .inr (by simp)⟩
        rcases upd_cases e with ⟨rfl, rfl⟩ | ⟨q3, e⟩
        · exact absurd rfl q1
        rcases upd_cases e with ⟨rfl, rfl⟩ | ⟨q4, e⟩
        · exact ⟨dp_, .inl (inH mp)⟩
        rcases upd_cases e with ⟨rfl, rfl⟩ | ⟨q5, e⟩
        · exact ⟨da, .inl (inH ma)⟩
        rcases upd_cases e with ⟨rfl, rfl⟩ | ⟨q6, e⟩
        · exact ⟨dn, .inl (inH mn)⟩
        exact ⟨dict_keep kb (hh _ _ e) (by simp only [List.mem_cons, List.not_mem_nil, or_false, not_or]; exact ⟨(by assumption), (by assumption), (by assumption), (by assumption)⟩), .inl (inC e)⟩
      have ng : cArc (cNode c nd ad pd u r1 r2 nl al pl y1) r1 (rp v) [] wl u v x g = none := by
        unfold cArc cNode
        rw [upd_other (offg ew), upd_other (fun q => by have := f1; rw [← q, (N₀ _ hg).1] at this; cases this), upd_other (fun q => by have := f2; rw [← q, (N₀ _ hg).1] at this; cases this), upd_other (fun q => by have := f1; rw [← q, (N₀ _ hg).1] at this; cases this), upd_other (offg e3), upd_other (offg e2), upd_other (offg e1)]
        exact cg
      have ndx : cArc (cNode c nd ad pd u r1 r2 nl al pl y1) r1 (rp v) [] wl u v x dx = none := by
        unfold cArc cNode
        rw [upd_other (offd ew), upd_other (fun q => by have := f1; rw [← q, (N₀ _ hdx).1] at this; cases this), upd_other (fun q => by have := f2; rw [← q, (N₀ _ hdx).1] at this; cases this), upd_other (fun q => by have := f1; rw [← q, (N₀ _ hdx).1] at this; cases this), upd_other (offd e3), upd_other (offd e2), upd_other (offd e1)]
        exact cdx
      obtain ⟨H', N', hnew, G'⟩ := gr_make (R := [r1, r2]) F N₀ kb (List.forall_mem_cons.mpr ⟨f1, (List.forall_mem_cons.mpr ⟨f2, (List.forall_mem_nil _)⟩)⟩) hg hdx (nf (hg' hf)) (nf fun b hb => by obtain ⟨l, hl⟩ := hf b hb; exact offd hl) ng ndx hcc D9
      refine ret h' tk' H' (kb.mono fun b hb => by obtain ⟨l, hl⟩ := hf b hb; exact inC hl) N' hnew ?_
      have ens : addn (addn ns u) v = ns ++ [u] := by unfold addn; simp [hu, hv]
      rw [ens]; exact G'
    · skip
      have hf : ∀ b ∈ [nd, ad, pd], ∃ l, c b = some l := (List.forall_mem_cons.mpr ⟨⟨_, e1⟩, (List.forall_mem_cons.mpr ⟨⟨_, e2⟩, (List.forall_mem_cons.mpr ⟨⟨_, e3⟩, (List.forall_mem_nil _)⟩)⟩)⟩)
      have N₁ : News h₀ L s.heap [(nd, on), (ad, oa), (pd, op)] := (List.forall_mem_cons.mpr ⟨N₀ _ mn, (List.forall_mem_cons.mpr ⟨N₀ _ ma, (List.forall_mem_cons.mpr ⟨N₀ _ mp, (List.forall_mem_nil _)⟩)⟩)⟩)
      have hne : u ≠ v := fun e => hu (huv e)
      refine edge_nn (ru := nd) (ivs := []) (ou := on) (rv := nd) (iws := []) (ov := on) B F X T hk S N₁ hO (hg' hf) (hdx' hf) in_ ia ip ln la lp D.tops (List.forall_mem_cons.mpr ⟨lo e1, (List.forall_mem_cons.mpr ⟨lo e2, (List.forall_mem_cons.mpr ⟨lo e3, (List.forall_mem_nil _)⟩)⟩)⟩) (noA u hu) (noP u hu) (noA v hv) (noP v hv) hne hdp hun fun h' tk' x r1 r2 y1 r3 r4 y2 kb dn da dp_ du dv d2 d3 f1 f2 f3 f4 l1 l2 l3 l4 hnd => ?_
      simp only [List.nodup_cons, List.mem_cons, List.not_mem_nil, or_false, not_or, not_false_eq_true, List.nodup_nil, and_true] at hnd
      obtain ⟨⟨h12, h13, h14⟩, ⟨h23, h24⟩, h34⟩ := hnd
      have D1 := D.node hu (fr f1) (fr f2) l1 l2 h12 (hs u hu).1 (hs u hu).2 e1 e2 e3 y1
      have t12 : nd ≠ ad := fun e => by have := D.tops; subst e; simp at this
      have t13 : nd ≠ pd := fun e => by have := D.tops; subst e; simp at this
      have t23 : ad ≠ pd := fun e => by have := D.tops; subst e; simp at this
      have c3 : cNode c nd ad pd u r1 r2 nl al pl y1 r3 = none := by unfold cNode; rw [upd_other (Ne.symm h23), upd_other (Ne.symm h13), upd_other (fne f3 e3), upd_other (fne f3 e2), upd_other (fne f3 e1)]; exact fr f3
      have c4 : cNode c nd ad pd u r1 r2 nl al pl y1 r4 = none := by unfold cNode; rw [upd_other (Ne.symm h24), upd_other (Ne.symm h14), upd_other (fne f4 e3), upd_other (fne f4 e2), upd_other (fne f4 e1)]; exact fr f4
      have g1 : cNode c nd ad pd u r1 r2 nl al pl y1 nd = some (stored nl u y1) := by unfold cNode; rw [upd_other (Ne.symm (fne f2 e1)), upd_other (Ne.symm (fne f1 e1)), upd_other t13, upd_other t12, upd_same]
      have g2 : cNode c nd ad pd u r1 r2 nl al pl y1 ad = some (stored al u (.ref r1)) := by unfold cNode; rw [upd_other (Ne.symm (fne f2 e2)), upd_other (Ne.symm (fne f1 e2)), upd_other t23, upd_same]
      have g3 : cNode c nd ad pd u r1 r2 nl al pl y1 pd = some (stored pl u (.ref r2)) := by unfold cNode; rw [upd_other (Ne.symm (fne f2 e3)), upd_other (Ne.symm (fne f1 e3)), upd_same]
      have hv2 : v ∉ ns ++ [u] := by simp [hv, Ne.symm hne]
      have D2 := D1.node hv2 c3 c4 l3 l4 h34 (hs v hv).1 (hs v hv).2 g1 g2 g3 y2
      have a1 : (cNode (cNode c nd ad pd u r1 r2 nl al pl y1) nd ad pd v r3 r4 (stored nl u y1) (stored al u (.ref r1)) (stored pl u (.ref r2)) y2) r1 = some [] := by unfold cNode; rw [upd_other h14, upd_other h13, upd_other (fne f1 e3), upd_other (fne f1 e2), upd_other (fne f1 e1), upd_other h12, upd_same]
      have a4 : (cNode (cNode c nd ad pd u r1 r2 nl al pl y1) nd ad pd v r3 r4 (stored nl u y1) (stored al u (.ref r1)) (stored pl u (.ref r2)) y2) r4 = some [] := by unfold cNode; rw [upd_same]
      have D9 := DiC.arc' (ru := r1) (rv := r4) D2 (by simp) (by simp) nu nv (by rw [if_neg hne, if_pos rfl]) (if_pos rfl) a1 a4 x
      have hcc : ∀ a l, cArc (cNode (cNode c nd ad pd u r1 r2 nl al pl y1) nd ad pd v r3 r4 (stored nl u y1) (stored al u (.ref r1)) (stored pl u (.ref r2)) y2) r1 r4 [] [] u v x a = some l → h'.DictOf (PySem.intKind PySem.Challenge.rw_fq0029_01.row.prog w) a l ∧ (a ∈ H.map (·.1) ∨ a ∈ [r1, r2, r3, r4]) := fun a l e => by
        unfold cArc cNode at e
        rcases upd_cases e with ⟨rfl, rfl⟩ | ⟨q0, e⟩
        · exact ⟨dv, .inr (by simp)⟩
        rcases upd_cases e with ⟨rfl, rfl⟩ | ⟨q1, e⟩
        · exact ⟨du, .inr (by simp)⟩
        rcases upd_cases e with ⟨rfl, rfl⟩ | ⟨q2, e⟩
        · exact absurd rfl q0
        rcases upd_cases e with ⟨rfl, rfl⟩ | ⟨q3, e⟩
        · exact ⟨d3, .inr (by simp)⟩
        rcases upd_cases e with ⟨rfl, rfl⟩ | ⟨q4, e⟩
        · exact ⟨dp_, .inl (inH mp)⟩
        rcases upd_cases e with ⟨rfl, rfl⟩ | ⟨q5, e⟩
        · exact ⟨da, .inl (inH ma)⟩
        rcases upd_cases e with ⟨rfl, rfl⟩ | ⟨q6, e⟩
        · exact ⟨dn, .inl (inH mn)⟩
        rcases upd_cases e with ⟨rfl, rfl⟩ | ⟨q7, e⟩
        · exact ⟨d2, .inr (by simp)⟩
        rcases upd_cases e with ⟨rfl, rfl⟩ | ⟨q8, e⟩
        · exact absurd rfl q1
        rcases upd_cases e with ⟨rfl, rfl⟩ | ⟨q9, e⟩
        · exact absurd rfl q4
        rcases upd_cases e with ⟨rfl, rfl⟩ | ⟨q10, e⟩
        · exact absurd rfl q5
        rcases upd_cases e with ⟨rfl, rfl⟩ | ⟨q11, e⟩
        · exact absurd rfl q6
        exact ⟨dict_keep kb (hh _ _ e) (by simp only [List.mem_cons, List.not_mem_nil, or_false, not_or]; exact ⟨(by assumption), (by assumption), (by assumption)⟩), .inl (inC e)⟩
      have ng : cArc (cNode (cNode c nd ad pd u r1 r2 nl al pl y1) nd ad pd v r3 r4 (stored nl u y1) (stored al u (.ref r1)) (stored pl u (.ref r2)) y2) r1 r4 [] [] u v x g = none := by
        unfold cArc cNode
        rw [upd_other (fun q => by have := f4; rw [← q, (N₀ _ hg).1] at this; cases this), upd_other (fun q => by have := f1; rw [← q, (N₀ _ hg).1] at this; cases this), upd_other (fun q => by have := f4; rw [← q, (N₀ _ hg).1] at this; cases this), upd_other (fun q => by have := f3; rw [← q, (N₀ _ hg).1] at this; cases this), upd_other (offg e3), upd_other (offg e2), upd_other (offg e1), upd_other (fun q => by have := f2; rw [← q, (N₀ _ hg).1] at this; cases this), upd_other (fun q => by have := f1; rw [← q, (N₀ _ hg).1] at this; cases this), upd_other (offg e3), upd_other (offg e2), upd_other (offg e1)]
        exact cg
      have ndx : cArc (cNode (cNode c nd ad pd u r1 r2 nl al pl y1) nd ad pd v r3 r4 (stored nl u y1) (stored al u (.ref r1)) (stored pl u (.ref r2)) y2) r1 r4 [] [] u v x dx = none := by
        unfold cArc cNode
        rw [upd_other (fun q => by have := f4; rw [← q, (N₀ _ hdx).1] at this; cases this), upd_other (fun q => by have := f1; rw [← q, (N₀ _ hdx).1] at this; cases this), upd_other (fun q => by have := f4; rw [← q, (N₀ _ hdx).1] at this; cases this), upd_other (fun q => by have := f3; rw [← q, (N₀ _ hdx).1] at this; cases this), upd_other (offd e3), upd_other (offd e2), upd_other (offd e1), upd_other (fun q => by have := f2; rw [← q, (N₀ _ hdx).1] at this; cases this), upd_other (fun q => by have := f1; rw [← q, (N₀ _ hdx).1] at this; cases this), upd_other (offd e3), upd_other (offd e2), upd_other (offd e1)]
        exact cdx
      obtain ⟨H', N', hnew, G'⟩ := gr_make (R := [r1, r2, r3, r4]) F N₀ kb (List.forall_mem_cons.mpr ⟨f1, (List.forall_mem_cons.mpr ⟨f2, (List.forall_mem_cons.mpr ⟨f3, (List.forall_mem_cons.mpr ⟨f4, (List.forall_mem_nil _)⟩)⟩)⟩)⟩) hg hdx (nf (hg' hf)) (nf fun b hb => by obtain ⟨l, hl⟩ := hf b hb; exact offd hl) ng ndx hcc D9
      refine ret h' tk' H' (kb.mono fun b hb => by obtain ⟨l, hl⟩ := hf b hb; exact inC hl) N' hnew ?_
      have ens : addn (addn ns u) v = ns ++ [u] ++ [v] := by unfold addn; simp [hu, hv, Ne.symm hne]
      rw [ens]; exact G'
theorem add_node_spec {w : World} {p : Program} {loose : List Str} {mean : ExcName → Option Value} {mg mb : Str → Option Value} {dp un : Nat} {gd : Option (List Code)} {cn : Str} {cs : Scope} {a : Addr} {ccd : Value} {cl : List (Str × Addr)} {outer : List Env} {A₀ : Around} {base h₀ : Heap} {L : Addr} {m : Str → Option Value} {s : Shared} {Q E : Value → Shared → Prop} {H : List (Addr × Obj)} {g : Addr} {u : Int} {tu : Tok} {ns : List Int} {sb pb : Int → List Int}
    (B : Below A₀ base outer h₀) (F : Fr h₀ L s.heap m) (X : (hd.heap_39 w.params).In h₀) (T : Top p loose mean mg mb h₀) (hk : cs.kind = .function) (S : Sys h₀) (N₀ : News h₀ L s.heap H) (hG : Gr PySem.Challenge.rw_fq0029_01.row.prog w H g ns sb pb) (hl : ns.length ≤ 100) (hls : ∀ n, (sb n).length ≤ 100) (hlp : ∀ n, (pb n).length ≤ 100) (hs : ∀ n, n ∉ ns → sb n = [] ∧ pb n = [])
    (hu : u ∉ ns) (hdp : dp + 2 < recursionLimit) (hun : un + 16 < cLine)
    (ret : ∀ h' tk' H', KeepsBut (H.map (·.1)) s.heap h' → News h₀ L h' H' → (∀ p ∈ H', p.1 ∈ H.map (·.1) ∨ s.heap.get? p.1 = none) → Gr PySem.Challenge.rw_fq0029_01.row.prog w H' g (ns ++ [u]) sb pb → Q .none { s with heap := h', toks := tk' }) :
    wpAny (model PySem.Challenge.rw_fq0029_01.row.prog w) (ktrTop dp un gd cn cs L a ccd cl outer) (call (.ref 676) [.ref g, .int u tu]) Q E s := by
  obtain ⟨c, nd, ad, pd, ra, rp, dx, k1, k2, k3, k4, k5, t1, t2, t3, t4, t5, v1, D, hg, hdx, cg, cdx, hc⟩ := hG
  have hh := holds_gr N₀ hc
  have hO : DiObj s.heap g nd ad pd := ⟨dx, k1, k2, k3, k4, k5, t1, t2, t3, t4, t5, v1, (N₀ _ hg).1, (N₀ _ hdx).1⟩
  obtain ⟨nl, e1, n1⟩ := D.nds
  obtain ⟨al, e2, n2, v2⟩ := D.ads
  obtain ⟨pl, e3, n3, v3⟩ := D.pds
  obtain ⟨on, mn, in_⟩ := hc _ _ e1
  obtain ⟨oa, ma, ia⟩ := hc _ _ e2
  obtain ⟨op, mp, ip⟩ := hc _ _ e3
  have ln : nl.length ≤ 200 := by have := congrArg List.length n1; rw [List.length_map] at this; omega
  have la : al.length ≤ 200 := by have := congrArg List.length n2; rw [List.length_map] at this; omega
  have lp : pl.length ≤ 200 := by have := congrArg List.length n3; rw [List.length_map] at this; omega
  have inH : ∀ {a : Addr} {o : Obj}, (a, o) ∈ H → a ∈ H.map (·.1) := fun hm => List.mem_map.mpr ⟨_, hm, rfl⟩
  have inC : ∀ {a : Addr} {l : List (Int × Value)}, c a = some l → a ∈ H.map (·.1) := fun e => by obtain ⟨o, ho, _⟩ := hc _ _ e; exact inH ho
  have offg : ∀ {b : Addr} {l : List (Int × Value)}, c b = some l → g ≠ b := fun e q => by rw [← q, cg] at e; cases e
  have offd : ∀ {b : Addr} {l : List (Int × Value)}, c b = some l → dx ≠ b := fun e q => by rw [← q, cdx] at e; cases e
  have hdx' : ∀ {fp : List Addr}, (∀ b ∈ fp, ∃ l, c b = some l) → ∀ dx', s.heap.get? g = some (instObj 831 dx') → ∀ b ∈ fp, dx' ≠ b := fun hf dx' e b hb => by
    rw [(N₀ _ hg).1] at e
    obtain ⟨l, hl⟩ := hf b hb
    rw [← instObj_inj (Option.some.inj e)]
    exact offd hl
  have hg' : ∀ {fp : List Addr}, (∀ b ∈ fp, ∃ l, c b = some l) → ∀ b ∈ fp, g ≠ b := fun hf b hb => by
    obtain ⟨l, hl⟩ := hf b hb
    exact offg hl
  have nf : ∀ {fp : List Addr} {x : Addr}, (∀ b ∈ fp, x ≠ b) → x ∉ fp := fun h hm => h _ hm rfl
  have lo : ∀ {a : Addr} {l : List (Int × Value)}, c a = some l → (a == sysModules) = false := fun e => by
    exact D.lo e
  have inKa : ∀ n, (∃ x, valueAt al n = some x) ↔ n ∈ ns := fun n => by rw [← Option.isSome_iff_exists, valueAt_isSome, n2]
  have inKp : ∀ n, (∃ x, valueAt pl n = some x) ↔ n ∈ ns := fun n => by rw [← Option.isSome_iff_exists, valueAt_isSome, n3]
  have noA : ∀ n, n ∉ ns → valueAt al n = none := fun n h => valueAt_none (by rw [n2]; exact h)
  have noP : ∀ n, n ∉ ns → valueAt pl n = none := fun n h => valueAt_none (by rw [n3]; exact h)
  have fr : ∀ {r : Addr}, s.heap.get? r = none → c r = none := fun h => holds_fresh hh h
  have fne : ∀ {r b : Addr} {l : List (Int × Value)}, s.heap.get? r = none → c b = some l → r ≠ b := fun h e q => by rw [q] at h; rw [fr h] at e; cases e
  have hf : ∀ b ∈ [nd, ad, pd], ∃ l, c b = some l := (List.forall_mem_cons.mpr ⟨⟨_, e1⟩, (List.forall_mem_cons.mpr ⟨⟨_, e2⟩, (List.forall_mem_cons.mpr ⟨⟨_, e3⟩, (List.forall_mem_nil _)⟩)⟩)⟩)
  have N₁ : News h₀ L s.heap [(nd, on), (ad, oa), (pd, op)] := (List.forall_mem_cons.mpr ⟨N₀ _ mn, (List.forall_mem_cons.mpr ⟨N₀ _ ma, (List.forall_mem_cons.mpr ⟨N₀ _ mp, (List.forall_mem_nil _)⟩)⟩)⟩)
  refine node_new B F X T hk S N₁ hO (hg' hf) (hdx' hf) in_ ia ip ln la lp D.tops (List.forall_mem_cons.mpr ⟨lo e1, List.forall_mem_cons.mpr ⟨lo e2, List.forall_mem_cons.mpr ⟨lo e3, List.forall_mem_nil _⟩⟩⟩) (noA u hu) (noP u hu) hdp hun fun h' tk' r1 r2 y1 kb dn da dp_ d1 d2 f1 f2 l1 l2 hnd => ?_
  simp only [List.nodup_cons, List.mem_cons, List.not_mem_nil, or_false, not_or, not_false_eq_true, List.nodup_nil, and_true] at hnd
  have h12 := hnd
  have D9 := D.node hu (fr f1) (fr f2) l1 l2 h12 (hs u hu).1 (hs u hu).2 e1 e2 e3 y1
  have hcc : ∀ a l, cNode c nd ad pd u r1 r2 nl al pl y1 a = some l → h'.DictOf (PySem.intKind PySem.Challenge.rw_fq0029_01.row.prog w) a l ∧ (a ∈ H.map (·.1) ∨ a ∈ [r1, r2]) := fun a l e => by
    unfold cNode at e
    rcases upd_cases e with ⟨rfl, rfl⟩ | ⟨q2, e⟩
    · exact ⟨d2, .inr (by simp)⟩
    rcases upd_cases e with ⟨rfl, rfl⟩ | ⟨q3, e⟩
    · exact ⟨d1, .inr (by simp)⟩
    rcases upd_cases e with ⟨rfl, rfl⟩ | ⟨q4, e⟩
    · exact ⟨dp_, .inl (inH mp)⟩
    rcases upd_cases e with ⟨rfl, rfl⟩ | ⟨q5, e⟩
    · exact ⟨da, .inl (inH ma)⟩
    rcases upd_cases e with ⟨rfl, rfl⟩ | ⟨q6, e⟩
    · exact ⟨dn, .inl (inH mn)⟩
    exact ⟨dict_keep kb (hh _ _ e) (by simp only [List.mem_cons, List.not_mem_nil, or_false, not_or]; exact ⟨(by assumption), (by assumption), (by assumption)⟩), .inl (inC e)⟩
  have ng : cNode c nd ad pd u r1 r2 nl al pl y1 g = none := by
    unfold cNode
    rw [upd_other (fun q => by have := f2; rw [← q, (N₀ _ hg).1] at this; cases this), upd_other (fun q => by have := f1; rw [← q, (N₀ _ hg).1] at this; cases this), upd_other (offg e3), upd_other (offg e2), upd_other (offg e1)]
    exact cg
  have ndx : cNode c nd ad pd u r1 r2 nl al pl y1 dx = none := by
    unfold cNode
    rw [upd_other (fun q => by have := f2; rw [← q, (N₀ _ hdx).1] at this; cases this), upd_other (fun q => by have := f1; rw [← q, (N₀ _ hdx).1] at this; cases this), upd_other (offd e3), upd_other (offd e2), upd_other (offd e1)]
    exact cdx
  obtain ⟨H', N', hnew, G'⟩ := gr_make (R := [r1, r2]) F N₀ kb (List.forall_mem_cons.mpr ⟨f1, (List.forall_mem_cons.mpr ⟨f2, (List.forall_mem_nil _)⟩)⟩) hg hdx (nf (hg' hf)) (nf fun b hb => by obtain ⟨l, hl⟩ := hf b hb; exact offd hl) ng ndx hcc D9
  exact ret h' tk' H' (kb.mono fun b hb => by obtain ⟨l, hl⟩ := hf b hb; exact inC hl) N' hnew G'
theorem ged_perm {α : Type} : ∀ (l : List α) (i : Nat) (h : i < l.length), (l[i] :: l.eraseIdx i).Perm l
  | x :: r, 0, _ => by simp
  | x :: r, i + 1, h => by
    have := ged_perm r i (by simpa using h)
    rw [List.eraseIdx_cons_succ, List.getElem_cons_succ]
    exact (List.Perm.swap _ _ _).trans (List.Perm.cons _ this)
theorem go_perm {α : Type} (next : Nat → Nat) : ∀ (fuel k : Nat) (left : List α) (out : Array α), left.length = fuel → (pickOrder.go next fuel k left out).toList.Perm (out.toList ++ left)
  | 0, k, left, out, h => by
    have : left = [] := List.length_eq_zero_iff.mp h
    subst this
    unfold pickOrder.go
    rw [List.append_nil]
  | fuel + 1, k, left, out, h => by
    unfold pickOrder.go
    have hlt : next k % left.length < left.length := Nat.mod_lt _ (by omega)
    rw [List.getElem?_eq_getElem hlt]
    refine (go_perm next fuel (k + 1) _ _ (by rw [List.length_eraseIdx, if_pos hlt]; omega)).trans ?_
    rw [Array.toList_push, List.append_assoc]
    exact List.Perm.append_left _ (ged_perm left _ hlt)
theorem pickOrder_perm {α : Type} (next : Nat → Nat) (xs : Array α) : (pickOrder next xs).toList.Perm xs.toList := by
  unfold pickOrder
  have := go_perm next xs.size 0 xs.toList #[] (by simp)
  simpa using this
section
variable {prog : Program} {w : World} {A : Around} {E : Value → Shared → Prop} {s : Shared} {a : Addr} {o : Obj} {es : Array (Int × Value)} {ep : Nat} {t : SetTable}
theorem wp_byText {Q : Bool → Shared → Prop} (h : Q (w.params.followText "set-order") s) : wpAny (model prog w) A setsByText Q E s := by
  unfold setsByText
  exact wpAny_bind (wpAny_askSetting (wpAny_pure h))
theorem wp_setWalk {Q : Array (Int × Value) → Shared → Prop} (ho : s.heap.get? a = some o) (hd : o.data = .set es ep t) (hf : t.fits es.size = true)
    (hc : w.params.followText "set-order" = true ∨ (t.led = true ∧ t.plain = true) ∨ es.size ≤ 1) (h : ∀ es' : Array (Int × Value), es'.toList.Perm es.toList → Q es' s) : wpAny (model prog w) A (setWalk a) Q E s := by
  unfold setWalk
  refine wpAny_bind (wpAny_setState_of ho hd hf ?_)
  dsimp only
  refine wpAny_bind (wp_byText ?_)
  cases hb : w.params.followText "set-order" with
  | true =>
    simp only [↓reduceIte]
    exact wpAny_bind (wpAny_askSetting (wpAny_pure (h _ (pickOrder_perm _ _))))
  | false =>
    simp only [Bool.false_eq_true, ↓reduceIte]
    have hc' : (t.led = true ∧ t.plain = true) ∨ es.size ≤ 1 := hc.resolve_left (by rw [hb]; simp)
    have h1 : (!t.plain && decide (es.size > 1)) = false := by
      rcases hc' with ⟨_, e⟩ | e
      · rw [e]; rfl
      · rw [decide_eq_false (Nat.not_lt.mpr e), Bool.and_false]
    have h2 : (!t.led && decide (es.size > 1)) = false := by
      rcases hc' with ⟨e, _⟩ | e
      · rw [e]; rfl
      · rw [decide_eq_false (Nat.not_lt.mpr e), Bool.and_false]
    show wpAny _ _ (if (!t.plain && decide (es.size > 1)) = true then _ else _) _ _ _
    rw [h1]
    simp only [Bool.false_eq_true, ↓reduceIte]
    show wpAny _ _ ((if (!t.led && decide (es.size > 1)) = true then unsupported _ else pure ()) >>= _) _ _ _
    rw [h2]
    simp only [Bool.false_eq_true, ↓reduceIte]
    exact wpAny_bind (wpAny_pure (wpAny_pure (h _ (List.Perm.refl _))))
theorem wp_setEntries {Q : Array (Int × Value) → Shared → Prop} (ho : s.heap.get? a = some o) (hd : o.data = .set es ep t) (hf : t.fits es.size = true) (h : Q es s) : wpAny (model prog w) A (setEntries a) Q E s := by
  unfold setEntries
  exact wpAny_bind (wpAny_setState_of ho hd hf (wpAny_pure h))
theorem elem_int {l : List (Int × Value)} (h : ElemsOf (PySem.intKind prog w) l) : ∀ e ∈ l, ∃ k t, e.2 = .int k t ∧ e.1 = (PySem.intKind prog w).hash k := fun e he => by
  obtain ⟨⟨k, hk, hh⟩, _⟩ := h e he
  obtain ⟨t, ht⟩ := Value.isInt_shape hk
  exact ⟨k, t, ht, hh⟩
theorem forIn_same {β γ : Type} {M : Model} {l : List γ} {b : β} {body : γ → β → Sem (ForInStep β)} (hb : ∀ x ∈ l, ∀ Q' : ForInStep β → Shared → Prop, Q' (.yield b) s → wpAny M A (body x b) Q' E s)
    {Q : β → Shared → Prop} (h : Q b s) : wpAny M A (forIn l b body) Q E s := by
  induction l with
  | nil => rw [List.forIn_nil]; exact wpAny_pure h
  | cons x r ih =>
    rw [List.forIn_cons]
    refine wpAny_bind (hb x (.head _) _ ?_)
    exact ih fun y hy => hb y (.tail _ hy)
theorem wp_quiet {Q : Bool → Shared → Prop} {l : List Addr} (hl : ∀ b ∈ l, ∃ S n, s.heap.SetOf (PySem.intKind prog w) b S n) (h : Q true s) : wpAny (model prog w) A (setsQuiet l) Q E s := by
  unfold setsQuiet
  refine wpAny_bind (forIn_same (fun b hb Q' hQ' => ?_) (wpAny_pure h))
  obtain ⟨S, n, o, es, ep, t, ho, _, hd, hel, _, _, hf, _⟩ := hl b hb
  refine wpAny_bind (wp_setEntries ho hd hf ?_)
  refine wpAny_bind ?_
  rw [← Array.forIn_toList]
  refine forIn_same (fun e he Q'' hQ'' => ?_) (wpAny_pure hQ')
  obtain ⟨k, t, h2, _⟩ := elem_int hel e he
  obtain ⟨e1, e2⟩ := e
  cases h2
  exact wpAny_pure hQ''
end
section
variable {prog : Program} {w : World} {A : Around} {E : Value → Shared → Prop} {s : Shared}
/-- the walk of a set of ints: its entries in some order -/
def Enum (prog : Program) (w : World) (S : Int → Bool) (n : Nat) (l : List (Int × Value)) : Prop :=
  ElemsOf (PySem.intKind prog w) l ∧ (∀ k, S k = true ↔ ∃ e ∈ l, (PySem.intKind prog w).is k e.2 = true) ∧ l.length = n
theorem Enum.perm {S : Int → Bool} {n : Nat} {l l' : List (Int × Value)} (h : Enum prog w S n l) (p : l'.Perm l) : Enum prog w S n l' :=
  ⟨h.1.perm p, fun k => (h.2.1 k).trans ⟨fun ⟨e, he, x⟩ => ⟨e, p.mem_iff.mpr he, x⟩, fun ⟨e, he, x⟩ => ⟨e, p.mem_iff.mp he, x⟩⟩, p.length_eq.trans h.2.2⟩
theorem wp_walkUnseen {a f : Addr} {S Sf : Int → Bool} {n nf : Nat} {others : List Addr} {Q : Array (Int × Value) → Shared → Prop} (ha : s.heap.SetOf (PySem.intKind prog w) a S n) (hf : s.heap.SetOf (PySem.intKind prog w) f Sf nf)
    (ho : ∀ b ∈ others, ∃ S n, s.heap.SetOf (PySem.intKind prog w) b S n)
    (h : ∀ es' h', Heap.SameBut f s.heap h' → h'.SetOf (PySem.intKind prog w) f Sf nf → Enum prog w S n es'.toList → Q es' { s with heap := h' }) :
    wpAny (model prog w) A (setWalkUnseen a others (some f)) Q E s := by
  obtain ⟨o, es, ep, t, hoo, hex, hd, hel, hmem, hb, hft, hn⟩ := id ha
  have hE : Enum prog w S n es.toList := ⟨hel, hmem, by rw [Array.length_toList]; exact hn⟩
  have same : ∀ es', Enum prog w S n es'.toList → Q es' s := fun es' he => h es' s.heap (Heap.SameBut.refl _ _) hf he
  unfold setWalkUnseen
  refine wpAny_bind (wpAny_setState_of hoo hd hft ?_)
  dsimp only
  refine wpAny_bind (wp_byText ?_)
  by_cases hc : (w.params.followText "set-order" || (t.led && t.plain) || decide (es.size ≤ 1)) = true
  · rw [if_pos hc]
    refine wp_setWalk hoo hd hft ?_ fun es' p => same es' (hE.perm p)
    simpa [Bool.or_eq_true, or_assoc] using hc
  · rw [if_neg hc]
    refine wpAny_bind (wp_quiet (fun b hb => ?_) ?_)
    · rcases List.mem_cons.mp hb with rfl | hb
      · exact ⟨_, _, ha⟩
      · exact ho b hb
    simp only [Bool.not_true, Bool.false_eq_true, ↓reduceIte]
    refine wpAny_bind (wpAny_rule ?_)
    obtain ⟨o2, es2, ep2, t2, hoo2, hex2, hd2, hel2, hmem2, hb2, hft2, hn2⟩ := id hf
    refine wpAny_bind (wpAny_setState_of hoo2 hd2 hft2 ?_)
    dsimp only
    split
    · refine wpAny_bind (wpAny_storeSet_of hoo2 hd2 ?_ (fits_of_scanBound hb2))
      refine wpAny_pure ?_
      have fit3 : ({ t2 with led := t2.led && t.led, plain := t2.plain && t.plain } : SetTable).fits es2.size = true := hft2
      have := SetOf_store (knd := PySem.intKind prog w) (S' := Sf) hoo2 hex2 hd2 hel2 hmem2 hb2 fit3
      exact h es _ (Heap.SameBut.update _ _ _) (hn2 ▸ this.2) hE
    · exact wpAny_pure (same es hE)
theorem wp_walkUnseen0 {a : Addr} {S : Int → Bool} {n : Nat} {others : List Addr} {Q : Array (Int × Value) → Shared → Prop} (ha : s.heap.SetOf (PySem.intKind prog w) a S n)
    (ho : ∀ b ∈ others, ∃ S n, s.heap.SetOf (PySem.intKind prog w) b S n) (h : ∀ es', Enum prog w S n es'.toList → Q es' s) :
    wpAny (model prog w) A (setWalkUnseen a others none) Q E s := by
  obtain ⟨o, es, ep, t, hoo, hex, hd, hel, hmem, hb, hft, hn⟩ := id ha
  have hE : Enum prog w S n es.toList := ⟨hel, hmem, by rw [Array.length_toList]; exact hn⟩
  unfold setWalkUnseen
  refine wpAny_bind (wpAny_setState_of hoo hd hft ?_)
  dsimp only
  refine wpAny_bind (wp_byText ?_)
  by_cases hc : (w.params.followText "set-order" || (t.led && t.plain) || decide (es.size ≤ 1)) = true
  · rw [if_pos hc]
    refine wp_setWalk hoo hd hft ?_ fun es' p => h es' (hE.perm p)
    simpa [Bool.or_eq_true, or_assoc] using hc
  · rw [if_neg hc]
    refine wpAny_bind (wp_quiet (fun b hb => ?_) ?_)
    · rcases List.mem_cons.mp hb with rfl | hb
      · exact ⟨_, _, ha⟩
      · exact ho b hb
    simp only [Bool.not_true, Bool.false_eq_true, ↓reduceIte]
    refine wpAny_bind (wpAny_rule ?_)
    exact wpAny_bind (wpAny_pure (wpAny_pure (h es hE)))
theorem forIn_inv {β γ : Type} {M : Model} {b : β} {body : γ → β → Sem (ForInStep β)} (I : List γ → Shared → Prop)
    (step : ∀ x r s, I (x :: r) s → ∀ Q' : ForInStep β → Shared → Prop, (∀ s', I r s' → Q' (.yield b) s') → wpAny M A (body x b) Q' E s) {Q : β → Shared → Prop} :
    ∀ l s, I l s → (∀ s', I [] s' → Q b s') → wpAny M A (forIn l b body) Q E s
  | [], s, hI, h => by rw [List.forIn_nil]; exact wpAny_pure (h s hI)
  | x :: r, s, hI, h => by
    rw [List.forIn_cons]
    exact wpAny_bind (step x r s hI _ fun s' hI' => forIn_inv I step r s' hI' h)
theorem setOf_same {h h' : Heap} {a b : Addr} {S : Int → Bool} {n : Nat} (hs : Heap.SameBut b h h') (hab : a ≠ b) (ha : h.SetOf (PySem.intKind prog w) a S n) : h'.SetOf (PySem.intKind prog w) a S n := by
  obtain ⟨o, es, ep, t, ho, r⟩ := ha
  exact ⟨o, es, ep, t, (hs.2 a hab).trans ho, r⟩
/-- one of two different sets of ints with the other: what both hold -/
theorem wp_inter {nm : String} {a b : Addr} {Sa Sb : Int → Bool} {na nb : Nat} {Q : Value → Shared → Prop} (hab : a ≠ b) (ha : s.heap.SetOf (PySem.intKind prog w) a Sa na) (hb : s.heap.SetOf (PySem.intKind prog w) b Sb nb) (hna : na ≤ 1000) (hnb : nb ≤ 1000)
    (h : ∀ h' n, (∀ c o, s.heap.get? c = some o → h'.get? c = some o) → h'.SetOf (PySem.intKind prog w) s.heap.objs.size (fun k => Sa k && Sb k) n → n ≤ 1000 → Q (.ref s.heap.objs.size) { s with heap := h' }) :
    wpAny (model prog w) A (Builtin.Frozenset.intersection nm a (.ref b)) Q E s := by
  have hTa : s.TypeIs (.ref a) "set" := by obtain ⟨o, _, _, _, ho, hex, _⟩ := ha; exact ⟨o, ho, hex.1⟩
  have hTb : s.TypeIs (.ref b) "set" := by obtain ⟨o, _, _, _, ho, hex, _⟩ := hb; exact ⟨o, ho, hex.1⟩
  unfold Builtin.Frozenset.intersection
  have hne : ((Value.ref b) == (Value.ref a)) = false := by
    rw [beq_eq_false_iff_ne]; intro e; cases e; exact hab rfl
  rw [hne]
  simp only [Bool.false_eq_true, ↓reduceIte]
  unfold Builtin.Frozenset.baseOf
  refine wpAny_bind (wpAny_bind (wpAny_isInstance hTa sub_set_self (wpAny_pure ?_)))
  simp only [↓reduceIte]
  refine wpAny_bind (wpAny_newSet_of (knd := PySem.intKind prog w) fun led hr => ?_)
  unfold Builtin.Frozenset.addrOf
  refine wpAny_bind (wpAny_pure ?_)
  dsimp only
  have hlt : ∀ {c : Addr} {o : Obj}, s.heap.get? c = some o → c ≠ s.heap.objs.size := fun e => Nat.ne_of_lt (Heap.lt_size e)
  have ha0 : (s.heap.push { cls := Value.type "set", data := Data.set #[] 0 (SetTable.fresh 0 0 led) }).SetOf (PySem.intKind prog w) a Sa na := by obtain ⟨o, es, ep, t, ho, r⟩ := ha; exact ⟨o, es, ep, t, Heap.get?_push_of_some _ ho, r⟩
  have hb0 : (s.heap.push { cls := Value.type "set", data := Data.set #[] 0 (SetTable.fresh 0 0 led) }).SetOf (PySem.intKind prog w) b Sb nb := by obtain ⟨o, es, ep, t, ho, r⟩ := hb; exact ⟨o, es, ep, t, Heap.get?_push_of_some _ ho, r⟩
  have har : a ≠ s.heap.objs.size := by obtain ⟨o, es, ep, t, ho, r⟩ := ha; exact hlt ho
  have hbr : b ≠ s.heap.objs.size := by obtain ⟨o, es, ep, t, ho, r⟩ := hb; exact hlt ho
  have hT2 : Shared.TypeIs { s with heap := s.heap.push { cls := Value.type "set", data := Data.set #[] 0 (SetTable.fresh 0 0 led) } } (.ref b) "set" := by obtain ⟨o, _, _, _, ho, hex, _⟩ := hb0; exact ⟨o, ho, hex.1⟩
  have big : ∀ {n : Nat}, n ≤ 1000 → n < scanBound := fun h => by unfold scanBound; omega
  have loop : ∀ (asked walked : Addr) (Sk Sw : Int → Bool) (nk nw : Nat), asked ≠ s.heap.objs.size → walked ≠ s.heap.objs.size → nw ≤ 1000 → (∀ k, (Sw k && Sk k) = (Sa k && Sb k)) →
      (s.heap.push { cls := Value.type "set", data := Data.set #[] 0 (SetTable.fresh 0 0 led) }).SetOf (PySem.intKind prog w) asked Sk nk → (s.heap.push { cls := Value.type "set", data := Data.set #[] 0 (SetTable.fresh 0 0 led) }).SetOf (PySem.intKind prog w) walked Sw nw →
      wpAny (model prog w) A (do
              let was ← setEpoch walked
              let es ← setWalkUnseen walked [asked, s.heap.objs.size] (some s.heap.objs.size)
              forIn es PUnit.unit fun x __s => do
                  holding [x.snd] do
                      let r ← setFind asked x.snd x.fst
                      if r.isSome = true then do
                          let _ ← setAddHashed s.heap.objs.size x.snd x.fst
                          pure ()
                        else pure ()
                  Builtin.Frozenset.unchanged nm walked was
                  pure (ForInStep.yield PUnit.unit)
              pure ()) (fun _ s' => Q (.ref s.heap.objs.size) s') E { s with heap := s.heap.push { cls := Value.type "set", data := Data.set #[] 0 (SetTable.fresh 0 0 led) } } := by
    intro asked walked Sk Sw nk nw nka nkw hnw hS hk hw
    obtain ⟨ow, esw, epw, tw, how, hexw, hdw, helw, hmemw, hbw, hftw, hnnw⟩ := id hw
    refine wpAny_bind (wpAny_setEpoch_of how hdw hftw ?_)
    refine wpAny_bind (wp_walkUnseen hw hr (fun c hc => ?_) fun es' h1 hs1 hr1 hE => ?_)
    · rcases List.mem_cons.mp hc with rfl | hc
      · exact ⟨_, _, hk⟩
      · rw [List.mem_singleton.mp hc]; exact ⟨_, _, hr⟩
    refine wpAny_bind ?_
    rw [← Array.forIn_toList]
    refine forIn_inv (fun l s' => ∃ h2 n R done, s' = { s with heap := h2 } ∧ Heap.SameBut s.heap.objs.size (s.heap.push { cls := Value.type "set", data := Data.set #[] 0 (SetTable.fresh 0 0 led) }) h2 ∧ es'.toList = done ++ l ∧ h2.SetOf (PySem.intKind prog w) s.heap.objs.size R n ∧ n ≤ done.length ∧
      ∀ k, R k = true ↔ (∃ e ∈ done, (PySem.intKind prog w).is k e.2 = true) ∧ Sk k = true) ?_ es'.toList _ ⟨h1, 0, fun _ => false, [], rfl, hs1, rfl, hr1, Nat.le_refl _, fun k => by simp⟩ ?_
    · rintro x r s' ⟨h2, n, R, done, rfl, hs2, hl, hR, hn, hmem⟩ Q' hQ'
      have hxl : x ∈ es'.toList := by rw [hl]; simp
      obtain ⟨⟨k, hkx, hh⟩, hsc⟩ := hE.1 x hxl
      have hk2 := setOf_same hs2 nka hk
      have hw2 : h2.get? walked = some ow := (hs2.2 walked nkw).trans how
      have hlen : n + 1 < scanBound := by
        have : es'.toList.length = nw := hE.2.2
        rw [hl, List.length_append, List.length_cons] at this
        unfold scanBound; omega
      have hdl : es'.toList = (done ++ [x]) ++ r := by rw [hl]; simp
      have iff1 : ∀ j, (PySem.intKind prog w).is j x.2 = true ↔ j = k := fun j => by rw [KeyKind.is_eq_decide hkx j, decide_eq_true_eq]
      refine wpAny_bind (wpAny_holding ?_)
      rw [hh]
      refine wpAny_bind (wpAny_setFind_of hkx hsc hk2 fun r? hr? => ?_)
      have fin : ∀ s', (∃ h2 n R, s' = { s with heap := h2 } ∧ Heap.SameBut s.heap.objs.size (s.heap.push { cls := Value.type "set", data := Data.set #[] 0 (SetTable.fresh 0 0 led) }) h2 ∧ h2.SetOf (PySem.intKind prog w) s.heap.objs.size R n ∧ n ≤ (done ++ [x]).length ∧
          ∀ k, R k = true ↔ (∃ e ∈ done ++ [x], (PySem.intKind prog w).is k e.2 = true) ∧ Sk k = true) → wpAny (model prog w) A (do
                  Builtin.Frozenset.unchanged nm walked epw
                  pure (ForInStep.yield PUnit.unit)) Q' E s' := by
        rintro s' ⟨h3, n3, R3, rfl, hs3, hR3, hn3, hmem3⟩
        unfold Builtin.Frozenset.unchanged
        refine wpAny_bind (wpAny_bind (wpAny_setEpoch_of ((hs3.2 walked nkw).trans how) hdw hftw ?_))
        simp only [bne_self_eq_false, Bool.false_eq_true, ↓reduceIte]
        exact wpAny_pure (wpAny_pure (hQ' _ ⟨h3, n3, R3, done ++ [x], rfl, hs3, hdl, hR3, hn3, hmem3⟩))
      have exd : ∀ j, (∃ e ∈ done ++ [x], (PySem.intKind prog w).is j e.2 = true) ↔ (∃ e ∈ done, (PySem.intKind prog w).is j e.2 = true) ∨ j = k := fun j => by
        constructor
        · rintro ⟨e, he, hj⟩
          rcases List.mem_append.mp he with he | he
          · exact .inl ⟨e, he, hj⟩
          · rw [List.mem_singleton.mp he] at hj; exact .inr ((iff1 j).mp hj)
        · rintro (⟨e, he, hj⟩ | hj)
          · exact ⟨e, List.mem_append_left _ he, hj⟩
          · exact ⟨x, by simp, (iff1 j).mpr hj⟩
      cases hb' : r?.isSome with
      | true =>
        simp only [↓reduceIte]
        refine wpAny_bind (wpAny_setAddHashed_of (s := { s with heap := h2 }) hkx hsc hR hlen fun h3 hs3 hR3 => wpAny_pure ?_)
        refine fin _ ⟨h3, _, _, rfl, hs2.trans hs3, hR3, ?_, fun j => ?_⟩
        · rw [List.length_append]; simp only [List.length_cons, List.length_nil]; split <;> omega
        · rw [Bool.or_eq_true, decide_eq_true_eq, hmem j, exd j]
          have hkk : Sk k = true := by rw [← hr?, hb']
          constructor
          · rintro (⟨p, q⟩ | rfl)
            · exact ⟨.inl p, q⟩
            · exact ⟨.inr rfl, hkk⟩
          · rintro ⟨p | rfl, q⟩
            · exact .inl ⟨p, q⟩
            · exact .inr rfl
      | false =>
        simp only [Bool.false_eq_true, ↓reduceIte]
        refine wpAny_pure (fin _ ⟨h2, n, R, rfl, hs2, hR, by rw [List.length_append]; omega, fun j => ?_⟩)
        have hkk : Sk k = false := by rw [← hr?, hb']
        rw [hmem j, exd j]
        constructor
        · rintro ⟨p, q⟩; exact ⟨.inl p, q⟩
        · rintro ⟨p | rfl, q⟩
          · exact ⟨p, q⟩
          · rw [hkk] at q; cases q
    · rintro s' ⟨h2, n, R, done, rfl, hs2, hl, hR, hn, hmem⟩
      rw [List.append_nil] at hl
      have hRe : R = fun k => Sa k && Sb k := funext fun k => by
        rw [← hS k]
        have h1 := hmem k
        have h2 := hE.2.1 k
        rw [hl] at h2
        rw [Bool.eq_iff_iff, h1, Bool.and_eq_true, h2]
      subst hRe
      refine wpAny_pure (h h2 n (fun c o e => (hs2.2 c (hlt e)).trans (Heap.get?_push_of_some _ e)) hR ?_)
      have : es'.toList.length = nw := hE.2.2
      rw [hl] at this; omega
  refine wpAny_bind (wpAny_holding ?_)
  unfold Builtin.Frozenset.isAnySet
  refine wpAny_bind ?_
  show wpAny _ _ (isInstance (Value.ref b) (Value.type "set") >>= _) _ _ _
  refine wpAny_bind (wpAny_isInstance hT2 sub_set_self ?_)
  refine wpAny_pure ?_
  simp only [↓reduceIte]
  refine wpAny_bind (wpAny_pure ?_)
  unfold Builtin.Frozenset.sizeOf
  obtain ⟨o1, es1, ep1, t1, ho1, hex1, hd1, hel1, hmem1, hb1, hft1, hn1⟩ := _root_.id hb0
  obtain ⟨o2, es2, ep2, t2, ho2, hex2, hd2, hel2, hmem2, hb2, hft2, hn2⟩ := _root_.id ha0
  refine wpAny_bind (wpAny_bind (wp_setEntries ho1 hd1 hft1 (wpAny_pure ?_)))
  refine wpAny_bind (wpAny_bind (wp_setEntries ho2 hd2 hft2 (wpAny_pure ?_)))
  by_cases hgt : es1.size > es2.size
  · rw [if_pos hgt]
    exact wpAny_mono (loop b a Sb Sa nb na hbr har hna (fun k => rfl) hb0 ha0) (fun _ s' hq => wpAny_pure hq) fun _ _ x => x
  · rw [if_neg hgt]
    exact wpAny_mono (loop a b Sa Sb na nb har hbr hnb (fun k => Bool.and_comm _ _) ha0 hb0) (fun _ s' hq => wpAny_pure hq) fun _ _ x => x
end
open SetTable in
def it (M : Nat) : Nat → Nat × Nat → Nat × Nat
  | 0, x => x
  | t + 1, x => it M t (leap M x.1 x.2)
open SetTable in
theorem free_none (M : Nat) (owner : Array (Option Nat)) : ∀ (fuel i p : Nat), layClean.free M owner fuel i p = none → ∀ t, t < fuel → (owner.getD (it M t (i, p)).1 (some 0)).isNone = false
  | 0, i, p, _, t, ht => absurd ht (Nat.not_lt_zero _)
  | fuel + 1, i, p, h, t, ht => by
    unfold layClean.free at h
    cases hf : (List.range (runEnd M i + 1 - i)).find? fun k => (owner.getD (i + k) (some 0)).isNone with
    | some k => rw [hf] at h; cases h
    | none =>
      rw [hf] at h
      cases t with
      | zero =>
        have h0 := List.find?_eq_none.mp hf 0 (List.mem_range.mpr (by unfold runEnd; split <;> omega))
        exact Bool.eq_false_iff.mpr h0
      | succ t =>
        have := free_none M owner fuel (leap M i p).1 (leap M i p).2 h t (by omega)
        exact this
open SetTable in
theorem free_some (M : Nat) (owner : Array (Option Nat)) : ∀ (fuel i p j : Nat), layClean.free M owner fuel i p = some j → (owner.getD j (some 0)).isNone = true
  | 0, i, p, j, h => by unfold layClean.free at h; cases h
  | fuel + 1, i, p, j, h => by
    unfold layClean.free at h
    cases hf : (List.range (runEnd M i + 1 - i)).find? fun k => (owner.getD (i + k) (some 0)).isNone with
    | some k =>
      rw [hf] at h
      cases h
      have := List.find?_some hf
      exact this
    | none => rw [hf] at h; exact free_some M owner fuel _ _ j h
theorem it_add (M : Nat) : ∀ (a b : Nat) (x : Nat × Nat), it M (a + b) x = it M b (it M a x)
  | 0, b, x => by rw [Nat.zero_add]; rfl
  | a + 1, b, x => by rw [Nat.succ_add]; exact it_add M a b _
open SetTable in
theorem it_snd (M : Nat) : ∀ (t : Nat) (x : Nat × Nat), (it M t x).2 = x.2 / 32 ^ t
  | 0, x => by simp [it]
  | t + 1, x => by
    show (it M t (leap M x.1 x.2)).2 = _
    rw [it_snd M t]
    show x.2 / 32 / 32 ^ t = _
    rw [Nat.div_div_eq_div_mul, Nat.pow_succ, Nat.mul_comm]
open SetTable in
theorem it_fst (M t : Nat) (x : Nat × Nat) : (it M (t + 1) x).1 < M + 1 := by
  rw [it_add M t 1]
  exact Nat.mod_lt _ (Nat.succ_pos _)
def covers (M : Nat) : Bool := (List.range (M + 1)).all fun i => (List.range (M + 1)).all fun j => (List.range (M + 1)).any fun t => (it M t (i, 0)).1 == j
theorem covers_is (M : Nat) (h : covers M = true) {i j : Nat} (hi : i < M + 1) (hj : j < M + 1) : ∃ t, t < M + 1 ∧ (it M t (i, 0)).1 = j := by
  unfold covers at h
  have h1 := List.all_eq_true.mp h i (List.mem_range.mpr hi)
  have h2 := List.all_eq_true.mp h1 j (List.mem_range.mpr hj)
  obtain ⟨t, ht, e⟩ := List.any_eq_true.mp h2
  exact ⟨t, List.mem_range.mp ht, eq_of_beq e⟩
theorem covers7 : covers 7 = true := by decide +kernel
theorem covers15 : covers 15 = true := by decide +kernel
theorem covers31 : covers 31 = true := by decide +kernel
open SetTable in
theorem free_is {M : Nat} (hM : covers M = true) {owner : Array (Option Nat)} (hs : owner.size = M + 1) {j₀ : Nat} (hj : j₀ < M + 1) (h0 : owner.getD j₀ (some 0) = none) (i : Nat) {p : Nat} (hp : p < 2 ^ 64) :
    ∃ j, layClean.free M owner (turns M) i p = some j ∧ j < M + 1 ∧ owner.getD j none = none := by
  cases h : layClean.free M owner (turns M) i p with
  | none =>
    exfalso
    have hn := free_none M owner _ i p h
    have h13 : (it M 13 (i, p)).2 = 0 := by rw [it_snd]; exact Nat.div_eq_of_lt (Nat.lt_of_lt_of_le hp (by decide))
    have hf := it_fst M 12 (i, p)
    obtain ⟨t, ht, e⟩ := covers_is M hM hf hj
    have := hn (13 + t) (by unfold turns; omega)
    rw [it_add] at this
    have e2 : it M 13 (i, p) = ((it M (12 + 1) (i, p)).1, 0) := by rw [← h13]
    rw [e2, e, h0] at this
    cases this
  | some j =>
    have hj := free_some M owner _ i p j h
    have hlt : j < owner.size := by
      rcases Nat.lt_or_ge j owner.size with hl | hl
      · exact hl
      · rw [Array.getD, dif_neg (Nat.not_lt.mpr hl)] at hj; cases hj
    refine ⟨j, rfl, hs ▸ hlt, ?_⟩
    rw [Array.getD, dif_pos hlt] at hj ⊢
    exact Option.isNone_iff_eq_none.mp hj
theorem fm_congr {f f' : Nat → Option Nat} : ∀ l : List Nat, (∀ y ∈ l, f' y = f y) → l.filterMap f' = l.filterMap f
  | [], _ => rfl
  | x :: r, h => by rw [List.filterMap_cons, List.filterMap_cons, h x (.head _), fm_congr r fun y hy => h y (.tail _ hy)]
theorem fm_update {f f' : Nat → Option Nat} {j k : Nat} (hf : f j = none) (hf' : f' j = some k) (hne : ∀ x, x ≠ j → f' x = f x) : ∀ l : List Nat, l.Nodup → j ∈ l → (l.filterMap f').Perm (k :: l.filterMap f)
  | [], _, h => nomatch h
  | x :: r, hn, h => by
    rw [List.nodup_cons] at hn
    by_cases e : x = j
    · subst e
      have hr : r.filterMap f' = r.filterMap f := fm_congr _ fun y hy => hne y fun e => hn.1 (e ▸ hy)
      rw [List.filterMap_cons, List.filterMap_cons, hf, hf', hr]
    · have hj : j ∈ r := (List.mem_cons.mp h).resolve_left fun q => e q.symm
      have ih := fm_update hf hf' hne r hn.2 hj
      rw [List.filterMap_cons, List.filterMap_cons, hne x e]
      cases f x with
      | none => exact ih
      | some y => exact (List.Perm.cons y ih).trans (List.Perm.swap _ _ _)
theorem fm_full {f : Nat → Option Nat} : ∀ l : List Nat, (∀ x ∈ l, f x ≠ none) → (l.filterMap f).length = l.length
  | [], _ => rfl
  | x :: r, h => by
    rw [List.filterMap_cons]
    cases e : f x with
    | none => exact absurd e (h x (.head _))
    | some y => rw [List.length_cons, List.length_cons, fm_full r fun z hz => h z (.tail _ hz)]

def liveOf (M : Nat) (owner : Array (Option Nat)) : List Nat := (List.range (M + 1)).filterMap fun j => owner.getD j none
theorem bits_lt (h : Int) : SetTable.bits h < 2 ^ 64 := by
  unfold SetTable.bits
  omega
open SetTable in
theorem fold_clean {M : Nat} (hM : covers M = true) : ∀ (hs : List Int) (owner : Array (Option Nat)) (k : Nat), owner.size = M + 1 → (liveOf M owner).Perm (List.range k) → k + hs.length ≤ M →
    ∃ owner', (hs.foldl (fun acc h => do
        let (owner, k) ← acc
        let j ← layClean.free M owner (turns M) (bits h % (M + 1)) (bits h)
        pure (owner.setIfInBounds j (some k), k + 1)) (some (owner, k))) = some (owner', k + hs.length) ∧ owner'.size = M + 1 ∧ (liveOf M owner').Perm (List.range (k + hs.length))
  | [], owner, k, hs, hp, _ => ⟨owner, rfl, hs, hp⟩
  | x :: r, owner, k, hs, hp, hk => by
    rw [List.length_cons] at hk
    have hfree : ∃ j, j < M + 1 ∧ owner.getD j (some 0) = none := by
      apply Classical.byContradiction
      intro hn
      have hall : ∀ j ∈ List.range (M + 1), owner.getD j none ≠ none := fun j hj e => by
        have hj' := List.mem_range.mp hj
        refine hn ⟨j, hj', ?_⟩
        rw [Array.getD, dif_pos (hs ▸ hj')] at e ⊢
        exact e
      have h1 := fm_full _ hall
      have h2 := hp.length_eq
      unfold liveOf at h2
      rw [h1, List.length_range, List.length_range] at h2
      omega
    obtain ⟨j₀, hj₀, h0⟩ := hfree
    obtain ⟨j, hj, hlt, hnone⟩ := free_is hM hs hj₀ h0 (bits x % (M + 1)) (bits_lt x)
    have hs' : (owner.setIfInBounds j (some k)).size = M + 1 := by rw [Array.size_setIfInBounds]; exact hs
    have hget : ∀ y, (owner.setIfInBounds j (some k)).getD y none = if y = j then some k else owner.getD y none := fun y => by
      by_cases e : y = j
      · subst e
        rw [if_pos rfl, Array.getD, dif_pos (hs' ▸ hlt)]
        simp
      · rw [if_neg e]
        simp only [Array.getD, Array.size_setIfInBounds]
        split
        · exact Array.getElem_setIfInBounds_ne (by assumption) (Ne.symm e)
        · rfl
    have hp' : (liveOf M (owner.setIfInBounds j (some k))).Perm (List.range (k + 1)) := by
      unfold liveOf
      have := fm_update (f := fun y => owner.getD y none) (f' := fun y => (owner.setIfInBounds j (some k)).getD y none) (j := j) (k := k) hnone (by show (owner.setIfInBounds j (some k)).getD j none = _; rw [hget, if_pos rfl]) (fun y hy => by show (owner.setIfInBounds j (some k)).getD y none = _; rw [hget, if_neg hy]) (List.range (M + 1)) List.nodup_range (List.mem_range.mpr hlt)
      refine this.trans ?_
      have er : List.range (k + 1) = List.range k ++ [k] := List.range_succ
      rw [er]
      exact ((List.Perm.cons k hp)).trans (List.perm_append_comm (l₁ := [k]))
    obtain ⟨owner', e, hs2, hp2⟩ := fold_clean hM r (owner.setIfInBounds j (some k)) (k + 1) hs' hp' (by omega)
    refine ⟨owner', ?_, hs2, ?_⟩
    · rw [List.foldl_cons]
      show List.foldl _ (do let j ← layClean.free M owner (turns M) (bits x % (M + 1)) (bits x); pure (owner.setIfInBounds j (some k), k + 1)) r = _
      rw [hj]
      show List.foldl _ (some (owner.setIfInBounds j (some k), k + 1)) r = _
      rw [e, List.length_cons]
      congr 2
      omega
    · rw [List.length_cons]
      have : k + (r.length + 1) = k + 1 + r.length := by omega
      rw [this]; exact hp2
open SetTable in
theorem laid_is {M : Nat} (hM : covers M = true) (finger moves : Nat) (led plain : Bool) (hs : Array Int) (hk : hs.size ≤ M) :
    ∃ t order, laid M finger moves led plain hs = some (t, order) ∧ order.toList.Perm (List.range hs.size) ∧ t.mask = M ∧ t.place.size = hs.size ∧ t.dummies = #[] := by
  have h0 : (liveOf M (Array.replicate (M + 1) none)).Perm (List.range 0) := by
    have : liveOf M (Array.replicate (M + 1) none) = [] := by
      unfold liveOf
      rw [List.filterMap_eq_nil_iff]
      intro a ha
      have := List.mem_range.mp ha
      simp [Array.getD, this]
    rw [this]; exact List.Perm.refl _
  obtain ⟨owner, e, hsz, hp⟩ := fold_clean hM hs.toList (Array.replicate (M + 1) none) 0 (by simp) h0 (by rw [Array.length_toList]; omega)
  rw [Nat.zero_add, Array.length_toList] at e hp
  have hl : layClean M hs = some owner := by
    unfold layClean
    rw [← Array.foldl_toList]
    exact (congrArg (Option.map (·.1)) e)
  refine ⟨_, _, by unfold laid; rw [hl]; rfl, ?_, rfl, ?_, rfl⟩
  · rw [List.toList_toArray, List.map_filterMap]
    refine List.Perm.trans (List.Perm.of_eq ?_) hp
    unfold liveOf
    congr 1
    funext j
    cases owner.getD j none <;> rfl
  · rw [List.size_toArray, List.length_map]
    have := hp.length_eq
    rw [List.length_range] at this
    rw [← this]
    unfold liveOf
    have : ∀ l : List Nat, (l.filterMap fun j => (owner.getD j none).map fun x => (j, x)).length = (l.filterMap fun j => owner.getD j none).length := by
      intro l
      induction l with
      | nil => rfl
      | cons x r ih =>
        rw [List.filterMap_cons, List.filterMap_cons]
        cases owner.getD x none with
        | none => exact ih
        | some y => rw [List.length_cons]; exact congrArg (· + 1) ih
    exact this _
section
variable {prog : Program} {w : World} {A : Around} {E : Value → Shared → Prop} {s : Shared}
theorem fm_get {es : Array (Int × Value)} : (List.range es.size).filterMap (fun i => es[i]?) = es.toList := by
  apply List.ext_getElem?
  intro i
  have h1 : (List.range es.size).filterMap (fun i => es[i]?) = es.toList := by
    rw [← Array.length_toList]
    generalize hl : es.toList = l
    have : ∀ i, es[i]? = l[i]? := fun i => by rw [← hl, Array.getElem?_toList]
    have e : (fun i => es[i]?) = fun i => l[i]? := funext this
    rw [e]
    clear hl this e
    induction l with
    | nil => rfl
    | cons x r ih =>
      rw [List.length_cons, List.range_succ_eq_map, List.filterMap_cons, List.filterMap_map]
      show x :: _ = _
      congr 1
  rw [h1]
/-- the empty set's table with room for n -/
theorem copy_room {r : Addr} {t : SetTable} {o : Obj} {ep n : Nat} {Q : Unit → Shared → Prop} (ho : s.heap.get? r = some o) (hd : o.data = .set #[] ep t) (hex : o.ExactSet) (hm : t.mask = 7) (hp : t.place = #[]) (hdd : t.dummies = #[]) (hn : n ≤ 15)
    (h : ∀ h' o' ep' t', Heap.SameBut r s.heap h' → h'.get? r = some o' → o'.data = .set #[] ep' t' → o'.ExactSet → t'.place = #[] → t'.dummies = #[] → covers t'.mask = true → n ≤ t'.mask → Q () { s with heap := h' }) :
    wpAny (model prog w) A (setRoomFor r n) Q E s := by
  have hfits : t.fits 0 = true := by unfold SetTable.fits SetTable.fill; rw [hp, hdd, hm]; rfl
  unfold setRoomFor
  refine wpAny_bind (wpAny_setState_of ho hd hfits ?_)
  dsimp only
  have hr : t.roomFor n = if n * 5 ≥ 21 then some (n * 2) else none := by
    unfold SetTable.roomFor SetTable.fill
    rw [hp, hdd, hm]
    simp
  rw [hr]
  by_cases hc : n * 5 ≥ 21
  · rw [if_pos hc]
    dsimp only
    unfold setRelay
    refine wpAny_bind (wpAny_setState_of ho hd hfits ?_)
    dsimp only
    have hM : ∃ M, SetTable.sizeAbove (n * 2) = M + 1 ∧ covers M = true ∧ n ≤ M := by
      have h5 : 5 ≤ n := by omega
      have : n = 5 ∨ n = 6 ∨ n = 7 ∨ n = 8 ∨ n = 9 ∨ n = 10 ∨ n = 11 ∨ n = 12 ∨ n = 13 ∨ n = 14 ∨ n = 15 := by omega
      rcases this with rfl | rfl | rfl | rfl | rfl | rfl | rfl | rfl | rfl | rfl | rfl
      · exact ⟨15, by decide, covers15, by decide⟩
      · exact ⟨15, by decide, covers15, by decide⟩
      · exact ⟨15, by decide, covers15, by decide⟩
      all_goals exact ⟨31, by decide, covers31, by decide⟩
    obtain ⟨M, e1, e2, e3⟩ := hM
    have hline : ¬ SetTable.sizeAbove (n * 2) > sizeLine := by
      have : n = 5 ∨ n = 6 ∨ n = 7 ∨ n = 8 ∨ n = 9 ∨ n = 10 ∨ n = 11 ∨ n = 12 ∨ n = 13 ∨ n = 14 ∨ n = 15 := by omega
      rw [sizeLine_eq]
      rcases this with rfl | rfl | rfl | rfl | rfl | rfl | rfl | rfl | rfl | rfl | rfl <;> decide
    rw [if_neg hline]
    obtain ⟨t2, order, hl, hpm, hmask, hplace, hdum⟩ := laid_is e2 t.finger (t.movedTo (SetTable.sizeAbove (n * 2) - 1)) t.led t.plain (hs := #[]) (Nat.zero_le _)
    have hrel : t.relaid ((#[] : Array (Int × Value)).map (·.1)) (n * 2) = some (t2, order) := by
      unfold SetTable.relaid
      rw [show SetTable.sizeAbove (n * 2) - 1 = M by omega] at hl ⊢
      simpa using hl
    have hord : order = #[] := by
      have : order.toList = [] := by simpa using hpm
      exact Array.toList_inj.mp (by rw [this])
    rw [hrel, hord]
    refine wpAny_bind (wpAny_of_eq (a := ((#[] : Array (Int × Value)), t2)) rfl ?_)
    refine wpAny_storeSet_of ho hd ?_ (Nat.zero_le _)
    have hp2 : t2.place = #[] := Array.eq_empty_of_size_eq_zero hplace
    have hg : (s.heap.update r (Obj.putSet #[] t2)).get? r = some { o with data := .set #[] (ep + 1) t2 } := by
      have := Heap.get?_update_self (Obj.putSet #[] t2) ho (by rw [putSet_of #[] t2 hd]; rfl)
      rw [putSet_of #[] t2 hd] at this; exact this
    exact h _ _ _ t2 (Heap.SameBut.update _ _ _) hg rfl hex hp2 hdum (by rw [hmask]; exact e2) (by rw [hmask]; exact e3)
  · rw [if_neg hc]
    dsimp only
    exact wpAny_pure (h s.heap o ep t (Heap.SameBut.refl _ _) ho hd hex hp hdd (by rw [hm]; exact covers7) (by rw [hm]; omega))
theorem setOf_mk {h : Heap} {r : Addr} {o : Obj} {es : Array (Int × Value)} {ep n : Nat} {t : SetTable} {S : Int → Bool} (ho : h.get? r = some o) (hex : o.ExactSet) (hd : o.data = .set es ep t) (hE : Enum prog w S n es.toList) (hb : n < scanBound) (hf : t.fits es.size = true) :
    h.SetOf (PySem.intKind prog w) r S n :=
  ⟨o, es, ep, t, ho, hex, hd, hE.1, hE.2.1, by have := hE.2.2; rw [Array.length_toList] at this; omega, hf, by have := hE.2.2; rw [Array.length_toList] at this; exact this⟩
/-- a set of ints onto a new one -/
theorem wp_merge {r a : Addr} {o : Obj} {ep n : Nat} {t : SetTable} {S : Int → Bool} {Q : Unit → Shared → Prop} (hra : r ≠ a) (ho : s.heap.get? r = some o) (hd : o.data = .set #[] ep t) (hex : o.ExactSet) (hm : t.mask = 7) (hp : t.place = #[]) (hdd : t.dummies = #[])
    (ha : s.heap.SetOf (PySem.intKind prog w) a S n) (hn : n ≤ 15) (h : ∀ h', Heap.SameBut r s.heap h' → h'.SetOf (PySem.intKind prog w) r S n → Q () { s with heap := h' }) :
    wpAny (model prog w) A (setMerge r a) Q E s := by
  obtain ⟨oa, es, epa, ta, hoa, hexa, hda, hel, hmem, hb, hft, hnn⟩ := id ha
  have hE : Enum prog w S n es.toList := ⟨hel, hmem, by rw [Array.length_toList]; exact hnn⟩
  have hbn : n < scanBound := by unfold scanBound; omega
  have hfits0 : t.fits 0 = true := by unfold SetTable.fits SetTable.fill; rw [hp, hdd, hm]; rfl
  have hra' : (r == a) = false := by simpa using hra
  unfold setMerge
  rw [hra']
  simp only [Bool.false_eq_true, ↓reduceIte]
  refine wpAny_bind (wpAny_setState_of hoa hda hft ?_)
  dsimp only
  by_cases he : es.isEmpty = true
  · rw [if_pos he]
    have he' : es = #[] := Array.isEmpty_iff.mp he
    subst he'
    refine wpAny_pure (h s.heap (Heap.SameBut.refl _ _) (setOf_mk ho hex hd hE hbn hfits0))
  · rw [if_neg he]
    have hsz : es.size ≠ 0 := fun e => he (by rw [Array.isEmpty_iff]; exact Array.eq_empty_of_size_eq_zero e)
    refine wpAny_bind (copy_room ho hd hex hm hp hdd (by omega) fun h1 o1 ep1 t1 hs1 ho1 hd1 hex1 hp1 hdd1 hcov hle => ?_)
    have hf1 : t1.fits 0 = true := by unfold SetTable.fits SetTable.fill; rw [hp1, hdd1]; simp
    refine wpAny_bind (wpAny_setState_of ho1 hd1 hf1 ?_)
    dsimp only
    have hfill : t1.fill = 0 := by unfold SetTable.fill; rw [hp1, hdd1]; rfl
    have hroad : t1.road ta = if (t1.mask == ta.mask && ta.dummies.isEmpty) = true then .slotForSlot else .clean := by unfold SetTable.road; rw [hfill]; rfl
    rw [hroad]
    have done : ∀ (es' : Array (Int × Value)) (t' : SetTable), Enum prog w S n es'.toList → t'.fits es'.size = true → Q () { s with heap := h1.update r (Obj.putSet es' t') } := fun es' t' hE' hf' => by
      have hsz' : es'.size = n := by have := hE'.2.2; rw [Array.length_toList] at this; exact this
      have := SetOf_store (knd := PySem.intKind prog w) (S' := S) ho1 hex1 hd1 hE'.1 hE'.2.1 (by rw [hsz']; exact hbn) hf'
      exact h _ (hs1.trans (Heap.SameBut.update _ _ _)) (hsz' ▸ this.2)
    have hlz : ∀ {es' : Array (Int × Value)}, Enum prog w S n es'.toList → es'.size ≤ sizeLine := fun hE' => by
      have hsz' := hE'.2.2
      rw [Array.length_toList] at hsz'
      rw [sizeLine_eq]; omega
    by_cases hc : (t1.mask == ta.mask && ta.dummies.isEmpty) = true
    · rw [if_pos hc]
      dsimp only
      exact wpAny_storeSet_of (s := { s with heap := h1 }) ho1 hd1 (done es _ hE hft) (hlz hE)
    · rw [if_neg hc]
      dsimp only
      obtain ⟨t2, order, hl, hpm, hmask, hplace, hdum⟩ := laid_is hcov t1.finger t1.moves (t1.led && ta.led) (t1.plain && ta.plain) (hs := es.map (·.1)) (by rw [Array.size_map]; omega)
      rw [Array.size_map] at hpm hplace
      rw [hl]
      have hperm : (order.filterMap fun i => es[i]?).toList.Perm es.toList := by
        rw [Array.toList_filterMap]
        refine (hpm.filterMap _).trans (List.Perm.of_eq fm_get)
      have hE2 := hE.perm hperm
      have hsz2 : (order.filterMap fun i => es[i]?).size = es.size := by rw [← Array.length_toList, hperm.length_eq, Array.length_toList]
      refine wpAny_bind (wpAny_of_eq (a := ((order.filterMap fun i => es[i]?), t2)) ?_ ?_)
      · show (if ((order.filterMap fun i => es[i]?).size != es.size) = true then _ else _) = _
        rw [hsz2]
        simp
      · refine wpAny_storeSet_of (s := { s with heap := h1 }) ho1 hd1 (done _ _ hE2 ?_) (hlz hE2)
        rw [hsz2]
        unfold SetTable.fits SetTable.fill
        rw [hplace, hdum, hmask]
        simp
        omega
theorem wp_copy {a : Addr} {n : Nat} {S : Int → Bool} {Q : Value → Shared → Prop} (ha : s.heap.SetOf (PySem.intKind prog w) a S n) (hn : n ≤ 15)
    (h : ∀ h', (∀ c o, s.heap.get? c = some o → h'.get? c = some o) → h'.SetOf (PySem.intKind prog w) s.heap.objs.size S n → Q (.ref s.heap.objs.size) { s with heap := h' }) :
    wpAny (model prog w) A (Builtin.Frozenset.copyOf a) Q E s := by
  have hTa : s.TypeIs (.ref a) "set" := by obtain ⟨o, _, _, _, ho, hex, _⟩ := ha; exact ⟨o, ho, hex.1⟩
  have hlt : ∀ {c : Addr} {o : Obj}, s.heap.get? c = some o → c ≠ s.heap.objs.size := fun e => Nat.ne_of_lt (Heap.lt_size e)
  have har : s.heap.objs.size ≠ a := by obtain ⟨o, es, ep, t, ho, r⟩ := ha; exact (hlt ho).symm
  unfold Builtin.Frozenset.copyOf Builtin.Frozenset.baseOf
  refine wpAny_bind (wpAny_bind (wpAny_isInstance hTa sub_set_self (wpAny_pure ?_)))
  simp only [↓reduceIte]
  refine wpAny_bind (wpAny_newSet_of (knd := PySem.intKind prog w) fun led hr => ?_)
  unfold Builtin.Frozenset.addrOf
  refine wpAny_bind (wpAny_pure ?_)
  have ha0 : (s.heap.push { cls := Value.type "set", data := Data.set #[] 0 (SetTable.fresh 0 0 led) }).SetOf (PySem.intKind prog w) a S n := by obtain ⟨o, es, ep, t, ho, r⟩ := ha; exact ⟨o, es, ep, t, Heap.get?_push_of_some _ ho, r⟩
  refine wpAny_bind (wp_merge har (Heap.get?_push_size _ rfl) rfl ⟨rfl, rfl, rfl⟩ rfl rfl rfl ha0 hn fun h' hs hS => ?_)
  exact wpAny_pure (h h' (fun c o e => (hs.2 c (hlt e)).trans (Heap.get?_push_of_some _ e)) hS)
end
section
variable {prog : Program} {w : World} {A : Around} {E : Value → Shared → Prop} {s : Shared}
theorem ks_add {R : Int → Bool} {n : Nat} {k : Int} (h : ∃ ks : List Int, ks.Nodup ∧ ks.length = n ∧ ∀ j, R j = true ↔ j ∈ ks) :
    ∃ ks : List Int, ks.Nodup ∧ ks.length = (if R k then n else n + 1) ∧ ∀ j, (R j || decide (j = k)) = true ↔ j ∈ ks := by
  obtain ⟨ks, h1, h2, h3⟩ := h
  cases hk : R k with
  | true =>
    refine ⟨ks, h1, by simpa using h2, fun j => ?_⟩
    rw [Bool.or_eq_true, decide_eq_true_eq, h3]
    exact ⟨fun x => x.elim id fun e => e ▸ (h3 k).mp hk, .inl⟩
  | false =>
    have hn : k ∉ ks := fun hm => by rw [(h3 k).mpr hm] at hk; cases hk
    refine ⟨k :: ks, List.nodup_cons.mpr ⟨hn, h1⟩, by simp [h2], fun j => ?_⟩
    rw [Bool.or_eq_true, decide_eq_true_eq, h3, List.mem_cons]
    exact ⟨fun x => x.elim .inr .inl, fun x => x.elim .inr .inl⟩
/-- one set of ints without another one: what it alone holds -/
theorem wp_diff {nm : String} {a b : Addr} {Sa Sb : Int → Bool} {na nb : Nat} {Q : Value → Shared → Prop} (hab : a ≠ b) (ha : s.heap.SetOf (PySem.intKind prog w) a Sa na) (hb : s.heap.SetOf (PySem.intKind prog w) b Sb nb) (hna : na ≤ 3)
    (h : ∀ h' n, (∀ c o, s.heap.get? c = some o → h'.get? c = some o) → h'.SetOf (PySem.intKind prog w) s.heap.objs.size (fun k => Sa k && !Sb k) n → n ≤ na → (∃ ks : List Int, ks.Nodup ∧ ks.length = n ∧ ∀ k, (Sa k && !Sb k) = true ↔ k ∈ ks) → Q (.ref s.heap.objs.size) { s with heap := h' }) :
    wpAny (model prog w) A (Builtin.Frozenset.difference nm a (.ref b)) Q E s := by
  have hTa : s.TypeIs (.ref a) "set" := by obtain ⟨o, _, _, _, ho, hex, _⟩ := ha; exact ⟨o, ho, hex.1⟩
  have hTb : s.TypeIs (.ref b) "set" := by obtain ⟨o, _, _, _, ho, hex, _⟩ := hb; exact ⟨o, ho, hex.1⟩
  unfold Builtin.Frozenset.difference
  refine wpAny_bind ?_
  unfold Builtin.Frozenset.isAnySet
  show wpAny _ _ (isInstance (Value.ref b) (Value.type "set") >>= _) _ _ _
  refine wpAny_bind (wpAny_isInstance hTb sub_set_self ?_)
  refine wpAny_pure ?_
  unfold Builtin.Frozenset.addrOf Builtin.Frozenset.sizeOf
  obtain ⟨o1, es1, ep1, t1, ho1, hex1, hd1, hel1, hmem1, hb1, hft1, hn1⟩ := _root_.id hb
  obtain ⟨o2, es2, ep2, t2, ho2, hex2, hd2, hel2, hmem2, hb2, hft2, hn2⟩ := _root_.id ha
  simp only [Bool.not_true, Bool.false_eq_true, ↓reduceIte, Bool.false_and]
  refine wpAny_bind (wpAny_pure ?_)
  refine wpAny_bind (wpAny_bind (wp_setEntries ho1 hd1 hft1 (wpAny_pure ?_)))
  refine wpAny_bind (wpAny_bind (wp_setEntries ho2 hd2 hft2 (wpAny_pure ?_)))
  rw [if_neg (by omega)]
  unfold Builtin.Frozenset.baseOf
  refine wpAny_bind (wpAny_bind (wpAny_isInstance hTa sub_set_self (wpAny_pure ?_)))
  simp only [↓reduceIte]
  refine wpAny_bind (wpAny_newSet_of (knd := PySem.intKind prog w) fun led hr => ?_)
  refine wpAny_bind (wpAny_pure ?_)
  have hlt : ∀ {c : Addr} {o : Obj}, s.heap.get? c = some o → c ≠ s.heap.objs.size := fun e => Nat.ne_of_lt (Heap.lt_size e)
  have ha0 : (s.heap.push { cls := Value.type "set", data := Data.set #[] 0 (SetTable.fresh 0 0 led) }).SetOf (PySem.intKind prog w) a Sa na := by obtain ⟨o, es, ep, t, ho, r⟩ := ha; exact ⟨o, es, ep, t, Heap.get?_push_of_some _ ho, r⟩
  have hb0 : (s.heap.push { cls := Value.type "set", data := Data.set #[] 0 (SetTable.fresh 0 0 led) }).SetOf (PySem.intKind prog w) b Sb nb := by obtain ⟨o, es, ep, t, ho, r⟩ := hb; exact ⟨o, es, ep, t, Heap.get?_push_of_some _ ho, r⟩
  have har : a ≠ s.heap.objs.size := by obtain ⟨o, es, ep, t, ho, r⟩ := ha; exact hlt ho
  have hbr : b ≠ s.heap.objs.size := by obtain ⟨o, es, ep, t, ho, r⟩ := hb; exact hlt ho
  have hT2 : Shared.TypeIs { s with heap := s.heap.push { cls := Value.type "set", data := Data.set #[] 0 (SetTable.fresh 0 0 led) } } (.ref b) "set" := by obtain ⟨o, _, _, _, ho, hex, _⟩ := hb0; exact ⟨o, ho, hex.1⟩
  have loop : ∀ (asked walked : Addr) (Sk Sw : Int → Bool) (nk nw : Nat), asked ≠ s.heap.objs.size → walked ≠ s.heap.objs.size → nw ≤ na → (∀ k, (Sw k && !Sk k) = (Sa k && !Sb k)) →
      (s.heap.push { cls := Value.type "set", data := Data.set #[] 0 (SetTable.fresh 0 0 led) }).SetOf (PySem.intKind prog w) asked Sk nk → (s.heap.push { cls := Value.type "set", data := Data.set #[] 0 (SetTable.fresh 0 0 led) }).SetOf (PySem.intKind prog w) walked Sw nw →
      wpAny (model prog w) A (do
              let was ← setEpoch walked
              holding [Value.ref s.heap.objs.size] do
                let es ← setWalkUnseen walked [asked, s.heap.objs.size] (some s.heap.objs.size)
                forIn es PUnit.unit fun x __s => do
                  holding [x.snd] do
                      let r ← setFind asked x.snd x.fst
                      let there ← pure r.isSome
                      if (!there) = true then do
                          let _ ← setAddHashed s.heap.objs.size x.snd x.fst
                          pure ()
                        else pure ()
                  Builtin.Frozenset.unchanged nm walked was
                  pure (ForInStep.yield PUnit.unit)
                pure ()
              pure (Value.ref s.heap.objs.size)) Q E { s with heap := s.heap.push { cls := Value.type "set", data := Data.set #[] 0 (SetTable.fresh 0 0 led) } } := by
    intro asked walked Sk Sw nk nw nka nkw hnw hS hk hw
    obtain ⟨ow, esw, epw, tw, how, hexw, hdw, helw, hmemw, hbw, hftw, hnnw⟩ := id hw
    refine wpAny_bind (wpAny_setEpoch_of how hdw hftw ?_)
    refine wpAny_bind (wpAny_holding ?_)
    refine wpAny_bind (wp_walkUnseen hw hr (fun c hc => ?_) fun es' h1 hs1 hr1 hE => ?_)
    · rcases List.mem_cons.mp hc with rfl | hc
      · exact ⟨_, _, hk⟩
      · rw [List.mem_singleton.mp hc]; exact ⟨_, _, hr⟩
    refine wpAny_bind ?_
    rw [← Array.forIn_toList]
    refine forIn_inv (fun l s' => ∃ h2 n R done, s' = { s with heap := h2 } ∧ Heap.SameBut s.heap.objs.size (s.heap.push { cls := Value.type "set", data := Data.set #[] 0 (SetTable.fresh 0 0 led) }) h2 ∧ es'.toList = done ++ l ∧ h2.SetOf (PySem.intKind prog w) s.heap.objs.size R n ∧ n ≤ done.length ∧ (∃ ks : List Int, ks.Nodup ∧ ks.length = n ∧ ∀ k, R k = true ↔ k ∈ ks) ∧ 
      ∀ k, R k = true ↔ (∃ e ∈ done, (PySem.intKind prog w).is k e.2 = true) ∧ Sk k = false) ?_ es'.toList _ ⟨h1, 0, fun _ => false, [], rfl, hs1, rfl, hr1, Nat.le_refl _, ⟨[], List.nodup_nil, rfl, fun k => by simp⟩, fun k => by simp⟩ ?_
    · rintro x r s' ⟨h2, n, R, done, rfl, hs2, hl, hR, hn, hks, hmem⟩ Q' hQ'
      have hxl : x ∈ es'.toList := by rw [hl]; simp
      obtain ⟨⟨k, hkx, hh⟩, hsc⟩ := hE.1 x hxl
      have hk2 := setOf_same hs2 nka hk
      have hw2 : h2.get? walked = some ow := (hs2.2 walked nkw).trans how
      have hlen : n + 1 < scanBound := by
        have : es'.toList.length = nw := hE.2.2
        rw [hl, List.length_append, List.length_cons] at this
        unfold scanBound; omega
      have hdl : es'.toList = (done ++ [x]) ++ r := by rw [hl]; simp
      have iff1 : ∀ j, (PySem.intKind prog w).is j x.2 = true ↔ j = k := fun j => by rw [KeyKind.is_eq_decide hkx j, decide_eq_true_eq]
      refine wpAny_bind (wpAny_holding ?_)
      rw [hh]
      refine wpAny_bind (wpAny_setFind_of hkx hsc hk2 fun r? hr? => ?_)
      refine wpAny_bind (wpAny_pure ?_)
      have fin : ∀ s', (∃ h2 n R, s' = { s with heap := h2 } ∧ Heap.SameBut s.heap.objs.size (s.heap.push { cls := Value.type "set", data := Data.set #[] 0 (SetTable.fresh 0 0 led) }) h2 ∧ h2.SetOf (PySem.intKind prog w) s.heap.objs.size R n ∧ n ≤ (done ++ [x]).length ∧ (∃ ks : List Int, ks.Nodup ∧ ks.length = n ∧ ∀ k, R k = true ↔ k ∈ ks) ∧ 
          ∀ k, R k = true ↔ (∃ e ∈ done ++ [x], (PySem.intKind prog w).is k e.2 = true) ∧ Sk k = false) → wpAny (model prog w) A (do
                  Builtin.Frozenset.unchanged nm walked epw
                  pure (ForInStep.yield PUnit.unit)) Q' E s' := by
        rintro s' ⟨h3, n3, R3, rfl, hs3, hR3, hn3, hks3, hmem3⟩
        unfold Builtin.Frozenset.unchanged
        refine wpAny_bind (wpAny_bind (wpAny_setEpoch_of ((hs3.2 walked nkw).trans how) hdw hftw ?_))
        simp only [bne_self_eq_false, Bool.false_eq_true, ↓reduceIte]
        exact wpAny_pure (wpAny_pure (hQ' _ ⟨h3, n3, R3, done ++ [x], rfl, hs3, hdl, hR3, hn3, hks3, hmem3⟩))
      have exd : ∀ j, (∃ e ∈ done ++ [x], (PySem.intKind prog w).is j e.2 = true) ↔ (∃ e ∈ done, (PySem.intKind prog w).is j e.2 = true) ∨ j = k := fun j => by
        constructor
        · rintro ⟨e, he, hj⟩
          rcases List.mem_append.mp he with he | he
          · exact .inl ⟨e, he, hj⟩
          · rw [List.mem_singleton.mp he] at hj; exact .inr ((iff1 j).mp hj)
        · rintro (⟨e, he, hj⟩ | hj)
          · exact ⟨e, List.mem_append_left _ he, hj⟩
          · exact ⟨x, by simp, (iff1 j).mpr hj⟩
      cases hb' : r?.isSome with
      | true =>
        simp only [Bool.not_true, Bool.false_eq_true, ↓reduceIte]
        refine wpAny_pure (fin _ ⟨h2, n, R, rfl, hs2, hR, by rw [List.length_append]; omega, hks, fun j => ?_⟩)
        have hkk : Sk k = true := by rw [← hr?, hb']
        rw [hmem j, exd j]
        constructor
        · rintro ⟨p, q⟩; exact ⟨.inl p, q⟩
        · rintro ⟨p | rfl, q⟩
          · exact ⟨p, q⟩
          · rw [hkk] at q; cases q
      | false =>
        simp only [Bool.not_false, ↓reduceIte]
        refine wpAny_bind (wpAny_setAddHashed_of (s := { s with heap := h2 }) hkx hsc hR hlen fun h3 hs3 hR3 => wpAny_pure ?_)
        refine fin _ ⟨h3, _, _, rfl, hs2.trans hs3, hR3, ?_, ks_add hks, fun j => ?_⟩
        · rw [List.length_append]; simp only [List.length_cons, List.length_nil]; split <;> omega
        · rw [Bool.or_eq_true, decide_eq_true_eq, hmem j, exd j]
          have hkk : Sk k = false := by rw [← hr?, hb']
          constructor
          · rintro (⟨p, q⟩ | rfl)
            · exact ⟨.inl p, q⟩
            · exact ⟨.inr rfl, hkk⟩
          · rintro ⟨p | rfl, q⟩
            · exact .inl ⟨p, q⟩
            · exact .inr rfl
    · rintro s' ⟨h2, n, R, done, rfl, hs2, hl, hR, hn, hks, hmem⟩
      rw [List.append_nil] at hl
      have hRe : R = fun k => Sa k && !Sb k := funext fun k => by
        rw [← hS k]
        have h1 := hmem k
        have h2 := hE.2.1 k
        rw [hl] at h2
        rw [Bool.eq_iff_iff, h1, Bool.and_eq_true, h2, Bool.not_eq_true']
      subst hRe
      refine wpAny_pure (wpAny_pure (h h2 n (fun c o e => (hs2.2 c (hlt e)).trans (Heap.get?_push_of_some _ e)) hR ?_ hks))
      have : es'.toList.length = nw := hE.2.2
      rw [hl] at this; omega
  exact loop b a Sb Sa nb na hbr har (Nat.le_refl _) (fun k => rfl) hb0 ha0
end
section
variable {prog : Program} {w : World} {A : Around} {E : Value → Shared → Prop} {s : Shared}
theorem entry_set_and : entryFor table "set.__and__" = some Builtin.«frozenset.__and__» :=
  entryFor_alias (id' := "frozenset.__and__") (by kernel_rfl) rfl (by decide +kernel) (by kernel_rfl)
theorem entry_set_sub : entryFor table "set.__sub__" = some Builtin.«frozenset.__sub__» :=
  entryFor_alias (id' := "frozenset.__sub__") (by kernel_rfl) rfl (by decide +kernel) (by kernel_rfl)
theorem wp_slot1 {nm : String} {a b : Value} {Q : Value × Value → Shared → Prop} (h : Q (a, b) s) : wpAny (model prog w) A (Builtin.Frozenset.slot1 nm ⟨[a, b], []⟩) Q E s := by
  unfold Builtin.Frozenset.slot1 slotArgs
  simp only [List.isEmpty_nil, Bool.not_true, Bool.false_eq_true, ↓reduceIte, List.length_cons, List.length_nil, bne_self_eq_false]
  exact wpAny_bind (wpAny_pure (wpAny_pure h))
theorem wp_isAnySet {a : Value} {Q : Bool → Shared → Prop} (hT : s.TypeIs a "set") (h : Q true s) : wpAny (model prog w) A (Builtin.Frozenset.isAnySet a) Q E s := by
  unfold Builtin.Frozenset.isAnySet
  show wpAny _ _ (isInstance a (Value.type "set") >>= _) _ _ _
  exact wpAny_bind (wpAny_isInstance hT sub_set_self (wpAny_pure h))
/-- the set that both operands are -/
theorem and_sets {a b : Addr} {Sa Sb : Int → Bool} {na nb : Nat} {Q : Value → Shared → Prop} (ha : s.heap.SetOf (PySem.intKind prog w) a Sa na) (hb : s.heap.SetOf (PySem.intKind prog w) b Sb nb) (hna : na ≤ 15) (hnb : nb ≤ 1000)
    (h : ∀ h' n, (∀ c o, s.heap.get? c = some o → h'.get? c = some o) → h'.SetOf (PySem.intKind prog w) s.heap.objs.size (fun k => Sa k && Sb k) n → n ≤ 1000 → Q (.ref s.heap.objs.size) { s with heap := h' }) :
    wpAny (model prog w) A (binaryOp .BitAnd (.ref a) (.ref b)) Q E s := by
  have hTa : s.TypeIs (.ref a) "set" := by obtain ⟨o, _, _, _, ho, hex, _⟩ := ha; exact ⟨o, ho, hex.1⟩
  have hTb : s.TypeIs (.ref b) "set" := by obtain ⟨o, _, _, _, ho, hex, _⟩ := hb; exact ⟨o, ho, hex.1⟩
  refine wpAny_binaryOp_same hTa hTb F.fills_set_and F.slot_set_and (wpAny_call_entry F.slot_set_and hTa entry_set_and ?_ (F.args_set_and_2 _ _))
  unfold Builtin.«frozenset.__and__»
  show wpAny _ _ (Builtin.Frozenset.slot1 "__and__" ⟨[.ref a, .ref b], []⟩ >>= _) _ _ _
  refine wpAny_bind (wp_slot1 ?_)
  simp only [Bool.false_eq_true, ↓reduceIte]
  refine wpAny_bind ?_
  show wpAny _ _ (Builtin.Frozenset.isAnySet (.ref a) >>= _) _ _ _
  refine wpAny_bind (wp_isAnySet hTa ?_)
  show wpAny _ _ (Builtin.Frozenset.isAnySet (.ref b)) _ _ _
  refine wp_isAnySet hTb ?_
  simp only [Bool.not_true, Bool.false_eq_true, ↓reduceIte]
  unfold Builtin.Frozenset.addrOf
  refine wpAny_bind (wpAny_pure ?_)
  by_cases hab : a = b
  · subst hab
    have hS : Sa = Sb := by
      obtain ⟨o, es, ep, t, ho, hex, hd, hel, hmem, _⟩ := ha
      obtain ⟨o', es', ep', t', ho', hex', hd', hel', hmem', _⟩ := hb
      rw [ho] at ho'; cases ho'
      rw [hd] at hd'; cases hd'
      funext k
      rw [Bool.eq_iff_iff, hmem k, hmem' k]
    subst hS
    unfold Builtin.Frozenset.intersection
    rw [if_pos (by simp)]
    refine wpAny_bind (wp_copy ha hna fun h' hk hS => wpAny_pure ⟨_, rfl, nofun, ?_⟩)
    have e : Sa = fun k => Sa k && Sa k := by funext k; rw [Bool.and_self]
    exact h h' na hk (e ▸ hS) (by omega)
  · exact wpAny_bind (wp_inter hab ha hb (by omega) hnb fun h' n hk hS hn => wpAny_pure ⟨_, rfl, nofun, h h' n hk hS hn⟩)
theorem sub_sets {a b : Addr} {Sa Sb : Int → Bool} {na nb : Nat} {Q : Value → Shared → Prop} (hab : a ≠ b) (ha : s.heap.SetOf (PySem.intKind prog w) a Sa na) (hb : s.heap.SetOf (PySem.intKind prog w) b Sb nb) (hna : na ≤ 3)
    (h : ∀ h' n, (∀ c o, s.heap.get? c = some o → h'.get? c = some o) → h'.SetOf (PySem.intKind prog w) s.heap.objs.size (fun k => Sa k && !Sb k) n → n ≤ na → (∃ ks : List Int, ks.Nodup ∧ ks.length = n ∧ ∀ k, (Sa k && !Sb k) = true ↔ k ∈ ks) → Q (.ref s.heap.objs.size) { s with heap := h' }) :
    wpAny (model prog w) A (binaryOp .Sub (.ref a) (.ref b)) Q E s := by
  have hTa : s.TypeIs (.ref a) "set" := by obtain ⟨o, _, _, _, ho, hex, _⟩ := ha; exact ⟨o, ho, hex.1⟩
  have hTb : s.TypeIs (.ref b) "set" := by obtain ⟨o, _, _, _, ho, hex, _⟩ := hb; exact ⟨o, ho, hex.1⟩
  refine wpAny_binaryOp_same hTa hTb F.fills_set_sub F.slot_set_sub (wpAny_call_entry F.slot_set_sub hTa entry_set_sub ?_ (F.args_set_sub_2 _ _))
  unfold Builtin.«frozenset.__sub__»
  show wpAny _ _ (Builtin.Frozenset.slot1 "__sub__" ⟨[.ref a, .ref b], []⟩ >>= _) _ _ _
  refine wpAny_bind (wp_slot1 ?_)
  simp only [Bool.false_eq_true, ↓reduceIte]
  refine wpAny_bind ?_
  show wpAny _ _ (Builtin.Frozenset.isAnySet (.ref a) >>= _) _ _ _
  refine wpAny_bind (wp_isAnySet hTa ?_)
  show wpAny _ _ (Builtin.Frozenset.isAnySet (.ref b)) _ _ _
  refine wp_isAnySet hTb ?_
  simp only [Bool.not_true, Bool.false_eq_true, ↓reduceIte]
  unfold Builtin.Frozenset.addrOf
  refine wpAny_bind (wpAny_pure ?_)
  exact wpAny_bind (wp_diff hab ha hb hna fun h' n hk hS hn hks => wpAny_pure ⟨_, rfl, nofun, h h' n hk hS hn hks⟩)
theorem noBool_set : typeLookup (.type "set") "__bool__" = pure none := by rw [typeLookup_type, builtinLookup_eq_fast]; kernel_rfl
/-- a set's truth -/
theorem truthy_set {a : Addr} {S : Int → Bool} {n : Nat} {Q : Bool → Shared → Prop} (ha : s.heap.SetOf (PySem.intKind prog w) a S n) (hn : n ≤ 1000) (h : ∀ tk, Q (decide (n ≠ 0)) { s with toks := tk }) : wpAny (model prog w) A (truthy (.ref a)) Q E s := by
  obtain ⟨o, es, ep, t, ho, hex, hd, hel, hmem, hb, hft, hnn⟩ := ha
  have hT : s.TypeIs (.ref a) "set" := ⟨o, ho, hex.1⟩
  have hne : (((es.size : Nat) : Int) != 0) = decide (n ≠ 0) := by
    rw [hnn]
    rcases Nat.eq_zero_or_pos n with e | e
    · rw [e]; rfl
    · have h2 : n ≠ 0 := by omega
      rw [decide_eq_true h2]
      exact bne_iff_ne.mpr (by omega)
  have key : wpAny (model prog w) A (runValue (.builtin "len" ⟨[.ref a], []⟩)) (fun r s' => r = .int es.size (s.toks + 1) ∧ Q (decide (n ≠ 0)) s') E s := by
    refine wpAny_runValue (codeAny_builtin entry_len ?_)
    rw [Around.under_plainId plain_len _]
    exact wpAny_mono (wpAny_len_body_set (Q := fun r s' => r = .int es.size (s.toks + 1) ∧ Q (decide (n ≠ 0)) s') ho hex hd hft (by omega) ⟨rfl, h _⟩)
      (fun fin s' h' => by obtain ⟨r, rfl, hq⟩ := h'; exact hq) fun _ _ e => e
  unfold truthy
  refine wpAny_bind (wpAny_callSpecial?_none (name := Str.ofString "__bool__") hT noBool_set ?_)
  refine wpAny_bind (wpAny_specialOf (name := Str.ofString "__len__") hT F.slot_set_len.lookup ?_)
  exact wpAny_bind (wpAny_mono key (fun r s' h' => by obtain ⟨rfl, hq⟩ := h'; rw [← hne] at hq; exact wpAny_pure hq) fun _ _ e => e)
end
section
variable {prog : Program} {w : World} {A : Around} {E : Value → Shared → Prop} {s : Shared}
theorem wpAny_stack_any {M : Model} {Q : List (Code × Pos) → Shared → Prop} (h : ∀ l, Q l s) : wpAny M A stack Q E s := fun Γ p _ => by
  show Sem.wp M Γ (.stack .pure) _ _ p s
  rw [Sem.wp_stack]
  exact h _
theorem entry_set_repr : entryFor table "set.__repr__" = some Builtin.«frozenset.__repr__» :=
  entryFor_alias (id' := "frozenset.__repr__") (by kernel_rfl) rfl (by decide +kernel) (by kernel_rfl)
theorem wp_name_set {a : Value} {Q : String → Shared → Prop} (hT : s.TypeIs a "set") (h : Q "set" s) : wpAny (model prog w) A (typeNameOfWhole a) Q E s := by
  unfold typeNameOfWhole shownTypeOf
  refine wpAny_bind (wpAny_bind (wpAny_typeOf hT ?_))
  simp only [show (Value.type "set" == Value.type "builtin_function_or_method") = false by decide, Bool.false_eq_true, if_false]
  refine wpAny_pure ?_
  have e : typeName (.type "set") = pure "set" := by unfold typeName; rw [find?_eq_fast]; kernel_rfl
  rw [show typeNameWhole (.type "set") = typeName (.type "set") from rfl, e]; exact wpAny_pure h
theorem wp_slot0 {nm : String} {a : Addr} {Q : Addr → Shared → Prop} (h : Q a s) : wpAny (model prog w) A (Builtin.Frozenset.slot0 nm ⟨[.ref a], []⟩) Q E s := by
  unfold Builtin.Frozenset.slot0 slotArgs
  simp only [List.isEmpty_nil, Bool.not_true, Bool.false_eq_true, ↓reduceIte, List.length_nil, bne_self_eq_false]
  unfold Builtin.Frozenset.addrOf
  exact wpAny_bind (wpAny_pure (wpAny_pure h))
/-- the text of the set of 98 -/
theorem set_repr {a : Addr} {S : Int → Bool} {Q : Value → Shared → Prop} (ha : s.heap.SetOf (PySem.intKind prog w) a S 1) (hS : ∀ k, S k = true ↔ k = 98) (hg : A.guards = some []) (hu : A.units + 10 < cLine)
    (h : ∀ x t h' tk, x.length ≤ 100 → (∀ c o, s.heap.get? c = some o → h'.get? c = some o) → Q (.str x t) { s with heap := h', toks := tk }) : wpAny (model prog w) A (call (.builtin "set.__repr__") [.ref a]) Q E s := by
  obtain ⟨o, es, ep, t, ho, hex, hd, hel, hmem, hb, hft, hnn⟩ := id ha
  have hT : s.TypeIs (.ref a) "set" := ⟨o, ho, hex.1⟩
  refine wpAny_call_entry F.slot_set_repr hT entry_set_repr ?_ (F.args_set_repr_1 _)
  unfold Builtin.«frozenset.__repr__»
  refine wpAny_bind (wp_slot0 ?_)
  refine wpAny_bind (wp_name_set hT ?_)
  unfold Builtin.Frozenset.reprRunning
  refine wpAny_bind (wpAny_bind (wpAny_stack_any fun l => wpAny_pure ?_))
  split
  · refine wpAny_bind (wpAny_rule ?_)
    unfold retStr
    refine wpAny_bind (wpAny_mkStr (wpAny_pure ⟨_, rfl, h _ _ _ _ (by decide) fun _ _ e => e⟩) (by decide))
  · unfold Builtin.Frozenset.sizeOf
    refine wpAny_bind (wpAny_bind (wp_setEntries ho hd hft (wpAny_pure ?_)))
    have hz : (es.size == 0) = false := by rw [hnn]; rfl
    rw [hz]
    simp only [Bool.false_eq_true, ↓reduceIte]
    unfold setItems
    refine wpAny_bind (wpAny_bind (wp_setWalk ho hd hft (.inr (.inr (by omega))) fun es' hp => wpAny_pure ?_))
    have hone : ∃ x, es'.toList = [x] := by
      have := hp.length_eq
      rw [Array.length_toList (xs := es), hnn] at this
      match hh : es'.toList, this with
      | [x], _ => exact ⟨x, rfl⟩
    obtain ⟨x, hx⟩ := hone
    have hxe : x ∈ es.toList := hp.mem_iff.mp (by rw [hx]; simp)
    obtain ⟨k, tk, h2, _⟩ := elem_int hel x hxe
    have hk : k = 98 := (hS k).mp ((hmem k).mpr ⟨x, hxe, by rw [h2]; exact intKind_is prog w k tk⟩)
    subst hk
    rw [hx]
    simp only [List.map_cons, List.map_nil, h2]
    refine wpAny_bind (wpAny_newList ?_ (Nat.le_of_ble_eq_true rfl))
    refine wpAny_bind (wpAny_holding ?_)
    unfold pyRepr
    have hget : (s.heap.push { cls := Value.type "list", data := Data.seq [Value.int 98 tk].toArray }).get? s.heap.objs.size = some { cls := Value.type "list", data := Data.seq [Value.int 98 tk].toArray } := Heap.get?_push_size _ rfl
    have hr : Reads (s.heap.push { cls := Value.type "list", data := Data.seq [Value.int 98 tk].toArray }) (.ref s.heap.objs.size) (.list [.int 98]) (s.heap.objs.size :: ([] ++ [])) := .list hget rfl rfl (.cons (.int _ _) .nil)
    have hu2 : A.in1.units + (PyData.list [.int 98]).depth < cLine := by
      have h1 : (PyData.list [.int 98]).depth ≤ 2 := by decide
      show A.units + 1 + _ < cLine
      omega
    refine wpAny_bind (pyReprObj_of_reads (A := A.in1) hr (by decide +kernel) (fun h => by cases h) hg hu2 (fun _ _ e => e) (fun h' u tk2 hk => ?_) (by decide +kernel))
    refine wpAny_of_eq (a := (PyData.list [.int 98]).shown) rfl ?_
    have hT' : Shared.TypeIs { s with heap := h', toks := tk2 } (.ref a) "set" := ⟨o, hk _ _ (Heap.get?_push_of_some _ ho), hex.1⟩
    refine wpAny_bind (wpAny_typeOf hT' ?_)
    rw [if_pos (by decide)]
    unfold retStr
    refine wpAny_bind (wpAny_mkStr (wpAny_pure ⟨_, rfl, h _ _ _ _ (by decide +kernel) fun c o e => hk _ _ (Heap.get?_push_of_some _ e)⟩) (by decide +kernel))
theorem set_format {a : Addr} {S : Int → Bool} {Q : Value → Shared → Prop} (ha : s.heap.SetOf (PySem.intKind prog w) a S 1) (hS : ∀ k, S k = true ↔ k = 98) (hg : A.guards = some []) (hu : A.units + 20 < cLine)
    (h : ∀ x t h' tk, x.length ≤ 100 → (∀ c o, s.heap.get? c = some o → h'.get? c = some o) → Q (.str x t) { s with heap := h', toks := tk }) : wpAny (model prog w) A (formatField (.ref a) Str.empty) Q E s := by
  have hT : s.TypeIs (.ref a) "set" := by obtain ⟨o, _, _, _, ho, hex, _⟩ := ha; exact ⟨o, ho, hex.1⟩
  refine wpAny_formatField_slot (fun _ _ => nofun) (by omega) hT F.slot_set_format F.slot_set_str F.slot_set_repr.toG ?_
  exact set_repr (s := { s with toks := s.toks + 1 }) (A := A.in1.in1) ha hS hg (by show A.units + 1 + 1 + 10 < cLine; omega) fun x t h' tk hx hk => ⟨x, t, rfl, h x t h' tk hx hk⟩
end
section
variable {prog : Program} {w : World} {A : Around} {E : Value → Shared → Prop} {s : Shared}
abbrev setObj0 (led : Bool) : Obj := { cls := .type "set", dict := none, data := .set #[] 0 (.fresh 0 0 led) }
/-- set(x) of a thing that a loop walks and that yields ints -/
theorem call_set_any {x : Value} {ns : List Int} {Q : Value → Shared → Prop} (hb : ns.length + 1 < scanBound)
    (hIs : ∀ led (A' : Around) (Q' : Bool → Shared → Prop), Q' false { s with heap := s.heap.push (setObj0 led) } → wpAny (model prog w) A' (Builtin.Frozenset.isAnySet x) Q' E { s with heap := s.heap.push (setObj0 led) })
    (hTy : ∀ led (A' : Around) (Q' : Value → Shared → Prop), (∀ T, T ≠ .type "dict" → Q' T { s with heap := s.heap.push (setObj0 led) }) → wpAny (model prog w) A' (typeOf x) Q' E { s with heap := s.heap.push (setObj0 led) })
    (hIt : ∀ led (Q' : Value → Shared → Prop), (∀ (I : Addr) h' tk' fp P St, Walks prog w A.in1.in1.in1 I fp [I] ns.length P St → s.heap.objs.size ∉ fp → (∀ i v, P i v → ∃ t, v = .int (ns.getD i 0) t) → St 0 h' →
        (∀ b o, (s.heap.push (setObj0 led)).get? b = some o → h'.get? b = some o) → (s.heap.push (setObj0 led)).get? I = none → Q' (.ref I) { s with heap := h', toks := tk' }) →
      wpAny (model prog w) A.in1.in1 (pyIter x) Q' E { s with heap := s.heap.push (setObj0 led) })
    (h : ∀ (h' : Heap) (tk : Nat) n, h'.SetOf (PySem.intKind prog w) s.heap.objs.size (fun k' => ns.any (· == k')) n → n ≤ ns.length →
      (∀ b o, s.heap.get? b = some o → h'.get? b = some o) → Q (.ref s.heap.objs.size) { s with heap := h', toks := tk }) :
    wpAny (model prog w) A (call (.type "set") [x]) Q E s := by
  obtain ⟨c, tl, hmro⟩ := F.called_set.mro
  have hmade := F.called_set.made
  have hsub := F.called_set.sub
  refine wpAny_call (codeAny_of_tree ?_)
  show wpAny _ _ (callAny (.type "set") _) _ _ _
  refine wpAny_pure ⟨Code.quiet_builtin _ (by decide +kernel), codeAny_builtin F.entry_type_call ?_⟩
  rw [Around.under_plain (weight_type_call_type "set" [x] []) rfl]
  have h1 := F.called_set.notType
  have h2 := F.called_set.canCreate
  have hct := F.typeCall_set_1 x
  repeat (any_goals (first | assumption | wp_step))
  refine codeAny_mono (code_set_new_1 x (E := E) (Q₁ := fun obj s₁ => ∃ led : Bool, obj = .ref s.heap.objs.size ∧ s₁ = { s with heap := s.heap.push (setObj0 led) }) fun led => ⟨led, rfl, rfl⟩) fun r s₁ hr => ?_
  cases r with
  | error e => exact hr
  | ok fl =>
    cases fl with
    | ret obj =>
      obtain ⟨led, rfl, rfl⟩ := hr
      have hS : (s.heap.push (setObj0 led)).get? s.heap.objs.size = some (setObj0 led) := Heap.get?_push_size _ rfl
      have hT : Shared.TypeIs { s with heap := s.heap.push (setObj0 led) } (.ref s.heap.objs.size) "set" := ⟨_, hS, rfl⟩
      have hli := F.called_set.init.lookup
      have hbi := F.called_set.init.bind (.ref s.heap.objs.size)
      repeat (any_goals (first | assumption | wp_step))
      refine codeAny_mono (codeAny_call_builtin (R := wants (fun r s₂ => r = .none ∧ ∃ h' tk, s₂ = { s with heap := h', toks := tk } ∧
          (∃ n, h'.SetOf (PySem.intKind prog w) s.heap.objs.size (fun k' => ns.any (· == k')) n ∧ n ≤ ns.length) ∧
          (∀ b o, s.heap.get? b = some o → h'.get? b = some o)) E) F.called_set.init.plain F.entry_set_init (check_set_init_1 hT ?_)) fun r₂ s₂ hr₂ => ?_
      · unfold Builtin.«set.__init__» noKeywords
        generalize hUF : Builtin.Frozenset.updateFrom = UF
        wp_walk
        subst hUF
        unfold Builtin.Frozenset.updateFrom
        refine wpAny_bind (hIs led _ _ ?_)
        simp only [Bool.false_eq_true, ↓reduceIte]
        refine wpAny_bind (hTy led _ _ fun T hT => ?_)
        rw [if_neg (by simpa using hT)]
        refine wpAny_bind (hIt led _ fun I h' tk' fp P St W hSf hval hst hk hI => ?_)
        refine wpAny_bind (wpAny_runValue ?_)
        have hsI : s.heap.objs.size ≠ I := fun e => by rw [← e, hS] at hI; cases hI
        refine PyProof.Rows.codeAny_set_update_loopS (A := A.in1.in1) (W.toS) s.heap.objs.size hSf (fun i => ns.getD i 0) hval hb (ns.length - 0) 0 _ (by omega) (Nat.zero_le _) hst ?hS0 ?hR
        case hS0 => exact PyProof.Rows.SetOf_congr ((PyProof.Rows.setObjOf_fresh (knd := PySem.intKind prog w) led).setOf (hk _ _ hS) (by unfold scanBound; omega)) (fun _ => rfl) rfl
        case hR =>
          intro s' hm hS'
          obtain ⟨h2, g2, d2, tk2, os2⟩ := s'
          have eg : g2 = s.gens := hm.gens
          have ed : d2 = s.drawn := hm.drawn
          have eo : os2 = s.os := hm.os
          subst eg; subst ed; subst eo
          show wpAny _ _ _ _ _ _
          refine wpAny_pure ?_
          show wpAny _ _ (ret Value.none) _ _ _
          refine wpAny_pure ⟨rfl, h2, tk2, rfl, ⟨_, PyProof.Rows.SetOf_congr hS' (fun k => ?_) rfl, PyProof.Rows.firstMet_length_le _ _⟩, fun b o e => ?_⟩
          · rw [PyProof.Rows.firstMet_any]
            congr 1
            apply List.ext_getElem
            · simp
            · intro i h1 h2
              simp [List.getD, List.getElem?_eq_getElem h2]
          · have e1 := Heap.get?_push_of_some (setObj0 led) e
            have b1 : b ≠ s.heap.objs.size := Nat.ne_of_lt (Heap.lt_size e)
            have b2 : b ≠ I := fun q => by rw [q, hI] at e1; cases e1
            exact hm.heap b o (by simp only [List.mem_cons, List.mem_singleton, List.not_mem_nil, or_false, not_or]; exact ⟨b1, b2⟩) (hk _ _ e1)
      · cases r₂ with
        | error e => exact hr₂
        | ok fl₂ =>
          cases fl₂ with
          | ret r =>
            obtain ⟨rfl, h', tk, rfl, ⟨n, hS', hn⟩, hk'⟩ := hr₂
            repeat (any_goals (first | assumption | wp_step))
            exact h _ _ _ hS' hn hk'
          | _ => exact hr₂
    | _ => exact hr
end
section
variable {prog : Program} {w : World} {A : Around} {E : Value → Shared → Prop} {s : Shared}
theorem inst_sub {g C dx : Addr} {K : Frag} {T : Value} {r : Bool} {Q : Bool → Shared → Prop} (X : K.In s.heap) (hg : s.heap.get? g = some (instObj C dx)) (e : subIn K (.ref C) T = some r) (h : Q r s) : wpAny (model prog w) A (isInstance (.ref g) T) Q E s := by
  unfold isInstance
  refine wpAny_bind ?_
  simp only [typeOf]
  exact wpAny_bind (wpAny_load hg (wpAny_pure ((looks_subIn X e).here h)))
theorem inst_anySet {g C dx : Addr} {K : Frag} {Q : Bool → Shared → Prop} (X : K.In s.heap) (hg : s.heap.get? g = some (instObj C dx)) (e1 : subIn K (.ref C) (.type "set") = some false) (e2 : subIn K (.ref C) (.type "frozenset") = some false) (h : Q false s) :
    wpAny (model prog w) A (Builtin.Frozenset.isAnySet (.ref g)) Q E s := by
  unfold Builtin.Frozenset.isAnySet
  show wpAny _ _ (isInstance (.ref g) (Value.type "set") >>= _) _ _ _
  refine wpAny_bind (inst_sub X hg e1 ?_)
  exact inst_sub X hg e2 h
end
theorem ints_any {ns : List Int} : (fun k' => ns.any (· == k')) = fun k => decide (k ∈ ns) := by
  funext k
  rw [Bool.eq_iff_iff, List.any_eq_true, decide_eq_true_eq]
  constructor
  · rintro ⟨y, hy, e⟩; have := eq_of_beq e; subst this; exact hy
  · intro h; exact ⟨k, h, by simp⟩
theorem setG_spec {w : World} {p : Program} {loose : List Str} {mean : ExcName → Option Value} {mg mb : Str → Option Value} {dp un : Nat} {gd : Option (List Code)} {cn : Str} {cs : Scope} {a : Addr} {ccd : Value} {cl : List (Str × Addr)} {outer : List Env} {A₀ : Around} {base h₀ : Heap} {L : Addr} {m : Str → Option Value} {s : Shared} {Q E : Value → Shared → Prop} {g nd ad pd : Addr} {nkvs : List (Int × Value)} {ep : Nat} {ns : List Int}
    (B : Below A₀ base outer h₀) (F : Fr h₀ L s.heap m) (X : (hd.heap_39 w.params).In h₀) (T : Top p loose mean mg mb h₀) (hk : cs.kind = .function) (S : Sys h₀) (hO : DiObj s.heap g nd ad pd) (hat : s.heap.DictAt (PySem.intKind PySem.Challenge.rw_fq0029_01.row.prog w) nd nkvs ep) (lo : (nd == sysModules) = false) (hns : nkvs.map (·.1) = ns) (hnl : ns.length ≤ 1000) (hdp : dp + 1 < recursionLimit) (hun : un + 16 < cLine)
    (ret : ∀ D h' tk' n, Keeps s.heap h' → s.heap.objs.size ≤ D → h'.SetOf (PySem.intKind PySem.Challenge.rw_fq0029_01.row.prog w) D (fun k => decide (k ∈ ns)) n → n ≤ ns.length → Q (.ref D) { s with heap := h', toks := tk' }) :
    wpAny (model PySem.Challenge.rw_fq0029_01.row.prog w) (ktrTop dp un gd cn cs L a ccd cl outer) (call (.type "set") [.ref g]) Q E s := by
  obtain ⟨dx, k1, k2, k3, k4, k5, t1, t2, t3, t4, t5, v1, e1, e2⟩ := id hO
  have hlen : nkvs.length = ns.length := by rw [← hns, List.length_map]
  revert X
  k_fill
  intro X
  have X1 : ∀ led, Frag.In _ (s.heap.push (setObj0 led)) := fun led => X.keeps fun b o e => Heap.get?_push_of_some _ (F.keep b o e)
  have F1 : ∀ led, Fr h₀ L (s.heap.push (setObj0 led)) m := fun led => F.push _
  have O1 : ∀ led, DiObj (s.heap.push (setObj0 led)) g nd ad pd := fun led => hO.keep fun b o e => Heap.get?_push_of_some _ e
  have g1 : ∀ led, (s.heap.push (setObj0 led)).get? g = some (instObj 831 dx) := fun led => Heap.get?_push_of_some _ e1
  have hndlt : nd < s.heap.objs.size := by obtain ⟨o, es, ho, _⟩ := hat; exact Heap.lt_size ho
  refine call_set_any (ns := ns) (by unfold scanBound; omega) (fun led A' Q' hq => ?_) (fun led A' Q' hq => ?_) (fun led Q' hq => ?_) (fun h' tk n hS hn hk => ?_)
  · refine inst_anySet (C := 831) (dx := dx) (X1 led) (g1 led) ?_ ?_ hq
    · k_is
    · k_is
  · simp only [typeOf]
    exact wpAny_bind (wpAny_load (g1 led) (wpAny_pure (hq _ nofun)))
  · refine pyIterG_spec (un := un + 1 + 1) (s := { s with heap := s.heap.push (setObj0 led) }) B (F1 led) X T hk S (O1 led) (hat.keep fun b o e => Heap.get?_push_of_some _ e) lo hdp (by omega) fun I h' tk' hk' hI hit => ?_
    have hI' : s.heap.objs.size < I := by
      have : (s.heap.push (setObj0 led)).objs.size ≤ I := hI
      rw [Heap.size_push] at this
      exact this
    have hne : nd ≠ I := Nat.ne_of_lt (Nat.lt_trans hndlt hI')
    refine hq I h' tk' _ _ _ (hlen ▸ Walks.dictKeys (knd := PySem.intKind PySem.Challenge.rw_fq0029_01.row.prog w) (by rfl) I nd hne nkvs ep) ?_ ?_ ⟨hlen ▸ hit, hat.keep fun b o e => hk'.keep _ _ (Heap.get?_push_of_some _ e)⟩ hk'.keep (get_none_of_size hI)
    · intro hm
      rcases List.mem_cons.mp hm with q | hm
      · exact absurd q (Nat.ne_of_lt hI')
      · exact absurd (List.mem_singleton.mp hm).symm (Nat.ne_of_lt hndlt)
    · rintro i v ⟨k, x, hx, hkv⟩
      obtain ⟨t, rfl⟩ := Value.isInt_shape hkv
      refine ⟨t, ?_⟩
      have : ns[i]? = some k := by rw [← hns, List.getElem?_map, hx]; rfl
      simp [List.getD, this]
  · rw [ints_any] at hS
    exact ret _ h' tk n ⟨hk, Nat.le_of_lt (by obtain ⟨o, es, ep, t, ho, _⟩ := hS; exact Heap.lt_size ho)⟩ (Nat.le_refl _) hS hn
section
variable {prog : Program} {w : World} {A : Around} {E : Value → Shared → Prop} {s : Shared}
theorem sub_tuple_set : isSubtype (.type "tuple") (.type "set") = pure false := by rw [isSubtype_type]; kernel_rfl
theorem sub_tuple_frozenset : isSubtype (.type "tuple") (.type "frozenset") = pure false := by rw [isSubtype_type]; kernel_rfl
/-- set((x, y)) -/
theorem set_tuple {t : Addr} {items : Array Value} {ns : List Int} {Q : Value → Shared → Prop} (hh : A.handled = none) (ht : s.heap.IsTuple t items) (hi : IntsAre items.toList ns) (hnl : ns.length ≤ 1000)
    (h : ∀ (h' : Heap) (tk : Nat) n, h'.SetOf (PySem.intKind prog w) s.heap.objs.size (fun k => decide (k ∈ ns)) n → n ≤ ns.length → (∀ b o, s.heap.get? b = some o → h'.get? b = some o) → Q (.ref s.heap.objs.size) { s with heap := h', toks := tk }) :
    wpAny (model prog w) A (call (.type "set") [.ref t]) Q E s := by
  have hlen : items.size = ns.length := by rw [← Array.length_toList, IntsAre.length hi]
  have ht1 : ∀ led, (s.heap.push (setObj0 led)).IsTuple t items := fun led => ht.at fun o e => Heap.get?_push_of_some _ e
  have hT : ∀ led, Shared.TypeIs { s with heap := s.heap.push (setObj0 led) } (.ref t) "tuple" := fun led => (ht1 led).typeIs (s := { s with heap := s.heap.push (setObj0 led) })
  have htlt : t < s.heap.objs.size := by obtain ⟨o, ho, _⟩ := ht; exact Heap.lt_size ho
  refine call_set_any (ns := ns) (by unfold scanBound; omega) (fun led A' Q' hq => ?_) (fun led A' Q' hq => ?_) (fun led Q' hq => ?_) (fun h' tk n hS hn hk => ?_)
  · unfold Builtin.Frozenset.isAnySet
    show wpAny _ _ (isInstance (.ref t) (Value.type "set") >>= _) _ _ _
    refine wpAny_bind (wpAny_isInstance (hT led) sub_tuple_set ?_)
    exact wpAny_isInstance (hT led) sub_tuple_frozenset hq
  · exact wpAny_typeOf (hT led) (hq _ (by decide))
  · refine wpAny_pyIter_tuple (ht1 led) ?_
    have hsz : s.heap.objs.size < (s.heap.push (setObj0 led)).objs.size := by rw [Heap.size_push]; exact Nat.lt_succ_self _
    have hne : t ≠ (s.heap.push (setObj0 led)).objs.size := Nat.ne_of_lt (Nat.lt_trans htlt hsz)
    refine hq _ _ s.toks _ _ _ (hlen ▸ Walks.tuple (by show A.handled = none; exact hh) _ t hne items) ?_ ?_ ⟨⟨_, Heap.get?_push_size _ rfl, rfl, rfl⟩, (ht1 led).at fun o e => Heap.get?_push_of_some _ e⟩ (fun b o e => Heap.get?_push_of_some _ e) (get_none_of_size (Nat.le_refl _))
    · intro hm
      rcases List.mem_cons.mp hm with q | hm
      · exact absurd q (Nat.ne_of_lt hsz)
      · exact absurd (List.mem_singleton.mp hm).symm (Nat.ne_of_lt htlt)
    · intro i v hv
      exact PyProof.Rows.IntsAre.int_at hi i v (by rw [Array.getElem?_toList]; exact hv)
  · rw [ints_any] at hS
    exact h h' tk n hS hn hk
end
local macro_rules | `(tactic| walk_at "call type:set cons nil") => `(tactic| (k_here; (with_reducible show wpAny _ _ (call (Value.type "set") [Value.ref _]) _ _ _); k_dflt (refine' setG_spec ?B ?F ?X ?T ?hk ?S ?hO ?hat ?lo ?hns ?hnl ?hdp ?hun ?_; (case B => k_asm); (case F => k_asm); (case X => k_asm); (case T => k_asm); (case hk => rfl); (case S => assumption); (case hO => walk_at "DIO"); (case hat => walk_at "DAT"); (case lo => assumption); (case hns => assumption); (case hnl => omega); (case hdp => walk_at "ROOM"); (case hun => walk_at "UNITS")); intro D' h' tk' n' hk' hD' hS' hn'; obtain ⟨o', ho', hso'⟩ := hS'.objOf; (have N' := news_add (by k_asm) (news_onto (by k_asm) hk') hD' ho'); (have l1' := news_lt (by k_asm) hD'); (have F' := fr_onto (by k_asm) hk'); (try clear hk' ho' hD' hS'); (try k_lt l1'); (try dsimp only); (try k_sweep)))
theorem bindL_lk {kindOf : Str → Option NameKind} : ∀ (binds : List (Str × Value)) (l : List (Str × Option Value)), (∀ x ∈ binds, kindOf x.1 = some .local) → bindL kindOf binds (lk l) = lk ((binds.reverse.map fun p => (p.1, some p.2)) ++ l)
  | [], l, _ => rfl
  | (n, v) :: r, l, h => by
    show bindL kindOf r (if kindOf n = some .local then fun y => if y = n then some v else lk l y else lk l) = _
    rw [if_pos (h (n, v) (.head _)), lk_set, bindL_lk r _ fun x hx => h x (.tail _ hx)]
    simp
section
variable {prog : Program} {w : World} {A₀ A : Around} {s : Shared} {K : Frag} {L : Addr} {base h₀ : Heap} {m mg mb : Str → Option Value} {p : Program} {loose : List Str} {mean : ExcName → Option Value}
/-- the same of a def some names of which live in cells (no argument does) -/
theorem bindC_none {kindOf : Str → Option NameKind} : ∀ (binds : List (Str × Value)) (m : Str → Option Value), (∀ x ∈ binds, kindOf x.1 = some .local) → bindC kindOf binds m = m
  | [], m, _ => rfl
  | (n, v) :: r, m, h => by
    show bindC kindOf r (if kindOf n = some .local then m else fun y => if y = n then some v else m y) = m
    rw [if_pos (h (n, v) (.head _)), bindC_none r m fun x hx => h x (.tail _ hx)]
theorem enterC {env : Env} {outer : List Env} {R : Result → Shared → Prop} {name qual : Str} {params : Arguments} {body : List Stmt} {scope : Scope} {dV kV doc pm cdv ct oc : Value} {an od : Option Addr} {osl : Array (Option Value)} {f : Addr} {args : Args} {binds : List (Str × Value)} (H : List (Addr × Obj))
    (B : Below A₀ base outer h₀) (F : Fr h₀ L s.heap m) (N₀ : News h₀ L s.heap H) (X₀ : K.In h₀) (T : Top p loose mean mg mb h₀) (hA : A.frames = some (env :: outer)) (hf : env.frame = some L) (hke : env.scope.kind = .function)
    (ho : K.lookup f = some ⟨oc, od, .func (fnX name qual params body scope [] dV kV doc pm an cdv ct), osl⟩) (hcd : codeIn K cdv qual = true) (hroom : A.depth < recursionLimit)
    (hbind : BindsTo s (fnX name qual params body scope [] dV kV doc pm an cdv ct) args binds) (hkl : ∀ L', ∀ x ∈ binds, (envOfC qual scope L' f cdv).kindOf x.1 = some .local)
    (hloc : ∀ x ∈ binds, scope.names.lookup x.1 = some .local) (hnd : ((cellsFrom 0 scope.names []).map (·.1)).Nodup) (cl' : Addr → List (Str × Addr)) (hcl' : ∀ L', cellsFrom (L' + 1) scope.names [] = cl' L')
    (h : ∀ g L' h₁ tk cells, g = hideAll s.heap (H.map (·.1)) → Fr g L' h₁ (lk (binds.reverse.map fun p => (p.1, some p.2))) → News g L' h₁ (cells ++ H) →
      CellsAre (fun _ => none) (cl' L') cells → (∀ p ∈ H, p.1 < L') → Below A base (env :: outer) g → K.In g → Top p loose mean mg mb g → h₀.StaysIn g →
      wpAny (model prog w) (A.deeper (envX qual scope L' f cdv (cl' L'))) (execs body (envX qual scope L' f cdv (cl' L')))
        (fun fl s' => R (.ok (.ret (match fl with | .ret v => v | _ => .none))) s')
        (fun e s' => wpAny (model prog w) (A.deeper (envX qual scope L' f cdv (cl' L'))) (leaving (envX qual scope L' f cdv (cl' L')) e) (fun _ s'' => R (.error e) s'') (fun e' s'' => R (.error e') s'') s')
        { s with heap := h₁, toks := tk })
    (hco : scope.isCoroutine = false) (hgen : scope.isGenerator = false) (hk : scope.kind = .function) : codeAny (model prog w) A (.call (.ref f) args) R s := by
  obtain ⟨FG, BG, st, _⟩ := groundX (R := R) B F N₀ hA hf hke
  have X := X₀.keeps F.keep
  have T' := T.keeps F.keep
  refine codeAny_call_function hroom (X _ _ ho) rfl hco hgen rfl (codeRec_of X hcd) (hbind _ _ _ _ ?_)
  refine wpAny_newFunctionEnv_cells hk (fun x hx => .inl (hloc x hx)) fun env' he s' x => ?_
  subst he
  refine ⟨T'.nolimit.keeps x.toInCall.keep, codeAny_func ?_⟩
  obtain ⟨h₁, tk, rfl, _⟩ := x.done
  have hk₁ := x.toInCall.keep
  obtain ⟨cells, NC, Y⟩ := Cl.news (h₀ := s.heap) (Nat.le_refl _) fun n c hm => ⟨x.cell n c (lookup_of_mem_nodup (cellsFrom_names scope.names 0 (s.heap.objs.size + 1) [] [] rfl ▸ hnd) hm), x.above n c hm⟩
  have hns : h₁.Ns s.heap.objs.size (lk (binds.reverse.map fun p => (p.1, some p.2))) := by
    have := x.toInCall.ns
    have e := bindL_lk (kindOf := (envOfC qual scope s.heap.objs.size f cdv).kindOf) binds [] (hkl _)
    rw [List.append_nil] at e
    rw [← e]
    exact this
  have Y : CellsAre (bindC (envOfC qual scope s.heap.objs.size f cdv).kindOf binds fun _ => none) (cellsFrom (s.heap.objs.size + 1) scope.names []) cells := Y
  rw [bindC_none binds _ (hkl _), hcl'] at Y
  have he : envOfC qual scope s.heap.objs.size f cdv = envX qual scope s.heap.objs.size f cdv (cl' s.heap.objs.size) := by
    show envX qual scope s.heap.objs.size f cdv (cellsFrom (s.heap.objs.size + 1) scope.names []) = _
    rw [hcl']
  show wpAny (model prog w) (A.deeper (envOfC qual scope s.heap.objs.size f cdv)) (execs body (envOfC qual scope s.heap.objs.size f cdv)) (fun fl s' => R (.ok (.ret (match fl with | .ret v => v | _ => .none))) s') (fun e s' => wpAny (model prog w) (A.deeper (envOfC qual scope s.heap.objs.size f cdv)) (leaving (envOfC qual scope s.heap.objs.size f cdv) e) (fun _ s'' => R (.error e) s'') (fun e' s'' => R (.error e') s'') s') _
  rw [he]
  refine h _ s.heap.objs.size h₁ tk cells rfl ⟨hns, fun b o e => hk₁ b o (of_hideAll _ e), Nat.le_of_eq (hideAll_size _ _)⟩ (fun p hp => ?_) Y (fun p hp => Heap.lt_size (N₀ p hp).1) BG (X₀.keeps st) (T.keeps st) st
  rcases List.mem_append.mp hp with hp | hp
  · refine ⟨(NC p hp).1, (NC p hp).2.1, ?_⟩
    cases q : (hideAll s.heap (H.map (·.1))).get? p.1 with
    | none => rfl
    | some o => have := of_hideAll _ q; rw [(NC p hp).2.2] at this; cases this
  · exact ⟨hk₁ _ _ (N₀ p hp).1, Nat.ne_of_lt (Heap.lt_size (N₀ p hp).1), hideAll_none _ (List.mem_map_of_mem hp)⟩
end
theorem lenG_spec {w : World} {p : Program} {loose : List Str} {mean : ExcName → Option Value} {mg mb : Str → Option Value} {dp un : Nat} {gd : Option (List Code)} {cn : Str} {cs : Scope} {a : Addr} {ccd : Value} {cl : List (Str × Addr)} {outer : List Env} {A₀ : Around} {base h₀ : Heap} {L : Addr} {m : Str → Option Value} {s : Shared} {Q E : Value → Shared → Prop} {g nd ad pd : Addr} {nkvs : List (Int × Value)}
    (B : Below A₀ base outer h₀) (F : Fr h₀ L s.heap m) (X : (hd.heap_39 w.params).In h₀) (T : Top p loose mean mg mb h₀) (hk : cs.kind = .function) (S : Sys h₀) (hO : DiObj s.heap g nd ad pd) (hat : s.heap.DictOf (PySem.intKind PySem.Challenge.rw_fq0029_01.row.prog w) nd nkvs) (lo : (nd == sysModules) = false) (hnl : nkvs.length ≤ 100) (hdp : dp + 1 < recursionLimit) (hun : un + 9 < cLine)
    (ret : ∀ t h' tk', Keeps s.heap h' → Q (.int nkvs.length t) { s with heap := h', toks := tk' }) :
    wpAny (model PySem.Challenge.rw_fq0029_01.row.prog w) (ktrTop dp un gd cn cs L a ccd cl outer) (call (.builtin "len") [.ref g]) Q E s := by
  obtain ⟨dx, k1, k2, k3, k4, k5, t1, t2, t3, t4, t5, v1, e1, e2⟩ := id hO
  revert X
  k_fill
  intro X
  refine' len_K (f := 359) F X (inst_at e1 e2) ?hs ?hf ?_
  case hs => k_is
  case hf => k_is
  refine len_spec (un := un + 1) B F X T hk S hO hat lo hnl hdp (by omega) fun t h' tk' hk' => ?_
  exact ⟨⟨by omega, by omega⟩, ret _ _ _ hk'⟩
theorem eq0_no {prog : Program} {w : World} {A : Around} {E : Value → Shared → Prop} {s : Shared} {n : Nat} {t u : Tok} {Q : Value → Shared → Prop} (hn : 0 < n) (h : Q (.bool false) s) : wpAny (model prog w) A (compareOp .Eq (.int (n : Nat) t) (.int 0 u)) Q E s :=
  IsLeap.wpAny_eq_int' (by
    have : (((n : Nat) : Int) == 0) = false := by rw [beq_eq_false_iff_ne]; omega
    rw [this]; exact h)
local macro_rules | `(tactic| walk_at "call builtin:len") => `(tactic| (k_here; (with_reducible show wpAny _ _ (call (Value.builtin "len") [Value.ref _]) _ _ _); k_dflt (refine' lenG_spec ?B ?F ?X ?T ?hk ?S ?hO ?hat ?lo ?hnl ?hdp ?hun ?_; (case B => k_asm); (case F => k_asm); (case X => k_asm); (case T => k_asm); (case hk => rfl); (case S => assumption); (case hO => walk_at "DIO"); (case hat => exact Heap.DictOf.keep (by assumption) (Fr.keep (by k_asm))); (case lo => assumption); (case hnl => assumption); (case hdp => walk_at "ROOM"); (case hun => walk_at "UNITS")); intro t' h' tk' hk'; (have N' := news_onto (by k_asm) hk'); (have F' := fr_onto (by k_asm) hk'); (try clear hk'); (try dsimp only); (try k_sweep)))
local macro_rules | `(tactic| walk_at "compareOp Eq int int") => `(tactic| (k_here; (with_reducible show wpAny _ _ (compareOp CmpOp.Eq (Value.int _ _) (Value.int 0 _)) _ _ _); k_dflt (refine' eq0_no ?a ?_; (case a => assumption))))
section
variable {prog : Program} {w : World} {A : Around} {E : Value → Shared → Prop} {s : Shared} {h₀ : Heap} {L : Addr} {m : Str → Option Value} {news : List (Addr × Obj)} {env : Env}
abbrev tk2 (prog : Program) (w : World) := tupleKind (PySem.intKind prog w)
/-- {x: None for x in [t]}, t a tuple of two ints, stored at a name -/
theorem pairs_comp {x y : Str} {px px' py cp : Pos} {kd : Nat} {iter : Expr} {scope : Scope} {cl : List (Str × Addr)} {pos spos : Pos} {Q : Flow → Shared → Prop} (_F₀ : Fr h₀ L s.heap m) (_N₀ : News h₀ L s.heap news) (S : Sys h₀)
    (hsw : swapsWith (.DictComp (.Name x px') (.Constant .none kd cp) [⟨.Name x px, iter, [], 0⟩] scope pos) (some (.Name y py)) spos.line env = pure true) (hL : env.locals = L)
    (hh : A.handled = none) (hu : A.units < cLine) (hclos : closureFor scope env = pure cl) (hcell : ∀ z ∈ scope.names, z.2 ≠ .cell) (hkind : scope.kind = .function)
    (hnames : ∀ z ∈ scope.names, z.2 = .local → scope.names.lookup z.1 = some .local) (hx : scope.names.lookup x = some .local)
    (hy : env.kindOf y = some .local) (hp : (env.scope.kind == .class || (env.scope.kind == .module && env.locals != env.globals)) = false)
    (hs : ∀ x, foldedSetIterable iter env x = pure x) (hkk : ∀ C, (compEnvC scope cl C env).scope.kind = .function) (hkx : ∀ C, (compEnvC scope cl C env).kindOf x = some .local) (hdx : (x == ("__debug__" : Str)) = false)
    (h : wpAny (model prog w) A (eval iter env) (fun xv s₁ => Stop (∃ ax t u v tu tv, xv = .ref ax ∧ s₁.heap.IsList ax [Value.ref t].toArray ∧ s₁.heap.IsTuple t #[Value.int u tu, Value.int v tv] ∧ Fr h₀ L s₁.heap m ∧ News h₀ L s₁.heap news ∧
      ∀ D o h' tk, Fr h₀ L h' (fun z => if z = y then some (.ref D) else m z) → News h₀ L h' ((D, o) :: news) → (∀ q ∈ news, q.1 < D) → h'.DictOfH (tk2 prog w) D [([u, v], t, .none)] → (D == sysModules) = false → Q .next { s₁ with heap := h', toks := tk })) E s) :
    wpAny (model prog w) A (exec (.Assign [.Name y py] (.DictComp (.Name x px') (.Constant .none kd cp) [⟨.Name x px, iter, [], 0⟩] scope pos) spos) env) Q E s := by
  subst hL
  rw [exec_Assign_Name_used _ _ _ _ hsw]
  refine wpAny_bind (wpAny_standAt (wpAny_bind ?_))
  show wpAny _ A (do let _ ← comprehension (.DictComp (.Name x px') (.Constant .none kd cp) [⟨.Name x px, iter, [], 0⟩] scope pos) scope env _ newDict false (eval iter env) (some (assign (.Name y py) env))) _ _ s
  refine wpAny_bind (wpAny_mono (wpAny_comprehension_free (use := some (assign (.Name y py) env)) (Q := fun _ s' => Q .next s') rfl hs hclos hkind hnames
    (wpAny_mono h (fun xv s₁ h₁ => ?_) fun _ _ e => e)) (fun _ s' hq => wpAny_pure (wpAny_pure hq)) fun _ _ e => e)
  obtain ⟨ax, t, u, v, tu, tv, rfl, hl, ht, F, N, hQ⟩ := h₁
  have hlt : ax < s₁.heap.objs.size := by obtain ⟨_, e, _⟩ := hl; exact Heap.lt_size e
  refine wpAny_pyIter_list hl ?_
  refine wpAny_newObj_type (wpAny_newFunctionEnv hcell (by intro y hy; simp at hy) (fun h₁ hns₁ hsb₁ => ?_) hkind)
  dsimp only at hns₁ hsb₁ ⊢
  generalize hH1 : s₁.heap.push { cls := .type "list_iterator", data := .fields #[.ref ax, .int 0 0] } = H1 at hns₁ hsb₁ ⊢
  generalize hH2 : H1.push { cls := .type "dict", dict := none, data := .dict #[] } = H2 at hns₁ hsb₁ ⊢
  have z1 : H1.objs.size = s₁.heap.objs.size + 1 := by rw [← hH1, Heap.size_push]
  have z2 : H2.objs.size = s₁.heap.objs.size + 1 + 1 := by rw [← hH2, Heap.size_push, z1]
  have k1 : ∀ b o, s₁.heap.get? b = some o → H1.get? b = some o := fun b o e => hH1 ▸ Heap.get?_push_of_some _ e
  have k2 : ∀ b o, H1.get? b = some o → H2.get? b = some o := fun b o e => hH2 ▸ Heap.get?_push_of_some _ e
  have k3 : ∀ b o, H2.get? b = some o → h₁.get? b = some o := fun b o e => hsb₁.extBut b o (Nat.ne_of_lt (Heap.lt_size e)) (Heap.get?_push_of_some _ e)
  have kk : ∀ b o, s₁.heap.get? b = some o → h₁.get? b = some o := fun b o e => k3 b o (k2 b o (k1 b o e))
  have hIt : h₁.IsListIter s₁.heap.objs.size ax 0 := ⟨_, k3 _ _ (k2 _ _ (hH1 ▸ Heap.get?_push_size _ rfl)), rfl, rfl⟩
  have hD0 : h₁.DictOfH (tk2 prog w) H1.objs.size [] := ⟨_, #[], 0, k3 _ _ (hH2 ▸ Heap.get?_push_size _ rfl), ⟨rfl, rfl, rfl⟩, rfl, rfl, fun _ hx => by simp at hx, List.nodup_nil⟩
  have nI : ∀ b o, s₁.heap.get? b = some o → b ≠ s₁.heap.objs.size ∧ b ≠ H1.objs.size ∧ b ≠ H2.objs.size := fun b o e => by
    have := Heap.lt_size e
    refine ⟨Nat.ne_of_lt this, ?_, ?_⟩
    · rw [z1]; exact Nat.ne_of_lt (Nat.lt_succ_of_lt this)
    · rw [z2]; exact Nat.ne_of_lt (Nat.lt_succ_of_lt (Nat.lt_succ_of_lt this))
  have hID : s₁.heap.objs.size ≠ H1.objs.size := by rw [z1]; exact Nat.ne_of_lt (Nat.lt_succ_self _)
  have hIC : s₁.heap.objs.size ≠ H2.objs.size := by rw [z2]; exact Nat.ne_of_lt (Nat.lt_succ_of_lt (Nat.lt_succ_self _))
  have hDC : H1.objs.size ≠ H2.objs.size := by rw [z1, z2]; exact Nat.ne_of_lt (Nat.lt_succ_self _)
  have W := Walks.list (prog := prog) (w := w) hh s₁.heap.objs.size ax (Nat.ne_of_lt hlt) [Value.ref t].toArray
  have hl1 : h₁.IsList ax [Value.ref t].toArray := hl.at fun o e => kk _ _ e
  have hkey : ∀ h', (∀ b o, s₁.heap.get? b = some o → h'.get? b = some o) → IsTupleKey (PySem.intKind prog w) h' [u, v] t := fun h' k => by
    obtain ⟨o, ho, hc, n, hd⟩ := ht
    exact ⟨o, _, n, k _ _ ho, hc, hd, .cons (intKind_is prog w u tu) (.cons (intKind_is prog w v tv) .nil)⟩
  have fin : ∀ h' tk m', (∀ b o, s₁.heap.get? b = some o → h'.get? b = some o) → h'.Ns H2.objs.size m' → h'.DictOfH (tk2 prog w) H1.objs.size [([u, v], t, .none)] →
      compPost (model prog w) A E (some (assign (.Name y py) env)) (fun _ s' => Q .next s') (.ref H1.objs.size) H2.objs.size (.ok .next) { s₁ with heap := h', toks := tk } := fun h' tk m' kp hnC hD => by
    have hLs : env.locals < s₁.heap.objs.size := F.ns.lt
    have hLC : env.locals ≠ H2.objs.size := by rw [z2]; exact Nat.ne_of_lt (Nat.lt_succ_of_lt (Nat.lt_succ_of_lt hLs))
    have hLD : env.locals ≠ H1.objs.size := by rw [z1]; exact Nat.ne_of_lt (Nat.lt_succ_of_lt hLs)
    show wpAny _ A (assign (.Name y py) env (.ref H1.objs.size)) _ _ _
    refine wpAny_assign_Name (wpAny_storeName_local hy (F.ns.at' fun o e => kp _ o e) (fun h₂ hn₂ hs₂ => ?_) hp)
    refine ⟨m', hnC.sameBut hs₂ (Ne.symm hLC), fun h₃ hs₃ => ?_⟩
    have keep : ∀ b o, b ≠ env.locals → s₁.heap.get? b = some o → h₃.get? b = some o := fun b o hb e => hs₃.extBut b o (nI b o e).2.2 (hs₂.extBut b o hb (kp b o e))
    have hD3 : h₃.DictOfH (tk2 prog w) H1.objs.size [([u, v], t, .none)] := by
      obtain ⟨o, es, ep, e1, e2, e3, e4, e5, e6⟩ := hD
      refine ⟨o, es, ep, hs₃.extBut _ _ hDC (hs₂.extBut _ _ (Ne.symm hLD) e1), e2, e3, e4, fun x hx => ?_, e6⟩
      rw [List.mem_singleton.mp hx]
      obtain ⟨ot, hot, r⟩ := hkey s₁.heap (fun _ _ e => e) |> fun q => q
      have ht0 : s₁.heap.get? t = some ot := by obtain ⟨_, _, _⟩ := r; assumption
      exact (hkey h' kp) |> fun q => by
        obtain ⟨o', items, n', q1, q2, q3, q4⟩ := q
        have : t ≠ env.locals := fun e => by
          obtain ⟨oL, es', ep', hoL, hdL, _⟩ := F.ns
          obtain ⟨o2, ho2, hc2, n2, hd2⟩ := ht
          rw [e, hoL] at ho2; cases ho2
          rw [hdL] at hd2; cases hd2
        have tC : t ≠ H2.objs.size := by obtain ⟨o2, ho2, _⟩ := ht; exact (nI t o2 ho2).2.2
        exact ⟨o', items, n', hs₃.extBut _ _ tC (hs₂.extBut _ _ this q1), q2, q3, q4⟩
    have hD0' : h₀.get? H1.objs.size = none := by
      cases e : h₀.get? H1.objs.size with
      | none => rfl
      | some o => exact absurd rfl (nI _ o (F.keep _ _ e)).2.1
    obtain ⟨oD, _, _, hoD, _⟩ := id hD3
    refine hQ H1.objs.size oD h₃ _ ⟨hn₂.sameBut hs₃ hLC, fun b o e => keep b o (Nat.ne_of_lt (Nat.lt_of_lt_of_le (Heap.lt_size e) F.above)) (F.keep b o e), F.above⟩ (fun p hp => ?_) (fun q hq => ?_) hD3 (lo_fr F S (by rw [z1]; exact Nat.le_succ _))
    · rcases List.mem_cons.mp hp with rfl | hp
      · exact ⟨hoD, Ne.symm hLD, hD0'⟩
      · exact ⟨keep _ _ (N p hp).2.1 (N p hp).1, (N p hp).2⟩
    · rw [z1]; exact Nat.lt_succ_of_lt (Heap.lt_size (N q hq).1)
  have loop : ∀ s₃ : Shared, s₃ = { s₁ with heap := h₁, toks := s₁.toks + ([] : List (Str × Value)).length } →
      codeAny (model prog w) A (.compLoop (.DictComp (.Name x px') (.Constant .none kd cp) [⟨.Name x px, iter, [], 0⟩] scope pos) 0 (.ref s₁.heap.objs.size) (.ref H1.objs.size) (compEnvC scope cl H2.objs.size env))
        (compPost (model prog w) A E (some (assign (.Name y py) env)) (fun _ s' => Q .next s') (.ref H1.objs.size) H2.objs.size) s₃ := by
    rintro s₃ rfl
    refine codeAny_compLoop_testsD
      (fun k s' => (k = 1 ∧ s' = { s₁ with heap := h₁, toks := s₁.toks + ([] : List (Str × Value)).length }) ∨ (k = 0 ∧ ∃ h' tk m', s' = { s₁ with heap := h', toks := tk } ∧ (∀ b o, s₁.heap.get? b = some o → h'.get? b = some o) ∧
        h'.IsListIter s₁.heap.objs.size ax 1 ∧ h'.Ns H2.objs.size m' ∧ h'.DictOfH (tk2 prog w) H1.objs.size [([u, v], t, .none)])) ?_ 1 (.inl ⟨rfl, rfl⟩)
    rintro k s' (⟨rfl, rfl⟩ | ⟨rfl, h', tk, m', rfl, kp, hit, hnC, hD⟩)
    · refine W.item 0 _ _ _ (by simp) ⟨hIt, hl1⟩ fun v' h₂ tk₂ hP hst hk₂ => ?_
      obtain rfl : v' = .ref t := by simpa using hP.symm
      have o2 : ∀ b o, b ≠ s₁.heap.objs.size → h₁.get? b = some o → h₂.get? b = some o := fun b o hb e => hk₂ b o (by simpa using hb) e
      refine wpAny_assign_Name (wpAny_storeName_local (hkx _) (hns₁.at' fun o e => o2 _ o (Ne.symm hIC) e) (fun h₃ hn₃ hs₃ => ?_) (by rw [hkk]; rfl))
      rw [List.forIn_nil]
      refine wpAny_pure ?_
      rw [if_pos rfl]
      refine wpAny_Name (wpAny_loadName_local (hkk _) (hkx _) hn₃ (show (if x = x then some (Value.ref t) else _) = some (Value.ref t) from if_pos rfl) ?_) hdx
      refine wpAny_pure ?_
      have o3 : ∀ b o, b ≠ s₁.heap.objs.size → b ≠ H2.objs.size → h₁.get? b = some o → h₃.get? b = some o := fun b o hb hc e => hs₃.extBut b o hc (o2 b o hb e)
      have hD3 : h₃.DictOfH (tk2 prog w) H1.objs.size [] := by
        obtain ⟨o, es, ep, e1, e2, e3, e4, e5, e6⟩ := hD0
        exact ⟨o, es, ep, o3 _ _ (Ne.symm hID) hDC e1, e2, e3, e4, fun x hx => by simp at hx, e6⟩
      have kp3 : ∀ b o, s₁.heap.get? b = some o → h₃.get? b = some o := fun b o e => o3 b o (nI b o e).1 (nI b o e).2.2 (kk b o e)
      refine wpAny_dictSet_heap (knd := tk2 prog w) (k := [u, v]) (xs := []) hu (hkey _ kp3) hD3 (fun h₄ hD4 hs₄ => ?_) (Nat.zero_le _)
      refine ⟨0, Nat.zero_lt_one, .inr ⟨rfl, h₄, _, _, rfl, fun b o e => hs₄.extBut b o (nI b o e).2.1 (kp3 b o e), ?_, hn₃.sameBut hs₄ (Ne.symm hDC), hD4⟩⟩
      obtain ⟨oi, hoi, r⟩ := hst.1
      exact ⟨oi, hs₄.extBut _ _ hID (hs₃.extBut _ _ hIC hoi), r⟩
    · refine W.done _ _ _ ⟨hit, hl.at fun o e => kp _ _ e⟩ fun h₂ tk₂ hk₂ => ?_
      have o2 : ∀ b o, b ≠ s₁.heap.objs.size → h'.get? b = some o → h₂.get? b = some o := fun b o hb e => hk₂ b o (by simpa using hb) e
      have kp2 : ∀ b o, s₁.heap.get? b = some o → h₂.get? b = some o := fun b o e => o2 b o (nI b o e).1 (kp b o e)
      refine fin h₂ tk₂ m' kp2 (hnC.at' fun o e => o2 _ o (Ne.symm hIC) e) ?_
      obtain ⟨o, es, ep, e1, e2, e3, e4, e5, e6⟩ := hD
      exact ⟨o, es, ep, o2 _ _ (Ne.symm hID) e1, e2, e3, e4, fun x hx => by rw [List.mem_singleton.mp hx]; exact hkey h₂ kp2, e6⟩
  exact codeAny_compStart_dict (loop _ rfl) (W.self 0 _ _ _ ⟨hIt, hl1⟩ (loop _ rfl))
end
local macro_rules | `(tactic| walk_at "exec Assign cons DictComp") => `(tactic| (k_here; (with_reducible show wpAny _ _ (exec (Stmt.Assign _ (Expr.DictComp _ (Expr.Constant .none _ _) _ _ _) _) _) _ _ _); k_dflt (refine' pairs_comp ?F0 ?N0 ?S0 ?hsw ?hL ?hh ?hu ?hclos ?hcell ?hkind ?hnames ?hx ?hy ?hp ?hs ?hkk ?hkx ?hdx ?_; (case F0 => k_asm); (case N0 => k_asm); (case S0 => assumption); (case hsw => with_unfolding_all rfl); (case hL => rfl); (case hh => rfl); (case hu => walk_at "UNITS"); (case hclos => with_unfolding_all rfl); (case hcell => decide); (case hkind => rfl); (case hnames => decide); (case hx => with_unfolding_all rfl); (case hy => with_unfolding_all rfl); (case hp => with_unfolding_all rfl); (case hs => intro _; with_unfolding_all rfl); (case hkk => intro _; with_unfolding_all rfl); (case hkx => intro _; with_unfolding_all rfl); (case hdx => decide))))
section
variable {prog : Program} {w : World} {A : Around} {E : Value → Shared → Prop} {s : Shared} {h₀ : Heap} {L : Addr} {m : Str → Option Value} {news : List (Addr × Obj)} {env : Env}
/-- a set object of the ledger is a set of the heap -/
theorem set_here {a : Addr} {o : Obj} {S : Int → Bool} {n : Nat} (N : News h₀ L s.heap news) (hm : (a, o) ∈ news) (ho : o.SetObjOf (PySem.intKind prog w) S n) (hn : n ≤ 1000) : s.heap.SetOf (PySem.intKind prog w) a S n :=
  ho.setOf (N _ hm).1 (by unfold scanBound; omega)
theorem sub_news {a b : Addr} {oa ob : Obj} {Sa Sb : Int → Bool} {na nb : Nat} {Q : Value → Shared → Prop} (F : Fr h₀ L s.heap m) (N : News h₀ L s.heap news) (ha : (a, oa) ∈ news) (hb : (b, ob) ∈ news) (hsa : oa.SetObjOf (PySem.intKind prog w) Sa na) (hsb : ob.SetObjOf (PySem.intKind prog w) Sb nb)
    (hab : a ≠ b) (hna : na ≤ 3) (hnb : nb ≤ 1000)
    (h : ∀ D h' o n, Fr h₀ L h' m → News h₀ L h' ((D, o) :: news) → (∀ q ∈ news, q.1 < D) → o.SetObjOf (PySem.intKind prog w) (fun k => Sa k && !Sb k) n → n ≤ 3 → (∃ ks : List Int, ks.Nodup ∧ ks.length = n ∧ ∀ k, (Sa k && !Sb k) = true ↔ k ∈ ks) → Q (.ref D) { s with heap := h' }) :
    wpAny (model prog w) A (binaryOp .Sub (.ref a) (.ref b)) Q E s := by
  refine sub_sets hab (set_here N ha hsa (by omega)) (set_here N hb hsb hnb) hna fun h' n hk hS hn hks => ?_
  obtain ⟨o, ho, hso⟩ := hS.objOf
  have hke : Keeps s.heap h' := ⟨hk, Nat.le_of_lt (Heap.lt_size ho)⟩
  exact h _ h' o n (fr_onto F hke) (news_add F (news_onto N hke) (Nat.le_refl _) ho) (news_lt N (Nat.le_refl _)) hso (Nat.le_trans hn hna) hks
theorem and_news {a b : Addr} {oa ob : Obj} {Sa Sb : Int → Bool} {na nb : Nat} {Q : Value → Shared → Prop} (F : Fr h₀ L s.heap m) (N : News h₀ L s.heap news) (ha : (a, oa) ∈ news) (hb : (b, ob) ∈ news) (hsa : oa.SetObjOf (PySem.intKind prog w) Sa na) (hsb : ob.SetObjOf (PySem.intKind prog w) Sb nb)
    (hna : na ≤ 15) (hnb : nb ≤ 1000)
    (h : ∀ D h' o n, Fr h₀ L h' m → News h₀ L h' ((D, o) :: news) → (∀ q ∈ news, q.1 < D) → o.SetObjOf (PySem.intKind prog w) (fun k => Sa k && Sb k) n → n ≤ 1000 → Q (.ref D) { s with heap := h' }) :
    wpAny (model prog w) A (binaryOp .BitAnd (.ref a) (.ref b)) Q E s := by
  refine and_sets (set_here N ha hsa (by omega)) (set_here N hb hsb hnb) hna hnb fun h' n hk hS hn => ?_
  obtain ⟨o, ho, hso⟩ := hS.objOf
  have hke : Keeps s.heap h' := ⟨hk, Nat.le_of_lt (Heap.lt_size ho)⟩
  exact h _ h' o n (fr_onto F hke) (news_add F (news_onto N hke) (Nat.le_refl _) ho) (news_lt N (Nat.le_refl _)) hso hn
theorem truthy_news {a : Addr} {o : Obj} {S : Int → Bool} {n : Nat} {Q : Bool → Shared → Prop} (N : News h₀ L s.heap news) (hm : (a, o) ∈ news) (ho : o.SetObjOf (PySem.intKind prog w) S n) (hn : n ≤ 1000) (h : ∀ tk, Q (decide (n ≠ 0)) { s with toks := tk }) :
    wpAny (model prog w) A (truthy (.ref a)) Q E s := truthy_set (set_here N hm ho hn) hn h
theorem set_tup {t : Addr} {items : Array Value} {ns : List Int} {Q : Value → Shared → Prop} (hh : A.handled = none) (F : Fr h₀ L s.heap m) (N : News h₀ L s.heap news) (ht : s.heap.IsTuple t items) (hi : IntsAre items.toList ns) (hnl : ns.length ≤ 3)
    (h : ∀ D h' tk o n, Fr h₀ L h' m → News h₀ L h' ((D, o) :: news) → (∀ q ∈ news, q.1 < D) → o.SetObjOf (PySem.intKind prog w) (fun k => decide (k ∈ ns)) n → n ≤ 3 → Q (.ref D) { s with heap := h', toks := tk }) :
    wpAny (model prog w) A (call (.type "set") [.ref t]) Q E s := by
  refine set_tuple hh ht hi (by omega) fun h' tk n hS hn hk => ?_
  obtain ⟨o, ho, hso⟩ := hS.objOf
  have hke : Keeps s.heap h' := ⟨hk, Nat.le_of_lt (Heap.lt_size ho)⟩
  exact h _ h' tk o n (fr_onto F hke) (news_add F (news_onto N hke) (Nat.le_refl _) ho) (news_lt N (Nat.le_refl _)) hso (by omega)
end
theorem none_left {Sa Sb : Int → Bool} {n : Nat} (h : ∃ ks : List Int, ks.Nodup ∧ ks.length = n ∧ ∀ k, (Sa k && !Sb k) = true ↔ k ∈ ks) (hs : ∀ k, Sa k = true → Sb k = true) : n = 0 := by
  obtain ⟨ks, _, h2, h3⟩ := h
  cases ks with
  | nil => exact h2.symm
  | cons k r =>
    have := (h3 k).mpr (.head _)
    rw [Bool.and_eq_true, Bool.not_eq_true'] at this
    rw [hs k this.1] at this
    exact absurd this.2 (by simp)
theorem one_left {Sa Sb : Int → Bool} {n : Nat} {c : Int} (h : ∃ ks : List Int, ks.Nodup ∧ ks.length = n ∧ ∀ k, (Sa k && !Sb k) = true ↔ k ∈ ks) (hs : ∀ k, (Sa k && !Sb k) = true ↔ k = c) : n = 1 := by
  obtain ⟨ks, h1, h2, h3⟩ := h
  have hm : ∀ k, k ∈ ks ↔ k = c := fun k => (h3 k).symm.trans (hs k)
  match ks, h1, hm, h2 with
  | [], _, hm, _ => exact nomatch (hm c).mpr rfl
  | [a], _, _, h2 => exact h2.symm
  | a :: b :: r, h1, hm, _ =>
    have ea := (hm a).mp (.head _)
    have eb := (hm b).mp (.tail _ (.head _))
    rw [List.nodup_cons] at h1
    exact absurd (by rw [ea, ← eb]; exact .head _) h1.1
local macro_rules | `(tactic| walk_at "call type:set cons nil") => `(tactic| (k_here; (with_reducible show wpAny _ _ (call (Value.type "set") [Value.ref _]) _ _ _); k_dflt (refine' set_tup ?hh ?F ?N ?ht ?hi ?hn ?_; (case hh => rfl); (case F => k_asm); (case N => k_asm); (case ht => exact Heap.IsTuple.at (by assumption) fun o e => Fr.keep (by k_asm) _ _ e); (case hi => assumption); (case hn => exact Nat.le_of_ble_eq_true rfl)); intro D' h' tk' o' n' F' N' l1' hso' hn'; (try k_lt l1'); (try dsimp only); (try k_sweep)))
local macro_rules | `(tactic| walk_at "binaryOp Sub ref ref") => `(tactic| (k_here; k_dflt (refine' sub_news ?F ?N ?a ?b ?c ?d ?e ?f ?g ?_; (case F => k_asm); (case N => k_asm); (case a => k_mem); (case b => k_mem); (case c => assumption); (case d => assumption); (case e => k_ne); (case f => omega); (case g => omega)); intro D' h' o' n' F' N' l1' hso' hn' hks'; (try (have hz' := none_left hks' (by assumption); subst hz')); (try k_lt l1'); (try k_sweep)))
local macro_rules | `(tactic| walk_at "binaryOp BitAnd ref ref") => `(tactic| (k_here; k_dflt (refine' and_news ?F ?N ?a ?b ?c ?d ?f ?g ?_; (case F => k_asm); (case N => k_asm); (case a => k_mem); (case b => k_mem); (case c => assumption); (case d => assumption); (case f => omega); (case g => omega)); intro D' h' o' n' F' N' l1' hso' hn'; (try k_lt l1'); (try k_sweep)))
local macro_rules | `(tactic| walk_at "truthy ref") => `(tactic| (k_here; k_dflt (refine' truthy_news ?N ?a ?b ?c ?_; (case N => k_asm); (case a => k_mem); (case b => assumption); (case c => omega)); intro tk'; (try dsimp only)))
section
variable {prog : Program} {w : World} {A : Around} {E : Value → Shared → Prop} {s : Shared}
/-- a dict by its entries alone, whatever its keys -/
def RawDict (h : Heap) (d : Addr) (es : Array DictEntry) (ep : Nat) : Prop := ∃ o, h.get? d = some o ∧ o.ExactDict ∧ o.data = .dict es ep
theorem RawDict.keep {h h' : Heap} {d : Addr} {es : Array DictEntry} {ep : Nat} (x : RawDict h d es ep) (k : ∀ o, h.get? d = some o → h'.get? d = some o) : RawDict h' d es ep := let ⟨o, ho, r⟩ := x; ⟨o, k o ho, r⟩
theorem raw_iter {d : Addr} {es : Array DictEntry} {ep : Nat} {Q : Value → Shared → Prop} (hd : (d == sysModules) = false) (hm : RawDict s.heap d es ep)
    (hQ : Q (.ref s.heap.objs.size) { s with heap := s.heap.push { cls := .type "dict_keyiterator", data := .fields #[.ref d, .int 0 0, .int es.size 0, .int ep 0] } }) :
    wpAny (model prog w) A (pyIter (.ref d)) Q E s := by
  obtain ⟨o, ho, hc, hdat⟩ := hm
  have hT : s.TypeIs (.ref d) "dict" := ⟨o, ho, hc.1⟩
  refine wpAny_pyIter_slot hT F.slot_dict_iter (wpAny_call_entry F.slot_dict_iter hT F.entry_dict_iter ?_ (F.args_dict_iter_1 _))
  unfold Builtin.«dict.__iter__»
  refine wpAny_bind ?_
  unfold Builtin.Dict.dictSlotNone
  refine wpAny_bind (wpAny_notOrdered_dict hT ?_)
  show wpAny _ _ (pure (Value.ref d)) _ _ s
  refine wpAny_pure ?_
  show wpAny _ _ (Builtin.Dict.showsAll d >>= _) _ _ s
  unfold Builtin.Dict.showsAll
  rw [if_neg (by rw [hd]; exact Bool.false_ne_true)]
  refine wpAny_bind (wpAny_pure ?_)
  refine wpAny_bind (wpAny_dictEntries ho hdat ?_)
  refine wpAny_bind (wpAny_dictEpoch ho hdat ?_)
  refine wpAny_bind (wpAny_newObj_type (wpAny_pure ⟨_, rfl, "dict_keyiterator", _, ⟨_, Heap.get?_push_size _ rfl, rfl⟩, F.slot_dict_keyiterator_next.lookup, ?_⟩))
  simpa [rawInt] using hQ
theorem raw_item {it d : Addr} {i ep : Nat} {es : Array DictEntry} {e : DictEntry} {Q : Option Value → Shared → Prop} (hit : s.heap.IsKeyIter it d i es.size ep)
    (hm : RawDict s.heap d es ep) (hx : es[i]? = some e)
    (hQ : ∀ h', h'.IsKeyIter it d (i + 1) es.size ep → Heap.SameBut it s.heap h' → Q (some e.key) { s with heap := h' }) :
    wpAny (model prog w) A (pyNext (.ref it)) Q E s := by
  obtain ⟨o, ho, hc, hd⟩ := id hit
  obtain ⟨od, hod, hcd, hdd⟩ := id hm
  unfold pyNext
  refine wpAny_bind (wpAny_attempt (wpAny_callSpecial?_slot (name := Str.ofString "__next__") hit.typeIs F.slot_dict_keyiterator_next
    (wpAny_call_entry F.slot_dict_keyiterator_next hit.typeIs F.entry_dict_keyiterator_next ?_ (F.args_dict_keyiterator_next_1 _))))
  refine wpAny_bind (wpAny_pure ?_)
  refine wpAny_bind ?_
  refine wpAny_bind ?_
  first | refine wpAny_bind (wpAny_typeNameOfWhole_keyiter hit.typeIs (wpAny_pure ?_)) | refine wpAny_bind (wpAny_typeNameOf_keyiter hit.typeIs (wpAny_pure ?_))
  refine wpAny_bind (wpAny_fieldsOf ho hd ?_)
  have hown : Builtin.Dict_items.ownsTuple "dict_keyiterator" = false := by decide
  simp only [hown, Bool.false_eq_true, if_false]
  show wpAny _ _ (if (Value.ref d == Value.none) = true then _ else _) _ _ s
  rw [if_neg (show ¬ ((Value.ref d == Value.none) = true) from Bool.false_ne_true)]
  refine wpAny_bind (wpAny_pure ?_)
  refine wpAny_bind (wpAny_dictEntries hod hdd ?_)
  rw [if_neg (by simp)]
  refine wpAny_bind (wpAny_pure ?_)
  refine wpAny_bind (wpAny_dictEpoch hod hdd ?_)
  rw [if_neg (by simp)]
  refine wpAny_pure ?_
  simp only [show ¬ ((i : Int) < 0) from by omega, if_false, Int.toNat_natCast, hx]
  refine wpAny_bind ?_
  first | refine wpAny_bind (wpAny_typeNameOfWhole_keyiter hit.typeIs (wpAny_pure ?_)) | refine wpAny_bind (wpAny_typeNameOf_keyiter hit.typeIs (wpAny_pure ?_))
  refine wpAny_bind (wpAny_isOneOf_keyiter hit.typeIs ?_)
  show wpAny _ _ (setField (.ref it) 1 (rawInt ((i : Int) + 1)) >>= _) _ _ s
  refine wpAny_bind (wpAny_setField ho hd (by simp) ?_)
  have hit' : (s.heap.update it (Obj.mapFields (·.setIfInBounds 1 (rawInt ((i : Int) + 1))))).IsKeyIter it d (i + 1) es.size ep :=
    ⟨_, Heap.get?_update_self _ ho (Obj.isFreed_of_fields (Obj.data_mapFields hd _)), (Obj.cls_mapFields ..).trans hc, by rw [Obj.data_mapFields hd]; simp [rawInt]⟩
  refine wpAny_bind (wpAny_holding ?_)
  refine wpAny_bind (wpAny_isOneOf_keyiter (s := { s with heap := s.heap.update it (Obj.mapFields (·.setIfInBounds 1 (rawInt ((i : Int) + 1)))) }) hit'.typeIs ?_)
  show wpAny _ _ (pure e.key) _ _ _
  exact wpAny_pure (wpAny_pure ⟨_, rfl, wpAny_pure (hQ _ hit' (Heap.SameBut.update ..))⟩)
theorem raw_end {it d : Addr} {i ep : Nat} {es : Array DictEntry} {Q : Option Value → Shared → Prop} (hh : A.handled = none) (hit : s.heap.IsKeyIter it d i es.size ep)
    (hm : RawDict s.heap d es ep) (hge : es.size ≤ i)
    (hQ : ∀ h', Heap.ExtBut it s.heap h' → Q none { s with heap := h' }) : wpAny (model prog w) A (pyNext (.ref it)) Q E s := by
  obtain ⟨o, ho, hc, hd⟩ := id hit
  obtain ⟨od, hod, hcd, hdd⟩ := id hm
  unfold pyNext
  refine wpAny_bind (wpAny_attempt (wpAny_callSpecial?_slot (name := Str.ofString "__next__") hit.typeIs F.slot_dict_keyiterator_next
    (wpAny_call_entry F.slot_dict_keyiterator_next hit.typeIs F.entry_dict_keyiterator_next ?_ (F.args_dict_keyiterator_next_1 _))))
  refine wpAny_bind (wpAny_pure ?_)
  refine wpAny_bind ?_
  refine wpAny_bind ?_
  first | refine wpAny_bind (wpAny_typeNameOfWhole_keyiter hit.typeIs (wpAny_pure ?_)) | refine wpAny_bind (wpAny_typeNameOf_keyiter hit.typeIs (wpAny_pure ?_))
  refine wpAny_bind (wpAny_fieldsOf ho hd ?_)
  have hown : Builtin.Dict_items.ownsTuple "dict_keyiterator" = false := by decide
  simp only [hown, Bool.false_eq_true, if_false]
  show wpAny _ _ (if (Value.ref d == Value.none) = true then _ else _) _ _ s
  rw [if_neg (show ¬ ((Value.ref d == Value.none) = true) from Bool.false_ne_true)]
  refine wpAny_bind (wpAny_pure ?_)
  refine wpAny_bind (wpAny_dictEntries hod hdd ?_)
  rw [if_neg (by simp)]
  refine wpAny_bind (wpAny_pure ?_)
  refine wpAny_bind (wpAny_dictEpoch hod hdd ?_)
  rw [if_neg (by simp)]
  refine wpAny_pure ?_
  simp only [show ¬ ((i : Int) < 0) from by omega, if_false, Int.toNat_natCast, Array.getElem?_eq_none hge]
  refine wpAny_bind ?_
  first | refine wpAny_bind (wpAny_typeNameOfWhole_keyiter hit.typeIs (wpAny_pure ?_)) | refine wpAny_bind (wpAny_typeNameOf_keyiter hit.typeIs (wpAny_pure ?_))
  show wpAny _ _ (setField (.ref it) 0 .none >>= _) _ _ s
  refine wpAny_bind (wpAny_setField ho hd (by simp) ?_)
  show wpAny _ _ (newExc (.type "StopIteration") [] >>= _) _ _ _
  refine wpAny_bind ?_
  simp only [newExc, newTuple]
  refine wpAny_bind (wpAny_newObj_type ?_ (by size_fits))
  refine wpAny_bind (m := firstArgMember _ _) (wpAny_of_eq (a := Value.none) (by first | rfl | (simp only [firstArgMember]; rfl)) ?_)
  refine wpAny_newObj_type ?_ (by size_fits)
  simp only [raiseNew]
  refine wpAny_bind (wpAny_handled ?_)
  rw [show A.in1.handled = none from hh]
  refine wpAny_bind (wpAny_pure (wpAny_throw ?_))
  refine wpAny_bind (wpAny_isInstance (T := "StopIteration") (b := true) ⟨_, Heap.get?_push_size _ rfl, rfl⟩ isSubtype_stop ?_)
  refine wpAny_pure (hQ _ fun b ob hb e => ?_)
  exact Heap.get?_push_of_some _ (Heap.get?_push_of_some _ ((Heap.get?_update_other _ _ (Ne.symm hb)).trans e))
end
theorem walksRaw {prog : Program} {w : World} {A : Around} (hh : A.handled = none) (I d : Addr) (hne : d ≠ I) (es : Array DictEntry) (ep : Nat) :
    Walks prog w A I [I, d] [I] es.size (fun i v => ∃ e, es[i]? = some e ∧ v = e.key) (fun i h => h.IsKeyIter I d i es.size ep ∧ RawDict h d es ep) where
  sub := fun b hb => by simp at hb; simp [hb]
  frame := fun _ _ _ st hk => ⟨st.1.at fun o e => hk I (by simp) o e, st.2.keep fun o e => hk d (by simp) o e⟩
  item := fun i s Q E hi st hQ => by
    obtain ⟨e, he⟩ : ∃ e, es[i]? = some e := ⟨es[i], by simp [hi]⟩
    refine raw_item st.1 st.2 he fun h' hit' hs' => ?_
    exact hQ e.key h' s.toks ⟨e, he, rfl⟩ ⟨hit', st.2.keep fun o e => hs'.extBut d o hne e⟩ fun b o hb e => hs'.extBut b o (fun h => hb (by simp [h])) e
  done := fun s Q E st hQ => raw_end hh st.1 st.2 (Nat.le_refl _) fun h' he' => hQ h' s.toks fun b o hb e => he' b o (fun h => hb (by simp [h])) e
  self := fun _ _ _ _ st hQ => wpAny_pyIter_keyiter st.1 hQ
theorem news_sub {h₀ h : Heap} {L : Addr} {l l' : List (Addr × Obj)} (N : News h₀ L h l) (hs : ∀ p ∈ l', p ∈ l) : News h₀ L h l' := fun p hp => N p (hs p hp)
theorem raw_of_H {h : Heap} {prog : Program} {w : World} {K : Type} [DecidableEq K] {knd : HeapKind prog w K} {d : Addr} {xs : List (K × Addr × Value)} (hm : h.DictOfH knd d xs) : ∃ es ep, RawDict h d es ep ∧ es.toList = xs.map (entryOfKey knd) :=
  let ⟨o, es, ep, h1, h2, h3, h4, _⟩ := hm; ⟨es, ep, ⟨o, h1, h2, h3⟩, h4⟩
section
variable {prog : Program} {w : World} {A₀ A : Around} {s : Shared} {K : Frag} {L : Addr} {base h₀ : Heap} {m mg mb : Str → Option Value} {p : Program} {loose : List Str} {mean : ExcName → Option Value} {news : List (Addr × Obj)}
/-- a generator's call: nothing runs, its frame, its cells and the generator object are made -/
theorem enterG {R : Result → Shared → Prop} {name qual : Str} {params : Arguments} {body : List Stmt} {scope : Scope} {doc pm ctv : Value} {c' f : Addr} {args : Args} {binds : List (Str × Value)}
    (F : Fr h₀ L s.heap m) (N : News h₀ L s.heap news) (T : Top p loose mean mg mb h₀)
    (ho : (f, fnMade name qual params body scope [] doc pm c' ctv) ∈ news) (hcd : s.heap.CodeRec (.ref c') qual) (hroom : A.depth < recursionLimit)
    (hbind : BindsTo s (fnX name qual params body scope [] .none .none doc pm none (.ref c') ctv) args binds) (hkl : ∀ L', ∀ x ∈ binds, (envOfC qual scope L' f (.ref c')).kindOf x.1 = some .local)
    (hloc : ∀ x ∈ binds, scope.names.lookup x.1 = some .local) (hnd : ((cellsFrom 0 scope.names []).map (·.1)).Nodup) (cl' : Addr → List (Str × Addr)) (hcl' : ∀ L', cellsFrom (L' + 1) scope.names [] = cl' L')
    (h : ∀ Lg a h₁ tk cells, Fr s.heap Lg h₁ (lk (binds.reverse.map fun p => (p.1, some p.2))) → News s.heap Lg h₁ cells → CellsAre (fun _ => none) (cl' Lg) cells → h₁.IsGen a s.gens.size → (∀ q ∈ cells, q.1 < a) → s.heap.objs.size ≤ a → Lg < a → Keeps s.heap h₁ →
      R (.ok (.ret (.ref a))) { s with heap := h₁, toks := tk, gens := s.gens.push (.fresh (.func body (envX qual scope Lg f (.ref c') (cl' Lg)))) })
    (hco : scope.isCoroutine = false) (hgen : scope.isGenerator = true) (hk : scope.kind = .function) : codeAny (model prog w) A (.call (.ref f) args) R s := by
  have hlim := (T.keeps F.keep).nolimit
  refine codeAny_call_generator (fd := fnX name qual params body scope [] .none .none doc pm none (.ref c') ctv) (body := body) hroom (N _ ho).1 rfl hco hgen rfl hcd (hbind _ _ _ _ ?_)
  refine wpAny_newFunctionEnv_cells hk (fun x hx => .inl (hloc x hx)) fun env' he s' x => ?_
  subst he
  obtain ⟨h₁, tk, rfl, _⟩ := x.done
  have k1 := x.toInCall.keep
  refine ⟨hlim.keeps k1, ?_⟩
  obtain ⟨cells, NC, Y⟩ := Cl.news (h₀ := s.heap) (Nat.le_refl _) fun n c hm => ⟨x.cell n c (lookup_of_mem_nodup (cellsFrom_names scope.names 0 (s.heap.objs.size + 1) [] [] rfl ▸ hnd) hm), x.above n c hm⟩
  have Y : CellsAre (bindC (envOfC qual scope s.heap.objs.size f (.ref c')).kindOf binds fun _ => none) (cellsFrom (s.heap.objs.size + 1) scope.names []) cells := Y
  rw [bindC_none binds _ (hkl _), hcl'] at Y
  have hns : h₁.Ns s.heap.objs.size (lk (binds.reverse.map fun p => (p.1, some p.2))) := by
    have := x.toInCall.ns
    have e := bindL_lk (kindOf := (envOfC qual scope s.heap.objs.size f (.ref c')).kindOf) binds [] (hkl _)
    rw [List.append_nil] at e
    rw [← e]
    exact this
  have k2 : ∀ (o : Obj) b x, s.heap.get? b = some x → (h₁.push o).get? b = some x := fun o b x e => Heap.get?_push_of_some _ (k1 b x e)
  have hlt := hns.lt
  have hz : s.heap.objs.size ≤ h₁.objs.size := Nat.le_of_lt hlt
  have he : envOfC qual scope s.heap.objs.size f (.ref c') = envX qual scope s.heap.objs.size f (.ref c') (cl' s.heap.objs.size) := by
    show envX qual scope s.heap.objs.size f (.ref c') (cellsFrom (s.heap.objs.size + 1) scope.names []) = _
    rw [hcl']
  have fin := h s.heap.objs.size h₁.objs.size (h₁.push { cls := .type "generator", data := .fields #[.int s.gens.size 0, .str name tk, .str qual (tk + 1)] }) (tk + 1 + 1) cells ⟨hns.push _, k2 _, Nat.le_refl _⟩ (fun q hq => ⟨Heap.get?_push_of_some _ (NC q hq).1, (NC q hq).2⟩) Y ⟨_, _, _, Heap.get?_push_size _ rfl, rfl, rfl, rfl⟩ (fun q hq => Heap.lt_size (NC q hq).1) hz hlt
    ⟨k2 _, by rw [Heap.size_push]; exact Nat.le_succ_of_le hz⟩
  rw [← he] at fin
  exact fin
end
/-- kept are all objects that have a class -/
def KeepsK (h h' : Heap) : Prop := ∀ b o, o.cls ≠ .none → h.get? b = some o → h'.get? b = some o
theorem keepsK_hide {h : Heap} {l : List (Addr × Obj)} (hl : ∀ p ∈ l, h.get? p.1 = some p.2 ∧ p.2.cls = .none) : KeepsK h (hideAll h (l.map (·.1))) := fun b o hc e => by
  refine hideAll_get _ e fun hm => ?_
  obtain ⟨p, hp, rfl⟩ := List.mem_map.mp hm
  rw [(hl p hp).1] at e
  cases e
  exact hc (hl p hp).2
theorem DictOf.keepK {prog : Program} {w : World} {h h' : Heap} (k : KeepsK h h') {d : Addr} {kvs : List (Int × Value)} (x : h.DictOf (PySem.intKind prog w) d kvs) : h'.DictOf (PySem.intKind prog w) d kvs := by
  obtain ⟨o, es, ep, ho, hex, r⟩ := x
  exact ⟨o, es, ep, k _ _ (by rw [hex.1]; nofun) ho, hex, r⟩
theorem AdjAt.keepK {prog : Program} {w : World} {h h' : Heap} (k : KeepsK h h') {dd : Addr} {ns : List Int} {nb : Int → List Int} (G : AdjAt prog w h dd ns nb) : AdjAt prog w h' dd ns nb :=
  ⟨let ⟨kvs, h1, h2, h3⟩ := G.top; ⟨kvs, DictOf.keepK k h1, h2, fun n hn => let ⟨a, ivs, e1, e2, e3, e4⟩ := h3 n hn; ⟨a, ivs, e1, e2, DictOf.keepK k e3, e4⟩⟩, G.lo⟩
theorem DiObj.keepK {h h' : Heap} (k : KeepsK h h') {g nd ad pd : Addr} (G : DiObj h g nd ad pd) : DiObj h' g nd ad pd := by
  obtain ⟨dx, k1, k2, k3, k4, k5, t1, t2, t3, t4, t5, v1, e1, e2⟩ := G
  exact ⟨dx, k1, k2, k3, k4, k5, t1, t2, t3, t4, t5, v1, k _ _ (by nofun) e1, k _ _ (by nofun) e2⟩
theorem DiG.keepK {prog : Program} {w : World} {h h' : Heap} (k : KeepsK h h') {g : Addr} {ns : List Int} {sb pb : Int → List Int} (G : DiG prog w h g ns sb pb) : DiG prog w h' g ns sb pb := by
  obtain ⟨nd, ad, pd, nkvs, e1, e3, e4, e5, e6, e7⟩ := G.at_
  exact ⟨nd, ad, pd, nkvs, e1.keepK k, e3, DictOf.keepK k e4, e5, e6.keepK k, e7.keepK k⟩
theorem isList_keepK {h h' : Heap} (k : KeepsK h h') {l : Addr} {its : Array Value} (x : h.IsList l its) : h'.IsList l its := by
  obtain ⟨o, ho, hc, r⟩ := x
  exact ⟨o, k _ _ (by rw [hc]; nofun) ho, hc, r⟩
theorem isTuple_keepK {h h' : Heap} (k : KeepsK h h') {l : Addr} {its : Array Value} (x : h.IsTuple l its) : h'.IsTuple l its := by
  obtain ⟨o, ho, hc, r⟩ := x
  exact ⟨o, k _ _ (by rw [hc]; nofun) ho, hc, r⟩
section
variable {M : Model} {A : Around} {R : GenEnd} {Y : Protocol} {n : Nat} {s₀ : Shared} {c : Code} {fs : List Frame} {s : Shared} {env : Env}
  {K : Flow → Sem Fin} {H : Value → Sem Fin} {gd : Bool → Bool} {lv : List Value → List Value}
def Never : Value → Shared → Prop := fun _ _ => False
theorem seg_quiet {α : Type} {m : Sem α} {K : α → Sem Fin} (h : wpAny M (A.over c fs) m (fun a s' => Seg M A R Y n s₀ c (K a) fs s') Never s) :
    Seg M A R Y n s₀ c (m.wrap K H gd lv) fs s := seg_wrap (wpAny_mono h (fun _ _ x => x) fun _ _ x => x.elim)
theorem execs_pre (rest : List Stmt) : ∀ pre : List Stmt, (execs (pre ++ rest) env).wrap K H gd lv = (execs pre env).wrap (fun f => match f with | .next => (execs rest env).wrap K H gd lv | f => K f) H gd lv
  | [] => rfl
  | st :: pre => by
    rw [List.cons_append, execs_cons_wrap, execs_cons_wrap]
    refine Sem.wrap_congr _ _ _ (fun f => ?_) fun _ => rfl
    cases f with
    | next => exact execs_pre rest pre
    | _ => rfl
/-- statements that do not yield, ahead of the rest -/
theorem seg_pre {pre rest : List Stmt} (h : wpAny M (A.over c fs) (execs pre env) (fun f s' => match f with
      | .next => Seg M A R Y n s₀ c ((execs rest env).wrap K H gd lv) fs s'
      | f => Seg M A R Y n s₀ c (K f) fs s') Never s) : Seg M A R Y n s₀ c ((execs (pre ++ rest) env).wrap K H gd lv) fs s := by
  rw [execs_pre]
  refine seg_quiet (wpAny_mono h (fun f s' hf => ?_) fun _ _ x => x)
  cases f <;> exact hf
theorem seg_If {test : Expr} {body orelse : List Stmt} {pos : Pos} (h : wpAny M (A.over c fs) (isTrue test env (eval test env)) (fun b s' => if b = true then Seg M A R Y n s₀ c ((execs body env).wrap K H gd lv) fs s' else Seg M A R Y n s₀ c ((execs orelse env).wrap K H gd lv) fs s') Never s) :
    Seg M A R Y n s₀ c ((exec (.If test body orelse pos) env).wrap K H gd lv) fs s := by
  rw [exec_If]
  show Seg M A R Y n s₀ c (.at pos fun _ => (isTrue test env (eval test env) >>= fun b => if b = true then execs body env else execs orelse env).wrap K H gd lv) fs s
  refine seg_at ?_
  rw [Sem.bind_eq_wrap', Sem.wrap_wrap]
  refine seg_quiet (wpAny_mono h (fun b s' hb => ?_) fun _ _ x => x)
  cases b
  · rw [if_neg Bool.false_ne_true] at hb; exact hb
  · rw [if_pos rfl] at hb; exact hb
/-- the frame under a loop -/
def forRet (env : Env) (K : Flow → Sem Fin) (H : Value → Sem Fin) (gd : Bool → Bool) (lv : List Value → List Value) : Result → Sem Fin := fun r =>
  ((match r with | .ok f => (.pure f : Sem Flow) | .error e => .raise e).onRaise fun (x : Value) => do
        if (← field x 1) == Value.none then unsupported "frame.own-activation:exception-without-traceback"
        setFlight x env.frame).wrap K H gd lv
theorem forRet_ok (f : Flow) : forRet env K H gd lv (.ok f) = K f := rfl
theorem seg_For {target iter : Expr} {body : List Stmt} {pos : Pos}
    (h : wpAny M (A.over c fs) (eval iter env) (fun x s₁ => wpAny M (A.over c fs) (pyIter x) (fun it s₂ => ∀ p, Seg M A R Y n s₀ (.forLoop target it body [] env) (M.den (.forLoop target it body [] env)) (.ret (forRet env K H gd lv) none (gd false) (lv []) c p [] :: fs) s₂) Never s₁) Never s)
    (hs : ∀ x, foldedSetIterable iter env x = pure x := by intro _; rfl) :
    Seg M A R Y n s₀ c ((exec (.For target iter body [] pos) env).wrap K H gd lv) fs s := by
  rw [exec_For]
  show Seg M A R Y n s₀ c (.at pos fun _ => (eval iter env >>= fun v => (foldedSetIterable iter env v >>= fun x => standAt iter.pos >>= fun _ => holding [x] (pyIter x) >>= fun it => runOwn (.forLoop target it body [] env) env)).wrap K H gd lv) fs s
  refine seg_at ?_
  rw [Sem.bind_eq_wrap', Sem.wrap_wrap]
  refine seg_quiet (wpAny_mono h (fun x s₁ h₁ => ?_) fun _ _ x => x)
  show Seg M A R Y n s₀ c ((foldedSetIterable iter env x >>= fun x => standAt iter.pos >>= fun _ => holding [x] (pyIter x) >>= fun it => runOwn (.forLoop target it body [] env) env).wrap K H gd lv) fs s₁
  rw [hs x]
  show Seg M A R Y n s₀ c (.at iter.pos fun _ => (holding [x] (pyIter x) >>= fun it => runOwn (.forLoop target it body [] env) env).wrap K H gd lv) fs s₁
  refine seg_at ?_
  rw [Sem.bind_eq_wrap', Sem.wrap_wrap]
  refine seg_quiet (wpAny_holding (wpAny_mono h₁ (fun it s₂ h₂ => ?_) fun _ _ x => x))
  exact seg_call h₂
end
section
variable {prog : Program} {w : World} {A : Around} {R : GenEnd} {Y : Protocol} {n : Nat} {s₀ : Shared} {fs : List Frame} {s : Shared} {env : Env}
def loopEnd (c : Code) : Flow → Sem Fin
  | .next | .cont => .pure (.again c)
  | .brk => .pure (.done .next)
  | .ret v => .pure (.done (.ret v))
def loopErr (env : Env) : Value → Sem Fin := fun e => (do noteFrame e env; theTreesLotGoes e : Sem Unit).wrap (fun _ => .raise e) .raise id id
theorem seg_forLoop {target : Expr} {it : Value} {body : List Stmt}
    (h : wpAny (model prog w) (A.over (.forLoop target it body [] env) fs) (pyNext it) (fun r s₁ => match r with
      | none => Seg (model prog w) A R Y n s₀ (.forLoop target it body [] env) (.pure (.again (.block [] env))) fs s₁
      | some v => wpAny (model prog w) (A.over (.forLoop target it body [] env) fs) (letOwnedTupleGo target it v) (fun _ s₁' => wpAny (model prog w) (A.over (.forLoop target it body [] env) fs) (assign target env v) (fun _ s₂ =>
          Seg (model prog w) A R Y n s₀ (.forLoop target it body [] env) ((execs body env).wrap (loopEnd (.forLoop target it body [] env)) (loopErr env) id id) fs s₂) Never s₁') Never s₁) Never s) :
    Seg (model prog w) A R Y n s₀ (.forLoop target it body [] env) ((model prog w).den (.forLoop target it body [] env)) fs s := by
  show Seg _ A R Y n s₀ _ ((forTurn target it body [] env).onRaise (fun x => do noteFrame x env; theTreesLotGoes x)) fs s
  unfold forTurn
  rw [Sem.onRaise_eq_wrap, Sem.bind_eq_wrap', Sem.wrap_wrap]
  refine seg_quiet (wpAny_standAt ?_)
  show Seg _ A R Y n s₀ _ (Sem.wrap _ _ _ _ ((pyNext it).onRaise _ >>= _)) fs s
  rw [Sem.bind_eq_wrap', Sem.onRaise_eq_wrap (pyNext it), Sem.wrap_wrap, Sem.wrap_wrap]
  refine seg_quiet (wpAny_mono h (fun r s₁ h₁ => ?_) fun _ _ x => x)
  cases r with
  | none => exact h₁
  | some v =>
    dsimp only at h₁
    show Seg _ A R Y n s₀ _ (Sem.wrap _ _ _ _ (letOwnedTupleGo target it v >>= _)) fs s₁
    rw [Sem.bind_eq_wrap', Sem.wrap_wrap]
    refine seg_quiet (wpAny_mono h₁ (fun _ s₁' h₂ => ?_) fun _ _ x => x)
    show Seg _ A R Y n s₀ _ (Sem.wrap _ _ _ _ (assign target env v >>= _)) fs s₁'
    rw [Sem.bind_eq_wrap', Sem.wrap_wrap]
    refine seg_quiet (wpAny_mono h₂ (fun _ s₂ h₃ => ?_) fun _ _ x => x)
    show Seg _ A R Y n s₀ _ (Sem.wrap _ _ _ _ (execs body env >>= _)) fs s₂
    rw [Sem.bind_eq_wrap', Sem.wrap_wrap]
    rw [Sem.wrap_congr (execs body env) _ _ (K' := loopEnd (.forLoop target it body [] env)) (H' := loopErr env) (fun f => by cases f <;> rfl)
        (fun e => by first | exact Sem.bind_eq_wrap _ _ | (show (do noteFrame e env; theTreesLotGoes e : Sem Unit).bind (fun _ => .raise e) = _; rw [Sem.bind_eq_wrap]; rfl))]
    exact h₃
theorem seg_block {c : Code} (h : Seg (model prog w) A R Y n s₀ (.block [] env) (leafOf (.ok .next)) fs s) : Seg (model prog w) A R Y n s₀ c (.pure (.again (.block [] env))) fs s := by
  refine seg_again rfl ?_
  exact h
end
section
variable {prog : Program} {w : World} {A : Around} {E : Value → Shared → Prop} {s : Shared}
abbrev lst (acc : Array Value) (c : Nat) : Obj := { cls := .type "list", dict := none, data := .seq acc c, slots := #[] }
/-- what list() asks of a generator that yields at most one thing -/
def PullOne (prog : Program) (w : World) (A : Around) (I S : Addr) (Fin : Array Value → Shared → Prop) (s : Shared) : Prop :=
  ∀ c, s.heap.get? S = some (lst #[] c) → wpAny (model prog w) A (pyNext (.ref I)) (fun r s₁ => match r with
    | none => s₁.heap.get? S = some (lst #[] c) ∧ Fin #[] s₁
    | some v => s₁.heap.get? S = some (lst #[] c) ∧ ∀ h₂ c₂, (∀ b o, b ≠ S → s₁.heap.get? b = some o → h₂.get? b = some o) → s₁.heap.objs.size ≤ h₂.objs.size → h₂.get? S = some (lst #[v] c₂) →
        wpAny (model prog w) A (pyNext (.ref I)) (fun r s₂ => r = none ∧ s₂.heap.get? S = some (lst #[v] c₂) ∧ Fin #[v] s₂) Never { s₁ with heap := h₂ }) Never s
theorem never_mono {α : Type} {M : Model} {t : Sem α} {Q : α → Shared → Prop} (h : wpAny M A t Q Never s) : wpAny M A t Q E s := wpAny_mono h (fun _ _ x => x) fun _ _ x => x.elim
theorem extend_one {R : Result → Shared → Prop} {I S : Addr} {Fin : Array Value → Shared → Prop} {res : Value} {c : Nat} (hS : s.heap.get? S = some (lst #[] c)) (P : PullOne prog w A.in1 I S Fin s)
    (hR : ∀ s' acc' c', s'.heap.get? S = some (lst acc' c') → Fin acc' s' → R (.ok (.ret res)) s') :
    codeAny (model prog w) A (.builtin "list.extend.loop" ⟨[.ref S, .ref I, res], []⟩) R s := by
  refine codeAny_builtin F.entry_extend_loop ?_
  rw [Around.under_plainId F.plain_extend_loop _]
  show wpAny _ A.in1 (pyNext (.ref I) >>= _) _ _ s
  refine wpAny_bind (wpAny_mono (P c hS) (fun r s₁ h₁ => ?_) fun _ _ x => x.elim)
  cases r with
  | none => exact wpAny_pure (hR s₁ _ _ h₁.1 h₁.2)
  | some v =>
    obtain ⟨hS₁, k⟩ := h₁
    show wpAny _ A.in1 (updateSeq S (·.push v) >>= _) _ _ _
    refine wpAny_bind (wpAny_updateSeq (hz := by seq_fits) hS₁ rfl ?_)
    have hS₂ := Heap.get?_update_self (Obj.mapSeq (·.push v)) hS₁ rfl
    refine wpAny_pure ⟨plainId_quiet F.plain_extend_loop _, ?_⟩
    refine codeAny_builtin F.entry_extend_loop ?_
    rw [Around.under_plainId F.plain_extend_loop _]
    show wpAny _ A.in1 (pyNext (.ref I) >>= _) _ _ _
    refine wpAny_bind (wpAny_mono (k _ _ (fun b o hb e => (Heap.get?_update_other _ _ (Ne.symm hb)).trans e) (Nat.le_of_eq (by simp [Heap.update])) hS₂) (fun r s₂ h₂ => ?_) fun _ _ x => x.elim)
    obtain ⟨rfl, hS₃, hf⟩ := h₂
    exact wpAny_pure (hR s₂ _ _ hS₃ hf)
/-- list() of such a generator -/
theorem list_one {I : Addr} {gno : Nat} {Fin : Array Value → Shared → Prop} {Q : Value → Shared → Prop} (hg : s.heap.IsGen I gno)
    (P : ∀ h₁, s.heap.objs.size < h₁.objs.size → (∀ b o, s.heap.get? b = some o → h₁.get? b = some o) → PullOne prog w A.in1.in1 I s.heap.objs.size Fin { s with heap := h₁ })
    (hQ : ∀ s' acc' c', s'.heap.get? s.heap.objs.size = some (lst acc' c') → Fin acc' s' → Q (.ref s.heap.objs.size) s') : wpAny (model prog w) A (call (.type "list") [.ref I]) Q E s := by
  refine callType_codes (Q₁ := fun obj s₁ => obj = .ref s.heap.objs.size ∧ s₁ = { s with heap := s.heap.push { cls := .type "list", data := .seq #[] } }) F.called_list (F.typeCall_list_1 _) F.entry_list_init
    (code_list_new _ ⟨rfl, rfl⟩) fun obj s₁ h₁ => ?_
  obtain ⟨rfl, rfl⟩ := h₁
  have hS : (s.heap.push { cls := .type "list", data := .seq #[] }).get? s.heap.objs.size = some { cls := .type "list", data := .seq #[] } := Heap.get?_push_size _ rfl
  refine ⟨⟨_, hS, rfl⟩, F.args_list_init_2 _ _, ?_⟩
  have hgen := hg.push { cls := .type "list", data := .seq #[] }
  have hIS : I ≠ s.heap.objs.size := by obtain ⟨o, _, _, ho, _⟩ := hg; exact Nat.ne_of_lt (Heap.lt_size ho)
  show wpAny _ A.in1.in1 (do let old ← Builtin.List.listItems (.ref s.heap.objs.size); Builtin.List.listUpdate (.ref s.heap.objs.size) (fun _ => #[]); letGo old.toList.reverse; Builtin.List.listExtendWith (.ref s.heap.objs.size) (.ref I) .none) _ _ _
  refine wpAny_bind ?_
  unfold Builtin.List.listItems
  refine wpAny_bind (wpAny_seqItems hS rfl (wpAny_pure ?_))
  show wpAny _ A.in1.in1 (updateSeq s.heap.objs.size (fun _ => #[]) >>= fun _ => letGo (#[] : Array Value).toList.reverse >>= fun _ => Builtin.List.listExtendWith (.ref s.heap.objs.size) (.ref I) .none) _ _ _
  refine wpAny_bind (wpAny_updateSeq hS rfl ?_)
  have hS₂ := Heap.get?_update_self (Obj.mapSeq (fun _ => (#[] : Array Value))) hS rfl
  have oth : ∀ (h : Heap) f b o, b ≠ s.heap.objs.size → h.get? b = some o → (h.update s.heap.objs.size f).get? b = some o :=
    fun h f b o hb e => (Heap.get?_update_other _ _ (Ne.symm hb)).trans e
  generalize hz : s.heap.objs.size = S at *
  have hgenU : ∀ (h : Heap) f, h.IsGen I gno → (h.update S f).IsGen I gno := fun h f x => let ⟨o, nm, qn, ho, r⟩ := x; ⟨o, nm, qn, oth h f _ _ hIS ho, r⟩
  have hg₂ := hgenU _ (Obj.mapSeq (fun _ => (#[] : Array Value))) hgen
  refine wpAny_bind (wpAny_letGo ?_)
  unfold Builtin.List.listExtendWith
  refine wpAny_bind (wpAny_typeOf hg₂.typeIs ?_)
  have h1 : Builtin.List.listSameRef (.ref S) (.ref I) = false := by simp [Builtin.List.listSameRef, Ne.symm hIS]
  have h2 : (Value.type "generator" == Value.type "list") = false := by decide
  have h3 : (Value.type "generator" == Value.type "tuple") = false := by decide
  simp only [h1, h2, h3, Bool.or_false, Bool.false_eq_true, if_false]
  refine wpAny_bind (wpAny_pyIter_gen hg₂ ?_)
  refine wpAny_bind (wpAny_holding ?_)
  unfold Builtin.List.listLengthHint
  refine wpAny_bind (wpAny_specialOf hg₂.typeIs F.gen_no_len ?_)
  show wpAny _ A.in1.in1 (specialOf (Value.ref I) (Str.ofString "__length_hint__") >>= _) _ _ _
  refine wpAny_bind (wpAny_specialOf hg₂.typeIs F.gen_no_hint ?_)
  refine wpAny_pure ?_
  show wpAny _ A.in1.in1 (rule "list.extend.makes-room" >>= fun _ => Builtin.List.listTouch (.ref S) >>= fun _ =>
    again (.builtin "list.extend.loop" ⟨[.ref S, .ref I, .none], []⟩)) _ _ _
  refine wpAny_bind (wpAny_rule ?_)
  refine wpAny_bind ?_
  show wpAny _ A.in1.in1 (updateSeq S (·.push .none) >>= fun _ => updateSeq S (·.pop)) _ _ _
  refine wpAny_bind (wpAny_updateSeq hS₂ rfl ?_)
  have hS₃ := Heap.get?_update_self (Obj.mapSeq (·.push Value.none)) hS₂ rfl
  refine wpAny_updateSeq (hz := by seq_fits) hS₃ rfl ?_
  have hS₄ := Heap.get?_update_self (Obj.mapSeq (·.pop)) hS₃ rfl
  refine wpAny_pure ⟨plainId_quiet F.plain_extend_loop _, ?_⟩
  refine extend_one (Fin := Fin) hS₄ (P _ ?_ ?_) (fun s' acc' c' hs' hf => ⟨rfl, hQ s' acc' c' hs' hf⟩)
  · show S < _
    simp only [Heap.update, Array.size_modify, Heap.push, Array.size_push]
    exact Nat.lt_succ_of_le (Nat.le_of_eq hz.symm)
  · intro b o e
    have hb : b ≠ S := fun q => by rw [q] at e; exact absurd (Heap.lt_size e) (by rw [hz]; exact Nat.lt_irrefl _)
    exact oth _ _ _ _ hb (oth _ _ _ _ hb (oth _ _ _ _ hb (Heap.get?_push_of_some _ e)))
end
/-- a lowest node of those above both -/
def Lowest (sb pb : Int → List Int) (u v c : Int) : Prop := Reach pb u c ∧ Reach pb v c ∧ ∀ k ∈ sb c, ¬ (Reach pb u k ∧ Reach pb v k)
def NoCommon (pb : Int → List Int) (u v : Int) : Prop := ∀ k, ¬ (Reach pb u k ∧ Reach pb v k)
def Told (hc h : Heap) (v : Value) (c : Int) : Prop := ∃ t t2 tk, v = .ref t ∧ hc.get? t = none ∧ h.get? t = some { cls := .type "tuple", data := .seq #[.ref t2, .int c tk] }
def Runs1 (hc : Heap) (ga S : Addr) (s₀ s₁ : Shared) : Prop := (∃ h tk, s₁ = { s₀ with heap := h, toks := tk }) ∧ (∀ b o, hc.get? b = some o → s₁.heap.get? b = some o) ∧ ∀ b o, (b = ga ∨ b = S) → s₀.heap.get? b = some o → s₁.heap.get? b = some o
def Runs0 (hc : Heap) (s₀ s₁ : Shared) : Prop := (∃ h tk, s₁ = { s₀ with heap := h, toks := tk }) ∧ (∀ b o, hc.get? b = some o → s₀.heap.get? b = some o → s₁.heap.get? b = some o) ∧ ∀ b o, o.cls ≠ .type "dict_keyiterator" → s₀.heap.get? b = some o → s₁.heap.get? b = some o
def GP (hc : Heap) (ga S : Addr) (pb : Int → List Int) (u v : Int) (n : Nat) (s₀ s₁ : Shared) : Prop := match n with
  | 0 => Runs0 hc s₀ s₁
  | _ => Runs1 hc ga S s₀ s₁ ∧ NoCommon pb u v
def GR (hc : Heap) (ga S : Addr) (pb : Int → List Int) (u v : Int) : GenEnd := fun n s₀ r s₁ => r = .ok (.ret .none) ∧ GP hc ga S pb u v n s₀ s₁
def GY (hc : Heap) (ga S : Addr) (sb pb : Int → List Int) (u v : Int) : Protocol := fun _ s₀ x s₁ kap => Runs1 hc ga S s₀ s₁ ∧ (∃ c, Lowest sb pb u v c ∧ Told hc s₁.heap x c) ∧
  ∀ h₂ tk gg, (∀ b o, b ≠ S → s₁.heap.get? b = some o → h₂.get? b = some o) → kap (.send .none) { s₁ with heap := h₂, toks := tk, gens := gg }
/-- what the generator does when it is run -/
def GenRuns (prog : Program) (w : World) (outer : List Env) (hc h7 : Heap) (ga : Addr) (sb pb : Int → List Int) (u v : Int) (code : Code) : Prop :=
  ∀ (dp un : Nat) (gd : Option (List Code)) (S : Addr) (oS : Obj) (s₁ : Shared), dp + 10 < recursionLimit → un + 100 < cLine → (∀ b o, h7.get? b = some o → s₁.heap.get? b = some o) → h7.objs.size ≤ S → s₁.heap.get? S = some oS →
    Seg (model prog w) { handled := none, depth := dp, frames := some outer, guards := gd, units := un } (GR hc ga S pb u v) (GY hc ga S sb pb u v) 1 s₁ code ((model prog w).den code) [] s₁
def ListFin (hc : Heap) (sb pb : Int → List Int) (u v : Int) (gs : Array GenState) (s : Shared) (acc : Array Value) (s' : Shared) : Prop :=
  (∃ h tk, s' = { s with heap := h, toks := tk, gens := gs.push .finished }) ∧ (∀ b o, hc.get? b = some o → s'.heap.get? b = some o) ∧ (acc = #[] ∧ NoCommon pb u v ∨ ∃ x c, acc = #[x] ∧ Lowest sb pb u v c ∧ Told hc s'.heap x c)
section
variable {prog : Program} {w : World} {E : Value → Shared → Prop} {s : Shared}
theorem told_keep {hc h h' : Heap} {x : Value} {c : Int} (T : Told hc h x c) (k : ∀ b o, o.cls ≠ .type "dict_keyiterator" → h.get? b = some o → h'.get? b = some o) : Told hc h' x c := by
  obtain ⟨t, t2, tk, rfl, hn, ho⟩ := T
  exact ⟨t, t2, tk, rfl, hn, k _ _ (by show Value.type "tuple" ≠ _; decide) ho⟩
theorem gens_set (gs : Array GenState) (a b : GenState) : (gs.push a).setIfInBounds gs.size b = gs.push b := by
  apply Array.toList_inj.mp
  simp [Array.toList_setIfInBounds, Array.toList_push, List.set_append]
theorem pull_gen {outer : List Env} {hc h7 : Heap} {ga : Addr} {sb pb : Int → List Int} {u v : Int} {code : Code} {gs : Array GenState} {dp un : Nat} {gd : Option (List Code)} {S : Addr} {h₁ : Heap}
    (G : GenRuns prog w outer hc h7 ga sb pb u v code) (hdp : dp + 10 < recursionLimit) (hun : un + 101 < cLine) (hgs : s.gens = gs.push (.fresh code)) (hg : h7.IsGen ga gs.size) (hk : ∀ b o, h7.get? b = some o → h₁.get? b = some o)
    (hS : h7.objs.size ≤ S) (hlc : hc.NoLimit) (hc7 : ∀ b o, hc.get? b = some o → h7.get? b = some o) :
    PullOne prog w { handled := none, depth := dp, frames := some outer, guards := gd, units := un } ga S (ListFin hc sb pb u v gs s) { s with heap := h₁ } := by
  intro c hS₀
  have hgaS : ga ≠ S := by obtain ⟨o, _, _, ho, _⟩ := hg; exact Nat.ne_of_lt (Nat.lt_of_lt_of_le (Heap.lt_size ho) hS)
  have hcS : ∀ b o, hc.get? b = some o → b ≠ S := fun b o e => Nat.ne_of_lt (Nat.lt_of_lt_of_le (Heap.lt_size (hc7 b o e)) hS)
  have hg1 := hg.keeps hk
  refine wpAny_pyNext_gen (n := 1) (gs := .fresh code) (P := GP hc ga S pb u v) (Y := GY hc ga S sb pb u v) rfl (hlc.keeps fun b o e => hk b o (hc7 b o e)) (by show dp < _; omega) hg1 (by show s.gens[gs.size]? = _; rw [hgs]; simp)
    ⟨rfl, G dp (un + 1) gd S _ _ hdp (by omega) hk hS hS₀⟩ ?_ ?_
  · rintro x s₁ gs' ⟨⟨⟨h2, tk2, rfl⟩, kb, ks⟩, hx, hkap⟩
    obtain ⟨cc, hlow, htold⟩ := hx
    have e1 : ((s.gens.setIfInBounds gs.size .running).setIfInBounds gs.size gs') = gs.push gs' := by rw [hgs, gens_set, gens_set]
    refine ⟨ks S _ (.inr rfl) hS₀, fun h₃ c₂ hk3 hz3 hS3 => ?_⟩
    have kb3 : ∀ b o, hc.get? b = some o → h₃.get? b = some o := fun b o e => hk3 b o (hcS b o e) (kb b o e)
    have hg3 : h₃.IsGen ga gs.size := by obtain ⟨o, nm, qn, ho, r⟩ := hg1; exact ⟨o, nm, qn, hk3 _ _ hgaS (ks _ _ (.inl rfl) ho), r⟩
    refine wpAny_pyNext_gen (n := 0) (gs := gs') (P := GP hc ga S pb u v) (Y := GY hc ga S sb pb u v) rfl (hlc.keeps kb3) (by show dp < _; omega) hg3 (by show ((s.gens.setIfInBounds gs.size .running).setIfInBounds gs.size gs')[gs.size]? = _; rw [e1]; simp)
      (hkap h₃ _ _ hk3) ?_ ?_
    · rintro x' s₂ gs'' ⟨_, _, hbad⟩
      exact (hbad s₂.heap s₂.toks s₂.gens fun b o _ e => e).elim
    · rintro s₂ ⟨⟨h4, tk4, rfl⟩, kb4, kn4⟩ h5 hk5
      refine ⟨rfl, hk5 _ _ (kn4 _ _ (by show Value.type "list" ≠ _; decide) hS3), ⟨⟨h5, tk4, ?_⟩, fun b o e => hk5 _ _ (kb4 b o e (kb3 b o e)), .inr ⟨x, cc, rfl, hlow, ?_⟩⟩⟩
      · show ({ heap := h5, gens := (((s.gens.setIfInBounds gs.size .running).setIfInBounds gs.size gs').setIfInBounds gs.size .running).setIfInBounds gs.size .finished, drawn := s.drawn, toks := tk4, os := s.os } : Shared) = _
        rw [e1, gens_set, gens_set]
      · obtain ⟨t, t2, tk, rfl, htn, ho⟩ := htold
        have hts : t ≠ S := by
          rintro rfl
          have := ks t _ (.inr rfl) hS₀
          have ho' : h2.get? t = some _ := ho
          rw [ho'] at this
          have hcl := congrArg Obj.cls (Option.some.inj this)
          exact absurd hcl (by show Value.type "tuple" ≠ Value.type "list"; decide)
        exact ⟨t, t2, tk, rfl, htn, hk5 _ _ (kn4 _ _ (by show Value.type "tuple" ≠ _; decide) (hk3 _ _ hts ho))⟩
  · rintro s₁ ⟨⟨⟨h2, tk2, rfl⟩, kb, ks⟩, hno⟩ h5 hk5
    refine ⟨hk5 _ _ (ks S _ (.inr rfl) hS₀), ⟨h5, tk2, ?_⟩, fun b o e => hk5 _ _ (kb b o e), .inl ⟨rfl, hno⟩⟩
    show ({ heap := h5, gens := (s.gens.setIfInBounds gs.size .running).setIfInBounds gs.size .finished, drawn := s.drawn, toks := tk2, os := s.os } : Shared) = _
    rw [hgs, gens_set, gens_set]
end
theorem over_func {dp un : Nat} {gd : Option (List Code)} {outer : List Env} {cn : Str} {cs : Scope} {L a : Addr} {cdv : Value} {cl : List (Str × Addr)} {body : List Stmt} :
    Around.over { handled := none, depth := dp, frames := some outer, guards := gd, units := un } (.func body (envX cn cs L a cdv cl)) [] = ktrTop (dp + 1) (un + 3) gd cn cs L a cdv cl outer := by
  cases gd <;> rfl
theorem over_loop {dp un : Nat} {gd : Option (List Code)} {outer : List Env} {cn : Str} {cs : Scope} {L a : Addr} {cdv : Value} {cl : List (Str × Addr)} {body b2 : List Stmt} {tgt : Expr} {it : Value} {k : Result → Sem Fin} {g : Bool} {l : List Value} {p : Pos} :
    Around.over { handled := none, depth := dp, frames := some outer, guards := gd, units := un } (.forLoop tgt it b2 [] (envX cn cs L a cdv cl)) [.ret k none g l (.func body (envX cn cs L a cdv cl)) p []] = ktrTop (dp + 1) (un + 3) gd cn cs L a cdv cl outer := by
  cases gd <;> rfl
theorem hideQ {α : Type} {M : Model} {A : Around} {m : Sem α} {Q : α → Shared → Prop} {E : Value → Shared → Prop} {s : Shared} (h : ∀ Q', Q' = Q → wpAny M A m Q' E s) : wpAny M A m Q E s := h Q rfl
theorem let_owned_keyiter {prog : Program} {w : World} {A : Around} {E : Value → Shared → Prop} {s : Shared} {I D t : Addr} {i n ep : Nat} {l : List Expr} {k : Nat} {p : Pos} {Q : Unit → Shared → Prop} (hit : s.heap.IsKeyIter I D i n ep) (hQ : Q () s) :
    wpAny (model prog w) A (letOwnedTupleGo (.Tuple l k p) (.ref I) (.ref t)) Q E s := by
  obtain ⟨o, ho, hc, hd⟩ := hit
  show wpAny _ _ (load I >>= _) _ _ s
  refine wpAny_bind (wpAny_load ho ?_)
  rw [hc, hd]
  have : ["enumerate", "zip", "dict_itemiterator", "dict_reverseitemiterator", "odict_iterator", "itertools.zip_longest", "itertools.pairwise"].contains "dict_keyiterator" = false := by decide
  simp only [this, Bool.false_and, Bool.false_eq_true, if_false]
  exact wpAny_pure hQ
section
variable {prog : Program} {w : World} {A : Around} {E : Value → Shared → Prop} {s : Shared} {h₀ : Heap} {L d I : Addr} {io : Obj} {m : Str → Option Value} {news : List (Addr × Obj)} {es : Array DictEntry} {ep i : Nat}
theorem raw_iter_N {Q : Value → Shared → Prop} (F : Fr h₀ L s.heap m) (N : News h₀ L s.heap news) (lo : (d == sysModules) = false) (hm : RawDict s.heap d es ep)
    (h : ∀ I io h', Fr h₀ L h' m → News h₀ L h' ((I, io) :: news) → h'.IsKeyIter I d 0 es.size ep → (∀ q ∈ news, q.1 < I) → RawDict h' d es ep → Q (.ref I) { s with heap := h' }) : wpAny (model prog w) A (pyIter (.ref d)) Q E s := by
  refine raw_iter lo hm ?_
  exact h _ _ _ (F.push _) (News.push F N _ rfl) ⟨_, Heap.get?_push_size _ rfl, rfl, rfl⟩ (fun q hq => Heap.lt_size (N q hq).1) (hm.keep fun o e => Heap.get?_push_of_some _ e)
theorem raw_item_N {e : DictEntry} {Q : Option Value → Shared → Prop} (F : Fr h₀ L s.heap m) (N : News h₀ L s.heap ((I, io) :: news)) (hit : s.heap.IsKeyIter I d i es.size ep) (hm : RawDict s.heap d es ep) (hx : es[i]? = some e) (hlt : ∀ q ∈ news, q.1 < I)
    (h : ∀ io' h', Fr h₀ L h' m → News h₀ L h' ((I, io') :: news) → h'.IsKeyIter I d (i + 1) es.size ep → RawDict h' d es ep → Q (some e.key) { s with heap := h' }) : wpAny (model prog w) A (pyNext (.ref I)) Q E s := by
  have hdI : d ≠ I := by
    rintro rfl
    obtain ⟨o, ho, hc, _⟩ := hit
    obtain ⟨o', ho', hc', _⟩ := hm
    rw [ho] at ho'; cases ho'
    rw [hc'.1] at hc; exact absurd hc (by decide)
  refine raw_item hit hm hx fun h' hit' hs' => ?_
  obtain ⟨io', hio', r⟩ := id hit'
  exact h io' h' (F.change hs' (N _ (.head _)).2.1 (N _ (.head _)).2.2) (fun p hp => by
    rcases List.mem_cons.mp hp with rfl | hp
    · exact ⟨hio', (N _ (.head _)).2⟩
    · exact ⟨hs'.extBut _ _ (Nat.ne_of_lt (hlt p hp)) (N p (.tail _ hp)).1, (N p (.tail _ hp)).2⟩) hit' (hm.keep fun o e => hs'.extBut _ _ hdI e)
end
open PyProof.Rows.LCg PyProof.Rows.LCt
theorem set_pos {prog : Program} {w : World} {o : Obj} {S : Int → Bool} {n : Nat} (h : Obj.SetObjOf (PySem.intKind prog w) o S n) : n ≠ 0 ↔ ∃ k, S k = true := by
  obtain ⟨hx, es, ep, t, hd, he, hS, hf, hn⟩ := h
  constructor
  · intro hn0
    have : 0 < es.toList.length := by rw [Array.length_toList]; omega
    obtain ⟨e, he'⟩ := List.exists_mem_of_length_pos this
    obtain ⟨⟨k, hk, _⟩, _⟩ := he e he'
    exact ⟨k, (hS k).mpr ⟨e, he', hk⟩⟩
  · rintro ⟨k, hk⟩ rfl
    obtain ⟨e, he', _⟩ := (hS k).mp hk
    have := List.length_pos_of_mem he'
    rw [Array.length_toList] at this
    omega
section
variable {prog : Program} {w : World} {A : Around} {E : Value → Shared → Prop} {s : Shared} {h₀ : Heap} {L : Addr} {m : Str → Option Value} {env : Env}
def KeysSrc (prog : Program) (w : World) (A : Around) (h₀ : Heap) (L : Addr) (m : Str → Option Value) (env : Env) (ct elt : Expr) (x : Str) (scope : Scope) (cl : List (Str × Addr)) (Fin : Shared → List Value → List (Addr × Obj) → Prop) (it : Value) (s₂ : Shared) : Prop :=
  ∃ I d kvs ep news, it = .ref I ∧ A.handled = none ∧ Fr h₀ L s₂.heap m ∧ News h₀ L s₂.heap news ∧ h₀.DictAt (PySem.intKind prog w) d kvs ep ∧ s₂.heap.IsKeyIter I d 0 kvs.length ep ∧ h₀.get? I = none ∧ L ≠ I ∧ (∀ p ∈ news, p.1 ≠ I) ∧ kvs.length ≤ sizeLine ∧
    CompRestT prog w A h₀ L m env ct elt x scope cl s₂ (fun _ => True) (fun i v => ∃ k y, kvs[i]? = some (k, y) ∧ (PySem.intKind prog w).is k v = true) (Fin s₂) kvs.length 0 [] news
theorem ListComp_K {ct elt iter : Expr} {x : Str} {px : Pos} {scope : Scope} {cl : List (Str × Addr)} {pos : Pos} {Q : Value → Shared → Prop} (F₀ : Fr h₀ L s.heap m)
    (hclos : closureFor scope env = pure cl) (hcell : ∀ y ∈ scope.names, y.2 ≠ .cell) (hkind : scope.kind = .function)
    (hnames : ∀ y ∈ scope.names, y.2 = .local → scope.names.lookup y.1 = some .local) (hx : scope.names.lookup x = some .local)
    (h : wpAny (model prog w) A (eval iter env) (fun xv s₁ => wpAny (model prog w) A (pyIter xv) (KeysSrc prog w A h₀ L m env ct elt x scope cl (fun s₂ => FinE h₀ L m s₂ Q)) E s₁) E s)
    (hs : ∀ x, foldedSetIterable iter env x = pure x) :
    wpAny (model prog w) A (eval (.ListComp elt [⟨.Name x px, iter, [ct], 0⟩] scope pos) env) Q E s := by
  rw [eval_ListComp]
  refine wpAny_comprehension_free (use := none) rfl hs hclos hkind hnames (wpAny_mono h (fun xv s₁ h₁ => wpAny_mono h₁ (fun it s₂ h₂ => ?_) fun _ _ e => e) fun _ _ e => e)
  obtain ⟨I, d, kvs, ep, news, rfl, hh, F, N, hd, hit, hI0, hLI, off, hsz, R⟩ := h₂
  obtain ⟨ob, _, hob, _⟩ := id hd
  have hne : d ≠ I := fun e => by rw [e, hI0] at hob; cases hob
  have hdlt := Heap.lt_size (F.keep _ _ hob)
  have hIlt : I < s₂.heap.objs.size := by obtain ⟨o, ho, _⟩ := hit; exact Heap.lt_size ho
  refine block_T (Walks.dictKeys (knd := PySem.intKind prog w) hh I d hne kvs ep) hsz (fun i h st => by obtain ⟨o, e, _⟩ := st.1; exact ⟨o, e⟩)
    (fun i h h' o nw st e e' kb _ _ => ⟨by obtain ⟨o', q, r⟩ := st.1; rw [e] at q; cases q; exact ⟨o, e', r⟩, hd.keep kb⟩) hcell hkind hx ⟨hit, hd.keep F.keep⟩ (fun b hb => ?_) F N hLI hI0 off trivial R ?_
  · rcases List.mem_cons.mp hb with rfl | hb
    · exact hIlt
    · rw [List.mem_singleton.mp hb]; exact hdlt
  · intro D C h tk m' ys news' F' N' o1 hn hC₀ hD₀ hCL hDL hCD offC fin
    refine ⟨m', hn, fun h'' hs'' => fin D h'' tk (F'.change hs'' hCL hC₀) (fun p hp => ?_) o1⟩
    refine ⟨hs''.extBut _ _ ?_ (N' p hp).1, (N' p hp).2⟩
    rcases List.mem_cons.mp hp with rfl | hp
    · exact Ne.symm hCD
    · exact offC p hp
theorem rest_filter {ct elt : Expr} {x : Str} {scope : Scope} {cl : List (Str × Addr)} {kvs : List (Int × Value)} {news : List (Addr × Obj)} {Fin : List Value → List (Addr × Obj) → Prop} {p : Int → Bool}
    (turn : ∀ k v I oI C oC D m₂ h tk ys (E' : Value → Shared → Prop), (PySem.intKind prog w).is k v = true → NsObj oC m₂ → m₂ x = some v → Fr h₀ L h m → News h₀ L h ((I, oI) :: (C, oC) :: (D, PyProof.Rows.LCg.lst ys) :: news) → Off3 I C D news →
      wpAny (model prog w) A (isTrue ct (compEnvC scope cl C env) (eval ct (compEnvC scope cl C env))) (fun ok s' => ok = p k ∧ (∃ tk', s' = { s with heap := h, toks := tk' }) ∧
        wpAny (model prog w) A (eval elt (compEnvC scope cl C env)) (fun y s'' => y = v ∧ ∃ tk'', s'' = { s with heap := h, toks := tk'' }) E' s') E' { s with heap := h, toks := tk })
    (fin : ∀ ys, IntsAre ys ((kvs.map (·.1)).filter p) → Fin ys news) :
    CompRestT prog w A h₀ L m env ct elt x scope cl s (fun _ => True) (fun i v => ∃ k y, kvs[i]? = some (k, y) ∧ (PySem.intKind prog w).is k v = true) Fin kvs.length 0 [] news := by
  suffices hgen : ∀ (k i : Nat) (ys : List Value), i + k = kvs.length → IntsAre ys (((kvs.map (·.1)).take i).filter p) → CompRestT prog w A h₀ L m env ct elt x scope cl s (fun _ => True) (fun i v => ∃ k y, kvs[i]? = some (k, y) ∧ (PySem.intKind prog w).is k v = true) Fin k i ys news from
    hgen kvs.length 0 [] (Nat.zero_add _) .nil
  intro k
  induction k with
  | zero =>
    intro i ys hi hys
    refine CompRestT.zero (fin ys ?_)
    rw [Nat.add_zero] at hi
    rw [hi, show kvs.length = (kvs.map (·.1)).length by rw [List.length_map], List.take_length] at hys
    exact hys
  | succ j ih =>
    intro i ys hi hys
    refine CompRestT.succ fun v I oI C oC D m₂ h tk E' hv hC hx' F N off ne => ?_
    obtain ⟨k, y, hki, hkv⟩ := hv
    have htk : ((kvs.map (·.1)).take (i + 1)) = (kvs.map (·.1)).take i ++ [k] := by
      have : (kvs.map (·.1))[i]? = some k := by rw [List.getElem?_map, hki]; rfl
      rw [List.take_add_one, this]; rfl
    refine wpAny_mono (turn k v I oI C oC D m₂ h tk ys E' hkv hC hx' F N off) (fun ok s' h' => ?_) fun _ _ e => e
    obtain ⟨rfl, ⟨tk', rfl⟩, hel⟩ := h'
    cases hp : p k with
    | true =>
      rw [if_pos rfl]
      refine wpAny_mono hel (fun y s'' h'' => ?_) fun _ _ e => e
      obtain ⟨rfl, tk'', rfl⟩ := h''
      refine CompEnd.intro F N news (fun _ h => h) off trivial (ih (i + 1) _ (by omega) ?_)
      rw [htk, List.filter_append, List.filter_cons, hp]
      obtain ⟨t, rfl⟩ := Value.isInt_shape hkv
      exact ints_push hys k t
    | false =>
      rw [if_neg Bool.false_ne_true]
      refine CompEnd.intro F N news (fun _ h => h) off trivial (ih (i + 1) _ (by omega) ?_)
      rw [htk, List.filter_append, List.filter_cons, hp]
      simpa using hys
end
section
variable {prog : Program} {w : World} {A : Around} {E : Value → Shared → Prop} {s : Shared} {env : Env}
/-- a while loop by an invariant with a measure -/
theorem While_my {test : Expr} {body : List Stmt} {pos : Pos} {Q : Flow → Shared → Prop} (n : Nat) (I : Nat → Shared → Prop) (h : I n s)
    (turn : ∀ n s, I n s → wpAny (model prog w) A (isTrue test env (eval test env)) (fun b s₂ => if b = true then wpAny (model prog w) A (execs body env) (fun f s₃ => match f with
            | .next | .cont => Stop (∃ m, m < n ∧ I m s₃)
            | .brk => Q .next s₃
            | .ret v => Q (.ret v) s₃) Never s₂
        else Q .next s₂) Never s) :
    wpAny (model prog w) A (exec (.While test body [] pos) env) Q E s := by
  refine wpAny_While (codeAny_whileLoop I (fun n s hI => wpAny_mono (turn n s hI) (fun b s₂ h₂ => ?_) fun _ _ x => x.elim) n h)
  cases b with
  | true =>
    rw [if_pos rfl] at h₂
    show wpAny _ _ _ _ _ _
    exact wpAny_mono h₂ (fun f s₃ h₃ => by cases f <;> exact h₃) fun _ _ x => x.elim
  | false =>
    rw [if_neg Bool.false_ne_true] at h₂
    exact wpAny_execs_nil h₂
end
section
variable {prog : Program} {w : World} {A : Around} {R : GenEnd} {Y : Protocol} {n : Nat} {s₀ : Shared} {fs : List Frame} {s : Shared} {env : Env} {K : Flow → Sem Fin} {H : Value → Sem Fin} {gd : Bool → Bool} {lv : List Value → List Value}
/-- the loop over the pairs ends -/
theorem gen_end {c c1 : Code} {I D : Addr} {i ep : Nat} {es : Array DictEntry} {tgt : Expr} {body : List Stmt} {g : Bool} {l : List Value} {p : Pos} {kp : List Value}
    (hh : (A.over (.forLoop tgt (.ref I) body [] env) (.ret (forRet env K H gd lv) none g l c1 p kp :: fs)).handled = none) (hit : s.heap.IsKeyIter I D i es.size ep) (hm : RawDict s.heap D es ep) (hge : es.size ≤ i)
    (hK : ∀ h', Heap.ExtBut I s.heap h' → Seg (model prog w) A R Y n s₀ c1 (K .next) fs { s with heap := h' }) :
    Seg (model prog w) A R Y n s₀ c (.pure (.again (.forLoop tgt (.ref I) body [] env))) (.ret (forRet env K H gd lv) none g l c1 p kp :: fs) s := by
  refine seg_again rfl ?_
  refine seg_forLoop ?_
  refine raw_end hh hit hm hge fun h' he => ?_
  dsimp only
  refine seg_block ?_
  exact seg_leaf (.ok .next) (hK h' he)
end
section
theorem fr_new {h₀ h : Heap} {L I : Addr} {m : Str → Option Value} (F : Fr h₀ L h m) (hI : h.objs.size ≤ I) : h₀.get? I = none ∧ I ≠ L := ⟨fr_none F hI, Nat.ne_of_gt (Nat.lt_of_lt_of_le F.ns.lt hI)⟩
local macro_rules | `(tactic| walk_at "call ref") => `(tactic| (k_here; (k_dflt (show wpAny _ _ (call (Value.ref _) [Value.ref _, Value.int _ _]) _ _ _)); (with_reducible show wpAny _ _ (call (Value.ref 584) [Value.ref _, Value.int _ _]) _ _ _); k_dflt (refine' ancestors_spec ?B ?F ?X ?T ?hk ?S ?hG ?hc ?hx ?hnl ?hdp ?hun ?_; (case B => k_asm); (case F => k_asm); (case X => k_asm); (case T => k_asm); (case hk => rfl); (case S => assumption); (case hG => walk_at "DIG"); (case hc => assumption); (case hx => assumption); (case hnl => omega); (case hdp => walk_at "ROOM"); (case hun => walk_at "UNITS")); intro D' o' S' n' h' tk' hk' hsz' hD' hS' hm' hn'; (have N' := news_add (by k_asm) (news_onto (by k_asm) hk') hsz' hD'); (have l1' := news_lt (by k_asm) hsz'); (have F' := fr_onto (by k_asm) hk'); (try k_lt l1'); (try dsimp only)))
local macro_rules | `(tactic| walk_at "binaryOp BitAnd ref ref") => `(tactic| (k_here; k_dflt (refine' and_news ?F ?N ?a ?b ?c ?d ?f ?g ?_; (case F => k_asm); (case N => k_asm); (case a => k_mem); (case b => k_mem); (case c => assumption); (case d => assumption); (case f => kse_fit); (case g => kse_fit)); intro D' h' o' n' F' N' l1' hso' hn'; (try k_lt l1'); (try k_sweep)))
local macro_rules | `(tactic| walk_at "storeName") => `(tactic| (k_here; k_dflt (refine' storeX_C ?F ?N ?hc ?U ?hd ?_ ?hk ?hx; (case F => k_asm); (case N => k_asm); (case hk => rfl); (case hx => rfl); (case hc => rfl); (case U => k_updF); (case hd => assumption)); intro h' o' F' N' hd'; (try dsimp only at N'); (try k_sweep)))
local macro_rules | `(tactic| walk_at "eval ListComp") => `(tactic| (k_here; k_dflt (refine' ListComp_K ?hF ?hclos ?hcell ?hkind ?hnames ?hx ?_ ?hs; (case hF => k_asm); (case hclos => with_unfolding_all rfl); (case hcell => decide); (case hkind => rfl); (case hnames => decide); (case hx => with_unfolding_all rfl); (case hs => intro _; with_unfolding_all rfl))))
local macro_rules | `(tactic| walk_at "call ref") => `(tactic| (k_here; (k_dflt (show wpAny _ _ (call (Value.ref _) [Value.ref _, Value.int _ _]) _ _ _)); (with_reducible show wpAny _ _ (call (Value.ref 746) [Value.ref _, Value.int _ _]) _ _ _); k_dflt (refine' succs_spec ?B ?F ?X ?T ?hk ?S ?hO ?hkd ?hva ?halo ?hat ?hdp ?hun ?_; (case B => k_asm); (case F => k_asm); (case X => k_asm); (case T => k_asm); (case hk => rfl); (case S => assumption); (case hO => walk_at "DIO"); (case hva => assumption); (case hkd => exact Heap.DictOf.keep (by assumption) (Fr.keep (by k_asm))); (case halo => assumption); (case hat => walk_at "DAT"); (case hdp => walk_at "ROOM"); (case hun => walk_at "UNITS")); intro I' h' tk' hk' hI' hit'; (have l1' := news_lt (by k_asm) hI'); (have hIn' := fr_new (by k_asm) hI'); (have N' := news_onto (by k_asm) hk'); (have F' := fr_onto (by k_asm) hk'); (try k_lt l1'); (try dsimp only); (try k_sweep)))
theorem below_up {A : Around} {base h h' : Heap} {outer : List Env} (B : Below A base outer h) (k : ∀ b o, h.get? b = some o → h'.get? b = some o) : Below A base outer h' :=
  ⟨B.stack, fun b o e => k b o (B.stays b o e), B.frames.of_keeps fun b o e _ => ⟨o, k b o e, rfl⟩⟩
theorem News.at' {hc h h' : Heap} {L I : Addr} {o io : Obj} {news : List (Addr × Obj)} (hs : Heap.SameBut I h h') (hio : h'.get? I = some io) (N : News hc L h ((I, o) :: news)) (hn : ∀ p ∈ news, p.1 ≠ I) : News hc L h' ((I, io) :: news) := fun p hp => by
  rcases List.mem_cons.mp hp with rfl | hp
  · exact ⟨hio, (N _ (.head _)).2⟩
  · exact ⟨hs.extBut _ _ (hn p hp) (N p (.tail _ hp)).1, (N p (.tail _ hp)).2⟩
/-- after the set of the common ancestors is made -/
def Common (prog : Program) (w : World) (hc : Heap) (Lg g D : Addr) (u v : Int) (tu tv : Tok) (pb : Int → List Int) (s₁ : Shared) (I : Addr) (io : Obj) (ga : Addr) (oga : Obj) (S : Addr) (oS : Obj) (s' : Shared) : Prop :=
  ∃ h tk CS oCS oce dc n P, s' = { s₁ with heap := h, toks := tk } ∧ Fr hc Lg h (lk [("w", some (Value.int v tv)), ("v", some (Value.int u tu)), ("ancestor_cache", some (.ref dc)), ("pairs", some (.ref D)), ("G", some (.ref g))]) ∧
    oce.data = .cell (some (.ref CS)) ∧ Obj.SetObjOf (PySem.intKind prog w) oCS P n ∧ News hc Lg h [(CS, oCS), (I, io), (Lg + 1, oce), (ga, oga), (S, oS)] ∧ n ≤ 1000 ∧ (∀ k, P k = true ↔ Reach pb u k ∧ Reach pb v k) ∧ I < CS ∧ Lg + 1 < CS ∧ ga < CS ∧ S < CS
theorem anc_mem {pb : Int → List Int} {x : Int} {S : Int → Bool} (hm : ∀ k, S k = true ↔ Reach pb x k ∧ k ≠ x) (k : Int) : (S k || decide (k = x)) = true ↔ Reach pb x k := by
  rw [Bool.or_eq_true, hm, decide_eq_true_iff]
  constructor
  · rintro (⟨h, _⟩ | rfl)
    · exact h
    · exact .refl
  · intro h
    by_cases e : k = x
    · exact .inr e
    · exact .inl ⟨h, e⟩
theorem fr_eq {h₀ h : Heap} {L : Addr} {m m' : Str → Option Value} (F : Fr h₀ L h m) (e : m' = m) : Fr h₀ L h m' := e ▸ F
theorem use_eq {α : Type} {x : Option α} {o o' : α} {P : Prop} (h1 : x = some o) (h2 : x = some o') (k : o' = o → P) : P := k (Option.some.inj (h2.symm.trans h1))
theorem gen_runs {w : World} {p : Program} {loose : List Str} {mean : ExcName → Option Value} {mg mb : Str → Option Value} {outer : List Env} {A₁ : Around} {base hc h7 : Heap} {g D t ga Lg f : Addr} {cdv : Value} {gq : Str} {u v : Int} {tu tv : Tok} {ns : List Int} {sb pb : Int → List Int} {es : Array DictEntry} {ep : Nat} {e0 : DictEntry}
    {nm qual : Str} {prms : Arguments} {body : List Stmt} {scope : Scope} {dV kV doc pm cdv' ct oc : Value} {an od : Option Addr} {osl : Array (Option Value)}
    {n2 n3 : Str} {p2 : Arguments} {gbody : List Stmt} {gscope : Scope} {gpos : Pos} {oce : Obj}
    (hb : (hd.heap_39 w.params).lookup 616 = some ⟨oc, od, .func (fnOf nm qual prms body scope dV kV doc pm an cdv' ct), osl⟩) (hf : body[3]? = some (.FunctionDef n2 p2 gbody [] none [] gscope none n3 gpos))
    (B : Below A₁ base outer hc) (X : (hd.heap_39 w.params).In hc) (T : Top p loose mean mg mb hc) (S : Sys hc)
    (hG : DiG PySem.Challenge.rw_fq0029_01.row.prog w hc g ns sb pb) (hcs : Closed ns sb) (hcp : Closed ns pb) (hnl : ns.length ≤ 12) (hac : Acyc ns sb) (hu : u ∈ ns) (hv : v ∈ ns)
    (hD : RawDict hc D es ep) (hD0 : (D == sysModules) = false) (hes : es.toList = [e0]) (hk0 : e0.key = .ref t) (ht : hc.IsTuple t #[Value.int u tu, Value.int v tv])
    (F₀ : Fr hc Lg h7 (lk [("pairs", some (.ref D)), ("G", some (.ref g))])) (hce : h7.get? (Lg + 1) = some oce) (hce0 : oce.data = .cell none) (hga : h7.IsGen ga gno) (hlt : Lg + 1 < ga) :
    GenRuns PySem.Challenge.rw_fq0029_01.row.prog w outer hc h7 ga sb pb u v (.func gbody (envX gq gscope Lg f cdv [(("common_ancestors" : Str), Lg + 1)])) := by
  revert X
  k_fill
  intro X
  refine' use_eq hb ?hh ?_
  case hh => k_is
  intro e
  cases e
  cases hf
  clear hb
  obtain ⟨nd, ad, pd, nkvs, hO, hnlo, hnd, hns, hA, hPd⟩ := id hG.at_
  obtain ⟨epn, hat⟩ := hnd.dictAt
  intro dp un gd S oS s₁ hdp hun hk1 hS hoS
  have F₁ : Fr hc Lg s₁.heap (lk [("pairs", some (.ref D)), ("G", some (.ref g))]) := ⟨F₀.ns.keeps hk1, fun b o e => hk1 _ _ (F₀.keep b o e), F₀.above⟩
  obtain ⟨oga, gnm, gqn, hoga, hgr⟩ := hga
  have hLlt := F₀.ns.lt
  have hcl := Heap.lt_size hce
  have hgl := Heap.lt_size hoga
  have N₁ : News hc Lg s₁.heap [(Lg + 1, oce), (ga, oga), (S, oS)] := by
    intro q hq
    simp only [List.mem_cons, List.not_mem_nil, or_false] at hq
    rcases hq with rfl | rfl | rfl
    · exact ⟨hk1 _ _ hce, Nat.ne_of_gt (Nat.lt_succ_self _), get_none_of_size (Nat.le_trans F₀.above (Nat.le_succ _))⟩
    · exact ⟨hk1 _ _ hoga, Nat.ne_of_gt (Nat.lt_of_le_of_lt (Nat.le_succ _) hlt), get_none_of_size (Nat.le_trans F₀.above (Nat.le_of_lt (Nat.lt_of_le_of_lt (Nat.le_succ _) hlt)))⟩
    · exact ⟨hoS, Nat.ne_of_gt (Nat.lt_of_lt_of_le hLlt hS), get_none_of_size (Nat.le_trans F₀.above (Nat.le_trans (Nat.le_of_lt hLlt) hS))⟩
  refine seg_func ?_
  refine seg_pre (pre := [_]) ?_
  rw [over_func]
  have hes0 : es[0]? = some e0 := by rw [← Array.getElem?_toList, hes]; rfl
  have hesz : es.size = 1 := by rw [← Array.length_toList, hes]; rfl
  refine hideQ ?_
  intro Q hQ
  k_steps
  rename Fr _ _ _ _ => F₂
  rename News _ _ _ _ => N₂
  rw [hQ]
  dsimp only
  refine seg_execs_cons (seg_For ?_)
  rw [over_func]
  refine hideQ ?_
  intro Q hQ
  k_steps
  rw [hQ]
  dsimp only
  refine raw_iter_N F₂ N₂ hD0 (hD.keep fun o e => F₂.keep _ _ e) fun I io h₃ F₃ N₃ hit₃ hI3 hD3 => ?_
  have hI3c := hI3
  k_lt hI3
  intro p
  refine seg_forLoop ?_
  rw [over_loop]
  refine raw_item_N F₃ N₃ hit₃ hD3 hes0 hI3c fun io' h₄ F₄ N₄ hit₄ hD4 => ?_
  obtain ⟨hic, hid⟩ : io'.cls = .type "dict_keyiterator" ∧ io'.data = .fields #[.ref D, .int ((0 + 1 : Nat) : Int) 0, .int es.size 0, .int ep 0] := by
    obtain ⟨o4, ho4, hoc, hod⟩ := id hit₄
    have := (N₄ _ (.head _)).1
    rw [ho4] at this
    cases this
    exact ⟨hoc, hod⟩
  rw [hk0]
  dsimp only
  refine let_owned_keyiter hit₄ ?_
  refine hideQ ?_
  intro Q hQ
  k_steps
  rename Fr _ _ _ _ => F₅
  rename News _ _ _ _ => N₅
  rw [hQ]
  dsimp only
  have q1 := ltN hlt
  have q2 := ltN (Nat.lt_of_lt_of_le hcl hS)
  have q3 := ltN (Nat.lt_of_lt_of_le hgl hS)
  refine seg_pre (pre := [_, _, _]) (wpAny_mono (Q := fun fl s' => fl = Flow.next ∧ Common PySem.Challenge.rw_fq0029_01.row.prog w hc Lg g D u v tu tv pb s₁ I io' ga oga S oS s') ?_ ?_ fun _ _ x => x)
  · rw [over_loop]
    by_cases huv : u = v
    · subst huv
      k_steps
      rename _ < _ ∧ _ < _ ∧ _ < _ ∧ _ < _ ∧ _ < _ ∧ _ => ll
      rename News _ _ _ _ => N₉
      rename Obj.SetObjOf _ _ _ _ => hSO
      refine ⟨_, _, _, _, _, _, _, _, rfl, by assumption, by assumption, hSO, news_sub N₉ (by intro q hq; simp only [List.mem_cons, List.not_mem_nil, or_false] at hq ⊢; rcases hq with rfl | rfl | rfl | rfl | rfl <;> simp), by assumption, fun k => ?_, by simp only [ll, and_self]⟩
      first | rw [Bool.and_eq_true, anc_mem (by assumption), anc_mem (by assumption)] | rw [Bool.and_eq_true, anc_mem (by assumption)]
    · have hne1 : u ≠ v := huv
      have hne2 : v ≠ u := fun e => huv e.symm
      k_steps
      rename _ < _ ∧ _ < _ ∧ _ < _ ∧ _ < _ ∧ _ < _ ∧ _ => ll
      rename News _ _ _ _ => N₉
      rename Obj.SetObjOf _ _ _ _ => hSO
      refine ⟨_, _, _, _, _, _, _, _, rfl, by assumption, by assumption, hSO, news_sub N₉ (by intro q hq; simp only [List.mem_cons, List.not_mem_nil, or_false] at hq ⊢; rcases hq with rfl | rfl | rfl | rfl | rfl <;> simp), by assumption, fun k => ?_, by simp only [ll, and_self]⟩
      first | rw [Bool.and_eq_true, anc_mem (by assumption), anc_mem (by assumption)] | rw [Bool.and_eq_true, anc_mem (by assumption)]
  · rintro fl s' ⟨rfl, h₆, tk₆, CS, oCS, oce', dc, n, P, rfl, F₆, hcell, hSO, N₆, hn, hP, hI6⟩
    dsimp only
    have hcov := set_pos hSO
    refine seg_execs_cons (seg_If ?_)
    rw [over_loop]
    refine hideQ ?_
    intro Q hQ
    k_steps
    rw [hQ]
    dsimp only
    have runs : ∀ (h h' : Heap) tk (news : List (Addr × Obj)), News hc Lg h' news → (ga, oga) ∈ news → (S, oS) ∈ news → (∀ b o, hc.get? b = some o → h'.get? b = some o) → Runs1 hc ga S s₁ { s₁ with heap := h', toks := tk } := fun h h' tk news N h1 h2 kb =>
      ⟨⟨h', tk, rfl⟩, kb, fun b o hb e => by
        rcases hb with rfl | rfl
        · rw [hk1 _ _ hoga] at e; cases e; exact (N _ h1).1
        · rw [hoS] at e; cases e; exact (N _ h2).1⟩
    have hio' : h₆.IsKeyIter I D 1 es.size ep := ⟨io', (N₆ _ (.tail _ (.head _))).1, hic, hid⟩
    have hD6 : RawDict h₆ D es ep := hD.keep fun o e => F₆.keep _ _ e
    have hcI : ∀ b o, hc.get? b = some o → b ≠ I := fun b o e q => by rw [q, (N₆ (I, io') (.tail _ (.head _))).2.2] at e; cases e
    by_cases hn0 : n = 0
    · rw [if_neg (by simp [hn0])]
      refine gen_end rfl hio' hD6 (Nat.le_of_eq hesz) fun h' he => ?_
      refine seg_end (.ok (.ret .none)) ⟨rfl, ?_⟩
      refine ⟨runs h₆ h' _ [(ga, oga), (S, oS)] (fun q hq => ?_) (.head _) (.tail _ (.head _)) fun b o e => he b o (hcI b o e) (F₆.keep b o e), fun k hk => ?_⟩
      · have hqI : q.1 ≠ I := by
          simp only [List.mem_cons, List.not_mem_nil, or_false] at hq
          rcases hq with rfl | rfl
          · exact Nat.ne_of_lt hI3.2.2.1
          · exact Nat.ne_of_lt hI3.2.2.2
        have hq6 : q ∈ [(CS, oCS), (I, io'), (Lg + 1, oce'), (ga, oga), (S, oS)] := .tail _ (.tail _ (.tail _ hq))
        exact ⟨he _ _ hqI (N₆ q hq6).1, (N₆ q hq6).2⟩
      · exact absurd hn0 (hcov.mpr ⟨k, (hP k).mpr hk⟩)
    · rw [if_pos (by simp [hn0])]
      have hexP := hcov.mp hn0
      refine seg_pre (pre := [_]) ?_
      rw [over_loop]
      refine hideQ ?_
      intro Q hQ
      k_steps
      walk_at "PYITERG"
      intro I2 h2 tk2 hk2 hI2 hit2
      have F₇ := fr_onto F₆ hk2
      have N₇ := news_onto N₆ hk2
      refine ⟨I2, nd, nkvs, epn, _, rfl, rfl, F₇, N₇, hat, hit2, fr_none F₆ hI2, Nat.ne_of_lt (Nat.lt_of_lt_of_le F₆.ns.lt hI2), (fun q hq => Nat.ne_of_lt (Nat.lt_of_lt_of_le (Heap.lt_size (N₆ q hq).1) hI2)), by (have : nkvs.length = ns.length := by rw [← hns, List.length_map]); rw [sizeLine_eq]; omega, rest_filter (p := P) ?_ ?_⟩
      · rintro k v' I3 oI C oC D3 m₂ h3 tk3 ys E' hkv hC hx3 F₈ N₈ off3
        obtain ⟨tk0, rfl⟩ := Value.isInt_shape hkv
        k_steps
      · intro ys hys D5 h5 tk5 F₈ N₈ off5
        obtain ⟨c0, rest, hcr⟩ : ∃ c0 rest, (nkvs.map (·.1)).filter P = c0 :: rest := by
          obtain ⟨k, hk⟩ := hexP
          have hkr := (hP k).mp hk
          have : k ∈ (nkvs.map (·.1)).filter P := List.mem_filter.mpr ⟨by rw [hns]; exact hkr.1.mem hcp hu, hk⟩
          cases hfl : (nkvs.map (·.1)).filter P with
          | nil => rw [hfl] at this; cases this
          | cons a r => exact ⟨a, r, rfl⟩
        have hc0 : c0 ∈ (nkvs.map (·.1)).filter P := by rw [hcr]; exact .head _
        rw [List.mem_filter, hns] at hc0
        rw [hcr] at hys
        have hlen : (c0 :: rest).length ≠ 0 := by simp
        k_steps
        rename Fr _ _ _ _ => F₉
        rename News _ _ _ _ => N₉
        rename Tok => t0
        rw [hQ]
        dsimp only
        refine seg_execs_cons (seg_quiet ?_)
        rw [over_loop]
        refine hideQ ?_
        intro Q hQ
        refine While_my (ns.length - 1) (fun j s' => ∃ (h : Heap) (tk : Nat) (c : Int) (tc : Tok) (u1 u2 : Option Value) (path : List Int), s' = { s₁ with heap := h, toks := tk } ∧ Fr hc Lg h (lk [("successor", u1), ("lower_ancestor", u2), ("common_ancestor", some (.int c tc)), ("w", some (.int v tv)), ("v", some (.int u tu)), ("ancestor_cache", some (.ref dc)), ("pairs", some (.ref D)), ("G", some (.ref g))]) ∧
          News hc Lg h [(CS, oCS), (I, io'), (Lg + 1, oce'), (ga, oga), (S, oS)] ∧ P c = true ∧ path.Nodup ∧ (∀ y ∈ path, y ∈ ns ∧ Reach sb y c) ∧ c ∈ path ∧ j + path.length = ns.length) ?_ ?_
        · refine ⟨_, _, c0, t0, none, none, [c0], rfl, fr_eq F₉ (by walk_at "SAME"), news_sub N₉ (fun q hq => .tail _ hq), hc0.2, by simp, fun y hy => by rw [List.mem_singleton.mp hy]; exact ⟨hc0.1, .refl⟩, .head _, ?_⟩
          have := List.length_pos_of_mem hc0.1
          rw [List.length_singleton]
          omega
        · rintro j s' ⟨h₁, tk₁, c, tc, u1, u2, path, rfl, F₁₀, N₁₀, hPc, hndp, hpath, hcpath, hj⟩
          obtain ⟨⟨kvd, hkd, hkn, hnb⟩, hadlo⟩ := id hA
          obtain ⟨ai, ivs, hva, halo, hiv, hik⟩ := hnb c (hpath c hcpath).1
          obtain ⟨epi, hati⟩ := hiv.dictAt
          obtain ⟨dx, k1, k2, k3, k4, k5, t1, t2, t3, t4, t5, v1, e1, e2⟩ := id hO
          k_steps
          rename_i I3 h3 tk3 hk3 hI3' hit3 hIn3 N₁₁ F₁₁ l3
          refine wpAny_pyIter_keyiter hit3 ?_
          have hsc : ivs.length = (sb c).length := by rw [← hik, List.length_map]
          refine forKeys F₁₁ N₁₁ hati hit3 (by intro q hq; simp only [List.mem_cons, List.not_mem_nil, or_false] at hq; rcases hq with rfl | rfl | rfl | rfl | rfl <;> simp only [l3]) hIn3.2 hIn3.1 rfl (by rfl) (by rfl)
            (fun i m₁ n₁ => ∃ u2, m₁ = lk [("lower_ancestor", u2), ("successor", some .none), ("common_ancestor", some (.int c tc)), ("w", some (.int v tv)), ("v", some (.int u tu)), ("ancestor_cache", some (.ref dc)), ("pairs", some (.ref D)), ("G", some (.ref g))] ∧
              n₁ = [(CS, oCS), (I, io'), (Lg + 1, oce'), (ga, oga), (S, oS)] ∧ ∀ k ∈ (sb c).take i, P k = false)
            ⟨u2, by walk_at "SAME", rfl, by simp⟩ ?_ ?_
          · rintro i k key y m₁ n₁ h₁₂ tk₁₂ io3 hadr hki hkey ⟨u2, rfl, rfl, hdone⟩ F₁₂ N₁₂
            obtain ⟨tk0, rfl⟩ := Value.isInt_shape hkey
            rw [lk_set] at F₁₂
            have hkn' : k ∈ sb c := by rw [← hik]; exact List.mem_map.mpr ⟨(k, y), List.mem_of_getElem? hki, rfl⟩
            have hkt : (sb c).take (i + 1) = (sb c).take i ++ [k] := by
              have : (sb c)[i]? = some k := by rw [← hik, List.getElem?_map, hki]; rfl
              rw [List.take_add_one, this]; rfl
            k_steps
            · rename P k = _ => hpk
              dsimp only
              unfold TurnEnd
              dsimp only
              k_steps
              unfold Stop
              rename Fr _ _ _ _ => F₁₃
              rename News _ _ _ _ => N₁₃
              have hknp : k ∉ path := fun hm => hac c (hpath c hcpath).1 k hkn' (hpath k hm).2
              have hnd' : (k :: path).Nodup := List.nodup_cons.mpr ⟨hknp, hndp⟩
              have hkns : k ∈ ns := hcs c (hpath c hcpath).1 k hkn'
              have hle := nodup_length_le (ns := ns) hnd' fun y hy => by
                rcases List.mem_cons.mp hy with rfl | hy
                · exact hkns
                · exact (hpath y hy).1
              rw [List.length_cons] at hle
              refine ⟨ns.length - (path.length + 1), by omega, _, _, k, tk0, some (.int k tk0), some (.int k tk0), k :: path, rfl, fr_eq F₁₃ (by walk_at "SAME"), news_sub N₁₃ (fun q hq => .tail _ hq), hpk, hnd', fun y hy => ?_, .head _, by rw [List.length_cons]; omega⟩
              rcases List.mem_cons.mp hy with rfl | hy
              · exact ⟨hkns, .refl⟩
              · exact ⟨(hpath y hy).1, .step (hpath y hy).2 hkn'⟩
            · rename Fr _ _ _ _ => F₁₃
              rename News _ _ _ _ => N₁₃
              rename P k = _ => hpk
              refine TurnEnd.next F₁₃ N₁₃ ⟨rfl, _, by walk_at "SAME", rfl, fun k' hk' => ?_⟩
              rw [hkt] at hk'
              rcases List.mem_append.mp hk' with hk' | hk'
              · exact hdone k' hk'
              · rw [List.mem_singleton.mp hk']; exact hpk
          · rintro m₁ n₁ h₁₂ tk₁₂ hadr ⟨u2, rfl, rfl, hall⟩ F₁₂ N₁₂
            dsimp only
            rw [hsc, List.take_length] at hall
            k_steps
            dsimp only
            rw [hQ]
            dsimp only
            refine seg_execs_cons (seg_Expr_Yield rfl rfl rfl ?_)
            rw [over_loop]
            refine hideQ ?_
            intro Q hQ
            k_steps
            rw [hQ]
            intro kap hkap
            rename Fr _ _ _ _ => F₁₄
            rename News _ _ _ _ => N₁₄
            have hDS : D ≠ S := by
              intro q
              obtain ⟨o, ho, _⟩ := id hD
              rw [q] at ho
              have z := (N₁₄ (S, oS) (by simp)).2.2
              have z' : hc.get? S = none := z
              rw [z'] at ho
              cases ho
            have hIS : I ≠ S := Nat.ne_of_gt hI3.2.2.2
            refine ⟨runs h₆ _ _ _ N₁₄ (by simp) (by simp) F₁₄.keep, ⟨c, ⟨((hP c).mp hPc).1, ((hP c).mp hPc).2, fun k hk hb => by have z1 := hall k hk; have z2 := (hP k).mpr hb; rw [z1] at z2; cases z2⟩, _, _, tc, rfl, (N₁₄ _ (.head _)).2.2, (N₁₄ _ (.head _)).1⟩, fun h₂ tk₂ gg hk₂ => ?_⟩
            have hI2 : h₂.get? I = some io' := hk₂ _ _ hIS (N₁₄ (I, io') (by simp)).1
            refine hkap .none _ ?_
            dsimp only
            refine gen_end rfl (i := 1) ⟨io', hI2, hic, hid⟩ (hD.keep fun o e => hk₂ _ _ hDS (F₁₄.keep _ _ e)) (Nat.le_of_eq hesz) fun h' he => seg_end (.ok (.ret .none)) ⟨rfl, ⟨_, _, rfl⟩, fun b o e e2 => he b o (hcI b o e) e2, fun b o hcl e => he b o (fun q => ?_) e⟩
            have e' : h₂.get? b = some o := e
            rw [q, hI2] at e'
            cases e'
            exact hcl hic
end
def gqual : Str := "all_pairs_lowest_common_ancestor.<locals>.generate_lca_from_pairs"
/-- the table of nested codes: empty, or it holds the generator's code -/
def TabOk (h : Heap) (ps : Array Value) : Prop := ps = #[] ∨ ∃ c2, c2 ≠ 613 ∧ ps = #[rawInt 376, rawInt 4, .ref c2] ∧ h.CodeRec (.ref c2) gqual
theorem TabOk.keep {h h' : Heap} {ps : Array Value} (x : TabOk h ps) (k : ∀ b o, b ≠ 613 → h.get? b = some o → h'.get? b = some o) : TabOk h' ps := by
  rcases x with rfl | ⟨c2, h1, h2, c, oc, vs, t, e1, e2, e3, e4⟩
  · exact .inl rfl
  · refine .inr ⟨c2, h1, h2, c, oc, vs, t, e1, k _ _ ?_ e2, e3, e4⟩
    cases e1
    exact h1
section
variable {M : Model} {A : Around} {E : Value → Shared → Prop} {s : Shared} {h₀ : Heap} {L : Addr} {m mg mb : Str → Option Value} {news : List (Addr × Obj)} {p : Program} {loose : List Str} {mean : ExcName → Option Value} {c P : Addr} {ps : Array Value} {ccd : Value} {cn : Str} {cs : Scope} {a : Addr} {cl clos : List (Str × Addr)} {name qual : Str} {params : Arguments} {body : List Stmt} {scope : Scope} {pos : Pos} {firstLine : Nat} {g : Obj → List (Addr × Obj)}
theorem nest_both {Q : Value → Shared → Prop} (F : Fr h₀ L s.heap m) (N : News h₀ L s.heap news) (T : Top p loose mean mg mb h₀) (C : CodeHd h₀ c P) (hcd : ccd = .ref c) (U : UpdF P (tabObj ps) news g)
    (hps : ps = #[] ∨ ∃ c2, ps = #[rawInt pos.line, rawInt pos.col, .ref c2] ∧ h₀.CodeRec (.ref c2) qual)
    (hcl : closureFor scope (envX cn cs L a ccd cl) = pure clos)
    (h : ∀ f c' ctv doc h' tk, Fr h₀ L h' m → News h₀ L h' ((f, fnMade name qual params body scope clos doc ((mg "__name__").getD .none) c' ctv) :: g (tabObj #[rawInt pos.line, rawInt pos.col, .ref c'])) →
      h'.CodeRec (.ref c') qual → (∀ q ∈ news, q.1 < f) → (ps = #[] → P < c') → (ps ≠ #[] → ps = #[rawInt pos.line, rawInt pos.col, .ref c']) → Q (.ref f) { s with heap := h', toks := tk }) :
    wpAny M A (makeFunction name qual params (.stmts body) scope (envX cn cs L a ccd cl) [] [] [] pos firstLine) Q E s := by
  obtain ⟨pre, post, hn, hgr, h1, h2⟩ := id U.split
  have hmem : (P, tabObj ps) ∈ news := by rw [hn]; simp
  rcases hps with rfl | ⟨c2, rfl, hc2⟩
  · refine nest_K F N T C hcd U trivial rfl hcl fun f c' oc vs t ctv doc h' tk F' N' hd hv hlt hcf => ?_
    refine h f c' ctv doc h' tk F' (fun q hq => N' q ?_) (codeRec_news N' (by simp) hd hv) (fun q hq => Nat.lt_trans (hlt q hq) hcf) (fun _ => hlt _ hmem) (fun e => absurd rfl e)
    rcases List.mem_cons.mp hq with rfl | hq
    · exact .head _
    · exact .tail _ (.tail _ hq)
  · refine nestHit_K (c' := c2) F N T C hcd hmem ?_ ?_ hcl fun f ctv doc h' tk F' N' hlt => ?_
    · exact trivial
    · simp [codeAmong, rawInt]
    · refine h f c2 ctv doc h' tk F' ?_ (hc2.keeps F'.keep) hlt (fun e => by simp at e) fun _ => rfl
      have : g (tabObj #[rawInt pos.line, rawInt pos.col, .ref c2]) = news := by rw [hgr, hn]
      rw [this]; exact N'
end
section
variable {M : Model} {A : Around} {E : Value → Shared → Prop} {s : Shared} {h₀ : Heap} {L a : Addr} {cn : Str} {cs : Scope} {ccd : Value} {cl : List (Str × Addr)} {x : Str} {v : Value} {Q : Unit → Shared → Prop} {news : List (Addr × Obj)}
theorem store_cr {l : List (Str × Option Value)} {cd : Value} {q : Str} (F : Fr h₀ L s.heap (lk l)) (N : News h₀ L s.heap news) (hcr : s.heap.CodeRec cd q)
    (h : ∀ h', Fr h₀ L h' (lk ((x, some v) :: l)) → News h₀ L h' news → h'.CodeRec cd q → Q () { s with heap := h', toks := s.toks + 1 })
    (hk : cs.kind = .function := by rfl) (hx : (envX cn cs L a ccd cl).kindOf x = some .local := by rfl) : wpAny M A (storeName (envX cn cs L a ccd cl) x v) Q E s :=
  wpAny_storeName_local hx F.ns (fun h' hn hs => h h' (lk_set l x v ▸ F.set hn hs) (N.set hs) (by
    obtain ⟨c, oc, vs, t, e1, e2, e3, e4⟩ := hcr
    refine ⟨c, oc, vs, t, e1, hs.extBut _ _ (fun q => ?_) e2, e3, e4⟩
    obtain ⟨oL, es, ep, hoL, hdL, _⟩ := F.ns
    have q' : c = L := q
    rw [q', hoL] at e2
    cases e2
    rw [hdL] at e3
    cases e3)) (by show (cs.kind == .class || (cs.kind == .module && L != mainGlobals)) = false; rw [hk]; rfl)
end
section
local macro_rules | `(tactic| walk_at "nothing") => `(tactic| fail "nothing")
local macro_rules | `(tactic| walk_at "nothing") => `(tactic| fail "nothing")
local macro_rules | `(tactic| walk_at "nothing") => `(tactic| fail "nothing")
local macro_rules | `(tactic| walk_at "nothing") => `(tactic| fail "nothing")
local macro_rules | `(tactic| walk_at "nothing") => `(tactic| fail "nothing")
local macro_rules | `(tactic| walk_at "nothing") => `(tactic| fail "nothing")
local macro_rules | `(tactic| walk_at "call ref") => `(tactic| (k_here; (k_dflt (show wpAny _ _ (call (Value.ref _) [Value.ref _]) _ _ _)); (with_reducible show wpAny _ _ (call (Value.ref 591) [Value.ref _]) _ _ _); k_dflt (refine' dag_spec ?B ?F ?X ?T ?hk ?S ?hG ?hc ?hnl ?hdp ?hun ?_; (case B => k_asm); (case F => k_asm); (case X => k_asm); (case T => k_asm); (case hk => rfl); (case S => assumption); (case hG => walk_at "DIG"); (case hc => assumption); (case hnl => assumption); (case hdp => walk_at "ROOM"); (case hun => walk_at "UNITS")); intro b' h' tk' hk' hb'; (have hb2 := hb'.mpr (by assumption)); (subst hb2); clear hb'; (have N' := news_onto (by k_asm) hk'); (have F' := fr_onto (by k_asm) hk'); (try clear hk'); (try dsimp only); (try k_sweep)))
theorem tab_in {h h' : Heap} {ps : Array Value} (x : TabOk h ps) (k : ∀ b o, b ≠ 613 → h.get? b = some o → h'.get? b = some o) : ps = #[] ∨ ∃ c2, ps = #[rawInt (376 : Nat), rawInt (4 : Nat), .ref c2] ∧ h'.CodeRec (.ref c2) gqual := by
  rcases x.keep k with h | ⟨c2, _, h2, h3⟩
  · exact .inl h
  · exact .inr ⟨c2, h2, h3⟩
theorem pairs_ok {w : World} {p : Program} {loose : List Str} {mean : ExcName → Option Value} {mg mb : Str → Option Value} {dp un : Nat} {gd : Option (List Code)} {cn : Str} {cs : Scope} {a : Addr} {ccd : Value} {cl : List (Str × Addr)} {outer : List Env} {A₀ : Around} {base h₀ : Heap} {L : Addr} {m : Str → Option Value} {s : Shared} {Q E : Value → Shared → Prop} {g l t : Addr} {u v : Int} {tu tv : Tok} {ns : List Int} {sb pb : Int → List Int} {ps : Array Value}
    (B : Below A₀ base outer h₀) (F : Fr h₀ L s.heap m) (X : (hd.heap_39 w.params).In h₀) (T : Top p loose mean mg mb h₀) (hk : cs.kind = .function) (S : Sys h₀) (N₀ : News h₀ L s.heap [(613, tabObj ps)]) (hps : TabOk s.heap ps) (hG : DiG PySem.Challenge.rw_fq0029_01.row.prog w s.heap g ns sb pb) (hcs : Closed ns sb) (hcp : Closed ns pb) (hnl0 : ns.length ≤ 12) (hac : Acyc ns sb) (hu : u ∈ ns) (hv : v ∈ ns)
    (hl : s.heap.IsList l [Value.ref t].toArray) (ht : s.heap.IsTuple t #[Value.int u tu, Value.int v tv]) (hdp : dp + 10 < recursionLimit) (hun : un + 100 < cLine)
    (ret : ∀ ga hc h' tk' ps' code, KeepsBut [613] s.heap hc → hc.get? 613 = some (tabObj ps') → TabOk hc ps' → hc.NoLimit → Keeps hc h' → h'.IsGen ga s.gens.size → GenRuns PySem.Challenge.rw_fq0029_01.row.prog w (envX cn cs L a ccd cl :: outer) hc h' ga sb pb u v code →
      Q (.ref ga) { s with heap := h', toks := tk', gens := s.gens.push (.fresh code) }) :
    wpAny (model PySem.Challenge.rw_fq0029_01.row.prog w) (ktrTop dp un gd cn cs L a ccd cl outer) (call (.ref 616) [.ref g] [("pairs", .ref l)]) Q E s := by
  have hnl : ns.length ≤ 100 := by omega
  revert X
  k_fill
  intro X
  refine wpAny_call ?_
  refine' enterC (binds := [(("G" : Str), (.ref g : Value)), (("pairs" : Str), (.ref l : Value))]) [(613, tabObj ps)] ?k1 ?k2 ?k2n ?k3 ?k5 ?kA ?kF ?kK ?k6 ?k7 ?k8 ?k9 ?kL ?kB ?kN (fun L' => [(("nodes" : Str), L' + 1)]) ?kC ?_ ?c2 ?c3 ?c4
  case kA => exact rfl
  case kF => exact rfl
  case kK => assumption
  case k1 => exact B
  case k2 => exact F
  case k2n => exact N₀
  case k3 => exact X
  case k5 => exact T
  case k6 => k_is
  case k7 => k_is
  case k8 => ktr_room
  case k9 => first | exact BindsTo.of_eq rfl | exact kp_binds (X.keeps F.keep) (fun _ => rfl)
  case kL => intro _; repeat (first | exact List.forall_mem_nil _ | refine List.forall_mem_cons.mpr ⟨rfl, ?_⟩)
  case kN => decide
  case kC => intro _; rfl
  case kB => exact locs rfl
  case c2 => exact rfl
  case c3 => exact rfl
  case c4 => exact rfl
  intro g' L' h' tk' cells' hg' F' N' Y' lH' B' X' T' st'
  try dsimp only
  k_fold
  have S' : Sys g' := S.keep st'
  replace F' : Fr g' L' h' (lk [(("pairs" : Str), some (.ref l : Value)), (("G" : Str), some (.ref g : Value))]) := F'
  k_cells Y'
  try dsimp only [List.cons_append, List.nil_append] at N'
  try k_lt lH'
  rename_i oc dc
  have hkk : KeepsK s.heap g' := by
    subst hg'
    exact keepsK_hide fun p hp => by rw [List.mem_singleton.mp hp]; exact ⟨(N₀ _ (.head _)).1, rfl⟩
  have hG' := hG.keepK hkk
  have hl' := isList_keepK hkk hl
  have ht' := isTuple_keepK hkk ht
  obtain ⟨nd, ad, pd, nkvs, hO, e3, e4, e5, hA, hP⟩ := hG'.at_
  obtain ⟨ep, hat⟩ := e4.dictAt
  have hlen : nkvs.length ≤ 100 := by have := congrArg List.length e5; rw [List.length_map] at this; omega
  have hpos : 0 < nkvs.length := by
    have := congrArg List.length e5
    rw [List.length_map] at this
    have := List.length_pos_of_mem hu
    omega
  k_steps
  refine ⟨l, t, u, v, tu, tv, rfl, hl'.at fun o e => Fr.keep (by assumption) _ _ e, ht'.at fun o e => Fr.keep (by assumption) _ _ e, by assumption, by assumption, ?_⟩
  intro D o h1 tk1 F1 N1 hDlt hDH hloD
  dsimp only
  rw [lk_set] at F1
  k_lt hDlt
  obtain ⟨es, ep2, hraw, hes⟩ := raw_of_H hDH
  have hesz : es.size = 1 := by rw [← Array.length_toList, hes]; rfl
  have hDo := (N1 _ (.head _)).1
  k_steps
  rename_i Dn hq tkq nq hnq on hsoN l1q hh F2 N2
  have hDo2 := (N2 (D, o) (by k_mem)).1
  have hraw2 := hraw.keep fun o' e => (by rw [hDo] at e; cases e; exact hDo2)
  have hDL := (N2 (D, o) (by k_mem)).2.1
  refine raw_iter hloD hraw2 ?_
  have N3 := News.push F2 N2 { cls := .type "dict_keyiterator", data := .fields #[.ref D, .int 0 0, .int es.size 0, .int ep2 0] } rfl
  have F3 := F2.push { cls := .type "dict_keyiterator", data := .fields #[.ref D, .int 0 0, .int es.size 0, .int ep2 0] }
  have hkey0 : ∀ (i : Nat) e, es[i]? = some e → e.key = .ref t := fun i e he => by
    rw [← Array.getElem?_toList, hes] at he
    match i, he with
    | 0, he => simp at he; rw [← he]; rfl
    | i + 1, he => simp at he
  have hDne := Nat.ne_of_lt (Heap.lt_size hDo2)
  have hDnlt := Heap.lt_size (N2 (Dn, on) (by k_mem)).1
  have hClt := Heap.lt_size (N2 (L' + 1, oc) (by k_mem)).1
  have hTlt := Heap.lt_size (N2 (613, tabObj ps) (by k_mem)).1
  refine forWalks (own := [(D, o)]) (news := [(Dn, on), (L' + 1, oc), (613, tabObj ps)]) (walksRaw rfl _ D hDne es ep2) (by rfl) (by rfl)
    (fun i h st => by obtain ⟨⟨o, ho, _⟩, _⟩ := st; exact ⟨o, ho⟩) ⟨⟨_, Heap.get?_push_size _ rfl, rfl, rfl⟩, hraw2.keep fun o' e => Heap.get?_push_of_some _ e⟩ F3 (news_sub N3 (by intro p hp; simp only [List.cons_append, List.nil_append, List.mem_cons, List.not_mem_nil, or_false] at hp ⊢; rcases hp with rfl | rfl | rfl | rfl <;> simp)) ?_ (Nat.ne_of_gt F2.ns.lt) (fr_none F2 (Nat.le_refl _)) (fun p hp => by rw [List.mem_singleton.mp hp]; exact hDne)
    (fun i m₁ n₁ => ∃ u1, m₁ = lk [("pair", u1), ("nodeset", some (.ref Dn)), ("pairs", some (.ref D)), ("G", some (.ref g))] ∧ n₁ = [(Dn, on), (L' + 1, oc), (613, tabObj ps)])
    ⟨none, by walk_at "SAME", rfl⟩ ?_ ?_ ?_
  · intro b hb
    rcases List.mem_cons.mp hb with rfl | hb
    · exact ⟨Nat.ne_of_gt F2.ns.lt, .inl rfl⟩
    · rw [List.mem_singleton.mp hb]; exact ⟨hDL, .inr (.inr ⟨o, .head _⟩)⟩
  · rintro i m₁ n₁ ⟨u1, rfl, rfl⟩ p hp
    simp only [List.mem_cons, List.not_mem_nil, or_false] at hp
    rcases hp with rfl | rfl | rfl
    · exact Nat.ne_of_lt hDnlt
    · exact Nat.ne_of_lt hClt
    · exact Nat.ne_of_lt hTlt
  · rintro i v' m₁ n₁ h tk io hi ⟨e, he, rfl⟩ ⟨u1, rfl, rfl⟩ F4 N4
    rw [hkey0 i e he, lk_set] at F4
    dsimp only [List.cons_append, List.nil_append] at N4
    have hti : IntsAre [Value.int u tu, Value.int v tv] [u, v] := .cons _ _ (.cons _ _ .nil)
    have hII := ltN hDnlt
    have hsub : ∀ k, (fun k => decide (k ∈ [u, v])) k = true → (fun k => decide (k ∈ ns)) k = true := fun k hk => by
      have := of_decide_eq_true hk
      simp only [List.mem_cons, List.not_mem_nil, or_false] at this
      rcases this with rfl | rfl
      · exact decide_eq_true hu
      · exact decide_eq_true hv
    k_steps
    rename Fr _ _ _ _ => F9
    rename News _ _ _ _ => N9
    exact TurnEnd.next F9 (news_sub N9 (by intro p hp; simp only [List.cons_append, List.nil_append, List.mem_cons, List.not_mem_nil, or_false] at hp ⊢; rcases hp with rfl | rfl | rfl | rfl | rfl <;> simp)) ⟨_, by walk_at "SAME", rfl⟩
  · rintro m₁ n₁ h tk ⟨u1, rfl, rfl⟩ F4 N4
    dsimp only [List.cons_append, List.nil_append] at N4 ⊢
    k_steps
    refine nestDef_K rfl rfl rfl ?_
    have hC : CodeHd g' 615 613 := codeHd_of_K (c := 615) (P := 613) X' (by kernel_rfl)
    rename Fr _ _ _ _ => F5
    rename News _ _ _ _ => N5
    refine' nest_both F5 N5 T' hC rfl ?U ?hps ?hcl ?_
    case U => k_updF
    case hps =>
      have e : ∀ q, q = gqual → (ps = #[] ∨ ∃ c2, ps = #[rawInt (376 : Nat), rawInt (4 : Nat), .ref c2] ∧ g'.CodeRec (.ref c2) q) := fun q h => h ▸ tab_in hps (by rw [hg']; exact fun b o hb e => hideAll_get _ e (by simpa using hb))
      exact e _ (by kernel_rfl)
    case hcl => rfl
    intro f c2 ctv doc h6 tk6 F6 N6 hcr hlt6 hnew hold
    k_lt hlt6
    refine store_cr F6 N6 hcr (fun h8 F8 N8 hcr8 => ?_)
    k_steps
    refine wpAny_call ?_
    refine' enterG (binds := [(("G" : Str), Value.ref g), (("pairs" : Str), Value.ref D)]) F8 N8 T' (by k_mem) hcr8 ?hroom ?hbind ?hkl ?hloc ?hnd (fun Lg => [(("common_ancestors" : Str), Lg + 1)]) ?hcl ?_ ?c1 ?c2 ?c3
    case hkl => intro _; repeat (first | exact List.forall_mem_nil _ | refine List.forall_mem_cons.mpr ⟨rfl, ?_⟩)
    case hnd => decide
    case hcl => intro _; rfl
    case hroom => ktr_room
    case hbind => exact BindsTo.of_eq rfl
    case hloc => exact locs rfl
    case c1 => exact rfl
    case c2 => exact rfl
    case c3 => exact rfl
    intro Lg ga h7 tk7 cellsG FG NG YG hgen hcga hga hLga hk7
    k_cells YG
    show qk (Flow.ret (Value.ref ga)) _
    k_unfold
    dsimp only
    have hFK := F8.keep
    have kb : KeepsBut [613] s.heap h8 := by
      refine ⟨fun b o hb e => hFK b o ?_, ?_⟩
      · rw [hg']
        exact hideAll_get _ e (by simpa using hb)
      · have := (keeps_of F8).size
        rw [hg', hideAll_size] at this
        exact this
    have hDm := (N8 (D, o) (by k_mem)).1
    have hD8 : RawDict h8 D es ep2 := hraw2.keep fun o' e => by rw [hDo2] at e; cases e; exact hDm
    obtain ⟨e0, he0⟩ : ∃ e0, es.toList = [e0] := ⟨_, hes⟩
    have hk0 : e0.key = .ref t := by rw [hes] at he0; cases he0; rfl
    have hc2 : c2 ≠ 613 := by
      rcases hps with e | ⟨c', h1, h2, _⟩
      · exact Nat.ne_of_gt (hnew e)
      · have h3 := hold (by rw [h2]; simp)
        rw [h2] at h3
        have h4 := congrArg (fun a : Array Value => a[2]?) h3
        simp at h4
        rw [← h4]; exact h1
    have hcrq : ∀ q, q = gqual → h8.CodeRec (.ref c2) q → h8.CodeRec (.ref c2) gqual := fun q e => e ▸ id
    refine ret ga h8 h7 _ _ (.func _ (envX _ _ Lg f (.ref c2) _)) kb (N8 (613, _) (by simp)).1 (.inr ⟨c2, hc2, rfl, hcrq _ (by kernel_rfl) hcr8⟩) (T'.keeps hFK).nolimit hk7 hgen ?_
    refine' gen_runs (t := t) ?hb ?hf (below_up B' hFK) (X'.keeps hFK) (T'.keeps hFK) ((S.keep st').keep hFK) (hG'.keep hFK) hcs hcp hnl0 hac hu hv hD8 hloD he0 hk0 (isTuple_keepK (fun b o _ e => hFK b o e) ht') FG (NG _ (.head _)).1 (by assumption) hgen (hcga _ (.head _))
    case hb => k_is
    case hf => rfl
end
/-- what lowest_common_ancestor tells -/
def Answer (sb pb : Int → List Int) (u v : Int) (dflt r : Value) : Prop := (NoCommon pb u v ∧ r = dflt) ∨ ∃ c t, r = .int c t ∧ Lowest sb pb u v c
theorem fr_kb {h₀ h h' : Heap} {L : Addr} {m : Str → Option Value} {l : List Addr} (F : Fr h₀ L h m) (kb : KeepsBut l h h') (hl : ∀ b ∈ l, h₀.get? b = none ∧ b ≠ L) : Fr h₀ L h' m :=
  ⟨F.ns.at' fun o e => kb.keep _ _ (fun hm => (hl _ hm).2 rfl) e, fun b o e => kb.keep b o (fun hm => by rw [(hl b hm).1] at e; cases e) (F.keep b o e), F.above⟩
theorem news_kb {h₀ h h' : Heap} {L : Addr} {news : List (Addr × Obj)} {l : List Addr} (N : News h₀ L h news) (kb : KeepsBut l h h') (hoff : ∀ p ∈ news, p.1 ∉ l) : News h₀ L h' news :=
  fun p hp => ⟨kb.keep _ _ (hoff p hp) (N p hp).1, (N p hp).2⟩
theorem store_tab {M : Model} {A : Around} {E : Value → Shared → Prop} {s : Shared} {h₀ : Heap} {L a : Addr} {cn : Str} {cs : Scope} {ccd : Value} {cl : List (Str × Addr)} {x : Str} {v : Value} {Q : Unit → Shared → Prop} {news : List (Addr × Obj)} {ps : Array Value} {l : List (Str × Option Value)}
    (F : Fr h₀ L s.heap (lk l)) (N : News h₀ L s.heap news) (hps : TabOk s.heap ps)
    (h : ∀ h', Fr h₀ L h' (lk ((x, some v) :: l)) → News h₀ L h' news → TabOk h' ps → Q () { s with heap := h', toks := s.toks + 1 })
    (hk : cs.kind = .function := by rfl) (hx : (envX cn cs L a ccd cl).kindOf x = some .local := by rfl) : wpAny M A (storeName (envX cn cs L a ccd cl) x v) Q E s := by
  rcases hps with rfl | ⟨c2, h1, h2, h3⟩
  · exact store_lk F N (fun h' F' N' => h h' F' N' (.inl rfl)) hk hx
  · exact store_cr F N h3 (fun h' F' N' h3' => h h' F' N' (.inr ⟨c2, h1, h2, h3'⟩)) hk hx
theorem lca_ok {w : World} {p : Program} {loose : List Str} {mean : ExcName → Option Value} {mg mb : Str → Option Value} {dp un : Nat} {gd : Option (List Code)} {cn : Str} {cs : Scope} {a : Addr} {ccd : Value} {cl : List (Str × Addr)} {outer : List Env} {A₀ : Around} {base h₀ : Heap} {L : Addr} {m : Str → Option Value} {s : Shared} {Q E : Value → Shared → Prop} {g : Addr} {u v : Int} {tu tv : Tok} {ns : List Int} {sb pb : Int → List Int} {ps : Array Value}
    (B : Below A₀ base outer h₀) (F : Fr h₀ L s.heap m) (X : (hd.heap_39 w.params).In h₀) (T : Top p loose mean mg mb h₀) (hk : cs.kind = .function) (S : Sys h₀) (N₀ : News h₀ L s.heap [(613, tabObj ps)]) (hps : TabOk s.heap ps) (hG : DiG PySem.Challenge.rw_fq0029_01.row.prog w s.heap g ns sb pb) (hcs : Closed ns sb) (hcp : Closed ns pb) (hnl0 : ns.length ≤ 12) (hac : Acyc ns sb) (hu : u ∈ ns) (hv : v ∈ ns)
    (hdp : dp + 20 < recursionLimit) (hun : un + 200 < cLine)
    (ret : ∀ r h' tk' ps', KeepsBut [613] s.heap h' → h'.get? 613 = some (tabObj ps') → TabOk h' ps' → Answer sb pb u v .none r → Q r { s with heap := h', toks := tk', gens := s.gens.push .finished }) :
    wpAny (model PySem.Challenge.rw_fq0029_01.row.prog w) (ktrTop dp un gd cn cs L a ccd cl outer) (call (.ref 624) [.ref g, .int u tu, .int v tv]) Q E s := by
  revert X
  k_fill
  intro X
  refine wpAny_call ?_
  refine' enterH (binds := [(("G" : Str), (.ref g : Value)), (("node1" : Str), (.int u tu : Value)), (("node2" : Str), (.int v tv : Value)), (("default" : Str), (.none : Value))]) [(613, tabObj ps)] ?k1 ?k2 ?k2n ?k3 ?k5 ?kA ?kF ?kK ?k6 ?k7 ?k8 ?k9 ?kB ?_ ?c2 ?c3 ?c4 ?c5
  case kA => exact rfl
  case kF => exact rfl
  case kK => assumption
  case k1 => exact B
  case k2 => exact F
  case k2n => exact N₀
  case k3 => exact X
  case k5 => exact T
  case k6 => k_is
  case k7 => k_is
  case k8 => ktr_room
  case k9 => first | exact BindsTo.of_eq rfl | exact kp_binds (X.keeps F.keep) (fun _ => rfl)
  case c5 => decide
  case kB => exact locs rfl
  case c2 => exact rfl
  case c3 => exact rfl
  case c4 => exact rfl
  intro g' L' h' hg' F' N' lH' B' X' T' st'
  try dsimp only
  k_fold
  have S' : Sys g' := S.keep st'
  replace F' : Fr g' L' h' (lk [(("default" : Str), some (.none : Value)), (("node2" : Str), some (.int v tv : Value)), (("node1" : Str), some (.int u tu : Value)), (("G" : Str), some (.ref g : Value))]) := (lk_of _ ▸ F' :)
  try k_lt lH'
  have hkk : KeepsK s.heap g' := by
    subst hg'
    exact keepsK_hide fun p hp => by rw [List.mem_singleton.mp hp]; exact ⟨(N₀ _ (.head _)).1, rfl⟩
  have hG' := hG.keepK hkk
  have hnh : ∀ b ∈ [613], g'.get? b = none ∧ b ≠ L' := fun b hb => by rw [List.mem_singleton.mp hb]; exact ⟨(N' _ (.head _)).2.2, (N' _ (.head _)).2.1⟩
  k_steps
  rename Fr _ _ _ _ => F2
  rename News _ _ _ _ => N2
  show wpAny _ (ktrTop _ _ _ _ _ _ _ _ _ _) (call (.ref 616) [.ref g] [("pairs", .ref _)]) _ _ _
  have hps2 := hps.keep fun b o hb e => F2.keep b o (by rw [hg']; exact hideAll_get _ e (by simpa using hb))
  refine pairs_ok (A₀ := _) B' F2 X' T' rfl (S.keep st') (news_sub N2 (by intro q hq; simp only [List.mem_cons, List.not_mem_nil, or_false] at hq ⊢; rcases hq with rfl; simp)) hps2 (hG'.keep F2.keep) hcs hcp hnl0 hac hu hv (isList_news N2 (by k_mem)) ⟨_, (N2 _ (.tail _ (.head _))).1, rfl, _, rfl⟩ (by walk_at "ROOM") (by walk_at "UNITS") fun ga hc h7 tk7 ps' code kb h613 hps' hlim hk7 hgen hrun => ?_
  have F7 := fr_onto (fr_kb F2 kb hnh) hk7
  have N7 : News g' L' h7 [(613, tabObj ps')] := fun q hq => by rw [List.mem_singleton.mp hq]; exact ⟨hk7.keep _ _ h613, (hnh 613 (.head _)).symm⟩
  k_steps
  refine list_one (Fin := ListFin hc sb pb u v s.gens _) hgen (fun h₁ hlt hk1 => pull_gen hrun (by walk_at "ROOM") (by walk_at "UNITS") rfl hgen hk1 (Nat.le_refl _) hlim hk7.keep) fun s' acc' c' hs' hf => ?_
  obtain ⟨⟨h8, tk8, rfl⟩, kb8, hres⟩ := hf
  have Fc := fr_kb F2 kb hnh
  have F8 : Fr g' L' h8 _ := ⟨Fc.ns.keeps kb8, fun b o e => kb8 _ _ (Fc.keep b o e), Fc.above⟩
  have hSn := fr_new F7 (Nat.le_refl h7.objs.size)
  have htab : h8.get? 613 = some (tabObj ps') := kb8 _ _ h613
  have hps8 : TabOk h8 ps' := hps'.keep fun b o _ e => kb8 b o e
  dsimp only at hs' ⊢
  generalize h7.objs.size = S9 at hs' hSn ⊢
  rcases hres with ⟨rfl, hno⟩ | ⟨x, c, rfl, hlow, t, t2, tkc, rfl, htn, hto⟩
  · have N8 : News g' L' h8 [(S9, lst #[] c'), (613, tabObj ps')] := by
      intro q hq
      simp only [List.mem_cons, List.not_mem_nil, or_false] at hq
      rcases hq with rfl | rfl
      · exact ⟨hs', hSn.2, hSn.1⟩
      · exact ⟨htab, (hnh 613 (.head _)).symm⟩
    refine store_tab F8 N8 hps8 (fun h9 F9 N9 hps9 => ?_)
    have kbf9 : KeepsBut [613] s.heap h9 := by
      refine ⟨fun b o hb e => F9.keep _ _ ?_, ?_⟩
      · rw [hg']; exact hideAll_get _ e (by simpa using hb)
      · have z1 := (keeps_of F9).size
        rw [hg', hideAll_size] at z1
        exact z1
    have htab9 : h9.get? 613 = some (tabObj ps') := (N9 (613, tabObj ps') (by simp)).1
    k_steps
    dsimp only
    k_unfold
    exact ret _ _ _ ps' kbf9 htab9 hps9 (.inl ⟨hno, rfl⟩)
  · have htL : t ≠ L' := by
      rintro rfl
      obtain ⟨oL, es, ep, hoL, hdL, _⟩ := F8.ns
      have hto' : h8.get? t = some _ := hto
      rw [hto'] at hoL
      cases hoL
      cases hdL
    have htg : g'.get? t = none := by
      cases e : g'.get? t with
      | none => rfl
      | some o => rw [Fc.keep _ _ e] at htn; cases htn
    have N8 : News g' L' h8 [(S9, lst #[.ref t] c'), (t, { cls := .type "tuple", data := .seq #[.ref t2, .int c tkc] }), (613, tabObj ps')] := by
      intro q hq
      simp only [List.mem_cons, List.not_mem_nil, or_false] at hq
      rcases hq with rfl | rfl | rfl
      · exact ⟨hs', hSn.2, hSn.1⟩
      · exact ⟨hto, htL, htg⟩
      · exact ⟨htab, (hnh 613 (.head _)).symm⟩
    refine store_tab F8 N8 hps8 (fun h9 F9 N9 hps9 => ?_)
    have kbf9 : KeepsBut [613] s.heap h9 := by
      refine ⟨fun b o hb e => F9.keep _ _ ?_, ?_⟩
      · rw [hg']; exact hideAll_get _ e (by simpa using hb)
      · have z1 := (keeps_of F9).size
        rw [hg', hideAll_size] at z1
        exact z1
    have htab9 : h9.get? 613 = some (tabObj ps') := (N9 (613, tabObj ps') (by simp)).1
    k_steps
    dsimp only
    k_unfold
    exact ret _ _ _ ps' kbf9 htab9 hps9 (.inr ⟨c, tkc, rfl, hlow⟩)
theorem lca_ok7 {w : World} {p : Program} {loose : List Str} {mean : ExcName → Option Value} {mg mb : Str → Option Value} {dp un : Nat} {gd : Option (List Code)} {cn : Str} {cs : Scope} {a : Addr} {ccd : Value} {cl : List (Str × Addr)} {outer : List Env} {A₀ : Around} {base h₀ : Heap} {L : Addr} {m : Str → Option Value} {s : Shared} {Q E : Value → Shared → Prop} {g : Addr} {u v : Int} {tu tv t7 : Tok} {ns : List Int} {sb pb : Int → List Int} {ps : Array Value}
    (B : Below A₀ base outer h₀) (F : Fr h₀ L s.heap m) (X : (hd.heap_39 w.params).In h₀) (T : Top p loose mean mg mb h₀) (hk : cs.kind = .function) (S : Sys h₀) (N₀ : News h₀ L s.heap [(613, tabObj ps)]) (hps : TabOk s.heap ps) (hG : DiG PySem.Challenge.rw_fq0029_01.row.prog w s.heap g ns sb pb) (hcs : Closed ns sb) (hcp : Closed ns pb) (hnl0 : ns.length ≤ 12) (hac : Acyc ns sb) (hu : u ∈ ns) (hv : v ∈ ns)
    (hdp : dp + 20 < recursionLimit) (hun : un + 200 < cLine)
    (ret : ∀ r h' tk' ps', KeepsBut [613] s.heap h' → h'.get? 613 = some (tabObj ps') → TabOk h' ps' → Answer sb pb u v (.int 7 t7) r → Q r { s with heap := h', toks := tk', gens := s.gens.push .finished }) :
    wpAny (model PySem.Challenge.rw_fq0029_01.row.prog w) (ktrTop dp un gd cn cs L a ccd cl outer) (call (.ref 624) [.ref g, .int u tu, .int v tv, .int 7 t7]) Q E s := by
  revert X
  k_fill
  intro X
  refine wpAny_call ?_
  refine' enterH (binds := [(("G" : Str), (.ref g : Value)), (("node1" : Str), (.int u tu : Value)), (("node2" : Str), (.int v tv : Value)), (("default" : Str), (.int 7 t7 : Value))]) [(613, tabObj ps)] ?k1 ?k2 ?k2n ?k3 ?k5 ?kA ?kF ?kK ?k6 ?k7 ?k8 ?k9 ?kB ?_ ?c2 ?c3 ?c4 ?c5
  case kA => exact rfl
  case kF => exact rfl
  case kK => assumption
  case k1 => exact B
  case k2 => exact F
  case k2n => exact N₀
  case k3 => exact X
  case k5 => exact T
  case k6 => k_is
  case k7 => k_is
  case k8 => ktr_room
  case k9 => first | exact BindsTo.of_eq rfl | exact kp_binds (X.keeps F.keep) (fun _ => rfl)
  case c5 => decide
  case kB => exact locs rfl
  case c2 => exact rfl
  case c3 => exact rfl
  case c4 => exact rfl
  intro g' L' h' hg' F' N' lH' B' X' T' st'
  try dsimp only
  k_fold
  have S' : Sys g' := S.keep st'
  replace F' : Fr g' L' h' (lk [(("default" : Str), some (.int 7 t7 : Value)), (("node2" : Str), some (.int v tv : Value)), (("node1" : Str), some (.int u tu : Value)), (("G" : Str), some (.ref g : Value))]) := (lk_of _ ▸ F' :)
  try k_lt lH'
  have hkk : KeepsK s.heap g' := by
    subst hg'
    exact keepsK_hide fun p hp => by rw [List.mem_singleton.mp hp]; exact ⟨(N₀ _ (.head _)).1, rfl⟩
  have hG' := hG.keepK hkk
  have hnh : ∀ b ∈ [613], g'.get? b = none ∧ b ≠ L' := fun b hb => by rw [List.mem_singleton.mp hb]; exact ⟨(N' _ (.head _)).2.2, (N' _ (.head _)).2.1⟩
  k_steps
  rename Fr _ _ _ _ => F2
  rename News _ _ _ _ => N2
  show wpAny _ (ktrTop _ _ _ _ _ _ _ _ _ _) (call (.ref 616) [.ref g] [("pairs", .ref _)]) _ _ _
  have hps2 := hps.keep fun b o hb e => F2.keep b o (by rw [hg']; exact hideAll_get _ e (by simpa using hb))
  refine pairs_ok (A₀ := _) B' F2 X' T' rfl (S.keep st') (news_sub N2 (by intro q hq; simp only [List.mem_cons, List.not_mem_nil, or_false] at hq ⊢; rcases hq with rfl; simp)) hps2 (hG'.keep F2.keep) hcs hcp hnl0 hac hu hv (isList_news N2 (by k_mem)) ⟨_, (N2 _ (.tail _ (.head _))).1, rfl, _, rfl⟩ (by walk_at "ROOM") (by walk_at "UNITS") fun ga hc h7 tk7 ps' code kb h613 hps' hlim hk7 hgen hrun => ?_
  have F7 := fr_onto (fr_kb F2 kb hnh) hk7
  have N7 : News g' L' h7 [(613, tabObj ps')] := fun q hq => by rw [List.mem_singleton.mp hq]; exact ⟨hk7.keep _ _ h613, (hnh 613 (.head _)).symm⟩
  k_steps
  refine list_one (Fin := ListFin hc sb pb u v s.gens _) hgen (fun h₁ hlt hk1 => pull_gen hrun (by walk_at "ROOM") (by walk_at "UNITS") rfl hgen hk1 (Nat.le_refl _) hlim hk7.keep) fun s' acc' c' hs' hf => ?_
  obtain ⟨⟨h8, tk8, rfl⟩, kb8, hres⟩ := hf
  have Fc := fr_kb F2 kb hnh
  have F8 : Fr g' L' h8 _ := ⟨Fc.ns.keeps kb8, fun b o e => kb8 _ _ (Fc.keep b o e), Fc.above⟩
  have hSn := fr_new F7 (Nat.le_refl h7.objs.size)
  have htab : h8.get? 613 = some (tabObj ps') := kb8 _ _ h613
  have hps8 : TabOk h8 ps' := hps'.keep fun b o _ e => kb8 b o e
  dsimp only at hs' ⊢
  generalize h7.objs.size = S9 at hs' hSn ⊢
  rcases hres with ⟨rfl, hno⟩ | ⟨x, c, rfl, hlow, t, t2, tkc, rfl, htn, hto⟩
  · have N8 : News g' L' h8 [(S9, lst #[] c'), (613, tabObj ps')] := by
      intro q hq
      simp only [List.mem_cons, List.not_mem_nil, or_false] at hq
      rcases hq with rfl | rfl
      · exact ⟨hs', hSn.2, hSn.1⟩
      · exact ⟨htab, (hnh 613 (.head _)).symm⟩
    refine store_tab F8 N8 hps8 (fun h9 F9 N9 hps9 => ?_)
    have kbf9 : KeepsBut [613] s.heap h9 := by
      refine ⟨fun b o hb e => F9.keep _ _ ?_, ?_⟩
      · rw [hg']; exact hideAll_get _ e (by simpa using hb)
      · have z1 := (keeps_of F9).size
        rw [hg', hideAll_size] at z1
        exact z1
    have htab9 : h9.get? 613 = some (tabObj ps') := (N9 (613, tabObj ps') (by simp)).1
    k_steps
    dsimp only
    k_unfold
    exact ret _ _ _ ps' kbf9 htab9 hps9 (.inl ⟨hno, rfl⟩)
  · have htL : t ≠ L' := by
      rintro rfl
      obtain ⟨oL, es, ep, hoL, hdL, _⟩ := F8.ns
      have hto' : h8.get? t = some _ := hto
      rw [hto'] at hoL
      cases hoL
      cases hdL
    have htg : g'.get? t = none := by
      cases e : g'.get? t with
      | none => rfl
      | some o => rw [Fc.keep _ _ e] at htn; cases htn
    have N8 : News g' L' h8 [(S9, lst #[.ref t] c'), (t, { cls := .type "tuple", data := .seq #[.ref t2, .int c tkc] }), (613, tabObj ps')] := by
      intro q hq
      simp only [List.mem_cons, List.not_mem_nil, or_false] at hq
      rcases hq with rfl | rfl | rfl
      · exact ⟨hs', hSn.2, hSn.1⟩
      · exact ⟨hto, htL, htg⟩
      · exact ⟨htab, (hnh 613 (.head _)).symm⟩
    refine store_tab F8 N8 hps8 (fun h9 F9 N9 hps9 => ?_)
    have kbf9 : KeepsBut [613] s.heap h9 := by
      refine ⟨fun b o hb e => F9.keep _ _ ?_, ?_⟩
      · rw [hg']; exact hideAll_get _ e (by simpa using hb)
      · have z1 := (keeps_of F9).size
        rw [hg', hideAll_size] at z1
        exact z1
    have htab9 : h9.get? 613 = some (tabObj ps') := (N9 (613, tabObj ps') (by simp)).1
    k_steps
    dsimp only
    k_unfold
    exact ret _ _ _ ps' kbf9 htab9 hps9 (.inr ⟨c, tkc, rfl, hlow⟩)
theorem news_one {g' h₀ h h₁ : Heap} {L L' ls : Addr} {o o₀ : Obj} {r : List (Addr × Obj)} (N : News g' L' h ((ls, o) :: r)) (N₀ : News h₀ L h₁ [(ls, o₀)]) : News h₀ L h [(ls, o)] := fun q hq => by
  rw [List.mem_singleton.mp hq]
  exact ⟨(N _ (.head _)).1, (N₀ _ (.head _)).2⟩
theorem next_spec {w : World} {p : Program} {loose : List Str} {mean : ExcName → Option Value} {mg mb : Str → Option Value} {dp un : Nat} {gd : Option (List Code)} {cn : Str} {cs : Scope} {a : Addr} {ccd : Value} {cl : List (Str × Addr)} {outer : List Env} {A₀ : Around} {base h₀ : Heap} {L : Addr} {m : Str → Option Value} {s : Shared} {Q E : Value → Shared → Prop} {ls : Addr} {x many : Int} {t tm : Tok} {n : Nat}
    (B : Below A₀ base outer h₀) (F : Fr h₀ L s.heap m) (X : (hd.heap_39 w.params).In h₀) (T : Top p loose mean mg mb h₀) (hk : cs.kind = .function) (S : Sys h₀) (N₀ : News h₀ L s.heap [(ls, W.listOf #[Value.int x t] n)]) (hx0 : 0 ≤ x) (hx1 : x < 2147483647) (hm0 : 0 < many) (hm1 : many ≤ 1000)
    (hdp : dp + 20 < recursionLimit) (hun : un + 200 < cLine)
    (ret : ∀ x' t' n' r tr h' tk', 0 ≤ x' → x' < 2147483647 → 0 ≤ r → r < many → KeepsBut [ls] s.heap h' → News h₀ L h' [(ls, W.listOf #[Value.int x' t'] n')] → Q (.int r tr) { s with heap := h', toks := tk' }) :
    wpAny (model PySem.Challenge.rw_fq0029_01.row.prog w) (ktrTop dp un gd cn cs L a ccd cl outer) (call (.ref 854) [.ref ls, .int many tm]) Q E s := by
  revert X
  k_fill
  intro X
  refine wpAny_call ?_
  refine' enterH (binds := [(("s" : Str), (.ref ls : Value)), (("many" : Str), (.int many tm : Value))]) [(ls, W.listOf #[Value.int x t] n)] ?k1 ?k2 ?k2n ?k3 ?k5 ?kA ?kF ?kK ?k6 ?k7 ?k8 ?k9 ?kB ?_ ?c2 ?c3 ?c4 ?c5
  case kA => exact rfl
  case kF => exact rfl
  case kK => assumption
  case k1 => exact B
  case k2 => exact F
  case k2n => exact N₀
  case k3 => exact X
  case k5 => exact T
  case k6 => k_is
  case k7 => k_is
  case k8 => ktr_room
  case k9 => first | exact BindsTo.of_eq rfl | exact kp_binds (X.keeps F.keep) (fun _ => rfl)
  case c5 => decide
  case kB => exact locs rfl
  case c2 => exact rfl
  case c3 => exact rfl
  case c4 => exact rfl
  intro g' L' h' hg' F' N' lH' B' X' T' st'
  try dsimp only
  k_fold
  have S' : Sys g' := S.keep st'
  replace F' : Fr g' L' h' (lk [(("many" : Str), some (.int many tm : Value)), (("s" : Str), some (.ref ls : Value))]) := (lk_of _ ▸ F' :)
  try k_lt lH'
  k_steps
  rename Fr _ _ _ _ => F9
  rename News _ _ _ _ => N9
  dsimp only
  k_unfold
  have kb : KeepsBut [ls] s.heap _ := keepsBut_of (l := [ls]) (hg' ▸ F9)
  have N' := news_one N9 N₀
  dsimp only
  refine' ret _ _ _ _ _ _ _ ?a ?b ?c ?d kb N'
  case a => exact Int.fmod_nonneg_of_pos _ (by decide)
  case b => exact Int.fmod_lt_of_pos _ (by decide)
  case c => exact Int.fmod_nonneg_of_pos _ hm0
  case d => exact Int.fmod_lt_of_pos _ hm0
section
/-- the way from the root down to a node -/
inductive Way (ab : Int → Int) : Int → List Int → Prop
  | root : Way ab 0 [0]
  | step {k : Int} {l : List Int} : 0 < k → Way ab (ab k) l → Way ab k (l ++ [k])
theorem newList_sz {M : Model} {A : Around} {E : Value → Shared → Prop} {s : Shared} {h₀ : Heap} {L : Addr} {m : Str → Option Value} {news : List (Addr × Obj)} {vs : List Value} {Q : Value → Shared → Prop} (F : Fr h₀ L s.heap m) (N : News h₀ L s.heap news)
    (h : ∀ l h', Fr h₀ L h' m → News h₀ L h' ((l, listOf vs.toArray 0) :: news) → (∀ p ∈ news, p.1 < l) → L < l → Q (.ref l) { s with heap := h' }) (hsz : vs.length ≤ sizeLine := by size_fits) : wpAny M A (newList vs) Q E s :=
  newList_N F N (fun h' F' N' => h _ h' F' N' (fun p hp => Heap.lt_size (N p hp).1) F.ns.lt) hsz
local macro_rules | `(tactic| walk_at "newList") => `(tactic| (k_here; k_dflt (refine' newList_sz ?k1 ?k2 ?_; (case k1 => k_asm); (case k2 => k_asm); k_whole); intro l' h' F' N' l1 hLl; (try k_lt l1); (try k_sweep)))
local macro_rules | `(tactic| walk_at "subscriptTail") => `(tactic| (k_here; (with_reducible show wpAny _ _ (subscriptTail _ _ (Value.ref _) (Value.int _ _)) _ _ _); k_dflt (refine' item_list ?hl ?h0 ?hfit ?hx ?_ ?hs ?hg; (case hl => walk_at "LIST"); (case hx => assumption); (case h0 => first | assumption | omega); (case hfit => first | assumption | omega); (case hs => with_unfolding_all rfl); (case hg => intro _; with_unfolding_all rfl))))
theorem way_spec {w : World} {p : Program} {loose : List Str} {mean : ExcName → Option Value} {mg mb : Str → Option Value} {dp un : Nat} {gd : Option (List Code)} {cn : Str} {cs : Scope} {a : Addr} {ccd : Value} {cl : List (Str × Addr)} {outer : List Env} {A₀ : Around} {base h₀ : Heap} {L : Addr} {m : Str → Option Value} {s : Shared} {Q E : Value → Shared → Prop} {la : Addr} {v many : Int} {t : Tok} {avs : Array Value} {ab : Int → Int}
    (B : Below A₀ base outer h₀) (F : Fr h₀ L s.heap m) (X : (hd.heap_39 w.params).In h₀) (T : Top p loose mean mg mb h₀) (hk : cs.kind = .function) (S : Sys h₀) (hl : s.heap.IsList la avs) (hv0 : 0 ≤ v) (hv1 : v < many) (hm : many ≤ 100) (hroot : avs[0]? = some .none) (hab : ∀ k, 0 < k → k < many → 0 ≤ ab k ∧ ab k < k ∧ ∃ t, avs[k.toNat]? = some (.int (ab k) t))
    (hdp : dp + 20 < recursionLimit) (hun : un + 200 < cLine)
    (ret : ∀ D vs l n h' tk', Keeps s.heap h' → s.heap.objs.size ≤ D → h'.get? D = some (W.listOf vs.toArray n) → IntsAre vs l → Way ab v l → Q (.ref D) { s with heap := h', toks := tk' }) :
    wpAny (model PySem.Challenge.rw_fq0029_01.row.prog w) (ktrTop dp un gd cn cs L a ccd cl outer) (call (.ref 861) [.ref la, .int v t]) Q E s := by
  revert X
  k_fill
  intro X
  refine wpAny_call ?_
  refine' enterW (binds := [(("above" : Str), (.ref la : Value)), (("v" : Str), (.int v t : Value))]) ?k1 ?k2 ?k3 ?k5 ?kA ?kF ?kK ?k6 ?k7 ?k8 ?k9 ?kB ?_ ?c2 ?c3 ?c4 ?c5
  case kA => exact rfl
  case kF => exact rfl
  case kK => assumption
  case k1 => exact B
  case k2 => exact F
  case k3 => exact X
  case k5 => exact T
  case k6 => k_is
  case k7 => k_is
  case k8 => ktr_room
  case k9 => exact BindsTo.of_eq rfl
  case c5 => decide
  case kB => exact locs rfl
  case c2 => exact rfl
  case c3 => exact rfl
  case c4 => exact rfl
  intro L' h' F' N' B' X' T'
  try dsimp only
  k_fold
  have S' : Sys s.heap := S.keep F.keep
  replace F' : Fr s.heap L' h' (lk [(("v" : Str), some (.int v t : Value)), (("above" : Str), some (.ref la : Value))]) := (lk_of _ ▸ F' :)
  have hL' := F'.above
  iterate 9 (all_goals (try (first | (k_unfold; (try dsimp only)) | walk1 | (dsimp only; walk1) | (leave1; try dsimp only))))
  rename Fr _ _ _ _ => F2
  rename News _ _ _ _ => N2
  refine wpAny_execs_cons (While_my v.toNat (fun j s' => ∃ (h : Heap) (tk : Nat) (D : Addr) (n : Nat) (vs : List Value) (cur : Int) (rest : List Int), s' = { s with heap := h, toks := tk } ∧ Fr s.heap L' h (lk [("way", some (.ref D)), ("v", some (.int v t)), ("above", some (.ref la))]) ∧
    News s.heap L' h [(D, W.listOf vs.toArray n)] ∧ IntsAre vs (cur :: rest) ∧ 0 ≤ cur ∧ cur < many ∧ (∀ l, Way ab cur (l ++ [cur]) → Way ab v (l ++ cur :: rest)) ∧ j = cur.toNat ∧ rest.length + cur.toNat ≤ 100 ∧ L' < D) ?_ ?_)
  · exact ⟨_, _, _, _, [_], v, [], rfl, F2, N2, .cons _ _ .nil, hv0, hv1, fun _ h => h, rfl, by simp; omega, by assumption⟩
  · rintro j s' ⟨h3, tk3, D3, n3, vs3, cur, rest, rfl, F3, N3, hvs, hc0, hc1, hway, rfl, hlen, hDL⟩
    have hvl := hvs.length
    rw [List.length_cons] at hvl
    have hlc : (cur :: rest).length ≠ 0 := by simp
    have hcf : cur < 2 ^ 63 := by omega
    by_cases hz : cur = 0
    · subst hz
      have hx : avs[((0 : Int)).toNat]? = some .none := hroot
      k_steps
      dsimp only
      k_unfold
      rename Fr _ _ _ _ => F9
      rename News _ _ _ _ => N9
      exact ret _ _ _ _ _ _ (keeps_of F9) (Nat.le_of_lt (Nat.lt_of_le_of_lt hL' hDL)) (N9 _ (.head _)).1 hvs (hway [] .root)
    · obtain ⟨ha0, ha1, ta, hx⟩ := hab cur (by omega) hc1
      k_steps
      dsimp only
      unfold Stop
      rename Fr _ _ _ _ => F9
      rename News _ _ _ _ => N9
      rename IntsAre _ _ => hI9
      rename _ < _ ∧ _ < _ => ll
      refine ⟨(ab cur).toNat, by omega, _, _, _, _, _, ab cur, cur :: rest, rfl, fr_eq F9 (by walk_at "SAME"), news_sub N9 (fun q hq => by rw [List.mem_singleton.mp hq]; exact .head _), hI9, ha0, by omega, fun l hl9 => ?_, rfl, by rw [List.length_cons]; omega, Nat.lt_trans hDL ll.2⟩
      have := hway (l ++ [ab cur]) (Way.step (by omega) hl9)
      rw [List.append_assoc] at this
      exact this
end
local macro_rules | `(tactic| walk_at "newList") => `(tactic| (k_here; k_dflt (refine' newList_sz ?k1 ?k2 ?_; (case k1 => k_asm); (case k2 => k_asm); k_whole); intro l' h' F' N' l1 hLl; (try k_lt l1); (try k_sweep)))
local macro_rules | `(tactic| walk_at "subscriptTail") => `(tactic| (k_here; (with_reducible show wpAny _ _ (subscriptTail _ _ (Value.ref _) (Value.int _ _)) _ _ _); k_dflt (refine' item_list ?hl ?h0 ?hfit ?hx ?_ ?hs ?hg; (case hl => walk_at "LIST"); (case hx => assumption); (case h0 => first | assumption | omega); (case hfit => first | assumption | omega); (case hs => with_unfolding_all rfl); (case hg => intro _; with_unfolding_all rfl))))
section
local macro_rules | `(tactic| walk_at "nothing") => `(tactic| fail "nothing")
local macro_rules | `(tactic| walk_at "binaryOp Mod int int") => `(tactic| (k_here; (with_reducible show wpAny _ _ (binaryOp Operator.Mod (Value.int _ _) (Value.int 99991 _)) _ _ _); refine mod_int' (by decide) ?_; (generalize hy' : Int.fmod _ 99991 = y'); (have hy0' : 0 ≤ y' := hy' ▸ Int.fmod_nonneg_of_pos _ (by decide)); (have hy1' : y' < 99991 := hy' ▸ Int.fmod_lt_of_pos _ (by decide)); clear hy'; (try dsimp only)))
local macro_rules | `(tactic| walk_at "binaryOp Mod int int") => `(tactic| (k_here; (with_reducible show wpAny _ _ (binaryOp Operator.Mod (Value.int _ _) (Value.int 2147483647 _)) _ _ _); refine mod_int' (by decide) ?_; (try dsimp only)))
theorem seed_spec {w : World} {p : Program} {loose : List Str} {mean : ExcName → Option Value} {mg mb : Str → Option Value} {dp un : Nat} {gd : Option (List Code)} {cn : Str} {cs : Scope} {a : Addr} {ccd : Value} {cl : List (Str × Addr)} {outer : List Env} {A₀ : Around} {base h₀ : Heap} {L : Addr} {m : Str → Option Value} {s : Shared} {Q E : Value → Shared → Prop} {sc : Addr} {vs : List Value} {cells : List Int}
    (B : Below A₀ base outer h₀) (F : Fr h₀ L s.heap m) (X : (hd.heap_39 w.params).In h₀) (T : Top p loose mean mg mb h₀) (hk : cs.kind = .function) (S : Sys h₀) (hl : s.heap.IsList sc vs.toArray) (hi : IntsAre vs cells) (hlen : cells.length ≤ 63)
    (hdp : dp + 20 < recursionLimit) (hun : un + 200 < cLine)
    (ret : ∀ D x t n h' tk', Keeps s.heap h' → s.heap.objs.size ≤ D → h'.get? D = some (W.listOf #[Value.int x t] n) → 0 ≤ x → x < 2147483647 → Q (.ref D) { s with heap := h', toks := tk' }) :
    wpAny (model PySem.Challenge.rw_fq0029_01.row.prog w) (ktrTop dp un gd cn cs L a ccd cl outer) (call (.ref 847) [.ref sc]) Q E s := by
  revert X
  k_fill
  intro X
  refine wpAny_call ?_
  refine' enterW (binds := [(("script" : Str), (.ref sc : Value))]) ?k1 ?k2 ?k3 ?k5 ?kA ?kF ?kK ?k6 ?k7 ?k8 ?k9 ?kB ?_ ?c2 ?c3 ?c4 ?c5
  case kA => exact rfl
  case kF => exact rfl
  case kK => assumption
  case k1 => exact B
  case k2 => exact F
  case k3 => exact X
  case k5 => exact T
  case k6 => k_is
  case k7 => k_is
  case k8 => ktr_room
  case k9 => exact BindsTo.of_eq rfl
  case c5 => decide
  case kB => exact locs rfl
  case c2 => exact rfl
  case c3 => exact rfl
  case c4 => exact rfl
  intro L' h' F' N' B' X' T'
  try dsimp only
  k_fold
  have S' : Sys s.heap := S.keep F.keep
  replace F' : Fr s.heap L' h' (lk [(("script" : Str), some (.ref sc : Value))]) := (lk_of _ ▸ F' :)
  have hL' := F'.above
  have hvl := hi.length
  k_steps
  rename Fr _ _ _ _ => F2
  rename News _ _ _ _ => N2
  rename IntsAre _ (List.take _ _) => hI2
  rename List Value => ws
  refine forGrow (bound := 100) F2 N2 rfl (by rfl) (by rfl)
    (fun i its m₁ n₁ => its = ws ∧ ∃ x tx u1, m₁ = lk [("cell", u1), ("seed", some (.int x tx)), ("script", some (.ref sc))] ∧ n₁ = [] ∧ 0 ≤ x ∧ x < 2147483647)
    ⟨rfl, 17, _, none, by walk_at "SAME", rfl, by decide, by decide⟩ (fun p hp => nomatch hp) ?_ ?_ ?_
  · rintro i its m₁ n₁ ⟨rfl, -⟩
    rw [hI2.length, List.length_take]
    omega
  · rintro I i v its n' m₁ n₁ h tk io hlt1 hqI hadr hv ⟨rfl, x, tx, u1, rfl, rfl, hx0, hx1⟩ F3 N3
    have hltI : i < its.length := by
      rcases Nat.lt_or_ge i its.length with h | h
      · exact h
      · rw [List.getElem?_eq_none h] at hv; cases hv
    obtain ⟨c, tc, rfl⟩ : ∃ c tc, v = .int c tc := by
      have hlt : i < its.length := by
        rcases Nat.lt_or_ge i its.length with h | h
        · exact h
        · rw [List.getElem?_eq_none h] at hv; cases hv
      have hlt2 : i < (List.take 24 cells).length := by rw [← hI2.length]; exact hlt
      obtain ⟨tn, hvn⟩ := hI2.get i _ (List.getElem?_eq_getElem hlt2)
      rw [hvn] at hv
      cases hv
      exact ⟨_, _, rfl⟩
    rw [lk_set] at F3
    k_steps
    rename Fr _ _ _ _ => F9
    rename News _ _ _ _ => N9
    exact TurnEnd.next F9 N9 ⟨_, _, [], rfl, rfl, hltI, rfl, _, _, _, by walk_at "SAME", rfl, Int.fmod_nonneg_of_pos _ (by decide), Int.fmod_lt_of_pos _ (by decide)⟩
  · rintro its n' m₁ n₁ h tk hadr ⟨rfl, x, tx, u1, rfl, rfl, hx0, hx1⟩ F3 N3
    dsimp only
    k_steps
    (try dsimp only)
    (try k_unfold)
    rename Fr _ _ _ _ => F9
    rename News _ _ _ _ => N9
    exact ret _ _ _ _ _ _ (keeps_of F9) (Nat.le_of_lt (Nat.lt_of_le_of_lt hL' (by assumption))) (N9 _ (.head _)).1 hx0 hx1
end
section
local macro_rules | `(tactic| walk_at "nothing") => `(tactic| fail "nothing")
local macro_rules | `(tactic| walk_at "nothing") => `(tactic| fail "nothing")
local macro_rules | `(tactic| walk_at "nothing") => `(tactic| fail "nothing")
local macro_rules | `(tactic| walk_at "nothing") => `(tactic| fail "nothing")
theorem pop_e {prog : Program} {w : World} {A : Around} {E : Value → Shared → Prop} {s : Shared} {h₀ : Heap} {L d : Addr} {o : Obj} {news : List (Addr × Obj)} {k : Str} {t : Tok} {dflt : Value} {Q : Value → Shared → Prop} (N : News h₀ L s.heap news) (hm : (d, o) ∈ news) (hd : o.IsDictOf (PySem.strKind prog w) []) (lo : (d == sysModules) = false)
    (h : Q dflt { s with toks := s.toks + 1 }) : wpAny (model prog w) A (call (.builtin "dict.pop") [.ref d, .str k t, dflt]) Q E s := by
  have hD : s.heap.DictOf (PySem.strKind prog w) d [] := Heap.dictOf_iff.mpr ⟨o, (N _ hm).1, hd⟩
  exact call_meetsIn PySem.F.slot_dict_pop hD.typeIs PySem.F.entry_dict_pop (PySem.F.args_dict_pop_3 _ _ _) (meets_dict_pop_default (PySem.strKind prog w) d (strKind_is prog w k t) lo (by rfl) dflt) ⟨[], hD, rfl, h⟩
local macro_rules | `(tactic| walk_at "call builtin:dict.pop") => `(tactic| (k_here; (with_reducible show wpAny _ _ (call (Value.builtin "dict.pop") [Value.ref _, Value.str _ _, Value.none]) _ _ _); k_dflt (refine' pop_e ?N ?m ?d ?lo ?_; (case N => k_asm); (case m => k_mem); (case d => assumption); (case lo => assumption))))
theorem under_new {dp un : Nat} {gd : Option (List Code)} {cn : Str} {cs : Scope} {L a C : Addr} {ccd : Value} {cl : List (Str × Addr)} {outer : List Env} : (ktrTop dp un gd cn cs L a ccd cl outer).under (.builtin "type.__call__" ⟨[.ref C], []⟩) = ktrTop (dp + 1) (un + 1) gd cn cs L a ccd cl outer := by
  cases gd <;> rfl
theorem gr_empty {prog : Program} {w : World} {H : List (Addr × Obj)} {g dx nd ad pd : Addr} {on oa op : Obj} {k1 k2 k3 k4 k5 : Int} {t1 t2 t3 t4 t5 : Tok} {v1 : Value} (hg : (g, instObj 831 dx) ∈ H)
    (hdx : (dx, dictOf [⟨k1, .str "graph" t1, v1⟩, ⟨k2, .str "_node" t2, .ref nd⟩, ⟨k3, .str "_adj" t3, .ref ad⟩, ⟨k4, .str "_succ" t4, .ref ad⟩, ⟨k5, .str "_pred" t5, .ref pd⟩] 5) ∈ H)
    (hn : (nd, on) ∈ H) (ha : (ad, oa) ∈ H) (hp : (pd, op) ∈ H) (in_ : on.IsDictOf (PySem.intKind prog w) []) (ia : oa.IsDictOf (PySem.intKind prog w) []) (ip : op.IsDictOf (PySem.intKind prog w) []) (l1 : (nd == sysModules) = false) (l2 : (ad == sysModules) = false) (l3 : (pd == sysModules) = false) (tops : [nd, ad, pd].Nodup) (ng : [g, nd, ad, pd].Nodup) (nx : [dx, nd, ad, pd].Nodup) :
    Gr prog w H g [] (fun _ => []) (fun _ => []) := by
  have m1 : nd ≠ ad := fun e => by subst e; simp at tops
  have m2 : nd ≠ pd := fun e => by subst e; simp at tops
  have m3 : ad ≠ pd := fun e => by subst e; simp at tops
  have ng' := (List.nodup_cons.mp ng).1
  have nx' := (List.nodup_cons.mp nx).1
  simp only [List.mem_cons, List.not_mem_nil, or_false, not_or] at ng' nx'
  refine ⟨upd (upd (upd (fun _ => none) nd []) ad []) pd [], nd, ad, pd, fun _ => 0, fun _ => 0, dx, k1, k2, k3, k4, k5, t1, t2, t3, t4, t5, v1, ?_, hg, hdx, ?_, ?_, fun a l e => ?_⟩
  · exact ⟨⟨[], by rw [upd_other m2, upd_other m1, upd_same], rfl⟩, ⟨[], by rw [upd_other m3, upd_same], rfl, fun n hn => (List.not_mem_nil hn).elim⟩, ⟨[], upd_same, rfl, fun n hn => (List.not_mem_nil hn).elim⟩, fun n hn => (List.not_mem_nil hn).elim, fun n hn => (List.not_mem_nil hn).elim, tops, fun n hn => (List.not_mem_nil hn).elim, fun n hn => (List.not_mem_nil hn).elim, fun n hn => (List.not_mem_nil hn).elim, fun n hn => (List.not_mem_nil hn).elim, fun n hn => (List.not_mem_nil hn).elim, by rw [upd_other (Ne.symm (beq_eq_false_iff_ne.mp l3)), upd_other (Ne.symm (beq_eq_false_iff_ne.mp l2)), upd_other (Ne.symm (beq_eq_false_iff_ne.mp l1))]⟩
  · rw [upd_other ng'.2.2, upd_other ng'.2.1, upd_other ng'.1]
  · rw [upd_other nx'.2.2, upd_other nx'.2.1, upd_other nx'.1]
  · rcases upd_cases e with ⟨rfl, rfl⟩ | ⟨q0, e⟩
    · exact ⟨_, hp, ip⟩
    rcases upd_cases e with ⟨rfl, rfl⟩ | ⟨q1, e⟩
    · exact ⟨_, ha, ia⟩
    rcases upd_cases e with ⟨rfl, rfl⟩ | ⟨q2, e⟩
    · exact ⟨_, hn, in_⟩
    · cases e
theorem news_lift {g' h₀ h : Heap} {L L' : Addr} {H : List (Addr × Obj)} (N : News g' L' h H) (st : h₀.StaysIn g') (hL : ∃ o, g'.get? L = some o) : News h₀ L h H := fun q hq => by
  refine ⟨(N q hq).1, fun e => ?_, ?_⟩
  · obtain ⟨o, ho⟩ := hL
    rw [← e, (N q hq).2.2] at ho
    cases ho
  · cases e : h₀.get? q.1 with
    | none => rfl
    | some o => have := (N q hq).2.2; rw [st _ _ e] at this; cases this
theorem geAll {g' h : Heap} {L' d : Addr} {H : List (Addr × Obj)} (_N : News g' L' h H) (h : ∀ q ∈ H, d ≤ q.1) : ∀ q ∈ H, d ≤ q.1 := h
theorem leN {a b : Nat} (h : a ≤ b) : a ≤ b := h
theorem news_app {h₀ h : Heap} {L : Addr} {H K : List (Addr × Obj)} (N : News h₀ L h H) (M : News h₀ L h K) : News h₀ L h (H ++ K) := fun q hq => (List.mem_append.mp hq).elim (N q) (M q)
theorem digraph_new {w : World} {p : Program} {loose : List Str} {mean : ExcName → Option Value} {mg mb : Str → Option Value} {dp un : Nat} {gd : Option (List Code)} {cn : Str} {cs : Scope} {a : Addr} {ccd : Value} {cl : List (Str × Addr)} {outer : List Env} {A₀ : Around} {base h₀ : Heap} {L : Addr} {m : Str → Option Value} {s : Shared} {Q E : Value → Shared → Prop} {news : List (Addr × Obj)}
    (B : Below A₀ base outer h₀) (F : Fr h₀ L s.heap m) (X : (hd.heap_39 w.params).In h₀) (T : Top p loose mean mg mb h₀) (hk : cs.kind = .function) (S : Sys h₀) (N : News h₀ L s.heap news) (hdp : dp + 20 < recursionLimit) (hun : un + 200 < cLine)
    (ret : ∀ x H h' tk', Fr h₀ L h' m → News h₀ L h' (H ++ news) → (∀ p ∈ H, ∀ q ∈ news, q.1 < p.1) → Gr PySem.Challenge.rw_fq0029_01.row.prog w H x [] (fun _ => []) (fun _ => []) → Q (.ref x) { s with heap := h', toks := tk' }) :
    wpAny (model PySem.Challenge.rw_fq0029_01.row.prog w) (ktrTop dp un gd cn cs L a ccd cl outer) (call (.ref 831) []) Q E s := by
  revert X
  k_fill
  intro X
  refine call_cls (fI := 639) F X N (by k_is) (by k_is) (by k_is) ?_
  intro x dx h1 F1 N1 l1 l2
  rw [under_new]
  have l2' := ltN l2
  have N₀ : News h₀ L h1 [(x, instObj 831 dx), (dx, dictOf [] 0)] := news_sub N1 (by intro q hq; simp only [List.mem_cons, List.not_mem_nil, or_false] at hq ⊢; rcases hq with rfl | rfl <;> simp)
  refine' enterM (s := { s with heap := h1 }) (nm := "attr") (front := [(("self" : Str), (Value.ref x)), (("incoming_graph_data" : Str), Value.none)]) [(x, instObj 831 dx), (dx, dictOf [] 0)] ?k1 ?k2 ?k2n ?k3 ?k5 ?kA ?kF ?kK ?k6 ?k7 ?k8 ?kP ?kT ?kB ?_ ?c2 ?c3 ?c4 ?c5
  case kA => exact rfl
  case kF => exact rfl
  case kK => assumption
  case k1 => exact B
  case k2 => exact F1
  case k2n => exact N₀
  case k3 => exact X
  case k5 => exact T
  case k6 => k_is
  case k7 => k_is
  case k8 => ktr_room
  case kP => exact rfl
  case kT => exact fun _ => rfl
  case c5 => decide
  case kB => exact fun _ => locs rfl
  case c2 => exact rfl
  case c3 => exact rfl
  case c4 => exact rfl
  intro D' od' g' L' h' tk' lD' sD' lo' kD' F' N' kb' kz' B' X' T' st'
  try dsimp only
  k_fold
  replace F' : Fr g' L' h' (lk [(("attr" : Str), some (Value.ref D')), (("incoming_graph_data" : Str), some Value.none), (("self" : Str), some (Value.ref x))]) := (lk_of _ ▸ F' :)
  have S' : Sys g' := S.keep st'
  k_lt lD'
  k_steps
  rename Fr _ _ _ _ => F9
  rename News _ _ _ _ => N9
  have hxL := (N1 (x, _) (.head _)).2
  have hdL := (N1 (dx, _) (.tail _ (.head _))).2
  have hnn : ∀ b, b ∈ List.map (fun x => x.fst) [(x, instObj 831 dx), (dx, dictOf [] 0)] → h₀.get? b = none ∧ b ≠ L := fun b hb => by
    simp only [List.map_cons, List.map_nil, List.mem_cons, List.not_mem_nil, or_false] at hb
    rcases hb with rfl | rfl
    · exact ⟨hxL.2, hxL.1⟩
    · exact ⟨hdL.2, hdL.1⟩
  have up : ∀ b o, b ∉ List.map (fun x => x.fst) [(x, instObj 831 dx), (dx, dictOf [] 0)] → h1.get? b = some o → _ := fun b o hb e => F9.keep b o (kb' b o hb e)
  have FC : Fr h₀ L _ m := ⟨F1.ns.at' fun o e => up L o (fun hm => (hnn L hm).2 rfl) e, fun b o e => up b o (fun hm => by rw [(hnn b hm).1] at e; cases e) (F1.keep b o e), F1.above⟩
  have hL1 : ∃ o, g'.get? L = some o := by
    obtain ⟨oL, _, _, hoL, _⟩ := F1.ns
    exact ⟨oL, kb' L oL (fun hm => (hnn L hm).2 rfl) hoL⟩
  have NH := news_lift N9 st' hL1
  have hge := geAll N9 (d := dx) (by
    intro q hq
    simp only [List.mem_cons, List.not_mem_nil, or_false] at hq
    rcases hq with rfl | rfl | rfl | rfl | rfl | rfl | rfl <;> (refine leN ?_; dsimp only; omega))
  refine ⟨rfl, ?_⟩
  refine ret x _ _ _ FC (news_app NH (fun q hq => ?_)) (fun q hq r hr => Nat.lt_of_lt_of_le (l1 r hr) (hge q hq)) (gr_empty (by k_mem) (by k_mem) (by k_mem) (by k_mem) (by k_mem) (by assumption) (by assumption) (by assumption) (by assumption) (by assumption) (by assumption) (by walk_at "NODUP") (by walk_at "NODUP") (by walk_at "NODUP"))
  have hq1 := N1 q (.tail _ (.tail _ hq))
  refine ⟨up q.1 q.2 (fun hm => ?_) hq1.1, hq1.2⟩
  have hlt := l1 q hq
  simp only [List.map_cons, List.map_nil, List.mem_cons, List.not_mem_nil, or_false] at hm
  rcases hm with e | e
  · exact absurd hlt (by rw [e]; exact Nat.not_lt.mpr (Nat.le_of_lt l2))
  · exact absurd hlt (by rw [e]; exact Nat.lt_irrefl _)
end
local macro_rules | `(tactic| walk_at "call builtin:dict.pop") => `(tactic| (k_here; (with_reducible show wpAny _ _ (call (Value.builtin "dict.pop") [Value.ref _, Value.str _ _, Value.none]) _ _ _); k_dflt (refine' pop_e ?N ?m ?d ?lo ?_; (case N => k_asm); (case m => k_mem); (case d => assumption); (case lo => assumption))))
/-- the dicts of an undirected graph -/
structure UC (c : Cont) (nd ad : Addr) (ns : List Int) (ra : Int → Addr) (nb : Int → List Int) : Prop where
  nds : ∃ l, c nd = some l ∧ l.map (·.1) = ns
  ads : ∃ l, c ad = some l ∧ l.map (·.1) = ns ∧ ∀ n ∈ ns, valueAt l n = some (.ref (ra n))
  rows : ∀ n ∈ ns, ∃ l, c (ra n) = some l ∧ l.map (·.1) = nb n
  tops : nd ≠ ad
  offA : ∀ n ∈ ns, ra n ≠ nd ∧ ra n ≠ ad
  injA : ∀ n ∈ ns, ∀ k ∈ ns, ra n = ra k → n = k
  lo1 : c sysModules = none
theorem UC.lo {c : Cont} {nd ad : Addr} {ns : List Int} {ra : Int → Addr} {nb : Int → List Int} (D : UC c nd ad ns ra nb) {a : Addr} {l : List (Int × Value)} (e : c a = some l) : (a == sysModules) = false :=
  beq_eq_false_iff_ne.mpr fun q => by rw [q, D.lo1] at e; cases e
/-- a list of objects that make up an undirected graph -/
def UGr (prog : Program) (w : World) (H : List (Addr × Obj)) (g nd ad : Addr) (ns : List Int) (nb : Int → List Int) : Prop :=
  ∃ (c : Cont) (ra : Int → Addr) (dx : Addr) (k1 k2 k3 : Int) (t1 t2 t3 : Tok) (v1 : Value), UC c nd ad ns ra nb ∧ (g, instObj 564 dx) ∈ H ∧
    (dx, dictOf [⟨k1, .str "graph" t1, v1⟩, ⟨k2, .str "_node" t2, .ref nd⟩, ⟨k3, .str "_adj" t3, .ref ad⟩] 3) ∈ H ∧
    c g = none ∧ c dx = none ∧ ∀ a l, c a = some l → ∃ o, (a, o) ∈ H ∧ o.IsDictOf (PySem.intKind prog w) l
theorem ugr_empty {prog : Program} {w : World} {H : List (Addr × Obj)} {g dx nd ad : Addr} {on oa : Obj} {k1 k2 k3 : Int} {t1 t2 t3 : Tok} {v1 : Value} (hg : (g, instObj 564 dx) ∈ H)
    (hdx : (dx, dictOf [⟨k1, .str "graph" t1, v1⟩, ⟨k2, .str "_node" t2, .ref nd⟩, ⟨k3, .str "_adj" t3, .ref ad⟩] 3) ∈ H)
    (hn : (nd, on) ∈ H) (ha : (ad, oa) ∈ H) (in_ : on.IsDictOf (PySem.intKind prog w) []) (ia : oa.IsDictOf (PySem.intKind prog w) []) (l1 : (nd == sysModules) = false) (l2 : (ad == sysModules) = false) (tops : [nd, ad].Nodup) (ng : [g, nd, ad].Nodup) (nx : [dx, nd, ad].Nodup) :
    UGr prog w H g nd ad [] (fun _ => []) := by
  have m1 : nd ≠ ad := fun e => by subst e; simp at tops
  have ng' := (List.nodup_cons.mp ng).1
  have nx' := (List.nodup_cons.mp nx).1
  simp only [List.mem_cons, List.not_mem_nil, or_false, not_or] at ng' nx'
  refine ⟨upd (upd (fun _ => none) nd []) ad [], fun _ => 0, dx, k1, k2, k3, t1, t2, t3, v1, ?_, hg, hdx, ?_, ?_, fun a l e => ?_⟩
  · exact ⟨⟨[], by rw [upd_other m1, upd_same], rfl⟩, ⟨[], upd_same, rfl, fun n hn => (List.not_mem_nil hn).elim⟩, fun n hn => (List.not_mem_nil hn).elim, m1, fun n hn => (List.not_mem_nil hn).elim, fun n hn => (List.not_mem_nil hn).elim, by rw [upd_other (Ne.symm (beq_eq_false_iff_ne.mp l2)), upd_other (Ne.symm (beq_eq_false_iff_ne.mp l1))]⟩
  · rw [upd_other ng'.2, upd_other ng'.1]
  · rw [upd_other nx'.2, upd_other nx'.1]
  · rcases upd_cases e with ⟨rfl, rfl⟩ | ⟨q1, e⟩
    · exact ⟨_, ha, ia⟩
    rcases upd_cases e with ⟨rfl, rfl⟩ | ⟨q2, e⟩
    · exact ⟨_, hn, in_⟩
    · cases e
theorem graph_new {w : World} {p : Program} {loose : List Str} {mean : ExcName → Option Value} {mg mb : Str → Option Value} {dp un : Nat} {gd : Option (List Code)} {cn : Str} {cs : Scope} {a : Addr} {ccd : Value} {cl : List (Str × Addr)} {outer : List Env} {A₀ : Around} {base h₀ : Heap} {L : Addr} {m : Str → Option Value} {s : Shared} {Q E : Value → Shared → Prop} {news : List (Addr × Obj)}
    (B : Below A₀ base outer h₀) (F : Fr h₀ L s.heap m) (X : (hd.heap_39 w.params).In h₀) (T : Top p loose mean mg mb h₀) (hk : cs.kind = .function) (S : Sys h₀) (N : News h₀ L s.heap news) (hdp : dp + 20 < recursionLimit) (hun : un + 200 < cLine)
    (ret : ∀ x nd ad H h' tk', Fr h₀ L h' m → News h₀ L h' (H ++ news) → (∀ p ∈ H, ∀ q ∈ news, q.1 < p.1) → UGr PySem.Challenge.rw_fq0029_01.row.prog w H x nd ad [] (fun _ => []) → Q (.ref x) { s with heap := h', toks := tk' }) :
    wpAny (model PySem.Challenge.rw_fq0029_01.row.prog w) (ktrTop dp un gd cn cs L a ccd cl outer) (call (.ref 564) []) Q E s := by
  revert X
  k_fill
  intro X
  refine call_cls (fI := 328) F X N (by k_is) (by k_is) (by k_is) ?_
  intro x dx h1 F1 N1 l1 l2
  rw [under_new]
  have l2' := ltN l2
  have N₀ : News h₀ L h1 [(x, instObj 564 dx), (dx, dictOf [] 0)] := news_sub N1 (by intro q hq; simp only [List.mem_cons, List.not_mem_nil, or_false] at hq ⊢; rcases hq with rfl | rfl <;> simp)
  refine' enterM (s := { s with heap := h1 }) (nm := "attr") (front := [(("self" : Str), (Value.ref x)), (("incoming_graph_data" : Str), Value.none)]) [(x, instObj 564 dx), (dx, dictOf [] 0)] ?k1 ?k2 ?k2n ?k3 ?k5 ?kA ?kF ?kK ?k6 ?k7 ?k8 ?kP ?kT ?kB ?_ ?c2 ?c3 ?c4 ?c5
  case kA => exact rfl
  case kF => exact rfl
  case kK => assumption
  case k1 => exact B
  case k2 => exact F1
  case k2n => exact N₀
  case k3 => exact X
  case k5 => exact T
  case k6 => k_is
  case k7 => k_is
  case k8 => ktr_room
  case kP => exact rfl
  case kT => exact fun _ => rfl
  case c5 => decide
  case kB => exact fun _ => locs rfl
  case c2 => exact rfl
  case c3 => exact rfl
  case c4 => exact rfl
  intro D' od' g' L' h' tk' lD' sD' lo' kD' F' N' kb' kz' B' X' T' st'
  try dsimp only
  k_fold
  replace F' : Fr g' L' h' (lk [(("attr" : Str), some (Value.ref D')), (("incoming_graph_data" : Str), some Value.none), (("self" : Str), some (Value.ref x))]) := (lk_of _ ▸ F' :)
  have S' : Sys g' := S.keep st'
  k_lt lD'
  k_steps
  rename Fr _ _ _ _ => F9
  rename News _ _ _ _ => N9
  have hxL := (N1 (x, _) (.head _)).2
  have hdL := (N1 (dx, _) (.tail _ (.head _))).2
  have hnn : ∀ b, b ∈ List.map (fun x => x.fst) [(x, instObj 564 dx), (dx, dictOf [] 0)] → h₀.get? b = none ∧ b ≠ L := fun b hb => by
    simp only [List.map_cons, List.map_nil, List.mem_cons, List.not_mem_nil, or_false] at hb
    rcases hb with rfl | rfl
    · exact ⟨hxL.2, hxL.1⟩
    · exact ⟨hdL.2, hdL.1⟩
  have up : ∀ b o, b ∉ List.map (fun x => x.fst) [(x, instObj 564 dx), (dx, dictOf [] 0)] → h1.get? b = some o → _ := fun b o hb e => F9.keep b o (kb' b o hb e)
  have FC : Fr h₀ L _ m := ⟨F1.ns.at' fun o e => up L o (fun hm => (hnn L hm).2 rfl) e, fun b o e => up b o (fun hm => by rw [(hnn b hm).1] at e; cases e) (F1.keep b o e), F1.above⟩
  have hL1 : ∃ o, g'.get? L = some o := by
    obtain ⟨oL, _, _, hoL, _⟩ := F1.ns
    exact ⟨oL, kb' L oL (fun hm => (hnn L hm).2 rfl) hoL⟩
  have NH := news_lift N9 st' hL1
  have hge := geAll N9 (d := dx) (by
    intro q hq
    simp only [List.mem_cons, List.not_mem_nil, or_false] at hq
    rcases hq with rfl | rfl | rfl | rfl | rfl | rfl <;> (refine leN ?_; dsimp only; omega))
  refine ⟨rfl, ?_⟩
  refine ret x _ _ _ _ _ FC (news_app NH (fun q hq => ?_)) (fun q hq r hr => Nat.lt_of_lt_of_le (l1 r hr) (hge q hq)) (ugr_empty (by k_mem) (by k_mem) (by k_mem) (by k_mem) (by assumption) (by assumption) (by assumption) (by assumption) (by walk_at "NODUP") (by walk_at "NODUP") (by walk_at "NODUP"))
  have hq1 := N1 q (.tail _ (.tail _ hq))
  refine ⟨up q.1 q.2 (fun hm => ?_) hq1.1, hq1.2⟩
  have hlt := l1 q hq
  simp only [List.map_cons, List.map_nil, List.mem_cons, List.not_mem_nil, or_false] at hm
  rcases hm with e | e
  · exact absurd hlt (by rw [e]; exact Nat.not_lt.mpr (Nat.le_of_lt l2))
  · exact absurd hlt (by rw [e]; exact Nat.lt_irrefl _)
section
section
variable {prog : Program} {w : World} {A : Around} {E : Value → Shared → Prop} {s : Shared} {env : Env}
/-- over a list of the base, the ledger may grow -/
theorem forListG {x : Str} {px : Pos} {body : List Stmt} {Q : Flow → Shared → Prop} {d : Addr} {vs : Array Value} {h₀ : Heap} {m : Str → Option Value} {news : List (Addr × Obj)}
    (F : Fr h₀ env.locals s.heap m) (N : News h₀ env.locals s.heap news) (hd : h₀.IsList d vs) (hh : A.handled = none)
    (hx : env.kindOf x = some .local) (hp : (env.scope.kind == .class || (env.scope.kind == .module && env.locals != env.globals)) = false)
    (J : Nat → (Str → Option Value) → List (Addr × Obj) → Prop) (h0 : J 0 m news)
    (turn : ∀ I i v m₁ news₁ h tk io, (∀ p ∈ news, p.1 < I) → vs[i]? = some v → J i m₁ news₁ → (∀ p ∈ news₁, p.1 ≠ I) →
      Fr h₀ env.locals h (fun y => if y = x then some v else m₁ y) → News h₀ env.locals h ((I, io) :: news₁) →
      wpAny (model prog w) A (execs body env) (TurnEnd h₀ env.locals (fun m' n' => (∀ p ∈ n', p.1 ≠ I) ∧ J (i + 1) m' n') [(I, io)] Q { s with heap := h, toks := tk }) Bot { s with heap := h, toks := tk })
    (done : ∀ m₁ news₁ h tk, J vs.size m₁ news₁ → Fr h₀ env.locals h m₁ → News h₀ env.locals h news₁ → Q .next { s with heap := h, toks := tk }) :
    wpAny (model prog w) A (pyIter (.ref d)) (fun it s₂ => ForAt prog w A env (.Name x px) body Q it s₂) E s := by
  have hds : s.heap.IsList d vs := hd.at fun o e => F.keep d o e
  refine wpAny_pyIter_list hds ?_
  obtain ⟨ob, hob, _⟩ := id hd
  have hlt : d < s.heap.objs.size := Heap.lt_size (F.keep _ _ hob)
  have hne : d ≠ s.heap.objs.size := Nat.ne_of_lt hlt
  have hnl : ∀ p ∈ news, p.1 < s.heap.objs.size := fun p hp => Heap.lt_size (N p hp).1
  have hdL : d ≠ env.locals := Nat.ne_of_lt (Nat.lt_of_lt_of_le (Heap.lt_size hob) F.above)
  refine forWalks (own := []) (Walks.list hh s.heap.objs.size d hne vs) hx hp (fun i h st => ?_) ⟨⟨_, Heap.get?_push_size _ rfl, rfl, rfl⟩, hds.at fun o e => Heap.get?_push_of_some _ e⟩ (F.push _) (fun p hp => ⟨Heap.get?_push_of_some _ (N p hp).1, (N p hp).2⟩) ?_
    (Nat.ne_of_gt F.ns.lt) (fr_none F (Nat.le_refl _)) (fun p hp => nomatch hp) (fun i m₁ n₁ => (∀ p ∈ n₁, p.1 ≠ s.heap.objs.size) ∧ J i m₁ n₁) ⟨fun p hp => Nat.ne_of_lt (hnl p hp), h0⟩ (fun i m₁ n₁ hJ => hJ.1) ?_ ?_
  · obtain ⟨⟨o, ho, _⟩, _⟩ := st; exact ⟨o, ho⟩
  · intro b hb
    rcases List.mem_cons.mp hb with rfl | hb
    · exact ⟨Nat.ne_of_gt F.ns.lt, .inl rfl⟩
    · rw [List.mem_singleton.mp hb]; exact ⟨hdL, .inr (.inl ⟨ob, hob⟩)⟩
  · rintro i v m₁ n₁ h tk io hi hk ⟨hadr, hJ⟩ F₁ N₁
    exact turn _ i v m₁ n₁ h tk io hnl hk hJ hadr F₁ N₁
  · rintro m₁ n₁ h tk ⟨hadr, hJ⟩ F₁ N₁
    exact done m₁ n₁ h tk hJ F₁ N₁
end
theorem allLt_ne {d : Addr} {l : List (Addr × Obj)} (h : AllLt d l) : ∀ p ∈ l, p.1 ≠ d := by
  induction l with
  | nil => intro p hp; cases hp
  | cons a r ih =>
    have h' : @LT.lt Nat _ a.1 d ∧ AllLt d r := h
    intro p hp
    cases hp with
    | head => exact Nat.ne_of_lt h'.1
    | tail _ hp => exact ih h'.2 p hp
local macro_rules | `(tactic| k_all) => `(tactic| first | assumption | exact allLt_ne (by simp only [*]))
end
local macro_rules | `(tactic| k_all) => `(tactic| first | assumption | exact allLt_ne (by simp only [*]))
/-- the rows so far -/
def RowsOk (prog : Program) (w : World) (ka : List (Int × Value)) (R : List (Addr × Obj)) (ks : List Int) : Prop :=
  ∃ ra : Int → Addr, (∀ n ∈ ks, valueAt ka n = some (.ref (ra n)) ∧ (ra n == sysModules) = false ∧ ∃ o, (ra n, o) ∈ R ∧ o.IsDictOf (PySem.intKind prog w) []) ∧ ∀ n ∈ ks, ∀ k ∈ ks, ra n = ra k → n = k
theorem rows_push {prog : Program} {w : World} {ka : List (Int × Value)} {R : List (Addr × Obj)} {ks : List Int} {k : Int} {r : Addr} {o : Obj} (h : RowsOk prog w ka R ks) (hk : k ∉ ks) (hr : ∀ p ∈ R, p.1 ≠ r) (ho : o.IsDictOf (PySem.intKind prog w) []) (hlo : (r == sysModules) = false) :
    RowsOk prog w (stored ka k (.ref r)) ((r, o) :: R) (ks ++ [k]) := by
  obtain ⟨ra, h1, h2⟩ := h
  have ne : ∀ n ∈ ks, n ≠ k := fun n hn e => hk (e ▸ hn)
  refine ⟨fun n => if n = k then r else ra n, fun n hn => ?_, fun n hn m hm e => ?_⟩
  · rcases List.mem_append.mp hn with hn | hn
    · obtain ⟨a1, a0, o1, a2, a3⟩ := h1 n hn
      refine ⟨?_, ?_, o1, ?_, a3⟩
      · dsimp only; rw [if_neg (ne n hn)]; exact va_other (ne n hn) a1
      · dsimp only; rw [if_neg (ne n hn)]; exact a0
      · dsimp only; rw [if_neg (ne n hn)]; exact .tail _ a2
    · rw [List.mem_singleton.mp hn]
      exact ⟨by dsimp only; rw [if_pos rfl]; exact va_hit, by dsimp only; rw [if_pos rfl]; exact hlo, o, by dsimp only; rw [if_pos rfl]; exact .head _, ho⟩
  · have off : ∀ n ∈ ks, ra n ≠ r := fun n hn => by
      obtain ⟨_, _, o1, a2, _⟩ := h1 n hn
      exact hr _ a2
    dsimp only at e
    rcases List.mem_append.mp hn with hn | hn <;> rcases List.mem_append.mp hm with hm | hm
    · rw [if_neg (ne n hn), if_neg (ne m hm)] at e; exact h2 n hn m hm e
    · rw [List.mem_singleton.mp hm, if_neg (ne n hn), if_pos rfl] at e; exact absurd e (off n hn)
    · rw [List.mem_singleton.mp hn, if_neg (ne m hm), if_pos rfl] at e; exact absurd e.symm (off m hm)
    · rw [List.mem_singleton.mp hn, List.mem_singleton.mp hm]
theorem ugr_nodes {prog : Program} {w : World} {h₀ g' h hs : Heap} {L L' : Addr} {m : Str → Option Value} {H R : List (Addr × Obj)} {g nd ad dx : Addr} {on0 oa0 on oa : Obj} {kn ka : List (Int × Value)} {ns : List Int} {k1 k2 k3 : Int} {t1 t2 t3 : Tok} {v1 : Value} (hL : ∃ o, hs.get? L = some o)
    (N₀ : News h₀ L hs H) (mn : (nd, on0) ∈ H) (ma : (ad, oa0) ∈ H) (hg : (g, instObj 564 dx) ∈ H) (hdx : (dx, dictOf [⟨k1, .str "graph" t1, v1⟩, ⟨k2, .str "_node" t2, .ref nd⟩, ⟨k3, .str "_adj" t3, .ref ad⟩] 3) ∈ H)
    (ng : g ∉ [nd, ad]) (nx : dx ∉ [nd, ad]) (hda : nd ≠ ad) (kb : ∀ b o, b ∉ [nd, ad] → hs.get? b = some o → g'.get? b = some o) (kz : hs.objs.size ≤ g'.objs.size) (st : h₀.StaysIn g') (F : Fr g' L' h m) (N : News g' L' h ((nd, on) :: (ad, oa) :: R))
    (hon : on.IsDictOf (PySem.intKind prog w) kn) (hkn : kn.map (·.1) = ns) (hoa : oa.IsDictOf (PySem.intKind prog w) ka) (hka : ka.map (·.1) = ns) (hR1 : ∀ p ∈ R, p.1 ≠ nd) (hR2 : ∀ p ∈ R, p.1 ≠ ad) (lnd : (nd == sysModules) = false) (lad : (ad == sysModules) = false) (hRows : RowsOk prog w ka R ns) :
    ∃ H', KeepsBut (H.map (·.1)) hs h ∧ News h₀ L h H' ∧ (∀ p ∈ H', p.1 ∈ H.map (·.1) ∨ hs.get? p.1 = none) ∧ UGr prog w H' g nd ad ns (fun _ => []) := by
  obtain ⟨ra, hr1, hr2⟩ := hRows
  have inH : ∀ {a : Addr} {o : Obj}, (a, o) ∈ H → a ∈ H.map (·.1) := fun hm => List.mem_map.mpr ⟨_, hm, rfl⟩
  have nn : ∀ {b}, b ∉ H.map (·.1) → b ∉ [nd, ad] := fun {b} hb hm => by
    simp only [List.mem_cons, List.not_mem_nil, or_false] at hm
    rcases hm with rfl | rfl
    · exact hb (inH mn)
    · exact hb (inH ma)
  have hRn : ∀ p ∈ R, g'.get? p.1 = none := fun p hp => (N p (.tail _ (.tail _ hp))).2.2
  have hRs : ∀ p ∈ R, hs.get? p.1 = none := fun p hp => by
    cases e : hs.get? p.1 with
    | none => rfl
    | some o =>
      have := kb p.1 o (by simp only [List.mem_cons, List.not_mem_nil, or_false, not_or]; exact ⟨hR1 p hp, hR2 p hp⟩) e
      rw [hRn p hp] at this; cases this
  have hLR : ∀ p ∈ R, p.1 ≠ L := fun p hp e => by
    obtain ⟨o, ho⟩ := hL
    rw [← e, hRs p hp] at ho; cases ho
  have kgg : h.get? g = some _ := F.keep _ _ (kb _ _ ng (N₀ _ hg).1)
  have kdx : h.get? dx = some _ := F.keep _ _ (kb _ _ nx (N₀ _ hdx).1)
  have gR : ∀ p ∈ R, g ≠ p.1 ∧ dx ≠ p.1 := fun p hp => ⟨fun e => (by have := kb _ _ ng (N₀ _ hg).1; rw [e, hRn p hp] at this; cases this), fun e => (by have := kb _ _ nx (N₀ _ hdx).1; rw [e, hRn p hp] at this; cases this)⟩
  simp only [List.mem_cons, List.not_mem_nil, or_false, not_or] at ng nx
  refine ⟨snap h (H.map (·.1) ++ R.map (·.1)), ⟨fun b o hb e => F.keep _ _ (kb b o (nn hb) e), Nat.le_trans kz (keeps_of F).size⟩, fun p hp => ?_, fun p hp => ?_, ?_⟩
  · obtain ⟨a, o⟩ := p
    obtain ⟨ha, ho⟩ := mem_snap.mp hp
    rcases List.mem_append.mp ha with ha | ha
    · obtain ⟨q, hq, rfl⟩ := List.mem_map.mp ha
      exact ⟨ho, (N₀ q hq).2⟩
    · obtain ⟨q, hq, rfl⟩ := List.mem_map.mp ha
      refine ⟨ho, hLR q hq, ?_⟩
      cases e : h₀.get? q.1 with
      | none => rfl
      | some o' => have := st _ _ e; rw [hRn q hq] at this; cases this
  · obtain ⟨a, o⟩ := p
    rcases List.mem_append.mp (mem_snap.mp hp).1 with ha | ha
    · exact .inl ha
    · obtain ⟨q, hq, rfl⟩ := List.mem_map.mp ha
      exact .inr (hRs q hq)
  · have rR : ∀ n ∈ ns, ra n ≠ nd ∧ ra n ≠ ad ∧ g ≠ ra n ∧ dx ≠ ra n := fun n hn => by
      obtain ⟨_, _, o, ho, _⟩ := hr1 n hn
      exact ⟨hR1 _ ho, hR2 _ ho, gR _ ho⟩
    have hany : ∀ a, (ns.any fun n => ra n == a) = true ↔ ∃ n ∈ ns, ra n = a := fun a => by
      rw [List.any_eq_true]
      constructor
      · rintro ⟨n, hn, e⟩; exact ⟨n, hn, by simpa using e⟩
      · rintro ⟨n, hn, e⟩; exact ⟨n, hn, by simpa using e⟩
    refine ⟨fun a => if a = nd then some kn else if a = ad then some ka else if (ns.any fun n => ra n == a) = true then some [] else none, ra, dx, k1, k2, k3, t1, t2, t3, v1, ⟨⟨kn, if_pos rfl, hkn⟩, ⟨ka, ?_, hka, fun n hn => (hr1 n hn).1⟩, fun n hn => ⟨[], ?_, rfl⟩, hda, fun n hn => ⟨(rR n hn).1, (rR n hn).2.1⟩, hr2, ?_⟩, mem_snap.mpr ⟨List.mem_append_left _ (inH hg), kgg⟩, mem_snap.mpr ⟨List.mem_append_left _ (inH hdx), kdx⟩, ?_, ?_, fun a l e => ?_⟩
    · show (if ad = nd then _ else _) = _
      rw [if_neg (Ne.symm hda), if_pos rfl]
    · show (if ra n = nd then _ else _) = _
      rw [if_neg (rR n hn).1, if_neg (rR n hn).2.1, if_pos ((hany _).mpr ⟨n, hn, rfl⟩)]
    · show (if sysModules = nd then _ else _) = _
      rw [if_neg (Ne.symm (beq_eq_false_iff_ne.mp lnd)), if_neg (Ne.symm (beq_eq_false_iff_ne.mp lad)), if_neg]
      intro hh
      obtain ⟨n, hn, e⟩ := (hany _).mp hh
      exact beq_eq_false_iff_ne.mp (hr1 n hn).2.1 e
    · show (if g = nd then _ else _) = _
      rw [if_neg ng.1, if_neg ng.2, if_neg]
      intro hh
      obtain ⟨n, hn, e⟩ := (hany _).mp hh
      exact (rR n hn).2.2.1 e.symm
    · show (if dx = nd then _ else _) = _
      rw [if_neg nx.1, if_neg nx.2, if_neg]
      intro hh
      obtain ⟨n, hn, e⟩ := (hany _).mp hh
      exact (rR n hn).2.2.2 e.symm
    · dsimp only at e
      by_cases h1 : a = nd
      · rw [if_pos h1] at e
        cases e; subst h1
        exact ⟨on, mem_snap.mpr ⟨List.mem_append_left _ (inH mn), (N _ (.head _)).1⟩, hon⟩
      · rw [if_neg h1] at e
        by_cases h2 : a = ad
        · rw [if_pos h2] at e
          cases e; subst h2
          exact ⟨oa, mem_snap.mpr ⟨List.mem_append_left _ (inH ma), (N _ (.tail _ (.head _))).1⟩, hoa⟩
        · rw [if_neg h2] at e
          by_cases h3 : (ns.any fun n => ra n == a) = true
          · rw [if_pos h3] at e
            cases e
            obtain ⟨n, hn, rfl⟩ := (hany _).mp h3
            obtain ⟨_, _, o, ho, hio⟩ := hr1 n hn
            exact ⟨o, mem_snap.mpr ⟨List.mem_append_right _ (List.mem_map.mpr ⟨_, ho, rfl⟩), (N _ (.tail _ (.tail _ ho))).1⟩, hio⟩
          · rw [if_neg h3] at e; cases e
theorem ltN' {a b : Nat} (h : a ≠ b) : a ≠ b := h
theorem addnodes_spec {w : World} {p : Program} {loose : List Str} {mean : ExcName → Option Value} {mg mb : Str → Option Value} {dp un : Nat} {gd : Option (List Code)} {cn : Str} {cs : Scope} {a : Addr} {ccd : Value} {cl : List (Str × Addr)} {outer : List Env} {A₀ : Around} {base h₀ : Heap} {L : Addr} {m : Str → Option Value} {s : Shared} {Q E : Value → Shared → Prop} {H : List (Addr × Obj)} {g nd ad lv : Addr} {vs : List Value} {ns : List Int}
    (B : Below A₀ base outer h₀) (F : Fr h₀ L s.heap m) (X : (hd.heap_39 w.params).In h₀) (T : Top p loose mean mg mb h₀) (hk : cs.kind = .function) (S : Sys h₀) (N₀' : News h₀ L s.heap H) (hG : UGr PySem.Challenge.rw_fq0029_01.row.prog w H g nd ad [] (fun _ => [])) (hl : s.heap.IsList lv vs.toArray) (hi : IntsAre vs ns) (hnd : ns.Nodup) (hnl : ns.length ≤ 12)
    (hdp : dp + 20 < recursionLimit) (hun : un + 200 < cLine)
    (ret : ∀ h' tk' H', KeepsBut (H.map (·.1)) s.heap h' → News h₀ L h' H' → (∀ p ∈ H', p.1 ∈ H.map (·.1) ∨ s.heap.get? p.1 = none) → UGr PySem.Challenge.rw_fq0029_01.row.prog w H' g nd ad ns (fun _ => []) → Q .none { s with heap := h', toks := tk' }) :
    wpAny (model PySem.Challenge.rw_fq0029_01.row.prog w) (ktrTop dp un gd cn cs L a ccd cl outer) (call (.ref 380) [.ref g, .ref lv]) Q E s := by
  obtain ⟨c, ra, dx, k1, k2, k3, t1, t2, t3, v1, hU, hg, hdx, cg, cdx, hc⟩ := hG
  obtain ⟨nl, en, hn0⟩ := hU.nds
  obtain ⟨al, ea, ha0, -⟩ := hU.ads
  obtain ⟨on, mn, in_⟩ := hc _ _ en
  obtain ⟨oa, ma, ia⟩ := hc _ _ ea
  obtain rfl : nl = [] := by simpa using hn0
  obtain rfl : al = [] := by simpa using ha0
  have N₀ : News h₀ L s.heap [(nd, on), (ad, oa)] := List.forall_mem_cons.mpr ⟨N₀' _ mn, List.forall_mem_cons.mpr ⟨N₀' _ ma, List.forall_mem_nil _⟩⟩
  have hda := ltN' hU.tops
  have ndlo := hU.lo en
  have adlo := hU.lo ea
  have e1 := (N₀' _ hg).1
  have e2 := (N₀' _ hdx).1
  have nmg : g ∉ [nd, ad] := fun h => by
    simp only [List.mem_cons, List.not_mem_nil, or_false] at h
    rcases h with rfl | rfl
    · rw [cg] at en; cases en
    · rw [cg] at ea; cases ea
  have nmx : dx ∉ [nd, ad] := fun h => by
    simp only [List.mem_cons, List.not_mem_nil, or_false] at h
    rcases h with rfl | rfl
    · rw [cdx] at en; cases en
    · rw [cdx] at ea; cases ea
  have nml : lv ∉ [nd, ad] := fun h => by
    obtain ⟨ol, hol, hcl, _⟩ := id hl
    simp only [List.mem_cons, List.not_mem_nil, or_false] at h
    rcases h with rfl | rfl
    · have := (N₀' _ mn).1; rw [hol] at this; cases this; obtain ⟨es, ep, hx, _⟩ := id in_; rw [hx.1] at hcl; exact absurd hcl (by decide)
    · have := (N₀' _ ma).1; rw [hol] at this; cases this; obtain ⟨es, ep, hx, _⟩ := id ia; rw [hx.1] at hcl; exact absurd hcl (by decide)
  revert X
  k_fill
  intro X
  refine wpAny_call ?_
  refine' enterM (nm := "attr") (front := [(("self" : Str), (.ref g : Value)), (("nodes_for_adding" : Str), (.ref lv : Value))]) [(nd, on), (ad, oa)] ?k1 ?k2 ?k2n ?k3 ?k5 ?kA ?kF ?kK ?k6 ?k7 ?k8 ?kP ?kT ?kB ?_ ?c2 ?c3 ?c4 ?c5
  case kA => exact rfl
  case kF => exact rfl
  case kK => assumption
  case k1 => exact B
  case k2 => exact F
  case k2n => exact N₀
  case k3 => exact X
  case k5 => exact T
  case k6 => k_is
  case k7 => k_is
  case k8 => ktr_room
  case kP => exact rfl
  case kT => exact fun _ => rfl
  case c5 => decide
  case kB => exact fun _ => locs rfl
  case c2 => exact rfl
  case c3 => exact rfl
  case c4 => exact rfl
  intro D' od' g' L' h' tk' lD' hD' loD' hod' F' N' kb' kz' B' X' T' st'
  try dsimp only
  k_fold
  have S' : Sys g' := S.keep st'
  replace F' : Fr g' L' h' (lk [(("attr" : Str), some (Value.ref D')), (("nodes_for_adding" : Str), some (.ref lv : Value)), (("self" : Str), some (.ref g : Value))]) := (lk_of _ ▸ F' :)
  try k_lt lD'
  replace e1 := kb' _ _ nmg e1
  replace e2 := kb' _ _ nmx e2
  have hlv : g'.IsList lv vs.toArray := by obtain ⟨ol, hol, r⟩ := hl; exact ⟨ol, kb' _ _ nml hol, r⟩
  k_steps
  rename Fr _ _ _ _ => F2
  rename News _ _ _ _ => N2
  have hvl := hi.length
  refine forListG F2 N2 hlv rfl (by rfl) (by rfl)
    (fun i m₁ n₁ => ∃ u1 u2 u3 on oa kn ka R, m₁ = lk [("n", u1), ("newnode", u2), ("newdict", u3), ("attr", some (.ref D')), ("nodes_for_adding", some (.ref lv)), ("self", some (.ref g))] ∧ n₁ = (D', od') :: (nd, on) :: (ad, oa) :: R ∧
      on.IsDictOf (PySem.intKind PySem.Challenge.rw_fq0029_01.row.prog w) kn ∧ kn.map (·.1) = ns.take i ∧ oa.IsDictOf (PySem.intKind PySem.Challenge.rw_fq0029_01.row.prog w) ka ∧ ka.map (·.1) = ns.take i ∧ (∀ p ∈ R, p.1 ≠ nd) ∧ (∀ p ∈ R, p.1 ≠ ad) ∧ (∀ p ∈ R, p.1 ≠ D') ∧ RowsOk PySem.Challenge.rw_fq0029_01.row.prog w ka R (ns.take i))
    ⟨none, none, none, on, oa, [], [], [], by walk_at "SAME", rfl, in_, rfl, ia, rfl, (fun p hp => nomatch hp), (fun p hp => nomatch hp), (fun p hp => nomatch hp), fun _ => 0, (fun n hn => (List.not_mem_nil hn).elim), fun n hn => (List.not_mem_nil hn).elim⟩ ?_ ?_
  · rintro I i v m₁ n₁ h tk io hltI hv ⟨u1, u2, u3, on, oa, kn, ka, R, rfl, rfl, hon, hkn, hoa, hka, hR1, hR2, hR3, hRows⟩ hRI F3 N3
    have hin : i < ns.length := by
      rcases Nat.lt_or_ge i ns.length with h | h
      · exact h
      · rw [Array.getElem?_eq_none (by rw [List.size_toArray, hvl]; exact h)] at hv; cases hv
    obtain ⟨tn, hvn⟩ := hi.get i _ (List.getElem?_eq_getElem hin)
    have hv' : vs[i]? = some v := by simpa using hv
    rw [hvn] at hv'
    cases hv'
    rw [lk_set] at F3
    have o1 := ltN (hltI _ (.head _))
    have o2 := ltN (hltI _ (.tail _ (.head _)))
    have o3 := ltN (hltI _ (.tail _ (.tail _ (.head _))))
    have hRI' : ∀ p ∈ R, p.1 ≠ I := fun p hp => hRI p (.tail _ (.tail _ (.tail _ hp)))
    have htk : ns.take (i + 1) = ns.take i ++ [ns[i]] := by
      have : ns[i]? = some ns[i] := List.getElem?_eq_getElem hin
      rw [List.take_add_one, this]; rfl
    have hnew : ns[i] ∉ ns.take i := fun hm => by
      have := hnd.sublist (List.take_sublist (i + 1) ns)
      rw [htk, List.nodup_append] at this
      exact this.2.2 _ hm _ (.head _) rfl
    have hvn1 : valueAt kn ns[i] = none := valueAt_none (by rw [hkn]; exact hnew)
    have hva1 : valueAt ka ns[i] = none := valueAt_none (by rw [hka]; exact hnew)
    have szn : kn.length ≤ 200 := by have := congrArg List.length hkn; rw [List.length_map, List.length_take] at this; omega
    have sza : ka.length ≤ 200 := by have := congrArg List.length hka; rw [List.length_map, List.length_take] at this; omega
    generalize ns[i] = k at *
    k_steps
    rename_i D1 o4 h4' tk4' hs2 hi1 lq1 l11 h3' o3 hd1 tkk D2 o2 h2' tk2' hs1 hi2 lq2 l12 h1' o1' hd2 tk0' h0' o0' F9 N9 hs9
    have hR4 := allLt_ne (l := R) (d := D1) (by simp only [l11])
    refine TurnEnd.next F9 (news_sub N9 (l' := (I, io) :: (D', od') :: (nd, o1') :: (ad, o3) :: (D1, o4) :: R) (fun q hq => ?_)) ⟨?_, _, _, _, _, _, _, _, (D1, o4) :: R, by walk_at "SAME", rfl, hd2, ?_, hd1, ?_, ?_, ?_, ?_, ?_⟩
    · simp only [List.mem_cons] at hq ⊢
      rcases hq with rfl | rfl | rfl | rfl | rfl | hq
      · simp
      · simp
      · simp
      · simp
      · simp
      · simp [hq]
    · refine List.forall_mem_cons.mpr ⟨?_, List.forall_mem_cons.mpr ⟨?_, List.forall_mem_cons.mpr ⟨?_, List.forall_mem_cons.mpr ⟨?_, hRI'⟩⟩⟩⟩ <;> k_ne
    · rw [keys_stored_new (by rw [hkn]; exact hnew), hkn, htk]
    · rw [keys_stored_new (by rw [hka]; exact hnew), hka, htk]
    · exact List.forall_mem_cons.mpr ⟨by k_ne, hR1⟩
    · exact List.forall_mem_cons.mpr ⟨by k_ne, hR2⟩
    · exact List.forall_mem_cons.mpr ⟨by k_ne, hR3⟩
    · rw [htk]; exact rows_push hRows hnew hR4 hi1 (by assumption)
  · rintro m₁ n₁ h tk ⟨u1, u2, u3, on, oa, kn, ka, R, rfl, rfl, hon, hkn, hoa, hka, hR1, hR2, hR3, hRows⟩ F3 N3
    dsimp only
    k_steps
    have e0 : ns.take vs.toArray.size = ns := by rw [List.size_toArray, hvl, List.take_length]
    rw [e0] at hkn hka hRows
    rename Fr _ _ _ _ => F9
    rename News _ _ _ _ => N9
    obtain ⟨H', q1, q2, q3, q4⟩ := ugr_nodes (by obtain ⟨oL, _, _, hoL, _⟩ := F.ns; exact ⟨oL, hoL⟩) N₀' mn ma hg hdx nmg nmx hU.tops kb' kz' st' F9 (news_sub N9 (l' := (nd, on) :: (ad, oa) :: R) (fun q hq => .tail _ hq)) hon hkn hoa hka hR1 hR2 ndlo adlo hRows
    exact ret _ _ H' q1 q2 q3 q4
/-- the rows of a graph, each with what it holds -/
structure RowsAt (prog : Program) (w : World) (R : List (Addr × Obj)) (ra : Int → Addr) (ns : List Int) (lf : Int → List (Int × Value)) : Prop where
  at_ : ∀ n ∈ ns, ∃ o, (ra n, o) ∈ R ∧ o.IsDictOf (PySem.intKind prog w) (lf n)
  only : ∀ p ∈ R, ∃ n ∈ ns, p.1 = ra n
def links (nb : Int → List Int) (u : Int) (ks : List Int) : Int → List Int := ks.foldl (fun f k => arc (arc f u k) k u) nb
theorem rows_split {prog : Program} {w : World} {R : List (Addr × Obj)} {ra : Int → Addr} {ns : List Int} {lf : Int → List (Int × Value)} (h : RowsAt prog w R ra ns lf) (inj : ∀ n ∈ ns, ∀ k ∈ ns, ra n = ra k → n = k) {u k : Int} (hu : u ∈ ns) (hk : k ∈ ns) (huk : k ≠ u) :
    ∃ ou ok R', (ra u, ou) ∈ R ∧ (ra k, ok) ∈ R ∧ (∀ p ∈ R', p ∈ R) ∧ ou.IsDictOf (PySem.intKind prog w) (lf u) ∧ ok.IsDictOf (PySem.intKind prog w) (lf k) ∧ (∀ p ∈ R', p.1 ≠ ra u) ∧ (∀ p ∈ R', p.1 ≠ ra k) ∧ ra u ≠ ra k ∧
      ∀ ou' ok' lu lk, ou'.IsDictOf (PySem.intKind prog w) lu → ok'.IsDictOf (PySem.intKind prog w) lk → RowsAt prog w ((ra u, ou') :: (ra k, ok') :: R') ra ns (fun n => if n = u then lu else if n = k then lk else lf n) := by
  obtain ⟨ou, mu, iu⟩ := h.at_ u hu
  obtain ⟨ok, mk, ik⟩ := h.at_ k hk
  have hne : ra u ≠ ra k := fun e => huk (inj u hu k hk e).symm
  refine ⟨ou, ok, R.filter fun p => p.1 != ra u && p.1 != ra k, mu, mk, fun p hp => (List.mem_filter.mp hp).1, iu, ik, fun p hp e => ?_, fun p hp e => ?_, hne, fun ou' ok' lu lk hlu hlk => ⟨fun n hn => ?_, fun p hp => ?_⟩⟩
  · have := (List.mem_filter.mp hp).2; simp [e] at this
  · have := (List.mem_filter.mp hp).2; simp [e] at this
  · by_cases h1 : n = u
    · subst h1; exact ⟨ou', .head _, by rw [if_pos rfl]; exact hlu⟩
    · by_cases h2 : n = k
      · subst h2; exact ⟨ok', .tail _ (.head _), by rw [if_neg h1, if_pos rfl]; exact hlk⟩
      · obtain ⟨o, mo, io⟩ := h.at_ n hn
        refine ⟨o, .tail _ (.tail _ (List.mem_filter.mpr ⟨mo, ?_⟩)), by rw [if_neg h1, if_neg h2]; exact io⟩
        have a1 : ra n ≠ ra u := fun e => h1 (inj n hn u hu e)
        have a2 : ra n ≠ ra k := fun e => h2 (inj n hn k hk e)
        simp [a1, a2]
  · rcases List.mem_cons.mp hp with rfl | hp
    · exact ⟨u, hu, rfl⟩
    rcases List.mem_cons.mp hp with rfl | hp
    · exact ⟨k, hk, rfl⟩
    · exact h.only p (List.mem_filter.mp hp).1
theorem links_snoc (nb : Int → List Int) (u k : Int) (l : List Int) : links nb u (l ++ [k]) = arc (arc (links nb u l) u k) k u := by
  unfold links
  rw [List.foldl_append]
  rfl
theorem addedges_walk {w : World} {p : Program} {loose : List Str} {mean : ExcName → Option Value} {mg mb : Str → Option Value} {dp un : Nat} {gd : Option (List Code)} {cn : Str} {cs : Scope} {a : Addr} {ccd : Value} {cl : List (Str × Addr)} {outer : List Env} {A₀ : Around} {base h₀ : Heap} {L : Addr} {m : Str → Option Value} {s : Shared} {Q E : Value → Shared → Prop} {R0 : List (Addr × Obj)} {g dx nd ad lv : Addr} {ra : Int → Addr} {u : Int} {ks ns : List Int} {ts : List Addr} {lf0 : Int → List (Int × Value)} {nb : Int → List Int} {nl al : List (Int × Value)} {k1 k2 k3 : Int} {t1 t2 t3 : Tok} {v1 : Value}
    (B : Below A₀ base outer h₀) (F : Fr h₀ L s.heap m) (X : (hd.heap_39 w.params).In h₀) (T : Top p loose mean mg mb h₀) (hk : cs.kind = .function) (S : Sys h₀) (N₀ : News h₀ L s.heap R0) (e1 : s.heap.get? g = some (instObj 564 dx)) (e2 : s.heap.get? dx = some (dictOf [⟨k1, .str "graph" t1, v1⟩, ⟨k2, .str "_node" t2, .ref nd⟩, ⟨k3, .str "_adj" t3, .ref ad⟩] 3))
    (hR : RowsAt PySem.Challenge.rw_fq0029_01.row.prog w R0 ra ns lf0) (inj : ∀ n ∈ ns, ∀ k ∈ ns, ra n = ra k → n = k) (hlf : ∀ n ∈ ns, (lf0 n).map (·.1) = nb n)
    (hnd : s.heap.DictOf (PySem.intKind PySem.Challenge.rw_fq0029_01.row.prog w) nd nl) (hnl : nl.map (·.1) = ns) (had : s.heap.DictOf (PySem.intKind PySem.Challenge.rw_fq0029_01.row.prog w) ad al) (hva : ∀ n ∈ ns, valueAt al n = some (.ref (ra n)))
    (hrlo : ∀ n ∈ ns, (ra n == sysModules) = false) (ndlo : (nd == sysModules) = false) (adlo : (ad == sysModules) = false) (off : ∀ b ∈ [g, dx, nd, ad], b ∉ R0.map (·.1)) (hl : s.heap.IsList lv (ts.map Value.ref).toArray) (hlo : lv ∉ R0.map (·.1)) (hto : ∀ t ∈ ts, t ∉ R0.map (·.1))
    (htu : ∀ (i : Nat) (k : Int), ks[i]? = some k → ∃ (t : Addr) (tu tk : Tok), ts[i]? = some t ∧ s.heap.IsTuple t #[.int u tu, .int k tk]) (hlen : ts.length = ks.length) (hu : u ∈ ns) (hks : ∀ k ∈ ks, k ∈ ns ∧ k ≠ u)
    (hsz : ∀ (i : Nat) (n : Int), (links nb u (ks.take i) n).length ≤ 100) (hno : ∀ (i : Nat) (k : Int), ks[i]? = some k → k ∉ links nb u (ks.take i) u ∧ u ∉ links nb u (ks.take i) k)
    (hdp : dp + 20 < recursionLimit) (hun : un + 200 < cLine)
    (ret : ∀ h' tk' R' lf', KeepsBut (R0.map (·.1)) s.heap h' → (∀ p ∈ R', h'.get? p.1 = some p.2) → RowsAt PySem.Challenge.rw_fq0029_01.row.prog w R' ra ns lf' → (∀ n ∈ ns, (lf' n).map (·.1) = links nb u ks n) → Q .none { s with heap := h', toks := tk' }) :
    wpAny (model PySem.Challenge.rw_fq0029_01.row.prog w) (ktrTop dp un gd cn cs L a ccd cl outer) (call (.ref 439) [.ref g, .ref lv]) Q E s := by
  revert X
  k_fill
  intro X
  refine wpAny_call ?_
  refine' enterM (nm := "attr") (front := [(("self" : Str), (.ref g : Value)), (("ebunch_to_add" : Str), (.ref lv : Value))]) R0 ?k1 ?k2 ?k2n ?k3 ?k5 ?kA ?kF ?kK ?k6 ?k7 ?k8 ?kP ?kT ?kB ?_ ?c2 ?c3 ?c4 ?c5
  case kA => exact rfl
  case kF => exact rfl
  case kK => assumption
  case k1 => exact B
  case k2 => exact F
  case k2n => exact N₀
  case k3 => exact X
  case k5 => exact T
  case k6 => k_is
  case k7 => k_is
  case k8 => ktr_room
  case kP => exact rfl
  case kT => exact fun _ => rfl
  case c5 => decide
  case kB => exact fun _ => locs rfl
  case c2 => exact rfl
  case c3 => exact rfl
  case c4 => exact rfl
  intro D' od' g' L' h' tk' lD' hD' loD' hod' F' N' kb' kz' B' X' T' st'
  try dsimp only
  k_fold
  have S' : Sys g' := S.keep st'
  replace F' : Fr g' L' h' (lk [(("attr" : Str), some (Value.ref D')), (("ebunch_to_add" : Str), some (.ref lv : Value)), (("self" : Str), some (.ref g : Value))]) := (lk_of _ ▸ F' :)
  try k_lt lD'
  replace e1 := kb' _ _ (off g (by simp)) e1
  replace e2 := kb' _ _ (off dx (by simp)) e2
  have hnd' : g'.DictOf (PySem.intKind PySem.Challenge.rw_fq0029_01.row.prog w) nd nl := by obtain ⟨o, ho, r⟩ := Heap.dictOf_iff.mp hnd; exact Heap.dictOf_iff.mpr ⟨o, kb' _ _ (off nd (by simp)) ho, r⟩
  have had' : g'.DictOf (PySem.intKind PySem.Challenge.rw_fq0029_01.row.prog w) ad al := by obtain ⟨o, ho, r⟩ := Heap.dictOf_iff.mp had; exact Heap.dictOf_iff.mpr ⟨o, kb' _ _ (off ad (by simp)) ho, r⟩
  have hlv : g'.IsList lv (ts.map Value.ref).toArray := by obtain ⟨ol, hol, r⟩ := hl; exact ⟨ol, kb' _ _ hlo hol, r⟩
  have hD0 : ∀ p ∈ R0, p.1 ≠ D' := fun p hp => Nat.ne_of_lt (lD' p hp)
  k_steps
  rename Fr _ _ _ _ => F2
  rename News _ _ _ _ => N2
  refine forListG F2 N2 hlv rfl (by rfl) (by rfl)
    (fun i m₁ n₁ => ∃ u1 u2 u3 u4 u5 u6 R lf, m₁ = lk [("e", u1), ("ne", u2), ("u", u3), ("v", u4), ("dd", u5), ("datadict", u6), ("attr", some (.ref D')), ("ebunch_to_add", some (.ref lv)), ("self", some (.ref g))] ∧ n₁ = (D', od') :: R ∧
      RowsAt PySem.Challenge.rw_fq0029_01.row.prog w R ra ns lf ∧ (∀ n ∈ ns, (lf n).map (·.1) = links nb u (ks.take i) n) ∧ (∀ p ∈ R, p.1 ≠ D'))
    ⟨none, none, none, none, none, none, R0, lf0, by walk_at "SAME", rfl, hR, hlf, hD0⟩ ?_ ?_
  · rintro I i v m₁ n₁ h tk io hltI hv ⟨u1, u2, u3, u4, u5, u6, R, lf, rfl, rfl, hRows, hlf', hRD⟩ hRI F3 N3
    have hin : i < ts.length := by
      rcases Nat.lt_or_ge i ts.length with h | h
      · exact h
      · rw [Array.getElem?_eq_none (by rw [List.size_toArray, List.length_map]; exact h)] at hv; cases hv
    have hik : i < ks.length := by omega
    obtain ⟨t, tu, tk0, hti, htup⟩ := htu i _ (List.getElem?_eq_getElem hik)
    obtain rfl : v = .ref t := by
      have : (ts.map Value.ref)[i]? = some (.ref t) := by rw [List.getElem?_map, hti]; rfl
      have hv' : (ts.map Value.ref)[i]? = some v := by simpa using hv
      rw [this] at hv'; exact (Option.some.inj hv').symm
    have htk : ks.take (i + 1) = ks.take i ++ [ks[i]] := by
      have : ks[i]? = some ks[i] := List.getElem?_eq_getElem hik
      rw [List.take_add_one, this]; rfl
    have hkm := hks _ (List.getElem_mem hik)
    have hnok := hno i _ (List.getElem?_eq_getElem hik)
    have htb : g'.IsTuple t #[.int u tu, .int ks[i] tk0] := by obtain ⟨ol, hol, r⟩ := htup; exact ⟨ol, kb' _ _ (hto t (List.mem_of_getElem? hti)) hol, r⟩
    generalize ks[i] = k at *
    rw [lk_set] at F3
    obtain ⟨ou, ok, R', mu, mk, hsub, iu, ik, hRu, hRk, huk, hback⟩ := rows_split hRows inj hu hkm.1 hkm.2
    have o1 := ltN (hltI _ (.head _))
    have huk' := ltN' huk
    have i1 := ltN' (hRI _ (.tail _ mu))
    have i2 := ltN' (hRI _ (.tail _ mk))
    have d1 := ltN' (hRD _ mu)
    have d2 := ltN' (hRD _ mk)
    have hRI' : ∀ p ∈ R', p.1 ≠ I := fun p hp => hRI p (.tail _ (hsub p hp))
    have hRD' : ∀ p ∈ R', p.1 ≠ D' := fun p hp => hRD p (hsub p hp)
    have N4 : News g' L' h ((I, io) :: (D', od') :: (ra u, ou) :: (ra k, ok) :: R') := news_sub N3 (fun q hq => by
      simp only [List.mem_cons] at hq ⊢
      rcases hq with rfl | rfl | rfl | rfl | hq
      · simp
      · simp
      · exact .inr (.inr mu)
      · exact .inr (.inr mk)
      · exact .inr (.inr (hsub q hq)))
    clear N3
    have vu : valueAt (lf u) k = none := valueAt_none (by rw [hlf' u hu]; exact hnok.1)
    have vk : valueAt (lf k) u = none := valueAt_none (by rw [hlf' k hkm.1]; exact hnok.2)
    have su : (lf u).length ≤ 200 := by have := congrArg List.length (hlf' u hu); rw [List.length_map] at this; have := hsz i u; omega
    have sk : (lf k).length ≤ 200 := by have := congrArg List.length (hlf' k hkm.1); rw [List.length_map] at this; have := hsz i k; omega
    have hvu := hva u hu
    have lru := hrlo u hu
    have lrk := hrlo k hkm.1
    have hvk := hva k hkm.1
    have hnu : ∃ x, valueAt nl u = some x := by rw [← Option.isSome_iff_exists, valueAt_isSome, hnl]; exact hu
    have hnk : ∃ x, valueAt nl k = some x := by rw [← Option.isSome_iff_exists, valueAt_isSome, hnl]; exact hkm.1
    obtain ⟨xu, hnu⟩ := hnu
    obtain ⟨xk, hnk⟩ := hnk
    generalize hlu : lf u = lu at *
    generalize hlk : lf k = lk9 at *
    generalize ra u = ru at *
    generalize ra k = rk at *
    k_steps
    all_goals first
      | (rename (_ : Int) ≠ 2 => hc9; exact absurd rfl hc9)
      | (rename (_ : Int) = 3 => hc9; exact absurd hc9 (by show (2 : Int) ≠ 3; decide))
      | skip
    · rename_i D1 _ _ _ _ _ _ _ _ _ _ _ _ _ _ _ _ o1' hd1 h9 o2' F9 N9 hd2
      refine TurnEnd.next F9 (news_sub N9 (l' := (I, io) :: (D', od') :: (ru, o1') :: (rk, o2') :: R') (fun q hq => ?_)) ⟨?_, _, _, _, _, _, _, (ru, o1') :: (rk, o2') :: R', _, by walk_at "SAME", rfl, hback o1' o2' _ _ hd1 hd2, fun n hn => ?_, ?_⟩
      · simp only [List.mem_cons] at hq ⊢
        rcases hq with rfl | rfl | rfl | rfl | hq
        · simp
        · simp
        · simp
        · simp
        · simp [hq]
      · exact List.forall_mem_cons.mpr ⟨by k_ne, List.forall_mem_cons.mpr ⟨by k_ne, List.forall_mem_cons.mpr ⟨by k_ne, hRI'⟩⟩⟩
      · rw [htk, links_snoc]
        unfold arc
        by_cases h1 : n = u
        · subst h1
          rw [if_pos rfl, if_neg (Ne.symm hkm.2), if_pos rfl, keys_stored_new (by rw [← hlu, hlf' n hn]; exact hnok.1), ← hlu, hlf' n hn]
        · by_cases h2 : n = k
          · subst h2
            rw [if_neg h1, if_pos rfl, if_pos rfl, if_neg h1, keys_stored_new (by rw [← hlk, hlf' n hn]; exact hnok.2), ← hlk, hlf' n hn]
          · rw [if_neg h1, if_neg h2, if_neg h2, if_neg h1, hlf' n hn]
      · exact List.forall_mem_cons.mpr ⟨by k_ne, List.forall_mem_cons.mpr ⟨by k_ne, hRD'⟩⟩
  · rintro m₁ n₁ h tk ⟨u1, u2, u3, u4, u5, u6, R, lf, rfl, rfl, hRows, hlf', hRD⟩ F3 N3
    dsimp only
    have e0 : ks.take (ts.map Value.ref).toArray.size = ks := by rw [List.size_toArray, List.length_map, hlen, List.take_length]
    rw [e0] at hlf'
    k_steps
    rename Fr _ _ _ _ => F9
    rename News _ _ _ _ => N9
    refine ret _ _ R lf ⟨fun b o hb e => F9.keep _ _ (kb' b o hb e), Nat.le_trans kz' (keeps_of F9).size⟩ (fun q hq => (N9 q (.tail _ hq)).1) hRows hlf'
section
variable {prog : Program} {w : World} {A : Around} {E : Value → Shared → Prop} {s : Shared}
theorem hint_inst {K : Frag} {g C f : Addr} {ox : Obj} {od : Option Obj} {n : Nat} {Q : Bool → Shared → Prop} (X : K.In s.heap) (I : InstAt s.heap g ox C od) (hs : findIn K (.ref C) "__len__" = some (some (.ref f))) (hn : n ≤ 1000)
    (hlen : ∀ Q' : Value → Shared → Prop, (∀ t h' tk', Keeps s.heap h' → Q' (.int n t) { s with heap := h', toks := tk' }) → wpAny (model prog w) A (call (.builtin "len") [.ref g]) Q' Never s)
    (h : ∀ b h' tk', Keeps s.heap h' → Q b { s with heap := h', toks := tk' }) : wpAny (model prog w) A (Builtin.List.listLengthHint (.ref g)) Q E s := by
  unfold Builtin.List.listLengthHint
  refine wpAny_bind ?_
  show wpAny _ _ (specialOf (.ref g) "__len__") _ _ _
  unfold specialOf
  refine wpAny_bind (I.type.here ((looks_findIn X hs).here ?_))
  show wpAny _ _ (rule _ >>= _) _ _ _
  refine wpAny_bind (wpAny_rule ?_)
  refine wpAny_bind (wpAny_attempt (wpAny_mono (E := Never) (hlen (fun v s' => ∃ t h' tk', v = .int n t ∧ Keeps s.heap h' ∧ s' = { s with heap := h', toks := tk' }) fun t h' tk' k => ⟨t, h', tk', rfl, k, rfl⟩) (fun v s' hv => ?_) fun e s' he => ?_))
  · obtain ⟨t, h', tk', rfl, k, rfl⟩ := hv
    show wpAny _ _ (pure (some (n : Int)) >>= _) _ _ _
    refine wpAny_bind (wpAny_pure ?_)
    show wpAny _ _ (if Builtin.List.listTooLong ((n : Int).toNat) = true then _ else _) _ _ _
    rw [if_neg (by unfold Builtin.List.listTooLong; rw [sizeLine_eq]; simp; omega)]
    exact wpAny_pure (h _ _ _ k)
  · exact he.elim
/-- list() of an object of a class of one's own -/
theorem call_list_inst {g C dx : Addr} {n : Nat} {P : Nat → Value → Prop} {Q : Value → Shared → Prop} (hg : s.heap.get? g = some (instObj C dx)) (hn : n ≤ 1000)
    (hIt : ∀ h₁ (Q' : Value → Shared → Prop), (∀ b o, s.heap.get? b = some o → h₁.get? b = some o) → s.heap.objs.size < h₁.objs.size → (∀ (I : Addr) h' tk' fp St, Walks prog w A.in1.in1 I fp [I] n P St → s.heap.objs.size ∉ fp → St 0 h' →
        (∀ b o, h₁.get? b = some o → h'.get? b = some o) → h₁.get? I = none → Q' (.ref I) { s with heap := h', toks := tk' }) → wpAny (model prog w) A.in1.in1 (pyIter (.ref g)) Q' E { s with heap := h₁ })
    (hHint : ∀ h₁ tk (Q' : Bool → Shared → Prop), (∀ b o, s.heap.get? b = some o → h₁.get? b = some o) → (∀ b h' tk', Keeps h₁ h' → Q' b { s with heap := h', toks := tk' }) → wpAny (model prog w) A.in1.in1 (Builtin.List.listLengthHint (.ref g)) Q' E { s with heap := h₁, toks := tk })
    (hQ : ∀ h' tk acc' c', h'.get? s.heap.objs.size = some (lst acc' c') → ItemsOf P acc' n → (∀ b o, s.heap.get? b = some o → h'.get? b = some o) → Q (.ref s.heap.objs.size) { s with heap := h', toks := tk }) : wpAny (model prog w) A (call (.type "list") [.ref g]) Q E s := by
  refine callType_codes (Q₁ := fun obj s₁ => obj = .ref s.heap.objs.size ∧ s₁ = { s with heap := s.heap.push { cls := .type "list", data := .seq #[] } }) F.called_list (F.typeCall_list_1 _) F.entry_list_init
    (code_list_new _ ⟨rfl, rfl⟩) fun obj s₁ h₁ => ?_
  obtain ⟨rfl, rfl⟩ := h₁
  have hS : (s.heap.push { cls := .type "list", data := .seq #[] }).get? s.heap.objs.size = some { cls := .type "list", data := .seq #[] } := Heap.get?_push_size _ rfl
  refine ⟨⟨_, hS, rfl⟩, F.args_list_init_2 _ _, ?_⟩
  have hIS : g ≠ s.heap.objs.size := Nat.ne_of_lt (Heap.lt_size hg)
  show wpAny _ A.in1.in1 (do let old ← Builtin.List.listItems (.ref s.heap.objs.size); Builtin.List.listUpdate (.ref s.heap.objs.size) (fun _ => #[]); letGo old.toList.reverse; Builtin.List.listExtendWith (.ref s.heap.objs.size) (.ref g) .none) _ _ _
  refine wpAny_bind ?_
  unfold Builtin.List.listItems
  refine wpAny_bind (wpAny_seqItems hS rfl (wpAny_pure ?_))
  show wpAny _ A.in1.in1 (updateSeq s.heap.objs.size (fun _ => #[]) >>= fun _ => letGo (#[] : Array Value).toList.reverse >>= fun _ => Builtin.List.listExtendWith (.ref s.heap.objs.size) (.ref g) .none) _ _ _
  refine wpAny_bind (wpAny_updateSeq hS rfl ?_)
  have hS₂ := Heap.get?_update_self (Obj.mapSeq (fun _ => (#[] : Array Value))) hS rfl
  have oth : ∀ (h : Heap) f b o, b ≠ s.heap.objs.size → h.get? b = some o → (h.update s.heap.objs.size f).get? b = some o :=
    fun h f b o hb e => (Heap.get?_update_other _ _ (Ne.symm hb)).trans e
  generalize hz : s.heap.objs.size = S at *
  have hup : ∀ b o, s.heap.get? b = some o → ((s.heap.push { cls := .type "list", data := .seq #[] }).update S (Obj.mapSeq (fun _ => (#[] : Array Value)))).get? b = some o := fun b o e =>
    oth _ _ _ _ (fun q => by rw [q] at e; exact absurd (Heap.lt_size e) (by rw [hz]; exact Nat.lt_irrefl _)) (Heap.get?_push_of_some _ e)
  have hlt : S < ((s.heap.push { cls := .type "list", data := .seq #[] }).update S (Obj.mapSeq (fun _ => (#[] : Array Value)))).objs.size := by
    simp only [Heap.update, Array.size_modify, Heap.push, Array.size_push]
    exact Nat.lt_succ_of_le (Nat.le_of_eq hz.symm)
  generalize hH : (s.heap.push { cls := .type "list", data := .seq #[] }).update S (Obj.mapSeq (fun _ => (#[] : Array Value))) = H at *
  refine wpAny_bind (wpAny_letGo ?_)
  unfold Builtin.List.listExtendWith
  refine wpAny_bind ?_
  simp only [typeOf]
  refine wpAny_bind (wpAny_load (hup _ _ hg) (wpAny_pure ?_))
  have h1 : Builtin.List.listSameRef (.ref S) (.ref g) = false := by simp [Builtin.List.listSameRef, Ne.symm hIS]
  have h2 : ((instObj C dx).cls == Value.type "list") = false := rfl
  have h3 : ((instObj C dx).cls == Value.type "tuple") = false := rfl
  simp only [h1, h2, h3, Bool.or_false, Bool.false_eq_true, if_false]
  refine wpAny_bind (hIt H _ hup hlt fun I h' tk' fp St W hSf hst hk hI => ?_)
  have hSI : S ≠ I := fun e => by rw [← e, hS₂] at hI; cases hI
  refine wpAny_bind (wpAny_holding (hHint h' tk' _ (fun b o e => hk b o (hup b o e)) fun b h'' tk'' hk'' => ?_))
  have hS₃ : h''.get? S = some (lst #[] 0) := hk''.keep _ _ (hk _ _ hS₂)
  have hst' : St 0 h'' := W.frame _ _ _ hst fun b _ o e => hk''.keep b o e
  have hup' : ∀ b o, s.heap.get? b = some o → h''.get? b = some o := fun b o e => hk''.keep _ _ (hk _ _ (hup b o e))
  have fin : ∀ (h₅ : Heap) c₅, h₅.get? S = some (lst #[] c₅) → (∀ b o, b ≠ S → h''.get? b = some o → h₅.get? b = some o) →
      codeAny (model prog w) A.in1 (.builtin "list.extend.loop" ⟨[.ref S, .ref I, .none], []⟩) (wants (fun r s₂ => r = .none ∧ Q (.ref S) s₂) E) { s with heap := h₅, toks := tk'' } := fun h₅ c₅ e5 k5 => by
    refine codeAny_extend_loopS (W.toS) (by rw [sizeLine_eq]; omega) S hSf .none n 0 _ #[] c₅ rfl (Nat.zero_le _) (W.frame _ _ _ hst' fun b hb o e => k5 b o (fun q => hSf (q ▸ hb)) e) e5 (ItemsOf.nil P) fun s' acc' c' hm hS' hacc => ?_
    obtain ⟨h2, g2, d2, tk2, os2⟩ := s'
    have eg : g2 = s.gens := hm.gens
    have ed : d2 = s.drawn := hm.drawn
    have eo : os2 = s.os := hm.os
    subst eg; subst ed; subst eo
    refine ⟨rfl, hQ h2 tk2 acc' c' hS' hacc fun b o e => hm.heap b o ?_ (k5 b o ?_ (hup' b o e))⟩
    · have b1 : b ≠ S := fun q => by rw [q] at e; exact absurd (Heap.lt_size e) (by rw [hz]; exact Nat.lt_irrefl _)
      have b2 : b ≠ I := fun q => by rw [q] at e; rw [hup _ _ e] at hI; cases hI
      simp only [List.mem_cons, List.not_mem_nil, or_false, not_or]
      exact ⟨b1, b2⟩
    · exact fun q => by rw [q] at e; exact absurd (Heap.lt_size e) (by rw [hz]; exact Nat.lt_irrefl _)
  split
  · refine wpAny_bind (wpAny_rule ?_)
    refine wpAny_bind ?_
    show wpAny _ A.in1.in1 (updateSeq S (·.push .none) >>= fun _ => updateSeq S (·.pop)) _ _ _
    refine wpAny_bind (wpAny_updateSeq hS₃ rfl ?_)
    have hS₄ := Heap.get?_update_self (Obj.mapSeq (·.push Value.none)) hS₃ rfl
    refine wpAny_updateSeq (hz := by seq_fits) hS₄ rfl ?_
    have hS₅ := Heap.get?_update_self (Obj.mapSeq (·.pop)) hS₄ rfl
    exact wpAny_pure ⟨plainId_quiet F.plain_extend_loop _, fin _ _ hS₅ fun b o hb e => oth _ _ _ _ hb (oth _ _ _ _ hb e)⟩
  · exact wpAny_pure ⟨plainId_quiet F.plain_extend_loop _, fin h'' 0 hS₃ fun b o hb e => e⟩
end
theorem listG_spec {w : World} {p : Program} {loose : List Str} {mean : ExcName → Option Value} {mg mb : Str → Option Value} {dp un : Nat} {gd : Option (List Code)} {cn : Str} {cs : Scope} {a : Addr} {ccd : Value} {cl : List (Str × Addr)} {outer : List Env} {A₀ : Around} {base h₀ : Heap} {L : Addr} {m : Str → Option Value} {s : Shared} {Q E : Value → Shared → Prop} {g nd ad pd : Addr} {nkvs : List (Int × Value)} {ep : Nat} {ns : List Int}
    (B : Below A₀ base outer h₀) (F : Fr h₀ L s.heap m) (X : (hd.heap_39 w.params).In h₀) (T : Top p loose mean mg mb h₀) (hk : cs.kind = .function) (S : Sys h₀) (hO : DiObj s.heap g nd ad pd) (hat : s.heap.DictAt (PySem.intKind PySem.Challenge.rw_fq0029_01.row.prog w) nd nkvs ep) (lo : (nd == sysModules) = false) (hns : nkvs.map (·.1) = ns) (hnl : ns.length ≤ 100) (hdp : dp + 1 < recursionLimit) (hun : un + 16 < cLine)
    (ret : ∀ D h' tk' acc c, Keeps s.heap h' → s.heap.objs.size ≤ D → h'.get? D = some (lst acc c) → IntsAre acc.toList ns → Q (.ref D) { s with heap := h', toks := tk' }) :
    wpAny (model PySem.Challenge.rw_fq0029_01.row.prog w) (ktrTop dp un gd cn cs L a ccd cl outer) (call (.type "list") [.ref g]) Q E s := by
  obtain ⟨dx, k1, k2, k3, k4, k5, t1, t2, t3, t4, t5, v1, e1, e2⟩ := id hO
  have hlen : nkvs.length = ns.length := by rw [← hns, List.length_map]
  revert X
  k_fill
  intro X
  have hndlt : nd < s.heap.objs.size := by obtain ⟨o, es, ho, _⟩ := hat; exact Heap.lt_size ho
  refine call_list_inst (n := nkvs.length) (P := fun i v => ∃ k x, nkvs[i]? = some (k, x) ∧ (PySem.intKind PySem.Challenge.rw_fq0029_01.row.prog w).is k v = true) e1 (by omega) (fun h₁ Q' hk1 hz1 hq => ?_) (fun h₁ tk1 Q' hk1 hq => ?_) (fun h' tk acc c hS hacc hk => ?_)
  · have F1 : Fr h₀ L h₁ m := ⟨F.ns.keeps hk1, fun b o e => hk1 _ _ (F.keep b o e), F.above⟩
    refine pyIterG_spec (un := un + 1 + 1) (s := { s with heap := h₁ }) B F1 X T hk S (hO.keep hk1) (hat.keep hk1) lo hdp (by omega) fun I h' tk' hk' hI hit => ?_
    have hI' : s.heap.objs.size < I := Nat.lt_of_lt_of_le hz1 hI
    have hne : nd ≠ I := Nat.ne_of_lt (Nat.lt_trans hndlt hI')
    refine hq I h' tk' _ _ (Walks.dictKeys (knd := PySem.intKind PySem.Challenge.rw_fq0029_01.row.prog w) (by rfl) I nd hne nkvs ep) ?_ ⟨hit, (hat.keep hk1).keep hk'.keep⟩ hk'.keep (get_none_of_size hI)
    intro hm
    rcases List.mem_cons.mp hm with q | hm
    · exact absurd q (Nat.ne_of_lt hI')
    · exact absurd (List.mem_singleton.mp hm).symm (Nat.ne_of_lt hndlt)
  · have F1 : Fr h₀ L h₁ m := ⟨F.ns.keeps hk1, fun b o e => hk1 _ _ (F.keep b o e), F.above⟩
    refine hint_inst (f := 359) (n := nkvs.length) (X.keeps F1.keep) (inst_at (hk1 _ _ e1) (hk1 _ _ e2)) (by k_is) (by omega) (fun Q'' hq' => ?_) hq
    exact lenG_spec (un := un + 1 + 1) (s := { s with heap := h₁, toks := tk1 }) B F1 X T hk S (hO.keep hk1) ((Heap.DictAt.dictOf hat).keep hk1) lo (by omega) hdp (by omega) hq'
  · refine ret _ h' tk acc c ⟨hk, Nat.le_of_lt (Heap.lt_size hS)⟩ (Nat.le_refl _) hS ?_
    rw [← hns]
    exact ints_of_keys (prog := PySem.Challenge.rw_fq0029_01.row.prog) (w := w) acc.toList nkvs (by rw [Array.length_toList]; exact hacc.1) fun j v e => hacc.2 j v (by rw [← Array.getElem?_toList]; exact e)
open PyProof.Rows.LCg
section
variable {prog : Program} {w : World} {A : Around} {E : Value → Shared → Prop} {s : Shared} {env : Env}
/-- over the keys of a dict of the base, the target a cell -/
theorem forKeysC {x : Str} {px : Pos} {body : List Stmt} {Q : Flow → Shared → Prop} {I d cc : Addr} {ep : Nat} {kvs : List (Int × Value)} {h₀ : Heap} {m : Str → Option Value} {news : List (Addr × Obj)} {oc : Obj} {v0 : Option Value}
    (F : Fr h₀ env.locals s.heap m) (N : News h₀ env.locals s.heap ((cc, oc) :: news)) (hoc : oc.data = .cell v0) (hd : h₀.DictAt (PySem.intKind prog w) d kvs ep) (hit : s.heap.IsKeyIter I d 0 kvs.length ep) (hI : ∀ p ∈ news, p.1 ≠ I ∧ p.1 ≠ cc) (hIc : cc ≠ I) (hIL : I ≠ env.locals) (hI0 : h₀.get? I = none) (hh : A.handled = none)
    (hk : env.scope.kind = .function) (hx : env.kindOf x = some .cell) (hc : env.cells.lookup x = some cc)
    (J : Nat → (Str → Option Value) → List (Addr × Obj) → Prop) (h0 : J 0 m news)
    (turn : ∀ i k key v m₁ news₁ h tk io oc', kvs[i]? = some (k, v) → (PySem.intKind prog w).is k key = true → J i m₁ news₁ → (∀ p ∈ news₁, p.1 ≠ I ∧ p.1 ≠ cc) → oc'.data = .cell (some key) →
      Fr h₀ env.locals h m₁ → News h₀ env.locals h ((I, io) :: (cc, oc') :: news₁) →
      wpAny (model prog w) A (execs body env) (TurnEnd h₀ env.locals (fun m' n' => ∃ oc'' v'' news₂, n' = (cc, oc'') :: news₂ ∧ oc''.data = .cell v'' ∧ (∀ p ∈ news₂, p.1 ≠ I ∧ p.1 ≠ cc) ∧ J (i + 1) m' news₂) [(I, io)] Q { s with heap := h, toks := tk }) Bot { s with heap := h, toks := tk })
    (done : ∀ m₁ news₁ h tk, J kvs.length m₁ news₁ → Fr h₀ env.locals h m₁ → News h₀ env.locals h news₁ → Q .next { s with heap := h, toks := tk }) :
    ForAt prog w A env (.Name x px) body Q (.ref I) s := by
  obtain ⟨ob, _, hob, _⟩ := id hd
  have hne : d ≠ I := fun e => by rw [e, hI0] at hob; cases hob
  have W := Walks.dictKeys (prog := prog) (w := w) (knd := PySem.intKind prog w) hh I d hne kvs ep
  refine ⟨kvs.length + 1, fun k s' => ∃ h' tk m' oc' v' news' i, s' = { s with heap := h', toks := tk } ∧ h'.IsKeyIter I d i kvs.length ep ∧ Fr h₀ env.locals h' m' ∧ News h₀ env.locals h' ((cc, oc') :: news') ∧ oc'.data = .cell v' ∧ (∀ p ∈ news', p.1 ≠ I ∧ p.1 ≠ cc) ∧ J i m' news' ∧ i ≤ kvs.length ∧ k = kvs.length + 1 - i,
    ⟨s.heap, s.toks, m, oc, v0, news, 0, rfl, hit, F, N, hoc, hI, h0, Nat.zero_le _, rfl⟩, ?_⟩
  rintro k s' ⟨h', tk, m', oc', v', news', i, rfl, hit', F', N', hoc', hoff, hJ, hi, rfl⟩
  have nx : ∀ h₁ : Heap, (∀ b o, b ∉ [I] → h'.get? b = some o → h₁.get? b = some o) → Fr h₀ env.locals h₁ m' ∧ News h₀ env.locals h₁ ((cc, oc') :: news') := fun h₁ hk₁ =>
    ⟨⟨F'.ns.at' fun o e => hk₁ _ o (fun hb => hIL (List.mem_singleton.mp hb).symm) e, fun b o e => hk₁ b o (fun hb => by rw [List.mem_singleton.mp hb, hI0] at e; cases e) (F'.keep b o e), F'.above⟩,
      fun p hp => ⟨hk₁ _ _ (fun hb => by
        rcases List.mem_cons.mp hp with rfl | hp
        · exact hIc (List.mem_singleton.mp hb)
        · exact (hoff p hp).1 (List.mem_singleton.mp hb)) (N' p hp).1, (N' p hp).2⟩⟩
  by_cases hlt : i < kvs.length
  · refine W.item i _ _ _ hlt ⟨hit', hd.keep F'.keep⟩ fun v h₁ tk₁ hP hst₁ hk₁ => ?_
    obtain ⟨F₁, N₁⟩ := nx h₁ hk₁
    obtain ⟨k, y, hki, hkv⟩ := hP
    refine wpAny_of_eq (by rfl) ?_
    have hm1 := N₁ _ (.head _)
    refine wpAny_assign_Name (wpAny_storeName_cell hk hx hc ⟨oc', hm1.1, hoc'⟩ fun h₂ hv₂ hs₂ => ?_)
    obtain ⟨oc2, ho2, hd2⟩ := hv₂
    have F₂ : Fr h₀ env.locals h₂ m' := F₁.change hs₂ hm1.2.1 hm1.2.2
    obtain ⟨io, hio, hic, hid⟩ := hst₁.1
    have hio₂ : h₂.get? I = some io := (hs₂.2 I (Ne.symm hIc)).trans hio
    have N₂ : News h₀ env.locals h₂ ((I, io) :: (cc, oc2) :: news') := fun p hp => by
      rcases List.mem_cons.mp hp with rfl | hp
      · exact ⟨hio₂, hIL, hI0⟩
      · rcases List.mem_cons.mp hp with rfl | hp
        · exact ⟨ho2, hm1.2⟩
        · exact ⟨hs₂.extBut _ _ (hoff p hp).2 (N₁ p (.tail _ hp)).1, (N₁ p (.tail _ hp)).2⟩
    refine wpAny_mono (turn i k v y m' news' _ _ io oc2 hki hkv hJ hoff hd2 F₂ N₂) (fun f s₃ h₃ => ?_) fun _ _ e => e
    have fin : ∀ s₃, (∃ h' tk m' news', s₃ = { s with heap := h', toks := tk } ∧ Fr h₀ env.locals h' m' ∧ News h₀ env.locals h' ([(I, io)] ++ news') ∧ ∃ oc'' v'' news₂, news' = (cc, oc'') :: news₂ ∧ oc''.data = .cell v'' ∧ (∀ p ∈ news₂, p.1 ≠ I ∧ p.1 ≠ cc) ∧ J (i + 1) m' news₂) →
        ∃ mm, mm < kvs.length + 1 - i ∧ ∃ h' tk m' oc' v' news' i, s₃ = { s with heap := h', toks := tk } ∧ h'.IsKeyIter I d i kvs.length ep ∧ Fr h₀ env.locals h' m' ∧ News h₀ env.locals h' ((cc, oc') :: news') ∧ oc'.data = .cell v' ∧ (∀ p ∈ news', p.1 ≠ I ∧ p.1 ≠ cc) ∧ J i m' news' ∧ i ≤ kvs.length ∧ mm = kvs.length + 1 - i := by
      rintro s₃ ⟨h₃, tk₃, m₃, _, rfl, F₃, N₃', oc'', v'', news₂, rfl, hd3, hoff3, hJ₃⟩
      exact ⟨kvs.length + 1 - (i + 1), by omega, h₃, tk₃, m₃, oc'', v'', news₂, i + 1, rfl, ⟨io, (N₃' _ (.head _)).1, hic, hid⟩, F₃, fun p hp => N₃' p (.tail _ hp), hd3, hoff3, hJ₃, hlt, rfl⟩
    cases f with
    | ret v => exact h₃
    | brk => exact h₃
    | cont => exact fin _ h₃
    | next => exact fin _ h₃
  · have hin : i = kvs.length := by omega
    subst hin
    refine W.done _ _ _ ⟨hit', hd.keep F'.keep⟩ fun h₁ tk₁ hk₁ => ?_
    obtain ⟨F₁, N₁⟩ := nx h₁ hk₁
    exact done m' news' h₁ tk₁ hJ F₁ fun p hp => N₁ p (.tail _ hp)
end
section
variable {prog : Program} {w : World} {A : Around} {E : Value → Shared → Prop} {s : Shared} {h₀ : Heap} {L : Addr} {m : Str → Option Value} {env : Env}
def KeysSrcU (prog : Program) (w : World) (A : Around) (h₀ : Heap) (L : Addr) (m : Str → Option Value) (env : Env) (elt : Expr) (x : Str) (scope : Scope) (cl : List (Str × Addr)) (Fin : Shared → List Value → List (Addr × Obj) → Prop) (it : Value) (s₂ : Shared) : Prop :=
  ∃ I d kvs ep news, it = .ref I ∧ A.handled = none ∧ Fr h₀ L s₂.heap m ∧ News h₀ L s₂.heap news ∧ h₀.DictAt (PySem.intKind prog w) d kvs ep ∧ s₂.heap.IsKeyIter I d 0 kvs.length ep ∧ h₀.get? I = none ∧ L ≠ I ∧ (∀ p ∈ news, p.1 ≠ I) ∧ kvs.length ≤ sizeLine ∧
    CompRest prog w A h₀ L m env elt x scope cl s₂ (fun _ => True) (fun i v => ∃ k y, kvs[i]? = some (k, y) ∧ (PySem.intKind prog w).is k v = true) (Fin s₂) kvs.length 0 [] news
theorem ListComp_KU {elt iter : Expr} {x : Str} {px : Pos} {scope : Scope} {cl : List (Str × Addr)} {pos : Pos} {Q : Value → Shared → Prop} (F₀ : Fr h₀ L s.heap m)
    (hclos : closureFor scope env = pure cl) (hcell : ∀ y ∈ scope.names, y.2 ≠ .cell) (hkind : scope.kind = .function)
    (hnames : ∀ y ∈ scope.names, y.2 = .local → scope.names.lookup y.1 = some .local) (hx : scope.names.lookup x = some .local)
    (h : wpAny (model prog w) A (eval iter env) (fun xv s₁ => wpAny (model prog w) A (pyIter xv) (KeysSrcU prog w A h₀ L m env elt x scope cl (fun s₂ => FinE h₀ L m s₂ Q)) E s₁) E s)
    (hs : ∀ x, foldedSetIterable iter env x = pure x) :
    wpAny (model prog w) A (eval (.ListComp elt [⟨.Name x px, iter, [], 0⟩] scope pos) env) Q E s := by
  rw [eval_ListComp]
  refine wpAny_comprehension_free (use := none) rfl hs hclos hkind hnames (wpAny_mono h (fun xv s₁ h₁ => wpAny_mono h₁ (fun it s₂ h₂ => ?_) fun _ _ e => e) fun _ _ e => e)
  obtain ⟨I, d, kvs, ep, news, rfl, hh, F, N, hd, hit, hI0, hLI, off, hsz, R⟩ := h₂
  obtain ⟨ob, _, hob, _⟩ := id hd
  have hne : d ≠ I := fun e => by rw [e, hI0] at hob; cases hob
  have hdlt := Heap.lt_size (F.keep _ _ hob)
  have hIlt : I < s₂.heap.objs.size := by obtain ⟨o, ho, _⟩ := hit; exact Heap.lt_size ho
  refine block_U (Walks.dictKeys (knd := PySem.intKind prog w) hh I d hne kvs ep) hsz (fun i h st => by obtain ⟨o, e, _⟩ := st.1; exact ⟨o, e⟩)
    (fun i h h' o nw st e e' kb _ _ => ⟨by obtain ⟨o', q, r⟩ := st.1; rw [e] at q; cases q; exact ⟨o, e', r⟩, hd.keep kb⟩) hcell hkind hx ⟨hit, hd.keep F.keep⟩ (fun b hb => ?_) F N hLI hI0 off trivial R ?_
  · rcases List.mem_cons.mp hb with rfl | hb
    · exact hIlt
    · rw [List.mem_singleton.mp hb]; exact hdlt
  · intro D C h tk m' ys news' F' N' o1 hn hC₀ hD₀ hCL hDL hCD offC fin
    refine ⟨m', hn, fun h'' hs'' => fin D h'' tk (F'.change hs'' hCL hC₀) (fun p hp => ?_) o1⟩
    refine ⟨hs''.extBut _ _ ?_ (N' p hp).1, (N' p hp).2⟩
    rcases List.mem_cons.mp hp with rfl | hp
    · exact Ne.symm hCD
    · exact offC p hp
end
theorem find_row {ns : List Int} {ra : Int → Addr} (inj : ∀ n ∈ ns, ∀ k ∈ ns, ra n = ra k → n = k) {n : Int} (hn : n ∈ ns) : ns.find? (fun k => ra k == ra n) = some n := by
  cases e : ns.find? (fun k => ra k == ra n) with
  | none => have := List.find?_eq_none.mp e n hn; simp at this
  | some k =>
    have h1 := List.find?_some e
    have h2 := List.mem_of_find?_eq_some e
    have : ra k = ra n := by simpa using h1
    rw [inj k h2 n hn this]
theorem addedges_spec {w : World} {p : Program} {loose : List Str} {mean : ExcName → Option Value} {mg mb : Str → Option Value} {dp un : Nat} {gd : Option (List Code)} {cn : Str} {cs : Scope} {a : Addr} {ccd : Value} {cl : List (Str × Addr)} {outer : List Env} {A₀ : Around} {base h₀ : Heap} {L : Addr} {m : Str → Option Value} {s : Shared} {Q E : Value → Shared → Prop} {H : List (Addr × Obj)} {g nd ad lv : Addr} {u : Int} {ks ns : List Int} {ts : List Addr} {nb : Int → List Int}
    (B : Below A₀ base outer h₀) (F : Fr h₀ L s.heap m) (X : (hd.heap_39 w.params).In h₀) (T : Top p loose mean mg mb h₀) (hk : cs.kind = .function) (S : Sys h₀) (N₀ : News h₀ L s.heap H) (hG : UGr PySem.Challenge.rw_fq0029_01.row.prog w H g nd ad ns nb) (hl : s.heap.IsList lv (ts.map Value.ref).toArray)
    (htu : ∀ (i : Nat) (k : Int), ks[i]? = some k → ∃ (t : Addr) (tu tk : Tok), ts[i]? = some t ∧ s.heap.IsTuple t #[.int u tu, .int k tk]) (hlen : ts.length = ks.length) (hu : u ∈ ns) (hks : ∀ k ∈ ks, k ∈ ns ∧ k ≠ u)
    (hsz : ∀ (i : Nat) (n : Int), (links nb u (ks.take i) n).length ≤ 100) (hno : ∀ (i : Nat) (k : Int), ks[i]? = some k → k ∉ links nb u (ks.take i) u ∧ u ∉ links nb u (ks.take i) k)
    (hdp : dp + 20 < recursionLimit) (hun : un + 200 < cLine)
    (ret : ∀ h' tk' H', KeepsBut (H.map (·.1)) s.heap h' → News h₀ L h' H' → (∀ p ∈ H', p.1 ∈ H.map (·.1)) → UGr PySem.Challenge.rw_fq0029_01.row.prog w H' g nd ad ns (links nb u ks) → Q .none { s with heap := h', toks := tk' }) :
    wpAny (model PySem.Challenge.rw_fq0029_01.row.prog w) (ktrTop dp un gd cn cs L a ccd cl outer) (call (.ref 439) [.ref g, .ref lv]) Q E s := by
  obtain ⟨c, ra, dx, k1, k2, k3, t1, t2, t3, v1, hU, hg, hdx, cg, cdx, hc⟩ := hG
  obtain ⟨nl, en, hn0⟩ := hU.nds
  obtain ⟨al, ea, ha0, hva⟩ := hU.ads
  have hh := holds_gr N₀ hc
  have inH : ∀ {a : Addr} {o : Obj}, (a, o) ∈ H → a ∈ H.map (·.1) := fun hm => List.mem_map.mpr ⟨_, hm, rfl⟩
  have lo : ∀ {a : Addr} {l : List (Int × Value)}, c a = some l → (a == sysModules) = false := fun e => hU.lo e
  have memR : ∀ {b : Addr}, b ∈ (H.filter fun p => ns.any fun n => ra n == p.1).map (·.1) → ∃ n ∈ ns, b = ra n ∧ ∃ l, c (ra n) = some l := fun {b} hb => by
    obtain ⟨p, hp, rfl⟩ := List.mem_map.mp hb
    obtain ⟨n, hn, e⟩ := List.any_eq_true.mp (List.mem_filter.mp hp).2
    obtain ⟨l, e2, _⟩ := hU.rows n hn
    exact ⟨n, hn, by have := eq_of_beq e; exact this.symm, l, e2⟩
  have subR : ∀ {b : Addr}, b ∈ (H.filter fun p => ns.any fun n => ra n == p.1).map (·.1) → b ∈ H.map (·.1) := fun {b} hb => by
    obtain ⟨p, hp, rfl⟩ := List.mem_map.mp hb
    exact inH (List.mem_filter.mp hp).1
  have rowR : ∀ {n : Int} {o : Obj}, n ∈ ns → (ra n, o) ∈ H → (ra n, o) ∈ H.filter fun p => ns.any fun n => ra n == p.1 := fun hn hm => List.mem_filter.mpr ⟨hm, List.any_eq_true.mpr ⟨_, hn, by simp⟩⟩
  have offdict : ∀ {b : Addr} {o : Obj}, s.heap.get? b = some o → o.cls ≠ .type "dict" → b ∉ (H.filter fun p => ns.any fun n => ra n == p.1).map (·.1) := fun {b o} ho hcl hb => by
    obtain ⟨n, hn, rfl, l, e⟩ := memR hb
    obtain ⟨o', ho', es, ep, hx, _⟩ := hc _ _ e
    have := (N₀ _ ho').1
    rw [ho] at this; cases this
    exact hcl hx.1
  refine addedges_walk (ra := ra) (lf0 := fun n => (c (ra n)).getD []) (nb := nb) B F X T hk S (R0 := H.filter fun p => ns.any fun n => ra n == p.1) (news_sub N₀ fun q hq => (List.mem_filter.mp hq).1) (N₀ _ hg).1 (N₀ _ hdx).1 ⟨fun n hn => ?_, fun p hp => ?_⟩ hU.injA (fun n hn => ?_) (hh _ _ en) hn0 (hh _ _ ea) hva (fun n hn => by obtain ⟨l, e, _⟩ := hU.rows n hn; exact lo e) (lo en) (lo ea) (fun b hb hm => ?_) hl ?_ (fun t ht hm => ?_) htu hlen hu hks hsz hno hdp hun fun h' tk' R' lf' kb hR' hRows hlf => ?_
  · obtain ⟨l, e, _⟩ := hU.rows n hn
    obtain ⟨o, ho, hio⟩ := hc _ _ e
    exact ⟨o, rowR hn ho, by rw [e]; exact hio⟩
  · obtain ⟨n, hn, e⟩ := List.any_eq_true.mp (List.mem_filter.mp hp).2
    exact ⟨n, hn, (eq_of_beq e).symm⟩
  · obtain ⟨l, e, hl'⟩ := hU.rows n hn
    show ((c (ra n)).getD []).map _ = _
    rw [e]; exact hl'
  · obtain ⟨n, hn, e, l, ec⟩ := memR hm
    simp only [List.mem_cons, List.not_mem_nil, or_false] at hb
    rcases hb with rfl | rfl | rfl | rfl
    · rw [← e, cg] at ec; cases ec
    · rw [← e, cdx] at ec; cases ec
    · exact (hU.offA n hn).1 e.symm
    · exact (hU.offA n hn).2 e.symm
  · obtain ⟨ol, hol, hcl, _⟩ := id hl
    exact offdict hol (by rw [hcl]; decide)
  · obtain ⟨i, hi, rfl⟩ := List.getElem_of_mem ht
    obtain ⟨t, tu, tk, e, o, ho, hcl, _⟩ := htu i _ (List.getElem?_eq_getElem (by omega))
    rw [List.getElem?_eq_getElem hi] at e
    cases e
    exact offdict ho (by rw [hcl]; decide) hm
  · have kbH : KeepsBut (H.map (·.1)) s.heap h' := kb.mono fun b hb => subR hb
    have hrow : ∀ n ∈ ns, ∃ o, h'.get? (ra n) = some o ∧ o.IsDictOf (PySem.intKind PySem.Challenge.rw_fq0029_01.row.prog w) (lf' n) ∧ ra n ∈ H.map (·.1) := fun n hn => by
      obtain ⟨o, ho, hio⟩ := hRows.at_ n hn
      obtain ⟨l, e, _⟩ := hU.rows n hn
      obtain ⟨o0, ho0, _⟩ := hc _ _ e
      exact ⟨o, hR' _ ho, hio, inH ho0⟩
    have nrow : ∀ {a : Addr}, (∀ n ∈ ns, ra n ≠ a) → a ∉ (H.filter fun p => ns.any fun n => ra n == p.1).map (·.1) := fun {a} hn hm => by
      obtain ⟨n, hn', e, _⟩ := memR hm
      exact hn n hn' e.symm
    have nfind : ∀ {a : Addr}, (∀ n ∈ ns, ra n ≠ a) → ns.find? (fun k => ra k == a) = none := fun {a} hn => List.find?_eq_none.mpr fun n hn' => by simpa using hn n hn'
    have gn : ∀ n ∈ ns, ra n ≠ g := fun n hn e => by obtain ⟨l, e2, _⟩ := hU.rows n hn; rw [e, cg] at e2; cases e2
    have dn : ∀ n ∈ ns, ra n ≠ dx := fun n hn e => by obtain ⟨l, e2, _⟩ := hU.rows n hn; rw [e, cdx] at e2; cases e2
    refine ret h' tk' (snap h' (H.map (·.1))) kbH (fun p hp => ?_) (fun p hp => (mem_snap.mp (show (p.1, p.2) ∈ _ from hp)).1) ⟨fun a => match ns.find? (fun k => ra k == a) with | some n => some (lf' n) | none => c a, ra, dx, k1, k2, k3, t1, t2, t3, v1, ⟨⟨nl, ?_, hn0⟩, ⟨al, ?_, ha0, hva⟩, fun n hn => ⟨lf' n, ?_, hlf n hn⟩, hU.tops, hU.offA, hU.injA, ?_⟩, mem_snap.mpr ⟨inH hg, kb.keep _ _ (nrow gn) (N₀ _ hg).1⟩, mem_snap.mpr ⟨inH hdx, kb.keep _ _ (nrow dn) (N₀ _ hdx).1⟩, ?_, ?_, fun a l e => ?_⟩
    · obtain ⟨a, o⟩ := p
      obtain ⟨ha, ho⟩ := mem_snap.mp hp
      obtain ⟨q, hq, rfl⟩ := List.mem_map.mp ha
      exact ⟨ho, (N₀ q hq).2⟩
    · (try dsimp only); rw [nfind fun n hn => (hU.offA n hn).1]; exact en
    · (try dsimp only); rw [nfind fun n hn => (hU.offA n hn).2]; exact ea
    · (try dsimp only); rw [find_row hU.injA hn]
    · (try dsimp only); rw [nfind fun n hn q => by obtain ⟨l, e, _⟩ := hU.rows n hn; exact beq_eq_false_iff_ne.mp (lo e) q]; exact hU.lo1
    · (try dsimp only); rw [nfind gn]; exact cg
    · (try dsimp only); rw [nfind dn]; exact cdx
    · dsimp only at e
      cases hf : ns.find? (fun k => ra k == a) with
      | some n =>
        rw [hf] at e
        cases e
        have hn := List.mem_of_find?_eq_some hf
        have he : ra n = a := by simpa using List.find?_some hf
        subst he
        obtain ⟨o, ho, hio, hm⟩ := hrow n hn
        exact ⟨o, mem_snap.mpr ⟨hm, ho⟩, hio⟩
      | none =>
        rw [hf] at e
        obtain ⟨o, ho, hio⟩ := hc _ _ e
        have hna : ∀ n ∈ ns, ra n ≠ a := fun n hn q => by
          have := List.find?_eq_none.mp hf n hn
          simp [q] at this
        exact ⟨o, mem_snap.mpr ⟨inH ho, kb.keep _ _ (nrow hna) (N₀ _ ho).1⟩, hio⟩
open PyProof.Rows.LCg
abbrev tup2 (u : Int) (tu : Tok) (k : Int) (tk : Tok) : Obj := { cls := .type "tuple", data := .seq #[.int u tu, .int k tk] }
section
variable {prog : Program} {w : World} {A : Around} {E : Value → Shared → Prop} {s : Shared} {h₀ : Heap} {L : Addr} {m : Str → Option Value} {env : Env}
theorem rest_tup {elt : Expr} {x : Str} {scope : Scope} {cl : List (Str × Addr)} {kvs : List (Int × Value)} {news : List (Addr × Obj)} {Fin : List Value → List (Addr × Obj) → Prop} {u : Int} {tu : Tok}
    (turn : ∀ k tk0 I oI C oC D m₂ h tk ys T (E' : Value → Shared → Prop), NsObj oC m₂ → m₂ x = some (.int k tk0) → Fr h₀ L h m → News h₀ L h ((I, oI) :: (C, oC) :: (D, PyProof.Rows.LCg.lst ys) :: (T ++ news)) → Off3 I C D (T ++ news) →
      wpAny (model prog w) A (eval elt (compEnvC scope cl C env)) (fun y s'' => Stop (∃ t h'' tk'', y = .ref t ∧ s'' = { s with heap := h'', toks := tk'' } ∧ Fr h₀ L h'' m ∧ News h₀ L h'' ((t, tup2 u tu k tk0) :: (I, oI) :: (C, oC) :: (D, PyProof.Rows.LCg.lst ys) :: (T ++ news)) ∧ I < t ∧ C < t ∧ D < t)) E' { s with heap := h, toks := tk })
    (fin : ∀ (ts : List Addr) T, ts.length = kvs.length → (∀ (i : Nat) (k : Int), (kvs.map (·.1))[i]? = some k → ∃ (t : Addr) (tk : Tok), ts[i]? = some t ∧ (t, tup2 u tu k tk) ∈ T) → Fin (ts.map Value.ref) (T ++ news)) :
    CompRest prog w A h₀ L m env elt x scope cl s (fun _ => True) (fun i v => ∃ k y, kvs[i]? = some (k, y) ∧ (PySem.intKind prog w).is k v = true) Fin kvs.length 0 [] news := by
  suffices hgen : ∀ (k i : Nat) (ts : List Addr) T, i + k = kvs.length → ts.length = i → (∀ (j : Nat) (k : Int), j < i → (kvs.map (·.1))[j]? = some k → ∃ (t : Addr) (tk : Tok), ts[j]? = some t ∧ (t, tup2 u tu k tk) ∈ T) →
      CompRest prog w A h₀ L m env elt x scope cl s (fun _ => True) (fun i v => ∃ k y, kvs[i]? = some (k, y) ∧ (PySem.intKind prog w).is k v = true) Fin k i (ts.map Value.ref) (T ++ news) from
    hgen kvs.length 0 [] [] (Nat.zero_add _) rfl fun j k hj => absurd hj (Nat.not_lt_zero _)
  intro k
  induction k with
  | zero =>
    intro i ts T hi hts hT
    rw [Nat.add_zero] at hi
    refine CompRest.zero (fin ts T (by rw [hts, hi]) fun j k hj => hT j k ?_ hj)
    have := (List.getElem?_eq_some_iff.mp hj).1
    rw [List.length_map] at this
    omega
  | succ j ih =>
    intro i ts T hi hts hT
    refine CompRest.succ fun v I oI C oC D m₂ h tk E' hv hC hx' F N off ne => ?_
    obtain ⟨k, y, hki, hkv⟩ := hv
    obtain ⟨tk0, rfl⟩ := Value.isInt_shape hkv
    refine wpAny_mono (turn k tk0 I oI C oC D m₂ h tk _ T E' hC hx' F N off) (fun y s' h' => ?_) fun _ _ e => e
    obtain ⟨t, h'', tk'', rfl, rfl, F', N', l1, l2, l3⟩ := h'
    refine CompEnd.intro F' N' ((t, tup2 u tu k tk0) :: T ++ news) (fun p hp => ?_) ⟨⟨Nat.ne_of_gt l1, Nat.ne_of_gt l2, Nat.ne_of_gt l3⟩, off⟩ trivial ?_
    · simp only [List.cons_append, List.mem_cons] at hp ⊢
      rcases hp with rfl | rfl | rfl | rfl | hp
      · simp
      · simp
      · simp
      · simp
      · simp [hp]
    · have := ih (i + 1) (ts ++ [t]) ((t, tup2 u tu k tk0) :: T) (by omega) (by rw [List.length_append, hts]; rfl) fun j' k' hj' hk' => by
        rcases Nat.lt_or_ge j' i with h | h
        · obtain ⟨t', tk', e1, e2⟩ := hT j' k' h hk'
          exact ⟨t', tk', by rw [List.getElem?_append_left (by rw [hts]; exact h)]; exact e1, .tail _ e2⟩
        · obtain rfl : j' = i := by omega
          rw [List.getElem?_map, hki] at hk'
          cases hk'
          exact ⟨t, tk0, by rw [← hts]; simp, .head _⟩
      rw [List.map_append] at this
      exact this
end
section
theorem isl_arr {h : Heap} {a : Addr} {acc : Array Value} {c : Nat} (e : h.get? a = some (lst acc c)) : h.IsList a acc.toList.toArray := ⟨_, e, rfl, c, by rw [Array.toArray_toList]⟩
local macro_rules | `(tactic| walk_at "eval ListComp") => `(tactic| (k_here; k_dflt (refine' ListComp_KU ?hF ?hclos ?hcell ?hkind ?hnames ?hx ?_ ?hs; (case hF => k_asm); (case hclos => with_unfolding_all rfl); (case hcell => decide); (case hkind => rfl); (case hnames => decide); (case hx => with_unfolding_all rfl); (case hs => intro _; with_unfolding_all rfl))))
theorem front_cell {g' h : Heap} {L' : Addr} {a b c p : Addr × Obj} {T news : List (Addr × Obj)} (N : News g' L' h (a :: b :: c :: (T ++ news))) (hm : p ∈ news) : News g' L' h (p :: a :: b :: c :: (T ++ news)) := fun q hq => by
  rcases List.mem_cons.mp hq with rfl | hq
  · exact N _ (.tail _ (.tail _ (.tail _ (List.mem_append_right _ hm))))
  · exact N q hq
theorem stopI {P : Prop} (h : Stop P) : P := h
local macro_rules | `(tactic| walk_at "call ref") => `(tactic| (first
  | (with_reducible show wpAny _ _ (call (Value.ref 564) _) _ _ _)
  | (with_reducible show wpAny _ _ (call (Value.ref 380) _) _ _ _)
  | (with_reducible show wpAny _ _ (call (Value.ref 439) _) _ _ _)); refine stopI ?_)
local macro_rules | `(tactic| walk_at "call type:list") => `(tactic| (k_here; (with_reducible show wpAny _ _ (call (Value.type "list") [Value.ref _]) _ _ _); k_dflt (refine' listG_spec ?B ?F ?X ?T ?hk ?S ?hO ?hat ?lo ?hns ?hnl ?hdp ?hun ?_; (case B => k_asm); (case F => k_asm); (case X => k_asm); (case T => k_asm); (case hk => rfl); (case S => assumption); (case hO => walk_at "DIO"); (case hat => walk_at "DAT"); (case lo => assumption); (case hns => assumption); (case hnl => omega); (case hdp => walk_at "ROOM"); (case hun => walk_at "UNITS")); intro D' h' tk' acc' c' hk' hsz' hD' hI'; (have N' := news_add (by k_asm) (news_onto (by k_asm) hk') hsz' hD'); (have l1' := news_lt (by k_asm) hsz'); (have F' := fr_onto (by k_asm) hk'); (try k_lt l1'); (try dsimp only); (try k_sweep)))
def und (sb : Int → List Int) (l : List Int) : Int → List Int := l.foldl (fun f u => links f u (sb u)) fun _ => []
theorem und_snoc (sb : Int → List Int) (l : List Int) (u : Int) : und sb (l ++ [u]) = links (und sb l) u (sb u) := by
  unfold und
  rw [List.foldl_append]
  rfl
theorem und_spec {w : World} {p : Program} {loose : List Str} {mean : ExcName → Option Value} {mg mb : Str → Option Value} {dp un : Nat} {gd : Option (List Code)} {cn : Str} {cs : Scope} {a : Addr} {ccd : Value} {cl : List (Str × Addr)} {outer : List Env} {A₀ : Around} {base h₀ : Heap} {L : Addr} {m : Str → Option Value} {s : Shared} {Q E : Value → Shared → Prop} {g : Addr} {ns : List Int} {sb pb : Int → List Int}
    (B : Below A₀ base outer h₀) (F : Fr h₀ L s.heap m) (X : (hd.heap_39 w.params).In h₀) (T : Top p loose mean mg mb h₀) (hk : cs.kind = .function) (S : Sys h₀) (hG : DiG PySem.Challenge.rw_fq0029_01.row.prog w s.heap g ns sb pb) (hcs : Closed ns sb) (hnd : ns.Nodup) (hnl0 : ns.length ≤ 12)
    (hok : ∀ (i : Nat) (u : Int), ns[i]? = some u → (∀ (j : Nat) (n : Int), (links (und sb (ns.take i)) u ((sb u).take j) n).length ≤ 100) ∧ (sb u).length ≤ 100 ∧ ∀ (j : Nat) (k : Int), (sb u)[j]? = some k → k ≠ u ∧ k ∉ links (und sb (ns.take i)) u ((sb u).take j) u ∧ u ∉ links (und sb (ns.take i)) u ((sb u).take j) k)
    (hdp : dp + 30 < recursionLimit) (hun : un + 300 < cLine)
    (ret : ∀ x nd ad H h' tk', Keeps s.heap h' → (∀ p ∈ H, h'.get? p.1 = some p.2 ∧ s.heap.get? p.1 = none) → UGr PySem.Challenge.rw_fq0029_01.row.prog w H x nd ad ns (und sb ns) → Q (.ref x) { s with heap := h', toks := tk' }) :
    wpAny (model PySem.Challenge.rw_fq0029_01.row.prog w) (ktrTop dp un gd cn cs L a ccd cl outer) (call (.ref 596) [.ref g]) Q E s := by
  have N₀ : News h₀ L s.heap [] := News.nil
  revert X
  k_fill
  intro X
  refine wpAny_call ?_
  refine' enterC (binds := [(("G" : Str), (.ref g : Value))]) ([] : List (Addr × Obj)) ?k1 ?k2 ?k2n ?k3 ?k5 ?kA ?kF ?kK ?k6 ?k7 ?k8 ?k9 ?kL ?kB ?kN (fun L' => [(("u" : Str), L' + 1)]) ?kC ?_ ?c2 ?c3 ?c4
  case kA => exact rfl
  case kF => exact rfl
  case kK => assumption
  case k1 => exact B
  case k2 => exact F
  case k2n => exact N₀
  case k3 => exact X
  case k5 => exact T
  case k6 => k_is
  case k7 => k_is
  case k8 => ktr_room
  case k9 => first | exact BindsTo.of_eq rfl | exact kp_binds (X.keeps F.keep) (fun _ => rfl)
  case kL => intro _; repeat (first | exact List.forall_mem_nil _ | refine List.forall_mem_cons.mpr ⟨rfl, ?_⟩)
  case kN => decide
  case kC => intro _; rfl
  case kB => exact locs rfl
  case c2 => exact rfl
  case c3 => exact rfl
  case c4 => exact rfl
  intro g' L' h' tk' cells' hg' F' N' Y' lH' B' X' T' st'
  try dsimp only
  k_fold
  have S' : Sys g' := S.keep st'
  replace F' : Fr g' L' h' (lk [(("G" : Str), some (.ref g : Value))]) := F'
  k_cells Y'
  try dsimp only [List.cons_append, List.nil_append] at N'
  try k_lt lH'
  have hgk : ∀ b o, s.heap.get? b = some o → g'.get? b = some o := fun b o e => by rw [hg']; exact hideAll_get _ e (by simp)
  have hG' := hG.keep hgk
  obtain ⟨nd0, ad0, pd0, nkvs, hO, e3, e4, e5, hA, hP⟩ := id hG'
  obtain ⟨epn, hat⟩ := e4.dictAt
  obtain ⟨dx0, k1, k2, k3, k4, k5, t1, t2, t3, t4, t5, v1, e1, e2⟩ := id hO
  rename_i oc dc
  k_steps
  unfold Stop
  show wpAny _ (ktrTop _ _ _ _ _ _ _ _ _ _) (call (.ref 564) []) _ _ _
  refine graph_new B' F' X' T' rfl (S.keep st') N' (by walk_at "ROOM") (by walk_at "UNITS") fun x nd ad H h3 tk3 F3 N3 hlt hU => ?_
  obtain ⟨c, ra, dx, j1, j2, j3, q1, q2, q3, w1, hUC, hgx, hdx, cg, cdx, hc⟩ := id hU
  have N4 : News g' L' h3 ((x, instObj 564 dx) :: (dx, dictOf [⟨j1, .str "graph" q1, w1⟩, ⟨j2, .str "_node" q2, .ref nd⟩, ⟨j3, .str "_adj" q3, .ref ad⟩] 3) :: (L' + 1, oc) :: H) := news_sub N3 (fun q hq => by
    simp only [List.mem_cons, List.mem_append, List.not_mem_nil, or_false] at hq ⊢
    rcases hq with rfl | rfl | rfl | hq
    · exact .inl hgx
    · exact .inl hdx
    · exact .inr rfl
    · exact .inl hq)
  clear N3
  have S9 : Sys g' := S.keep st'
  k_steps
  unfold Stop
  rename Fr _ _ _ _ => F5
  rename News _ _ _ _ => N5
  rename IntsAre _ _ => hI5
  have hHn : ∀ b ∈ H.map (·.1), g'.get? b = none ∧ b ≠ L' := fun b hb => by
    obtain ⟨q, hq, rfl⟩ := List.mem_map.mp hb
    exact (N5 q (.tail _ (.tail _ (.tail _ (.tail _ hq))))).2.symm
  show wpAny _ (ktrTop _ _ _ _ _ _ _ _ _ _) (call (.ref 380) [.ref x, .ref _]) _ _ _
  refine addnodes_spec B' F5 X' T' rfl S9 (news_sub N5 (fun q hq => .tail _ (.tail _ (.tail _ (.tail _ hq))))) hU (isl_arr (N5 _ (.head _)).1) hI5 hnd hnl0 (by walk_at "ROOM") (by walk_at "UNITS") fun h6 tk6 H6 kb6 N6 hnew6 hU6 => ?_
  have F6 := fr_kb F5 kb6 hHn
  have hcellH : L' + 1 ∉ H.map (·.1) := fun hm => by
    obtain ⟨q, hq, e⟩ := List.mem_map.mp hm
    exact absurd e (Nat.ne_of_gt (hlt q hq _ (.head _)))
  have c6 : h6.get? (L' + 1) = some oc := kb6.keep _ _ hcellH (N5 (L' + 1, oc) (by k_mem)).1
  have cn6 := (N5 (L' + 1, oc) (by k_mem)).2
  have hc6 : ∀ p ∈ H6, p.1 ≠ L' + 1 := fun p hp e => by
    rcases hnew6 p hp with hm | hn
    · exact hcellH (e ▸ hm)
    · rw [e, (N5 (L' + 1, oc) (by k_mem)).1] at hn; cases hn
  have N7 : News g' L' h6 ((L' + 1, oc) :: H6) := List.forall_mem_cons.mpr ⟨⟨c6, cn6⟩, N6⟩
  clear N5 N6 F5
  k_steps
  walk_at "PYITERG"
  intro I h8 tk8 hk8 hI8 hit8
  dsimp only at *
  rename Fr _ _ _ _ => F7
  have F8 := fr_onto F7 hk8
  have N8 := news_onto N7 hk8
  have hIn := fr_new F7 hI8
  refine forKeysC F8 N8 dc hat hit8 (fun p hp => ⟨Nat.ne_of_lt (Nat.lt_of_lt_of_le (Heap.lt_size (N7 p (.tail _ hp)).1) hI8), hc6 p hp⟩) (Nat.ne_of_lt (Nat.lt_of_lt_of_le (Heap.lt_size c6) hI8)) hIn.2 hIn.1 rfl rfl (by rfl) (by rfl)
    (fun i m₁ n₁ => m₁ = lk [("H", some (.ref x)), ("G", some (.ref g))] ∧ UGr PySem.Challenge.rw_fq0029_01.row.prog w n₁ x nd ad ns (und sb (ns.take i)) ∧ ∀ p ∈ n₁, p.1 ∈ H6.map (·.1))
    ⟨by walk_at "SAME", hU6, fun p hp => List.mem_map_of_mem hp⟩ ?_ ?_
  · rintro i k key v m₁ H9 h tk io oc' hki hkey ⟨rfl, hU9, hsub9⟩ hoff hocd F9 N9
    obtain ⟨tu, rfl⟩ := Value.isInt_shape hkey
    obtain ⟨⟨kvd, hkd, hkn, hnb⟩, hadlo⟩ := id hA
    have hkns : k ∈ ns := by rw [← e5]; exact List.mem_map.mpr ⟨(k, v), List.mem_of_getElem? hki, rfl⟩
    obtain ⟨ai, ivs, hva, halo, hiv, hik⟩ := hnb k hkns
    obtain ⟨epi, hati⟩ := hiv.dictAt
    obtain ⟨c9, ra9, dx9, j1, j2, j3, q1, q2, q3, w1, hUC9, hgx9, hdx9, cg9, cdx9, hc9⟩ := id hU9
    have N10 : News g' L' h ((I, io) :: (L' + 1, oc') :: (x, instObj 564 dx9) :: (dx9, dictOf [⟨j1, .str "graph" q1, w1⟩, ⟨j2, .str "_node" q2, .ref nd⟩, ⟨j3, .str "_adj" q3, .ref ad⟩] 3) :: H9) := news_sub N9 (fun q hq => by
      simp only [List.mem_cons] at hq ⊢
      rcases hq with rfl | rfl | rfl | rfl | hq
      · simp
      · simp
      · exact .inr (.inr hgx9)
      · exact .inr (.inr hdx9)
      · exact .inr (.inr hq))
    k_steps
    dsimp only
    refine wpAny_pyIter_dict halo (hati.keep F9.keep) ?_
    dsimp only
    refine ⟨h.objs.size, ai, ivs, epi, _, rfl, rfl, F9.push _, (fun p hp => ⟨Heap.get?_push_of_some _ (N10 p hp).1, (N10 p hp).2⟩), hati, ⟨_, Heap.get?_push_size _ rfl, rfl, rfl⟩, fr_none F9 (Nat.le_refl _), Nat.ne_of_lt F9.ns.lt, (fun p hp => Nat.ne_of_lt (Heap.lt_size (N10 p hp).1)), by (have := (hok i k (by rw [← e5, List.getElem?_map, hki]; rfl)).2.1); rw [show ivs.length = (sb k).length by rw [← hik, List.length_map], sizeLine_eq]; omega, rest_tup (u := k) (tu := tu) ?_ ?_⟩
    · rintro k' tk0 I2 oI C oC D m₂ h' tk' ys T E' hC hx3 F12 N12 off3
      have N14 := front_cell (p := (L' + 1, oc')) N12 (by k_mem)
      clear N12
      k_steps
      unfold Stop
      rename Fr _ _ _ _ => F15
      rename News _ _ _ _ => N15
      rename _ < _ ∧ _ < _ ∧ _ < _ ∧ _ => l15
      exact ⟨_, _, _, rfl, rfl, F15, news_sub N15 (fun q hq => by
        rcases List.mem_cons.mp hq with rfl | hq
        · exact .head _
        · exact .tail _ (.tail _ hq)), by simp only [l15], by simp only [l15], by simp only [l15]⟩
    · rintro ts T hts hT D h' tk' F13 N13 off13
      k_steps
      unfold Stop
      have hki' : ns[i]? = some k := by rw [← e5, List.getElem?_map, hki]; rfl
      have hok' := hok i k hki'
      have htk : ns.take (i + 1) = ns.take i ++ [k] := by rw [List.take_add_one, hki']; rfl
      have inN : ∀ q ∈ H9, q ∈ (D, PyProof.Rows.LCg.lst (ts.map Value.ref)) :: (T ++ ((I, io) :: (L' + 1, oc') :: (x, instObj 564 dx9) :: (dx9, dictOf [⟨j1, .str "graph" q1, w1⟩, ⟨j2, .str "_node" q2, .ref nd⟩, ⟨j3, .str "_adj" q3, .ref ad⟩] 3) :: H9)) := fun q hq => .tail _ (List.mem_append_right _ (.tail _ (.tail _ (.tail _ (.tail _ hq)))))
      have hH9 : ∀ b ∈ H9.map (·.1), g'.get? b = none ∧ b ≠ L' := fun b hb => by
        obtain ⟨q, hq, rfl⟩ := List.mem_map.mp hb
        exact (N13 q (inN q hq)).2.symm
      have hI13 := N13 (I, io) (.tail _ (List.mem_append_right _ (.head _)))
      have hc13 := N13 (L' + 1, oc') (.tail _ (List.mem_append_right _ (.tail _ (.head _))))
      have nI9 : I ∉ H9.map (·.1) := fun hm => by
        obtain ⟨q, hq, e⟩ := List.mem_map.mp hm
        exact (hoff q hq).1 e
      have nc9 : L' + 1 ∉ H9.map (·.1) := fun hm => by
        obtain ⟨q, hq, e⟩ := List.mem_map.mp hm
        exact (hoff q hq).2 e
      show wpAny _ (ktrTop _ _ _ _ _ _ _ _ _ _) (call (.ref 439) [.ref x, .ref D]) _ _ _
      refine addedges_spec (ts := ts) (u := k) (ks := sb k) (H := H9) B' F13 X' T' rfl S9 (fun q hq => N13 q (inN q hq)) hU9 ⟨_, (N13 _ (.head _)).1, rfl, _, rfl⟩ (fun j k' hj => ?_) (by rw [hts, ← hik, List.length_map]) hkns (fun k' hk' => ?_) hok'.1 (fun j k' hj => (hok'.2.2 j k' hj).2) (by walk_at "ROOM") (by walk_at "UNITS") fun h10 tk10 H10 kb10 N16 hsub10 hU10 => ?_
      · obtain ⟨t, tk, a1, a2⟩ := hT j k' (by rw [hik]; exact hj)
        exact ⟨t, tu, tk, a1, _, (N13 _ (.tail _ (List.mem_append_left _ a2))).1, rfl, _, rfl⟩
      · obtain ⟨j, hj, e⟩ := List.getElem_of_mem hk'
        exact ⟨hcs k hkns k' hk', (hok'.2.2 j k' (by rw [List.getElem?_eq_getElem hj, e])).1⟩
      · have F16 := fr_kb F13 kb10 hH9
        have N17 : News g' L' h10 ((I, io) :: (L' + 1, oc') :: H10) := List.forall_mem_cons.mpr ⟨⟨kb10.keep _ _ nI9 hI13.1, hI13.2⟩, List.forall_mem_cons.mpr ⟨⟨kb10.keep _ _ nc9 hc13.1, hc13.2⟩, N16⟩⟩
        k_steps
        refine TurnEnd.next F16 N17 ⟨oc', _, H10, rfl, hocd, fun p hp => ?_, rfl, ?_, fun p hp => ?_⟩
        · obtain ⟨q, hq, e⟩ := List.mem_map.mp (hsub10 p hp)
          rw [← e]; exact hoff q hq
        · rw [htk, und_snoc]; exact hU10
        · obtain ⟨q, hq, e⟩ := List.mem_map.mp (hsub10 p hp)
          rw [← e]; exact hsub9 q hq
  · rintro m₁ H9 h tk ⟨rfl, hU9, hsub9⟩ F9 N9
    dsimp only
    k_steps
    dsimp only
    k_unfold
    have hnl9 : ns.take nkvs.length = ns := by rw [show nkvs.length = ns.length by rw [← e5, List.length_map], List.take_length]
    rw [hnl9] at hU9
    have hzz : s.heap.objs.size ≤ h.objs.size := by
      have := (keeps_of F9).size
      rw [hg', hideAll_size] at this
      exact this
    refine ret x nd ad H9 _ _ ⟨fun b o e => F9.keep _ _ (hgk b o e), hzz⟩ (fun p hp => ⟨(N9 p hp).1, ?_⟩) hU9
    cases e : s.heap.get? p.1 with
    | none => rfl
    | some o => have := hgk _ _ e; rw [(N9 p hp).2.2] at this; cases this
end
/-! plain law: trees by «above» -/
def nm (k : Int) : Int := 5 * ((3 * k).fmod 11)
theorem nm_inj {i j : Int} (a : 0 ≤ i) (b : i < 9) (c : 0 ≤ j) (d : j < 9) (h : nm i = nm j) : i = j := by
  unfold nm at h
  rw [Int.fmod_eq_emod_of_nonneg _ (by decide), Int.fmod_eq_emod_of_nonneg _ (by decide)] at h
  omega
theorem nm_lt {i : Int} : 0 ≤ nm i ∧ nm i ≤ 50 := by
  unfold nm
  rw [Int.fmod_eq_emod_of_nonneg _ (by decide)]
  omega
theorem nm_zero : nm 0 = 0 := by decide
structure Tree (many : Int) (ab : Int → Int) : Prop where
  m0 : 1 ≤ many
  m1 : many ≤ 9
  up : ∀ k, 0 < k → k < many → 0 ≤ ab k ∧ ab k < k
inductive Up (ab : Int → Int) (a : Int) : Int → Prop
  | refl : Up ab a a
  | step {j : Int} : Up ab a j → 0 < j → Up ab a (ab j)
section
variable {many : Int} {ab : Int → Int}
theorem Up.trans {a b c : Int} (h : Up ab a b) (k : Up ab b c) : Up ab a c := by
  induction k with
  | refl => exact h
  | step _ hj ih => exact .step ih hj
theorem Up.range (T : Tree many ab) {a j : Int} (h0 : 0 ≤ a) (h1 : a < many) (h : Up ab a j) : 0 ≤ j ∧ j ≤ a := by
  induction h with
  | refl => exact ⟨h0, Int.le_refl _⟩
  | step _ hj ih => have := T.up _ hj (by omega); omega
theorem Up.head {a j : Int} (h : Up ab a j) : j = a ∨ (0 < a ∧ Up ab (ab a) j) := by
  induction h with
  | refl => exact .inl rfl
  | step hj hp ih =>
    rcases ih with rfl | ⟨h0, ih⟩
    · exact .inr ⟨hp, .refl⟩
    · exact .inr ⟨h0, .step ih hp⟩
theorem Up.tail {a j : Int} (h : Up ab a j) (hne : j ≠ a) : ∃ k, 0 < k ∧ ab k = j ∧ Up ab a k := by
  cases h with
  | refl => exact absurd rfl hne
  | step hj hp => exact ⟨_, hp, rfl, hj⟩
theorem Up.lin (T : Tree many ab) {a i j : Int} (h0 : 0 ≤ a) (h1 : a < many) (hi : Up ab a i) (hj : Up ab a j) : j ≤ i → Up ab i j := by
  induction hi with
  | refl => exact fun _ => hj
  | step hk hp ih =>
    intro hle
    have hr := hk.range T h0 h1
    have hu := T.up _ hp (by omega)
    rcases (ih (by omega)).head with e | ⟨_, h⟩
    · omega
    · exact h
theorem Up.root (T : Tree many ab) : ∀ {n : Nat} {a : Int}, a.toNat ≤ n → 0 ≤ a → a < many → Up ab a 0
  | 0, a, hn, h0, _ => by obtain rfl : a = 0 := by omega
                          exact .refl
  | n + 1, a, hn, h0, h1 => by
    by_cases hz : a = 0
    · subst hz; exact .refl
    · have hu := T.up a (by omega) h1
      exact Up.trans (.step .refl (by omega)) (Up.root T (n := n) (by omega) hu.1 (by omega))
theorem Up.anti (T : Tree many ab) {a b : Int} (ha0 : 0 ≤ a) (ha : a < many) (hb0 : 0 ≤ b) (hb : b < many) (h : Up ab a b) (k : Up ab b a) : a = b := by
  have := h.range T ha0 ha
  have := k.range T hb0 hb
  omega
theorem way_mem {a : Int} {l : List Int} (h : Way ab a l) : ∀ j, j ∈ l ↔ Up ab a j := by
  induction h with
  | root =>
    intro j
    rw [List.mem_singleton]
    constructor
    · rintro rfl; exact .refl
    · intro h
      rcases h.head with e | ⟨h, _⟩
      · exact e
      · omega
  | step hk _ ih =>
    intro j
    rw [List.mem_append, ih, List.mem_singleton]
    constructor
    · rintro (h | rfl)
      · exact Up.trans (.step .refl hk) h
      · exact .refl
    · intro h
      rcases h.head with e | ⟨_, h⟩
      · exact .inr e
      · exact .inl h
theorem way_uniq {a : Int} {l l' : List Int} (h : Way ab a l) (h' : Way ab a l') : l = l' := by
  induction h generalizing l' with
  | root => cases h' with
    | root => rfl
    | step h0 _ => omega
  | step h0 _ ih => cases h' with
    | root => omega
    | step _ h' => rw [ih h']
theorem way_sorted (T : Tree many ab) {a : Int} {l : List Int} (h : Way ab a l) : a < many → 0 ≤ a → l.Pairwise (· < ·) := by
  induction h with
  | root => intro _ _; simp
  | step hk h ih =>
    rename_i k l
    intro h1 h0
    have hu := T.up k hk h1
    refine List.pairwise_append.mpr ⟨ih (by omega) hu.1, by simp, fun x hx y hy => ?_⟩
    rw [List.mem_singleton.mp hy]
    have := ((way_mem h x).mp hx).range T hu.1 (by omega)
    omega
theorem way_len (T : Tree many ab) {a : Int} {l : List Int} (h : Way ab a l) : a < many → 0 ≤ a → (l.length : Int) ≤ a + 1 := by
  induction h with
  | root => intro _ _; simp
  | step hk h ih =>
    rename_i k l
    intro h1 h0
    have hu := T.up k hk h1
    have := ih (by omega) hu.1
    rw [List.length_append, List.length_singleton]
    omega
theorem way_ex (T : Tree many ab) : ∀ {n : Nat} {a : Int}, a.toNat ≤ n → 0 ≤ a → a < many → ∃ l, Way ab a l
  | 0, a, hn, h0, _ => by obtain rfl : a = 0 := by omega
                          exact ⟨_, .root⟩
  | n + 1, a, hn, h0, h1 => by
    by_cases hz : a = 0
    · subst hz; exact ⟨_, .root⟩
    · have hu := T.up a (by omega) h1
      obtain ⟨l, hl⟩ := way_ex T (n := n) (a := ab a) (by omega) hu.1 (by omega)
      exact ⟨_, .step (by omega) hl⟩
/-- the last that both ways have in common -/
def IsTop (ab : Int → Int) (a b t : Int) : Prop := Up ab a t ∧ Up ab b t ∧ ∀ j, Up ab a j → Up ab b j → Up ab t j
theorem IsTop.symm {a b t : Int} (h : IsTop ab a b t) : IsTop ab b a t := ⟨h.2.1, h.1, fun j x y => h.2.2 j y x⟩
theorem IsTop.range (T : Tree many ab) {a b t : Int} (ha0 : 0 ≤ a) (ha : a < many) (h : IsTop ab a b t) : 0 ≤ t ∧ t < many := by
  have := h.1.range T ha0 ha
  omega
theorem IsTop.uniq (T : Tree many ab) {a b t t' : Int} (ha0 : 0 ≤ a) (ha : a < many) (h : IsTop ab a b t) (h' : IsTop ab a b t') : t = t' := by
  have r := h.range T ha0 ha
  have r' := h'.range T ha0 ha
  exact Up.anti T r.1 r.2 r'.1 r'.2 (h.2.2 _ h'.1 h'.2.1) (h'.2.2 _ h.1 h.2.1)
theorem IsTop.assoc (T : Tree many ab) {a b c t r s r' : Int} (ha0 : 0 ≤ a) (ha : a < many) (h1 : IsTop ab a b t) (h2 : IsTop ab t c r) (h3 : IsTop ab b c s) (h4 : IsTop ab a s r') : r = r' := by
  have e : IsTop ab a s r := ⟨h1.1.trans h2.1, h3.2.2 _ (h1.2.1.trans h2.1) h2.2.1, fun j x y => h2.2.2 j (h1.2.2 j x (h3.1.trans y)) (h3.2.1.trans y)⟩
  exact e.uniq T ha0 ha h4
theorem IsTop.self_iff (T : Tree many ab) {a b t : Int} (ha0 : 0 ≤ a) (ha : a < many) (h : IsTop ab a b t) : Up ab b a ↔ t = a := by
  constructor
  · intro hb
    exact h.uniq T ha0 ha ⟨.refl, hb, fun j x _ => x⟩
  · rintro rfl; exact h.2.1
theorem top_of_ways (T : Tree many ab) {a b t : Int} {wa wb ys : List Int} (ha0 : 0 ≤ a) (ha : a < many) (h1 : Way ab a wa) (h2 : Way ab b wb) (e : wa.filter (fun u => decide (u ∈ wb)) = ys ++ [t]) : IsTop ab a b t := by
  have hm : ∀ j, j ∈ ys ++ [t] ↔ Up ab a j ∧ Up ab b j := fun j => by
    rw [← e, List.mem_filter, way_mem h1, decide_eq_true_eq, way_mem h2]
  have ht := (hm t).mp (by simp)
  have hs : (ys ++ [t]).Pairwise (· < ·) := by rw [← e]; exact (way_sorted T h1 ha ha0).filter _
  refine ⟨ht.1, ht.2, fun j ja jb => Up.lin T ha0 ha ht.1 ja ?_⟩
  rcases List.mem_append.mp ((hm j).mpr ⟨ja, jb⟩) with hj | hj
  · exact Int.le_of_lt ((List.pairwise_append.mp hs).2.2 j hj t (by simp))
  · rw [List.mem_singleton.mp hj]; exact Int.le_refl _
theorem ways_meet (T : Tree many ab) {a b : Int} {wa wb : List Int} (ha0 : 0 ≤ a) (ha : a < many) (hb0 : 0 ≤ b) (hb : b < many) (h1 : Way ab a wa) (h2 : Way ab b wb) : ∃ ys t, wa.filter (fun u => decide (u ∈ wb)) = ys ++ [t] := by
  have hm : (0 : Int) ∈ wa.filter (fun u => decide (u ∈ wb)) := by
    rw [List.mem_filter, way_mem h1, decide_eq_true_eq, way_mem h2]
    exact ⟨Up.root T (Nat.le_refl _) ha0 ha, Up.root T (Nat.le_refl _) hb0 hb⟩
  have hne : wa.filter (fun u => decide (u ∈ wb)) ≠ [] := fun e => by rw [e] at hm; cases hm
  exact ⟨_, _, (List.dropLast_concat_getLast hne).symm⟩
/-- the tree as a digraph by names -/
structure TreeG (many : Int) (ab : Int → Int) (ns : List Int) (sb pb : Int → List Int) : Prop where
  nd : ns.Nodup
  mem : ∀ x, x ∈ ns ↔ ∃ k, 0 ≤ k ∧ k < many ∧ x = nm k
  smem : ∀ u v, v ∈ sb u ↔ ∃ k, 0 < k ∧ k < many ∧ u = nm (ab k) ∧ v = nm k
  pmem : ∀ u v, u ∈ pb v ↔ ∃ k, 0 < k ∧ k < many ∧ u = nm (ab k) ∧ v = nm k
variable {ns : List Int} {sb pb : Int → List Int}
theorem TreeG.inN (G : TreeG many ab ns sb pb) {k : Int} (h0 : 0 ≤ k) (h1 : k < many) : nm k ∈ ns := (G.mem _).mpr ⟨k, h0, h1, rfl⟩
theorem TreeG.closedS (T : Tree many ab) (G : TreeG many ab ns sb pb) : Closed ns sb := fun n _ k hk => by
  obtain ⟨i, h0, h1, _, rfl⟩ := (G.smem _ _).mp hk
  exact G.inN (by omega) h1
theorem TreeG.closedP (T : Tree many ab) (G : TreeG many ab ns sb pb) : Closed ns pb := fun n _ k hk => by
  obtain ⟨i, h0, h1, rfl, _⟩ := (G.pmem _ _).mp hk
  have := T.up i h0 h1
  exact G.inN this.1 (by omega)
theorem TreeG.reachP (T : Tree many ab) (G : TreeG many ab ns sb pb) {a x : Int} (h0 : 0 ≤ a) (h1 : a < many) : Reach pb (nm a) x ↔ ∃ j, x = nm j ∧ Up ab a j := by
  constructor
  · intro h
    induction h with
    | refl => exact ⟨a, rfl, .refl⟩
    | step _ hk ih =>
      obtain ⟨j, rfl, hj⟩ := ih
      obtain ⟨i, i0, i1, rfl, e⟩ := (G.pmem _ _).mp hk
      have hr := hj.range T h0 h1
      have := T.m1
      obtain rfl := nm_inj hr.1 (by omega) (by omega) (by omega) e
      exact ⟨_, rfl, .step hj i0⟩
  · rintro ⟨j, rfl, hj⟩
    induction hj with
    | refl => exact .refl
    | step hj hp ih =>
      have hr := hj.range T h0 h1
      exact .step ih ((G.pmem _ _).mpr ⟨_, hp, by omega, rfl, rfl⟩)
theorem TreeG.acyc (T : Tree many ab) (G : TreeG many ab ns sb pb) : Acyc ns sb := by
  have key : ∀ {x y : Int}, Reach sb x y → ∀ i, 0 ≤ i → i < many → x = nm i → ∃ j, y = nm j ∧ i ≤ j ∧ j < many := by
    intro x y h
    induction h with
    | refl => exact fun i _ h1 e => ⟨i, e, Int.le_refl _, h1⟩
    | step _ hk ih =>
      intro i i0 i1 e
      obtain ⟨j, rfl, hij, hj⟩ := ih i i0 i1 e
      obtain ⟨k, k0, k1, e', rfl⟩ := (G.smem _ _).mp hk
      have := T.up k k0 k1
      have := T.m1
      have := nm_inj (by omega) (by omega) (by omega) (by omega) e'
      exact ⟨k, rfl, by omega, k1⟩
  intro n _ k hk hr
  obtain ⟨i, i0, i1, rfl, rfl⟩ := (G.smem _ _).mp hk
  obtain ⟨j, e, hij, hj⟩ := key hr i (by omega) i1 rfl
  have := T.up i i0 i1
  have := T.m1
  have := nm_inj (by omega) (by omega) (by omega) (by omega) e
  omega
theorem TreeG.common (T : Tree many ab) (G : TreeG many ab ns sb pb) {a b : Int} (ha0 : 0 ≤ a) (ha : a < many) (hb0 : 0 ≤ b) (hb : b < many) : ¬ NoCommon pb (nm a) (nm b) := fun h =>
  h (nm 0) ⟨(G.reachP T ha0 ha).mpr ⟨0, rfl, Up.root T (Nat.le_refl _) ha0 ha⟩, (G.reachP T hb0 hb).mpr ⟨0, rfl, Up.root T (Nat.le_refl _) hb0 hb⟩⟩
theorem TreeG.lowest (T : Tree many ab) (G : TreeG many ab ns sb pb) {a b c : Int} (ha0 : 0 ≤ a) (ha : a < many) (hb0 : 0 ≤ b) (hb : b < many) (h : Lowest sb pb (nm a) (nm b) c) : ∃ t, c = nm t ∧ IsTop ab a b t := by
  obtain ⟨h1, h2, h3⟩ := h
  obtain ⟨t, rfl, ta⟩ := (G.reachP T ha0 ha).mp h1
  obtain ⟨t', e, tb⟩ := (G.reachP T hb0 hb).mp h2
  have r1 := ta.range T ha0 ha
  have r2 := tb.range T hb0 hb
  have hm := T.m1
  obtain rfl := nm_inj (by omega) (by omega) (by omega) (by omega) e
  refine ⟨t, rfl, ta, tb, fun j ja jb => ?_⟩
  rcases Int.lt_or_le t j with hlt | hle
  · exfalso
    obtain ⟨k, k0, ek, kj⟩ := (Up.lin T ha0 ha ja ta (Int.le_of_lt hlt)).tail (by omega)
    have rj := ja.range T ha0 ha
    have rk := (ja.trans kj).range T ha0 ha
    exact h3 (nm k) ((G.smem _ _).mpr ⟨k, k0, by omega, by rw [ek], rfl⟩) ⟨(G.reachP T ha0 ha).mpr ⟨k, rfl, ja.trans kj⟩, (G.reachP T hb0 hb).mpr ⟨k, rfl, jb.trans kj⟩⟩
  · exact Up.lin T ha0 ha ta ja hle
end
/-! plain law: the digraph that the arcs build -/
def bns (st : Int) (l : List (Int × Int)) : List Int := l.foldl (fun ns p => addn (addn ns p.1) p.2) [st]
def bsb (l : List (Int × Int)) : Int → List Int := l.foldl (fun f p => arc f p.1 p.2) fun _ => []
def bpb (l : List (Int × Int)) : Int → List Int := bsb (l.map fun p => (p.2, p.1))
theorem bns_snoc (st : Int) (l : List (Int × Int)) (p : Int × Int) : bns st (l ++ [p]) = addn (addn (bns st l) p.1) p.2 := by
  unfold bns; rw [List.foldl_append]; rfl
theorem bsb_snoc (l : List (Int × Int)) (p : Int × Int) : bsb (l ++ [p]) = arc (bsb l) p.1 p.2 := by
  unfold bsb; rw [List.foldl_append]; rfl
theorem bpb_snoc (l : List (Int × Int)) (p : Int × Int) : bpb (l ++ [p]) = arc (bpb l) p.2 p.1 := by
  unfold bpb; rw [List.map_append]; exact bsb_snoc _ _
theorem mem_arc {f : Int → List Int} {u v x y : Int} : x ∈ arc f u v y ↔ x ∈ f y ∨ (y = u ∧ x = v) := by
  unfold arc
  by_cases h : y = u
  · subst h; rw [if_pos rfl, List.mem_append, List.mem_singleton]; simp
  · rw [if_neg h]; simp [h]
theorem len_arc {f : Int → List Int} {u v y : Int} : (arc f u v y).length ≤ (f y).length + 1 := by
  unfold arc
  by_cases h : y = u
  · subst h; rw [if_pos rfl, List.length_append]; simp
  · rw [if_neg h]; omega
theorem mem_addn {ns : List Int} {n x : Int} : x ∈ addn ns n ↔ x ∈ ns ∨ x = n := by
  unfold addn
  by_cases h : n ∈ ns
  · rw [if_pos h]
    constructor
    · exact .inl
    · rintro (h' | rfl)
      · exact h'
      · exact h
  · rw [if_neg h, List.mem_append, List.mem_singleton]
theorem nodup_addn {ns : List Int} {n : Int} (h : ns.Nodup) : (addn ns n).Nodup := by
  unfold addn
  by_cases hm : n ∈ ns
  · rw [if_pos hm]; exact h
  · rw [if_neg hm]
    exact List.nodup_append.mpr ⟨h, by simp, fun a ha b hb => by rw [List.mem_singleton.mp hb]; exact fun e => hm (e ▸ ha)⟩
theorem mem_bsb_gen : ∀ (l : List (Int × Int)) (f : Int → List Int) (u v : Int), v ∈ (l.foldl (fun f p => arc f p.1 p.2) f) u ↔ v ∈ f u ∨ (u, v) ∈ l
  | [], f, u, v => by simp
  | p :: l, f, u, v => by
    rw [List.foldl_cons, mem_bsb_gen l, mem_arc, List.mem_cons, or_assoc]
    have : (u = p.1 ∧ v = p.2) ↔ (u, v) = p := by
      constructor
      · rintro ⟨rfl, rfl⟩; rfl
      · rintro rfl; exact ⟨rfl, rfl⟩
    rw [this]
theorem mem_bsb {l : List (Int × Int)} {u v : Int} : v ∈ bsb l u ↔ (u, v) ∈ l := by
  unfold bsb; rw [mem_bsb_gen]; simp
theorem mem_bpb {l : List (Int × Int)} {u v : Int} : u ∈ bpb l v ↔ (u, v) ∈ l := by
  unfold bpb
  rw [mem_bsb, List.mem_map]
  constructor
  · rintro ⟨p, hp, e⟩; cases e; exact hp
  · exact fun h => ⟨_, h, rfl⟩
theorem len_bsb_gen : ∀ (l : List (Int × Int)) (f : Int → List Int) (u : Int), ((l.foldl (fun f p => arc f p.1 p.2) f) u).length ≤ (f u).length + l.length
  | [], f, u => by simp
  | p :: l, f, u => by
    rw [List.foldl_cons, List.length_cons]
    have h1 := len_bsb_gen l (arc f p.1 p.2) u
    have h2 := len_arc (f := f) (u := p.1) (v := p.2) (y := u)
    omega
theorem len_bsb (l : List (Int × Int)) (u : Int) : (bsb l u).length ≤ l.length := by
  have := len_bsb_gen l (fun _ => []) u
  rw [List.length_nil] at this
  unfold bsb; omega
theorem len_bpb (l : List (Int × Int)) (u : Int) : (bpb l u).length ≤ l.length := by
  have := len_bsb (l.map fun p => (p.2, p.1)) u
  rw [List.length_map] at this
  exact this
theorem nodup_bsb_gen : ∀ (l : List (Int × Int)) (f : Int → List Int), (∀ u, (f u).Nodup) → (∀ p ∈ l, p.2 ∉ f p.1) → l.Nodup → ∀ u, ((l.foldl (fun f p => arc f p.1 p.2) f) u).Nodup
  | [], f, h, _, _, u => h u
  | p :: l, f, h, hf, hl, u => by
    obtain ⟨hp, hl⟩ := List.nodup_cons.mp hl
    refine nodup_bsb_gen l (arc f p.1 p.2) (fun y => ?_) (fun q hq hm => ?_) hl u
    · unfold arc
      by_cases e : y = p.1
      · rw [if_pos e]
        exact List.nodup_append.mpr ⟨h _, by simp, fun a ha b hb => by rw [List.mem_singleton.mp hb]; exact fun e => hf p (.head _) (e ▸ ha)⟩
      · rw [if_neg e]; exact h y
    · rcases mem_arc.mp hm with hm | ⟨e1, e2⟩
      · exact hf q (.tail _ hq) hm
      · exact hp (by rw [← show q = p from Prod.ext e1 e2]; exact hq)
theorem nodup_bsb {l : List (Int × Int)} (h : l.Nodup) (u : Int) : (bsb l u).Nodup := nodup_bsb_gen l _ (fun _ => .nil) (fun _ _ h => nomatch h) h u
theorem mem_bns_gen : ∀ (l : List (Int × Int)) (ns : List Int) (x : Int), x ∈ l.foldl (fun ns p => addn (addn ns p.1) p.2) ns ↔ x ∈ ns ∨ ∃ p ∈ l, x = p.1 ∨ x = p.2
  | [], ns, x => by simp
  | p :: l, ns, x => by
    rw [List.foldl_cons, mem_bns_gen l, mem_addn, mem_addn]
    simp only [List.mem_cons, exists_eq_or_imp, or_assoc]
theorem mem_bns {st : Int} {l : List (Int × Int)} {x : Int} : x ∈ bns st l ↔ x = st ∨ ∃ p ∈ l, x = p.1 ∨ x = p.2 := by
  unfold bns; rw [mem_bns_gen, List.mem_singleton]
theorem nodup_bns_gen : ∀ (l : List (Int × Int)) (ns : List Int), ns.Nodup → (l.foldl (fun ns p => addn (addn ns p.1) p.2) ns).Nodup
  | [], _, h => h
  | p :: l, ns, h => by rw [List.foldl_cons]; exact nodup_bns_gen l _ (nodup_addn (nodup_addn h))
theorem nodup_bns (st : Int) (l : List (Int × Int)) : (bns st l).Nodup := nodup_bns_gen l _ (by simp)
theorem len_addn {ns : List Int} {n : Int} : (addn ns n).length ≤ ns.length + 1 := by
  unfold addn
  by_cases h : n ∈ ns
  · rw [if_pos h]; omega
  · rw [if_neg h, List.length_append]; simp
theorem len_bns_gen : ∀ (l : List (Int × Int)) (ns : List Int), (l.foldl (fun ns p => addn (addn ns p.1) p.2) ns).length ≤ ns.length + 2 * l.length
  | [], ns => by simp
  | p :: l, ns => by
    rw [List.foldl_cons, List.length_cons]
    have h1 := len_bns_gen l (addn (addn ns p.1) p.2)
    have h2 := len_addn (ns := addn ns p.1) (n := p.2)
    have h3 := len_addn (ns := ns) (n := p.1)
    omega
theorem len_bns (st : Int) (l : List (Int × Int)) : (bns st l).length ≤ 1 + 2 * l.length := len_bns_gen l [st]
theorem bsb_out {st : Int} {l : List (Int × Int)} {n : Int} (h : n ∉ bns st l) : bsb l n = [] ∧ bpb l n = [] := by
  rw [mem_bns, not_or] at h
  refine ⟨List.eq_nil_iff_forall_not_mem.mpr fun v hv => ?_, List.eq_nil_iff_forall_not_mem.mpr fun v hv => ?_⟩
  · exact h.2 ⟨_, mem_bsb.mp hv, .inl rfl⟩
  · exact h.2 ⟨_, mem_bpb.mp hv, .inr rfl⟩
/-- the arcs from above to each -/
def arcs (ab : Int → Int) (ks : List Int) : List (Int × Int) := ks.map fun k => (nm (ab k), nm k)
theorem arcs_snoc (ab : Int → Int) (ks : List Int) (k : Int) : arcs ab (ks ++ [k]) = arcs ab ks ++ [(nm (ab k), nm k)] := by
  unfold arcs; rw [List.map_append]; rfl
theorem mem_arcs {ab : Int → Int} {ks : List Int} {u v : Int} : (u, v) ∈ arcs ab ks ↔ ∃ k ∈ ks, u = nm (ab k) ∧ v = nm k := by
  unfold arcs
  rw [List.mem_map]
  constructor
  · rintro ⟨k, hk, e⟩; cases e; exact ⟨k, hk, rfl, rfl⟩
  · rintro ⟨k, hk, rfl, rfl⟩; exact ⟨k, hk, rfl⟩
section
variable {many : Int} {ab : Int → Int}
theorem arc_fresh (T : Tree many ab) {ks : List Int} {k : Int} (hr : ∀ j ∈ ks, 0 < j ∧ j < many) (h0 : 0 < k) (h1 : k < many) (hk : k ∉ ks) :
    nm k ∉ bsb (arcs ab ks) (nm (ab k)) ∧ nm (ab k) ∉ bpb (arcs ab ks) (nm k) ∧ nm (ab k) ≠ nm k := by
  have hm := T.m1
  have hu := T.up k h0 h1
  have key : (nm (ab k), nm k) ∉ arcs ab ks := fun h => by
    obtain ⟨j, hj, _, e⟩ := mem_arcs.mp h
    have := hr j hj
    exact hk (nm_inj (by omega) (by omega) (by omega) (by omega) e ▸ hj)
  exact ⟨fun h => key (mem_bsb.mp h), fun h => key (mem_bpb.mp h), fun e => by have := nm_inj hu.1 (by omega) (by omega) (by omega) e; omega⟩
/-- with bounds -/
structure TreeB (many : Int) (ab : Int → Int) (ns : List Int) (sb pb : Int → List Int) : Prop extends TreeG many ab ns sb pb where
  snd : ∀ u, (sb u).Nodup
  slen : ∀ u, (sb u).length ≤ 8
  plen : ∀ u, (pb u).length ≤ 8
theorem TreeG.nlen (T : Tree many ab) {ns : List Int} {sb pb : Int → List Int} (G : TreeG many ab ns sb pb) : ns.length ≤ 9 := by
  have h := nodup_length_le (ns := (List.range many.toNat).map fun (i : Nat) => nm (i : Int)) G.nd fun y hy => by
    obtain ⟨k, h0, h1, rfl⟩ := (G.mem y).mp hy
    exact List.mem_map.mpr ⟨k.toNat, List.mem_range.mpr (by omega), by rw [Int.toNat_of_nonneg h0]⟩
  rw [List.length_map, List.length_range] at h
  have := T.m1
  omega
theorem built_tree (T : Tree many ab) {st : Int} {ks : List Int} (h0 : 0 ≤ st) (h1 : st < many) (hk : ∀ k, k ∈ ks ↔ 0 < k ∧ k < many) (hnd : ks.Nodup) :
    TreeB many ab (bns (nm st) (arcs ab ks)) (bsb (arcs ab ks)) (bpb (arcs ab ks)) := by
  have hm1 := T.m1
  have hlen : ks.length ≤ 8 := by
    have h := nodup_length_le (ns := (List.range (many.toNat - 1)).map fun (i : Nat) => ((i : Int) + 1)) hnd fun y hy => by
      have := (hk y).mp hy
      exact List.mem_map.mpr ⟨(y - 1).toNat, List.mem_range.mpr (by omega), by omega⟩
    rw [List.length_map, List.length_range] at h
    omega
  have halen : (arcs ab ks).length ≤ 8 := by unfold arcs; rw [List.length_map]; exact hlen
  have hand : (arcs ab ks).Nodup := by
    unfold arcs
    refine List.pairwise_map.mpr (hnd.imp_of_mem fun ha hb hne e => hne ?_)
    have := (hk _).mp ha
    have := (hk _).mp hb
    exact nm_inj (by omega) (by omega) (by omega) (by omega) (congrArg Prod.snd e)
  refine { nd := nodup_bns _ _, mem := fun x => ?_, smem := fun u v => ?_, pmem := fun u v => ?_, snd := nodup_bsb hand, slen := fun u => Nat.le_trans (len_bsb _ _) halen, plen := fun u => Nat.le_trans (len_bpb _ _) halen }
  · rw [mem_bns]
    constructor
    · rintro (rfl | ⟨⟨u, v⟩, hp, h⟩)
      · exact ⟨st, h0, h1, rfl⟩
      · obtain ⟨k, hk', rfl, rfl⟩ := mem_arcs.mp hp
        have hr := (hk k).mp hk'
        have hu := T.up k hr.1 hr.2
        rcases h with rfl | rfl
        · exact ⟨ab k, hu.1, by omega, rfl⟩
        · exact ⟨k, by omega, hr.2, rfl⟩
    · rintro ⟨k, k0, k1, rfl⟩
      by_cases hz : k = 0
      · subst hz
        by_cases h2 : 1 < many
        · have hu := T.up 1 (by omega) h2
          have e1 : ab 1 = 0 := by omega
          exact .inr ⟨_, mem_arcs.mpr ⟨1, (hk 1).mpr ⟨by omega, h2⟩, rfl, rfl⟩, .inl (by rw [e1])⟩
        · obtain rfl : st = 0 := by omega
          exact .inl rfl
      · exact .inr ⟨_, mem_arcs.mpr ⟨k, (hk k).mpr ⟨by omega, k1⟩, rfl, rfl⟩, .inr rfl⟩
  · rw [mem_bsb, mem_arcs]
    constructor
    · rintro ⟨k, hk', rfl, rfl⟩
      have hr := (hk k).mp hk'
      exact ⟨k, hr.1, hr.2, rfl, rfl⟩
    · rintro ⟨k, k0, k1, rfl, rfl⟩
      exact ⟨k, (hk k).mpr ⟨k0, k1⟩, rfl, rfl⟩
  · rw [mem_bpb, mem_arcs]
    constructor
    · rintro ⟨k, hk', rfl, rfl⟩
      have hr := (hk k).mp hk'
      exact ⟨k, hr.1, hr.2, rfl, rfl⟩
    · rintro ⟨k, k0, k1, rfl, rfl⟩
      exact ⟨k, (hk k).mpr ⟨k0, k1⟩, rfl, rfl⟩
end
/-! plain law: the tree without directions, and what a search by breadth finds -/
theorem mem_links {u : Int} : ∀ {ks : List Int} {f : Int → List Int} {x y : Int}, x ∈ links f u ks y ↔ x ∈ f y ∨ (y = u ∧ x ∈ ks) ∨ (x = u ∧ y ∈ ks)
  | [], f, x, y => by simp [links]
  | k :: ks, f, x, y => by
    have e : links f u (k :: ks) = links (arc (arc f u k) k u) u ks := rfl
    rw [e, mem_links, mem_arc, mem_arc]
    simp only [List.mem_cons]
    constructor
    · rintro ((h | ⟨h1, h2⟩) | ⟨h1, h2⟩ | ⟨h1, h2⟩)
      · rcases h with h | ⟨h1, h2⟩
        · exact .inl h
        · exact .inr (.inl ⟨h1, .inl h2⟩)
      · exact .inr (.inr ⟨h2, .inl h1⟩)
      · exact .inr (.inl ⟨h1, .inr h2⟩)
      · exact .inr (.inr ⟨h1, .inr h2⟩)
    · rintro (h | ⟨h1, h2 | h2⟩ | ⟨h1, h2 | h2⟩)
      · exact .inl (.inl (.inl h))
      · exact .inl (.inl (.inr ⟨h1, h2⟩))
      · exact .inr (.inl ⟨h1, h2⟩)
      · exact .inl (.inr ⟨h2, h1⟩)
      · exact .inr (.inr ⟨h1, h2⟩)
theorem len_links {u : Int} : ∀ {ks : List Int} {f : Int → List Int} {y : Int}, u ∉ ks → (links f u ks y).length ≤ (f y).length + ks.length
  | [], f, y, _ => by simp [links]
  | k :: ks, f, y, hu => by
    have e : links f u (k :: ks) = links (arc (arc f u k) k u) u ks := rfl
    rw [List.mem_cons, not_or] at hu
    have h1 := len_links (ks := ks) (f := arc (arc f u k) k u) (y := y) hu.2
    have h2 : (arc (arc f u k) k u y).length ≤ (f y).length + 1 := by
      by_cases hy : y = k
      · have h3 : arc f u k y = f y := by unfold arc; rw [if_neg (fun e => hu.1 (by rw [← e, hy]))]
        have := len_arc (f := arc f u k) (u := k) (v := u) (y := y)
        rw [h3] at this; exact this
      · have h3 : arc (arc f u k) k u y = arc f u k y := by rw [show arc (arc f u k) k u y = if y = k then _ else arc f u k y from rfl, if_neg hy]
        rw [h3]; exact len_arc
    rw [e, List.length_cons]
    omega
theorem mem_und_gen {sb : Int → List Int} : ∀ {l : List Int} {f : Int → List Int} {x y : Int}, x ∈ (l.foldl (fun f u => links f u (sb u)) f) y ↔ x ∈ f y ∨ (y ∈ l ∧ x ∈ sb y) ∨ (x ∈ l ∧ y ∈ sb x)
  | [], f, x, y => by simp
  | u :: l, f, x, y => by
    rw [List.foldl_cons, mem_und_gen, mem_links]
    simp only [List.mem_cons]
    constructor
    · rintro ((h | ⟨rfl, h2⟩ | ⟨rfl, h2⟩) | ⟨h1, h2⟩ | ⟨h1, h2⟩)
      · exact .inl h
      · exact .inr (.inl ⟨.inl rfl, h2⟩)
      · exact .inr (.inr ⟨.inl rfl, h2⟩)
      · exact .inr (.inl ⟨.inr h1, h2⟩)
      · exact .inr (.inr ⟨.inr h1, h2⟩)
    · rintro (h | ⟨rfl | h1, h2⟩ | ⟨rfl | h1, h2⟩)
      · exact .inl (.inl h)
      · exact .inl (.inr (.inl ⟨rfl, h2⟩))
      · exact .inr (.inl ⟨h1, h2⟩)
      · exact .inl (.inr (.inr ⟨rfl, h2⟩))
      · exact .inr (.inr ⟨h1, h2⟩)
theorem mem_und {sb : Int → List Int} {l : List Int} {x y : Int} : x ∈ und sb l y ↔ (y ∈ l ∧ x ∈ sb y) ∨ (x ∈ l ∧ y ∈ sb x) := by
  unfold und; rw [mem_und_gen]; simp
theorem len_und_gen {sb : Int → List Int} (h8 : ∀ u, (sb u).length ≤ 8) (hu : ∀ u, u ∉ sb u) : ∀ {l : List Int} {f : Int → List Int} {y : Int}, ((l.foldl (fun f u => links f u (sb u)) f) y).length ≤ (f y).length + 8 * l.length
  | [], f, y => by simp
  | u :: l, f, y => by
    rw [List.foldl_cons, List.length_cons]
    have h1 := len_und_gen h8 hu (l := l) (f := links f u (sb u)) (y := y)
    have h2 := len_links (ks := sb u) (f := f) (y := y) (hu u)
    have h3 := h8 u
    omega
theorem len_und {sb : Int → List Int} (h8 : ∀ u, (sb u).length ≤ 8) (hu : ∀ u, u ∉ sb u) {l : List Int} {y : Int} : (und sb l y).length ≤ 8 * l.length := by
  have := len_und_gen h8 hu (l := l) (f := fun _ => []) (y := y)
  rw [List.length_nil] at this
  unfold und; omega
section
variable {many : Int} {ab : Int → Int} {ns : List Int} {sb pb : Int → List Int}
theorem TreeG.irr (T : Tree many ab) (G : TreeG many ab ns sb pb) (u : Int) : u ∉ sb u := fun h => by
  obtain ⟨k, k0, k1, e1, e2⟩ := (G.smem _ _).mp h
  have := T.up k k0 k1
  have := T.m1
  have := nm_inj (by omega) (by omega) (by omega) (by omega) (e1.symm.trans e2)
  omega
theorem TreeG.asym (T : Tree many ab) (G : TreeG many ab ns sb pb) {u v : Int} (h : v ∈ sb u) : u ∉ sb v := fun h' => by
  obtain ⟨k, k0, k1, rfl, rfl⟩ := (G.smem _ _).mp h
  obtain ⟨j, j0, j1, e1, e2⟩ := (G.smem _ _).mp h'
  have := T.up k k0 k1
  have := T.up j j0 j1
  have := T.m1
  have := nm_inj (by omega) (by omega) (by omega) (by omega) e1
  have := nm_inj (by omega) (by omega) (by omega) (by omega) e2
  omega
theorem und_ok (T : Tree many ab) (G : TreeB many ab ns sb pb) : ∀ (i : Nat) (u : Int), ns[i]? = some u → (∀ (j : Nat) (n : Int), (links (und sb (ns.take i)) u ((sb u).take j) n).length ≤ 100) ∧ (sb u).length ≤ 100 ∧ ∀ (j : Nat) (k : Int), (sb u)[j]? = some k → k ≠ u ∧ k ∉ links (und sb (ns.take i)) u ((sb u).take j) u ∧ u ∉ links (und sb (ns.take i)) u ((sb u).take j) k := by
  intro i u hu
  have hn := G.nlen T
  have irr := G.irr T
  have notin : u ∉ ns.take i := by
    have hi : i < ns.length := by
      rcases Nat.lt_or_ge i ns.length with h | h
      · exact h
      · rw [List.getElem?_eq_none h] at hu; cases hu
    have e : ns = ns.take i ++ (u :: ns.drop (i + 1)) := by
      rw [List.getElem?_eq_getElem hi] at hu
      rw [← Option.some.inj hu, List.getElem_cons_drop, List.take_append_drop]
    have hd := G.nd
    rw [e] at hd
    exact fun h => (List.nodup_append.mp hd).2.2 u h u (.head _) rfl
  refine ⟨fun j n => ?_, by have := G.slen u; omega, fun j k hk => ?_⟩
  · have h1 := len_links (ks := (sb u).take j) (f := und sb (ns.take i)) (y := n) fun h => irr u (List.mem_of_mem_take h)
    have h2 := len_und G.slen irr (l := ns.take i) (y := n)
    have h3 := G.slen u
    rw [List.length_take] at h1 h2
    omega
  · have hks : k ∈ sb u := List.mem_of_getElem? hk
    have hku : k ≠ u := fun e => irr u (e ▸ hks)
    have hnt : k ∉ (sb u).take j := by
      have hj : j < (sb u).length := by
        rcases Nat.lt_or_ge j (sb u).length with h | h
        · exact h
        · rw [List.getElem?_eq_none h] at hk; cases hk
      have e : sb u = (sb u).take j ++ (k :: (sb u).drop (j + 1)) := by
        rw [List.getElem?_eq_getElem hj] at hk
        rw [← Option.some.inj hk, List.getElem_cons_drop, List.take_append_drop]
      have hd := G.snd u
      rw [e] at hd
      exact fun h => (List.nodup_append.mp hd).2.2 k h k (.head _) rfl
    have has := G.asym T hks
    refine ⟨hku, fun h => ?_, fun h => ?_⟩
    · rcases mem_links.mp h with h | ⟨_, h⟩ | ⟨h, _⟩
      · rcases mem_und.mp h with ⟨h, _⟩ | ⟨_, h⟩
        · exact notin h
        · exact has h
      · exact hnt h
      · exact hku h
    · rcases mem_links.mp h with h | ⟨h, _⟩ | ⟨_, h⟩
      · rcases mem_und.mp h with ⟨_, h⟩ | ⟨h, _⟩
        · exact has h
        · exact notin h
      · exact hku h
      · exact hnt h
theorem und_nb (G : TreeG many ab ns sb pb) (T : Tree many ab) {x y : Int} : x ∈ und sb ns y ↔ ∃ k, 0 < k ∧ k < many ∧ ((y = nm (ab k) ∧ x = nm k) ∨ (x = nm (ab k) ∧ y = nm k)) := by
  rw [mem_und]
  constructor
  · rintro (⟨_, h⟩ | ⟨_, h⟩)
    · obtain ⟨k, k0, k1, rfl, rfl⟩ := (G.smem _ _).mp h
      exact ⟨k, k0, k1, .inl ⟨rfl, rfl⟩⟩
    · obtain ⟨k, k0, k1, rfl, rfl⟩ := (G.smem _ _).mp h
      exact ⟨k, k0, k1, .inr ⟨rfl, rfl⟩⟩
  · rintro ⟨k, k0, k1, ⟨rfl, rfl⟩ | ⟨rfl, rfl⟩⟩
    · have := T.up k k0 k1
      exact .inl ⟨G.inN (by omega) (by omega), (G.smem _ _).mpr ⟨k, k0, k1, rfl, rfl⟩⟩
    · have := T.up k k0 k1
      exact .inr ⟨G.inN (by omega) (by omega), (G.smem _ _).mpr ⟨k, k0, k1, rfl, rfl⟩⟩
end
/-- what a search from s may have seen -/
inductive Grown (nb : Int → List Int) (s : Int) : List Int → Prop
  | one : Grown nb s [s]
  | more {S : List Int} {n k : Int} : Grown nb s S → n ∈ S → k ∈ nb n → k ∉ S → Grown nb s (S ++ [k])
section
variable {many : Int} {ab : Int → Int} {nb : Int → List Int}
/-- the steps between two nodes of the tree -/
def DistR (many : Int) (ab : Int → Int) (s : Int) (x i : Int) : Prop := ∃ k t wk ws wt, x = nm k ∧ 0 ≤ k ∧ k < many ∧ IsTop ab k s t ∧ Way ab k wk ∧ Way ab s ws ∧ Way ab t wt ∧ i = (wk.length : Int) + ws.length - 2 * wt.length
def NbOk (many : Int) (ab : Int → Int) (nb : Int → List Int) : Prop := ∀ x y, x ∈ nb y ↔ ∃ k, 0 < k ∧ k < many ∧ ((y = nm (ab k) ∧ x = nm k) ∨ (x = nm (ab k) ∧ y = nm k))
theorem dist_zero (T : Tree many ab) {s : Int} (h0 : 0 ≤ s) (h1 : s < many) : DistR many ab s (nm s) 0 := by
  obtain ⟨ws, hw⟩ := way_ex T (Nat.le_refl _) h0 h1
  exact ⟨s, s, ws, ws, ws, rfl, h0, h1, ⟨.refl, .refl, fun _ h _ => h⟩, hw, hw, hw, by omega⟩
theorem dist_uniq (T : Tree many ab) {s b i t : Int} {wb ws wt : List Int} (h0 : 0 ≤ b) (h1 : b < many) (h : DistR many ab s (nm b) i) (ht : IsTop ab b s t) (hb : Way ab b wb) (hs : Way ab s ws) (hw : Way ab t wt) : i = (wb.length : Int) + ws.length - 2 * wt.length := by
  obtain ⟨k, t', wk, ws', wt', e, k0, k1, ht', hk, hs', hw', rfl⟩ := h
  have := T.m1
  obtain rfl := nm_inj (by omega) (by omega) (by omega) (by omega) e
  obtain rfl := ht.uniq T h0 h1 ht'
  rw [way_uniq hb hk, way_uniq hs hs', way_uniq hw hw']
/-- each but the source has its next one on the way to the source -/
def Towards (many : Int) (ab : Int → Int) (s : Int) (S : List Int) : Prop := ∀ k, 0 ≤ k → k < many → nm k ∈ S → k ≠ s → (¬ Up ab s k ∧ nm (ab k) ∈ S) ∨ (∃ j, 0 < j ∧ j < many ∧ ab j = k ∧ Up ab s j ∧ nm j ∈ S)
theorem child_uniq (T : Tree many ab) {s i j : Int} (s0 : 0 ≤ s) (s1 : s < many) (hi : Up ab s i) (hj : Up ab s j) (i0 : 0 < i) (j0 : 0 < j) (e : ab i = ab j) : i = j := by
  have ri := hi.range T s0 s1
  have rj := hj.range T s0 s1
  have ui := T.up i i0 (by omega)
  have uj := T.up j j0 (by omega)
  rcases Int.le_total i j with h | h
  · rcases (Up.lin T s0 s1 hj hi h).head with e' | ⟨_, h'⟩
    · exact e'
    · have := h'.range T uj.1 (by omega); omega
  · rcases (Up.lin T s0 s1 hi hj h).head with e' | ⟨_, h'⟩
    · exact e'.symm
    · have := h'.range T ui.1 (by omega); omega
theorem grown_nodes (T : Tree many ab) (hnb : NbOk many ab nb) {s : Int} {S : List Int} (s0 : 0 ≤ s) (s1 : s < many) (h : Grown nb (nm s) S) : ∀ x ∈ S, ∃ k, 0 ≤ k ∧ k < many ∧ x = nm k := by
  induction h with
  | one => intro x hx; rw [List.mem_singleton.mp hx]; exact ⟨s, s0, s1, rfl⟩
  | more _ _ hk _ ih =>
    intro x hx
    rcases List.mem_append.mp hx with hx | hx
    · exact ih x hx
    · rw [List.mem_singleton.mp hx]
      obtain ⟨k, k0, k1, ⟨_, e⟩ | ⟨e, _⟩⟩ := (hnb _ _).mp hk
      · exact ⟨k, by omega, k1, e⟩
      · have := T.up k k0 k1
        exact ⟨ab k, this.1, by omega, e⟩
theorem grown_towards (T : Tree many ab) (hnb : NbOk many ab nb) {s : Int} {S : List Int} (s0 : 0 ≤ s) (s1 : s < many) (h : Grown nb (nm s) S) : Towards many ab s S := by
  have hm := T.m1
  induction h with
  | one =>
    intro k k0 k1 hk hne
    exact absurd (nm_inj (by omega) (by omega) (by omega) (by omega) (List.mem_singleton.mp hk)) hne
  | @more S n k₀ hg hn hk hkS ih =>
    intro k k0 k1 hx hne
    rcases List.mem_append.mp hx with hx | hx
    · rcases ih k k0 k1 hx hne with ⟨a, b⟩ | ⟨j, a, b, c, d, e⟩
      · exact .inl ⟨a, List.mem_append_left _ b⟩
      · exact .inr ⟨j, a, b, c, d, List.mem_append_left _ e⟩
    · have hx := List.mem_singleton.mp hx
      subst hx
      obtain ⟨q, q0, q1, ⟨rfl, e⟩ | ⟨e, rfl⟩⟩ := (hnb _ _).mp hk
      · obtain rfl := nm_inj (by omega) (by omega) (by omega) (by omega) e
        have hu := T.up k q0 q1
        by_cases hup : Up ab s k
        · exfalso
          have hr := hup.range T s0 s1
          rcases ih (ab k) hu.1 (by omega) hn (by omega) with ⟨a, _⟩ | ⟨j, a, b, c, d, e'⟩
          · exact a (.step hup q0)
          · obtain rfl := child_uniq T s0 s1 hup d q0 a c.symm
            exact hkS e'
        · exact .inl ⟨hup, List.mem_append_left _ hn⟩
      · have hu := T.up q q0 q1
        obtain rfl := nm_inj (by omega) (by omega) (by omega) (by omega) e
        by_cases hup : Up ab s q
        · exact .inr ⟨q, q0, q1, rfl, hup, List.mem_append_left _ hn⟩
        · exfalso
          have hqs : q ≠ s := fun e => hup (e ▸ .refl)
          rcases ih q (by omega) q1 hn hqs with ⟨_, b⟩ | ⟨j, a, b, c, d, e'⟩
          · exact hkS b
          · exact hup (c ▸ .step d a)
theorem dist_step (T : Tree many ab) (hnb : NbOk many ab nb) {s n k v : Int} {S : List Int} (s0 : 0 ≤ s) (s1 : s < many) (h : Grown nb (nm s) S) (hn : n ∈ S) (hk : k ∈ nb n) (hkS : k ∉ S) (hd : DistR many ab s n v) : DistR many ab s k (v + 1) := by
  have hm := T.m1
  obtain ⟨p, t, wp, ws, wt, rfl, p0, p1, ht, hwp, hws, hwt, rfl⟩ := hd
  have htw := grown_towards T hnb s0 s1 h
  obtain ⟨q, q0, q1, ⟨e, rfl⟩ | ⟨rfl, e⟩⟩ := (hnb _ _).mp hk
  · have hu := T.up q q0 q1
    obtain rfl := nm_inj (by omega) (by omega) (by omega) (by omega) e
    have hup : ¬ Up ab s q := fun hup => by
      have hr := hup.range T s0 s1
      rcases htw (ab q) hu.1 (by omega) hn (by omega) with ⟨a, _⟩ | ⟨j, a, b, c, d, e'⟩
      · exact a (.step hup q0)
      · obtain rfl := child_uniq T s0 s1 hup d q0 a c.symm
        exact hkS e'
    refine ⟨q, t, wp ++ [q], ws, wt, rfl, by omega, q1, ⟨Up.trans (.step .refl q0) ht.1, ht.2.1, fun j h1 h2 => ?_⟩, .step q0 hwp, hws, hwt, by rw [List.length_append, List.length_singleton]; omega⟩
    rcases h1.head with rfl | ⟨_, h1⟩
    · exact absurd h2 hup
    · exact ht.2.2 j h1 h2
  · have hu := T.up q q0 q1
    obtain rfl := nm_inj (by omega) (by omega) (by omega) (by omega) e
    have hup : Up ab s p := by
      refine Classical.byContradiction fun hup => ?_
      have hps : p ≠ s := fun e => hup (e ▸ .refl)
      rcases htw p p0 p1 hn hps with ⟨_, b⟩ | ⟨j, a, b, c, d, e'⟩
      · exact hkS b
      · exact hup (c ▸ .step d a)
    obtain rfl : t = p := ht.uniq T p0 p1 ⟨.refl, hup, fun j h _ => h⟩
    obtain rfl := way_uniq hwp hwt
    cases hwp with
    | root => omega
    | @step _ l _ hl =>
      refine ⟨ab t, ab t, l, ws, l, rfl, hu.1, by omega, ⟨.refl, .step hup q0, fun j h _ => h⟩, hl, hws, hl, by rw [List.length_append, List.length_singleton]; omega⟩
theorem grown_all (T : Tree many ab) (hnb : NbOk many ab nb) {s : Int} {S : List Int} (s0 : 0 ≤ s) (s1 : s < many) (hs : nm s ∈ S) (hc : ∀ n ∈ S, ∀ k ∈ nb n, k ∈ S) {b : Int} (b0 : 0 ≤ b) (b1 : b < many) : nm b ∈ S := by
  have up : ∀ {j}, Up ab s j → nm j ∈ S := fun h => by
    induction h with
    | refl => exact hs
    | step hj hp ih =>
      have := hj.range T s0 s1
      exact hc _ ih _ ((hnb _ _).mpr ⟨_, hp, by omega, .inr ⟨rfl, rfl⟩⟩)
  have h0 := up (Up.root T (Nat.le_refl _) s0 s1)
  have down : ∀ (n : Nat) (b : Int), b.toNat ≤ n → 0 ≤ b → b < many → nm b ∈ S := by
    intro n
    induction n with
    | zero => intro b hb b0 _; obtain rfl : b = 0 := by omega
              exact h0
    | succ n ih =>
      intro b hb b0 b1
      by_cases hz : b = 0
      · subst hz; exact h0
      · have hu := T.up b (by omega) b1
        exact hc _ (ih (ab b) (by omega) hu.1 (by omega)) _ ((hnb _ _).mpr ⟨b, by omega, b1, .inl ⟨rfl, rfl⟩⟩)
  exact down _ b (Nat.le_refl _) b0 b1
end
section
variable {prog : Program} {w : World} {A₀ A : Around} {s : Shared} {K : Frag} {L : Addr} {base h₀ : Heap} {m mg mb : Str → Option Value} {p : Program} {loose : List Str} {mean : ExcName → Option Value} {news : List (Addr × Obj)}
/-- the call of a generator def of the file, without cells -/
theorem enterGK {R : Result → Shared → Prop} {name qual : Str} {params : Arguments} {body : List Stmt} {scope : Scope} {dV kV doc pm cdv ct oc : Value} {an od : Option Addr} {osl : Array (Option Value)} {f : Addr} {args : Args} {binds : List (Str × Value)}
    (F : Fr h₀ L s.heap m) (X₀ : K.In h₀) (T : Top p loose mean mg mb h₀)
    (ho : K.lookup f = some ⟨oc, od, .func (fnOf name qual params body scope dV kV doc pm an cdv ct), osl⟩) (hcd : codeIn K cdv qual = true) (hroom : A.depth < recursionLimit)
    (hbind : BindsTo s (fnOf name qual params body scope dV kV doc pm an cdv ct) args binds) (hkl : ∀ L', ∀ x ∈ binds, (envOfC qual scope L' f cdv).kindOf x.1 = some .local)
    (hloc : ∀ x ∈ binds, scope.names.lookup x.1 = some .local) (hnd : ((cellsFrom 0 scope.names []).map (·.1)).Nodup) (hcl' : ∀ L', cellsFrom (L' + 1) scope.names [] = [])
    (h : ∀ Lg a h₁ tk, Fr s.heap Lg h₁ (lk (binds.reverse.map fun p => (p.1, some p.2))) → h₁.IsGen a s.gens.size → s.heap.objs.size ≤ Lg → Lg < a → Keeps s.heap h₁ →
      R (.ok (.ret (.ref a))) { s with heap := h₁, toks := tk, gens := s.gens.push (.fresh (.func body (envX qual scope Lg f cdv []))) })
    (hco : scope.isCoroutine = false) (hgen : scope.isGenerator = true) (hk : scope.kind = .function) : codeAny (model prog w) A (.call (.ref f) args) R s := by
  have hlim := (T.keeps F.keep).nolimit
  have X := X₀.keeps F.keep
  refine codeAny_call_generator (fd := fnOf name qual params body scope dV kV doc pm an cdv ct) (body := body) hroom (X _ _ ho) rfl hco hgen rfl (codeRec_of X hcd) (hbind _ _ _ _ ?_)
  refine wpAny_newFunctionEnv_cells hk (fun x hx => .inl (hloc x hx)) fun env' he s' x => ?_
  subst he
  obtain ⟨h₁, tk, rfl, _⟩ := x.done
  have k1 := x.toInCall.keep
  refine ⟨hlim.keeps k1, ?_⟩
  have hns : h₁.Ns s.heap.objs.size (lk (binds.reverse.map fun p => (p.1, some p.2))) := by
    have := x.toInCall.ns
    have e := bindL_lk (kindOf := (envOfC qual scope s.heap.objs.size f cdv).kindOf) binds [] (hkl _)
    rw [List.append_nil] at e
    rw [← e]
    exact this
  have k2 : ∀ (o : Obj) b x, s.heap.get? b = some x → (h₁.push o).get? b = some x := fun o b x e => Heap.get?_push_of_some _ (k1 b x e)
  have hlt := hns.lt
  have hz : s.heap.objs.size ≤ h₁.objs.size := Nat.le_of_lt hlt
  have he : envOfC qual scope s.heap.objs.size f cdv = envX qual scope s.heap.objs.size f cdv [] := by
    show envX qual scope s.heap.objs.size f cdv (cellsFrom (s.heap.objs.size + 1) scope.names []) = _
    rw [hcl']
  have fin := h s.heap.objs.size h₁.objs.size (h₁.push { cls := .type "generator", data := .fields #[.int s.gens.size 0, .str name tk, .str qual (tk + 1)] }) (tk + 1 + 1) ⟨hns.push _, k2 _, Nat.le_refl _⟩ ⟨_, _, _, Heap.get?_push_size _ rfl, rfl, rfl, rfl⟩ (Nat.le_refl _) hlt
    ⟨k2 _, by rw [Heap.size_push]; exact Nat.le_succ_of_le hz⟩
  rw [← he] at fin
  exact fin
end
section
variable {M : Model} {prog : Program} {w : World} {A : Around} {R : GenEnd} {Y : Protocol} {fs : List Frame} {env : Env} {K : Flow → Sem Fin} {H : Value → Sem Fin} {gd : Bool → Bool} {lv : List Value → List Value}
/-- a segment by a measure -/
theorem seg_ind {c : Code} {t : Sem Fin} (Inv : Nat → Nat → Shared → Shared → Prop) (turn : ∀ j n s₀ s, Inv j n s₀ s → (∀ j' n' s₀' s', j' < j → Inv j' n' s₀' s' → Seg M A R Y n' s₀' c t fs s') → Seg M A R Y n s₀ c t fs s) :
    ∀ {j n : Nat} {s₀ s : Shared}, Inv j n s₀ s → Seg M A R Y n s₀ c t fs s := by
  intro j
  induction j using Nat.strongRecOn with
  | ind j ih => exact fun h => turn j _ _ _ h fun j' n' s₀' s' hj h' => ih j' hj h'
theorem seg_forEnd {n : Nat} {s₀ s : Shared} {c c1 : Code} {g : Bool} {l : List Value} {p : Pos} {kp : List Value} (h : Seg (model prog w) A R Y n s₀ c1 (K .next) fs s) :
    Seg (model prog w) A R Y n s₀ c (.pure (.again (.block [] env))) (.ret (forRet env K H gd lv) none g l c1 p kp :: fs) s := seg_block (seg_leaf (.ok .next) h)
end
section
variable {prog : Program} {w : World} {A : Around} {E : Value → Shared → Prop} {s : Shared} {h₀ : Heap} {L I q : Addr} {io : Obj} {i : Nat} {m : Str → Option Value} {news : List (Addr × Obj)} {its : List Value}
theorem list_iter_N {Q : Value → Shared → Prop} (F : Fr h₀ L s.heap m) (N : News h₀ L s.heap news) (hl : s.heap.IsList q its.toArray)
    (h : ∀ I io h', Fr h₀ L h' m → News h₀ L h' ((I, io) :: news) → h'.IsListIter I q 0 → (∀ p ∈ news, p.1 < I) → L < I → Q (.ref I) { s with heap := h' }) : wpAny (model prog w) A (pyIter (.ref q)) Q E s := by
  refine wpAny_pyIter_list hl ?_
  exact h _ _ _ (F.push _) (News.push F N _ rfl) ⟨_, Heap.get?_push_size _ rfl, rfl, rfl⟩ (fun p hp => Heap.lt_size (N p hp).1) F.ns.lt
theorem list_item_N {v : Value} {Q : Option Value → Shared → Prop} (F : Fr h₀ L s.heap m) (N : News h₀ L s.heap ((I, io) :: news)) (hit : s.heap.IsListIter I q i) (hl : s.heap.IsList q its.toArray) (hx : its[i]? = some v) (off : ∀ p ∈ news, p.1 ≠ I)
    (h : ∀ io' h', Fr h₀ L h' m → News h₀ L h' ((I, io') :: news) → h'.IsListIter I q (i + 1) → Q (some v) { s with heap := h' }) : wpAny (model prog w) A (pyNext (.ref I)) Q E s := by
  refine wpAny_pyNext_list_item hit hl (x := v) (by simpa using hx) fun h₁ hit₁ hs₁ => ?_
  obtain ⟨io', hio', r⟩ := id hit₁
  exact h io' h₁ (F.change hs₁ (N _ (.head _)).2.1 (N _ (.head _)).2.2) (fun p hp => by
    rcases List.mem_cons.mp hp with rfl | hp
    · exact ⟨hio', (N _ (.head _)).2⟩
    · exact ⟨hs₁.extBut _ _ (off p hp) (N p (.tail _ hp)).1, (N p (.tail _ hp)).2⟩) hit₁
theorem list_end_N {Q : Option Value → Shared → Prop} (hh : A.handled = none) (F : Fr h₀ L s.heap m) (N : News h₀ L s.heap ((I, io) :: news)) (hit : s.heap.IsListIter I q i) (hl : s.heap.IsList q its.toArray) (hx : its.length ≤ i) (off : ∀ p ∈ news, p.1 ≠ I)
    (h : ∀ h', Fr h₀ L h' m → News h₀ L h' news → Q none { s with heap := h' }) : wpAny (model prog w) A (pyNext (.ref I)) Q E s := by
  refine wpAny_pyNext_list_end hh hit hl (by simpa using hx) fun h₁ he₁ => ?_
  exact h h₁ ⟨F.ns.extBut he₁ (Ne.symm (N _ (.head _)).2.1), fun b o e => he₁ b o (fun q => by rw [q, (N _ (.head _)).2.2] at e; cases e) (F.keep b o e), F.above⟩ fun p hp => ⟨he₁ _ _ (off p hp) (N p (.tail _ hp)).1, (N p (.tail _ hp)).2⟩
end
/-- an undirected graph, where it stands -/
def UG (prog : Program) (w : World) (h : Heap) (g : Addr) (ns : List Int) (nb : Int → List Int) : Prop :=
  ∃ ad dx nd k1 k2 k3 t1 t2 t3 v1, h.get? g = some (instObj 564 dx) ∧ h.get? dx = some (dictOf [⟨k1, .str "graph" t1, v1⟩, ⟨k2, .str "_node" t2, .ref nd⟩, ⟨k3, .str "_adj" t3, .ref ad⟩] 3) ∧ AdjAt prog w h ad ns nb
theorem UG.keep {prog : Program} {w : World} {h h' : Heap} {g : Addr} {ns : List Int} {nb : Int → List Int} (G : UG prog w h g ns nb) (k : ∀ b o, h.get? b = some o → h'.get? b = some o) : UG prog w h' g ns nb := by
  obtain ⟨ad, dx, nd, k1, k2, k3, t1, t2, t3, v1, e1, e2, e3⟩ := G
  exact ⟨ad, dx, nd, k1, k2, k3, t1, t2, t3, v1, k _ _ e1, k _ _ e2, e3.keep k⟩
theorem UGr.ug {prog : Program} {w : World} {h₀ h : Heap} {L : Addr} {H : List (Addr × Obj)} {g nd ad : Addr} {ns : List Int} {nb : Int → List Int} (G : UGr prog w H g nd ad ns nb) (N₀ : News h₀ L h H) (S : Sys h₀) : UG prog w h g ns nb := by
  obtain ⟨c, ra, dx, k1, k2, k3, t1, t2, t3, v1, D, hg, hdx, cg, cdx, hc⟩ := G
  have hh := holds_gr N₀ hc
  have lo : ∀ {a : Addr} {l : List (Int × Value)}, c a = some l → (a == sysModules) = false := fun e => D.lo e
  obtain ⟨al, e2, n2, v2⟩ := D.ads
  refine ⟨ad, dx, nd, k1, k2, k3, t1, t2, t3, v1, (N₀ _ hg).1, (N₀ _ hdx).1, ⟨al, hh _ _ e2, n2, fun n hn => ?_⟩, lo e2⟩
  obtain ⟨l, e, hl⟩ := D.rows n hn
  exact ⟨_, l, v2 n hn, lo e, hh _ _ e, hl⟩
theorem pairs_uniq {prog : Program} {w : World} {es : List DictEntry} {l l' : List (Int × Value)} (h : Pairs (PySem.intKind prog w) es l) (h' : Pairs (PySem.intKind prog w) es l') : l = l' := by
  induction h generalizing l' with
  | nil => cases h'; rfl
  | cons hk hv _ ih =>
    cases h' with
    | cons hk' hv' h' =>
      rename_i e kv _ _ _ kv' _
      obtain ⟨k, v⟩ := kv
      obtain ⟨k', v'⟩ := kv'
      obtain ⟨t, ht⟩ := Value.isInt_shape hk
      obtain ⟨t', ht'⟩ := Value.isInt_shape hk'
      dsimp only at ht ht' hv hv'
      rw [ht] at ht'
      cases ht'
      rw [ih h', hv.symm.trans hv']
theorem dict_uniq {prog : Program} {w : World} {o : Obj} {l l' : List (Int × Value)} (h : o.IsDictOf (PySem.intKind prog w) l) (h' : o.IsDictOf (PySem.intKind prog w) l') : l = l' := by
  obtain ⟨es, ep, _, e1, _, p1, _⟩ := h
  obtain ⟨es', ep', _, e2, _, p2, _⟩ := h'
  rw [e1] at e2
  cases e2
  exact pairs_uniq p1 p2
section
local macro_rules | `(tactic| walk_at "nothing") => `(tactic| fail "nothing")
local macro_rules | `(tactic| walk_at "nothing") => `(tactic| fail "nothing")
local macro_rules | `(tactic| walk_at "nothing") => `(tactic| fail "nothing")
local macro_rules | `(tactic| walk_at "nothing") => `(tactic| fail "nothing")
local macro_rules | `(tactic| walk_at "call type:list") => `(tactic| refine stopI ?_)
def KeysAre (prog : Program) (w : World) (o : Obj) (S : List Int) : Prop := ∃ kvs, o.IsDictOf (PySem.intKind prog w) kvs ∧ kvs.map (·.1) = S
def BRun (hb : Heap) (Lc D ga : Addr) (s₀ s₁ : Shared) : Prop := (∃ h tk, s₁ = { s₀ with heap := h, toks := tk }) ∧ (∀ b o, hb.get? b = some o → s₁.heap.get? b = some o) ∧ ∀ b o, (b = Lc ∨ b = D ∨ b = ga) → s₀.heap.get? b = some o → s₁.heap.get? b = some o
def BP (prog : Program) (w : World) (hb : Heap) (Lc D ga : Addr) (nb : Int → List Int) (x : Int) (_ : Nat) (s₀ s₁ : Shared) : Prop := BRun hb Lc D ga s₀ s₁ ∧ ∃ o S, s₁.heap.get? D = some o ∧ KeysAre prog w o S ∧ Grown nb x S ∧ ∀ n ∈ S, ∀ k ∈ nb n, k ∈ S
def BR (prog : Program) (w : World) (hb : Heap) (Lc D ga : Addr) (nb : Int → List Int) (x : Int) : GenEnd := fun n s₀ r s₁ => r = .ok (.ret .none) ∧ BP prog w hb Lc D ga nb x n s₀ s₁
def BY (prog : Program) (w : World) (hb : Heap) (Lc D ga : Addr) (nb : Int → List Int) (x : Int) : Protocol := fun _ s₀ y s₁ kap => BRun hb Lc D ga s₀ s₁ ∧ ∃ o S p k tp tk t, s₁.heap.get? D = some o ∧ KeysAre prog w o S ∧ Grown nb x S ∧ p ∈ S ∧ k ∈ nb p ∧ k ∉ S ∧ y = .ref t ∧ s₁.heap.get? t = some (tup2 p tp k tk) ∧ hb.get? t = none ∧ t ≠ Lc ∧ t ≠ D ∧ t ≠ ga ∧
  ∀ h₂ tk' gg, (∀ b o, b ≠ Lc → b ≠ D → s₁.heap.get? b = some o → h₂.get? b = some o) → (∃ o, h₂.get? Lc = some o) → (∃ o, h₂.get? D = some o ∧ KeysAre prog w o (S ++ [k])) → kap (.send .none) { s₁ with heap := h₂, toks := tk', gens := gg }
/-- what bfs_edges does when it is run -/
def BRuns (prog : Program) (w : World) (outer : List Env) (hb h7 : Heap) (Lc D ga : Addr) (nb : Int → List Int) (x : Int) (N : Nat) (code : Code) : Prop :=
  ∀ (dp un : Nat) (gd : Option (List Code)) (s₁ : Shared), dp + 10 < recursionLimit → un + 100 < cLine → (∀ b o, b ≠ Lc → b ≠ D → h7.get? b = some o → s₁.heap.get? b = some o) → (∃ o, s₁.heap.get? Lc = some o) → (∃ o, s₁.heap.get? D = some o ∧ KeysAre prog w o [x]) →
    Seg (model prog w) { handled := none, depth := dp, frames := some outer, guards := gd, units := un } (BR prog w hb Lc D ga nb x) (BY prog w hb Lc D ga nb x) N s₁ code ((model prog w).den code) [] s₁
theorem over_loop2 {dp un : Nat} {gd : Option (List Code)} {outer : List Env} {cn : Str} {cs : Scope} {L a : Addr} {cdv : Value} {cl : List (Str × Addr)} {body b2 b3 : List Stmt} {tgt tgt3 : Expr} {it it3 : Value} {k k3 : Result → Sem Fin} {g g3 : Bool} {l l3 : List Value} {p p3 : Pos} :
    Around.over { handled := none, depth := dp, frames := some outer, guards := gd, units := un } (.forLoop tgt3 it3 b3 [] (envX cn cs L a cdv cl)) [.ret k3 none g3 l3 (.forLoop tgt it b2 [] (envX cn cs L a cdv cl)) p3 [], .ret k none g l (.func body (envX cn cs L a cdv cl)) p []] = ktrTop (dp + 1) (un + 3) gd cn cs L a cdv cl outer := by
  cases gd <;> rfl
theorem iter_at {h₀ h h' : Heap} {L I q : Addr} {io : Obj} {i : Nat} {news : List (Addr × Obj)} (N : News h₀ L h news) (hm : (I, io) ∈ news) (hit : h.IsListIter I q i) (e : h'.get? I = some io) : h'.IsListIter I q i := by
  obtain ⟨o, ho, r⟩ := hit
  have z := (N _ hm).1
  have z' : h.get? I = some io := z
  rw [z'] at ho
  cases ho
  exact ⟨io, e, r⟩
theorem grown_in {ns : List Int} {nb : Int → List Int} {x : Int} {S : List Int} (hc : Closed ns nb) (hx : x ∈ ns) (h : Grown nb x S) : S.Nodup ∧ (∀ y ∈ S, y ∈ ns) ∧ x ∈ S := by
  induction h with
  | one => exact ⟨by simp, fun y hy => by rw [List.mem_singleton.mp hy]; exact hx, .head _⟩
  | more _ hn hk hkS ih =>
    refine ⟨List.nodup_append.mpr ⟨ih.1, by simp, fun a ha b hb => by rw [List.mem_singleton.mp hb]; exact fun e => hkS (e ▸ ha)⟩, fun y hy => ?_, List.mem_append_left _ ih.2.2⟩
    rcases List.mem_append.mp hy with hy | hy
    · exact ih.2.1 y hy
    · rw [List.mem_singleton.mp hy]; exact hc _ (ih.2.1 _ hn) _ hk
theorem grown_len {ns : List Int} {nb : Int → List Int} {x : Int} {S : List Int} (hc : Closed ns nb) (hx : x ∈ ns) (h : Grown nb x S) : S.length ≤ ns.length := by
  have := grown_in hc hx h
  exact nodup_length_le this.1 this.2.1
def BOut (prog : Program) (w : World) (hb : Heap) (Lg g q se I ga Lc D : Addr) (nb : Int → List Int) (x : Int) (tx : Tok) (ns : List Int) (j n : Nat) (s₀ s : Shared) : Prop :=
  ∃ (h : Heap) (tk : Nat) (io : Obj) (its : List Value) (nq : Nat) (oSe : Obj) (nS : Nat) (oD oL oga : Obj) (i : Nat) (S : List Int) (u1 u2 : Option Value), s = { s₀ with heap := h, toks := tk } ∧ s₀.heap.get? D = some oD ∧ s₀.heap.get? Lc = some oL ∧ s₀.heap.get? ga = some oga ∧
    Fr hb Lg h (lk [("nbr", u2), ("n", u1), ("queue", some (.ref q)), ("seen", some (.ref se)), ("source", some (.int x tx)), ("G", some (.ref g))]) ∧ News hb Lg h [(I, io), (q, W.listOf its.toArray nq), (se, oSe), (D, oD), (Lc, oL), (ga, oga)] ∧ h.IsListIter I q i ∧ IntsAre its S ∧
    Obj.SetObjOf (PySem.intKind prog w) oSe (fun k => decide (k ∈ S)) nS ∧ nS ≤ 1000 ∧ nS = S.length ∧ KeysAre prog w oD S ∧ Grown nb x S ∧ (∀ p ∈ S.take i, ∀ k ∈ nb p, k ∈ S) ∧ i ≤ S.length ∧ ns.length ≤ n + S.length ∧ j + i = ns.length
def BIn (prog : Program) (w : World) (hb : Heap) (Lg g q se I ga Lc D Dl I2 : Addr) (cl : Nat) (vs : List Value) (i : Nat) (p : Int) (tp : Tok) (nb : Int → List Int) (x : Int) (tx : Tok) (ns : List Int) (j n : Nat) (s₀ s : Shared) : Prop :=
  ∃ (h : Heap) (tk : Nat) (io io2 : Obj) (its : List Value) (nq : Nat) (oSe : Obj) (nS : Nat) (oD oL oga : Obj) (i2 : Nat) (S : List Int) (u2 : Option Value), s = { s₀ with heap := h, toks := tk } ∧ s₀.heap.get? D = some oD ∧ s₀.heap.get? Lc = some oL ∧ s₀.heap.get? ga = some oga ∧
    Fr hb Lg h (lk [("nbr", u2), ("n", some (.int p tp)), ("queue", some (.ref q)), ("seen", some (.ref se)), ("source", some (.int x tx)), ("G", some (.ref g))]) ∧ News hb Lg h [(I2, io2), (Dl, W.listOf vs.toArray cl), (I, io), (q, W.listOf its.toArray nq), (se, oSe), (D, oD), (Lc, oL), (ga, oga)] ∧ h.IsListIter I2 Dl i2 ∧ h.IsListIter I q (i + 1) ∧ IntsAre its S ∧
    Obj.SetObjOf (PySem.intKind prog w) oSe (fun k => decide (k ∈ S)) nS ∧ nS ≤ 1000 ∧ nS = S.length ∧ KeysAre prog w oD S ∧ Grown nb x S ∧ (∀ p ∈ S.take i, ∀ k ∈ nb p, k ∈ S) ∧ S[i]? = some p ∧ (∀ k ∈ (nb p).take i2, k ∈ S) ∧ i2 ≤ (nb p).length ∧ ns.length ≤ n + S.length ∧ j + i2 = (nb p).length
theorem bfs_runs {w : World} {p : Program} {loose : List Str} {mean : ExcName → Option Value} {mg mb : Str → Option Value} {outer : List Env} {hb h7 : Heap} {g ga Lg Lc D : Addr} {x : Int} {tx : Tok} {ns : List Int} {nb : Int → List Int} {gno N : Nat}
    {nm1 qual : Str} {prms : Arguments} {body : List Stmt} {scope : Scope} {dV kV doc pm cdv ct oc : Value} {an od : Option Addr} {osl : Array (Option Value)}
    (hbl : (hd.heap_39 w.params).lookup 603 = some ⟨oc, od, .func (fnOf nm1 qual prms body scope dV kV doc pm an cdv ct), osl⟩)
    (X : (hd.heap_39 w.params).In hb) (T : Top p loose mean mg mb hb) (S : Sys hb)
    (hG : UG PySem.Challenge.rw_fq0029_01.row.prog w hb g ns nb) (hcl : Closed ns nb) (hnbl : ∀ n, (nb n).length ≤ 100) (hnl : ns.length ≤ 12) (hN : ns.length ≤ N + 1) (hx : x ∈ ns)
    (F₀ : Fr hb Lg h7 (lk [("source", some (.int x tx)), ("G", some (.ref g))])) (hga : h7.IsGen ga gno) (hlt : @LT.lt Nat _ Lc Lg ∧ @LT.lt Nat _ D Lg ∧ @LT.lt Nat _ Lg ga) (hLc : hb.get? Lc = none) (hD : hb.get? D = none) :
    BRuns PySem.Challenge.rw_fq0029_01.row.prog w outer hb h7 Lc D ga nb x N (.func body (envX qual scope Lg 603 cdv [])) := by
  revert X
  k_fill
  intro X
  refine' use_eq hbl ?hh ?_
  case hh => k_is
  intro e
  cases e
  clear hbl
  obtain ⟨ad, dx, nd, k1, k2, k3, t1, t2, t3, v1, e1, e2, hA⟩ := id hG
  obtain ⟨⟨kvd, hkd, hkn, hnb⟩, hadlo⟩ := id hA
  intro dp un gd s₁ hdp hun hk1 hL1 hD1
  obtain ⟨oL, hoL⟩ := hL1
  obtain ⟨oD, hoD, hKD⟩ := hD1
  obtain ⟨oga, gnm, gqn, hoga, hgr⟩ := hga
  have neL : Lg ≠ Lc ∧ Lg ≠ D ∧ ga ≠ Lc ∧ ga ≠ D := ⟨by exact Nat.ne_of_gt hlt.1, by exact Nat.ne_of_gt hlt.2.1, by exact Nat.ne_of_gt (Nat.lt_trans hlt.1 hlt.2.2), by exact Nat.ne_of_gt (Nat.lt_trans hlt.2.1 hlt.2.2)⟩
  have F₁ : Fr hb Lg s₁.heap (lk [("source", some (.int x tx)), ("G", some (.ref g))]) := ⟨F₀.ns.at' fun o e => hk1 _ o neL.1 neL.2.1 e, fun b o e => hk1 _ _ (fun q => by rw [q, hLc] at e; cases e) (fun q => by rw [q, hD] at e; cases e) (F₀.keep b o e), F₀.above⟩
  have N₁ : News hb Lg s₁.heap [(D, oD), (Lc, oL), (ga, oga)] := by
    intro q hq
    simp only [List.mem_cons, List.not_mem_nil, or_false] at hq
    rcases hq with rfl | rfl | rfl
    · exact ⟨hoD, Ne.symm neL.2.1, hD⟩
    · exact ⟨hoL, Ne.symm neL.1, hLc⟩
    · exact ⟨hk1 _ _ neL.2.2.1 neL.2.2.2 hoga, Nat.ne_of_gt hlt.2.2, get_none_of_size (Nat.le_trans F₀.above (Nat.le_of_lt hlt.2.2))⟩
  have hogs := (N₁ (ga, oga) (by simp)).1
  refine seg_func ?_
  refine seg_pre (pre := [_, _]) ?_
  rw [over_func]
  refine hideQ ?_
  intro Q hQ
  k_steps
  rename Fr _ _ _ _ => F₂
  rename News _ _ _ _ => N₂
  rename_i se _ led _ _ lse _ oSe hSe _ _ q _ hLq lq _
  subst hQ
  dsimp only
  refine seg_execs_cons (seg_For ?_)
  rw [over_func]
  refine hideQ ?_
  intro Q hQ
  k_steps
  subst hQ
  dsimp only
  refine list_iter_N F₂ N₂ (its := [.int x tx]) (isList_news N₂ (.head _)) fun I io h₃ F₃ N₃ hit₃ hI₃ hLI => ?_
  k_lt hI₃
  intro p
  refine seg_ind (Inv := BOut PySem.Challenge.rw_fq0029_01.row.prog w hb Lg g q se I ga Lc D nb x tx ns) ?_ (j := ns.length) ?inv
  case inv =>
    refine ⟨h₃, _, io, [.int x tx], 0, oSe, _, oD, oL, oga, 0, [x], none, none, rfl, hoD, hoL, hogs, fr_eq F₃ (by walk_at "SAME"), N₃, hit₃, .cons _ _ .nil, ?_, by simp, rfl, hKD, .one, by simp, by simp, by simpa using hN, rfl⟩
    have e : (fun k => decide (k ∈ [x])) = (fun k' => false || decide (k' = x)) := by funext k'; simp
    rw [e]; exact hSe
  clear F₂ N₂ F₃ N₃ hit₃ hSe hoD hoL hKD hogs
  rintro j n s₀ s ⟨h, tk, io, its, nq, oSe, nS, oD, oL, oga, i, S1, u1, u2, rfl, hoD, hoL, hoga, F, N, hit, hits, hSe, hnS, hnS2, hKD, hGr, hcls, hiS, hfuel, hj⟩ ih
  have hS1 := grown_in hcl hx hGr
  have hSl := grown_len hcl hx hGr
  refine seg_forLoop ?_
  rw [over_loop]
  have hil : its.length = S1.length := hits.length
  by_cases hend : S1.length ≤ i
  · refine list_end_N rfl F N hit (isList_news N (by k_mem)) (by rw [hil]; exact hend) (allLt_ne ⟨hI₃.1, hI₃.2.1, hI₃.2.2.1, hI₃.2.2.2.1, hI₃.2.2.2.2, trivial⟩) fun h' F' N' => ?_
    dsimp only
    refine seg_forEnd ?_
    dsimp only
    refine seg_execs_nil ?_
    refine seg_end (.ok (.ret .none)) ⟨rfl, ⟨⟨_, _, rfl⟩, F'.keep, fun b o hbb e => ?_⟩, oD, S1, (N' (D, oD) (by simp)).1, hKD, hGr, fun p' hp' k hk => hcls p' (by rw [List.take_of_length_le hend]; exact hp') k hk⟩
    rcases hbb with rfl | rfl | rfl
    · rw [hoL] at e; cases e; exact (N' (b, oL) (by simp)).1
    · rw [hoD] at e; cases e; exact (N' (b, oD) (by simp)).1
    · rw [hoga] at e; cases e; exact (N' (b, oga) (by simp)).1
  · obtain ⟨pv, hpv⟩ : ∃ pv, S1[i]? = some pv := ⟨_, List.getElem?_eq_getElem (by omega)⟩
    obtain ⟨tp, htp⟩ := hits.get i pv hpv
    have hpS : pv ∈ S1 := List.mem_of_getElem? hpv
    have hpn : pv ∈ ns := hS1.2.1 _ hpS
    obtain ⟨ai, ivs, hva, halo, hiv, hik⟩ := hnb pv hpn
    refine list_item_N F N hit (isList_news N (by k_mem)) htp (allLt_ne ⟨hI₃.1, hI₃.2.1, hI₃.2.2.1, hI₃.2.2.2.1, hI₃.2.2.2.2, trivial⟩) fun io' h' F' N' hit' => ?_
    have hioF : ∀ {h9 : Heap}, h9.get? I = some io' → h9.IsListIter I q (i + 1) := fun e => iter_at N' (.head _) hit' e
    dsimp only
    refine wpAny_of_eq (by rfl) ?_
    refine hideQ ?_
    intro Q hQ
    k_steps
    rename Fr _ _ _ _ => F₃
    rename News _ _ _ _ => N₃
    rename Heap => h₃'
    subst hQ
    dsimp only
    refine seg_execs_cons (seg_For ?_)
    rw [over_loop]
    refine hideQ ?_
    intro Q hQ
    k_steps
    have hivl : ivs.length ≤ sizeLine := by
      have h1 := hnbl pv
      have h2 : ivs.length = (nb pv).length := by rw [← hik, List.length_map]
      rw [sizeLine_eq]; omega
    rename Fr _ _ _ _ => F₄
    rename News _ _ _ _ => N₄
    refine list_d rfl F₄ N₄ (here_base F₄ hiv) halo hivl fun Dl cl h₅ tk₅ vsl F₅ N₅ lDl _ hil => ?_
    k_lt lDl
    subst hQ
    dsimp only
    refine list_iter_N F₅ N₅ (isList_news N₅ (.head _)) fun I2 io2 h₆ F₆ N₆ hit₆ hI₆ hLI₆ => ?_
    k_lt hI₆
    intro p2
    rw [hik] at hil
    have hit5 : h₆.IsListIter I q (i + 1) := hioF (N₆ (I, io') (by simp)).1
    refine seg_ind (Inv := BIn PySem.Challenge.rw_fq0029_01.row.prog w hb Lg g q se I ga Lc D Dl I2 cl vsl i pv tp nb x tx ns) ?_ (j := (nb pv).length) ?inv
    case inv =>
      exact ⟨h₆, _, io', io2, its, nq, oSe, nS, oD, oL, oga, 0, S1, u2, rfl, hoD, hoL, hoga, fr_eq F₆ (by walk_at "SAME"), N₆, hit₆, hit5, hits, hSe, hnS, hnS2, hKD, hGr, hcls, hpv, by simp, Nat.zero_le _, hfuel, rfl⟩
    clear F₆ N₆ hit₆ hit5 hits hSe hnS hnS2 hKD hGr hcls hpv hfuel hoD hoL hoga
    rintro j2 n s₀ s ⟨h, tk, io, io2, its, nq, oSe, nS, oD, oL, oga, i2, S1, u2, rfl, hoD, hoL, hoga, F, N, hit2, hitI, hits, hSe, hnS, hnS2, hKD, hGr, hcls, hpv, hpart, hi2, hfuel, hj2⟩ ih2
    have hS1 := grown_in hcl hx hGr
    have hSl := grown_len hcl hx hGr
    have hpS : pv ∈ S1 := List.mem_of_getElem? hpv
    refine seg_forLoop ?_
    rw [over_loop2]
    have hilv : vsl.length = (nb pv).length := hil.length
    have offI2 : ∀ (o1 o2 o3 o4 o5 o6 o7 : Obj), ∀ q' ∈ [(Dl, o1), (I, o2), (q, o3), (se, o4), (D, o5), (Lc, o6), (ga, o7)], q'.1 ≠ I2 := fun _ _ _ _ _ _ _ => allLt_ne ⟨hI₆.1, hI₆.2.1, hI₆.2.2.1, hI₆.2.2.2.1, hI₆.2.2.2.2.1, hI₆.2.2.2.2.2.1, hI₆.2.2.2.2.2.2, trivial⟩
    have hil5 : i < S1.length := by
      rcases Nat.lt_or_ge i S1.length with h | h
      · exact h
      · rw [List.getElem?_eq_none h] at hpv; cases hpv
    by_cases hend2 : (nb pv).length ≤ i2
    · refine list_end_N rfl F N hit2 (isList_news N (.tail _ (.head _))) (by rw [hilv]; exact hend2) (offI2 _ _ _ _ _ _ _) fun h' F' N' => ?_
      dsimp only
      refine seg_forEnd ?_
      dsimp only
      refine seg_execs_nil ?_
      refine seg_again rfl ?_
      refine ih (ns.length - (i + 1)) n s₀ _ (by omega) ⟨h', _, io, its, nq, oSe, nS, oD, oL, oga, i + 1, S1, _, _, rfl, hoD, hoL, hoga, F', news_sub N' (fun q' hq' => .tail _ hq'), ?_, hits, hSe, hnS, hnS2, hKD, hGr, ?_, hil5, hfuel, by omega⟩
      · exact iter_at N (.tail _ (.tail _ (.head _))) hitI (N' (I, io) (.tail _ (.head _))).1
      · intro p' hp' k hk
        rw [List.take_add_one, hpv] at hp'
        rcases List.mem_append.mp hp' with hp' | hp'
        · exact hcls p' hp' k hk
        · have e : p' = pv := by simpa using hp'
          rw [e] at hk
          exact hpart k (by rw [List.take_of_length_le hend2]; exact hk)
    · obtain ⟨kv, hkv⟩ : ∃ kv, (nb pv)[i2]? = some kv := ⟨_, List.getElem?_eq_getElem (by omega)⟩
      obtain ⟨tkv, htk⟩ := hil.get i2 kv hkv
      have hkn : kv ∈ nb pv := List.mem_of_getElem? hkv
      refine list_item_N F N hit2 (isList_news N (.tail _ (.head _))) htk (offI2 _ _ _ _ _ _ _) fun io2' h' F' N' hit2' => ?_
      have hit2F : ∀ {h9 : Heap}, h9.get? I2 = some io2' → h9.IsListIter I2 Dl (i2 + 1) := fun e => iter_at N' (.head _) hit2' e
      have hitIF : ∀ {h9 : Heap}, h9.get? I = some io → h9.IsListIter I q (i + 1) := fun e => iter_at N (.tail _ (.tail _ (.head _))) hitI e
      dsimp only
      refine wpAny_of_eq (by rfl) ?_
      refine hideQ ?_
      intro Q hQ
      k_steps
      rename Fr _ _ _ _ => F₇
      rename News _ _ _ _ => N₇
      subst hQ
      dsimp only
      refine seg_execs_cons (seg_If ?_)
      rw [over_loop2]
      refine hideQ ?_
      intro Q hQ
      k_steps
      rename Fr _ _ _ _ => F₈
      rename News _ _ _ _ => N₈
      rename Heap => h₈
      subst hQ
      dsimp only
      have htk2 : (nb pv).take (i2 + 1) = (nb pv).take i2 ++ [kv] := by rw [List.take_add_one, hkv]; rfl
      by_cases hkS : kv ∈ S1
      · rw [if_neg (by simp [hkS])]
        refine seg_execs_nil ?_
        dsimp only
        refine seg_execs_nil ?_
        refine seg_again rfl ?_
        refine ih2 (j2 - 1) n s₀ _ (by omega) ⟨_, _, io, io2', its, nq, oSe, nS, oD, oL, oga, i2 + 1, S1, some (.int kv tkv), rfl, hoD, hoL, hoga, fr_eq F₈ (by walk_at "SAME"), N₈, ?_, ?_, hits, hSe, hnS, hnS2, hKD, hGr, hcls, hpv, ?_, by omega, hfuel, by omega⟩
        · exact hit2F (N₈ _ (.head _)).1
        · exact hitIF (N₈ (I, io) (.tail _ (.tail _ (.head _)))).1
        · rw [htk2]
          intro k hk
          rcases List.mem_append.mp hk with hk | hk
          · exact hpart k hk
          · rw [List.mem_singleton.mp hk]; exact hkS
      · rw [if_pos (by simp [hkS])]
        have hGr' : Grown nb x (S1 ++ [kv]) := hGr.more hpS hkn hkS
        have hSl' := grown_len hcl hx hGr'
        rw [List.length_append, List.length_singleton] at hSl'
        obtain ⟨n, rfl⟩ : ∃ m, n = m + 1 := ⟨n - 1, by omega⟩
        refine seg_pre (pre := [_, _]) ?_
        rw [over_loop2]
        refine hideQ ?_
        intro Q hQ
        k_steps
        rename Fr _ _ _ _ => F₉
        rename News _ _ _ _ => N₉
        rename_i tk9 h9a oSe' hSe' tk9b h9
        subst hQ
        dsimp only
        refine seg_execs_cons (seg_Expr_Yield rfl rfl rfl ?_)
        rw [over_loop2]
        refine hideQ ?_
        intro Q hQ
        k_steps
        rename Fr _ _ _ _ => Fx
        rename News _ _ _ _ => Nx
        rename_i Dt hE lT
        subst hQ
        intro kap hkap
        have nD : Dt ≠ Lc ∧ Dt ≠ D ∧ Dt ≠ ga := ⟨Nat.ne_of_gt lT.2.2.2.2.2.2.1, Nat.ne_of_gt lT.2.2.2.2.2.1, Nat.ne_of_gt lT.2.2.2.2.2.2.2⟩
        refine ⟨⟨⟨_, _, rfl⟩, Fx.keep, fun b o hbb e => ?_⟩, oD, S1, pv, kv, tp, tkv, Dt, (Nx (D, oD) (by simp)).1, hKD, hGr, hpS, hkn, hkS, rfl, (Nx _ (.head _)).1, (Nx _ (.head _)).2.2, nD.1, nD.2.1, nD.2.2, fun h₂ tk₂ gg hk₂ hL₂ hD₂ => ?_⟩
        · rcases hbb with rfl | rfl | rfl
          · rw [hoL] at e; cases e; exact (Nx (b, oL) (by simp)).1
          · rw [hoD] at e; cases e; exact (Nx (b, oD) (by simp)).1
          · rw [hoga] at e; cases e; exact (Nx (b, oga) (by simp)).1
        · obtain ⟨oL2, hL2⟩ := hL₂
          obtain ⟨oD2, hD2, hKD2⟩ := hD₂
          refine hkap .none _ ?_
          dsimp only
          refine seg_execs_nil ?_
          dsimp only
          refine seg_execs_nil ?_
          refine seg_again rfl ?_
          have Nk : ∀ a o, (a, o) ∈ [(I2, io2'), (Dl, W.listOf vsl.toArray cl), (I, io), (q, W.listOf (its.toArray.push (Value.int kv tkv)) (nq + 1)), (se, oSe'), (ga, oga)] → a ≠ Lc → a ≠ D → h₂.get? a = some o ∧ a ≠ Lg ∧ hb.get? a = none := fun a o hm h1 h2 => by
            have z := Nx (a, o) (by simp only [List.mem_cons, List.not_mem_nil, or_false] at hm ⊢; rcases hm with e | e | e | e | e | e <;> simp [e])
            exact ⟨hk₂ _ _ h1 h2 z.1, z.2⟩
          have gL : ∀ {a : Nat}, @LT.lt Nat _ Lc a → a ≠ Lc := fun h => Nat.ne_of_gt h
          have a1 : I2 ≠ Lc ∧ I2 ≠ D := ⟨Nat.ne_of_gt hI₆.2.2.2.2.2.1, Nat.ne_of_gt hI₆.2.2.2.2.1⟩
          have a2 : Dl ≠ Lc ∧ Dl ≠ D := ⟨Nat.ne_of_gt lDl.2.2.2.2.1, Nat.ne_of_gt lDl.2.2.2.1⟩
          have a3 : I ≠ Lc ∧ I ≠ D := ⟨Nat.ne_of_gt hI₃.2.2.2.1, Nat.ne_of_gt hI₃.2.2.1⟩
          have a4 : q ≠ Lc ∧ q ≠ D := ⟨Nat.ne_of_gt lq.2.2.1, Nat.ne_of_gt lq.2.1⟩
          have a5 : se ≠ Lc ∧ se ≠ D := ⟨Nat.ne_of_gt lse.2.1, Nat.ne_of_gt lse.1⟩
          have b1 := Nk I2 io2' (by simp) a1.1 a1.2
          have b2 := Nk Dl _ (.tail _ (.head _)) a2.1 a2.2
          have b3 := Nk I io (by simp) a3.1 a3.2
          have b4 := Nk q _ (.tail _ (.tail _ (.tail _ (.head _)))) a4.1 a4.2
          have b5 := Nk se oSe' (by simp) a5.1 a5.2
          have b6 := Nk ga oga (by simp) neL.2.2.1 neL.2.2.2
          have zD := Nx (D, oD) (by simp)
          have zL := Nx (Lc, oL) (by simp)
          have F₂ : Fr hb Lg h₂ _ := ⟨Fx.ns.at' fun o e => hk₂ _ o neL.1 neL.2.1 e, fun b o e => hk₂ _ _ (fun q => by rw [q, hLc] at e; cases e) (fun q => by rw [q, hD] at e; cases e) (Fx.keep b o e), Fx.above⟩
          refine ih2 (j2 - 1) n _ _ (by omega) ⟨h₂, _, io, io2', its ++ [Value.int kv tkv], nq + 1, oSe', nS + 1, oD2, oL2, oga, i2 + 1, S1 ++ [kv], _, rfl, hD2, hL2, b6.1, fr_eq F₂ (by walk_at "SAME"), ?_, hit2F b1.1, hitIF b3.1, ints_push hits kv tkv, ?_, by omega, by rw [List.length_append, List.length_singleton, hnS2], hKD2, hGr', ?_, ?_, ?_, by omega, by rw [List.length_append, List.length_singleton]; omega, by omega⟩
          · rw [← List.push_toArray]
            exact List.forall_mem_cons.mpr ⟨b1, List.forall_mem_cons.mpr ⟨b2, List.forall_mem_cons.mpr ⟨b3, List.forall_mem_cons.mpr ⟨b4, List.forall_mem_cons.mpr ⟨b5, List.forall_mem_cons.mpr ⟨⟨hD2, zD.2⟩, List.forall_mem_cons.mpr ⟨⟨hL2, zL.2⟩, List.forall_mem_cons.mpr ⟨b6, List.forall_mem_nil _⟩⟩⟩⟩⟩⟩⟩⟩
          · have e : (fun k => decide (k ∈ S1 ++ [kv])) = (fun k' => decide (k' ∈ S1) || decide (k' = kv)) := by
              funext k'
              rw [Bool.eq_iff_iff]
              simp
            rw [if_neg (by simp [hkS])] at hSe'
            rw [e]; exact hSe'
          · intro p' hp' k hk
            rw [List.take_append_of_le_length (by omega)] at hp'
            exact List.mem_append_left _ (hcls p' hp' k hk)
          · rw [List.getElem?_append_left hil5]; exact hpv
          · rw [htk2]
            intro k hk
            rcases List.mem_append.mp hk with hk | hk
            · exact List.mem_append_left _ (hpart k hk)
            · exact List.mem_append_right _ hk
end
section
local macro_rules | `(tactic| walk_at "call ref") => `(tactic| ((with_reducible show wpAny _ _ (call (Value.ref 603) _) _ _ _); refine stopI ?_))
local macro_rules | `(tactic| walk_at "eval Dict") => `(tactic| (k_here; (with_reducible show wpAny _ _ (eval (Expr.Dict [some (Expr.Name _ _)] [_] _) _) _ _ _); k_dflt (refine' kdn_eval (knd := PySem.intKind _ _) ?F ?N ?b ?a ?l ?e ?n ?_; (case F => k_asm); (case N => first | k_asm | exact News.nil); (case b => exact Top.nolimit (by k_asm)); (case a => rfl); (case l => rfl); (case e => exact List.cons_ne_nil _ _); (case n => exact Nat.le_of_ble_eq_true rfl)); intro d' h' o' F' N' l1 lo' hd'; (try k_lt l1)))
/-- all else that lives -/
def rest (b h : Heap) (off : List Addr) : List (Addr × Obj) := snap h ((List.range h.objs.size).filter fun a => (b.get? a).isNone && !(off.contains a))
theorem rest_mem {b h : Heap} {off : List Addr} {a : Addr} {o : Obj} : (a, o) ∈ rest b h off ↔ h.get? a = some o ∧ b.get? a = none ∧ a ∉ off := by
  unfold rest
  rw [mem_snap, List.mem_filter, List.mem_range, Bool.and_eq_true, Option.isNone_iff_eq_none, Bool.not_eq_true', ← Bool.not_eq_true, List.contains_iff_mem]
  constructor
  · rintro ⟨⟨_, h1, h2⟩, h3⟩; exact ⟨h3, h1, h2⟩
  · rintro ⟨h3, h1, h2⟩; exact ⟨⟨Heap.lt_size h3, h1, h2⟩, h3⟩
theorem let_owned_gen {prog : Program} {w : World} {A : Around} {E : Value → Shared → Prop} {s : Shared} {I t : Addr} {gno : Nat} {l : List Expr} {k : Nat} {p : Pos} {Q : Unit → Shared → Prop} (hit : s.heap.IsGen I gno) (hQ : Q () s) :
    wpAny (model prog w) A (letOwnedTupleGo (.Tuple l k p) (.ref I) (.ref t)) Q E s := by
  obtain ⟨o, nm, qn, ho, hc, hd, _⟩ := hit
  show wpAny _ _ (load I >>= _) _ _ s
  refine wpAny_bind (wpAny_load ho ?_)
  rw [hc, hd]
  have : ["enumerate", "zip", "dict_itemiterator", "dict_reverseitemiterator", "odict_iterator", "itertools.zip_longest", "itertools.pairwise"].contains "generator" = false := by decide
  simp only [this, Bool.false_and, Bool.false_eq_true, if_false]
  exact wpAny_pure hQ
/-- for over a generator, by an invariant and its fuel -/
theorem forAt_gen {prog : Program} {w : World} {dp un : Nat} {gd : Option (List Code)} {fr : List Env} {env : Env} {target : Expr} {body : List Stmt} {Q : Flow → Shared → Prop} {ga : Addr} {s : Shared} {code : Code} {G : Array GenState} {n : Nat} (P : Nat → Shared → Shared → Prop) (Y : Protocol)
    (J : Nat → Heap → Nat → Prop) (hG : s.gens = G.push (.fresh code)) (h0 : J n s.heap s.toks) (hdp : dp < recursionLimit) (hYg : ∀ n s₀ v s₁ kap, Y n s₀ v s₁ kap → s₁.gens = s₀.gens) (hPg : ∀ n s₀ s₁, P n s₀ s₁ → s₁.gens = s₀.gens)
    (hgo : Seg (model prog w) ({ handled := none, depth := dp, frames := some fr, guards := gd, units := un } : Around).in1 (fun n s₀ r s₁ => r = .ok (.ret .none) ∧ P n s₀ s₁) Y n { s with gens := G.push .running } code ((model prog w).den code) [] { s with gens := G.push .running })
    (hgen : ∀ j h tk, J j h tk → h.IsGen ga G.size ∧ h.NoLimit) (zero : ∀ h tk, ¬ J 0 h tk)
    (turn : ∀ j h tk v s₁ (gs' : GenState), J (j + 1) h tk → Y j { s with heap := h, toks := tk, gens := G.push .running } v s₁ (fun r' s'' => gs'.Goes (model prog w) ({ handled := none, depth := dp, frames := some fr, guards := gd, units := un } : Around).in1 (fun n s₀ r s₁ => r = .ok (.ret .none) ∧ P n s₀ s₁) Y j r' s'') →
      wpAny (model prog w) { handled := none, depth := dp, frames := some fr, guards := gd, units := un } (letOwnedTupleGo target (.ref ga) v) (fun _ s₁' => wpAny (model prog w) { handled := none, depth := dp, frames := some fr, guards := gd, units := un } (assign target env v) (fun _ s₂ => wpAny (model prog w) { handled := none, depth := dp, frames := some fr, guards := gd, units := un } (execs body env) (fun f s₃ => match f with
        | .next | .cont => Stop (∃ h' tk', s₃ = { s with heap := h', toks := tk', gens := G.push gs' } ∧ J j h' tk' ∧ gs'.Goes (model prog w) ({ handled := none, depth := dp, frames := some fr, guards := gd, units := un } : Around).in1 (fun n s₀ r s₁ => r = .ok (.ret .none) ∧ P n s₀ s₁) Y j (.send .none) { s with heap := h', toks := tk', gens := G.push .running })
        | .brk => Q .next s₃
        | .ret v => Q (.ret v) s₃) Bot s₂) Bot s₁') Bot { s₁ with gens := G.push gs' })
    (done : ∀ j h tk s₁, J j h tk → P j { s with heap := h, toks := tk, gens := G.push .running } s₁ → ∀ h', (∀ b o, s₁.heap.get? b = some o → h'.get? b = some o) → Q .next { s₁ with heap := h', gens := G.push .finished }) :
    ForAt prog w { handled := none, depth := dp, frames := some fr, guards := gd, units := un } env target body Q (.ref ga) s := by
  refine ⟨n, fun j s' => ∃ h tk gs, s' = { s with heap := h, toks := tk, gens := G.push gs } ∧ J j h tk ∧ gs.Goes (model prog w) ({ handled := none, depth := dp, frames := some fr, guards := gd, units := un } : Around).in1 (fun n s₀ r s₁ => r = .ok (.ret .none) ∧ P n s₀ s₁) Y j (.send .none) { s with heap := h, toks := tk, gens := G.push .running }, ⟨s.heap, s.toks, .fresh code, by rw [← hG], h0, rfl, hgo⟩, ?_⟩
  rintro j s' ⟨h, tk, gs, rfl, hJ, hg⟩
  obtain ⟨hI, hlim⟩ := hgen _ _ _ hJ
  cases j with
  | zero => exact absurd hJ (zero h tk)
  | succ j =>
    have e0 : (({ s with heap := h, toks := tk, gens := G.push gs } : Shared).setGen G.size .running) = { s with heap := h, toks := tk, gens := G.push .running } := by
      show ({ s with heap := h, toks := tk, gens := (G.push gs).setIfInBounds G.size .running } : Shared) = _
      rw [gens_set]
    refine wpAny_pyNext_gen (n := j + 1) (gs := gs) (P := P) (Y := Y) rfl hlim hdp hI (by show (G.push gs)[G.size]? = _; simp) (by rw [e0]; exact hg) ?_ ?_
    · intro v s₁ gs' hY
      rw [e0] at hY
      have hgs := hYg _ _ _ _ _ hY
      have e1 : s₁.setGen G.size gs' = { s₁ with gens := G.push gs' } := by
        show ({ s₁ with gens := s₁.gens.setIfInBounds G.size gs' } : Shared) = _
        rw [hgs, gens_set]
      rw [e1]
      refine wpAny_mono (turn j h tk v s₁ gs' hJ hY) (fun _ s₁' h₁ => wpAny_mono h₁ (fun _ s₂ h₂ => wpAny_mono h₂ (fun f s₃ h₃ => ?_) fun _ _ x => x) fun _ _ x => x) fun _ _ x => x
      have fin : (∃ h' tk', s₃ = { s with heap := h', toks := tk', gens := G.push gs' } ∧ J j h' tk' ∧ gs'.Goes (model prog w) ({ handled := none, depth := dp, frames := some fr, guards := gd, units := un } : Around).in1 (fun n s₀ r s₁ => r = .ok (.ret .none) ∧ P n s₀ s₁) Y j (.send .none) { s with heap := h', toks := tk', gens := G.push .running }) →
          ∃ m, m < j + 1 ∧ ∃ h tk gs, s₃ = { s with heap := h, toks := tk, gens := G.push gs } ∧ J m h tk ∧ gs.Goes (model prog w) ({ handled := none, depth := dp, frames := some fr, guards := gd, units := un } : Around).in1 (fun n s₀ r s₁ => r = .ok (.ret .none) ∧ P n s₀ s₁) Y m (.send .none) { s with heap := h, toks := tk, gens := G.push .running } := by
        rintro ⟨h', tk', a, b, c⟩
        exact ⟨j, Nat.lt_succ_self _, h', tk', gs', a, b, c⟩
      cases f with
      | next => exact fin h₃
      | cont => exact fin h₃
      | brk => exact h₃
      | ret v => exact h₃
    · intro s₁ hP h' hk
      rw [e0] at hP
      have hgs := hPg _ _ _ hP
      have e1 : s₁.setGen G.size .finished = { s₁ with gens := G.push .finished } := by
        show ({ s₁ with gens := s₁.gens.setIfInBounds G.size .finished } : Shared) = _
        rw [hgs, gens_set]
      have := done _ _ _ _ hJ hP h' hk
      rw [e1]
      exact this
theorem spl_spec {w : World} {p : Program} {loose : List Str} {mean : ExcName → Option Value} {mg mb : Str → Option Value} {dp un : Nat} {gd : Option (List Code)} {cn : Str} {cs : Scope} {a : Addr} {ccd : Value} {cl : List (Str × Addr)} {outer : List Env} {A₀ : Around} {base h₀ : Heap} {L : Addr} {m : Str → Option Value} {s : Shared} {Q E : Value → Shared → Prop} {g : Addr} {x : Int} {tx : Tok} {ns : List Int} {nb : Int → List Int} {R : Int → Int → Prop}
    (B : Below A₀ base outer h₀) (F : Fr h₀ L s.heap m) (X : (hd.heap_39 w.params).In h₀) (T : Top p loose mean mg mb h₀) (hk : cs.kind = .function) (S : Sys h₀) (hG : UG PySem.Challenge.rw_fq0029_01.row.prog w s.heap g ns nb) (hcl : Closed ns nb) (hnbl : ∀ n, (nb n).length ≤ 100) (hnl : ns.length ≤ 12) (hx : x ∈ ns) (hR0 : R x 0) (hRs : ∀ S n k v, Grown nb x S → n ∈ S → k ∈ nb n → k ∉ S → R n v → R k (v + 1))
    (hdp : dp + 30 < recursionLimit) (hun : un + 300 < cLine)
    (ret : ∀ D oD kvs h' tk', Keeps s.heap h' → s.heap.get? D = none → h'.get? D = some oD → oD.IsDictOf (PySem.intKind PySem.Challenge.rw_fq0029_01.row.prog w) kvs → x ∈ kvs.map (·.1) → (∀ n ∈ kvs.map (·.1), ∀ k ∈ nb n, k ∈ kvs.map (·.1)) → (∀ k ∈ kvs.map (·.1), ∃ v t, valueAt kvs k = some (.int v t) ∧ R k v) → Q (.ref D) { s with heap := h', toks := tk', gens := s.gens.push .finished }) :
    wpAny (model PySem.Challenge.rw_fq0029_01.row.prog w) (ktrTop dp un gd cn cs L a ccd cl outer) (call (.ref 610) [.ref g, .int x tx]) Q E s := by
  revert X
  k_fill
  intro X
  refine wpAny_call ?_
  refine' enterW (binds := [(("G" : Str), (.ref g : Value)), (("source" : Str), (.int x tx : Value))]) ?k1 ?k2 ?k3 ?k5 ?kA ?kF ?kK ?k6 ?k7 ?k8 ?k9 ?kB ?_ ?c2 ?c3 ?c4 ?c5
  case kA => exact rfl
  case kF => exact rfl
  case kK => assumption
  case k1 => exact B
  case k2 => exact F
  case k3 => exact X
  case k5 => exact T
  case k6 => k_is
  case k7 => k_is
  case k8 => ktr_room
  case k9 => exact BindsTo.of_eq rfl
  case c5 => decide
  case kB => exact locs rfl
  case c2 => exact rfl
  case c3 => exact rfl
  case c4 => exact rfl
  intro L' h' F' N' B' X' T'
  try dsimp only
  k_fold
  have S' : Sys s.heap := S.keep F.keep
  replace F' : Fr s.heap L' h' (lk [(("source" : Str), some (.int x tx : Value)), (("G" : Str), some (.ref g : Value))]) := (lk_of _ ▸ F' :)
  have hL' := F'.above
  k_steps
  rename Fr _ _ _ _ => F5
  rename News _ _ _ _ => N5
  rename_i D hA o0 loD hd0 lT hB oD0 hdD hfD h5
  show wpAny _ (ktrTop _ _ _ _ _ _ _ _ _ _) (call (.ref 603) [.ref g, .int x tx]) _ _ _
  refine wpAny_call ?_
  refine' enterGK (binds := [(("G" : Str), Value.ref g), (("source" : Str), Value.int x tx)]) F5 X' T' ?ho ?hcd ?hroom ?hbind ?hkl ?hloc ?hnd ?hcl ?_ ?c1 ?c2 ?c3
  case ho => k_is
  case hcd => k_is
  case hkl => intro _; repeat (first | exact List.forall_mem_nil _ | refine List.forall_mem_cons.mpr ⟨rfl, ?_⟩)
  case hnd => decide
  case hcl => intro _; rfl
  case hroom => walk_at "ROOM"
  case hbind => exact BindsTo.of_eq rfl
  case hloc => exact locs rfl
  case c1 => exact rfl
  case c2 => exact rfl
  case c3 => exact rfl
  intro Lg ga h7 tk7 FG hgen hsz hlt7 hk7
  dsimp only
  refine wpAny_pyIter_gen hgen ?_
  have hD5 := N5 _ (.head _)
  have hLD : D ≠ L' := hD5.2.1
  have hbk : ∀ b o, s.heap.get? b = some o → (hideAll h5 [D, L']).get? b = some o := fun b o e => hideAll_get _ (F5.keep b o e) (by
    intro hm
    simp only [List.mem_cons, List.not_mem_nil, or_false] at hm
    rcases hm with rfl | rfl
    · have z : s.heap.get? b = none := hD5.2.2
      rw [z] at e; cases e
    · exact absurd (Heap.lt_size e) (Nat.not_lt.mpr hL'))
  have hLs : L' < h5.objs.size := F5.ns.lt
  have hDs : D < h5.objs.size := Heap.lt_size hD5.1
  have hlt : @LT.lt Nat _ L' Lg ∧ @LT.lt Nat _ D Lg ∧ @LT.lt Nat _ Lg ga := ⟨Nat.lt_of_lt_of_le hLs hsz, Nat.lt_of_lt_of_le hDs hsz, hlt7⟩
  have FGb : Fr (hideAll h5 [D, L']) Lg h7 (lk [("source", some (.int x tx)), ("G", some (.ref g))]) := ⟨FG.ns, fun b o e => FG.keep b o (of_hideAll _ e), by rw [hideAll_size]; exact FG.above⟩
  have hb7 : ∀ b o, (hideAll h5 [D, L']).get? b = some o → h7.get? b = some o := fun b o e => hk7.keep _ _ (of_hideAll _ e)
  obtain ⟨t00, hdD'⟩ : ∃ t00, oD0.IsDictOf (PySem.intKind PySem.Challenge.rw_fq0029_01.row.prog w) [(x, .int 0 t00)] := ⟨_, hdD⟩
  have hL7 : ∃ o, h7.get? L' = some o := by
    obtain ⟨o, _, _, ho, _⟩ := F5.ns
    exact ⟨o, hk7.keep _ _ ho⟩
  refine forAt_gen (G := s.gens) (n := ns.length) (BP PySem.Challenge.rw_fq0029_01.row.prog w (hideAll h5 [D, L']) L' D ga nb x) (BY PySem.Challenge.rw_fq0029_01.row.prog w (hideAll h5 [D, L']) L' D ga nb x)
    (fun j h _ => ∃ (kvs : List (Int × Value)) (oD : Obj) (u1 u2 : Option Value), Fr s.heap L' h (lk [("nbr", u2), ("n", u1), ("dist", some (.ref D)), ("source", some (.int x tx)), ("G", some (.ref g))]) ∧ News s.heap L' h [(D, oD)] ∧ oD.IsDictOf (PySem.intKind PySem.Challenge.rw_fq0029_01.row.prog w) kvs ∧
      Grown nb x (kvs.map (·.1)) ∧ (∀ k ∈ kvs.map (·.1), ∃ v t, valueAt kvs k = some (.int v t) ∧ R k v) ∧ h.IsGen ga s.gens.size ∧ (∀ b o, (hideAll h5 [D, L']).get? b = some o → h.get? b = some o) ∧ j + (kvs.map (·.1)).length = ns.length + 1) rfl ?h0 ?hdp ?hYg ?hPg ?hgo ?hgen ?zero ?turn ?done
  case h0 =>
    refine ⟨[(x, .int 0 t00)], oD0, none, none, fr_eq (fr_onto F5 hk7) (by walk_at "SAME"), news_onto N5 hk7, hdD', .one, fun k hk => ?_, hgen, hb7, rfl⟩
    have hk := List.mem_singleton.mp hk
    subst hk
    exact ⟨0, t00, by simp [valueAt], hR0⟩
  case hdp => walk_at "ROOM"
  case hYg => rintro n s₀ v s₁ kap ⟨⟨⟨h, tk, rfl⟩, _⟩, _⟩; rfl
  case hPg => rintro n s₀ s₁ ⟨⟨⟨h, tk, rfl⟩, _⟩, _⟩; rfl
  case hgo =>
    refine' bfs_runs ?hbl (X'.keeps hbk) (T'.keeps hbk) (S'.keep hbk) (hG.keep hbk) hcl hnbl hnl (Nat.le_succ _) hx FGb hgen hlt (hideAll_none _ (by simp)) (hideAll_none _ (by simp)) _ _ _ _ ?hd1 ?hu1 (fun b o _ _ e => e) hL7 ⟨oD0, hk7.keep _ _ hD5.1, _, hdD', rfl⟩
    case hbl => k_is
    case hd1 => walk_at "ROOM"
    case hu1 => walk_at "UNITS"
  case hgen =>
    rintro j h tk ⟨kvs, oD, u1, u2, F, N, hd, hg, hv, hI, hk, hj⟩
    exact ⟨hI, (T'.keeps F.keep).nolimit⟩
  case zero =>
    rintro h tk ⟨kvs, oD, u1, u2, F, N, hd, hg, hv, hI, hk, hj⟩
    have := grown_len hcl hx hg
    omega
  case turn =>
    rintro j h tk v s₁ gs' ⟨kvs, oD, u1, u2, F, N, hd, hg, hv, hI, hk, hj⟩ ⟨⟨⟨h1, tk1, rfl⟩, kb, ks⟩, o, S1, p, k, tp, tkk, t, hoD1, ⟨kvs1, hkv1, rfl⟩, hGr1, hp, hkn, hkS, rfl, ht, ht0, hn1, hn2, hn3, hkap⟩
    have hoD : h1.get? D = some oD := ks D oD (.inr (.inl rfl)) (N _ (.head _)).1
    have hoD1' : h1.get? D = some o := hoD1
    rw [hoD] at hoD1'
    cases hoD1'
    obtain rfl := dict_uniq hd hkv1
    have F1 : Fr s.heap L' h1 _ := ⟨F.ns.at' fun o e => ks L' o (.inl rfl) e, fun b o e => kb b o (hbk b o e), F.above⟩
    have hts : s.heap.get? t = none := by
      cases e : s.heap.get? t with
      | none => rfl
      | some o => rw [hbk _ _ e] at ht0; cases ht0
    have N1 : News s.heap L' h1 ((t, tup2 p tp k tkk) :: (D, oD) :: rest s.heap h1 [D, L']) := List.forall_mem_cons.mpr ⟨⟨ht, hn1, hts⟩, List.forall_mem_cons.mpr ⟨⟨hoD, (N _ (.head _)).2⟩, fun q hq => by
      obtain ⟨a, oa⟩ := q
      obtain ⟨e1, e2, e3⟩ := rest_mem.mp hq
      exact ⟨e1, fun e => e3 (by simp [show a = L' from e]), e2⟩⟩⟩
    have hRD : ∀ q ∈ rest s.heap h1 [D, L'], q.1 ≠ D := fun q hq e => by
      obtain ⟨a, oa⟩ := q
      exact (rest_mem.mp hq).2.2 (by simp [show a = D from e])
    have hgen1 : h1.IsGen ga s.gens.size := by
      obtain ⟨oga, nm, qn, ho, r⟩ := hI
      exact ⟨oga, nm, qn, ks ga oga (.inr (.inr rfl)) ho, r⟩
    have ntD : @Ne Nat t D := hn2
    obtain ⟨v, tv, hval, hRp⟩ := hv p hp
    have hlen : kvs.length ≤ sizeLine := by
      have := grown_len hcl hx hg
      rw [List.length_map] at this
      rw [sizeLine_eq]; omega
    refine let_owned_gen (s := { s with heap := h1, toks := tk1, gens := s.gens.push gs' }) hgen1 ?_
    have hk1 : ∀ b o, s.heap.get? b = some o → h1.get? b = some o := F1.keep
    clear F N
    k_steps
    rename Heap => h9
    dsimp only
    unfold Stop
    rename Fr _ _ _ _ => F9
    rename News _ _ _ _ => N9
    rename Obj.IsDictOf _ _ (stored _ _ _) => hd9
    obtain ⟨t9, oD9, hd9', hm9⟩ : ∃ t9 oD9, Obj.IsDictOf (PySem.intKind PySem.Challenge.rw_fq0029_01.row.prog w) oD9 (stored kvs k (.int (v + 1) t9)) ∧ (D, oD9) ∈ (t, tup2 p tp k tkk) :: (D, oD9) :: rest s.heap h1 [D, L'] := ⟨_, _, hd9, .tail _ (.head _)⟩
    clear hm9
    have hkeys : (stored kvs k (.int (v + 1) t9)).map (·.1) = kvs.map (·.1) ++ [k] := keys_new rfl hkS
    have hfr : ∀ b o, b ≠ L' → b ≠ D → h1.get? b = some o → h9.get? b = some o := fun b o hb1 hb2 e => by
      cases e' : s.heap.get? b with
      | some o' =>
        have e2 := hk1 b o' e'
        rw [e] at e2
        cases e2
        exact F9.keep b o e'
      | none =>
        exact (N9 (b, o) (.tail _ (.tail _ (rest_mem.mpr ⟨e, e', by simp [hb1, hb2]⟩)))).1
    have hL9 := F9.ns
    obtain ⟨oL9, _, _, hL9, _⟩ := hL9
    refine ⟨_, _, rfl, ⟨_, _, _, _, fr_eq F9 (by walk_at "SAME"), news_sub N9 (fun q hq => by rw [List.mem_singleton.mp hq]; exact .tail _ (.head _)), hd9, ?_, fun k' hk' => ?_, ?_, fun b o e => ?_, ?_⟩, hkap _ _ _ hfr ⟨oL9, hL9⟩ ⟨_, (N9 (D, _) (.tail _ (.head _))).1, _, hd9, keys_new rfl hkS⟩⟩
    · rw [keys_new rfl hkS]; exact hg.more hp hkn hkS
    · rw [keys_new rfl hkS] at hk'
      by_cases e : k' = k
      · subst e; exact ⟨_, _, va_hit, hRs _ _ _ _ hg hp hkn hkS hRp⟩
      · rcases List.mem_append.mp hk' with hk' | hk'
        · obtain ⟨v', t', e1, e2⟩ := hv k' hk'
          exact ⟨v', t', va_other e e1, e2⟩
        · exact absurd (List.mem_singleton.mp hk') e
    · obtain ⟨oga, nm, qn, ho, r⟩ := hgen1
      exact ⟨oga, nm, qn, hfr ga oga (by exact Nat.ne_of_gt (Nat.lt_trans hlt.1 hlt.2.2)) (by exact Nat.ne_of_gt (Nat.lt_trans hlt.2.1 hlt.2.2)) ho, r⟩
    · refine hfr b o (fun q => ?_) (fun q => ?_) (kb b o e)
      · rw [q, hideAll_none _ (by simp)] at e; cases e
      · rw [q, hideAll_none _ (by simp)] at e; cases e
    · rw [keys_new rfl hkS, List.length_append, List.length_singleton]; omega
  case done =>
    rintro j h tk s₁ ⟨kvs, oD, u1, u2, F, N, hd, hg, hv, hI, hk, hj⟩ ⟨⟨⟨h1, tk1, rfl⟩, kb, ks⟩, o, S1, hoD1, ⟨kvs1, hkv1, rfl⟩, hGr1, hcl1⟩ h9 hk9
    have hoD : h1.get? D = some oD := ks D oD (.inr (.inl rfl)) (N _ (.head _)).1
    have hoD1' : h1.get? D = some o := hoD1
    rw [hoD] at hoD1'
    cases hoD1'
    obtain rfl := dict_uniq hd hkv1
    have F1 : Fr s.heap L' h9 _ := ⟨F.ns.at' fun o e => hk9 _ _ (ks L' o (.inl rfl) e), fun b o e => hk9 _ _ (kb b o (hbk b o e)), F.above⟩
    have N1 : News s.heap L' h9 [(D, oD)] := fun q hq => by
      rw [List.mem_singleton.mp hq]
      exact ⟨hk9 _ _ hoD, (N _ (.head _)).2⟩
    clear F N
    dsimp only
    k_steps
    dsimp only
    k_unfold
    refine ret D oD kvs h9 _ (keeps_of F1) hD5.2.2 (N1 _ (.head _)).1 hd ?_ hcl1 hv
    exact (grown_in hcl hx hg).2.2
end
section
variable {prog : Program} {w : World} {A : Around} {E : Value → Shared → Prop} {s : Shared} {KF : Frag} {h₀ : Heap} {L a C : Addr} {m mg mb : Str → Option Value} {cn : Str} {cs : Scope} {ccd : Value} {cl : List (Str × Addr)} {p : Program} {loose : List Str}
  {x : Str} {np cpos pos : Pos} {Q : Flow → Shared → Prop} {bm : List Value} {newId initId Bn : String}
theorem evalArgs_plainE {M : Model} {f x : Value} {l rest : List (Bool × Sem Value)} {y : Sem Value} {Q : Args → Shared → Prop} (he : l = (false, y) :: rest) (h : wpAny M A (spliced l) (fun vs s' => Q ⟨vs, []⟩ s') E s) : wpAny M A (evalArgs f true l []) Q E s := by
  subst he
  exact Calls.evalArgs_plain h
theorem Raise_ownX {args : List Expr} {y : Sem Value} {ys : List (Bool × Sem Value)} (F : Fr h₀ L s.heap m) (X : KF.In h₀) (T : TopRead p loose mg mb h₀) (ex : nsIn KF mainGlobals x = some (some (.ref C))) (q : excIn KF C bm newId = true) (FB : ExcBaseFacts Bn newId initId bm) (hh : A.handled = none)
    (h : wpAny (model prog w) A (spliced (backTo cpos (starEach args (envX cn cs L a ccd cl)))) (fun vs s₂ => vs.length ≤ sizeLine ∧ (∀ b o, h₀.get? b = some o → s₂.heap.get? b = some o) ∧
      ∀ h' e, Heap.MadeExcOf s₂.heap h' e (.ref C) vs → E (.ref e) { s₂ with heap := h' }) E s)
    (he : backTo cpos (starEach args (envX cn cs L a ccd cl)) = (false, y) :: ys) (hplain : (backTo cpos (starEach args (envX cn cs L a ccd cl))).any (·.1) = false)
    (hk : cs.kind = .function := by rfl) (hx : (envX cn cs L a ccd cl).kindOf x = some .globalImplicit := by rfl) (hd : (x == ("__debug__" : Str)) = false := by decide) :
    wpAny (model prog w) A (exec (.Raise (some (.Call (.Name x np) args [] cpos)) none pos) (envX cn cs L a ccd cl)) Q E s := by
  have O := own_of_in X T ex q
  obtain ⟨tl, N, nm, q, bs, hdct, sn, sub, ab, col, dd, k0, k1, k2, k3, k5, mN, hC, hN, hni, TL⟩ := O.obj
  refine wpAny_Raise_call_subT (C := C) (nm := nm) (q := q) (N := N) (bs := bs) (bm := tl) (hdct := hdct) (sn := sn) (sub := sub) (ab := ab) (col := col) (dd := dd) (k0 := k0) (k1 := k1) (k2 := k2) (k3 := k3) (k5 := k5)
    FB (mN := mN) (TL.hasType FB.hasBase) hh hplain hni (nameX_K F X T ex ⟨rfl, ?_⟩ hk hx hd)
  exact evalArgs_plainE (x := .none) he (wpAny_mono h (fun vs s₂ h₂ => ⟨rfl, h₂.1, h₂.2.1 _ _ hC, hN.keeps h₂.2.1, TL.keeps h₂.2.1, h₂.2.2⟩) fun _ _ y => y)
end
section
variable {M : Model} {A : Around} {E : Value → Shared → Prop} {s' : Shared} {base g g₂ h : Heap} {outer : List Env} {L e t : Addr} {m : Str → Option Value} {env : Env} {Q : Unit → Shared → Prop}
theorem mem_frames {b : Addr} (hf : env.frame = some L) (hm : b ∈ (env :: outer).filterMap (·.frame)) : b = L ∨ b ∈ outer.filterMap (·.frame) := by
  obtain ⟨env', he, hf'⟩ := List.mem_filterMap.mp hm
  rcases List.mem_cons.mp he with rfl | he
  · rw [hf] at hf'; exact .inl (Option.some.inj hf').symm
  · exact .inr (List.mem_filterMap.mpr ⟨env', he, hf'⟩)
/-- an exception leaves the frame that made it -/
theorem leave_raiseX {cls : Value} {vs : List Value} (K : Below A base outer g) (hx : Heap.MadeExcOf h s'.heap e cls vs) (F : Fr g L h m) (hf : env.frame = some L) (hke : env.scope.kind = .function)
    (hQ : ∀ h' t, RaisedS base g outer e cls t vs [] h' → g.UpToSlots h' → Q () { s' with heap := h' }) :
    wpAny M (A.deeper env) (leaving env (.ref e)) Q E s' := by
  have K' := pushX K F hf hke
  have hin : ∀ e' ∈ (env :: outer), ∀ b, e'.frame = some b → b ∈ (env :: outer).filterMap (·.frame) := fun e' he b hb => List.mem_filterMap.mpr ⟨e', he, hb⟩
  have st : base.StaysIn (hideAll h ((env :: outer).filterMap (·.frame))) := fun b o q => hideAll_get _ (K'.stays b o q) fun hm => by
    rw [(K'.frames.mem hm).1] at q; cases q
  have sg : ∀ b o, g.get? b = some o → b ∉ outer.filterMap (·.frame) → (hideAll h ((env :: outer).filterMap (·.frame))).get? b = some o := fun b o q nm => hideAll_get _ (F.keep b o q) fun hm => by
    rcases mem_frames hf hm with z | z
    · rw [z, kts_self F] at q
      cases q
    · exact nm z
  exact wpAny_leaves_madeW K'.stack hf (fun b o q => of_hideAll _ q) (funFrames_hide K'.frames hin) hx fun h' t x1 x2 x3 x4 =>
    hQ h' t ⟨⟨_, st, sg, (fun q hq => nomatch hq), x1, x3⟩, x2⟩ (((Heap.UpToSlots.of_keeps F.keep).trans (Heap.UpToSlots.of_keeps hx.keeps)).trans x4)
/-- it goes on through a frame -/
theorem leave_onX {cls : Value} {vs : List Value} (K : Below A base outer g) (F : Fr g L g₂ m) (hf : env.frame = some L) (R : RaisedS base g₂ (env :: outer) e cls t vs [] s'.heap) (hsm : g₂.UpToSlots s'.heap)
    (hQ : ∀ h', RaisedS base g outer e cls t vs [] h' → g.UpToSlots h' → Q () { s' with heap := h' }) :
    wpAny M (A.deeper env) (leaving env (.ref e)) Q E s' := by
  obtain ⟨⟨B, hB, hBG, hl, hfl, hnew⟩, htup⟩ := R
  exact wpAny_leaves_onW (Around.frames_deeper K.stack) hf hfl fun h' x1 x2 =>
    hQ h' ⟨⟨B, hB, fun b o q nm => hBG b o (F.keep b o q) (fun hm => by
      rcases mem_frames hf hm with z | z
      · rw [z, kts_self F] at q
        cases q
      · exact nm z), (fun q hq => nomatch hq), x1, hnew⟩, htup.of_slots x2⟩ ((Heap.UpToSlots.of_keeps F.keep).trans (hsm.trans x2))
end
section
local macro_rules | `(tactic| walk_at "nothing") => `(tactic| fail "nothing")
local macro_rules | `(tactic| walk_at "nothing") => `(tactic| fail "nothing")
local macro_rules | `(tactic| walk_at "nothing") => `(tactic| fail "nothing")
theorem stopI' {P : Prop} (h : Stop P) : P := h
theorem not_dag {b : Bool} {P : Prop} (h : b = true ↔ P) (hn : ¬ P) : b = false := by
  cases b
  · rfl
  · exact absurd (h.mp rfl) hn
local macro_rules | `(tactic| walk_at "call ref") => `(tactic| (k_here; (k_dflt (show wpAny _ _ (call (Value.ref _) [Value.ref _]) _ _ _)); (with_reducible show wpAny _ _ (call (Value.ref 591) [Value.ref _]) _ _ _); k_dflt (refine' dag_spec ?B ?F ?X ?T ?hk ?S ?hG ?hc ?hnl ?hdp ?hun ?_; (case B => k_asm); (case F => k_asm); (case X => k_asm); (case T => k_asm); (case hk => rfl); (case S => assumption); (case hG => walk_at "DIG"); (case hc => assumption); (case hnl => assumption); (case hdp => walk_at "ROOM"); (case hun => walk_at "UNITS")); intro b' h' tk' hk' hb'; (have hb2 := not_dag hb' (by assumption)); (subst hb2); clear hb'; (have N' := news_onto (by k_asm) hk'); (have F' := fr_onto (by k_asm) hk'); (try clear hk'); (try dsimp only); (try k_sweep)))
local macro_rules | `(tactic| walk_at "exec Raise some none") => `(tactic| refine stopI' ?_)
theorem pairs_ring {w : World} {p : Program} {loose : List Str} {mean : ExcName → Option Value} {mg mb : Str → Option Value} {dp un : Nat} {gd : Option (List Code)} {cn : Str} {cs : Scope} {a : Addr} {ccd : Value} {cl : List (Str × Addr)} {outer : List Env} {A₀ : Around} {base h₀ : Heap} {L : Addr} {m : Str → Option Value} {s : Shared} {Q E : Value → Shared → Prop} {g l : Addr} {ns : List Int} {sb pb : Int → List Int}
    (B : Below A₀ base outer h₀) (F : Fr h₀ L s.heap m) (X : (hd.heap_39 w.params).In h₀) (T : Top p loose mean mg mb h₀) (hk : cs.kind = .function) (S : Sys h₀) (hG : DiG PySem.Challenge.rw_fq0029_01.row.prog w s.heap g ns sb pb) (hcs : Closed ns sb) (hnl : ns.length ≤ 100) (hac : ¬ Acyc ns sb)
    (hdp : dp + 10 < recursionLimit) (hun : un + 100 < cLine)
    (err : ∀ e t vs h' tk', RaisedS base s.heap (envX cn cs L a ccd cl :: outer) e (.ref 44) t vs [] h' → s.heap.UpToSlots h' → E (.ref e) { s with heap := h', toks := tk' }) :
    wpAny (model PySem.Challenge.rw_fq0029_01.row.prog w) (ktrTop dp un gd cn cs L a ccd cl outer) (call (.ref 616) [.ref g] [("pairs", .ref l)]) Q E s := by
  have N₀ : News h₀ L s.heap [] := News.nil
  revert X
  k_fill
  intro X
  refine wpAny_call ?_
  refine' enterC (binds := [(("G" : Str), (.ref g : Value)), (("pairs" : Str), (.ref l : Value))]) ([] : List (Addr × Obj)) ?k1 ?k2 ?k2n ?k3 ?k5 ?kA ?kF ?kK ?k6 ?k7 ?k8 ?k9 ?kL ?kB ?kN (fun L' => [(("nodes" : Str), L' + 1)]) ?kC ?_ ?c2 ?c3 ?c4
  case kA => exact rfl
  case kF => exact rfl
  case kK => assumption
  case k1 => exact B
  case k2 => exact F
  case k2n => exact N₀
  case k3 => exact X
  case k5 => exact T
  case k6 => k_is
  case k7 => k_is
  case k8 => ktr_room
  case k9 => first | exact BindsTo.of_eq rfl | exact kp_binds (X.keeps F.keep) (fun _ => rfl)
  case kL => intro _; repeat (first | exact List.forall_mem_nil _ | refine List.forall_mem_cons.mpr ⟨rfl, ?_⟩)
  case kN => decide
  case kC => intro _; rfl
  case kB => exact locs rfl
  case c2 => exact rfl
  case c3 => exact rfl
  case c4 => exact rfl
  intro g' L' h' tk' cells' hg' F' N' Y' lH' B' X' T' st'
  try dsimp only
  k_fold
  have S' : Sys g' := S.keep st'
  replace F' : Fr g' L' h' (lk [(("pairs" : Str), some (.ref l : Value)), (("G" : Str), some (.ref g : Value))]) := F'
  k_cells Y'
  try dsimp only [List.cons_append, List.nil_append] at N'
  try k_lt lH'
  rename_i oc dc
  have hG' := hG.keep (h' := g') fun b o e => by rw [hg']; exact hideAll_get _ e (by simp)
  obtain ⟨nd, ad, pd, nkvs, hO, e3, e4, e5, hA, hP⟩ := hG'.at_
  k_steps
  rename Fr _ _ _ _ => F2
  rename News _ _ _ _ => N2
  refine' Raise_ownX ?F ?X ?T ?ex ?q PySem.F.excBase_Exception ?hh ?h ?he ?hp ?hk ?hx ?hd
  case F => exact F2
  case X => k_asm
  case T => k_asm
  case ex => k_is
  case q => k_exc
  case hh => rfl
  case he => rfl
  case hp => rfl
  case hk => rfl
  case hx => rfl
  case hd => decide
  case h =>
    k_steps
    rename Heap.MadeExcOf _ _ _ _ _ => hx9
    refine leave_raiseX B' hx9 F2 rfl rfl fun h9 t9 R9 U9 => ?_
    have hgs : g' = s.heap := hg'
    rw [hgs] at R9 U9
    exact err _ _ _ _ _ R9 U9
local macro_rules | `(tactic| walk_at "call ref") => `(tactic| ((with_reducible show wpAny _ _ (call (Value.ref 616) _ _) _ _ _); refine stopI' ?_))
theorem lca_ring {w : World} {p : Program} {loose : List Str} {mean : ExcName → Option Value} {mg mb : Str → Option Value} {dp un : Nat} {gd : Option (List Code)} {cn : Str} {cs : Scope} {a : Addr} {ccd : Value} {cl : List (Str × Addr)} {outer : List Env} {A₀ : Around} {base h₀ : Heap} {L : Addr} {m : Str → Option Value} {s : Shared} {Q E : Value → Shared → Prop} {g : Addr} {u v : Int} {tu tv : Tok} {ns : List Int} {sb pb : Int → List Int}
    (B : Below A₀ base outer h₀) (F : Fr h₀ L s.heap m) (X : (hd.heap_39 w.params).In h₀) (T : Top p loose mean mg mb h₀) (hk : cs.kind = .function) (S : Sys h₀) (hG : DiG PySem.Challenge.rw_fq0029_01.row.prog w s.heap g ns sb pb) (hcs : Closed ns sb) (hnl : ns.length ≤ 100) (hac : ¬ Acyc ns sb)
    (hdp : dp + 20 < recursionLimit) (hun : un + 200 < cLine)
    (err : ∀ e t vs h' tk', RaisedS base s.heap (envX cn cs L a ccd cl :: outer) e (.ref 44) t vs [] h' → s.heap.UpToSlots h' → E (.ref e) { s with heap := h', toks := tk' }) :
    wpAny (model PySem.Challenge.rw_fq0029_01.row.prog w) (ktrTop dp un gd cn cs L a ccd cl outer) (call (.ref 624) [.ref g, .int u tu, .int v tv]) Q E s := by
  have N₀ : News h₀ L s.heap [] := News.nil
  revert X
  k_fill
  intro X
  refine wpAny_call ?_
  refine' enterH (binds := [(("G" : Str), (.ref g : Value)), (("node1" : Str), (.int u tu : Value)), (("node2" : Str), (.int v tv : Value)), (("default" : Str), (.none : Value))]) ([] : List (Addr × Obj)) ?k1 ?k2 ?k2n ?k3 ?k5 ?kA ?kF ?kK ?k6 ?k7 ?k8 ?k9 ?kB ?_ ?c2 ?c3 ?c4 ?c5
  case kA => exact rfl
  case kF => exact rfl
  case kK => assumption
  case k1 => exact B
  case k2 => exact F
  case k2n => exact N₀
  case k3 => exact X
  case k5 => exact T
  case k6 => k_is
  case k7 => k_is
  case k8 => ktr_room
  case k9 => first | exact BindsTo.of_eq rfl | exact kp_binds (X.keeps F.keep) (fun _ => rfl)
  case c5 => decide
  case kB => exact locs rfl
  case c2 => exact rfl
  case c3 => exact rfl
  case c4 => exact rfl
  intro g' L' h' hg' F' N' lH' B' X' T' st'
  try dsimp only
  k_fold
  have S' : Sys g' := S.keep st'
  replace F' : Fr g' L' h' (lk [(("default" : Str), some (.none : Value)), (("node2" : Str), some (.int v tv : Value)), (("node1" : Str), some (.int u tu : Value)), (("G" : Str), some (.ref g : Value))]) := (lk_of _ ▸ F' :)
  try k_lt lH'
  have hgs : g' = s.heap := hg'
  have hG' : DiG PySem.Challenge.rw_fq0029_01.row.prog w g' g ns sb pb := hgs ▸ hG
  k_steps
  rename Fr _ _ _ _ => F2
  rename News _ _ _ _ => N2
  show wpAny _ (ktrTop _ _ _ _ _ _ _ _ _ _) (call (.ref 616) [.ref g] [("pairs", .ref _)]) _ _ _
  refine pairs_ring (A₀ := _) B' F2 X' T' rfl (S.keep st') (hG'.keep F2.keep) hcs hnl hac (by walk_at "ROOM") (by walk_at "UNITS") fun e t vs h9 tk9 R9 U9 => ?_
  k_unfold
  dsimp only
  refine leave_onX B' F2 rfl R9 U9 fun h10 R10 U10 => ?_
  rw [hgs] at R10 U10
  exact err _ _ _ _ _ R10 U10
end
section
variable {M : Model} {A : Around} {E : Value → Shared → Prop} {s : Shared} {base g h : Heap} {outer : List Env} {L e : Addr} {m : Str → Option Value} {env : Env} {Q : Unit → Shared → Prop}
theorem noteFrame_firstW {oe : Obj} {vs : Array Value} {a0 : Value} (hfr : A.frames = some (env :: outer)) (hl : s.heap.FunFrames base (env :: outer)) (hf : env.frame = some L)
    (he : s.heap.get? e = some oe) (hkb : base.StaysIn s.heap) (hen : base.get? e = none) (hd : oe.data = .fields vs) (h1 : vs[1]? = some .none) (h0 : vs[0]? = some a0)
    (h : ∀ h', Heap.NotedW base (env :: outer) e oe.cls a0 (rawInt L) s.heap h' → Q () { s with heap := h' }) : wpAny M A (noteFrame (.ref e) env) Q E s := by
  unfold noteFrame
  simp only [hf]
  refine wpAny_bind (wpAny_field he hd h1 ?_)
  rw [if_neg (by decide)]
  exact wpAny_entryW hfr hl hf he hkb hen hd (Array.getElem?_eq_some_iff.mp h1).1 h0 h
/-- a new exception is noted in the frame that made it -/
theorem noteFrame_madeW {cls : Value} {args : List Value} (hfr : A.frames = some (env :: outer)) (hf : env.frame = some L) (hkb : base.StaysIn h) (hl : h.FunFrames base (env :: outer)) (hx : Heap.MadeExcOf h s.heap e cls args)
    (hQ : ∀ h' t, Heap.HeldW base (env :: outer) e cls (.ref t) L h' → h'.TupAt t args → base.get? t = none → s.heap.UpToSlots h' → Q () { s with heap := h' }) : wpAny M A (noteFrame (.ref e) env) Q E s := by
  obtain ⟨t, he, htn, ht⟩ := hx.there
  have fresh : ∀ b, h.get? b = none → base.get? b = none := fun b hb => by
    cases hq : base.get? b with
    | none => rfl
    | some o' => have := hkb b o' hq; rw [hb] at this; cases this
  refine noteFrame_firstW (a0 := .ref t) hfr (hl.of_keeps fun b o hb _ => ⟨o, hx.keeps b o hb, rfl⟩) hf he (fun b o hb => hx.keeps b o (hkb b o hb)) (fresh e hx.new) rfl rfl rfl fun h' hL => ?_
  obtain ⟨k1, k2, k3, k4⟩ := hL
  exact hQ h' t ⟨k1, fresh e hx.new, k2, k3⟩ (Heap.TupAt.of_slots ⟨_, _, ht, rfl, rfl⟩ k4) (fresh t htn) k4
theorem setFlight_someW {cls a0 fl : Value} {l : List Env} (hkb : base.StaysIn s.heap) (hl : s.heap.FunFrames base l) (ht : s.heap.TracedAtW base e cls a0 fl)
    (h : ∀ h', base.StaysIn h' → h'.FunFrames base l → h'.TracedAtW base e cls a0 (rawInt L) → (∀ b o, s.heap.get? b = some o → (∀ vs, o.data ≠ .fields vs) → h'.get? b = some o) → Q () { s with heap := h' }) :
    wpAny M A (setFlight (.ref e) (some L)) Q E s := by
  obtain ⟨oe, vs, T, oT, ts, he, hcls, hd, h1, hnT, hTe, hT, hdT, h3⟩ := ht
  have hsz3 : 3 < ts.size := (Array.getElem?_eq_some_iff.mp h3).1
  have other : ∀ b, b ≠ T → (s.heap.update T (Obj.mapFields (·.setIfInBounds 3 ((some L : Option Addr).elim Value.none fun f => rawInt f)))).get? b = s.heap.get? b :=
    fun b hb => Heap.get?_update_other _ _ (Ne.symm hb)
  have noRecord : ∀ b o, s.heap.get? b = some o → (∀ vs, o.data ≠ .fields vs) → b ≠ T := fun b o hb hnf q => by
    rw [q, hT] at hb; injection hb with hb; subst hb; exact hnf ts hdT
  unfold setFlight
  refine wpAny_bind (wpAny_field he hd h1 ?_)
  rw [if_pos (show (Value.ref T != Value.none) = true from by simp)]
  refine wpAny_setField hT hdT hsz3 (h _ (fun b o hbo => (other b fun q => by rw [q, hnT] at hbo; cases hbo).trans (hkb b o hbo))
    (hl.of_keeps fun b o hb hnf => ⟨o, (other b (noRecord b o hb hnf)).trans hb, rfl⟩) ?_ fun b o hb hnf => (other b (noRecord b o hb hnf)).trans hb)
  exact ⟨oe, vs, T, _, _, (other e (Ne.symm hTe)).trans he, hcls, hd, h1, hnT, hTe, Heap.get?_update_self _ hT (Obj.isFreed_of_fields (Obj.data_mapFields hdT _)), Obj.data_mapFields hdT _, by simp [hsz3]⟩
/-- an exception made in a loop leaves the frame -/
theorem leave_loopX {cls : Value} {vs : List Value} {E' : Value → Shared → Prop} (hE : ∀ s', wpAny M (A.deeper env) (leaving env (.ref e)) Q E' s' → E (.ref e) s') (K : Below A base outer g) (hx : Heap.MadeExcOf h s.heap e cls vs) (F : Fr g L h m) (hf : env.frame = some L) (hke : env.scope.kind = .function)
    (hQ : ∀ h' t, RaisedS base g outer e cls t vs [] h' → g.UpToSlots h' → Q () { s with heap := h' }) :
    notedBy M (A.deeper env) env (cameBackBy M (A.deeper env) env E) (.ref e) s := by
  have K' := pushX K F hf hke
  have hin : ∀ e' ∈ (env :: outer), ∀ b, e'.frame = some b → b ∈ (env :: outer).filterMap (·.frame) := fun e' he b hb => List.mem_filterMap.mpr ⟨e', he, hb⟩
  have st : base.StaysIn (hideAll h ((env :: outer).filterMap (·.frame))) := fun b o q => hideAll_get _ (K'.stays b o q) fun hm => by
    rw [(K'.frames.mem hm).1] at q; cases q
  have sg : ∀ b o, g.get? b = some o → b ∉ outer.filterMap (·.frame) → (hideAll h ((env :: outer).filterMap (·.frame))).get? b = some o := fun b o q nm => hideAll_get _ (F.keep b o q) fun hm => by
    rcases mem_frames hf hm with z | z
    · rw [z, kts_self F] at q
      cases q
    · exact nm z
  refine noteFrame_madeW K'.stack hf (fun b o q => of_hideAll _ q) (funFrames_hide K'.frames hin) hx fun h₁ t x1 x2 x3 x4 => ?_
  obtain ⟨f1, f2, f3, f4⟩ := x1
  show wpAny M (A.deeper env) (do
    if (← field (.ref e) 1) == .none then unsupported "frame.own-activation:exception-without-traceback"
    setFlight (.ref e) env.frame) _ _ _
  obtain ⟨oe, ws, T, oT, ts, he, hcls, hd, h1, r⟩ := id f4
  refine wpAny_bind (wpAny_field he hd h1 ?_)
  rw [hf, if_neg (show ¬ ((Value.ref T == Value.none) = true) from by simp)]
  refine setFlight_someW f1 f3 f4 fun h₂ y1 y2 y3 y4 => ?_
  refine hE _ ?_
  have u2 : h₁.UpToSlots h₂ := fun b o hb hn => ⟨o.slots, y4 b o hb hn⟩
  unfold leaving
  refine wpAny_bind (wpAny_noteFrame_againW hf y3 ?_)
  refine wpAny_landsW (L := L) ⟨y1, f2, y2, y3⟩ fun h₃ hfl u3 => ?_
  obtain ⟨k1, k2, ⟨_, _, k3⟩, k4⟩ := hfl
  exact hQ h₃ t ⟨⟨_, st, sg, (fun q hq => nomatch hq), ⟨k1, k2, k3, k4⟩, x3⟩, (x2.of_slots u2).of_slots u3⟩ ((((Heap.UpToSlots.of_keeps F.keep).trans (Heap.UpToSlots.of_keeps hx.keeps)).trans x4).trans (u2.trans u3))
end
section
variable {prog : Program} {w : World} {A : Around} {E : Value → Shared → Prop} {s : Shared} {env : Env}
def Noone {α : Type} : α → Shared → Prop := fun _ _ => False
/-- a for whose first turn raises -/
theorem For_raise {target iter : Expr} {body : List Stmt} {pos : Pos} {Q : Flow → Shared → Prop}
    (h : wpAny (model prog w) A (eval iter env) (fun xv s₁ => wpAny (model prog w) A (pyIter xv) (fun it s₂ => Stop (wpAny (model prog w) A (pyNext it) (fun r s₁ => match r with
      | none => False
      | some v => wpAny (model prog w) A (letOwnedTupleGo target it v) (fun _ s₁' => wpAny (model prog w) A (assign target env v) (fun _ s₂ => wpAny (model prog w) A (execs body env) Noone
          (notedBy (model prog w) A env (cameBackBy (model prog w) A env E)) s₂) Bot s₁') Bot s₁) Bot s₂)) E s₁) E s)
    (hs : ∀ x, foldedSetIterable iter env x = pure x) : wpAny (model prog w) A (exec (.For target iter body [] pos) env) Q E s := by
  refine wpAny_For (wpAny_mono h (fun xv s₁ h₁ => wpAny_mono h₁ (fun it s₂ h₂ => ?_) fun _ _ e => e) fun _ _ e => e) hs
  refine codeAny_forLoop_any (fun n s' => n = 0 ∧ s' = s₂) (fun n s' hI => ?_) 0 ⟨rfl, rfl⟩
  obtain ⟨rfl, rfl⟩ := hI
  have h₂ : wpAny _ _ _ _ _ _ := h₂
  refine wpAny_mono h₂ (fun r s₁ h₁ => ?_) fun _ _ x => x.elim
  cases r with
  | none => exact h₁.elim
  | some v => exact wpAny_mono h₁ (fun _ s₁' h₂ => wpAny_mono h₂ (fun _ s₂ h₃ => wpAny_mono h₃ (fun f s₃ h₄ => h₄.elim) fun _ _ x => x) fun _ _ x => x.elim) fun _ _ x => x.elim
end
section
local macro_rules | `(tactic| walk_at "nothing") => `(tactic| fail "nothing")
local macro_rules | `(tactic| walk_at "nothing") => `(tactic| fail "nothing")
local macro_rules | `(tactic| walk_at "nothing") => `(tactic| fail "nothing")
local macro_rules | `(tactic| walk_at "nothing") => `(tactic| fail "nothing")
local macro_rules | `(tactic| walk_at "nothing") => `(tactic| fail "nothing")
local macro_rules | `(tactic| walk_at "nothing") => `(tactic| fail "nothing")
local macro_rules | `(tactic| walk_at "nothing") => `(tactic| fail "nothing")
local macro_rules | `(tactic| walk_at "call ref") => `(tactic| (k_here; (k_dflt (show wpAny _ _ (call (Value.ref _) [Value.ref _]) _ _ _)); (with_reducible show wpAny _ _ (call (Value.ref 591) [Value.ref _]) _ _ _); k_dflt (refine' dag_spec ?B ?F ?X ?T ?hk ?S ?hG ?hc ?hnl ?hdp ?hun ?_; (case B => k_asm); (case F => k_asm); (case X => k_asm); (case T => k_asm); (case hk => rfl); (case S => assumption); (case hG => walk_at "DIG"); (case hc => assumption); (case hnl => assumption); (case hdp => walk_at "ROOM"); (case hun => walk_at "UNITS")); intro b' h' tk' hk' hb'; (have hb2 := hb'.mpr (by assumption)); (subst hb2); clear hb'; (have N' := news_onto (by k_asm) hk'); (have F' := fr_onto (by k_asm) hk'); (try clear hk'); (try dsimp only); (try k_sweep)))
local macro_rules | `(tactic| walk_at "exec Raise some none") => `(tactic| refine stopI' ?_)
local macro_rules | `(tactic| walk_at "exec For Name Name cons nil") => `(tactic| (k_here; (with_reducible refine For_raise ?_ ?hs); (case hs => intro _; with_unfolding_all rfl)))
local macro_rules | `(tactic| walk_at "binaryOp Sub ref ref") => `(tactic| (k_here; k_dflt (refine' sub_news ?F ?N ?a ?b ?c ?d ?e ?f ?g ?_; (case F => k_asm); (case N => k_asm); (case a => k_mem); (case b => k_mem); (case c => assumption); (case d => assumption); (case e => k_ne); (case f => omega); (case g => omega)); intro D' h' o' n' F' N' l1' hso' hn' hks'; (have hz' := one_left hks' (by assumption)); subst hz'; (try k_lt l1'); (try k_sweep)))
theorem pairs_miss {w : World} {p : Program} {loose : List Str} {mean : ExcName → Option Value} {mg mb : Str → Option Value} {dp un : Nat} {gd : Option (List Code)} {cn : Str} {cs : Scope} {a : Addr} {ccd : Value} {cl : List (Str × Addr)} {outer : List Env} {A₀ : Around} {base h₀ : Heap} {L : Addr} {m : Str → Option Value} {s : Shared} {Q E : Value → Shared → Prop} {g l t : Addr} {tu tv : Tok} {ns : List Int} {sb pb : Int → List Int}
    (B : Below A₀ base outer h₀) (F : Fr h₀ L s.heap m) (X : (hd.heap_39 w.params).In h₀) (T : Top p loose mean mg mb h₀) (hk : cs.kind = .function) (S : Sys h₀) (hG : DiG PySem.Challenge.rw_fq0029_01.row.prog w s.heap g ns sb pb) (hcs : Closed ns sb) (hnl0 : ns.length ≤ 12) (hac : Acyc ns sb) (hu : (0 : Int) ∈ ns) (hv : (98 : Int) ∉ ns)
    (hl : s.heap.IsList l [Value.ref t].toArray) (ht : s.heap.IsTuple t #[Value.int 0 tu, Value.int 98 tv]) (hgd : gd = some []) (hdp : dp + 10 < recursionLimit) (hun : un + 100 < cLine)
    (err : ∀ e t vs h' tk', RaisedS base s.heap (envX cn cs L a ccd cl :: outer) e (.ref 68) t vs [] h' → s.heap.UpToSlots h' → E (.ref e) { s with heap := h', toks := tk' }) :
    wpAny (model PySem.Challenge.rw_fq0029_01.row.prog w) (ktrTop dp un gd cn cs L a ccd cl outer) (call (.ref 616) [.ref g] [("pairs", .ref l)]) Q E s := by
  have hnl : ns.length ≤ 100 := by omega
  have N₀ : News h₀ L s.heap [] := News.nil
  revert X
  k_fill
  intro X
  refine wpAny_call ?_
  refine' enterC (binds := [(("G" : Str), (.ref g : Value)), (("pairs" : Str), (.ref l : Value))]) ([] : List (Addr × Obj)) ?k1 ?k2 ?k2n ?k3 ?k5 ?kA ?kF ?kK ?k6 ?k7 ?k8 ?k9 ?kL ?kB ?kN (fun L' => [(("nodes" : Str), L' + 1)]) ?kC ?_ ?c2 ?c3 ?c4
  case kA => exact rfl
  case kF => exact rfl
  case kK => assumption
  case k1 => exact B
  case k2 => exact F
  case k2n => exact N₀
  case k3 => exact X
  case k5 => exact T
  case k6 => k_is
  case k7 => k_is
  case k8 => ktr_room
  case k9 => first | exact BindsTo.of_eq rfl | exact kp_binds (X.keeps F.keep) (fun _ => rfl)
  case kL => intro _; repeat (first | exact List.forall_mem_nil _ | refine List.forall_mem_cons.mpr ⟨rfl, ?_⟩)
  case kN => decide
  case kC => intro _; rfl
  case kB => exact locs rfl
  case c2 => exact rfl
  case c3 => exact rfl
  case c4 => exact rfl
  intro g' L' h' tk' cells' hg' F' N' Y' lH' B' X' T' st'
  try dsimp only
  k_fold
  have S' : Sys g' := S.keep st'
  replace F' : Fr g' L' h' (lk [(("pairs" : Str), some (.ref l : Value)), (("G" : Str), some (.ref g : Value))]) := F'
  k_cells Y'
  try dsimp only [List.cons_append, List.nil_append] at N'
  try k_lt lH'
  rename_i oc dc
  have hgs : g' = s.heap := hg'
  have hG' : DiG PySem.Challenge.rw_fq0029_01.row.prog w g' g ns sb pb := hgs ▸ hG
  have hl' : g'.IsList l [Value.ref t].toArray := hgs ▸ hl
  have ht' : g'.IsTuple t #[Value.int 0 tu, Value.int 98 tv] := hgs ▸ ht
  obtain ⟨nd, ad, pd, nkvs, hO, e3, e4, e5, hA, hP⟩ := hG'.at_
  obtain ⟨ep, hat⟩ := e4.dictAt
  have hlen : nkvs.length ≤ 100 := by have := congrArg List.length e5; rw [List.length_map] at this; omega
  have hpos : 0 < nkvs.length := by
    have := congrArg List.length e5
    rw [List.length_map] at this
    have := List.length_pos_of_mem hu
    omega
  k_steps
  refine ⟨l, t, 0, 98, tu, tv, rfl, hl'.at fun o e => Fr.keep (by assumption) _ _ e, ht'.at fun o e => Fr.keep (by assumption) _ _ e, by assumption, by assumption, ?_⟩
  intro D o h1 tk1 F1 N1 hDlt hDH hloD
  dsimp only
  rw [lk_set] at F1
  k_lt hDlt
  obtain ⟨es, ep2, hraw, hes⟩ := raw_of_H hDH
  have hesz : es.size = 1 := by rw [← Array.length_toList, hes]; rfl
  have hDo := (N1 _ (.head _)).1
  k_steps
  rename Fr _ _ _ _ => F2
  rename News _ _ _ _ => N2
  rename Obj.SetObjOf _ _ _ _ => hsoN
  rename_i Dn hq tkq nq hnq on l1q hh
  have hDo2 := (N2 (D, o) (by k_mem)).1
  have hraw2 := hraw.keep fun o' e => (by rw [hDo] at e; cases e; exact hDo2)
  obtain ⟨e0, he0⟩ : ∃ e0, es.toList = [e0] := ⟨_, hes⟩
  have hk0 : e0.key = .ref t := by rw [hes] at he0; cases he0; rfl
  have hes0 : es[0]? = some e0 := by rw [← Array.getElem?_toList, he0]; rfl
  refine raw_iter_N F2 N2 hloD hraw2 fun I io h₃ F₃ N₃ hit₃ hI3 hD3 => ?_
  have hI3c := hI3
  k_lt hI3
  refine raw_item_N F₃ N₃ hit₃ hD3 hes0 hI3c fun io' h₄ F₄ N₄ hit₄ hD4 => ?_
  dsimp only
  refine wpAny_of_eq (by rfl) ?_
  rw [hk0]
  have hti : IntsAre [Value.int 0 tu, Value.int 98 tv] [0, 98] := .cons _ _ (.cons _ _ .nil)
  have hone : ∀ k, ((fun k => decide (k ∈ [(0 : Int), 98])) k && !(fun k => decide (k ∈ ns)) k) = true ↔ k = 98 := fun k => by
    simp only [Bool.and_eq_true, decide_eq_true_eq, Bool.not_eq_true', decide_eq_false_iff_not, List.mem_cons, List.not_mem_nil, or_false]
    constructor
    · rintro ⟨rfl | rfl, h⟩
      · exact absurd hu h
      · rfl
    · rintro rfl; exact ⟨.inr rfl, hv⟩
  clear hit₄ hD4 hit₃ hD3 hraw2 hraw F2 N2 F₃ N₃
  k_steps
  rename Fr _ _ _ _ => F5
  rename News _ _ _ _ => N5
  refine' Raise_ownX ?F ?X ?T ?ex ?q PySem.F.excBase_Exception ?hh ?h ?he ?hp ?hk ?hx ?hd
  case F => exact F5
  case X => k_asm
  case T => k_asm
  case ex => k_is
  case q => k_exc
  case hh => rfl
  case he => rfl
  case hp => rfl
  case hk => rfl
  case hx => rfl
  case hd => decide
  case h =>
    k_steps
    rename Fr _ _ _ _ => F6
    rename News _ _ _ _ => N6
    rename Obj.SetObjOf _ _ _ _ => hso6
    refine set_format (S := fun k => decide (k ∈ [(0 : Int), 98]) && !decide (k ∈ ns)) (set_here N6 (.head _) hso6 (by decide)) hone hgd (by walk_at "UNITS") fun x1 t1 h7 tk7 hx1 hk7 => ?_
    have F7 := F6.keeps hk7
    have N7 := N6.grown hk7
    clear F6 N6
    have w1 : Str.empty.length = 0 := by decide
    have w2 : (Str.ofString "Node(s) ").length = 8 := by decide
    have w3 : (Str.ofString " from pair ").length = 11 := by decide
    have w4 : (Str.ofString " not in G.").length = 10 := by decide
    have l1 : (Str.empty ++ Str.ofString "Node(s) " ++ x1).length ≤ 200 := by rw [PySem.Str.length_append, PySem.Str.length_append]; omega
    have l2 : (Str.empty ++ Str.ofString "Node(s) " ++ x1 ++ Str.ofString " from pair ").length ≤ 300 := by rw [PySem.Str.length_append]; omega
    k_steps
    · obtain ⟨ot, hot, hotc, ntt, hotd⟩ := id ht'
      rename Fr _ _ _ _ => F8
      refine formatField_of_reads (h₀ := g') (as := []) (d := .tuple [.int 0, .int 98]) (.tuple (n := ntt) (as := []) hot hotc hotd (.cons (as := []) (bs := []) (.int _ _) (.cons (as := []) (bs := []) (.int _ _) .nil))) (by decide) (fun h => by cases h) hgd ?hu F8.keep (fun h8 u8 tk8 hk8 => ?_) (by decide +kernel)
      case hu =>
        have hdd : (PyData.tuple [.int 0, .int 98]).depth ≤ 5 := by decide
        have hcL9 := cLine_is
        show un + _ + _ < cLine
        omega
      have hy : (PyData.tuple [.int 0, .int 98]).shown.length ≤ 100 := by decide +kernel
      generalize (PyData.tuple [.int 0, .int 98]).shown = y at hy ⊢
      have F9 := F8.keeps hk8
      have N9 : News g' L' h8 [] := News.nil
      clear F8
      dsimp only
      have l3 : (Str.empty ++ Str.ofString "Node(s) " ++ x1 ++ Str.ofString " from pair " ++ y).length ≤ 500 := by rw [PySem.Str.length_append]; omega
      have l4 : (Str.empty ++ Str.ofString "Node(s) " ++ x1 ++ Str.ofString " from pair " ++ y ++ Str.ofString " not in G.").length ≤ 600 := by rw [PySem.Str.length_append]; omega
      refine ⟨by rw [sizeLine_eq]; omega, ?_⟩
      k_steps
      rename Heap.MadeExcOf _ _ _ _ _ => hx9
      rename Addr => e9
      refine leave_loopX (Q := fun _ s'' => E (.ref e9) s'') (E' := fun e' s'' => E e' s'') (fun s' h => ?hE) B' hx9 F9 ?hf ?hke fun h9 t9 R9 U9 => ?_
      case hE => exact h
      case hf => rfl
      case hke => rfl
      rw [hgs] at R9 U9
      exact err _ _ _ _ _ R9 U9
local macro_rules | `(tactic| walk_at "call ref") => `(tactic| ((with_reducible show wpAny _ _ (call (Value.ref 616) _ _) _ _ _); refine stopI' ?_))
theorem lca_miss {w : World} {p : Program} {loose : List Str} {mean : ExcName → Option Value} {mg mb : Str → Option Value} {dp un : Nat} {gd : Option (List Code)} {cn : Str} {cs : Scope} {a : Addr} {ccd : Value} {cl : List (Str × Addr)} {outer : List Env} {A₀ : Around} {base h₀ : Heap} {L : Addr} {m : Str → Option Value} {s : Shared} {Q E : Value → Shared → Prop} {g : Addr} {tu tv : Tok} {ns : List Int} {sb pb : Int → List Int}
    (B : Below A₀ base outer h₀) (F : Fr h₀ L s.heap m) (X : (hd.heap_39 w.params).In h₀) (T : Top p loose mean mg mb h₀) (hk : cs.kind = .function) (S : Sys h₀) (hG : DiG PySem.Challenge.rw_fq0029_01.row.prog w s.heap g ns sb pb) (hcs : Closed ns sb) (hnl0 : ns.length ≤ 12) (hac : Acyc ns sb) (hu : (0 : Int) ∈ ns) (hv : (98 : Int) ∉ ns) (hgd : gd = some [])
    (hdp : dp + 20 < recursionLimit) (hun : un + 200 < cLine)
    (err : ∀ e t vs h' tk', RaisedS base s.heap (envX cn cs L a ccd cl :: outer) e (.ref 68) t vs [] h' → s.heap.UpToSlots h' → E (.ref e) { s with heap := h', toks := tk' }) :
    wpAny (model PySem.Challenge.rw_fq0029_01.row.prog w) (ktrTop dp un gd cn cs L a ccd cl outer) (call (.ref 624) [.ref g, .int 0 tu, .int 98 tv]) Q E s := by
  have N₀ : News h₀ L s.heap [] := News.nil
  revert X
  k_fill
  intro X
  refine wpAny_call ?_
  refine' enterH (binds := [(("G" : Str), (.ref g : Value)), (("node1" : Str), (.int 0 tu : Value)), (("node2" : Str), (.int 98 tv : Value)), (("default" : Str), (.none : Value))]) ([] : List (Addr × Obj)) ?k1 ?k2 ?k2n ?k3 ?k5 ?kA ?kF ?kK ?k6 ?k7 ?k8 ?k9 ?kB ?_ ?c2 ?c3 ?c4 ?c5
  case kA => exact rfl
  case kF => exact rfl
  case kK => assumption
  case k1 => exact B
  case k2 => exact F
  case k2n => exact N₀
  case k3 => exact X
  case k5 => exact T
  case k6 => k_is
  case k7 => k_is
  case k8 => ktr_room
  case k9 => first | exact BindsTo.of_eq rfl | exact kp_binds (X.keeps F.keep) (fun _ => rfl)
  case c5 => decide
  case kB => exact locs rfl
  case c2 => exact rfl
  case c3 => exact rfl
  case c4 => exact rfl
  intro g' L' h' hg' F' N' lH' B' X' T' st'
  try dsimp only
  k_fold
  have S' : Sys g' := S.keep st'
  replace F' : Fr g' L' h' (lk [(("default" : Str), some (.none : Value)), (("node2" : Str), some (.int 98 tv : Value)), (("node1" : Str), some (.int 0 tu : Value)), (("G" : Str), some (.ref g : Value))]) := (lk_of _ ▸ F' :)
  try k_lt lH'
  have hgs : g' = s.heap := hg'
  have hG' : DiG PySem.Challenge.rw_fq0029_01.row.prog w g' g ns sb pb := hgs ▸ hG
  k_steps
  rename Fr _ _ _ _ => F2
  rename News _ _ _ _ => N2
  show wpAny _ (ktrTop _ _ _ _ _ _ _ _ _ _) (call (.ref 616) [.ref g] [("pairs", .ref _)]) _ _ _
  refine pairs_miss (A₀ := _) B' F2 X' T' rfl (S.keep st') (hG'.keep F2.keep) hcs hnl0 hac hu hv (isList_news N2 (by k_mem)) ⟨_, (N2 _ (.tail _ (.head _))).1, rfl, _, rfl⟩ hgd (by walk_at "ROOM") (by walk_at "UNITS") fun e t vs h9 tk9 R9 U9 => ?_
  k_unfold
  dsimp only
  refine leave_onX B' F2 rfl R9 U9 fun h10 R10 U10 => ?_
  rw [hgs] at R10 U10
  exact err _ _ _ _ _ R10 U10
end
theorem next_N {w : World} {p : Program} {loose : List Str} {mean : ExcName → Option Value} {mg mb : Str → Option Value} {dp un : Nat} {gd : Option (List Code)} {cn : Str} {cs : Scope} {a : Addr} {ccd : Value} {cl : List (Str × Addr)} {outer : List Env} {A₀ : Around} {base h₀ : Heap} {L : Addr} {m : Str → Option Value} {s : Shared} {Q E : Value → Shared → Prop} {news : List (Addr × Obj)} {g : Obj → List (Addr × Obj)} {ls : Addr} {x many : Int} {t tm : Tok} {n : Nat}
    (B : Below A₀ base outer h₀) (F : Fr h₀ L s.heap m) (X : (hd.heap_39 w.params).In h₀) (T : Top p loose mean mg mb h₀) (hk : cs.kind = .function) (S : Sys h₀) (N : News h₀ L s.heap news) (U : UpdF ls (W.listOf #[Value.int x t] n) news g) (hx0 : 0 ≤ x) (hx1 : x < 2147483647) (hm0 : 0 < many) (hm1 : many ≤ 1000)
    (hdp : dp + 20 < recursionLimit) (hun : un + 200 < cLine)
    (ret : ∀ x' t' n' r tr h' tk', 0 ≤ x' → x' < 2147483647 → 0 ≤ r → r < many → Fr h₀ L h' m → News h₀ L h' (g (W.listOf #[Value.int x' t'] n')) → Q (.int r tr) { s with heap := h', toks := tk' }) :
    wpAny (model PySem.Challenge.rw_fq0029_01.row.prog w) (ktrTop dp un gd cn cs L a ccd cl outer) (call (.ref 854) [.ref ls, .int many tm]) Q E s := by
  obtain ⟨pre, post, rfl, hg, h1, h2⟩ := U.split
  have hm : (ls, W.listOf #[Value.int x t] n) ∈ pre ++ (ls, W.listOf #[Value.int x t] n) :: post := List.mem_append_right _ (.head _)
  refine next_spec B F X T hk S (fun q hq => by rw [List.mem_singleton.mp hq]; exact N _ hm) hx0 hx1 hm0 hm1 hdp hun fun x' t' n' r tr h' tk' a1 a2 a3 a4 kb N' => ?_
  refine ret x' t' n' r tr h' tk' a1 a2 a3 a4 (fr_kb F kb fun b hb => by rw [List.mem_singleton.mp hb]; exact (N _ hm).2.symm) (fun q hq => ?_)
  rw [hg] at hq
  rcases List.mem_append.mp hq with hq | hq
  · exact ⟨kb.keep _ _ (fun hm' => h1 q hq (List.mem_singleton.mp hm')) (N q (List.mem_append_left _ hq)).1, (N q (List.mem_append_left _ hq)).2⟩
  · rcases List.mem_cons.mp hq with rfl | hq
    · exact N' _ (.head _)
    · have hq' : q ∈ pre ++ (ls, W.listOf #[Value.int x t] n) :: post := List.mem_append_right _ (.tail _ hq)
      exact ⟨kb.keep _ _ (fun hm' => h2 q hq (List.mem_singleton.mp hm')) (N q hq').1, (N q hq').2⟩
open PyProof.Rows.LCg
section
variable {prog : Program} {w : World} {A : Around} {E : Value → Shared → Prop} {s : Shared} {h₀ : Heap} {L : Addr} {m : Str → Option Value} {env : Env}
/-- a list comprehension over a range by an invariant -/
theorem rest_range {elt : Expr} {x : Str} {scope : Scope} {cl : List (Str × Addr)} {a : Int} {n : Nat} {news : List (Addr × Obj)} {Fin : List Value → List (Addr × Obj) → Prop} (J : Nat → List Value → List (Addr × Obj) → Prop) (h0 : J 0 [] news)
    (turn : ∀ (i : Nat) t ys news₁ I oI C oC D m₂ h tk (E' : Value → Shared → Prop), i < n → J i ys news₁ → NsObj oC m₂ → m₂ x = some (.int (a + (i : Int)) t) → Fr h₀ L h m → News h₀ L h ((I, oI) :: (C, oC) :: (D, PyProof.Rows.LCg.lst ys) :: news₁) → Off3 I C D news₁ → ((@Ne Nat I C) ∧ (@Ne Nat I D) ∧ (@Ne Nat C D)) →
      wpAny (model prog w) A (eval elt (compEnvC scope cl C env)) (fun y s₂ => Stop (CompEnd h₀ L m { s with heap := h, toks := tk } I oI C oC D (PyProof.Rows.LCg.lst ys) (fun _ => True) (fun y news' => J (i + 1) (ys ++ [y]) news') y s₂)) E' { s with heap := h, toks := tk })
    (fin : ∀ ys news₁, J n ys news₁ → Fin ys news₁) :
    CompRest prog w A h₀ L m env elt x scope cl s (fun _ => True) (fun i v => ∃ t, v = .int (a + (i : Int)) t) Fin n 0 [] news := by
  suffices hgen : ∀ (k i : Nat) (ys : List Value) news₁, i + k = n → J i ys news₁ → CompRest prog w A h₀ L m env elt x scope cl s (fun _ => True) (fun i v => ∃ t, v = .int (a + (i : Int)) t) Fin k i ys news₁ from
    hgen n 0 [] news (Nat.zero_add _) h0
  intro k
  induction k with
  | zero =>
    intro i ys news₁ hi hJ
    rw [Nat.add_zero] at hi
    subst hi
    exact CompRest.zero (fin ys news₁ hJ)
  | succ j ih =>
    intro i ys news₁ hi hJ
    refine CompRest.succ fun v I oI C oC D m₂ h tk E' hv hC hx' F N off ne => ?_
    obtain ⟨t, rfl⟩ := hv
    refine wpAny_mono (turn i t ys news₁ I oI C oC D m₂ h tk E' (by omega) hJ hC hx' F N off ne) (fun y s' h' => ?_) fun _ _ e => e
    obtain ⟨h'', tk'', news', rfl, F', N', off', hS, hr⟩ := h'
    exact ⟨h'', tk'', news', rfl, F', N', off', trivial, ih (i + 1) _ _ (by omega) hr⟩
end
section
variable {prog : Program} {w : World} {A : Around} {E : Value → Shared → Prop} {s : Shared} {h₀ : Heap} {L : Addr} {m : Str → Option Value} {news : List (Addr × Obj)}
theorem add_my {l b : Addr} {vs ws : List Value} {Q : Value → Shared → Prop} (F : Fr h₀ L s.heap m) (N : News h₀ L s.heap news) (hl : s.heap.IsList l vs.toArray) (hb : s.heap.IsList b ws.toArray)
    (h : ∀ D h', Fr h₀ L h' m → News h₀ L h' ((D, W.listOf (vs ++ ws).toArray 0) :: news) → (∀ q ∈ news, q.1 < D) → Q (.ref D) { s with heap := h' }) (hsz : vs.length + ws.length ≤ sizeLine) :
    wpAny (model prog w) A (binaryOp .Add (.ref l) (.ref b)) Q E s :=
  add_lists F N hl hb (fun h' F' N' => h _ h' F' N' fun q hq => Heap.lt_size (N q hq).1) hsz
end
/-- statements in two parts -/
theorem execs_app {M : Model} {A : Around} {E : Value → Shared → Prop} {env : Env} {Q : Flow → Shared → Prop} {rest : List Stmt} : ∀ {pre : List Stmt} {s : Shared}, wpAny M A (execs pre env) (fun f s' => match f with | .next => wpAny M A (execs rest env) Q E s' | f => Q f s') E s → wpAny M A (execs (pre ++ rest) env) Q E s := by
  intro pre
  have e : execs (pre ++ rest) env = execs pre env >>= fun f => match f with | .next => execs rest env | f => pure f := by
    induction pre with
    | nil => rfl
    | cons st pre ih =>
      rw [List.cons_append, execs_cons, execs_cons, ih]
      show Sem.bind _ _ = Sem.bind (Sem.bind _ _) _
      rw [Sem.bind_assoc]
      congr 1
      funext f
      cases f <;> rfl
  intro s h
  rw [e]
  refine wpAny_bind (wpAny_mono h (fun f s' h' => ?_) fun _ _ x => x)
  cases f <;> first | exact h' | exact wpAny_pure h'
section
local macro_rules | `(tactic| walk_at "call ref") => `(tactic| (k_here; (with_reducible show wpAny _ _ (call (Value.ref 847) [Value.ref _]) _ _ _); k_dflt (refine' seed_spec ?B ?F ?X ?T ?hk ?S ?hl ?hi ?hlen ?hdp ?hun ?_; (case B => k_asm); (case F => k_asm); (case X => k_asm); (case T => k_asm); (case hk => rfl); (case S => assumption); (case hl => walk_at "LIST"); (case hi => assumption); (case hlen => assumption); (case hdp => walk_at "ROOM"); (case hun => walk_at "UNITS")); intro D' x' t' n' h' tk' hk' hsz' hD' hx0' hx1'; (have N' := news_add (by k_asm) (news_onto (by k_asm) hk') hsz' hD'); (have l1' := news_lt (by k_asm) hsz'); (have F' := fr_onto (by k_asm) hk'); (try k_lt l1'); (try dsimp only); (try k_sweep)))
local macro_rules | `(tactic| walk_at "call ref") => `(tactic| (k_here; (with_reducible show wpAny _ _ (call (Value.ref 854) [Value.ref _, Value.int _ _]) _ _ _); k_dflt (refine' next_N ?B ?F ?X ?T ?hk ?S ?N ?U ?a ?b ?c ?d ?hdp ?hun ?_; (case B => k_asm); (case F => k_asm); (case X => k_asm); (case T => k_asm); (case hk => rfl); (case S => assumption); (case N => k_asm); (case U => k_updF); (case a => assumption); (case b => assumption); (case c => omega); (case d => omega); (case hdp => walk_at "ROOM"); (case hun => walk_at "UNITS")); intro x' t' n' r' tr' h' tk' hx0' hx1' hr0' hr1' F' N'; (try dsimp only at N'); (try dsimp only); (try k_sweep)))
local macro_rules | `(tactic| walk_at "eval ListComp") => `(tactic| (k_here; (with_reducible show wpAny _ _ (eval (Expr.ListComp _ [Comprehension.mk _ (Expr.Call _ _ _ _) _ _] _ _) _) _ _ _); k_dflt (refine' PyProof.Rows.LCg.ListComp_U ?hF ?hclos ?hcell ?hkind ?hnames ?hx ?_ ?hs; (case hF => k_asm); (case hclos => with_unfolding_all rfl); (case hcell => decide); (case hkind => rfl); (case hnames => decide); (case hx => with_unfolding_all rfl); (case hs => intro _; with_unfolding_all rfl))))
local macro_rules | `(tactic| walk_at "CompSrc") => `(tactic| refine stopI ?_)
local macro_rules | `(tactic| walk_at "binaryOp Add ref ref") => `(tactic| (k_here; k_dflt (refine' add_my ?F ?N ?a ?b ?_ ?z; (case F => k_asm); (case N => k_asm); (case a => walk_at "LIST"); (case b => walk_at "LIST"); (case z => first | size_fits | (rw [sizeLine_eq]; simp only [List.length_cons, List.length_nil]; omega))); intro D' h' F' N' l1'; (try k_lt l1'); (try dsimp only); (try k_sweep)))
/-- after the law's first four statements -/
def Law1 (g0 : Heap) (L sc : Addr) (s s' : Shared) : Prop :=
  ∃ (h : Heap) (tk : Nat) (ls la lm : Addr) (x : Int) (t tm : Tok) (n nm : Nat) (ys zs : List Value) (many : Int) (o1 o2 o3 o4 : Obj), s' = { s with heap := h, toks := tk } ∧ Fr g0 L h (lk [("names", some (.ref lm)), ("script", some (.ref sc))]) ∧
    News g0 L h [(lm, W.listOf zs.toArray nm), (la, W.listOf ([Value.none] ++ ys).toArray 0), (ls, W.listOf #[Value.int x t] n), (L + 1 + 1 + 1 + 1, o4), (L + 1 + 1 + 1, o3), (L + 1 + 1, o2), (L + 1, o1), (613, tabObj #[])] ∧
    o1.data = .cell (some (.ref ls)) ∧ o2.data = .cell (some (.int many tm)) ∧ o3.data = .cell (some (.ref la)) ∧ o4.data = .cell none ∧ 0 ≤ x ∧ x < 2147483647 ∧ 1 ≤ many ∧ many ≤ 9 ∧ (1 + ys.length : Int) = many ∧ (∀ j < ys.length, ∃ (q : Int) (tq : Tok), ys[j]? = some (.int q tq) ∧ 0 ≤ q ∧ q ≤ j) ∧
    (zs.length : Int) = many ∧ (∀ j < zs.length, ∃ (tq : Tok), zs[j]? = some (.int (5 * ((3 * (j : Int)).fmod 11)) tq)) ∧ (@LT.lt Nat _ (L + 1 + 1 + 1 + 1) ls ∧ @LT.lt Nat _ ls la ∧ @LT.lt Nat _ 613 L) ∧
    (@Ne Nat la lm ∧ @Ne Nat ls lm ∧ @Ne Nat (L + 1 + 1 + 1 + 1) lm ∧ @Ne Nat (L + 1 + 1 + 1) lm ∧ @Ne Nat (L + 1 + 1) lm ∧ @Ne Nat (L + 1) lm ∧ @Ne Nat 613 lm)
theorem law_1 {w : World} {p : Program} {loose : List Str} {mean : ExcName → Option Value} {mg mb : Str → Option Value} {base g0 : Heap} {L sc : Addr} {s : Shared} {vs : List Value} {cells : List Int} {o1 o2 o3 o4 : Obj} {A₀ : Around} {dp un : Nat} {gd : Option (List Code)}
    {nm qual : Str} {prms : Arguments} {body : List Stmt} {scope : Scope} {dV kV doc pm cdv' ct oc : Value} {an od : Option Addr} {osl : Array (Option Value)}
    (hb : (hd.heap_39 w.params).lookup 866 = some ⟨oc, od, .func (fnOf nm qual prms body scope dV kV doc pm an cdv' ct), osl⟩)
    (B : Below A₀ base [] g0) (X : (hd.heap_39 w.params).In g0) (T : Top p loose mean mg mb g0) (S : Sys g0)
    (F : Fr g0 L s.heap (lk [("script", some (.ref sc))])) (N : News g0 L s.heap [(L + 1 + 1 + 1 + 1, o4), (L + 1 + 1 + 1, o3), (L + 1 + 1, o2), (L + 1, o1), (613, tabObj #[])])
    (c1 : o1.data = .cell none) (c2 : o2.data = .cell none) (c3 : o3.data = .cell none) (c4 : o4.data = .cell none) (hl : g0.IsList sc vs.toArray) (hi : IntsAre vs cells) (hlen : cells.length ≤ 63) (hdp : dp + 100 < recursionLimit) (hun : un + 1000 < cLine) (h613 : 613 < L) :
    wpAny (model PySem.Challenge.rw_fq0029_01.row.prog w) (ktrTop dp un gd qual scope L 866 cdv' [("other", L + 1 + 1 + 1 + 1), ("above", L + 1 + 1 + 1), ("many", L + 1 + 1), ("s", L + 1)] []) (execs (body.take 4) (envX qual scope L 866 cdv' [("other", L + 1 + 1 + 1 + 1), ("above", L + 1 + 1 + 1), ("many", L + 1 + 1), ("s", L + 1)])) (fun f s' => f = .next ∧ Stop (Law1 g0 L sc s s')) Never s := by
  revert X
  k_fill
  intro X
  refine' use_eq hb ?hh ?_
  case hh => k_is
  intro e
  cases e
  clear hb
  have h613' := ltN h613
  show wpAny _ _ (execs [_, _, _, _] _) _ _ _
  k_steps
  unfold Stop
  rename_i ls x1 t1 n1 h6 tk2 hk hsz hD hx01 hx11 l1a h5 oc1 hd1 tk1 x t n r tr h4 tk1b hx0 hx1 hr0 hr1 h3 oc2 hd2 l0 h2 F' N' hLl l1b h1 tkr tR uR vR hR F3 N3 hk3
  dsimp only at hR ⊢
  refine PyProof.Rows.LCg.CompSrc.range rfl F3 (news_sub N3 (l' := (ls, W.listOf #[Value.int x t] n) :: [(l0, W.listOf #[Value.none] 0), (L + 1 + 1 + 1 + 1, o4), (L + 1 + 1 + 1, o3), (L + 1 + 1, oc2), (L + 1, oc1), (613, tabObj #[])]) ?_) hR (small_one (by decide) (by decide) (by omega) (by omega)) (rangeSize_nat _ _) (by rw [sizeLine_eq]; omega) (fun gh => rest_range (fun i ys nw => ∃ x t n, nw = (ls, W.listOf #[Value.int x t] n) :: [(l0, W.listOf #[Value.none] 0), (L + 1 + 1 + 1 + 1, o4), (L + 1 + 1 + 1, o3), (L + 1 + 1, oc2), (L + 1, oc1), (613, tabObj #[])] ∧ 0 ≤ x ∧ x < 2147483647 ∧ ys.length = i ∧ ∀ j < i, ∃ (q : Int) (tq : Tok), ys[j]? = some (.int q tq) ∧ 0 ≤ q ∧ q ≤ j) ⟨x, t, n, rfl, hx0, hx1, rfl, fun j hj => absurd hj (Nat.not_lt_zero _)⟩ ?_ ?_)
  · intro q hq
    simp only [List.mem_cons, List.not_mem_nil, or_false] at hq ⊢
    rcases hq with rfl | rfl | rfl | rfl | rfl | rfl | rfl <;> simp
  · rintro i t9 ys nw I oI C oC D m₂ h tk E' hi ⟨x, t', n, rfl, hx0, hx1, hlen9, hall⟩ hC hx3 F4 N4 off4 ne4
    simp only [PyProof.Rows.LCg.Off3, and_true] at off4
    k_steps
    unfold Stop
    rename_i x9 t9' n9 r9 tr9 h9 tk9 hx9 hx9' hr9 hr9' F9 N9
    refine PyProof.Rows.LCg.CompEnd.intro F9 N9 _ (fun q hq => hq) (by simp only [PyProof.Rows.LCg.Off3, and_true]; exact off4) trivial ⟨x9, t9', n9, rfl, hx9, hx9', by rw [List.length_append, hlen9]; rfl, fun j hj => ?_⟩
    rcases Nat.lt_or_ge j i with hji | hji
    · obtain ⟨q, tq, b1, b2, b3⟩ := hall j hji
      exact ⟨q, tq, by rw [List.getElem?_append_left (by rw [hlen9]; exact hji)]; exact b1, b2, b3⟩
    · obtain rfl : j = i := by omega
      exact ⟨r9, tr9, by rw [← hlen9]; simp, hr9, by omega⟩
  · rintro ys nw ⟨x, t', n, rfl, hx0, hx1, hlen9, hall⟩ D h tk F4 N4 off4
    simp only [PyProof.Rows.LCg.Off1, and_true] at off4
    k_steps
    unfold Stop
    rename IsRange _ _ _ _ _ _ _ _ => hR2
    rename Fr _ _ _ _ => F5
    rename News _ _ _ _ => N5
    dsimp only at hR2 ⊢
    refine PyProof.Rows.LCg.CompSrc.range rfl F5 N5 hR2 (small_one (by decide) (by decide) (by omega) (by omega)) (rangeSize_nat _ _) (by rw [sizeLine_eq]; omega) (fun gh2 => rest_range (fun i zs nw => nw = _ ∧ zs.length = i ∧ ∀ j < i, ∃ (tq : Tok), zs[j]? = some (.int (5 * ((3 * (j : Int)).fmod 11)) tq)) ⟨rfl, rfl, fun j hj => absurd hj (Nat.not_lt_zero _)⟩ ?_ ?_)
    · rintro i2 t92 zs nw I oI C oC D2 m₂ h tk E' hi2 ⟨rfl, hlen2, hall2⟩ hC2 hx32 F6 N6 off6 ne6
      k_steps
      unfold Stop
      rename Fr _ _ _ _ => F9
      rename News _ _ _ _ => N9
      refine PyProof.Rows.LCg.CompEnd.intro F9 N9 _ (fun q hq => hq) off6 trivial ⟨rfl, by rw [List.length_append, hlen2]; rfl, fun j hj => ?_⟩
      rcases Nat.lt_or_ge j i2 with hji | hji
      · obtain ⟨tq, b1⟩ := hall2 j hji
        exact ⟨tq, by rw [List.getElem?_append_left (by rw [hlen2]; exact hji)]; exact b1⟩
      · obtain rfl : j = i2 := by omega
        exact ⟨_, by rw [← hlen2, List.getElem?_append_right (Nat.le_refl _), Nat.sub_self, Int.zero_add]; rfl⟩
    · rintro zs nw ⟨rfl, hlen2, hall2⟩ D2 h tk F6 N6 off6
      simp only [PyProof.Rows.LCg.Off1, and_true] at off6
      k_steps
      rw [lk_set] at F6
      refine ⟨h, _, ls, _, D2, x, t', _, n, zs.length, ys, zs, 1 + r, oc1, oc2, _, o4, rfl, F6, news_sub N6 (fun q hq => ?_), hd1, hd2, by assumption, c4, hx0, hx1, by omega, by omega, by omega, (fun j hj => hall j (by omega)), by omega, (fun j hj => hall2 j (by omega)), ⟨by omega, by omega, by omega⟩, ⟨by omega, by omega, by omega, by omega, by omega, by omega, by omega⟩⟩
      simp only [List.mem_cons, List.not_mem_nil, or_false] at hq
      rcases hq with rfl | rfl | rfl | rfl | rfl | rfl | rfl | rfl <;> simp
end
local macro_rules | `(tactic| walk_at "call ref") => `(tactic| (k_here; (with_reducible show wpAny _ _ (call (Value.ref 847) [Value.ref _]) _ _ _); k_dflt (refine' seed_spec ?B ?F ?X ?T ?hk ?S ?hl ?hi ?hlen ?hdp ?hun ?_; (case B => k_asm); (case F => k_asm); (case X => k_asm); (case T => k_asm); (case hk => rfl); (case S => assumption); (case hl => walk_at "LIST"); (case hi => assumption); (case hlen => assumption); (case hdp => walk_at "ROOM"); (case hun => walk_at "UNITS")); intro D' x' t' n' h' tk' hk' hsz' hD' hx0' hx1'; (have N' := news_add (by k_asm) (news_onto (by k_asm) hk') hsz' hD'); (have l1' := news_lt (by k_asm) hsz'); (have F' := fr_onto (by k_asm) hk'); (try k_lt l1'); (try dsimp only); (try k_sweep)))
local macro_rules | `(tactic| walk_at "call ref") => `(tactic| (k_here; (with_reducible show wpAny _ _ (call (Value.ref 854) [Value.ref _, Value.int _ _]) _ _ _); k_dflt (refine' next_N ?B ?F ?X ?T ?hk ?S ?N ?U ?a ?b ?c ?d ?hdp ?hun ?_; (case B => k_asm); (case F => k_asm); (case X => k_asm); (case T => k_asm); (case hk => rfl); (case S => assumption); (case N => k_asm); (case U => k_updF); (case a => assumption); (case b => assumption); (case c => omega); (case d => omega); (case hdp => walk_at "ROOM"); (case hun => walk_at "UNITS")); intro x' t' n' r' tr' h' tk' hx0' hx1' hr0' hr1' F' N'; (try dsimp only at N'); (try dsimp only); (try k_sweep)))
local macro_rules | `(tactic| walk_at "eval ListComp") => `(tactic| (k_here; (with_reducible show wpAny _ _ (eval (Expr.ListComp _ [Comprehension.mk _ (Expr.Call _ _ _ _) _ _] _ _) _) _ _ _); k_dflt (refine' PyProof.Rows.LCg.ListComp_U ?hF ?hclos ?hcell ?hkind ?hnames ?hx ?_ ?hs; (case hF => k_asm); (case hclos => with_unfolding_all rfl); (case hcell => decide); (case hkind => rfl); (case hnames => decide); (case hx => with_unfolding_all rfl); (case hs => intro _; with_unfolding_all rfl))))
local macro_rules | `(tactic| walk_at "CompSrc") => `(tactic| refine stopI ?_)
local macro_rules | `(tactic| walk_at "binaryOp Add ref ref") => `(tactic| (k_here; k_dflt (refine' add_my ?F ?N ?a ?b ?_ ?z; (case F => k_asm); (case N => k_asm); (case a => walk_at "LIST"); (case b => walk_at "LIST"); (case z => first | size_fits | (rw [sizeLine_eq]; simp only [List.length_cons, List.length_nil]; omega))); intro D' h' F' N' l1'; (try k_lt l1'); (try dsimp only); (try k_sweep)))
section
local macro_rules | `(tactic| walk_at "nothing") => `(tactic| fail "nothing")
local macro_rules | `(tactic| walk_at "call ref") => `(tactic| ((first
  | (with_reducible show wpAny _ _ (call (Value.ref 831) _) _ _ _)
  | (with_reducible show wpAny _ _ (call (Value.ref 676) _) _ _ _)
  | (with_reducible show wpAny _ _ (call (Value.ref 704) _) _ _ _)
  | (with_reducible show wpAny _ _ (call (Value.ref 596) _) _ _ _)
  | (with_reducible show wpAny _ _ (call (Value.ref 624) _) _ _ _)
  | (with_reducible show wpAny _ _ (call (Value.ref 610) _) _ _ _)); refine stopI ?_))
local macro_rules | `(tactic| walk_at "subscriptTail") => `(tactic| (k_here; (with_reducible show wpAny _ _ (subscriptTail _ _ (Value.ref _) (Value.int _ _)) _ _ _); k_dflt (refine' item_list ?hl ?h0 ?hfit ?hx ?_ ?hs ?hg; (case hl => walk_at "LIST"); (case hx => with_reducible assumption); (case h0 => first | (with_reducible assumption) | omega); (case hfit => first | (with_reducible assumption) | omega); (case hs => with_unfolding_all rfl); (case hg => intro _; with_unfolding_all rfl)); (try dsimp only)))
theorem news_front {g' h : Heap} {L' : Addr} {p : Addr × Obj} {all : List (Addr × Obj)} (N : News g' L' h all) (hm : p ∈ all) : News g' L' h (p :: all) := List.forall_mem_cons.mpr ⟨N p hm, N⟩
/-- after the law's fifth statement -/
def Law2 (prog : Program) (w : World) (g0 : Heap) (L sc : Addr) (s s' : Shared) : Prop :=
  ∃ (h : Heap) (tk : Nat) (ls la lm gr lf : Addr) (x : Int) (t tm : Tok) (n nm nf : Nat) (ys zs : List Value) (many : Int) (o1 o2 o3 o4 : Obj) (H T : List (Addr × Obj)) (ts : List Addr), s' = { s with heap := h, toks := tk } ∧ Fr g0 L h (lk [("graph", some (.ref gr)), ("left", some (.ref lf)), ("names", some (.ref lm)), ("script", some (.ref sc))]) ∧
    News g0 L h ((lf, W.listOf (ts.map Value.ref).toArray nf) :: (T ++ ((lm, W.listOf zs.toArray nm) :: (la, W.listOf ([Value.none] ++ ys).toArray 0) :: (ls, W.listOf #[Value.int x t] n) :: (L + 1 + 1 + 1 + 1, o4) :: (L + 1 + 1 + 1, o3) :: (L + 1 + 1, o2) :: (L + 1, o1) :: (613, tabObj #[]) :: H))) ∧
    o1.data = .cell (some (.ref ls)) ∧ o2.data = .cell (some (.int many tm)) ∧ o3.data = .cell (some (.ref la)) ∧ o4.data = .cell none ∧ 0 ≤ x ∧ x < 2147483647 ∧ 1 ≤ many ∧ many ≤ 9 ∧ (1 + ys.length : Int) = many ∧ (∀ j < ys.length, ∃ (q : Int) (tq : Tok), ys[j]? = some (.int q tq) ∧ 0 ≤ q ∧ q ≤ j) ∧
    (zs.length : Int) = many ∧ (∀ j < zs.length, ∃ (tq : Tok), zs[j]? = some (.int (5 * ((3 * (j : Int)).fmod 11)) tq)) ∧ (@LT.lt Nat _ (L + 1 + 1 + 1 + 1) ls ∧ @LT.lt Nat _ ls la ∧ @LT.lt Nat _ 613 L) ∧
    (@Ne Nat la lm ∧ @Ne Nat ls lm ∧ @Ne Nat (L + 1 + 1 + 1 + 1) lm ∧ @Ne Nat (L + 1 + 1 + 1) lm ∧ @Ne Nat (L + 1 + 1) lm ∧ @Ne Nat (L + 1) lm ∧ @Ne Nat 613 lm) ∧ Gr prog w H gr [] (fun _ => []) (fun _ => []) ∧
    (∀ p ∈ H, ∀ q ∈ [(lm, W.listOf zs.toArray nm), (la, W.listOf ([Value.none] ++ ys).toArray 0), (ls, W.listOf #[Value.int x t] n), (L + 1 + 1 + 1 + 1, o4), (L + 1 + 1 + 1, o3), (L + 1 + 1, o2), (L + 1, o1), (613, tabObj #[])], q.1 < p.1) ∧ ts.length = ys.length ∧
    (∀ j < ys.length, ∃ (a : Addr) (q : Int) (tq tk : Tok), ts[j]? = some a ∧ ys[j]? = some (.int q tq) ∧ (a, tup2 q tq (1 + (j : Int)) tk) ∈ T) ∧
    (∀ p ∈ T ++ ((lm, W.listOf zs.toArray nm) :: (la, W.listOf ([Value.none] ++ ys).toArray 0) :: (ls, W.listOf #[Value.int x t] n) :: (L + 1 + 1 + 1 + 1, o4) :: (L + 1 + 1 + 1, o3) :: (L + 1 + 1, o2) :: (L + 1, o1) :: (613, tabObj #[]) :: H), p.1 ≠ lf)
theorem off1_mem {D : Addr} : ∀ {l : List (Addr × Obj)}, PyProof.Rows.LCg.Off1 D l → ∀ p ∈ l, p.1 ≠ D
  | [], _, _, h => nomatch h
  | _ :: _, x, p, h => by
    rcases List.mem_cons.mp h with rfl | h
    · exact x.1
    · exact off1_mem x.2 p h
theorem law_2 {w : World} {p : Program} {loose : List Str} {mean : ExcName → Option Value} {mg mb : Str → Option Value} {base g0 : Heap} {L sc : Addr} {s : Shared} {s₀ : Shared} {A₀ : Around} {dp un : Nat} {gd : Option (List Code)}
    {nm qual : Str} {prms : Arguments} {body : List Stmt} {scope : Scope} {dV kV doc pm cdv' ct oc : Value} {an od : Option Addr} {osl : Array (Option Value)}
    (hb : (hd.heap_39 w.params).lookup 866 = some ⟨oc, od, .func (fnOf nm qual prms body scope dV kV doc pm an cdv' ct), osl⟩)
    (B : Below A₀ base [] g0) (X : (hd.heap_39 w.params).In g0) (T : Top p loose mean mg mb g0) (S : Sys g0) (h1 : Law1 g0 L sc s₀ s) (hdp : dp + 100 < recursionLimit) (hun : un + 1000 < cLine) :
    wpAny (model PySem.Challenge.rw_fq0029_01.row.prog w) (ktrTop dp un gd qual scope L 866 cdv' [("other", L + 1 + 1 + 1 + 1), ("above", L + 1 + 1 + 1), ("many", L + 1 + 1), ("s", L + 1)] []) (execs ((body.drop 4).take 1) (envX qual scope L 866 cdv' [("other", L + 1 + 1 + 1 + 1), ("above", L + 1 + 1 + 1), ("many", L + 1 + 1), ("s", L + 1)])) (fun f s' => f = .next ∧ Stop (Law2 PySem.Challenge.rw_fq0029_01.row.prog w g0 L sc s s')) Never s := by
  revert X
  k_fill
  intro X
  refine' use_eq hb ?hh ?_
  case hh => k_is
  intro e
  cases e
  clear hb
  obtain ⟨h, tk, ls, la, lm, x, t, tm, n, nm, ys, zs, many, o1, o2, o3, o4, rfl, F, N, c1, c2, c3, c4, hx0, hx1, hm0, hm1, hys, hyv, hzs, hzv, hord, hne⟩ := h1
  show wpAny _ _ (execs [_] _) _ _ _
  k_steps
  unfold Stop
  show wpAny _ (ktrTop _ _ _ _ _ _ _ _ _ _) (call (.ref 831) []) _ _ _
  refine digraph_new B F X T rfl S N (by walk_at "ROOM") (by walk_at "UNITS") fun gr H h8 tk8 F8 N8 hltH hGr => ?_
  have N9 := news_sub (l' := [(lm, W.listOf zs.toArray nm), (la, W.listOf ([Value.none] ++ ys).toArray 0), (ls, W.listOf #[Value.int x t] n), (L + 1 + 1 + 1 + 1, o4), (L + 1 + 1 + 1, o3), (L + 1 + 1, o2), (L + 1, o1), (613, tabObj #[])] ++ H) N8 (fun q hq => by
    rcases List.mem_append.mp hq with hq | hq
    · exact List.mem_append_right _ hq
    · exact List.mem_append_left _ hq)
  dsimp only [List.cons_append, List.nil_append] at N9
  clear N8
  k_steps
  unfold Stop
  rename IsRange _ _ _ _ _ _ _ _ => hR2
  rename Fr _ _ _ _ => F5
  rename News _ _ _ _ => N5
  dsimp only at hR2 ⊢
  refine PyProof.Rows.LCg.CompSrc.range rfl F5 N5 hR2 (small_one (by decide) (by decide) (by omega) (by omega)) (rangeSize_nat _ _) (by rw [sizeLine_eq]; omega) (fun gh2 => rest_range (fun i vs nw => ∃ (T : List (Addr × Obj)) (ts : List Addr), nw = T ++ ((lm, W.listOf zs.toArray nm) :: (la, W.listOf ([Value.none] ++ ys).toArray 0) :: (ls, W.listOf #[Value.int x t] n) :: (L + 1 + 1 + 1 + 1, o4) :: (L + 1 + 1 + 1, o3) :: (L + 1 + 1, o2) :: (L + 1, o1) :: (613, tabObj #[]) :: H) ∧ vs = ts.map Value.ref ∧ ts.length = i ∧ ∀ j < i, ∃ (a : Addr) (q : Int) (tq tk : Tok), ts[j]? = some a ∧ ys[j]? = some (.int q tq) ∧ (a, tup2 q tq (1 + (j : Int)) tk) ∈ T) ⟨[], [], rfl, rfl, rfl, fun j hj => absurd hj (Nat.not_lt_zero _)⟩ ?_ ?_)
  · rintro i tk0 vs nw I oI C oC D2 m₂ h tk E' hi ⟨T9, ts, rfl, rfl, hts, hT⟩ hC2 hx2 F6 N6 off6 ne6
    have hi9 : i < ys.length := by omega
    obtain ⟨q, tq, hyq, hq0, hq1⟩ := hyv i hi9
    have hx : (([Value.none] ++ ys).toArray)[(1 + (i : Int)).toNat]? = some (.int q tq) := by
      have : (1 + (i : Int)).toNat = i + 1 := by omega
      rw [this]; simpa using hyq
    have hi63 : 1 + (i : Int) < 2 ^ 63 := by omega
    have hi0 : 0 ≤ 1 + (i : Int) := by omega
    have N7 := news_front (p := (la, W.listOf ([Value.none] ++ ys).toArray 0)) (news_front (p := (L + 1 + 1 + 1, o3)) N6 (.tail _ (.tail _ (.tail _ (List.mem_append_right _ (by k_mem)))))) (.tail _ (.tail _ (.tail _ (.tail _ (List.mem_append_right _ (by k_mem))))))
    clear N6
    k_steps
    unfold Stop
    rename Fr _ _ _ _ => F9
    rename News _ _ _ _ => N9
    rename _ < _ ∧ _ < _ ∧ _ < _ ∧ _ < _ ∧ _ => l9
    refine PyProof.Rows.LCg.CompEnd.intro F9 N9 ((_, tup2 q tq (1 + (i : Int)) tk0) :: (T9 ++ _)) (fun q hq => ?_) ⟨⟨by exact Nat.ne_of_gt l9.2.2.1, by exact Nat.ne_of_gt l9.2.2.2.1, by exact Nat.ne_of_gt l9.2.2.2.2.1⟩, off6⟩ trivial ⟨(_, tup2 q tq (1 + (i : Int)) tk0) :: T9, ts ++ [_], rfl, by rw [List.map_append]; rfl, by rw [List.length_append, hts]; rfl, fun j hj => ?_⟩
    · rcases List.mem_cons.mp hq with rfl | hq
      · exact .tail _ (.tail _ (.tail _ (.head _)))
      rcases List.mem_cons.mp hq with rfl | hq
      · exact .tail _ (.tail _ (.tail _ (.tail _ (.head _))))
      rcases List.mem_cons.mp hq with rfl | hq
      · exact .tail _ (.tail _ (.tail _ (.tail _ (.tail _ (.head _)))))
      rcases List.mem_cons.mp hq with rfl | hq
      · exact .head _
      · exact .tail _ (.tail _ (.tail _ (.tail _ (.tail _ (.tail _ hq)))))
    · rcases Nat.lt_or_ge j i with hji | hji
      · obtain ⟨a, q', tq', tk', b1, b2, b3⟩ := hT j hji
        exact ⟨a, q', tq', tk', by rw [List.getElem?_append_left (by rw [hts]; exact hji)]; exact b1, b2, .tail _ b3⟩
      · obtain rfl : j = i := by omega
        exact ⟨_, q, tq, tk0, by rw [← hts, List.getElem?_append_right (Nat.le_refl _), Nat.sub_self]; rfl, hyq, .head _⟩
  · rintro vs nw ⟨T9, ts, rfl, rfl, hts, hT⟩ D2 h tk F6 N6 off6
    k_steps
    rename Fr _ _ _ _ => F9
    rename News _ _ _ _ => N9
    refine ⟨_, _, ls, la, lm, gr, D2, x, t, tm, n, nm, _, ys, zs, many, o1, o2, o3, o4, H, T9, ts, rfl, F9, news_sub N9 (fun q hq => .tail _ hq), c1, c2, c3, c4, hx0, hx1, hm0, hm1, hys, hyv, hzs, hzv, hord, hne, hGr, hltH, by omega, fun j hj => hT j (by omega), off1_mem off6⟩
end
structure Data (ys zs : List Value) (many : Int) (ab : Int → Int) : Prop extends Tree many ab where
  yl : (1 + ys.length : Int) = many
  zl : (zs.length : Int) = many
  yv : ∀ k, 0 < k → k < many → ∃ t, ([Value.none] ++ ys).toArray[k.toNat]? = some (.int (ab k) t)
  zv : ∀ k, 0 ≤ k → k < many → ∃ t, zs.toArray[k.toNat]? = some (.int (nm k) t)
/-- the tuples of the list «left» -/
inductive Tups (T : List (Addr × Obj)) (ab : Int → Int) : List Addr → List Int → Prop
  | nil : Tups T ab [] []
  | cons {a : Addr} {k : Int} {tq tk : Tok} {ts : List Addr} {ks : List Int} : (a, tup2 (ab k) tq k tk) ∈ T → Tups T ab ts ks → Tups T ab (a :: ts) (k :: ks)
theorem Tups.len {T : List (Addr × Obj)} {ab : Int → Int} {ts : List Addr} {ks : List Int} (h : Tups T ab ts ks) : ts.length = ks.length := by
  induction h with
  | nil => rfl
  | cons _ _ ih => rw [List.length_cons, List.length_cons, ih]
theorem Tups.split {T : List (Addr × Obj)} {ab : Int → Int} : ∀ {pa qa : List Addr} {a : Addr} {ks : List Int}, Tups T ab (pa ++ a :: qa) ks → ∃ pr k qr tq tk, ks = pr ++ k :: qr ∧ (a, tup2 (ab k) tq k tk) ∈ T ∧ Tups T ab (pa ++ qa) (pr ++ qr)
  | [], qa, a, ks, h => by
    cases h with
    | cons hm h => exact ⟨[], _, _, _, _, rfl, hm, h⟩
  | p :: pa, qa, a, ks, h => by
    cases h with
    | cons hm h =>
      obtain ⟨pr, k, qr, tq, tk, rfl, h1, h2⟩ := Tups.split h
      exact ⟨_ :: pr, k, qr, tq, tk, rfl, h1, .cons hm h2⟩
section
variable {prog : Program} {w : World} {A : Around} {E : Value → Shared → Prop} {s : Shared} {h₀ : Heap} {L : Addr} {m : Str → Option Value} {news : List (Addr × Obj)} {ys zs : List Value} {many : Int} {ab : Int → Int}
theorem item_names {value slice : Expr} {lm : Addr} {r : Int} {u : Tok} {Q : Value → Shared → Prop} (D : Data ys zs many ab) (hl : s.heap.IsList lm zs.toArray) (h0 : 0 ≤ r) (h1 : r < many) (h : ∀ t, Q (.int (nm r) t) s)
    (hs : subscripted slice false (.ref lm) (.int r u) = operate [.ref lm, .int r u] (getItem (.ref lm) (.int r u)) := by with_unfolding_all rfl) (hg : ∀ r, letTemporaryGo value (.ref lm) r = pure () := by intro _; with_unfolding_all rfl) :
    wpAny (model prog w) A (subscriptTail value slice (.ref lm) (.int r u)) Q E s := by
  obtain ⟨t, ht⟩ := D.zv r h0 h1
  have := D.m1
  exact item_list hl h0 (by omega) ht (h t) hs hg
theorem truthy_left {l : Addr} {ts : List Addr} {Q : Bool → Shared → Prop} (hl : s.heap.IsList l (ts.map Value.ref).toArray) (hlen : ts.length ≤ 100) (h : Q (decide (ts ≠ [])) { s with toks := s.toks + 1 + 1 }) : wpAny (model prog w) A (truthy (.ref l)) Q E s := by
  refine wpAny_truthy_list hl (by rw [List.size_toArray, List.length_map]; omega) ?_
  have : (!(ts.map Value.ref).toArray.isEmpty) = decide (ts ≠ []) := by
    cases ts <;> simp
  rw [this]
  exact h
theorem len_left {l : Addr} {ts : List Addr} {Q : Value → Shared → Prop} (hl : s.heap.IsList l (ts.map Value.ref).toArray) (hlen : ts.length ≤ 100) (h : ∀ t tk, Q (.int ts.length t) { s with toks := tk }) : wpAny (model prog w) A (call (.builtin "len") [.ref l]) Q E s := by
  refine PyProof.Rows.len_list hl (by rw [List.size_toArray, List.length_map]; omega) ?_
  have : (ts.map Value.ref).toArray.size = ts.length := by rw [List.size_toArray, List.length_map]
  rw [this]
  exact h _ _
theorem split_at {α : Type} : ∀ {l : List α} {i : Nat}, i < l.length → ∃ p y q, l = p ++ y :: q ∧ p.length = i
  | x :: l, 0, _ => ⟨[], x, l, rfl, rfl⟩
  | x :: l, i + 1, h => by
    obtain ⟨p, y, q, rfl, e⟩ := split_at (l := l) (i := i) (by simpa using h)
    exact ⟨x :: p, y, q, rfl, by rw [List.length_cons, e]⟩
theorem pop_left {T : List (Addr × Obj)} {D : Addr} {n : Nat} {g : Obj → List (Addr × Obj)} {ts : List Addr} {rem : List Int} {i : Int} {u : Tok} {Q : Value → Shared → Prop} (Tr : Data ys zs many ab) (F : Fr h₀ L s.heap m) (N : News h₀ L s.heap news) (U : UpdF D (W.listOf (ts.map Value.ref).toArray n) news g)
    (hT : Tups T ab ts rem) (hr : ∀ k ∈ rem, 0 < k ∧ k < many) (hTn : ∀ p ∈ T, p ∈ news) (hTD : ∀ p ∈ T, p.1 ≠ D) (h0 : 0 ≤ i) (h1 : i < ts.length) (hsz : ts.length ≤ 100)
    (h : ∀ h' pa a qa pr k qr tq tk, ts = pa ++ a :: qa → rem = pr ++ k :: qr → Tups T ab (pa ++ qa) (pr ++ qr) → 0 < k → k < many → 0 ≤ ab k → ab k < k → Fr h₀ L h' m → News h₀ L h' ((a, tup2 (ab k) tq k tk) :: g (W.listOf ((pa ++ qa).map Value.ref).toArray (n + 1))) → Q (.ref a) { s with heap := h' }) :
    wpAny (model prog w) A (call (.builtin "list.pop") [.ref D, .int i u]) Q E s := by
  obtain ⟨pre, post, rfl, hg, a1, b1⟩ := U.split
  have z := N (D, W.listOf (ts.map Value.ref).toArray n) (List.mem_append.mpr (.inr (.head _)))
  obtain ⟨pa, a, qa, e, hpl⟩ := split_at (l := ts) (i := i.toNat) (by omega)
  subst e
  obtain ⟨pr, k, qr, tq, tk, rfl, hm, hT'⟩ := hT.split
  have hk := hr k (List.mem_append_right _ (.head _))
  have hu := Tr.up k hk.1 hk.2
  have hsize : (List.map Value.ref (pa ++ a :: qa)).toArray.size = (pa ++ a :: qa).length := by rw [List.size_toArray, List.length_map]
  have hi : i < ((List.map Value.ref (pa ++ a :: qa)).toArray.size : Int) := by rw [hsize]; exact h1
  have hy : (List.map Value.ref (pa ++ a :: qa)).toArray[i.toNat]? = some (.ref a) := by
    rw [← hpl]; simp
  refine call_meets PySem.F.slot_list_pop ⟨_, z.1, rfl⟩ PySem.F.entry_list_pop (PySem.F.args_list_pop_2 _ _) (PySem.MeetsSeq.list_pop_at D _ n i u _ _ (fitsIndex_of h0 (by omega)) (seqIndex_of h0 hi) hy (by rw [hsize, sizeLine_eq]; omega)) ⟨z.1, h _ pa a qa pr k qr tq tk rfl rfl hT' hk.1 hk.2 hu.1 hu.2 (F.change (Heap.SameBut.update ..) z.2.1 z.2.2) ?_⟩
  have N' := kl_turn (its' := (List.map Value.ref (pa ++ qa)).toArray) (fun vs => vs.eraseIdxIfInBounds i.toNat) N a1 b1 (by
      rw [List.map_append, List.map_cons, List.map_append]
      have : i.toNat = (List.map Value.ref pa).length := by rw [List.length_map, hpl]
      rw [this]
      exact kl_erase _ _ _) (by simp)
  rw [hg]
  refine List.forall_mem_cons.mpr ⟨?_, N'⟩
  have hin := hTn _ hm
  have hne := hTD _ hm
  refine ⟨?_, (N _ hin).2⟩
  exact (Heap.get?_update_other _ _ (Ne.symm hne)).trans (N _ hin).1
end
/-- of a graph's objects -/
def isG (o : Obj) : Bool := match o.cls with | .type t => t == "dict" | .ref a => a == 831 | _ => false
theorem Gr.only {prog : Program} {w : World} {H : List (Addr × Obj)} {g : Addr} {ns : List Int} {sb pb : Int → List Int} (G : Gr prog w H g ns sb pb) : Gr prog w (H.filter fun p => isG p.2) g ns sb pb := by
  obtain ⟨c, nd, ad, pd, ra, rp, dx, k1, k2, k3, k4, k5, t1, t2, t3, t4, t5, v1, D, hg, hdx, cg, cdx, hc⟩ := G
  refine ⟨c, nd, ad, pd, ra, rp, dx, k1, k2, k3, k4, k5, t1, t2, t3, t4, t5, v1, D, List.mem_filter.mpr ⟨hg, rfl⟩, List.mem_filter.mpr ⟨hdx, rfl⟩, cg, cdx, fun a l e => ?_⟩
  obtain ⟨o, ho, hi⟩ := hc a l e
  refine ⟨o, List.mem_filter.mpr ⟨ho, ?_⟩, hi⟩
  have hcl : o.cls = .type "dict" := by obtain ⟨_, _, hx, _⟩ := hi; exact hx.1
  show isG o = true
  unfold isG
  rw [hcl]
  decide
section
local macro_rules | `(tactic| walk_at "nothing") => `(tactic| fail "nothing")
local macro_rules | `(tactic| walk_at "nothing") => `(tactic| fail "nothing")
local macro_rules | `(tactic| walk_at "nothing") => `(tactic| fail "nothing")
local macro_rules | `(tactic| walk_at "nothing") => `(tactic| fail "nothing")
local macro_rules | `(tactic| walk_at "call ref") => `(tactic| ((first
  | (with_reducible show wpAny _ _ (call (Value.ref 831) _) _ _ _)
  | (with_reducible show wpAny _ _ (call (Value.ref 676) _) _ _ _)
  | (with_reducible show wpAny _ _ (call (Value.ref 704) _) _ _ _)
  | (with_reducible show wpAny _ _ (call (Value.ref 596) _) _ _ _)
  | (with_reducible show wpAny _ _ (call (Value.ref 624) _) _ _ _)
  | (with_reducible show wpAny _ _ (call (Value.ref 610) _) _ _ _)); refine stopI ?_))
local macro_rules | `(tactic| walk_at "call ref") => `(tactic| (k_here; (with_reducible show wpAny _ _ (call (Value.ref 854) [Value.ref _, Value.int _ _]) _ _ _); k_dflt (refine' next_N ?B ?F ?X ?T ?hk ?S ?N ?U ?a ?b ?c ?d ?hdp ?hun ?_; (case B => k_asm); (case F => k_asm); (case X => k_asm); (case T => k_asm); (case hk => rfl); (case S => assumption); (case N => k_asm); (case U => k_updF); (case a => assumption); (case b => assumption); (case c => omega); (case d => omega); (case hdp => walk_at "ROOM"); (case hun => walk_at "UNITS")); intro x' t' n' r' tr' h' tk' hx0' hx1' hr0' hr1' F' N'; (try dsimp only at N'); (try dsimp only); (try k_sweep)))
local macro_rules | `(tactic| walk_at "subscriptTail") => `(tactic| (k_here; (with_reducible show wpAny _ _ (subscriptTail _ _ (Value.ref _) (Value.int _ _)) _ _ _); k_dflt (refine' item_names ?D ?hl ?h0 ?h1 ?_ ?hs ?hg; (case D => with_reducible assumption); (case hl => walk_at "LIST"); (case h0 => first | (with_reducible assumption) | omega); (case h1 => first | (with_reducible assumption) | omega); (case hs => with_unfolding_all rfl); (case hg => intro _; with_unfolding_all rfl)); intro tn'; (try dsimp only)))
/-- the law's state: the fixed part -/
structure Fixed (L sc ls la lm gr : Addr) (many : Int) (tm : Tok) (ys zs : List Value) (ab : Int → Int) (o1 o2 o3 : Obj) : Prop where
  D : Data ys zs many ab
  c1 : o1.data = .cell (some (.ref ls))
  c2 : o2.data = .cell (some (.int many tm))
  c3 : o3.data = .cell (some (.ref la))
  o1 : @LT.lt Nat _ (L + 1 + 1 + 1 + 1) ls
  o2 : @LT.lt Nat _ ls la
  o3 : @LT.lt Nat _ 613 L
  e1 : @Ne Nat la lm
  e2 : @Ne Nat ls lm
  e3 : @Ne Nat (L + 1 + 1 + 1 + 1) lm
  e4 : @Ne Nat (L + 1 + 1 + 1) lm
  e5 : @Ne Nat (L + 1 + 1) lm
  e6 : @Ne Nat (L + 1) lm
  e7 : @Ne Nat 613 lm
/-- the standing objects but the graph -/
abbrev own (L ls la lm : Addr) (x : Int) (t : Tok) (n nm : Nat) (ys zs : List Value) (o1 o2 o3 o4 : Obj) (ps : Array Value) : List (Addr × Obj) :=
  [(lm, W.listOf zs.toArray nm), (la, W.listOf ([Value.none] ++ ys).toArray 0), (ls, W.listOf #[Value.int x t] n), (L + 1 + 1 + 1 + 1, o4), (L + 1 + 1 + 1, o3), (L + 1 + 1, o2), (L + 1, o1), (613, tabObj ps)]
abbrev ownA (L ls la lm : Addr) : List Addr := [lm, la, ls, L + 1 + 1 + 1 + 1, L + 1 + 1 + 1, L + 1 + 1, L + 1, 613]
/-- after the sixth statement -/
def Law3 (prog : Program) (w : World) (g0 : Heap) (L sc : Addr) (s s' : Shared) : Prop :=
  ∃ (h : Heap) (tk : Nat) (ls la lm gr lf : Addr) (x : Int) (t tm : Tok) (n nm_ nf : Nat) (ys zs : List Value) (many st : Int) (ab : Int → Int) (o1 o2 o3 o4 : Obj) (H T : List (Addr × Obj)) (ts : List Addr) (rem : List Int), s' = { s with heap := h, toks := tk } ∧ Fr g0 L h (lk [("graph", some (.ref gr)), ("left", some (.ref lf)), ("names", some (.ref lm)), ("script", some (.ref sc))]) ∧
    News g0 L h ((lf, W.listOf (ts.map Value.ref).toArray nf) :: (own L ls la lm x t n nm_ ys zs o1 o2 o3 o4 #[] ++ (T ++ H))) ∧ Fixed L sc ls la lm gr many tm ys zs ab o1 o2 o3 ∧ o4.data = .cell none ∧ 0 ≤ x ∧ x < 2147483647 ∧ 0 ≤ st ∧ st < many ∧
    Gr prog w H gr [nm st] (fun _ => []) (fun _ => []) ∧ (∀ p ∈ H, p.1 ∉ lf :: (ownA L ls la lm ++ T.map (·.1))) ∧ (∀ p ∈ T, p.1 ∉ lf :: ownA L ls la lm) ∧ lf ∉ ownA L ls la lm ∧ Tups T ab ts rem ∧ (∀ k, k ∈ rem ↔ 0 < k ∧ k < many) ∧ rem.Nodup
theorem graph_step {g0 h h' : Heap} {L : Addr} {O H H' : List (Addr × Obj)} (N : News g0 L h (O ++ H)) (off : ∀ p ∈ H, p.1 ∉ O.map (·.1)) (kb : KeepsBut (H.map (·.1)) h h') (N' : News g0 L h' H') (hnew : ∀ p ∈ H', p.1 ∈ H.map (·.1) ∨ h.get? p.1 = none) :
    News g0 L h' (O ++ H') ∧ ∀ p ∈ H', p.1 ∉ O.map (·.1) := by
  refine ⟨fun q hq => ?_, fun p hp hm => ?_⟩
  · rcases List.mem_append.mp hq with hq | hq
    · refine ⟨kb.keep _ _ (fun hm => ?_) (N q (List.mem_append_left _ hq)).1, (N q (List.mem_append_left _ hq)).2⟩
      obtain ⟨p, hp, e⟩ := List.mem_map.mp hm
      exact off p hp (List.mem_map.mpr ⟨q, hq, e.symm⟩)
    · exact N' q hq
  · obtain ⟨q, hq, e⟩ := List.mem_map.mp hm
    rcases hnew p hp with h1 | h1
    · obtain ⟨p', hp', e'⟩ := List.mem_map.mp h1
      exact off p' hp' (List.mem_map.mpr ⟨q, hq, e.trans e'.symm⟩)
    · have z := (N q (List.mem_append_left _ hq)).1
      rw [e] at z
      rw [z] at h1
      cases h1
theorem tups_of {T T' : List (Addr × Obj)} {ab : Int → Int} : ∀ {n : Nat} {ts : List Addr} {i : Int}, ts.length = n → (∀ j < n, ∃ (a : Addr) (tq tk : Tok), ts[j]? = some a ∧ (a, tup2 (ab (i + (j : Int))) tq (i + (j : Int)) tk) ∈ T) → (∀ p ∈ T, p.1 ∈ ts → p ∈ T') → Tups T' ab ts ((List.range n).map fun (j : Nat) => i + (j : Int))
  | 0, ts, i, e, _, _ => by
    obtain rfl := List.length_eq_zero_iff.mp e
    exact .nil
  | n + 1, a :: ts, i, e, h, hT => by
    rw [List.range_succ_eq_map, List.map_cons, List.map_map]
    obtain ⟨a', tq, tk, e1, e2⟩ := h 0 (by omega)
    obtain rfl : a = a' := by simpa using e1
    refine .cons (tq := tq) (tk := tk) (hT _ e2 (.head _)) ?_
    have ih := tups_of (T := T) (T' := T') (ab := ab) (n := n) (ts := ts) (i := i + 1) (by simpa using e) (fun j hj => ?_) (fun p hp hm => hT p hp (.tail _ hm))
    · have e3 : (List.range n).map (fun (j : Nat) => i + 1 + (j : Int)) = (List.range n).map ((fun (j : Nat) => i + (j : Int)) ∘ Nat.succ) := by
        apply List.map_congr_left
        intro j _
        show i + 1 + (j : Int) = i + ((j + 1 : Nat) : Int)
        omega
      rw [← e3]; exact ih
    · obtain ⟨a', tq, tk, e1, e2⟩ := h (j + 1) (by omega)
      have e4 : i + ((j + 1 : Nat) : Int) = i + 1 + (j : Int) := by omega
      rw [e4] at e2
      exact ⟨a', tq, tk, by simpa using e1, e2⟩
theorem law_3 {w : World} {p : Program} {loose : List Str} {mean : ExcName → Option Value} {mg mb : Str → Option Value} {base g0 : Heap} {L sc : Addr} {s : Shared} {s₀ : Shared} {A₀ : Around} {dp un : Nat} {gd : Option (List Code)}
    {nm1 qual : Str} {prms : Arguments} {body : List Stmt} {scope : Scope} {dV kV doc pm cdv' ct oc : Value} {an od : Option Addr} {osl : Array (Option Value)}
    (hb : (hd.heap_39 w.params).lookup 866 = some ⟨oc, od, .func (fnOf nm1 qual prms body scope dV kV doc pm an cdv' ct), osl⟩)
    (B : Below A₀ base [] g0) (X : (hd.heap_39 w.params).In g0) (T : Top p loose mean mg mb g0) (S : Sys g0) (h2 : Law2 PySem.Challenge.rw_fq0029_01.row.prog w g0 L sc s₀ s) (hdp : dp + 100 < recursionLimit) (hun : un + 1000 < cLine) :
    wpAny (model PySem.Challenge.rw_fq0029_01.row.prog w) (ktrTop dp un gd qual scope L 866 cdv' [("other", L + 1 + 1 + 1 + 1), ("above", L + 1 + 1 + 1), ("many", L + 1 + 1), ("s", L + 1)] []) (execs ((body.drop 5).take 1) (envX qual scope L 866 cdv' [("other", L + 1 + 1 + 1 + 1), ("above", L + 1 + 1 + 1), ("many", L + 1 + 1), ("s", L + 1)])) (fun f s' => f = .next ∧ Stop (Law3 PySem.Challenge.rw_fq0029_01.row.prog w g0 L sc s s')) Never s := by
  revert X
  k_fill
  intro X
  refine' use_eq hb ?hh ?_
  case hh => k_is
  intro e
  cases e
  clear hb
  obtain ⟨h, tk, ls, la, lm, gr, lf, x, t, tm, n, nm_, nf, ys, zs, many, o1, o2, o3, o4, H₀, T₀, ts, rfl, F, N, c1, c2, c3, c4, hx0, hx1, hm0, hm1, hys, hyv, hzs, hzv, hord, hne, hGr₀, hltH, hts, htv, hlf⟩ := h2
  obtain ⟨ab, hab⟩ : ∃ ab : Int → Int, ∀ j < ys.length, ∃ tq, ys[j]? = some (.int (ab (1 + (j : Int))) tq) := by
    refine ⟨fun k => match ys[(k - 1).toNat]? with | some (.int q _) => q | _ => 0, fun j hj => ?_⟩
    obtain ⟨q, tq, e, _⟩ := hyv j hj
    have : (1 + (j : Int) - 1).toNat = j := by omega
    exact ⟨tq, by dsimp only; rw [this, e]⟩
  have hD : Data ys zs many ab := by
    refine { m0 := hm0, m1 := hm1, up := fun k k0 k1 => ?_, yl := hys, zl := hzs, yv := fun k k0 k1 => ?_, zv := fun k k0 k1 => ?_ }
    · obtain ⟨q, tq, e, q0, q1⟩ := hyv (k - 1).toNat (by omega)
      obtain ⟨tq', e'⟩ := hab (k - 1).toNat (by omega)
      rw [e] at e'
      have : 1 + ((k - 1).toNat : Int) = k := by omega
      rw [this] at e'
      cases e'
      omega
    · obtain ⟨tq, e⟩ := hab (k - 1).toNat (by omega)
      have h1 : 1 + ((k - 1).toNat : Int) = k := by omega
      have h2 : k.toNat = (k - 1).toNat + 1 := by omega
      rw [h1] at e
      exact ⟨tq, by rw [h2]; simpa using e⟩
    · obtain ⟨tq, e⟩ := hzv k.toNat (by omega)
      rw [Int.toNat_of_nonneg k0] at e
      exact ⟨tq, by simpa [nm] using e⟩
  have hG := hGr₀.only
  generalize hH : (H₀.filter fun p => isG p.2) = H at hG
  have hHs : ∀ p ∈ H, p ∈ H₀ ∧ isG p.2 = true := fun p hp => by rw [← hH] at hp; exact List.mem_filter.mp hp
  have hTt : ∀ (p : Addr × Obj), p ∈ snap h ts → p ∈ T₀ ∧ ∃ (a b : Int) (ta tb : Tok), p.2 = tup2 a ta b tb := fun p hp => by
    obtain ⟨a, o⟩ := p
    obtain ⟨ha, ho⟩ := mem_snap.mp hp
    obtain ⟨j, hj, e⟩ := List.mem_iff_getElem.mp ha
    obtain ⟨a', q, tq, tk', e1, e2, e3⟩ := htv j (by omega)
    rw [List.getElem?_eq_getElem hj, e] at e1
    cases e1
    have z := (N _ (.tail _ (List.mem_append_left _ e3))).1
    have z' : h.get? a = some _ := z
    rw [ho] at z'
    cases z'
    exact ⟨e3, _, _, _, _, rfl⟩
  have hfix : Fixed L sc ls la lm gr many tm ys zs ab o1 o2 o3 := ⟨hD, c1, c2, c3, hord.1, hord.2.1, hord.2.2, hne.1, hne.2.1, hne.2.2.1, hne.2.2.2.1, hne.2.2.2.2.1, hne.2.2.2.2.2.1, hne.2.2.2.2.2.2⟩
  have hTups : Tups (snap h ts) ab ts ((List.range ts.length).map fun (j : Nat) => (1 : Int) + (j : Int)) := by
    refine tups_of (T := T₀) rfl (fun j hj => ?_) fun p hp hm => mem_snap.mpr ⟨hm, (N p (.tail _ (List.mem_append_left _ hp))).1⟩
    obtain ⟨a, q, tq, tk', e1, e2, e3⟩ := htv j (by omega)
    obtain ⟨tq', e4⟩ := hab j (by omega)
    rw [e2] at e4
    cases e4
    exact ⟨a, tq, tk', e1, e3⟩
  have N1 : News g0 L h ((lf, W.listOf (ts.map Value.ref).toArray nf) :: (own L ls la lm x t n nm_ ys zs o1 o2 o3 o4 #[] ++ (snap h ts ++ H))) := news_sub N fun q hq => by
    rcases List.mem_cons.mp hq with rfl | hq
    · exact .head _
    rcases List.mem_append.mp hq with hq | hq
    · refine .tail _ (List.mem_append_right _ ?_)
      simp only [List.mem_cons, List.not_mem_nil, or_false] at hq ⊢
      rcases hq with rfl | rfl | rfl | rfl | rfl | rfl | rfl | rfl <;> simp
    rcases List.mem_append.mp hq with hq | hq
    · exact .tail _ (List.mem_append_left _ (hTt q hq).1)
    · refine .tail _ (List.mem_append_right _ ?_)
      have := (hHs q hq).1
      simp only [List.mem_cons]
      simp [this]
  have hob : ∀ {a : Addr} {o o' : Obj}, h.get? a = some o → h.get? a = some o' → o = o' := fun e e' => Option.some.inj (e.symm.trans e')
  have hHo : ∀ p ∈ H, p.1 ∉ ownA L ls la lm := fun p hp hm => by
    have hl := hltH p (hHs p hp).1
    simp only [List.mem_cons, List.not_mem_nil, or_false] at hm
    have hl' : ∀ a o, (a, o) ∈ own L ls la lm x t n nm_ ys zs o1 o2 o3 o4 #[] → a ≠ p.1 := fun a o hm => Nat.ne_of_lt (hl (a, o) hm)
    rcases hm with e | e | e | e | e | e | e | e
    · exact hl' lm _ (by repeat (first | exact .head _ | refine .tail _ ?_)) e.symm
    · exact hl' la _ (by repeat (first | exact .head _ | refine .tail _ ?_)) e.symm
    · exact hl' ls _ (by repeat (first | exact .head _ | refine .tail _ ?_)) e.symm
    · exact hl' (L + 1 + 1 + 1 + 1) _ (by repeat (first | exact .head _ | refine .tail _ ?_)) e.symm
    · exact hl' (L + 1 + 1 + 1) _ (by repeat (first | exact .head _ | refine .tail _ ?_)) e.symm
    · exact hl' (L + 1 + 1) _ (by repeat (first | exact .head _ | refine .tail _ ?_)) e.symm
    · exact hl' (L + 1) _ (by repeat (first | exact .head _ | refine .tail _ ?_)) e.symm
    · exact hl' 613 _ (by repeat (first | exact .head _ | refine .tail _ ?_)) e.symm
  have hTo : ∀ p ∈ snap h ts, p.1 ∉ ownA L ls la lm := fun p hp hm => by
    obtain ⟨hp0, a, b, ta, tb, e0⟩ := hTt p hp
    have z := (N _ (.tail _ (List.mem_append_left _ hp0))).1
    rw [e0] at z
    have z' : ∀ {a : Addr} {o : Obj}, p.1 = a → h.get? a = some o → o = tup2 _ _ _ _ := fun e e' => hob e' (e ▸ z)
    simp only [List.mem_cons, List.not_mem_nil, or_false] at hm
    rcases hm with e | e | e | e | e | e | e | e
    · exact absurd (congrArg Obj.cls (z' e (N1 (lm, _) (by repeat (first | exact .head _ | refine .tail _ ?_))).1)) (by show Value.type "list" ≠ Value.type "tuple"; decide)
    · exact absurd (congrArg Obj.cls (z' e (N1 (la, _) (by repeat (first | exact .head _ | refine .tail _ ?_))).1)) (by show Value.type "list" ≠ Value.type "tuple"; decide)
    · exact absurd (congrArg Obj.cls (z' e (N1 (ls, _) (by repeat (first | exact .head _ | refine .tail _ ?_))).1)) (by show Value.type "list" ≠ Value.type "tuple"; decide)
    · have := congrArg Obj.data (z' e (N1 (L + 1 + 1 + 1 + 1, _) (by repeat (first | exact .head _ | refine .tail _ ?_))).1); rw [c4] at this; cases this
    · have := congrArg Obj.data (z' e (N1 (L + 1 + 1 + 1, _) (by repeat (first | exact .head _ | refine .tail _ ?_))).1); rw [c3] at this; cases this
    · have := congrArg Obj.data (z' e (N1 (L + 1 + 1, _) (by repeat (first | exact .head _ | refine .tail _ ?_))).1); rw [c2] at this; cases this
    · have := congrArg Obj.data (z' e (N1 (L + 1, _) (by repeat (first | exact .head _ | refine .tail _ ?_))).1); rw [c1] at this; cases this
    · exact absurd (congrArg Obj.cls (z' e (N1 (613, _) (by repeat (first | exact .head _ | refine .tail _ ?_))).1)) (by show Value.none ≠ Value.type "tuple"; decide)
  have hHT : ∀ p ∈ H, ∀ q ∈ snap h ts, p.1 ≠ q.1 := fun p hp q hq e => by
    obtain ⟨hq0, a, b, ta, tb, e0⟩ := hTt q hq
    have z1 := (N1 p (.tail _ (List.mem_append_right _ (List.mem_append_right _ hp)))).1
    have z2 := (N1 q (.tail _ (List.mem_append_right _ (List.mem_append_left _ hq)))).1
    rw [e] at z1
    have z3 := hob z1 z2
    have z4 := (hHs p hp).2
    rw [z3, e0] at z4
    have hf : isG (tup2 a ta b tb) = false := rfl
    rw [hf] at z4
    cases z4
  have hHlf : ∀ p ∈ H, p.1 ≠ lf := fun p hp => hlf p (List.mem_append_right _ (by have := (hHs p hp).1; simp [this]))
  have hTlf : ∀ p ∈ snap h ts, p.1 ≠ lf := fun p hp => hlf p (List.mem_append_left _ (hTt p hp).1)
  have holf : ∀ a ∈ ownA L ls la lm, a ≠ lf := fun a ha => by
    have z : ∀ o, (a, o) ∈ own L ls la lm x t n nm_ ys zs o1 o2 o3 o4 #[] → a ≠ lf := fun o hm => hlf (a, o) (List.mem_append_right _ (by
      simp only [List.mem_cons, List.not_mem_nil, or_false] at hm ⊢
      rcases hm with e | e | e | e | e | e | e | e <;> simp [e]))
    simp only [List.mem_cons, List.not_mem_nil, or_false] at ha
    rcases ha with rfl | rfl | rfl | rfl | rfl | rfl | rfl | rfl
    all_goals exact z _ (by repeat (first | exact .head _ | refine .tail _ ?_))
  clear hlf hltH htv N hGr₀ hHs hTt hyv hzv hord hne
  obtain ⟨c, nd, ad, pd, ra, rp, dx, k1, k2, k3, k4, k5, t1, t2, t3, t4, t5, v1, DC, hgx, hdx, cg, cdx, hc⟩ := id hG
  have N2 := news_front (news_front N1 (.tail _ (List.mem_append_right _ (List.mem_append_right _ hdx)))) (.tail _ (.tail _ (List.mem_append_right _ (List.mem_append_right _ hgx))))
  have hR : ∀ p ∈ snap h ts ++ H, p.1 ≠ ls := fun p hp e => by
    rcases List.mem_append.mp hp with hp | hp
    · exact hTo p hp (by simp [e])
    · exact hHo p hp (by simp [e])
  have n1 : @Ne Nat gr ls := fun e => hHo _ hgx (by simp [e])
  have n2 : @Ne Nat dx ls := fun e => hHo _ hdx (by simp [e])
  have n3 : @Ne Nat lf ls := fun e => holf ls (by simp) e.symm
  have f1 := hfix.o1
  have f2 := hfix.o2
  have f3 := hfix.o3
  have f4 := hfix.e1
  have f5 := hfix.e2
  dsimp only [List.cons_append, List.nil_append] at N2
  show wpAny _ _ (execs [_] _) _ _ _
  k_steps
  unfold Stop
  rename Fr _ _ _ _ => F5
  rename News _ _ _ _ => N5
  rename_i x5 t5 n5 r5 tr5 h5 tk5 hx5 hx5' hr5 hr5' tn5
  show wpAny _ (ktrTop _ _ _ _ _ _ _ _ _ _) (call (.ref 676) [.ref gr, .int _ _]) _ _ _
  have N6 : News g0 L h5 (((lf, W.listOf (ts.map Value.ref).toArray nf) :: (own L ls la lm x5 t5 n5 nm_ ys zs o1 o2 o3 o4 #[] ++ snap h ts)) ++ H) := news_sub N5 (fun q hq => by
    refine .tail _ (.tail _ ?_)
    exact hq)
  have hHO : ∀ p ∈ H, p.1 ∉ (((lf, W.listOf (ts.map Value.ref).toArray nf) :: (own L ls la lm x5 t5 n5 nm_ ys zs o1 o2 o3 o4 #[] ++ snap h ts)) : List (Addr × Obj)).map (·.1) := fun p hp hm => by
    rw [List.map_cons, List.map_append] at hm
    rcases List.mem_cons.mp hm with e | hm
    · exact hHlf p hp e
    rcases List.mem_append.mp hm with hm | hm
    · exact hHo p hp hm
    · obtain ⟨q, hq, e⟩ := List.mem_map.mp hm
      exact hHT p hp q hq e.symm
  refine add_node_spec B F5 X T rfl S (news_sub N6 fun q hq => List.mem_append_right _ hq) hG (by simp) (by simp) (by simp) (by simp) (by simp) (by walk_at "ROOM") (by walk_at "UNITS") fun h6 tk6 H6 kb6 N6' hnew6 hG6 => ?_
  have F6 := fr_kb F5 kb6 fun b hb => by
    obtain ⟨q, hq, rfl⟩ := List.mem_map.mp hb
    exact (N6 q (List.mem_append_right _ hq)).2.symm
  obtain ⟨N7, off7⟩ := graph_step N6 hHO kb6 N6' hnew6
  clear N5 N6 N6' kb6 hnew6 F5
  k_steps
  refine ⟨_, _, ls, la, lm, gr, lf, x5, t5, tm, n5, nm_, nf, ys, zs, many, r5, ab, o1, o2, o3, o4, H6, snap h ts, ts, _, rfl, F6, news_sub N7 (fun q hq => by rw [List.cons_append, List.append_assoc]; exact hq), hfix, c4, hx5, hx5', hr5, hr5', hG6, fun p hp hm => off7 p hp ?_, fun p hp hm => ?_, fun hm => holf _ hm rfl, hTups, fun k => ?_, ?_⟩
  · rw [List.map_cons, List.map_append]; exact hm
  · rcases List.mem_cons.mp hm with e | hm
    · exact hTlf p hp e
    · exact hTo p hp hm
  · rw [List.mem_map]
    constructor
    · rintro ⟨j, hj, rfl⟩
      have := List.mem_range.mp hj
      omega
    · rintro ⟨k0, k1⟩
      exact ⟨(k - 1).toNat, List.mem_range.mpr (by omega), by omega⟩
  · refine List.pairwise_map.mpr (List.nodup_range.imp fun hne e => hne ?_)
    omega
end
section
local macro_rules | `(tactic| walk_at "nothing") => `(tactic| fail "nothing")
local macro_rules | `(tactic| walk_at "nothing") => `(tactic| fail "nothing")
local macro_rules | `(tactic| walk_at "nothing") => `(tactic| fail "nothing")
local macro_rules | `(tactic| walk_at "nothing") => `(tactic| fail "nothing")
local macro_rules | `(tactic| walk_at "nothing") => `(tactic| fail "nothing")
local macro_rules | `(tactic| walk_at "nothing") => `(tactic| fail "nothing")
local macro_rules | `(tactic| walk_at "nothing") => `(tactic| fail "nothing")
local macro_rules | `(tactic| walk_at "nothing") => `(tactic| fail "nothing")
local macro_rules | `(tactic| walk_at "call ref") => `(tactic| ((first
  | (with_reducible show wpAny _ _ (call (Value.ref 831) _) _ _ _)
  | (with_reducible show wpAny _ _ (call (Value.ref 676) _) _ _ _)
  | (with_reducible show wpAny _ _ (call (Value.ref 704) _) _ _ _)
  | (with_reducible show wpAny _ _ (call (Value.ref 596) _) _ _ _)
  | (with_reducible show wpAny _ _ (call (Value.ref 624) _) _ _ _)
  | (with_reducible show wpAny _ _ (call (Value.ref 610) _) _ _ _)); refine stopI ?_))
local macro_rules | `(tactic| walk_at "call ref") => `(tactic| (k_here; (with_reducible show wpAny _ _ (call (Value.ref 854) [Value.ref _, Value.int _ _]) _ _ _); k_dflt (refine' next_N ?B ?F ?X ?T ?hk ?S ?N ?U ?a ?b ?c ?d ?hdp ?hun ?_; (case B => k_asm); (case F => k_asm); (case X => k_asm); (case T => k_asm); (case hk => rfl); (case S => assumption); (case N => k_asm); (case U => k_updF); (case a => assumption); (case b => assumption); (case c => omega); (case d => omega); (case hdp => walk_at "ROOM"); (case hun => walk_at "UNITS")); intro x' t' n' r' tr' h' tk' hx0' hx1' hr0' hr1' F' N'; (try dsimp only at N'); (try dsimp only); (try k_sweep)))
local macro_rules | `(tactic| walk_at "subscriptTail") => `(tactic| (k_here; (with_reducible show wpAny _ _ (subscriptTail _ _ (Value.ref _) (Value.int _ _)) _ _ _); k_dflt (refine' item_names ?D ?hl ?h0 ?h1 ?_ ?hs ?hg; (case D => with_reducible assumption); (case hl => walk_at "LIST"); (case h0 => first | (with_reducible assumption) | omega); (case h1 => first | (with_reducible assumption) | omega); (case hs => with_unfolding_all rfl); (case hg => intro _; with_unfolding_all rfl)); intro tn'; (try dsimp only)))
section
variable {prog : Program} {w : World} {A : Around} {E : Value → Shared → Prop} {s : Shared}
theorem truthy_lnil {l : Addr} {ts : List Addr} {Q : Bool → Shared → Prop} (hl : s.heap.IsList l (ts.map Value.ref).toArray) (hts : ts = []) (h : ∀ tk, Q false { s with toks := tk }) : wpAny (model prog w) A (truthy (.ref l)) Q E s := by
  subst hts
  exact truthy_left hl (by simp) (by simpa using h _)
theorem truthy_lcons {l : Addr} {ts : List Addr} {Q : Bool → Shared → Prop} (hl : s.heap.IsList l (ts.map Value.ref).toArray) (hts : ts ≠ []) (hlen : ts.length ≤ 100) (h : ∀ tk, Q true { s with toks := tk }) : wpAny (model prog w) A (truthy (.ref l)) Q E s := by
  refine truthy_left hl hlen ?_
  rw [decide_eq_true hts]
  exact h _
end
local macro_rules | `(tactic| walk_at "truthy ref") => `(tactic| (k_here; (with_reducible show wpAny _ _ (truthy (Value.ref _)) _ _ _); k_dflt (first
  | (refine' truthy_lnil ?l ?e ?_; (case l => walk_at "LIST"); (case e => with_reducible assumption))
  | (refine' truthy_lcons ?l ?e ?h ?_; (case l => walk_at "LIST"); (case e => with_reducible assumption); (case h => with_reducible assumption))); intro tk'; (try dsimp only)))
local macro_rules | `(tactic| walk_at "call builtin:len") => `(tactic| (k_here; (with_reducible show wpAny _ _ (call (Value.builtin "len") [Value.ref _]) _ _ _); k_dflt (refine' len_left ?l ?h ?_; (case l => walk_at "LIST"); (case h => with_reducible assumption)); intro tt' tk'; (try dsimp only)))
local macro_rules | `(tactic| walk_at "call builtin:list.pop") => `(tactic| (k_here; (with_reducible show wpAny _ _ (call (Value.builtin "list.pop") [Value.ref _, Value.int _ _]) _ _ _); k_dflt (refine' pop_left ?D ?F ?N ?U ?hT ?hr ?hTn ?hTD ?h0 ?h1 ?hsz ?_; (case D => with_reducible assumption); (case F => k_asm); (case N => k_asm); (case U => k_updF); (case hT => with_reducible assumption); (case hr => with_reducible assumption); (case hTn => (intro p hp; repeat (first | exact List.mem_append_left _ hp | refine List.mem_cons_of_mem _ ?_))); (case hTD => with_reducible assumption); (case h0 => with_reducible assumption); (case h1 => with_reducible assumption); (case hsz => with_reducible assumption)); intro h' pa' a' qa' pr' k' qr' tq' tk' e1' e2' hT' k0' k1' k2' k3' F' N'; (try dsimp only at N'); (try dsimp only); (try k_sweep)))
/-- after the while loop -/
def Law4 (prog : Program) (w : World) (g0 : Heap) (L sc : Addr) (s s' : Shared) : Prop :=
  ∃ (h : Heap) (tk : Nat) (ls la lm gr lf : Addr) (x : Int) (t tm : Tok) (n nm_ : Nat) (ys zs : List Value) (many : Int) (ab : Int → Int) (o1 o2 o3 o4 : Obj) (H : List (Addr × Obj)) (ns : List Int) (sb pb : Int → List Int) (u1 u2 : Option Value), s' = { s with heap := h, toks := tk } ∧ Fr g0 L h (lk [("b", u2), ("a", u1), ("graph", some (.ref gr)), ("left", some (.ref lf)), ("names", some (.ref lm)), ("script", some (.ref sc))]) ∧
    News g0 L h (own L ls la lm x t n nm_ ys zs o1 o2 o3 o4 #[] ++ H) ∧ Fixed L sc ls la lm gr many tm ys zs ab o1 o2 o3 ∧ o4.data = .cell none ∧ 0 ≤ x ∧ x < 2147483647 ∧ Gr prog w H gr ns sb pb ∧ TreeB many ab ns sb pb ∧ (∀ p ∈ H, p.1 ∉ ownA L ls la lm)
theorem law_4 {w : World} {p : Program} {loose : List Str} {mean : ExcName → Option Value} {mg mb : Str → Option Value} {base g0 : Heap} {L sc : Addr} {s : Shared} {s₀ : Shared} {A₀ : Around} {dp un : Nat} {gd : Option (List Code)}
    {nm1 qual : Str} {prms : Arguments} {body : List Stmt} {scope : Scope} {dV kV doc pm cdv' ct oc : Value} {an od : Option Addr} {osl : Array (Option Value)}
    (hb : (hd.heap_39 w.params).lookup 866 = some ⟨oc, od, .func (fnOf nm1 qual prms body scope dV kV doc pm an cdv' ct), osl⟩)
    (B : Below A₀ base [] g0) (X : (hd.heap_39 w.params).In g0) (T : Top p loose mean mg mb g0) (S : Sys g0) (h3 : Law3 PySem.Challenge.rw_fq0029_01.row.prog w g0 L sc s₀ s) (hdp : dp + 100 < recursionLimit) (hun : un + 1000 < cLine) :
    wpAny (model PySem.Challenge.rw_fq0029_01.row.prog w) (ktrTop dp un gd qual scope L 866 cdv' [("other", L + 1 + 1 + 1 + 1), ("above", L + 1 + 1 + 1), ("many", L + 1 + 1), ("s", L + 1)] []) (execs ((body.drop 6).take 1) (envX qual scope L 866 cdv' [("other", L + 1 + 1 + 1 + 1), ("above", L + 1 + 1 + 1), ("many", L + 1 + 1), ("s", L + 1)])) (fun f s' => f = .next ∧ Stop (Law4 PySem.Challenge.rw_fq0029_01.row.prog w g0 L sc s₀ s')) Never s := by
  revert X
  k_fill
  intro X
  refine' use_eq hb ?hh ?_
  case hh => k_is
  intro e
  cases e
  clear hb
  obtain ⟨h, tk, ls, la, lm, gr, lf, x, t, tm, n, nm_, nf, ys, zs, many, st, ab, o1, o2, o3, o4, H, T₀, ts, rem, rfl, F, N, hfix, c4, hx0, hx1, hst0, hst1, hG, hHo, hTo, hlf, hT, hrem, hrnd⟩ := h3
  have hD := hfix.D
  have f1 := hfix.o1
  have f2 := hfix.o2
  have f3 := hfix.o3
  have f4 := hfix.e1
  have f5 := hfix.e2
  have c1 := hfix.c1
  have c2 := hfix.c2
  have c3 := hfix.c3
  have m1 := hD.m1
  have hT8 : ∀ ks : List Int, ks.Nodup → (∀ k ∈ ks, 0 < k ∧ k < many) → ks.length ≤ 8 := fun ks h1 h2 => by
    have h := nodup_length_le (ns := (List.range (many.toNat - 1)).map fun (i : Nat) => ((i : Int) + 1)) h1 fun y hy => by
      have := h2 y hy
      exact List.mem_map.mpr ⟨(y - 1).toNat, List.mem_range.mpr (by omega), by omega⟩
    rw [List.length_map, List.length_range] at h
    omega
  show wpAny _ _ (execs [_] _) _ _ _
  refine wpAny_execs_cons (While_my rem.length (fun j s' => ∃ (h : Heap) (tk : Nat) (x : Int) (t : Tok) (n nf : Nat) (ts : List Addr) (rem ks : List Int) (H : List (Addr × Obj)) (u1 u2 : Option Value), s' = { s₀ with heap := h, toks := tk } ∧ Fr g0 L h (lk [("b", u2), ("a", u1), ("graph", some (.ref gr)), ("left", some (.ref lf)), ("names", some (.ref lm)), ("script", some (.ref sc))]) ∧
    News g0 L h ((lf, W.listOf (ts.map Value.ref).toArray nf) :: (own L ls la lm x t n nm_ ys zs o1 o2 o3 o4 #[] ++ (T₀ ++ H))) ∧ 0 ≤ x ∧ x < 2147483647 ∧ Tups T₀ ab ts rem ∧ (∀ k, k ∈ ks ++ rem ↔ 0 < k ∧ k < many) ∧ (ks ++ rem).Nodup ∧
    Gr PySem.Challenge.rw_fq0029_01.row.prog w H gr (bns (nm st) (arcs ab ks)) (bsb (arcs ab ks)) (bpb (arcs ab ks)) ∧ (∀ p ∈ H, p.1 ∉ lf :: (ownA L ls la lm ++ T₀.map (·.1))) ∧ j = rem.length) ?_ ?_)
  · exact ⟨h, tk, x, t, n, nf, ts, rem, [], H, none, none, rfl, fr_eq F (by walk_at "SAME"), N, hx0, hx1, hT, hrem, hrnd, hG, hHo, rfl⟩
  · clear N F hG hHo hT hrem hrnd hx0 hx1
    rintro j s' ⟨h, tk, x, t, n, nf, ts, rem, ks, H, u1, u2, rfl, F, N, hx0, hx1, hT, hrem, hrnd, hG, hHo, rfl⟩
    obtain ⟨c, nd, ad, pd, ra, rp, dx, k1, k2, k3, k4, k5, t1, t2, t3, t4, t5, v1, DC, hgx, hdx, cg, cdx, hc⟩ := id hG
    have hr : ∀ k ∈ rem, 0 < k ∧ k < many := fun k hk => (hrem k).mp (List.mem_append_right _ hk)
    have hks : ∀ k ∈ ks, 0 < k ∧ k < many := fun k hk => (hrem k).mp (List.mem_append_left _ hk)
    have hlen : ts.length ≤ 100 := by
      have := hT8 _ hrnd fun k hk => (hrem k).mp hk
      rw [List.length_append] at this
      rw [hT.len]; omega
    have N2 := news_front (news_front N (.tail _ (List.mem_append_right _ (List.mem_append_right _ hdx)))) (.tail _ (.tail _ (List.mem_append_right _ (List.mem_append_right _ hgx))))
    have hTlf : ∀ p ∈ T₀, p.1 ≠ lf := fun p hp e => hTo p hp (by rw [e]; exact .head _)
    have hoff : ∀ p ∈ H, ∀ a ∈ lf :: ownA L ls la lm, p.1 ≠ a := fun p hp a ha e => hHo p hp (by rw [e]; exact List.mem_append_left (T₀.map (·.1)) ha)
    have hR : ∀ p ∈ T₀ ++ H, p.1 ≠ ls := fun p hp e => by
      rcases List.mem_append.mp hp with hp | hp
      · exact hTo p hp (by simp [e])
      · exact hoff p hp ls (by simp) e
    have hR2 : ∀ p ∈ T₀ ++ H, p.1 ≠ lf := fun p hp e => by
      rcases List.mem_append.mp hp with hp | hp
      · exact hTlf p hp e
      · exact hoff p hp lf (by simp) e
    have n1 : @Ne Nat gr ls := hoff _ hgx ls (by simp)
    have n2 : @Ne Nat dx ls := hoff _ hdx ls (by simp)
    have n4 : @Ne Nat gr lf := hoff _ hgx lf (by simp)
    have n5 : @Ne Nat dx lf := hoff _ hdx lf (by simp)
    have n3 : @Ne Nat lf ls := fun e => hlf (by simp [e])
    have n6 : @Ne Nat lf lm := fun e => hlf (by simp [e])
    have n7 : @Ne Nat lf la := fun e => hlf (by simp [e])
    have n8 : @Ne Nat lf (L + 1 + 1 + 1 + 1) := fun e => hlf (by simp [e])
    have n9 : @Ne Nat lf (L + 1 + 1 + 1) := fun e => hlf (by simp [e])
    have n10 : @Ne Nat lf (L + 1 + 1) := fun e => hlf (by simp [e])
    have n11 : @Ne Nat lf (L + 1) := fun e => hlf (by simp [e])
    have n12 : @Ne Nat lf 613 := fun e => hlf (by simp [e])
    dsimp only [List.cons_append, List.nil_append] at N2
    by_cases hts : ts = []
    · have hts' : ts.length = 0 := by rw [hts]; rfl
      k_steps
      have hrem0 : rem = [] := List.length_eq_zero_iff.mp (by rw [← hT.len]; exact hts')
      subst hrem0
      rename Fr _ _ _ _ => F5
      rename News _ _ _ _ => N5
      have hT9 := built_tree hD.toTree hst0 hst1 (ks := ks) (fun k => by have := hrem k; rwa [List.append_nil] at this) (by rwa [List.append_nil] at hrnd)
      refine ⟨_, _, ls, la, lm, gr, lf, x, t, tm, n, nm_, ys, zs, many, ab, o1, o2, o3, o4, H, _, _, _, u1, u2, rfl, F5, news_sub N5 (fun q hq => ?_), hfix, c4, hx0, hx1, hG, hT9, fun p hp hm => hHo p hp (.tail _ (List.mem_append_left _ hm))⟩
      refine .tail _ (.tail _ (.tail _ ?_))
      rcases List.mem_append.mp hq with hq | hq
      · exact List.mem_append_left (T₀ ++ H) hq
      · exact List.mem_append_right (own L ls la lm x t n nm_ ys zs o1 o2 o3 o4 #[]) (List.mem_append_right _ hq)
    · have hts' : 0 < ts.length := by cases ts with
        | nil => exact absurd rfl hts
        | cons a b => simp
      k_steps
      show wpAny _ (ktrTop _ _ _ _ _ _ _ _ _ _) (call (.ref 704) [.ref gr, .int _ _, .int _ _]) _ _ _
      rename Fr _ _ _ _ => F5
      rename News _ _ _ _ => N5
      rename_i tk9 tt9 tk9b x9 t9 n9 r9 tr9 h9 tk9c hx9 hx9' hr9 hr9' h9b pa a9 qa pr k9 qr tq9 tk9d e1 e2 hT9 k0 k1' k2' k3 h9c h9d h9e tn9a tn9b
      show wpAny _ (ktrTop _ _ _ _ _ _ _ _ _ _) (call (.ref 704) [.ref gr, .int _ _, .int _ _]) _ _ _
      have N6 : News g0 L h9e (((lf, W.listOf ((pa ++ qa).map Value.ref).toArray (nf + 1)) :: (own L ls la lm x9 t9 n9 nm_ ys zs o1 o2 o3 o4 #[] ++ T₀)) ++ H) := news_sub N5 (fun q hq => by
        refine .tail _ (.tail _ (.tail _ ?_))
        exact hq)
      have hHO : ∀ p ∈ H, p.1 ∉ (((lf, W.listOf ((pa ++ qa).map Value.ref).toArray (nf + 1)) :: (own L ls la lm x9 t9 n9 nm_ ys zs o1 o2 o3 o4 #[] ++ T₀)) : List (Addr × Obj)).map (·.1) := fun p hp hm => by
        rw [List.map_cons, List.map_append] at hm
        exact hHo p hp hm
      subst e2
      have hperm : (ks ++ (pr ++ k9 :: qr)).Perm ((ks ++ [k9]) ++ (pr ++ qr)) := by
        rw [List.append_assoc]
        exact List.perm_middle.append_left ks
      have hk9 : k9 ∉ ks := fun hm => (List.nodup_append.mp hrnd).2.2 k9 hm k9 (List.mem_append_right _ (.head _)) rfl
      obtain ⟨nu, nv, nuv⟩ := arc_fresh hD.toTree hks k0 k1' hk9
      have hal : (arcs ab ks).length ≤ 8 := by
        have := hT8 ks (List.nodup_append.mp hrnd).1 hks
        unfold arcs; rw [List.length_map]; exact this
      refine add_edge_spec B F5 X T rfl S (news_sub N6 fun q hq => List.mem_append_right _ hq) hG (by have := len_bns (nm st) (arcs ab ks); omega) (fun n => by have := len_bsb (arcs ab ks) n; omega) (fun n => by have := len_bpb (arcs ab ks) n; omega) (fun n hn => bsb_out hn) nu nv (fun e => absurd e nuv) (by walk_at "ROOM") (by walk_at "UNITS") fun h6 tk6 H6 kb6 N6' hnew6 hG6 => ?_
      have F6 := fr_kb F5 kb6 fun b hb => by
        obtain ⟨q, hq, rfl⟩ := List.mem_map.mp hb
        exact (N6 q (List.mem_append_right _ hq)).2.symm
      obtain ⟨N7, off7⟩ := graph_step N6 hHO kb6 N6' hnew6
      clear N5 N6 N6' kb6 hnew6 F5
      k_steps
      unfold Stop
      refine ⟨(pr ++ qr).length, by simp, _, _, x9, t9, n9, _, pa ++ qa, pr ++ qr, ks ++ [k9], H6, _, _, rfl, fr_eq F6 (by walk_at "SAME"), news_sub N7 (fun q hq => by rw [List.cons_append, List.append_assoc]; exact hq), hx9, hx9', hT9, fun k => by rw [← hperm.mem_iff]; exact hrem k, hperm.nodup_iff.mp hrnd, ?_, fun p hp hm => off7 p hp ?_, rfl⟩
      · rw [arcs_snoc, bns_snoc, bsb_snoc, bpb_snoc]; exact hG6
      · rw [List.map_cons, List.map_append]; exact hm
end
open PyProof.Rows.LCg PyProof.Rows.LCt
section
variable {prog : Program} {w : World} {A : Around} {E : Value → Shared → Prop} {s : Shared} {env : Env}
/-- over a range from 0, the ledger may grow -/
theorem forRangeG {x : Str} {px : Pos} {body : List Stmt} {Q : Flow → Shared → Prop} {r : Addr} {b : Int} {t u v : Tok} {n : Nat} {h₀ : Heap} {m : Str → Option Value} {news : List (Addr × Obj)}
    (F : Fr h₀ env.locals s.heap m) (N : News h₀ env.locals s.heap news) (hr : IsRange s.heap r 0 b 1 t u v) (hsm : Builtin.Range.small 0 b 1 = true) (hn : Builtin.Range.rangeSize 0 b 1 = ((n : Nat) : Int)) (hh : A.handled = none)
    (hx : env.kindOf x = some .local) (hp : (env.scope.kind == .class || (env.scope.kind == .module && env.locals != env.globals)) = false)
    (J : Nat → (Str → Option Value) → List (Addr × Obj) → Prop) (h0 : J 0 m news)
    (turn : ∀ I i t m₁ news₁ h tk io, (∀ p ∈ news, p.1 < I) → i < n → J i m₁ news₁ → (∀ p ∈ news₁, p.1 ≠ I) →
      Fr h₀ env.locals h (fun y => if y = x then some (.int (i : Int) t) else m₁ y) → News h₀ env.locals h ((I, io) :: news₁) →
      wpAny (model prog w) A (execs body env) (TurnEnd h₀ env.locals (fun m' n' => (∀ p ∈ n', p.1 ≠ I) ∧ J (i + 1) m' n') [(I, io)] Q { s with heap := h, toks := tk }) Bot { s with heap := h, toks := tk })
    (done : ∀ m₁ news₁ h tk, J n m₁ news₁ → Fr h₀ env.locals h m₁ → News h₀ env.locals h news₁ → Q .next { s with heap := h, toks := tk }) :
    wpAny (model prog w) A (pyIter (.ref r)) (fun it s₂ => ForAt prog w A env (.Name x px) body Q it s₂) E s := by
  refine wpAny_pyIter_range hr hsm ?_
  have hnl : ∀ p ∈ news, p.1 < s.heap.objs.size := fun p hp => Heap.lt_size (N p hp).1
  refine forWalks (own := []) (Walks.range hh s.heap.objs.size 0 1 n) hx hp (fun i h st => ⟨_, st⟩) (by show IsRangeIter _ _ _ _ _; rw [hn]; simpa using Heap.get?_push_size _ rfl) (F.push _) (fun p hp => ⟨Heap.get?_push_of_some _ (N p hp).1, (N p hp).2⟩) ?_
    (Nat.ne_of_gt F.ns.lt) (fr_none F (Nat.le_refl _)) (fun p hp => nomatch hp) (fun i m₁ n₁ => (∀ p ∈ n₁, p.1 ≠ s.heap.objs.size) ∧ J i m₁ n₁) ⟨fun p hp => Nat.ne_of_lt (hnl p hp), h0⟩ (fun i m₁ n₁ hJ => hJ.1) ?_ ?_
  · intro b hb
    rw [List.mem_singleton.mp hb]
    exact ⟨Nat.ne_of_gt F.ns.lt, .inl rfl⟩
  · rintro i v m₁ n₁ h tk io hi ⟨t, rfl⟩ ⟨hadr, hJ⟩ F₁ N₁
    rw [Int.mul_one, Int.zero_add] at F₁
    exact turn _ i t m₁ n₁ h tk io hnl hi hJ hadr F₁ N₁
  · rintro m₁ n₁ h tk ⟨hadr, hJ⟩ F₁ N₁
    exact done m₁ n₁ h tk hJ F₁ N₁
end
/-- a dict by pairs of ints: its object, and the tuples that are its keys -/
def IsDictH (prog : Program) (w : World) (o : Obj) (xs : List (List Int × Addr × Value)) : Prop :=
  ∃ es ep, o.ExactDict ∧ o.data = .dict es ep ∧ es.toList = xs.map (entryOfKey (tk2 prog w)) ∧ (xs.map (·.1)).Nodup
def KeyTups (K : List (Addr × Obj)) (xs : List (List Int × Addr × Value)) : Prop := ∀ x ∈ xs, ∃ a ta b tb, x.1 = [a, b] ∧ (x.2.1, tup2 a ta b tb) ∈ K
theorem isKey_tup {prog : Program} {w : World} {h : Heap} {t : Addr} {a b : Int} {ta tb : Tok} (e : h.get? t = some (tup2 a ta b tb)) : (tk2 prog w).is h [a, b] t :=
  ⟨_, _, 0, e, rfl, rfl, .cons (intKind_is prog w a ta) (.cons (intKind_is prog w b tb) .nil)⟩
theorem isDictH_nil {prog : Program} {w : World} {o : Obj} (h : o.IsDictOf (PySem.intKind prog w) []) : IsDictH prog w o [] := by
  obtain ⟨es, ep, hx, hd, _, hp, _⟩ := h
  refine ⟨es, ep, hx, hd, ?_, List.nodup_nil⟩
  generalize es.toList = l at hp
  cases hp
  rfl
section
variable {prog : Program} {w : World} {A : Around} {E : Value → Shared → Prop} {s : Shared} {h₀ : Heap} {L : Addr} {m : Str → Option Value} {news : List (Addr × Obj)}
theorem dictOfH_of {D : Addr} {oD : Obj} {K : List (Addr × Obj)} {xs : List (List Int × Addr × Value)} (N : News h₀ L s.heap news) (hm : (D, oD) ∈ news) (hD : IsDictH prog w oD xs) (hK : KeyTups K xs) (hKn : ∀ p ∈ K, p ∈ news) : s.heap.DictOfH (tk2 prog w) D xs := by
  obtain ⟨es, ep, h1, h2, h3, h4⟩ := hD
  refine ⟨oD, es, ep, (N _ hm).1, h1, h2, h3, fun x hx => ?_, h4⟩
  obtain ⟨a, ta, b, tb, e, hk⟩ := hK x hx
  rw [e]
  exact isKey_tup (N _ (hKn _ hk)).1
theorem item_H {value slice : Expr} {D t : Addr} {oD : Obj} {K : List (Addr × Obj)} {xs : List (List Int × Addr × Value)} {a b : Int} {ta tb : Tok} {y : Value} {Q : Value → Shared → Prop} (N : News h₀ L s.heap news) (hm : (D, oD) ∈ news) (hD : IsDictH prog w oD xs) (hK : KeyTups K xs) (hKn : ∀ p ∈ K, p ∈ news)
    (ht : (t, tup2 a ta b tb) ∈ news) (hu : A.in1.units < cLine) (hv : valueAt (kvsOf xs) [a, b] = some y) (h : ∀ tk, Q y { s with toks := tk })
    (hs : subscripted slice false (.ref D) (.ref t) = operate [.ref D, .ref t] (getItem (.ref D) (.ref t))) (hg : ∀ r, letTemporaryGo value (.ref D) r = pure ()) :
    wpAny (model prog w) A (subscriptTail value slice (.ref D) (.ref t)) Q E s := by
  have hH := dictOfH_of N hm hD hK hKn
  rw [valueAt_kvsOf] at hv
  obtain ⟨p, hp, rfl⟩ := Option.map_eq_some_iff.mp hv
  exact subscriptTail_builtin hH.typeIs slot_dict_getitem.lookup (wpAny_getItem_heap hu (isKey_tup (N _ ht).1) hH hp (h _)) hs hg
theorem setItem_H {D t : Addr} {oD : Obj} {g : Obj → List (Addr × Obj)} {K : List (Addr × Obj)} {xs : List (List Int × Addr × Value)} {a b : Int} {ta tb : Tok} {y : Value} {Q : Unit → Shared → Prop} (F : Fr h₀ L s.heap m) (N : News h₀ L s.heap news) (U : UpdF D oD news g) (hD : IsDictH prog w oD xs) (hK : KeyTups K xs) (hKn : ∀ p ∈ K, p ∈ news)
    (ht : (t, tup2 a ta b tb) ∈ news) (hu : A.in1.units < cLine) (hsz : xs.length ≤ 100)
    (h : ∀ h' tk oD' xs', Fr h₀ L h' m → News h₀ L h' (g oD') → IsDictH prog w oD' xs' → KeyTups ((t, tup2 a ta b tb) :: K) xs' → kvsOf xs' = stored (kvsOf xs) [a, b] y → Q () { s with heap := h', toks := tk }) :
    wpAny (model prog w) A (setItem (.ref D) (.ref t) y) Q E s := by
  obtain ⟨pre, post, rfl, hg, a1, b1⟩ := U.split
  have hm : (D, oD) ∈ pre ++ (D, oD) :: post := List.mem_append_right _ (.head _)
  have z := N _ hm
  have hH := dictOfH_of N hm hD hK hKn
  refine wpAny_setItem_heap hu (isKey_tup (N _ ht).1) hH (fun h' hm' hs' => ?_) (by rw [sizeLine_eq]; omega)
  obtain ⟨oD', es', ep', e1, e2, e3, e4, e5, e6⟩ := hm'
  refine h h' _ oD' _ (F.change hs' z.2.1 z.2.2) (hg oD' ▸ news_set N a1 b1 hs' e1) ⟨es', ep', e2, e3, e4, e6⟩ (fun x hx => ?_) (kvsOf_storedH _ _ _ _)
  rcases mem_storedH hx with ⟨x', hx', q1, q2⟩ | ⟨q1, q2⟩
  · obtain ⟨a', ta', b', tb', e, hk⟩ := hK x' hx'
    exact ⟨a', ta', b', tb', q1.trans e, .tail _ (q2 ▸ hk)⟩
  · exact ⟨a, ta, b, tb, q1, by rw [q2]; exact .head _⟩
theorem item_lastI {value slice : Expr} {l : Addr} {vs : List Value} {ns ys : List Int} {z : Int} {u : Tok} {Q : Value → Shared → Prop} (hl : s.heap.IsList l vs.toArray) (hi : IntsAre vs ns) (e : ns = ys ++ [z]) (hlen : ns.length ≤ 100) (h : ∀ t, Q (.int z t) s)
    (hs : subscripted slice false (.ref l) (.int (-1) u) = operate [.ref l, .int (-1) u] (getItem (.ref l) (.int (-1) u)) := by with_unfolding_all rfl) :
    wpAny (model prog w) A (subscriptTail value slice (.ref l) (.int (-1) u)) Q E s := by
  have hvl := hi.length
  have hnl : ns.length = ys.length + 1 := by rw [e, List.length_append]; rfl
  obtain ⟨t, ht⟩ := hi.get ys.length z (by rw [e, List.getElem?_append_right (Nat.le_refl _), Nat.sub_self]; rfl)
  have hsz : vs.toArray.size = ys.length + 1 := by rw [List.size_toArray, hvl, hnl]
  refine tail_any hl.typeIs slot_list_getitem.lookup (wpAny_getItem_list_neg hl (by decide) (by rw [hsz]; omega) (by decide) ?_ (h t)) hs
  rw [hsz]
  have : (-1 + ((ys.length + 1 : Nat) : Int)).toNat = ys.length := by omega
  rw [this]
  simpa using ht
variable {env : Env}
/-- a comprehension with a test over a list of ints -/
theorem rest_filterL {ct elt : Expr} {x : Str} {scope : Scope} {cl : List (Str × Addr)} {its : List Value} {ns : List Int} {news : List (Addr × Obj)} {S : List (Addr × Obj) → Prop} {Fin : List Value → List (Addr × Obj) → Prop} {p : Int → Bool} (hi : IntsAre its ns) (hS : S news)
    (turn : ∀ k t I oI C oC D m₂ h tk ys (E' : Value → Shared → Prop), k ∈ ns → NsObj oC m₂ → m₂ x = some (.int k t) → Fr h₀ L h m → News h₀ L h ((I, oI) :: (C, oC) :: (D, PyProof.Rows.LCg.lst ys) :: news) → Off3 I C D news →
      wpAny (model prog w) A (isTrue ct (compEnvC scope cl C env) (eval ct (compEnvC scope cl C env))) (fun ok s' => ok = p k ∧ (∃ tk', s' = { s with heap := h, toks := tk' }) ∧
        wpAny (model prog w) A (eval elt (compEnvC scope cl C env)) (fun y s'' => y = .int k t ∧ ∃ tk'', s'' = { s with heap := h, toks := tk'' }) E' s') E' { s with heap := h, toks := tk })
    (fin : ∀ ys, IntsAre ys (ns.filter p) → Fin ys news) :
    CompRestT prog w A h₀ L m env ct elt x scope cl s S (fun i v => its.toArray[i]? = some v) Fin its.toArray.size 0 [] news := by
  have hlen := hi.length
  rw [List.size_toArray, hlen]
  suffices hgen : ∀ (k i : Nat) (ys : List Value), i + k = ns.length → IntsAre ys ((ns.take i).filter p) → CompRestT prog w A h₀ L m env ct elt x scope cl s S (fun i v => its.toArray[i]? = some v) Fin k i ys news from
    hgen ns.length 0 [] (Nat.zero_add _) .nil
  intro k
  induction k with
  | zero =>
    intro i ys hi' hys
    refine CompRestT.zero (fin ys ?_)
    rw [Nat.add_zero] at hi'
    rw [hi', List.take_length] at hys
    exact hys
  | succ j ih =>
    intro i ys hi' hys
    refine CompRestT.succ fun v I oI C oC D m₂ h tk E' hv hC hx' F N off ne => ?_
    have hlt : i < ns.length := by omega
    have hk := List.getElem?_eq_getElem hlt
    generalize ns[i] = k at hk
    obtain ⟨t, ht⟩ := hi.get i k hk
    have hv' : its[i]? = some v := by simpa using hv
    rw [ht] at hv'
    cases hv'
    have htk : ns.take (i + 1) = ns.take i ++ [k] := by rw [List.take_add_one, hk]; rfl
    refine wpAny_mono (turn k t I oI C oC D m₂ h tk ys E' (List.mem_of_getElem? hk) hC hx' F N off) (fun ok s' h' => ?_) fun _ _ e => e
    obtain ⟨rfl, ⟨tk', rfl⟩, hel⟩ := h'
    cases hp : p k with
    | true =>
      rw [if_pos rfl]
      refine wpAny_mono hel (fun y s'' h'' => ?_) fun _ _ e => e
      obtain ⟨rfl, tk'', rfl⟩ := h''
      refine CompEnd.intro F N news (fun _ h => h) off hS (ih (i + 1) _ (by omega) ?_)
      rw [htk, List.filter_append, List.filter_cons, hp]
      exact ints_push hys k t
    | false =>
      rw [if_neg Bool.false_ne_true]
      refine CompEnd.intro F N news (fun _ h => h) off hS (ih (i + 1) _ (by omega) ?_)
      rw [htk, List.filter_append, List.filter_cons, hp]
      simpa using hys
end
section
variable {prog : Program} {w : World} {A : Around} {E : Value → Shared → Prop} {s₁ : Shared} {h₀ : Heap} {L : Addr} {m : Str → Option Value} {env : Env}
theorem src_my {ct elt : Expr} {x : Str} {scope : Scope} {cl : List (Str × Addr)} {Fin : Shared → List Value → List (Addr × Obj) → Prop} {ax : Addr} {its : Array Value} {k : Nat} {news : List (Addr × Obj)}
    (hh : A.handled = none) (F : Fr h₀ L s₁.heap m) (N : News h₀ L s₁.heap news) (hm : (ax, ({ cls := .type "list", data := .seq its k } : Obj)) ∈ news) (hsz : its.size ≤ sizeLine)
    (h : ∀ s₂ : Shared, (∃ g, s₂ = { s₁ with heap := g }) → CompRestT prog w A h₀ L m env ct elt x scope cl s₂ (SrcAt h₀ ax its) (fun i v => its[i]? = some v) (Fin s₂) its.size 0 [] news) :
    CompSrcT prog w A h₀ L m env ct elt x scope cl Fin (.ref ax) s₁ := .inl ⟨ax, its, news, rfl, hh, F, N, .inr ⟨_, hm, rfl, _, rfl⟩, hsz, h⟩
end
theorem in_intsD {prog : Program} {w : World} {A : Around} {E : Value → Shared → Prop} {s : Shared} {l : Addr} {vs : List Value} {ns : List Int} {k : Int} {t : Tok} {Q : Value → Shared → Prop} (hl : s.heap.IsList l vs.toArray) (hi : IntsAre vs ns) (hlen : ns.length ≤ 100)
    (h : Q (.bool (decide (k ∈ ns))) s) : wpAny (model prog w) A (compareOp .In (.int k t) (.ref l)) Q E s := by
  have e : ns.any (· == k) = decide (k ∈ ns) := by
    rw [Bool.eq_iff_iff, List.any_eq_true, decide_eq_true_eq]
    constructor
    · rintro ⟨x, hx, he⟩; rw [← beq_iff_eq.mp he]; exact hx
    · exact fun hk => ⟨k, hk, beq_iff_eq.mpr rfl⟩
  refine in_list_ints hl hi ?_
  rw [e]; exact h
theorem len_stored {K : Type} [DecidableEq K] {l : List (K × Value)} {k : K} {v : Value} : (stored l k v).length ≤ l.length + 1 := by
  unfold stored
  split
  · rw [List.length_map]; omega
  · rw [List.length_append]; simp
theorem stored_newK {K : Type} [DecidableEq K] {kvs : List (K × Value)} {k : K} {v : Value} (h : k ∉ kvs.map (·.1)) : stored kvs k v = kvs ++ [(k, v)] := by
  unfold stored
  rw [if_neg]
  intro e
  obtain ⟨p, hp, e⟩ := List.any_eq_true.mp e
  exact h (List.mem_map.mpr ⟨p, hp, by simpa using e⟩)
theorem va_hitK {K : Type} [DecidableEq K] {kvs : List (K × Value)} {k : K} {v : Value} : valueAt (stored kvs k v) k = some v := by
  by_cases h : k ∈ kvs.map (·.1)
  · unfold stored
    rw [if_pos (List.any_eq_true.mpr (by obtain ⟨p, hp, e⟩ := List.mem_map.mp h; exact ⟨p, hp, by simpa using e⟩))]
    unfold valueAt
    induction kvs with
    | nil => cases h
    | cons p r ih =>
      by_cases e : p.1 = k
      · simp [e]
      · have : k ∈ r.map (·.1) := (List.mem_cons.mp h).resolve_left fun q => e q.symm
        simpa [e] using ih this
  · rw [stored_newK h]
    unfold valueAt
    rw [List.find?_append]
    have : kvs.find? (fun kv => decide (kv.1 = k)) = none := by
      rw [List.find?_eq_none]
      exact fun p hp e => h (List.mem_map.mpr ⟨p, hp, by simpa using e⟩)
    rw [this]
    simp
theorem va_otherK {K : Type} [DecidableEq K] {kvs : List (K × Value)} {k k' : K} {v v' : Value} (hne : k' ≠ k) (h : valueAt kvs k' = some v') : valueAt (stored kvs k v) k' = some v' := by
  rw [← h]
  by_cases hk : k ∈ kvs.map (·.1)
  · clear h
    unfold stored
    rw [if_pos (List.any_eq_true.mpr (by obtain ⟨p, hp, e⟩ := List.mem_map.mp hk; exact ⟨p, hp, by simpa using e⟩))]
    clear hk
    unfold valueAt
    induction kvs with
    | nil => rfl
    | cons p r ih =>
      by_cases e : p.1 = k
      · simpa [e, Ne.symm hne] using ih
      · by_cases e' : p.1 = k'
        · simp [e, e', hne]
        · simpa [e, e'] using ih
  · rw [stored_newK hk]
    unfold valueAt
    rw [List.find?_append]
    cases kvs.find? (fun kv => decide (kv.1 = k')) with
    | some p => rfl
    | none => simp [Ne.symm hne]
section
local macro_rules | `(tactic| walk_at "call ref") => `(tactic| (k_here; (with_reducible show wpAny _ _ (call (Value.ref 861) [Value.ref _, Value.int _ _]) _ _ _); k_dflt (refine' way_spec ?B ?F ?X ?T ?hk ?S ?hl ?hv0 ?hv1 ?hm ?hroot ?hab ?hdp ?hun ?_; (case B => k_asm); (case F => k_asm); (case X => k_asm); (case T => k_asm); (case hk => rfl); (case S => assumption); (case hl => walk_at "LIST"); (case hv0 => omega); (case hv1 => with_reducible assumption); (case hm => with_reducible assumption); (case hroot => rfl); (case hab => with_reducible assumption); (case hdp => walk_at "ROOM"); (case hun => walk_at "UNITS")); intro D' vs' l' n' h' tk' hk' hq' hD' hI' hW'; (have N' := news_add (by k_asm) (news_onto (by k_asm) hk') hq' hD'); (have l1' := news_lt (by k_asm) hq'); (have F' := fr_onto (by k_asm) hk'); (try clear hk' hq' hD'); (try k_lt l1'); (try dsimp only); (try k_sweep)))
local macro_rules | `(tactic| walk_at "eval ListComp") => `(tactic| (k_here; (with_reducible show wpAny _ _ (eval (Expr.ListComp _ [Comprehension.mk _ (Expr.Name _ _) [_] _] _ _) _) _ _ _); k_dflt (refine' PyProof.Rows.LCt.ListComp_T ?hF ?hclos ?hcell ?hkind ?hnames ?hx ?_ ?hs; (case hF => k_asm); (case hclos => with_unfolding_all rfl); (case hcell => decide); (case hkind => rfl); (case hnames => decide); (case hx => with_unfolding_all rfl); (case hs => intro _; with_unfolding_all rfl))))
local macro_rules | `(tactic| walk_at "CompSrcT") => `(tactic| refine stopI ?_)
local macro_rules | `(tactic| walk_at "subscriptTail") => `(tactic| (k_here; (with_reducible show wpAny _ _ (subscriptTail _ _ (Value.ref _) (Value.int (-1) _)) _ _ _); k_dflt (refine' item_lastI ?hl ?hi ?e ?hlen ?_ ?hs; (case hl => walk_at "LIST"); (case hi => with_reducible assumption); (case e => with_reducible assumption); (case hlen => with_reducible assumption); (case hs => with_unfolding_all rfl)); intro tz'; (try dsimp only)))
local macro_rules | `(tactic| walk_at "setItem ref ref") => `(tactic| (k_here; k_dflt (refine' setItem_H ?F ?N ?U ?hD ?hK ?hKn ?ht ?hu ?hsz ?_; (case F => k_asm); (case N => k_asm); (case U => k_updF); (case hD => with_reducible assumption); (case hK => with_reducible assumption); (case hKn => (intro p hp; repeat (first | exact List.mem_append_left _ hp | refine List.mem_cons_of_mem _ ?_))); (case ht => k_mem); (case hu => walk_at "UNITS"); (case hsz => with_reducible assumption)); intro h' tk' oD' xs' F' N' hD' hK' hV'; (try dsimp only at N'); (try dsimp only); (try k_sweep)))
local macro_rules | `(tactic| walk_at "compareOp In int ref") => `(tactic| (k_here; k_dflt (refine' in_intsD ?l ?i ?h ?_; (case l => walk_at "LIST"); (case i => with_reducible assumption); (case h => with_reducible assumption)); (try dsimp only)))
/-- after the tops are set -/
def Law5 (prog : Program) (w : World) (g0 : Heap) (L sc : Addr) (s s' : Shared) : Prop :=
  ∃ (h : Heap) (tk : Nat) (ls la lm gr lf D : Addr) (x : Int) (t tm : Tok) (n nm_ : Nat) (ys zs : List Value) (many : Int) (ab : Int → Int) (o1 o2 o3 o4 oD : Obj) (H K : List (Addr × Obj)) (ns : List Int) (sb pb : Int → List Int) (xs : List (List Int × Addr × Value)) (u1 u2 u3 : Option Value), s' = { s with heap := h, toks := tk } ∧ Fr g0 L h (lk [("one", u3), ("b", u2), ("a", u1), ("tops", some (.ref D)), ("graph", some (.ref gr)), ("left", some (.ref lf)), ("names", some (.ref lm)), ("script", some (.ref sc))]) ∧
    News g0 L h ((D, oD) :: (own L ls la lm x t n nm_ ys zs o1 o2 o3 o4 #[] ++ (K ++ H))) ∧ Fixed L sc ls la lm gr many tm ys zs ab o1 o2 o3 ∧ (∃ u, o4.data = .cell u) ∧ 0 ≤ x ∧ x < 2147483647 ∧ Gr prog w H gr ns sb pb ∧ TreeB many ab ns sb pb ∧ (∀ p ∈ K ++ H, p.1 ∉ D :: ownA L ls la lm) ∧ D ∉ ownA L ls la lm ∧ (∀ p ∈ H, p.1 ∉ K.map (·.1)) ∧
    IsDictH prog w oD xs ∧ KeyTups K xs ∧ (∀ a b, 0 ≤ a → a < many → 0 ≤ b → b < many → ∃ t tk, valueAt (kvsOf xs) [a, b] = some (.int t tk) ∧ IsTop ab a b t)
structure TopsIn (prog : Program) (w : World) (H K : List (Addr × Obj)) (oD o4 : Obj) (xs : List (List Int × Addr × Value)) (as : List Addr) (len : Nat) (many : Int) (ab : Int → Int) (fin : Int → Int → Prop) : Prop where
  d : IsDictH prog w oD xs
  k : KeyTups K xs
  c : ∃ u, o4.data = .cell u
  off : ∀ p ∈ K, p.1 ∉ as
  hk : ∀ p ∈ H, p.1 ∉ K.map (·.1)
  len : xs.length ≤ len
  val : ∀ a b : Int, 0 ≤ a → 0 ≤ b → b < many → fin a b → ∃ t tk, valueAt (kvsOf xs) [a, b] = some (.int t tk) ∧ IsTop ab a b t
theorem law_5 {w : World} {p : Program} {loose : List Str} {mean : ExcName → Option Value} {mg mb : Str → Option Value} {base g0 : Heap} {L sc : Addr} {s : Shared} {s₀ : Shared} {A₀ : Around} {dp un : Nat} {gd : Option (List Code)}
    {nm1 qual : Str} {prms : Arguments} {body : List Stmt} {scope : Scope} {dV kV doc pm cdv' ct oc : Value} {an od : Option Addr} {osl : Array (Option Value)}
    (hb : (hd.heap_39 w.params).lookup 866 = some ⟨oc, od, .func (fnOf nm1 qual prms body scope dV kV doc pm an cdv' ct), osl⟩)
    (B : Below A₀ base [] g0) (X : (hd.heap_39 w.params).In g0) (T : Top p loose mean mg mb g0) (S : Sys g0) (h4 : Law4 PySem.Challenge.rw_fq0029_01.row.prog w g0 L sc s₀ s) (hdp : dp + 100 < recursionLimit) (hun : un + 1000 < cLine) :
    wpAny (model PySem.Challenge.rw_fq0029_01.row.prog w) (ktrTop dp un gd qual scope L 866 cdv' [("other", L + 1 + 1 + 1 + 1), ("above", L + 1 + 1 + 1), ("many", L + 1 + 1), ("s", L + 1)] []) (execs ((body.drop 7).take 2) (envX qual scope L 866 cdv' [("other", L + 1 + 1 + 1 + 1), ("above", L + 1 + 1 + 1), ("many", L + 1 + 1), ("s", L + 1)])) (fun f s' => f = .next ∧ Stop (Law5 PySem.Challenge.rw_fq0029_01.row.prog w g0 L sc s₀ s')) Never s := by
  revert X
  k_fill
  intro X
  refine' use_eq hb ?hh ?_
  case hh => k_is
  intro e
  cases e
  clear hb
  obtain ⟨h, tk, ls, la, lm, gr, lf, x, t, tm, n, nm_, ys, zs, many, ab, o1, o2, o3, o4, H, ns, sb, pb, u1, u2, rfl, F, N, hfix, c4, hx0, hx1, hG, hTB, hHo⟩ := h4
  have hD := hfix.D
  have f1 := hfix.o1
  have f2 := hfix.o2
  have f3 := hfix.o3
  have f4 := hfix.e1
  have f5 := hfix.e2
  have f6 := hfix.e3
  have c1 := hfix.c1
  have c2 := hfix.c2
  have c3 := hfix.c3
  have m0 := hD.m0
  have m1 := hD.m1
  have hm100 : many ≤ 100 := by omega
  have hab : ∀ k, 0 < k → k < many → 0 ≤ ab k ∧ ab k < k ∧ ∃ t, (Value.none :: ys).toArray[k.toNat]? = some (.int (ab k) t) := fun k k0 k1 => by
    have := hD.up k k0 k1
    exact ⟨this.1, this.2, hD.yv k k0 k1⟩
  dsimp only [List.cons_append, List.nil_append] at N
  show wpAny _ _ (execs [_, _] _) _ _ _
  k_steps
  rename IsRange _ _ _ _ _ _ _ _ => hR1
  rename Fr _ _ _ _ => F2
  rename News _ _ _ _ => N2
  rename_i D hx1' oDn hb0 loD hs0 hi0 lD hh2 F2' N2' h3 tk3 t3 u3 v3 kk3
  clear F2' N2' kk3
  dsimp only at hR1 ⊢
  have hHD : ∀ p ∈ H, p.1 ≠ D := fun p hp => allLt_ne lD.2.2.2.2.2.2.2.2 p hp
  have ho4 : ∀ p ∈ H, p.1 ≠ L + 1 + 1 + 1 + 1 := fun p hp e => hHo p hp (by simp [e])
  refine forRangeG F2 N2 hR1 (small_one (by decide) (by decide) (by omega) (by omega)) (rangeSize_nat _ _) rfl (by rfl) (by rfl)
    (fun i m₁ n₁ => ∃ (oD o4 : Obj) (K : List (Addr × Obj)) (xs : List (List Int × Addr × Value)) (ua ub uo : Option Value), m₁ = lk [("one", uo), ("b", ub), ("a", ua), ("tops", some (.ref D)), ("graph", some (.ref gr)), ("left", some (.ref lf)), ("names", some (.ref lm)), ("script", some (.ref sc))] ∧
      n₁ = (D, oD) :: (lm, W.listOf zs.toArray nm_) :: (la, W.listOf (Value.none :: ys).toArray 0) :: (ls, W.listOf #[Value.int x t] n) :: (L + 1 + 1 + 1 + 1, o4) :: (L + 1 + 1 + 1, o3) :: (L + 1 + 1, o2) :: (L + 1, o1) :: (613, tabObj #[]) :: (K ++ H) ∧
      TopsIn PySem.Challenge.rw_fq0029_01.row.prog w H K oD o4 xs (D :: ownA L ls la lm) (i * 9) many ab (fun a _ => a < i))
    ⟨oDn, o4, [], [], u1, u2, none, by walk_at "SAME", rfl, ⟨isDictH_nil hi0, (fun x hx => nomatch hx), ⟨_, c4⟩, (fun p hp => nomatch hp), (fun p hp hm => nomatch hm), Nat.zero_le _, (fun a b h1 h2 h3 h4 => by omega)⟩⟩ ?_ ?_
  · clear F2 N2 hR1
    rintro I i ti m₁ n₁ h tk io hI hi ⟨oD, o4, K, xs, ua, ub, uo, rfl, rfl, hTI⟩ hn1 F3 N3
    rw [lk_set] at F3
    replace F3 : Fr g0 L h (lk _) := F3
    replace N3 : News g0 L h _ := N3
    k_lt hI
    obtain ⟨uc, c4⟩ := hTI.c
    have hnH : ∀ p ∈ H, p.1 ≠ I := fun p hp => hn1 p (by simp [hp])
    k_steps
    rename IsRange _ _ _ _ _ _ _ _ => hR2
    rename Fr _ _ _ _ => F4
    rename News _ _ _ _ => N4
    dsimp only at hR2 ⊢
    refine forRangeG F4 N4 hR2 (small_one (by decide) (by decide) (by omega) (by omega)) (rangeSize_nat _ _) rfl (by rfl) (by rfl)
      (fun j m₁ n₁ => ∃ (oD o4 : Obj) (K : List (Addr × Obj)) (xs : List (List Int × Addr × Value)) (ub uo : Option Value), m₁ = lk [("one", uo), ("b", ub), ("a", some (.int (i : Int) ti)), ("tops", some (.ref D)), ("graph", some (.ref gr)), ("left", some (.ref lf)), ("names", some (.ref lm)), ("script", some (.ref sc))] ∧
        n₁ = (I, io) :: (D, oD) :: (lm, W.listOf zs.toArray nm_) :: (la, W.listOf (Value.none :: ys).toArray 0) :: (ls, W.listOf #[Value.int x t] n) :: (L + 1 + 1 + 1 + 1, o4) :: (L + 1 + 1 + 1, o3) :: (L + 1 + 1, o2) :: (L + 1, o1) :: (613, tabObj #[]) :: (K ++ H) ∧
        TopsIn PySem.Challenge.rw_fq0029_01.row.prog w H K oD o4 xs (I :: D :: ownA L ls la lm) (i * 9 + j) many ab (fun a b => a < i ∨ (a = i ∧ b < j)))
      ⟨oD, o4, K, xs, ub, uo, by walk_at "SAME", rfl, ⟨hTI.d, hTI.k, hTI.c, (fun p hp hm => ?_), hTI.hk, hTI.len, (fun a b h1 h2 h3 h4 => hTI.val a b h1 h2 h3 (by omega))⟩⟩ ?_ ?_
    · rcases List.mem_cons.mp hm with e | hm
      · exact hn1 p (by simp [hp]) e
      · exact hTI.off p hp hm
    · clear F4 N4 hR2 hTI hn1
      rintro I2 j tj m₁ n₁ h tk io2 hI2 hj ⟨oD, o4, K, xs, ub, uo, rfl, rfl, hTI⟩ hn2 F5 N5
      rw [lk_set] at F5
      replace F5 : Fr g0 L h (lk _) := F5
      replace N5 : News g0 L h _ := N5
      k_lt hI2
      obtain ⟨uc, c4⟩ := hTI.c
      have hia : (i : Int) < many := by omega
      have hja : (j : Int) < many := by omega
      have hR4 : ∀ p ∈ K ++ H, p.1 ≠ L + 1 + 1 + 1 + 1 := fun p hp e => by
        rcases List.mem_append.mp hp with hp | hp
        · exact hTI.off p hp (by simp [e])
        · exact ho4 p hp e
      have hRD : ∀ p ∈ K ++ H, p.1 ≠ D := fun p hp e => by
        rcases List.mem_append.mp hp with hp | hp
        · exact hTI.off p hp (by simp [e])
        · exact hHD p hp e
      k_steps
      rename Fr _ _ _ _ => F6
      rename News _ _ _ _ => N6
      rename_i D1 vs1 l1 n1 hA tkA hI1 hW1 ll1 D2 vs2 l2 n2 hB tkB hI2' hW2 ll2 Dt hC llt hDD hEE hFF oc4 hd4
      obtain ⟨y0, t0, hyt⟩ := ways_meet hD.toTree (by omega) hia (by omega) hja hW1 hW2
      have htop := top_of_ways hD.toTree (by omega) hia hW1 hW2 hyt
      have hl1 : l1.length ≤ 100 := by have := way_len hD.toTree hW1 hia (by omega); omega
      have hl2 : l2.length ≤ 100 := by have := way_len hD.toTree hW2 hja (by omega); omega
      have hl12 : (l1.filter (fun u => decide (u ∈ l2))).length ≤ 100 := Nat.le_trans (List.length_filter_le _ _) hl1
      have hTd := hTI.d
      have hTk := hTI.k
      have hxs : xs.length ≤ 100 := by have := hTI.len; omega
      unfold Stop
      refine src_my rfl F6 N6 (ax := D1) (its := vs1.toArray) (k := n1) (by k_mem) (by rw [List.size_toArray, hI1.length, sizeLine_eq]; omega) fun s9 hs9 => rest_filterL (p := fun u => decide (u ∈ l2)) hI1 (.inr ⟨_, by k_mem, rfl, _, rfl⟩) ?_ ?_
      · rintro k t I3 oI C oC Dc m₂ h tk ys9 E' hk hC hx3 F7 N7 off7
        k_steps
      · intro ys9 hys9 D5 h5 tk5 F8 N8 off5
        simp only [PyProof.Rows.LCg.Off1, and_true] at off5
        k_steps
        rename Fr _ _ _ _ => F9
        rename News _ _ _ _ => N9
        rename_i tz Dk hX lk_ hY tkY oD2 xs2 hD2 hK2 hV2
        obtain ⟨g9, rfl⟩ := hs9
        have hll : @LT.lt Nat _ I2 Dk ∧ @LT.lt Nat _ I Dk ∧ @LT.lt Nat _ D Dk ∧ @LT.lt Nat _ lm Dk ∧ @LT.lt Nat _ la Dk ∧ @LT.lt Nat _ ls Dk ∧ @LT.lt Nat _ (L + 1 + 1 + 1 + 1) Dk ∧ @LT.lt Nat _ (L + 1 + 1 + 1) Dk ∧ @LT.lt Nat _ (L + 1 + 1) Dk ∧ @LT.lt Nat _ (L + 1) Dk ∧ @LT.lt Nat _ 613 Dk ∧ AllLt Dk (K ++ H) := lk_.2.2.2.2
        have hkh := allLt_ne hll.2.2.2.2.2.2.2.2.2.2.2
        refine TurnEnd.next F9 (news_sub (l' := (I2, io2) :: (I, io) :: (D, oD2) :: (lm, W.listOf zs.toArray nm_) :: (la, W.listOf (Value.none :: ys).toArray 0) :: (ls, W.listOf #[Value.int x t] n) :: (L + 1 + 1 + 1 + 1, oc4) :: (L + 1 + 1 + 1, o3) :: (L + 1 + 1, o2) :: (L + 1, o1) :: (613, tabObj #[]) :: (((Dk, tup2 (i : Int) ti (j : Int) tj) :: K) ++ H)) N9 (fun q hq => ?_)) ⟨fun p hp => ?_, oD2, oc4, (Dk, tup2 (i : Int) ti (j : Int) tj) :: K, xs2, some (.int (j : Int) tj), some (.ref D1), by walk_at "SAME", rfl, ⟨hD2, hK2, ⟨_, hd4⟩, fun p hp hm => ?_, fun p hp hm => ?_, ?_, fun a b h1 h2 h3 h4 => ?_⟩⟩
        · simp only [List.cons_append, List.mem_cons, List.mem_append] at hq ⊢
          rcases hq with rfl | rfl | rfl | rfl | rfl | rfl | rfl | rfl | rfl | rfl | rfl | rfl | hq <;> simp_all
        · simp only [List.cons_append, List.mem_cons, List.mem_append] at hp
          rcases hp with rfl | rfl | rfl | rfl | rfl | rfl | rfl | rfl | rfl | rfl | rfl | hp
          · exact Nat.ne_of_lt hI2.1
          · exact Nat.ne_of_lt hI2.2.1
          · exact Nat.ne_of_lt hI2.2.2.1
          · exact Nat.ne_of_lt hI2.2.2.2.1
          · exact Nat.ne_of_lt hI2.2.2.2.2.1
          · exact Nat.ne_of_lt hI2.2.2.2.2.2.1
          · exact Nat.ne_of_lt hI2.2.2.2.2.2.2.1
          · exact Nat.ne_of_lt hI2.2.2.2.2.2.2.2.1
          · exact Nat.ne_of_lt hI2.2.2.2.2.2.2.2.2.1
          · exact Nat.ne_of_lt hI2.2.2.2.2.2.2.2.2.2.1
          · exact Nat.ne_of_gt hll.1
          · exact hn2 p (by rcases hp with hp | hp <;> simp [hp])
        · rcases List.mem_cons.mp hp with rfl | hp
          · simp only [List.mem_cons, List.not_mem_nil, or_false] at hm
            rcases hm with e | e | e | e | e | e | e | e | e | e
            · exact absurd e (Nat.ne_of_gt hll.2.1)
            · exact absurd e (Nat.ne_of_gt hll.2.2.1)
            · exact absurd e (Nat.ne_of_gt hll.2.2.2.1)
            · exact absurd e (Nat.ne_of_gt hll.2.2.2.2.1)
            · exact absurd e (Nat.ne_of_gt hll.2.2.2.2.2.1)
            · exact absurd e (Nat.ne_of_gt hll.2.2.2.2.2.2.1)
            · exact absurd e (Nat.ne_of_gt hll.2.2.2.2.2.2.2.1)
            · exact absurd e (Nat.ne_of_gt hll.2.2.2.2.2.2.2.2.1)
            · exact absurd e (Nat.ne_of_gt hll.2.2.2.2.2.2.2.2.2.1)
            · exact absurd e (Nat.ne_of_gt hll.2.2.2.2.2.2.2.2.2.2.1)
          · exact hTI.off p hp hm
        · rw [List.map_cons] at hm
          rcases List.mem_cons.mp hm with e | hm
          · exact hkh p (List.mem_append_right _ hp) e
          · exact hTI.hk p hp hm
        · have q1 := congrArg List.length hV2
          have q2 := len_stored (l := kvsOf xs) (k := [(i : Int), (j : Int)]) (v := Value.int t0 tz)
          have q3 := hTI.len
          unfold kvsOf at q1 q2
          rw [List.length_map] at q1
          rw [List.length_map] at q2
          omega
        · by_cases e : a = (i : Int) ∧ b = (j : Int)
          · obtain ⟨rfl, rfl⟩ := e
            exact ⟨t0, tz, by rw [hV2]; exact va_hitK, htop⟩
          · obtain ⟨t', tk', e1, e2⟩ := hTI.val a b h1 h2 h3 (by omega)
            refine ⟨t', tk', ?_, e2⟩
            rw [hV2]
            refine va_otherK (fun q => e ?_) e1
            have q1 := List.cons.inj q
            exact ⟨q1.1, (List.cons.inj q1.2).1⟩
    · rintro m₁ n₁ h tk ⟨oD, o4, K, xs, ub, uo, rfl, rfl, hTI⟩ F5 N5
      replace F5 : Fr g0 L h (lk _) := F5
      replace N5 : News g0 L h _ := N5
      dsimp only
      k_steps
      refine TurnEnd.next (own := [(I, io)]) (news' := (D, oD) :: (lm, W.listOf zs.toArray nm_) :: (la, W.listOf (Value.none :: ys).toArray 0) :: (ls, W.listOf #[Value.int x t] n) :: (L + 1 + 1 + 1 + 1, o4) :: (L + 1 + 1 + 1, o3) :: (L + 1 + 1, o2) :: (L + 1, o1) :: (613, tabObj #[]) :: (K ++ H)) F5 N5 ⟨fun p hp => ?_, oD, o4, K, xs, some (.int (i : Int) ti), ub, uo, by walk_at "SAME", rfl, ⟨hTI.d, hTI.k, hTI.c, fun p hp hm => hTI.off p hp (.tail _ hm), hTI.hk, ?_, fun a b h1 h2 h3 h4 => hTI.val a b h1 h2 h3 ?_⟩⟩
      · simp only [List.mem_cons, List.mem_append] at hp
        rcases hp with rfl | rfl | rfl | rfl | rfl | rfl | rfl | rfl | rfl | hp | hp
        · exact Nat.ne_of_lt hI.1
        · exact Nat.ne_of_lt hI.2.1
        · exact Nat.ne_of_lt hI.2.2.1
        · exact Nat.ne_of_lt hI.2.2.2.1
        · exact Nat.ne_of_lt hI.2.2.2.2.1
        · exact Nat.ne_of_lt hI.2.2.2.2.2.1
        · exact Nat.ne_of_lt hI.2.2.2.2.2.2.1
        · exact Nat.ne_of_lt hI.2.2.2.2.2.2.2.1
        · exact Nat.ne_of_lt hI.2.2.2.2.2.2.2.2.1
        · exact fun e => hTI.off p hp (by rw [e]; exact .head _)
        · exact hnH p hp
      · have := hTI.len; omega
      · omega
  · rintro m₁ n₁ h tk ⟨oD, o4, K, xs, ua, ub, uo, rfl, rfl, hTI⟩ F3 N3
    replace F3 : Fr g0 L h (lk _) := F3
    replace N3 : News g0 L h _ := N3
    dsimp only
    k_steps
    refine ⟨_, _, ls, la, lm, gr, lf, D, x, t, tm, n, nm_, ys, zs, many, ab, o1, o2, o3, o4, oD, H, K, ns, sb, pb, xs, ua, ub, uo, rfl, F3, N3, hfix, hTI.c, hx0, hx1, hG, hTB, fun p hp hm => ?_, fun hm => ?_, hTI.hk, hTI.d, hTI.k, fun a b a0 a1 b0 b1 => hTI.val a b a0 b0 b1 (by omega)⟩
    · rcases List.mem_append.mp hp with hp | hp
      · exact hTI.off p hp hm
      · rcases List.mem_cons.mp hm with e | hm
        · exact hHD p hp e
        · exact hHo p hp hm
    · simp only [List.mem_cons, List.not_mem_nil, or_false] at hm
      rcases hm with e | e | e | e | e | e | e | e
      · exact absurd e (Nat.ne_of_gt lD.1)
      · exact absurd e (Nat.ne_of_gt lD.2.1)
      · exact absurd e (Nat.ne_of_gt lD.2.2.1)
      · exact absurd e (Nat.ne_of_gt lD.2.2.2.1)
      · exact absurd e (Nat.ne_of_gt lD.2.2.2.2.1)
      · exact absurd e (Nat.ne_of_gt lD.2.2.2.2.2.1)
      · exact absurd e (Nat.ne_of_gt lD.2.2.2.2.2.2.1)
      · exact absurd e (Nat.ne_of_gt lD.2.2.2.2.2.2.2.1)
end
section
local macro_rules | `(tactic| walk_at "nothing") => `(tactic| fail "nothing")
local macro_rules | `(tactic| walk_at "nothing") => `(tactic| fail "nothing")
local macro_rules | `(tactic| walk_at "nothing") => `(tactic| fail "nothing")
local macro_rules | `(tactic| walk_at "nothing") => `(tactic| fail "nothing")
local macro_rules | `(tactic| walk_at "nothing") => `(tactic| fail "nothing")
local macro_rules | `(tactic| walk_at "nothing") => `(tactic| fail "nothing")
local macro_rules | `(tactic| walk_at "nothing") => `(tactic| fail "nothing")
local macro_rules | `(tactic| walk_at "call ref") => `(tactic| ((first
  | (with_reducible show wpAny _ _ (call (Value.ref 676) _) _ _ _)
  | (with_reducible show wpAny _ _ (call (Value.ref 704) _) _ _ _)
  | (with_reducible show wpAny _ _ (call (Value.ref 596) _) _ _ _)
  | (with_reducible show wpAny _ _ (call (Value.ref 624) _) _ _ _)
  | (with_reducible show wpAny _ _ (call (Value.ref 610) _) _ _ _)); refine stopI ?_))
/-- after the graph without directions is made -/
def Law6 (prog : Program) (w : World) (g0 : Heap) (L sc : Addr) (s s' : Shared) : Prop :=
  ∃ (h : Heap) (tk : Nat) (ls la lm gr lf D fa : Addr) (x : Int) (t tm : Tok) (n nm_ : Nat) (ys zs : List Value) (many : Int) (ab : Int → Int) (o1 o2 o3 o4 oD : Obj) (H K H2 : List (Addr × Obj)) (ns : List Int) (sb pb : Int → List Int) (xs : List (List Int × Addr × Value)) (nd2 ad2 : Addr) (u1 u2 u3 : Option Value), s' = { s with heap := h, toks := tk } ∧ Fr g0 L h (lk [("far", some (.ref fa)), ("one", u3), ("b", u2), ("a", u1), ("tops", some (.ref D)), ("graph", some (.ref gr)), ("left", some (.ref lf)), ("names", some (.ref lm)), ("script", some (.ref sc))]) ∧
    News g0 L h ((D, oD) :: (own L ls la lm x t n nm_ ys zs o1 o2 o3 o4 #[] ++ ((K ++ H2) ++ H))) ∧ Fixed L sc ls la lm gr many tm ys zs ab o1 o2 o3 ∧ (∃ u, o4.data = .cell u) ∧ 0 ≤ x ∧ x < 2147483647 ∧ Gr prog w H gr ns sb pb ∧ TreeB many ab ns sb pb ∧ (∀ p ∈ (K ++ H2) ++ H, p.1 ∉ D :: ownA L ls la lm) ∧ D ∉ ownA L ls la lm ∧ (∀ p ∈ H, p.1 ∉ (K ++ H2).map (·.1)) ∧
    IsDictH prog w oD xs ∧ KeyTups K xs ∧ (∀ a b, 0 ≤ a → a < many → 0 ≤ b → b < many → ∃ t tk, valueAt (kvsOf xs) [a, b] = some (.int t tk) ∧ IsTop ab a b t) ∧ UGr prog w H2 fa nd2 ad2 ns (und sb ns)
theorem law_6 {w : World} {p : Program} {loose : List Str} {mean : ExcName → Option Value} {mg mb : Str → Option Value} {base g0 : Heap} {L sc : Addr} {s : Shared} {s₀ : Shared} {A₀ : Around} {dp un : Nat} {gd : Option (List Code)}
    {nm1 qual : Str} {prms : Arguments} {body : List Stmt} {scope : Scope} {dV kV doc pm cdv' ct oc : Value} {an od : Option Addr} {osl : Array (Option Value)}
    (hb : (hd.heap_39 w.params).lookup 866 = some ⟨oc, od, .func (fnOf nm1 qual prms body scope dV kV doc pm an cdv' ct), osl⟩)
    (B : Below A₀ base [] g0) (X : (hd.heap_39 w.params).In g0) (T : Top p loose mean mg mb g0) (S : Sys g0) (h5 : Law5 PySem.Challenge.rw_fq0029_01.row.prog w g0 L sc s₀ s) (hdp : dp + 100 < recursionLimit) (hun : un + 1000 < cLine) :
    wpAny (model PySem.Challenge.rw_fq0029_01.row.prog w) (ktrTop dp un gd qual scope L 866 cdv' [("other", L + 1 + 1 + 1 + 1), ("above", L + 1 + 1 + 1), ("many", L + 1 + 1), ("s", L + 1)] []) (execs ((body.drop 9).take 1) (envX qual scope L 866 cdv' [("other", L + 1 + 1 + 1 + 1), ("above", L + 1 + 1 + 1), ("many", L + 1 + 1), ("s", L + 1)])) (fun f s' => f = .next ∧ Stop (Law6 PySem.Challenge.rw_fq0029_01.row.prog w g0 L sc s₀ s')) Never s := by
  revert X
  k_fill
  intro X
  refine' use_eq hb ?hh ?_
  case hh => k_is
  intro e
  cases e
  clear hb
  obtain ⟨h, tk, ls, la, lm, gr, lf, D, x, t, tm, n, nm_, ys, zs, many, ab, o1, o2, o3, o4, oD, H, K, ns, sb, pb, xs, u1, u2, u3, rfl, F, N, hfix, c4, hx0, hx1, hG, hTB, hoff, hDo, hHK, hDH, hKT, hval⟩ := h5
  have hD := hfix.D
  show wpAny _ _ (execs [_] _) _ _ _
  k_steps
  show wpAny _ (ktrTop _ _ _ _ _ _ _ _ _ _) (call (.ref 596) [.ref gr]) _ _ _
  rename Fr _ _ _ _ => F5
  rename News _ _ _ _ => N5
  have NH : News g0 L _ H := news_sub N5 fun q hq => .tail _ (List.mem_append_right (own L ls la lm x t n nm_ ys zs o1 o2 o3 o4 #[]) (List.mem_append_right _ hq))
  have hTt := hD.toTree
  refine und_spec B F5 X T rfl S (hG.diG NH S) (hTB.closedS hTt) hTB.nd (by have := hTB.nlen hTt; omega) (und_ok hTt hTB) (by walk_at "ROOM") (by walk_at "UNITS") fun fa nd2 ad2 H2 h6 tk6 kb6 hH2 hU => ?_
  have F6 := fr_onto F5 kb6
  have N6 := news_onto N5 kb6
  have NH2 : News g0 L h6 H2 := fun q hq => by
    have z := hH2 q hq
    refine ⟨z.1, fun e => ?_, ?_⟩
    · obtain ⟨oL, _, _, hL, _⟩ := F5.ns
      rw [e, hL] at z
      cases z.2
    · cases e : g0.get? q.1 with
      | none => rfl
      | some o => rw [F5.keep _ _ e] at z; cases z.2
  have hfresh : ∀ p ∈ H2, ∀ q ∈ ((D, oD) :: (own L ls la lm x t n nm_ ys zs o1 o2 o3 o4 #[] ++ (K ++ H)) : List (Addr × Obj)), p.1 ≠ q.1 := fun p hp q hq e => by
    have z := hH2 p hp
    have z2 := (N5 q hq).1
    rw [← e, z.2] at z2
    cases z2
  have N7 : News g0 L h6 ((D, oD) :: (own L ls la lm x t n nm_ ys zs o1 o2 o3 o4 #[] ++ ((K ++ H2) ++ H))) := fun q hq => by
    rcases List.mem_cons.mp hq with rfl | hq
    · exact N6 _ (.head _)
    rcases List.mem_append.mp hq with hq | hq
    · exact N6 q (.tail _ (List.mem_append_left (K ++ H) hq))
    rcases List.mem_append.mp hq with hq | hq
    · rcases List.mem_append.mp hq with hq | hq
      · exact N6 q (.tail _ (List.mem_append_right (own L ls la lm x t n nm_ ys zs o1 o2 o3 o4 #[]) (List.mem_append_left _ hq)))
      · exact NH2 q hq
    · exact N6 q (.tail _ (List.mem_append_right (own L ls la lm x t n nm_ ys zs o1 o2 o3 o4 #[]) (List.mem_append_right _ hq)))
  clear N6 NH2 N5 NH F5 hH2 kb6
  k_steps
  rename Fr _ _ _ _ => F9
  rename News _ _ _ _ => N9
  refine ⟨_, _, ls, la, lm, gr, lf, D, fa, x, t, tm, n, nm_, ys, zs, many, ab, o1, o2, o3, o4, oD, H, K, H2, ns, sb, pb, xs, nd2, ad2, u1, u2, u3, rfl, F9, N9, hfix, c4, hx0, hx1, hG, hTB, fun p hp hm => ?_, hDo, fun p hp hm => ?_, hDH, hKT, hval, hU⟩
  · rcases List.mem_append.mp hp with hp | hp
    · rcases List.mem_append.mp hp with hp | hp
      · exact hoff p (List.mem_append_left _ hp) hm
      · have key : ∀ a, a ∈ D :: ownA L ls la lm → ∃ q ∈ ((D, oD) :: (own L ls la lm x t n nm_ ys zs o1 o2 o3 o4 #[] ++ (K ++ H)) : List (Addr × Obj)), q.1 = a := fun a ha => by
          rcases List.mem_cons.mp ha with rfl | ha
          · exact ⟨_, .head _, rfl⟩
          · have ha : a ∈ (own L ls la lm x t n nm_ ys zs o1 o2 o3 o4 #[]).map (·.1) := ha
            obtain ⟨q, hq, e⟩ := List.mem_map.mp ha
            exact ⟨q, .tail _ (List.mem_append_left _ hq), e⟩
        obtain ⟨q, hq, e⟩ := key _ hm
        exact hfresh p hp q hq e.symm
    · exact hoff p (List.mem_append_right _ hp) hm
  · rw [List.map_append] at hm
    rcases List.mem_append.mp hm with hm | hm
    · exact hHK p hp hm
    · obtain ⟨q, hq, e⟩ := List.mem_map.mp hm
      exact hfresh q hq p (.tail _ (List.mem_append_right (own L ls la lm x t n nm_ ys zs o1 o2 o3 o4 #[]) (List.mem_append_right _ hp))) e
end
local macro_rules | `(tactic| walk_at "call ref") => `(tactic| ((first | (with_reducible show wpAny _ _ (call (Value.ref 831) _) _ _ _) | (with_reducible show wpAny _ _ (call (Value.ref 676) _) _ _ _) | (with_reducible show wpAny _ _ (call (Value.ref 704) _) _ _ _) | (with_reducible show wpAny _ _ (call (Value.ref 596) _) _ _ _) | (with_reducible show wpAny _ _ (call (Value.ref 624) _) _ _ _) | (with_reducible show wpAny _ _ (call (Value.ref 610) _) _ _ _)); refine stopI ?_))
local macro_rules | `(tactic| walk_at "subscriptTail") => `(tactic| (k_here; (with_reducible show wpAny _ _ (subscriptTail _ _ (Value.ref _) (Value.int _ _)) _ _ _); k_dflt (refine' item_names ?D ?hl ?h0 ?h1 ?_ ?hs ?hg; (case D => with_reducible assumption); (case hl => walk_at "LIST"); (case h0 => first | (with_reducible assumption) | omega); (case h1 => first | (with_reducible assumption) | omega); (case hs => with_unfolding_all rfl); (case hg => intro _; with_unfolding_all rfl)); intro tn'; (try dsimp only)))
/-- the end of a turn, where generators may have run -/
def TurnEndT (h₀ : Heap) (L : Addr) (J : (Str → Option Value) → List (Addr × Obj) → Prop) (own : List (Addr × Obj)) (Q : Flow → Shared → Prop) (s : Shared) (f : Flow) (s₃ : Shared) : Prop :=
  match f with
  | .next | .cont => Stop (∃ h' tk gg m' news', s₃ = { s with heap := h', toks := tk, gens := gg } ∧ AllBare gg ∧ Fr h₀ L h' m' ∧ News h₀ L h' (own ++ news') ∧ J m' news')
  | .brk => Q .next s₃
  | .ret v => Q (.ret v) s₃
section
variable {prog : Program} {w : World} {A : Around} {E : Value → Shared → Prop} {s : Shared} {env : Env}
theorem forRangeT {x : Str} {px : Pos} {body : List Stmt} {Q : Flow → Shared → Prop} {r : Addr} {b : Int} {t u v : Tok} {n : Nat} {h₀ : Heap} {m : Str → Option Value} {news : List (Addr × Obj)}
    (F : Fr h₀ env.locals s.heap m) (N : News h₀ env.locals s.heap news) (hr : IsRange s.heap r 0 b 1 t u v) (hsm : Builtin.Range.small 0 b 1 = true) (hn : Builtin.Range.rangeSize 0 b 1 = ((n : Nat) : Int)) (hh : A.handled = none)
    (hx : env.kindOf x = some .local) (hp : (env.scope.kind == .class || (env.scope.kind == .module && env.locals != env.globals)) = false)
    (J : Nat → (Str → Option Value) → List (Addr × Obj) → Prop) (h0 : J 0 m news) (hgb : AllBare s.gens)
    (turn : ∀ I i t m₁ news₁ h tk gg io, AllBare gg → (∀ p ∈ news, p.1 < I) → i < n → J i m₁ news₁ → (∀ p ∈ news₁, p.1 ≠ I) → (∀ vs (x : Str) q, io.data = .fields vs → vs[1]? ≠ some (.str x q)) →
      Fr h₀ env.locals h (fun y => if y = x then some (.int (i : Int) t) else m₁ y) → News h₀ env.locals h ((I, io) :: news₁) →
      wpAny (model prog w) A (execs body env) (TurnEndT h₀ env.locals (fun m' n' => (∀ p ∈ n', p.1 ≠ I) ∧ J (i + 1) m' n') [(I, io)] Q { s with heap := h, toks := tk, gens := gg }) Bot { s with heap := h, toks := tk, gens := gg })
    (done : ∀ m₁ news₁ h tk gg, AllBare gg → J n m₁ news₁ → Fr h₀ env.locals h m₁ → News h₀ env.locals h news₁ → Q .next { s with heap := h, toks := tk, gens := gg }) :
    wpAny (model prog w) A (pyIter (.ref r)) (fun it s₂ => ForAt prog w A env (.Name x px) body Q it s₂) E s := by
  refine wpAny_pyIter_range hr hsm ?_
  generalize hI : s.heap.objs.size = I
  have hnl : ∀ p ∈ news, p.1 < I := fun p hp => hI ▸ Heap.lt_size (N p hp).1
  have hIL : I ≠ env.locals := hI ▸ Nat.ne_of_gt F.ns.lt
  have hI0 : h₀.get? I = none := hI ▸ fr_none F (Nat.le_refl _)
  refine ⟨n + 1, fun k s' => ∃ h' tk gg m' news' i, s' = { s with heap := h', toks := tk, gens := gg } ∧ AllBare gg ∧ IsRangeIter h' I (i : Nat) ((n : Int) - (i : Nat)) 1 ∧ Fr h₀ env.locals h' m' ∧ News h₀ env.locals h' news' ∧ (∀ p ∈ news', p.1 ≠ I) ∧ J i m' news' ∧ i ≤ n ∧ k = n + 1 - i,
    ⟨_, s.toks, s.gens, m, news, 0, rfl, hgb, by rw [hn, ← hI]; simpa using Heap.get?_push_size _ rfl, F.push _, (fun p hp => ⟨Heap.get?_push_of_some _ (N p hp).1, (N p hp).2⟩), fun p hp => Nat.ne_of_lt (hnl p hp), h0, Nat.zero_le _, rfl⟩, ?_⟩
  rintro k s' ⟨h', tk, gg, m', news', i, rfl, hgg, hit, F', N', hadr, hJ, hi, rfl⟩
  by_cases hlt : i < n
  · refine wpAny_pyNext_range_item hit (by omega) fun h₁ hit₁ hs₁ => ?_
    have F₁ : Fr h₀ env.locals h₁ m' := F'.change hs₁ hIL hI0
    have N₁ : News h₀ env.locals h₁ news' := fun p hp => ⟨hs₁.extBut _ _ (hadr p hp) (N' p hp).1, (N' p hp).2⟩
    refine wpAny_of_eq (by rfl) ?_
    refine wpAny_assign_Name (wpAny_storeName_local hx F₁.ns (fun h₂ hn₂ hs₂ => ?_) hp)
    have F₂ := F₁.set hn₂ hs₂
    have N₂ := N₁.set hs₂
    obtain ⟨io, hio⟩ : ∃ io, h₁.get? I = some io := ⟨_, hit₁⟩
    have hio₂ : h₂.get? I = some io := (hs₂.2 _ hIL).trans hio
    have hiod : ∀ {h9 : Heap}, h9.get? I = some io → IsRangeIter h9 I ((i + 1 : Nat) : Int) ((n : Int) - ((i + 1 : Nat) : Int)) 1 := fun e => by
      have e2 : h₁.get? I = _ := hit₁
      rw [hio] at e2
      have e3 := Option.some.inj e2
      rw [e3] at e
      have q1 : ((i + 1 : Nat) : Int) = (i : Int) + 1 := by omega
      have q2 : (n : Int) - ((i + 1 : Nat) : Int) = (n : Int) - (i : Int) - 1 := by omega
      rw [q1, show (n : Int) - ((i : Int) + 1) = (n : Int) - (i : Int) - 1 by omega]
      exact e
    have N₃ : News h₀ env.locals h₂ ((I, io) :: news') := fun p hp => by
      rcases List.mem_cons.mp hp with rfl | hp
      · exact ⟨hio₂, hIL, hI0⟩
      · exact N₂ p hp
    have hfld : ∀ vs (x : Str) q, io.data = .fields vs → vs[1]? ≠ some (.str x q) := fun vs x q e => by
      have e2 : h₁.get? I = _ := hit₁
      rw [hio] at e2
      have e3 := Option.some.inj e2
      rw [e3] at e
      cases e
      intro e4
      cases e4
    refine wpAny_mono (turn I i _ m' news' _ _ _ io hgg hnl hlt hJ hadr hfld F₂ N₃) (fun f s₃ h₃ => ?_) fun _ _ e => e
    have fin : (∃ h' tk gg' m' news', s₃ = { s with heap := h', toks := tk, gens := gg' } ∧ AllBare gg' ∧ Fr h₀ env.locals h' m' ∧ News h₀ env.locals h' ([(I, io)] ++ news') ∧ (∀ p ∈ news', p.1 ≠ I) ∧ J (i + 1) m' news') →
        ∃ mm, mm < n + 1 - i ∧ ∃ h' tk gg m' news' i, s₃ = { s with heap := h', toks := tk, gens := gg } ∧ AllBare gg ∧ IsRangeIter h' I (i : Nat) ((n : Int) - (i : Nat)) 1 ∧ Fr h₀ env.locals h' m' ∧ News h₀ env.locals h' news' ∧ (∀ p ∈ news', p.1 ≠ I) ∧ J i m' news' ∧ i ≤ n ∧ mm = n + 1 - i := by
      rintro ⟨h₄, tk₃, gg₃, m₃, news₃, rfl, hg₃, F₃, N₃', had, hJ₃⟩
      exact ⟨n + 1 - (i + 1), by omega, h₄, tk₃, gg₃, m₃, news₃, i + 1, rfl, hg₃, hiod (N₃' _ (.head _)).1, F₃, fun p hp => N₃' p (.tail _ hp), had, hJ₃, hlt, rfl⟩
    cases f with
    | ret v => exact h₃
    | brk => exact h₃
    | cont =>
      obtain ⟨h₃', tk₃, gg₃, m₃, news₃, e₃, hg₃, F₃, N₃', hJ₃⟩ := h₃
      exact fin ⟨h₃', tk₃, gg₃, m₃, news₃, e₃, hg₃, F₃, N₃', hJ₃⟩
    | next =>
      obtain ⟨h₃', tk₃, gg₃, m₃, news₃, e₃, hg₃, F₃, N₃', hJ₃⟩ := h₃
      exact fin ⟨h₃', tk₃, gg₃, m₃, news₃, e₃, hg₃, F₃, N₃', hJ₃⟩
  · have hin : i = n := by omega
    subst hin
    refine wpAny_pyNext_range_end hh hit (by omega) fun h₁ he₁ => ?_
    exact done m' news' h₁ tk gg hgg hJ ⟨F'.ns.extBut he₁ (Ne.symm hIL), fun b o e => he₁ b o (fun q => by rw [q, hI0] at e; cases e) (F'.keep b o e), F'.above⟩ fun p hp => ⟨he₁ _ _ (hadr p hp) (N' p hp).1, (N' p hp).2⟩
end
/-- the table of nested codes, by the base and the ledger's tail -/
def TabZ (g0 : Heap) (W : List (Addr × Obj)) (ps : Array Value) : Prop := ps = #[] ∨ ∃ c2 o vs t, c2 ≠ 613 ∧ ps = #[rawInt 376, rawInt 4, .ref c2] ∧ (g0.get? c2 = some o ∨ (c2, o) ∈ W) ∧ o.data = .fields vs ∧ vs[1]? = some (.str gqual t)
theorem TabZ.ok {g0 h : Heap} {L : Addr} {m : Str → Option Value} {W : List (Addr × Obj)} {ps : Array Value} (x : TabZ g0 W ps) (F : Fr g0 L h m) (N : News g0 L h W) : TabOk h ps := by
  rcases x with rfl | ⟨c2, o, vs, t, h1, h2, h3, h4, h5⟩
  · exact .inl rfl
  · refine .inr ⟨c2, h1, h2, c2, o, vs, t, rfl, ?_, h4, h5⟩
    rcases h3 with h3 | h3
    · exact F.keep _ _ h3
    · exact (N _ h3).1
theorem TabZ.mono {g0 : Heap} {W W' : List (Addr × Obj)} {ps : Array Value} (x : TabZ g0 W ps) (hs : ∀ p ∈ W, p ∈ W') : TabZ g0 W' ps := by
  rcases x with rfl | ⟨c2, o, vs, t, h1, h2, h3, h4, h5⟩
  · exact .inl rfl
  · exact .inr ⟨c2, o, vs, t, h1, h2, h3.imp id (hs _), h4, h5⟩
inductive TabF (ps : Array Value) (W : List (Addr × Obj)) : List (Addr × Obj) → (Array Value → List (Addr × Obj) → List (Addr × Obj)) → Prop
  | here : TabF ps W ((613, tabObj ps) :: W) (fun ps' W' => (613, tabObj ps') :: W')
  | next {p : Addr × Obj} {r : List (Addr × Obj)} {g : Array Value → List (Addr × Obj) → List (Addr × Obj)} : @Ne Nat p.1 613 → TabF ps W r g → TabF ps W (p :: r) (fun ps' W' => p :: g ps' W')
theorem TabF.mem {ps : Array Value} {W news : List (Addr × Obj)} {g : Array Value → List (Addr × Obj) → List (Addr × Obj)} (U : TabF ps W news g) : (613, tabObj ps) ∈ news ∧ ∀ p ∈ W, p ∈ news := by
  induction U with
  | here => exact ⟨.head _, fun p hp => .tail _ hp⟩
  | next _ _ ih => exact ⟨.tail _ ih.1, fun p hp => .tail _ (ih.2 p hp)⟩
theorem TabF.news {ps ps' : Array Value} {W W' news : List (Addr × Obj)} {g : Array Value → List (Addr × Obj) → List (Addr × Obj)} {h₀ h h' : Heap} {L : Addr} (U : TabF ps W news g) (kb : KeepsBut [613] h h') (h613 : h'.get? 613 = some (tabObj ps')) (hW : News h₀ L h' W') :
    News h₀ L h news → News h₀ L h' (g ps' W') := by
  induction U with
  | here =>
    intro N q hq
    rcases List.mem_cons.mp hq with rfl | hq
    · exact ⟨h613, (N _ (.head _)).2⟩
    · exact hW q hq
  | next hne _ ih =>
    intro N q hq
    rcases List.mem_cons.mp hq with rfl | hq
    · exact ⟨kb.keep _ _ (fun hm => hne (List.mem_singleton.mp hm)) (N _ (.head _)).1, (N _ (.head _)).2⟩
    · exact ih (fun q hq => N q (.tail _ hq)) q hq
def NotCode (o : Obj) : Prop := ∀ vs q, o.data = .fields vs → vs[1]? ≠ some (.str gqual q)
/-- lowest_common_ancestor in the tree, by the ledger -/
theorem lca_line {w : World} {p : Program} {loose : List Str} {mean : ExcName → Option Value} {mg mb : Str → Option Value} {dp un : Nat} {gd : Option (List Code)} {cn : Str} {cs : Scope} {a : Addr} {ccd : Value} {cl : List (Str × Addr)} {outer : List Env} {A₀ : Around} {base h₀ : Heap} {L : Addr} {m : Str → Option Value} {s : Shared} {Q E : Value → Shared → Prop} {news V H : List (Addr × Obj)} {g : Array Value → List (Addr × Obj) → List (Addr × Obj)} {ps : Array Value} {gr ls : Addr} {va vb x many : Int} {ta tb t : Tok} {n : Nat} {ns : List Int} {sb pb : Int → List Int} {abv : Int → Int}
    (B : Below A₀ base outer h₀) (F : Fr h₀ L s.heap m) (X : (hd.heap_39 w.params).In h₀) (T : Top p loose mean mg mb h₀) (hk : cs.kind = .function) (S : Sys h₀) (N : News h₀ L s.heap news) (U : TabF ps V news g) (hps : TabZ h₀ V ps) (hG : Gr PySem.Challenge.rw_fq0029_01.row.prog w H gr ns sb pb) (hHW : ∀ p ∈ H, p ∈ V) (h613 : ∀ p ∈ V, p.1 ≠ 613) (hlm : (ls, W.listOf #[Value.int x t] n) ∈ news) (hls : ∀ p ∈ V, p.1 ≠ ls) (hn613 : @Ne Nat ls 613)
    (hTr : Tree many abv) (hTB : TreeB many abv ns sb pb) (a0 : 0 ≤ va) (a1 : va < many) (b0 : 0 ≤ vb) (b1 : vb < many) (hdp : dp + 20 < recursionLimit) (hun : un + 200 < cLine)
    (ret : ∀ t' tk h' tk' ps' V', IsTop abv va vb t' → 0 ≤ t' → t' < many → (∀ p ∈ V, p ∈ V') → TabZ h₀ V' ps' → (∀ p ∈ V', p.1 ≠ 613) → (∀ p ∈ V', p.1 ≠ ls) → (∀ x o, h'.get? x = some o → NotCode o → (∀ p ∈ V, p.1 ≠ x) → ∀ p ∈ V', p.1 ≠ x) → Fr h₀ L h' m → News h₀ L h' (g ps' V') → Q (.int (nm t') tk) { s with heap := h', toks := tk', gens := s.gens.push .finished }) :
    wpAny (model PySem.Challenge.rw_fq0029_01.row.prog w) (ktrTop dp un gd cn cs L a ccd cl outer) (call (.ref 624) [.ref gr, .int (nm va) ta, .int (nm vb) tb]) Q E s := by
  have hm := U.mem
  have NW : News h₀ L s.heap V := fun q hq => N q (hm.2 q hq)
  have NH : News h₀ L s.heap H := fun q hq => NW q (hHW q hq)
  have NT : News h₀ L s.heap [(613, tabObj ps)] := fun q hq => by rw [List.mem_singleton.mp hq]; exact N _ hm.1
  refine lca_ok B F X T hk S NT (hps.ok F NW) (hG.diG NH S) (hTB.closedS hTr) (hTB.closedP hTr) (by have := hTB.nlen hTr; omega) (hTB.acyc hTr) (hTB.inN a0 a1) (hTB.inN b0 b1) hdp hun fun r h' tk' ps' kb hg613 hps' hans => ?_
  have hL613 : @Ne Nat 613 L := (N _ hm.1).2.1
  have F' : Fr h₀ L h' m := fr_kb F kb fun b hb => by rw [List.mem_singleton.mp hb]; exact ⟨(N _ hm.1).2.2, (N _ hm.1).2.1⟩
  have NW' : News h₀ L h' V := fun q hq => ⟨kb.keep _ _ (fun hx => h613 q hq (List.mem_singleton.mp hx)) (NW q hq).1, (NW q hq).2⟩
  rcases hans with ⟨hno, _⟩ | ⟨c, tc, rfl, hlow⟩
  · exact absurd hno (hTB.common hTr a0 a1 b0 b1)
  obtain ⟨t', rfl, htop⟩ := hTB.lowest hTr a0 a1 b0 b1 hlow
  have hrt := htop.range hTr a0 a1
  have hlsh : h'.get? ls = some (W.listOf #[Value.int x t] n) := kb.keep _ _ (fun hx => hn613 (List.mem_singleton.mp hx)) (N _ hlm).1
  rcases hps' with rfl | ⟨c2, h1, h2, c2', o, vs, tt, e1, e2, e3, e4⟩
  · exact ret t' tc h' tk' #[] V htop hrt.1 hrt.2 (fun p hp => hp) (.inl rfl) h613 hls (fun _ _ _ _ h => h) F' (U.news kb hg613 NW' N)
  · cases e1
    cases eg : h₀.get? c2 with
    | some o' =>
      have := F'.keep _ _ eg
      rw [e2] at this
      cases this
      exact ret t' tc h' tk' ps' V htop hrt.1 hrt.2 (fun p hp => hp) (.inr ⟨c2, o, vs, tt, h1, h2, .inl eg, e3, e4⟩) h613 hls (fun _ _ _ _ h => h) F' (U.news kb hg613 NW' N)
    | none =>
      have hcL : c2 ≠ L := by
        rintro rfl
        obtain ⟨oL, es, ep, hoL, hdL, _⟩ := F'.ns
        rw [e2] at hoL
        cases hoL
        rw [e3] at hdL
        cases hdL
      have hcls : c2 ≠ ls := by
        rintro rfl
        rw [e2] at hlsh
        cases hlsh
        cases e3
      have NW2 : News h₀ L h' ((c2, o) :: V) := List.forall_mem_cons.mpr ⟨⟨e2, hcL, eg⟩, NW'⟩
      exact ret t' tc h' tk' ps' ((c2, o) :: V) htop hrt.1 hrt.2 (fun p hp => .tail _ hp) (.inr ⟨c2, o, vs, tt, h1, h2, .inr (.head _), e3, e4⟩) (List.forall_mem_cons.mpr ⟨h1, h613⟩) (List.forall_mem_cons.mpr ⟨hcls, hls⟩) (fun x ox hx hno h => List.forall_mem_cons.mpr ⟨fun e => by
        have e : c2 = x := e
        subst e
        rw [e2] at hx
        cases hx
        exact hno vs tt e3 e4, h⟩) F' (U.news kb hg613 NW2 N)
section
variable {prog : Program} {w : World} {A : Around} {E : Value → Shared → Prop} {s₁ : Shared} {h₀ : Heap} {L : Addr} {m : Str → Option Value} {env : Env}
theorem src_rangeM {elt : Expr} {x : Str} {scope : Scope} {cl : List (Str × Addr)} {Fin : Shared → List Value → List (Addr × Obj) → Prop} {r : Addr} {a b : Int} {t u v : Tok} {n : Nat} {news : List (Addr × Obj)}
    (hh : A.handled = none) (F : Fr h₀ L s₁.heap m) (N : News h₀ L s₁.heap news) (hr : IsRange s₁.heap r a b 1 t u v) (hsm : Builtin.Range.small a b 1 = true) (hn : Builtin.Range.rangeSize a b 1 = ((n : Nat) : Int)) (hsz : n ≤ sizeLine)
    (h : ∀ s₂ : Shared, (∃ g, s₂ = { s₁ with heap := g }) → PyProof.Rows.LCg.CompRest prog w A h₀ L m env elt x scope cl s₂ (fun _ => True) (fun i v => ∃ t, v = .int (a + (i : Int)) t) (Fin s₂) n 0 [] news) :
    PyProof.Rows.LCg.CompSrc prog w A h₀ L m env elt x scope cl Fin (.ref r) s₁ := .inr ⟨r, a, b, t, u, v, n, news, rfl, hh, F, N, hr, hsm, hn, hsz, h⟩
end
theorem three_of {ys : List Value} {P : Int → Prop} (hl : ys.length = 3) (h : ∀ j < 3, ∃ (q : Int) (tq : Tok), ys[j]? = some (.int q tq) ∧ P q) : ∃ a ta b tb c tc, ys = [.int a ta, .int b tb, .int c tc] ∧ P a ∧ P b ∧ P c := by
  match ys, hl with
  | [y0, y1, y2], _ =>
    obtain ⟨a, ta, e0, p0⟩ := h 0 (by decide)
    obtain ⟨b, tb, e1, p1⟩ := h 1 (by decide)
    obtain ⟨c, tc, e2, p2⟩ := h 2 (by decide)
    simp only [List.getElem?_cons_zero, List.getElem?_cons_succ, Option.some.injEq] at e0 e1 e2
    exact ⟨a, ta, b, tb, c, tc, by rw [e0, e1, e2], p0, p1, p2⟩
theorem stopE {P : Prop} (h : P) : Stop P := h
structure Pack (P : Prop) : Prop where
  out : P
/-- the law's objects in the turns -/
structure TurnW (prog : Program) (w : World) (g0 : Heap) (ls D : Addr) (H K H2 Wt : List (Addr × Obj)) (ps : Array Value) (x : Int) : Prop where
  x0 : 0 ≤ x
  x1 : x < 2147483647
  z : TabZ g0 Wt ps
  kK : ∀ p ∈ K, p ∈ Wt
  kH : ∀ p ∈ H, p ∈ Wt
  kH2 : ∀ p ∈ H2, p ∈ Wt
  o6 : ∀ p ∈ Wt, p.1 ≠ 613
  os : ∀ p ∈ Wt, p.1 ≠ ls
abbrev ledT (L ls la lm D : Addr) (x : Int) (t : Tok) (n nm_ : Nat) (ys zs : List Value) (o1 o2 o3 o4 oD : Obj) (ps : Array Value) (Wt : List (Addr × Obj)) : List (Addr × Obj) :=
  (D, oD) :: (lm, W.listOf zs.toArray nm_) :: (la, W.listOf (Value.none :: ys).toArray 0) :: (ls, W.listOf #[Value.int x t] n) :: (L + 1 + 1 + 1 + 1, o4) :: (L + 1 + 1 + 1, o3) :: (L + 1 + 1, o2) :: (L + 1, o1) :: (613, tabObj ps) :: Wt
abbrev mapT (u0 u1 u2 u3 u4 u5 u6 uo : Option Value) (fa D gr lf lm sc : Addr) : Str → Option Value :=
  lk [("both", u0), ("depth", u1), ("told", u2), ("c", u3), ("b", u4), ("a", u5), ("turn", u6), ("far", some (.ref fa)), ("one", uo), ("tops", some (.ref D)), ("graph", some (.ref gr)), ("left", some (.ref lf)), ("names", some (.ref lm)), ("script", some (.ref sc))]
structure TP where
  sc : Addr
  ls : Addr
  la : Addr
  lm : Addr
  gr : Addr
  lf : Addr
  D : Addr
  fa : Addr
  I : Addr
  nm_ : Nat
  tm : Tok
  ys : List Value
  zs : List Value
  many : Int
  ab : Int → Int
  o1 : Obj
  o2 : Obj
  o3 : Obj
  o4 : Obj
  oD : Obj
  io : Obj
  H : List (Addr × Obj)
  K : List (Addr × Obj)
  H2 : List (Addr × Obj)
  ns : List Int
  sb : Int → List Int
  pb : Int → List Int
  xs : List (List Int × Addr × Value)
  nd2 : Addr
  ad2 : Addr
structure TFix (prog : Program) (w : World) (L : Addr) (P : TP) : Prop where
  D : Data P.ys P.zs P.many P.ab
  c1 : P.o1.data = .cell (some (.ref P.ls))
  c2 : P.o2.data = .cell (some (.int P.many P.tm))
  c3 : P.o3.data = .cell (some (.ref P.la))
  G : Gr prog w P.H P.gr P.ns P.sb P.pb
  TB : TreeB P.many P.ab P.ns P.sb P.pb
  U : UGr prog w P.H2 P.fa P.nd2 P.ad2 P.ns (und P.sb P.ns)
  dH : IsDictH prog w P.oD P.xs
  kT : KeyTups P.K P.xs
  val : ∀ a b, 0 ≤ a → a < P.many → 0 ≤ b → b < P.many → ∃ t tk, valueAt (kvsOf P.xs) [a, b] = some (.int t tk) ∧ IsTop P.ab a b t
  a1 : @LT.lt Nat _ 613 L
  a2 : @LT.lt Nat _ (L + 1 + 1 + 1 + 1) P.ls
  a3 : @LT.lt Nat _ P.ls P.la
  a4 : @Ne Nat P.la P.lm
  a5 : @Ne Nat P.ls P.lm
  a6 : @Ne Nat 613 P.lm
  d1 : @Ne Nat P.D P.ls
  d2 : @Ne Nat P.D P.lm
  d3 : @Ne Nat P.D P.la
  d4 : @Ne Nat P.D 613
  i1 : @Ne Nat P.I P.ls
  i2 : @Ne Nat P.I 613
  i4 : NotCode P.io
  i3 : ∀ q ∈ [P.D, P.lm, P.la, L + 1 + 1 + 1 + 1, L + 1 + 1 + 1, L + 1 + 1, L + 1], @Ne Nat q P.I
theorem bare_push {g : Array GenState} (h : AllBare g) : AllBare (g.push .finished) := h.push rfl
def TS (prog : Program) (w : World) (g0 : Heap) (L : Addr) (P : TP) (s₀ : Shared) (M : Str → Option Value) (s' : Shared) : Prop :=
  ∃ (h : Heap) (tk : Nat) (gg : Array GenState) (x : Int) (t : Tok) (n : Nat) (ps : Array Value) (Wt : List (Addr × Obj)), s' = { s₀ with heap := h, toks := tk, gens := gg } ∧ AllBare gg ∧ Fr g0 L h M ∧ News g0 L h ((P.I, P.io) :: ledT L P.ls P.la P.lm P.D x t n P.nm_ P.ys P.zs P.o1 P.o2 P.o3 P.o4 P.oD ps Wt) ∧ TurnW prog w g0 P.ls P.D P.H P.K P.H2 Wt ps x ∧ (∀ p ∈ Wt, p.1 ≠ P.I)
abbrev mapP (u0 u1 u2 u3 u4 u5 u6 uo : Option Value) (P : TP) : Str → Option Value := mapT u0 u1 u2 u3 u4 u5 u6 uo P.fa P.D P.gr P.lf P.lm P.sc
theorem TFix.tf {prog : Program} {w : World} {L : Addr} {P : TP} (h : TFix prog w L P) (x : Int) (t : Tok) (n : Nat) (ps : Array Value) (Wt : List (Addr × Obj)) : TabF ps Wt ((P.I, P.io) :: ledT L P.ls P.la P.lm P.D x t n P.nm_ P.ys P.zs P.o1 P.o2 P.o3 P.o4 P.oD ps Wt) (fun ps' W' => (P.I, P.io) :: ledT L P.ls P.la P.lm P.D x t n P.nm_ P.ys P.zs P.o1 P.o2 P.o3 P.o4 P.oD ps' W') := by
  have a1 := h.a1
  have a2 := h.a2
  have a3 := h.a3
  exact .next h.i2 (.next h.d4 (.next h.a6.symm (.next (Nat.ne_of_gt (by show @LT.lt Nat _ 613 P.la; omega)) (.next (Nat.ne_of_gt (by show @LT.lt Nat _ 613 P.ls; omega)) (.next (Nat.ne_of_gt (by show @LT.lt Nat _ 613 _; omega)) (.next (Nat.ne_of_gt (by show @LT.lt Nat _ 613 _; omega)) (.next (Nat.ne_of_gt (by show @LT.lt Nat _ 613 _; omega)) (.next (Nat.ne_of_gt (by show @LT.lt Nat _ 613 _; omega)) .here))))))))
open PyProof.Rows.LCg in
def SrcTu (prog : Program) (w : World) (A : Around) (h₀ : Heap) (L : Addr) (m : Str → Option Value) (env : Env) (elt : Expr) (x : Str) (scope : Scope) (cl : List (Str × Addr)) (Fin : Shared → List Value → List (Addr × Obj) → Prop) (xv : Value) (s₁ : Shared) : Prop :=
  ∃ (ax : Addr) (its : Array Value) (o : Obj) (k : Nat) (news : List (Addr × Obj)), xv = .ref ax ∧ A.handled = none ∧ Fr h₀ L s₁.heap m ∧ News h₀ L s₁.heap news ∧ (ax, o) ∈ news ∧ o.cls = .type "tuple" ∧ o.data = .seq its k ∧ its.size ≤ sizeLine ∧
    ∀ s₂ : Shared, (∃ h, s₂ = { s₁ with heap := h }) → CompRest prog w A h₀ L m env elt x scope cl s₂ (fun nw => (ax, o) ∈ nw) (fun i v => its[i]? = some v) (Fin s₂) its.size 0 [] news
section
open PyProof.Rows.LCg
variable {prog : Program} {w : World} {A : Around} {E : Value → Shared → Prop} {s : Shared} {h₀ : Heap} {L : Addr} {m : Str → Option Value} {env : Env}
theorem Assign_ListComp_Tu {elt iter : Expr} {x y : Str} {px py : Pos} {scope : Scope} {cl : List (Str × Addr)} {pos spos : Pos} {Q : Flow → Shared → Prop} (F₀ : Fr h₀ L s.heap m) (hLe : env.locals = L)
    (hsw : swapsWith (.ListComp elt [⟨.Name x px, iter, [], 0⟩] scope pos) (some (.Name y py)) spos.line env = pure true)
    (hclos : closureFor scope env = pure cl) (hcell : ∀ z ∈ scope.names, z.2 ≠ .cell) (hkind : scope.kind = .function)
    (hnames : ∀ z ∈ scope.names, z.2 = .local → scope.names.lookup z.1 = some .local) (hx : scope.names.lookup x = some .local)
    (hy : env.kindOf y = some .local) (hp : (env.scope.kind == .class || (env.scope.kind == .module && env.locals != env.globals)) = false)
    (h : wpAny (model prog w) A (eval iter env) (fun xv s₁ => Stop (SrcTu prog w A h₀ L m env elt x scope cl (fun s₂ => FinA h₀ L m s₂ y Q) xv s₁)) E s)
    (hs : ∀ x, foldedSetIterable iter env x = pure x := by intro _; rfl) :
    wpAny (model prog w) A (exec (.Assign [.Name y py] (.ListComp elt [⟨.Name x px, iter, [], 0⟩] scope pos) spos) env) Q E s := by
  subst hLe
  rw [exec_Assign_Name_used _ _ _ _ hsw]
  refine wpAny_bind (wpAny_standAt (wpAny_bind ?_))
  show wpAny _ A (do let _ ← comprehension (.ListComp elt [⟨.Name x px, iter, [], 0⟩] scope pos) scope env _ (newList []) false (eval iter env) (some (assign (.Name y py) env))) _ _ s
  refine wpAny_bind (wpAny_mono (wpAny_comprehension_free (use := some (assign (.Name y py) env)) (Q := fun _ s' => Q .next s') rfl hs hclos hkind hnames
    (wpAny_mono h (fun xv s₁ h₁ => ?_) fun _ _ e => e)) (fun _ s' hq => wpAny_pure (wpAny_pure hq)) fun _ _ e => e)
  obtain ⟨ax, its, o, k, news, rfl, hh, F, N, hm, hc, hd, hsz, R⟩ := h₁
  have hl : s₁.heap.IsTuple ax its := ⟨o, (N _ hm).1, hc, k, hd⟩
  have hlt : ax < s₁.heap.objs.size := Heap.lt_size (N _ hm).1
  refine wpAny_pyIter_tuple hl ?_
  have up : ∀ b o, s₁.heap.get? b = some o → (s₁.heap.push { cls := .type "tuple_iterator", data := .fields #[.ref ax, .int 0 0] }).get? b = some o := fun b o e => Heap.get?_push_of_some _ e
  refine block_U (Walks.tuple hh s₁.heap.objs.size ax (Nat.ne_of_lt hlt) its) hsz (fun i h st => by obtain ⟨o, e, _⟩ := st.1; exact ⟨o, e⟩) (fun i h h' o' nw st e e' kp Nn Sm => ?_) hcell hkind hx ⟨⟨_, Heap.get?_push_size _ rfl, rfl, rfl⟩, hl.push _⟩ (fun b hb => ?_)
    (F.keeps up) (N.grown up) (Nat.ne_of_lt F.ns.lt) (next_is_new F) (fun p hp => Nat.ne_of_lt (Heap.lt_size (N p hp).1)) hm (R _ ⟨_, rfl⟩) ?_
  · exact ⟨by obtain ⟨o9, q, r⟩ := st.1; rw [e] at q; cases q; exact ⟨_, e', r⟩, ⟨o, (Nn _ Sm).1, hc, k, hd⟩⟩
  · show b < (s₁.heap.push _).objs.size
    rw [Heap.size_push]
    rcases List.mem_cons.mp hb with rfl | hb
    · exact Nat.lt_succ_self _
    · rw [List.mem_singleton.mp hb]; exact Nat.lt_succ_of_lt hlt
  · intro D C h' tk m' ys news' F' N' o1 hn hC₀ hD₀ hCL hDL hCD offC fin
    show wpAny _ A (assign (.Name y py) env (.ref D)) _ _ _
    refine wpAny_assign_Name (wpAny_storeName_local hy F'.ns (fun h₂ hn₂ hs₂ => ?_) hp)
    have hL₀ : h₀.get? env.locals = none := Heap.get?_none_of_le F'.above
    have F₂ : Fr h₀ env.locals h₂ (fun z => if z = y then some (.ref D) else m z) := ⟨hn₂, fun b o e => hs₂.extBut b o (fun q => by rw [q, hL₀] at e; cases e) (F'.keep b o e), F'.above⟩
    refine ⟨m', hn.sameBut hs₂ hCL, fun h'' hs'' => fin D h'' _ (F₂.change hs'' hCL hC₀) (fun p hp => ?_) o1⟩
    have z : h₂.get? p.1 = some p.2 := hs₂.extBut _ _ (N' p hp).2.1 (N' p hp).1
    refine ⟨hs''.extBut _ _ ?_ z, (N' p hp).2⟩
    rcases List.mem_cons.mp hp with rfl | hp
    · exact Ne.symm hCD
    · exact offC p hp
/-- a comprehension's turns by an invariant -/
theorem rest_gen {elt : Expr} {x : Str} {scope : Scope} {cl : List (Str × Addr)} {n : Nat} {news : List (Addr × Obj)} {S : List (Addr × Obj) → Prop} {P : Nat → Value → Prop} {Fin : List Value → List (Addr × Obj) → Prop} (J : Nat → List Value → List (Addr × Obj) → Prop) (h0 : J 0 [] news)
    (turn : ∀ (i : Nat) v ys news₁ I oI C oC D m₂ h tk (E' : Value → Shared → Prop), i < n → P i v → J i ys news₁ → NsObj oC m₂ → m₂ x = some v → Fr h₀ L h m → News h₀ L h ((I, oI) :: (C, oC) :: (D, PyProof.Rows.LCg.lst ys) :: news₁) → Off3 I C D news₁ → ((@Ne Nat I C) ∧ (@Ne Nat I D) ∧ (@Ne Nat C D)) →
      wpAny (model prog w) A (eval elt (compEnvC scope cl C env)) (fun y s₂ => Stop (CompEnd h₀ L m { s with heap := h, toks := tk } I oI C oC D (PyProof.Rows.LCg.lst ys) S (fun y news' => J (i + 1) (ys ++ [y]) news') y s₂)) E' { s with heap := h, toks := tk })
    (fin : ∀ ys news₁, J n ys news₁ → Fin ys news₁) :
    CompRest prog w A h₀ L m env elt x scope cl s S P Fin n 0 [] news := by
  suffices hgen : ∀ (k i : Nat) (ys : List Value) news₁, i + k = n → J i ys news₁ → CompRest prog w A h₀ L m env elt x scope cl s S P Fin k i ys news₁ from
    hgen n 0 [] news (Nat.zero_add _) h0
  intro k
  induction k with
  | zero =>
    intro i ys news₁ hi hJ
    rw [Nat.add_zero] at hi
    subst hi
    exact CompRest.zero (fin ys news₁ hJ)
  | succ j ih =>
    intro i ys news₁ hi hJ
    refine CompRest.succ fun v I oI C oC D m₂ h tk E' hv hC hx' F N off ne => ?_
    refine wpAny_mono (turn i v ys news₁ I oI C oC D m₂ h tk E' (by omega) hv hJ hC hx' F N off ne) (fun y s' h' => ?_) fun _ _ e => e
    obtain ⟨h'', tk'', news', rfl, F', N', off', hS, hr⟩ := h'
    exact ⟨h'', tk'', news', rfl, F', N', off', hS, ih (i + 1) _ _ (by omega) hr⟩
theorem len_ints {l : Addr} {vs : List Value} {ns : List Int} {Q : Value → Shared → Prop} (hl : s.heap.IsList l vs.toArray) (hi : IntsAre vs ns) (hlen : ns.length ≤ 100) (h : ∀ t tk, Q (.int ns.length t) { s with toks := tk }) : wpAny (model prog w) A (call (.builtin "len") [.ref l]) Q E s := by
  refine PyProof.Rows.len_list hl (by rw [List.size_toArray, hi.length]; omega) ?_
  rw [List.size_toArray, hi.length]
  exact h _ _
end
theorem way_short {many a : Int} {ab : Int → Int} {l : List Int} (T : Tree many ab) (h : Way ab a l) (h0 : 0 ≤ a) (h1 : a < many) (hm : many ≤ 100) : l.length ≤ 100 := by
  have := way_len T h h1 h0
  omega
theorem news_addN {h₀ h h' : Heap} {L r : Addr} {o : Obj} {m : Str → Option Value} {news : List (Addr × Obj)} (F : Fr h₀ L h m) (N : News h₀ L h' news) (hr : h.get? r = none) (ho : h'.get? r = some o) : News h₀ L h' ((r, o) :: news) := fun p hp => by
  rcases List.mem_cons.mp hp with rfl | hp
  · refine ⟨ho, fun e => ?_, ?_⟩
    · obtain ⟨oL, es, ep, q, _⟩ := F.ns
      have e' : r = L := e
      rw [e', q] at hr
      cases hr
    · cases e : h₀.get? r with
      | none => rfl
      | some o' => have := F.keep r o' e; rw [hr] at this; cases this
  · exact N p hp
theorem way_told {many va vb t : Int} {ab : Int → Int} {l : List Int} (T : Tree many ab) (va0 : 0 ≤ va) (va1 : va < many) (h : IsTop ab va vb t) (hw : Way ab vb l) : (l.any fun x => x == va) = (nm t == nm va) := by
  have hm := T.m1
  have hr := h.range T va0 va1
  rw [Bool.eq_iff_iff, List.any_eq_true, beq_iff_eq]
  constructor
  · rintro ⟨x, hx, e⟩
    rw [beq_iff_eq] at e
    subst e
    rw [(h.self_iff T va0 va1).mp ((way_mem hw _).mp hx)]
  · intro e
    have e2 : t = va := nm_inj (by omega) (by omega) (by omega) (by omega) e
    exact ⟨va, (way_mem hw _).mpr ((h.self_iff T va0 va1).mpr e2), by rw [beq_iff_eq]⟩
section
local macro_rules | `(tactic| walk_at "nothing") => `(tactic| fail "nothing")
local macro_rules | `(tactic| walk_at "nothing") => `(tactic| fail "nothing")
local macro_rules | `(tactic| walk_at "nothing") => `(tactic| fail "nothing")
local macro_rules | `(tactic| walk_at "nothing") => `(tactic| fail "nothing")
local macro_rules | `(tactic| walk_at "nothing") => `(tactic| fail "nothing")
local macro_rules | `(tactic| walk_at "nothing") => `(tactic| fail "nothing")
local macro_rules | `(tactic| walk_at "nothing") => `(tactic| fail "nothing")
local macro_rules | `(tactic| walk_at "call ref") => `(tactic| ((first
  | (with_reducible show wpAny _ _ (call (Value.ref 624) _) _ _ _)
  | (with_reducible show wpAny _ _ (call (Value.ref 610) _) _ _ _)); refine stopI ?_))
local macro_rules | `(tactic| walk_at "call ref") => `(tactic| (k_here; (with_reducible show wpAny _ _ (call (Value.ref 854) [Value.ref _, Value.int _ _]) _ _ _); k_dflt (refine' next_N ?B ?F ?X ?T ?hk ?S ?N ?U ?a ?b ?c ?d ?hdp ?hun ?_; (case B => k_asm); (case F => k_asm); (case X => k_asm); (case T => k_asm); (case hk => rfl); (case S => assumption); (case N => k_asm); (case U => k_updF); (case a => assumption); (case b => assumption); (case c => omega); (case d => omega); (case hdp => walk_at "ROOM"); (case hun => walk_at "UNITS")); intro x' t' n' r' tr' h' tk' hx0' hx1' hr0' hr1' F' N'; (try dsimp only at N'); (try dsimp only); (try k_sweep)))
local macro_rules | `(tactic| walk_at "eval ListComp") => `(tactic| (k_here; (with_reducible show wpAny _ _ (eval (Expr.ListComp _ [Comprehension.mk _ (Expr.Call _ _ _ _) _ _] _ _) _) _ _ _); k_dflt (refine' PyProof.Rows.LCg.ListComp_U ?hF ?hclos ?hcell ?hkind ?hnames ?hx ?_ ?hs; (case hF => k_asm); (case hclos => with_unfolding_all rfl); (case hcell => decide); (case hkind => rfl); (case hnames => decide); (case hx => with_unfolding_all rfl); (case hs => intro _; with_unfolding_all rfl))))
local macro_rules | `(tactic| walk_at "CompSrc") => `(tactic| refine stopI ?_)
local macro_rules | `(tactic| walk_at "pyIter ref") => `(tactic| refine stopI ?_)
local macro_rules | `(tactic| walk_at "compareOp NotEq") => `(tactic| refine stopI ?_)
local macro_rules | `(tactic| walk_at "subscriptTail") => `(tactic| (k_here; (with_reducible show wpAny _ _ (subscriptTail _ _ (Value.ref _) (Value.ref _)) _ _ _); k_dflt (refine' item_H ?N ?hm ?hD ?hK ?hKn ?ht ?hu ?hv ?_ ?hs ?hg; (case N => k_asm); (case hm => k_mem); (case hD => with_reducible assumption); (case hK => with_reducible assumption); (case hKn => (intro p hp; repeat (refine List.mem_cons_of_mem _ ?_); (revert hp; revert p; with_reducible assumption))); (case ht => k_mem); (case hu => walk_at "UNITS"); (case hv => with_reducible assumption); (case hs => with_unfolding_all rfl); (case hg => intro _; with_unfolding_all rfl)); intro tk'; (try dsimp only)))

theorem turn_a {w : World} {p : Program} {loose : List Str} {mean : ExcName → Option Value} {mg mb : Str → Option Value} {base g0 : Heap} {L : Addr} {s : Shared} {s₀ : Shared} {A₀ : Around} {dp un : Nat} {gd : Option (List Code)}
    {nm1 qual : Str} {prms : Arguments} {body fb : List Stmt} {scope : Scope} {dV kV doc pm cdv' ct oc : Value} {an od : Option Addr} {osl : Array (Option Value)} {tgt it : Expr} {fp : Pos}
    (hb : (hd.heap_39 w.params).lookup 866 = some ⟨oc, od, .func (fnOf nm1 qual prms body scope dV kV doc pm an cdv' ct), osl⟩) (hf : body[10]? = some (.For tgt it fb [] fp))
    (B : Below A₀ base [] g0) (X : (hd.heap_39 w.params).In g0) (T : Top p loose mean mg mb g0) (S : Sys g0) (hdp : dp + 100 < recursionLimit) (hun : un + 1000 < cLine) {P : TP} (hP : TFix PySem.Challenge.rw_fq0029_01.row.prog w L P)
    {v0 v1 v2 v3 v4 v5 v6 vo : Option Value} (hs : TS PySem.Challenge.rw_fq0029_01.row.prog w g0 L P s₀ (mapP v0 v1 v2 v3 v4 v5 v6 vo P) s) :
    wpAny (model PySem.Challenge.rw_fq0029_01.row.prog w) (ktrTop dp un gd qual scope L 866 cdv' [("other", L + 1 + 1 + 1 + 1), ("above", L + 1 + 1 + 1), ("many", L + 1 + 1), ("s", L + 1)] []) (execs (fb.take 1) (envX qual scope L 866 cdv' [("other", L + 1 + 1 + 1 + 1), ("above", L + 1 + 1 + 1), ("many", L + 1 + 1), ("s", L + 1)])) (fun f s' => f = .next ∧ Stop (∃ va ta vb tb vc tc, (0 ≤ va ∧ va < P.many) ∧ (0 ≤ vb ∧ vb < P.many) ∧ (0 ≤ vc ∧ vc < P.many) ∧ TS PySem.Challenge.rw_fq0029_01.row.prog w g0 L P s₀ (mapP v0 v1 v2 (some (.int vc tc)) (some (.int vb tb)) (some (.int va ta)) v6 vo P) s')) Never s := by
  revert X
  k_fill
  intro X
  refine' use_eq hb ?hh ?_
  case hh => k_is
  intro e
  cases e
  cases hf
  clear hb
  obtain ⟨h, tk, gg, x, t, n, ps, Wt, rfl, hgb, F, N, hW, hWI⟩ := hs
  have ptf := Pack.mk (@TFix.tf _ _ _ _ hP)
  have pP := Pack.mk hP

  obtain ⟨hx0, hx1, hz, hkK, hkH, hkH2, hw6, hws⟩ := hW
  have c1 := hP.c1
  have c2 := hP.c2
  have m0 := hP.D.m0
  have m1 := hP.D.m1
  have a1 := hP.a1
  have a2 := hP.a2
  have a3 := hP.a3
  have g5 : @Ne Nat P.lm P.ls := hP.a5.symm
  have g6 : @Ne Nat P.la P.ls := Nat.ne_of_gt a3
  have g7 : @Ne Nat (L + 1 + 1 + 1 + 1) P.ls := Nat.ne_of_lt a2
  have g8 : @Ne Nat (L + 1 + 1 + 1) P.ls := by omega
  have g9 : @Ne Nat (L + 1 + 1) P.ls := by omega
  have g10 : @Ne Nat (L + 1) P.ls := by omega
  have g11 : @Ne Nat 613 P.ls := by omega
  have d1 := hP.d1
  have i1 := hP.i1
  have hmp : 0 < P.many := by omega
  have hmk : P.many ≤ 1000 := by omega
  have pz := Pack.mk (And.intro hz (And.intro hkK (And.intro hkH (And.intro hkH2 (And.intro hw6 hws)))))
  have pWI := Pack.mk hWI
  clear hP ptf hz hkK hkH hkH2 hw6 a1 a2 a3 m0 m1 hWI
  dsimp only [ledT] at N
  show wpAny _ _ (execs [_] _) _ _ _
  k_steps
  rename IsRange _ _ _ _ _ _ _ _ => hR2
  rename Fr _ _ _ _ => F4
  rename News _ _ _ _ => N4
  dsimp only at hR2
  refine stopE ?_
  refine src_rangeM rfl F4 N4 (n := 3) hR2 (small_one (by decide) (by decide) (by decide) (by decide)) (by decide) (by rw [sizeLine_eq]; omega) (fun s9 hs9 => rest_range (fun i ys nw => ∃ (x : Int) (t : Tok) (n : Nat), nw = (P.I, P.io) :: ledT L P.ls P.la P.lm P.D x t n P.nm_ P.ys P.zs P.o1 P.o2 P.o3 P.o4 P.oD ps Wt ∧ 0 ≤ x ∧ x < 2147483647 ∧ ys.length = i ∧ ∀ j < i, ∃ (q : Int) (tq : Tok), ys[j]? = some (.int q tq) ∧ (0 ≤ q ∧ q < P.many)) ⟨x, t, n, rfl, hx0, hx1, rfl, fun j hj => absurd hj (Nat.not_lt_zero _)⟩ ?_ ?_)
  · clear F4 N4 hx0 hx1 hR2 hs9
    rintro i2 t0 vs nw I2 oI C oC D2 m₂ h tk E' hi2 ⟨x, t, n, rfl, hx0, hx1, hlen9, hall⟩ hC2 hx2 F6 N6 off6 ne6
    have q1 := off6.2.2.2.2.1
    have g1 : @Ne Nat I2 P.ls := q1.1.symm
    have g2 : @Ne Nat C P.ls := q1.2.1.symm
    have g3 : @Ne Nat D2 P.ls := q1.2.2.symm
    have pl := Pack.mk hlen9
    have pa := Pack.mk hall
    have po := Pack.mk off6
    clear q1 ne6 hlen9 hall off6
    dsimp only [ledT] at N6
    k_steps
    rename Fr _ _ _ _ => F9
    rename News _ _ _ _ => N9
    rename_i x9 t9 n9 r9 tr9 h9 tk9 hx9 hx9' hr9 hr9'
    have hlen9 := pl.out
    refine PyProof.Rows.LCg.CompEnd.intro F9 N9 _ (fun q hq => hq) po.out trivial ⟨x9, t9, n9, rfl, hx9, hx9', by rw [List.length_append, hlen9]; rfl, fun j hj => ?_⟩
    rcases Nat.lt_or_ge j i2 with hji | hji
    · obtain ⟨q, tq, b1, b2⟩ := pa.out j hji
      exact ⟨q, tq, by rw [List.getElem?_append_left (by rw [hlen9]; exact hji)]; exact b1, b2⟩
    · obtain rfl : j = i2 := by omega
      exact ⟨r9, tr9, by rw [← hlen9]; simp, hr9, hr9'⟩
  · clear F4 N4 hx0 hx1 hR2
    rintro vs nw ⟨x, t, n, rfl, hx0, hx1, hlen9, hall⟩ D2 h tk F6 N6 off6
    obtain ⟨va, ta, vb, tb, vc, tc, rfl, hva, hvb, hvc⟩ := three_of hlen9 hall
    clear hlen9 hall off6
    dsimp only [ledT] at N6
    k_steps
    rename Fr _ _ _ _ => F9
    rename News _ _ _ _ => N9
    obtain ⟨g9, rfl⟩ := hs9
    obtain ⟨hz, hkK, hkH, hkH2, hw6, hws⟩ := pz.out
    exact ⟨va, ta, vb, tb, vc, tc, hva, hvb, hvc, _, _, _, x, t, n, ps, Wt, rfl, (by repeat (first | exact hgb | refine bare_push ?_)), fr_eq F9 (by walk_at "SAME"), news_sub N9 (fun q hq => .tail _ hq), ⟨hx0, hx1, hz, hkK, hkH, hkH2, hw6, hws⟩, pWI.out⟩
end
section
local macro_rules | `(tactic| walk_at "nothing") => `(tactic| fail "nothing")
local macro_rules | `(tactic| walk_at "nothing") => `(tactic| fail "nothing")
local macro_rules | `(tactic| walk_at "nothing") => `(tactic| fail "nothing")
local macro_rules | `(tactic| walk_at "nothing") => `(tactic| fail "nothing")
local macro_rules | `(tactic| walk_at "nothing") => `(tactic| fail "nothing")
local macro_rules | `(tactic| walk_at "nothing") => `(tactic| fail "nothing")
local macro_rules | `(tactic| walk_at "nothing") => `(tactic| fail "nothing")
local macro_rules | `(tactic| walk_at "nothing") => `(tactic| fail "nothing")
local macro_rules | `(tactic| walk_at "nothing") => `(tactic| fail "nothing")
local macro_rules | `(tactic| walk_at "nothing") => `(tactic| fail "nothing")
local macro_rules | `(tactic| walk_at "nothing") => `(tactic| fail "nothing")
local macro_rules | `(tactic| walk_at "nothing") => `(tactic| fail "nothing")
local macro_rules | `(tactic| walk_at "nothing") => `(tactic| fail "nothing")
local macro_rules | `(tactic| walk_at "nothing") => `(tactic| fail "nothing")
local macro_rules | `(tactic| walk_at "nothing") => `(tactic| fail "nothing")
local macro_rules | `(tactic| walk_at "call ref") => `(tactic| ((first
  | (with_reducible show wpAny _ _ (call (Value.ref 624) _) _ _ _)
  | (with_reducible show wpAny _ _ (call (Value.ref 610) _) _ _ _)); refine stopI ?_))
local macro_rules | `(tactic| walk_at "call ref") => `(tactic| (k_here; (with_reducible show wpAny _ _ (call (Value.ref 854) [Value.ref _, Value.int _ _]) _ _ _); k_dflt (refine' next_N ?B ?F ?X ?T ?hk ?S ?N ?U ?a ?b ?c ?d ?hdp ?hun ?_; (case B => k_asm); (case F => k_asm); (case X => k_asm); (case T => k_asm); (case hk => rfl); (case S => assumption); (case N => k_asm); (case U => k_updF); (case a => assumption); (case b => assumption); (case c => omega); (case d => omega); (case hdp => walk_at "ROOM"); (case hun => walk_at "UNITS")); intro x' t' n' r' tr' h' tk' hx0' hx1' hr0' hr1' F' N'; (try dsimp only at N'); (try dsimp only); (try k_sweep)))
local macro_rules | `(tactic| walk_at "eval ListComp") => `(tactic| (k_here; (with_reducible show wpAny _ _ (eval (Expr.ListComp _ [Comprehension.mk _ (Expr.Call _ _ _ _) _ _] _ _) _) _ _ _); k_dflt (refine' PyProof.Rows.LCg.ListComp_U ?hF ?hclos ?hcell ?hkind ?hnames ?hx ?_ ?hs; (case hF => k_asm); (case hclos => with_unfolding_all rfl); (case hcell => decide); (case hkind => rfl); (case hnames => decide); (case hx => with_unfolding_all rfl); (case hs => intro _; with_unfolding_all rfl))))
local macro_rules | `(tactic| walk_at "CompSrc") => `(tactic| refine stopI ?_)
local macro_rules | `(tactic| walk_at "pyIter ref") => `(tactic| refine stopI ?_)
local macro_rules | `(tactic| walk_at "compareOp NotEq int int") => `(tactic| refine stopI ?_)
local macro_rules | `(tactic| walk_at "compareOp NotEq bool bool") => `(tactic| refine stopI ?_)
local macro_rules | `(tactic| walk_at "subscriptTail") => `(tactic| (k_here; (with_reducible show wpAny _ _ (subscriptTail _ _ (Value.ref _) (Value.ref _)) _ _ _); k_dflt (refine' item_H ?N ?hm ?hD ?hK ?hKn ?ht ?hu ?hv ?_ ?hs ?hg; (case N => k_asm); (case hm => k_mem); (case hD => with_reducible assumption); (case hK => with_reducible assumption); (case hKn => (intro p hp; (repeat (refine List.mem_cons_of_mem _ ?_)); (revert hp; revert p; with_reducible assumption))); (case ht => k_mem); (case hu => walk_at "UNITS"); (case hv => with_reducible assumption); (case hs => with_unfolding_all rfl); (case hg => intro _; with_unfolding_all rfl)); intro tk'; (try dsimp only)))

theorem turn_b {w : World} {p : Program} {loose : List Str} {mean : ExcName → Option Value} {mg mb : Str → Option Value} {base g0 : Heap} {L : Addr} {s : Shared} {s₀ : Shared} {A₀ : Around} {dp un : Nat} {gd : Option (List Code)}
    {nm1 qual : Str} {prms : Arguments} {body fb : List Stmt} {scope : Scope} {dV kV doc pm cdv' ct oc : Value} {an od : Option Addr} {osl : Array (Option Value)} {tgt it : Expr} {fp : Pos}
    (hb : (hd.heap_39 w.params).lookup 866 = some ⟨oc, od, .func (fnOf nm1 qual prms body scope dV kV doc pm an cdv' ct), osl⟩) (hf : body[10]? = some (.For tgt it fb [] fp))
    (B : Below A₀ base [] g0) (X : (hd.heap_39 w.params).In g0) (T : Top p loose mean mg mb g0) (S : Sys g0) (hdp : dp + 100 < recursionLimit) (hun : un + 1000 < cLine) {P : TP} (hP : TFix PySem.Challenge.rw_fq0029_01.row.prog w L P)
    {v0 v1 v2 v6 vo : Option Value} {va vb vc : Int} {ta tb tc : Tok} (va0 : 0 ≤ va) (va1 : va < P.many) (vb0 : 0 ≤ vb) (vb1 : vb < P.many) (hs : TS PySem.Challenge.rw_fq0029_01.row.prog w g0 L P s₀ (mapP v0 v1 v2 (some (.int vc tc)) (some (.int vb tb)) (some (.int va ta)) v6 vo P) s) :
    wpAny (model PySem.Challenge.rw_fq0029_01.row.prog w) (ktrTop dp un gd qual scope L 866 cdv' [("other", L + 1 + 1 + 1 + 1), ("above", L + 1 + 1 + 1), ("many", L + 1 + 1), ("s", L + 1)] []) (execs ((fb.drop 1).take 2) (envX qual scope L 866 cdv' [("other", L + 1 + 1 + 1 + 1), ("above", L + 1 + 1 + 1), ("many", L + 1 + 1), ("s", L + 1)])) (fun f s' => f = .next ∧ Stop (∃ t1 tk1, IsTop P.ab va vb t1 ∧ 0 ≤ t1 ∧ t1 < P.many ∧ TS PySem.Challenge.rw_fq0029_01.row.prog w g0 L P s₀ (mapP v0 v1 (some (.int (nm t1) tk1)) (some (.int vc tc)) (some (.int vb tb)) (some (.int va ta)) v6 vo P) s')) Never s := by
  revert X
  k_fill
  intro X
  refine' use_eq hb ?hh ?_
  case hh => k_is
  intro e
  cases e
  cases hf
  clear hb
  obtain ⟨h, tk, gg, x, t, n, ps, Wt, rfl, hgb, F, N, hW, hWI⟩ := hs
  have ptf := Pack.mk (@TFix.tf _ _ _ _ hP)
  have pP := Pack.mk hP

  obtain ⟨hx0, hx1, hz, hkK, hkH, hkH2, hw6, hws⟩ := hW
  have hD := hP.D
  have hDH := hP.dH
  have hKT := hP.kT
  have hTt := hD.toTree
  have n613 : @Ne Nat P.ls 613 := by have := hP.a1; have := hP.a2; omega
  obtain ⟨tt, ttk, hvv, htop⟩ := hP.val va vb va0 va1 vb0 vb1
  have hrt := htop.range hTt va0 va1
  have ht0 : 0 ≤ tt := hrt.1
  have ht1 : tt < P.many := hrt.2
  have pW := Pack.mk hWI
  have pz := Pack.mk (And.intro hz (And.intro hkH (And.intro hkH2 (And.intro hw6 hws))))
  have pT := Pack.mk hTt
  have ptop := Pack.mk htop
  clear hP hWI hz hkH hkH2 hw6 hws hTt htop hrt
  dsimp only [ledT] at N
  show wpAny _ _ (execs [_, _] _) _ _ _
  k_steps
  rename Fr _ _ _ _ => F4
  rename News _ _ _ _ => N4
  show wpAny _ (ktrTop _ _ _ _ _ _ _ _ _ _) (call (.ref 624) [.ref P.gr, .int (nm va) _, .int (nm vb) _]) _ _ _
  obtain ⟨hz, hkH, hkH2, hw6, hws⟩ := pz.out
  refine lca_line B F4 X T rfl S N4 (ptf.out x t n ps Wt) hz pP.out.G hkH hw6 (.tail _ (.tail _ (.tail _ (.tail _ (.head _))))) hws n613 pT.out pP.out.TB va0 va1 vb0 vb1 (by walk_at "ROOM") (by walk_at "UNITS") fun t1 tk1 h1 tkx ps1 W1 htop1 t10 t11 hsub1 hz1 hw61 hws1 hof1 F5 N5 => ?_
  have hWI1 := hof1 P.I P.io (N5 _ (.head _)).1 pP.out.i4 pW.out
  have pW1 := Pack.mk hWI1
  obtain rfl := htop1.uniq pT.out va0 va1 ptop.out
  have p61 := Pack.mk hw61
  clear F4 N4 hw61 hof1 hWI1
  have hkK1 : ∀ p ∈ P.K, p ∈ W1 := fun p hp => hsub1 p (hkK p hp)
  have pz1 := Pack.mk (And.intro hz1 (And.intro hsub1 hws1))
  clear hz hkH hkH2 hw6 hws hz1 hsub1 hws1 htop1
  dsimp only [ledT] at N5
  k_steps
  rename Fr _ _ _ _ => F6
  rename News _ _ _ _ => N6
  show wpAny _ (ktrTop _ _ _ _ _ _ _ _ _ _) (compareOp _ (.int _ _) (.int _ _)) _ _ _
  refine ne_int ?_
  rw [bne_self_eq_false]
  replace N6 := news_sub (l' := (P.I, P.io) :: (P.D, P.oD) :: (P.lm, W.listOf P.zs.toArray P.nm_) :: (P.la, W.listOf (Value.none :: P.ys).toArray 0) :: (P.ls, W.listOf #[Value.int x t] n) :: (L + 1 + 1 + 1 + 1, P.o4) :: (L + 1 + 1 + 1, P.o3) :: (L + 1 + 1, P.o2) :: (L + 1, P.o1) :: (613, tabObj ps1) :: W1) N6 (fun q hq => .tail _ hq)
  k_steps
  rename Fr _ _ _ _ => F7
  rename News _ _ _ _ => N7
  show wpAny _ (ktrTop _ _ _ _ _ _ _ _ _ _) (call (.ref 624) [.ref P.gr, .int (nm vb) _, .int (nm va) _]) _ _ _
  obtain ⟨hz1, hsub1, hws1⟩ := pz1.out
  obtain ⟨hz, hkH, hkH2, hw6, hws⟩ := pz.out
  refine lca_line B F7 X T rfl S N7 (ptf.out x t n ps1 W1) hz1 pP.out.G (fun p hp => hsub1 p (hkH p hp)) p61.out (.tail _ (.tail _ (.tail _ (.tail _ (.head _))))) hws1 n613 pT.out pP.out.TB vb0 vb1 va0 va1 (by walk_at "ROOM") (by walk_at "UNITS") fun t2 tk2 h2 tkx2 ps2 W2 htop2 t20 t21 hsub2 hz2 hw62 hws2 hof2 F8 N8 => ?_
  have pW2 := Pack.mk (hof2 P.I P.io (N8 _ (.head _)).1 pP.out.i4 pW1.out)
  obtain rfl := htop2.symm.uniq pT.out va0 va1 ptop.out
  have pfin := Pack.mk (And.intro hz2 (And.intro (fun p hp => hsub2 p (hkK1 p hp) : ∀ p ∈ P.K, p ∈ W2) (And.intro (fun p hp => hsub2 p (hsub1 p (hkH p hp)) : ∀ p ∈ P.H, p ∈ W2) (And.intro (fun p hp => hsub2 p (hsub1 p (hkH2 p hp)) : ∀ p ∈ P.H2, p ∈ W2) (And.intro hw62 hws2)))))
  clear F7 N7 hz1 hsub1 hws1 hz hkH hkH2 hw6 hws hz2 hsub2 hw62 hws2 htop2 hof2
  dsimp only [ledT] at N8
  k_steps
  rename Fr _ _ _ _ => F9
  rename News _ _ _ _ => N9
  show wpAny _ (ktrTop _ _ _ _ _ _ _ _ _ _) (compareOp _ (.int _ _) (.int _ _)) _ _ _
  refine ne_int ?_
  rw [bne_self_eq_false]
  k_steps
  rename Fr _ _ _ _ => F10
  rename News _ _ _ _ => N10
  obtain ⟨hz2, hk2, hh2, hh22, hw62, hws2⟩ := pfin.out
  exact ⟨_, _, ptop.out, ht0, ht1, _, _, _, x, t, n, ps2, W2, rfl, (by repeat (first | exact hgb | refine bare_push ?_)), fr_eq F10 (by walk_at "SAME"), N10, ⟨hx0, hx1, hz2, hk2, hh2, hh22, hw62, hws2⟩, pW2.out⟩
end
section
local macro_rules | `(tactic| walk_at "exec Assign cons ListComp") => `(tactic| (k_here; (with_reducible show wpAny _ _ (exec (Stmt.Assign _ (Expr.ListComp _ [Comprehension.mk _ (Expr.Tuple _ _ _) _ _] _ _) _) _) _ _ _); k_dflt (refine' Assign_ListComp_Tu ?hF ?hLe ?hsw ?hclos ?hcell ?hkind ?hnames ?hx ?hy ?hp ?_ ?hs; (case hF => k_asm); (case hLe => rfl); (case hsw => with_unfolding_all rfl); (case hclos => with_unfolding_all rfl); (case hcell => decide); (case hkind => rfl); (case hnames => decide); (case hx => with_unfolding_all rfl); (case hy => rfl); (case hp => rfl); (case hs => intro _; with_unfolding_all rfl))))
local macro_rules | `(tactic| walk_at "call ref") => `(tactic| ((first
  | (with_reducible show wpAny _ _ (call (Value.ref 624) _) _ _ _)
  | (with_reducible show wpAny _ _ (call (Value.ref 610) _) _ _ _)); refine stopI ?_))
local macro_rules | `(tactic| walk_at "call ref") => `(tactic| (k_here; (with_reducible show wpAny _ _ (call (Value.ref 854) [Value.ref _, Value.int _ _]) _ _ _); k_dflt (refine' next_N ?B ?F ?X ?T ?hk ?S ?N ?U ?a ?b ?c ?d ?hdp ?hun ?_; (case B => k_asm); (case F => k_asm); (case X => k_asm); (case T => k_asm); (case hk => rfl); (case S => assumption); (case N => k_asm); (case U => k_updF); (case a => assumption); (case b => assumption); (case c => omega); (case d => omega); (case hdp => walk_at "ROOM"); (case hun => walk_at "UNITS")); intro x' t' n' r' tr' h' tk' hx0' hx1' hr0' hr1' F' N'; (try dsimp only at N'); (try dsimp only); (try k_sweep)))
local macro_rules | `(tactic| walk_at "eval ListComp") => `(tactic| (k_here; (with_reducible show wpAny _ _ (eval (Expr.ListComp _ [Comprehension.mk _ (Expr.Call _ _ _ _) _ _] _ _) _) _ _ _); k_dflt (refine' PyProof.Rows.LCg.ListComp_U ?hF ?hclos ?hcell ?hkind ?hnames ?hx ?_ ?hs; (case hF => k_asm); (case hclos => with_unfolding_all rfl); (case hcell => decide); (case hkind => rfl); (case hnames => decide); (case hx => with_unfolding_all rfl); (case hs => intro _; with_unfolding_all rfl))))
local macro_rules | `(tactic| walk_at "CompSrc") => `(tactic| refine stopI ?_)
local macro_rules | `(tactic| walk_at "pyIter ref") => `(tactic| refine stopI ?_)
local macro_rules | `(tactic| walk_at "compareOp NotEq int int") => `(tactic| refine stopI ?_)
local macro_rules | `(tactic| walk_at "compareOp NotEq bool bool") => `(tactic| refine stopI ?_)
local macro_rules | `(tactic| walk_at "subscriptTail") => `(tactic| (k_here; (with_reducible show wpAny _ _ (subscriptTail _ _ (Value.ref _) (Value.ref _)) _ _ _); k_dflt (refine' item_H ?N ?hm ?hD ?hK ?hKn ?ht ?hu ?hv ?_ ?hs ?hg; (case N => k_asm); (case hm => k_mem); (case hD => with_reducible assumption); (case hK => with_reducible assumption); (case hKn => (intro p hp; (repeat (refine List.mem_cons_of_mem _ ?_)); (revert hp; revert p; with_reducible assumption))); (case ht => k_mem); (case hu => walk_at "UNITS"); (case hv => with_reducible assumption); (case hs => with_unfolding_all rfl); (case hg => intro _; with_unfolding_all rfl)); intro tk'; (try dsimp only)))
local macro_rules | `(tactic| walk_at "call ref") => `(tactic| (k_here; (with_reducible show wpAny _ _ (call (Value.ref 861) [Value.ref _, Value.int _ _]) _ _ _); k_dflt (refine' way_spec ?B ?F ?X ?T ?hk ?S ?hl ?hv0 ?hv1 ?hm ?hroot ?hab ?hdp ?hun ?_; (case B => k_asm); (case F => k_asm); (case X => k_asm); (case T => k_asm); (case hk => rfl); (case S => assumption); (case hl => walk_at "LIST"); (case hv0 => with_reducible assumption); (case hv1 => with_reducible assumption); (case hm => with_reducible assumption); (case hroot => rfl); (case hab => with_reducible assumption); (case hdp => walk_at "ROOM"); (case hun => walk_at "UNITS")); intro D' vs' l' n' h' tk' hk' hq' hD' hI' hW'; (have N' := news_add (by k_asm) (news_onto (by k_asm) hk') hq' hD'); (have l1' := news_lt (by k_asm) hq'); (have F' := fr_onto (by k_asm) hk'); (try clear hk' hq' hD'); (try k_lt l1'); (try dsimp only); (try k_sweep)))
local macro_rules | `(tactic| walk_at "call builtin:len") => `(tactic| (k_here; (with_reducible show wpAny _ _ (call (Value.builtin "len") [Value.ref _]) _ _ _); k_dflt (refine' len_ints ?hl ?hi ?hlen ?_; (case hl => walk_at "LIST"); (case hi => with_reducible assumption); (case hlen => (refine way_short (Pack.out (by with_reducible assumption)) (by with_reducible assumption) (by with_reducible assumption) (by with_reducible assumption) (by with_reducible assumption)))); intro tl' tkl'; (try dsimp only)))

theorem turn_c {w : World} {p : Program} {loose : List Str} {mean : ExcName → Option Value} {mg mb : Str → Option Value} {base g0 : Heap} {L : Addr} {s : Shared} {s₀ : Shared} {A₀ : Around} {dp un : Nat} {gd : Option (List Code)}
    {nm1 qual : Str} {prms : Arguments} {body fb : List Stmt} {scope : Scope} {dV kV doc pm cdv' ct oc : Value} {an od : Option Addr} {osl : Array (Option Value)} {tgt it : Expr} {fp : Pos}
    (hb : (hd.heap_39 w.params).lookup 866 = some ⟨oc, od, .func (fnOf nm1 qual prms body scope dV kV doc pm an cdv' ct), osl⟩) (hf : body[10]? = some (.For tgt it fb [] fp))
    (B : Below A₀ base [] g0) (X : (hd.heap_39 w.params).In g0) (T : Top p loose mean mg mb g0) (S : Sys g0) (hdp : dp + 100 < recursionLimit) (hun : un + 1000 < cLine) {P : TP} (hP : TFix PySem.Challenge.rw_fq0029_01.row.prog w L P)
    {v0 v1 v2 v6 vo : Option Value} {va vb vc t1 : Int} {ta tb tc : Tok} (va0 : 0 ≤ va) (va1 : va < P.many) (vb0 : 0 ≤ vb) (vb1 : vb < P.many) (htop : IsTop P.ab va vb t1) (hs : TS PySem.Challenge.rw_fq0029_01.row.prog w g0 L P s₀ (mapP v0 v1 v2 (some (.int vc tc)) (some (.int vb tb)) (some (.int va ta)) v6 vo P) s) :
    wpAny (model PySem.Challenge.rw_fq0029_01.row.prog w) (ktrTop dp un gd qual scope L 866 cdv' [("other", L + 1 + 1 + 1 + 1), ("above", L + 1 + 1 + 1), ("many", L + 1 + 1), ("s", L + 1)] []) (execs ((fb.drop 3).take 2) (envX qual scope L 866 cdv' [("other", L + 1 + 1 + 1 + 1), ("above", L + 1 + 1 + 1), ("many", L + 1 + 1), ("s", L + 1)])) (fun f s' => f = .next ∧ Stop (∃ v1', TS PySem.Challenge.rw_fq0029_01.row.prog w g0 L P s₀ (mapP v0 v1' v2 (some (.int vc tc)) (some (.int vb tb)) (some (.int va ta)) v6 vo P) s')) Never s := by
  revert X
  k_fill
  intro X
  refine' use_eq hb ?hh ?_
  case hh => k_is
  intro e
  cases e
  cases hf
  clear hb
  obtain ⟨h, tk, gg, x, t, n, ps, Wt, rfl, hgb, F, N, hW, hWI⟩ := hs
  have ptf := Pack.mk (@TFix.tf _ _ _ _ hP)
  have pP := Pack.mk hP

  obtain ⟨hx0, hx1, hz, hkK, hkH, hkH2, hw6, hws⟩ := hW
  have hD := hP.D
  have hDH := hP.dH
  have hKT := hP.kT
  have c3 := hP.c3
  have hTt := hD.toTree
  have hm100 : P.many ≤ 100 := by have := hD.m1; omega
  obtain ⟨tt, ttk, hvv, htop'⟩ := hP.val va vb va0 va1 vb0 vb1
  obtain rfl := htop.uniq hTt va0 va1 htop'
  have hrt := htop.range hTt va0 va1
  have ht0 : 0 ≤ t1 := hrt.1
  have ht1 : t1 < P.many := hrt.2
  have hab : ∀ k, 0 < k → k < P.many → 0 ≤ P.ab k ∧ P.ab k < k ∧ ∃ t, (Value.none :: P.ys).toArray[k.toNat]? = some (.int (P.ab k) t) := fun k k0 k1 => by
    have := hD.up k k0 k1
    exact ⟨this.1, this.2, hD.yv k k0 k1⟩
  have pW := Pack.mk hWI
  have pz := Pack.mk (And.intro hz (And.intro hkH (And.intro hkH2 (And.intro hw6 hws))))
  have pT := Pack.mk hTt
  have ptop := Pack.mk htop
  clear hP hWI hz hkH hkH2 hw6 hws hTt htop hrt htop'
  dsimp only [ledT] at N
  show wpAny _ _ (execs [_, _] _) _ _ _
  k_steps
  rename Fr _ _ _ _ => F1
  rename News _ _ _ _ => N1
  rename_i D0 hA l0 tkA Dt hB lt
  have N2 := news_sub (l' := (Dt, { cls := .type "tuple", data := .seq #[Value.int va ta, Value.int vb tb, Value.int t1 ttk] }) :: (P.I, P.io) :: (P.D, P.oD) :: (P.lm, W.listOf P.zs.toArray P.nm_) :: (P.la, W.listOf (Value.none :: P.ys).toArray 0) :: (P.ls, W.listOf #[Value.int x t] n) :: (L + 1 + 1 + 1 + 1, P.o4) :: (L + 1 + 1 + 1, P.o3) :: (L + 1 + 1, P.o2) :: (L + 1, P.o1) :: (613, tabObj ps) :: Wt) N1 (fun q hq => by
    rcases List.mem_cons.mp hq with rfl | hq
    · exact .head _
    · exact .tail _ (.tail _ hq))
  clear N1
  obtain ⟨wa, hwa⟩ := way_ex pT.out (Nat.le_refl _) va0 va1
  obtain ⟨wb, hwb⟩ := way_ex pT.out (Nat.le_refl _) vb0 vb1
  obtain ⟨wt, hwt⟩ := way_ex pT.out (Nat.le_refl _) ht0 ht1
  refine stopE ⟨Dt, _, _, _, _, rfl, rfl, F1, N2, .head _, rfl, rfl, by show 3 ≤ sizeLine; rw [sizeLine_eq]; decide, fun s9 hs9 => ?_⟩
  refine rest_gen (J := fun i ys nw => nw = (Dt, { cls := .type "tuple", data := .seq #[Value.int va ta, Value.int vb tb, Value.int t1 ttk] }) :: (P.I, P.io) :: (P.D, P.oD) :: (P.lm, W.listOf P.zs.toArray P.nm_) :: (P.la, W.listOf (Value.none :: P.ys).toArray 0) :: (P.ls, W.listOf #[Value.int x t] n) :: (L + 1 + 1 + 1 + 1, P.o4) :: (L + 1 + 1 + 1, P.o3) :: (L + 1 + 1, P.o2) :: (L + 1, P.o1) :: (613, tabObj ps) :: Wt ∧ IntsAre ys (([(wa.length : Int), wb.length, wt.length] : List Int).take i)) ⟨rfl, .nil⟩ ?_ ?_
  · rintro i v ys nw I oI C oC Dc m₂ h9 tk9 E' hi hv ⟨rfl, hys⟩ hC hx3 F3 N3 off3 ne3
    obtain ⟨g9, rfl⟩ := hs9
    obtain ⟨u, tu, wu, rfl, u0, u1, hwu, hup⟩ : ∃ u tu wu, v = .int u tu ∧ 0 ≤ u ∧ u < P.many ∧ Way P.ab u wu ∧ (([(wa.length : Int), wb.length, wt.length] : List Int).take i) ++ [(wu.length : Int)] = ([(wa.length : Int), wb.length, wt.length] : List Int).take (i + 1) := by
      have h3 : i = 0 ∨ i = 1 ∨ i = 2 := by
        have : i < 3 := hi
        omega
      rcases h3 with rfl | rfl | rfl
      · exact ⟨va, ta, wa, (Option.some.inj hv).symm, va0, va1, hwa, rfl⟩
      · exact ⟨vb, tb, wb, (Option.some.inj hv).symm, vb0, vb1, hwb, rfl⟩
      · exact ⟨t1, ttk, wt, (Option.some.inj hv).symm, ht0, ht1, hwt, rfl⟩
    have po := Pack.mk off3
    have pn := Pack.mk ne3
    clear off3 ne3 hv l0 lt
    k_steps
    rename Fr _ _ _ _ => F9
    rename News _ _ _ _ => N9
    rename Way _ _ _ => hW9
    refine stopE (PyProof.Rows.LCg.CompEnd.intro F9 N9 _ (fun q hq => .tail _ hq) po.out (.head _) ⟨rfl, ?_⟩)
    rw [← hup, way_uniq hwu hW9]
    exact ints_push hys _ _
  · rintro ys nw ⟨rfl, hys⟩ D2 h2 tk2 F3 N3 off3
    simp only [PyProof.Rows.LCg.Off1] at off3
    clear l0 lt F1 N2
    obtain ⟨g9, rfl⟩ := hs9
    obtain ⟨y1, y2, y3, rfl⟩ : ∃ y1 y2 y3, ys = [Value.int (wa.length : Int) y1, Value.int (wb.length : Int) y2, Value.int (wt.length : Int) y3] := by
      obtain ⟨y1, q1⟩ := hys.get 0 _ rfl
      obtain ⟨y2, q2⟩ := hys.get 1 _ rfl
      obtain ⟨y3, q3⟩ := hys.get 2 _ rfl
      have hl := hys.length
      match ys, hl with
      | [z0, z1, z2], _ => cases q1; cases q2; cases q3; exact ⟨_, _, _, rfl⟩
    have pw := Pack.mk (And.intro hwa (And.intro hwb hwt))
    clear hys hwa hwb hwt off3
    k_steps
    rename Fr _ _ _ _ => F5
    rename News _ _ _ _ => N5
    show wpAny _ (ktrTop _ _ _ _ _ _ _ _ _ _) (call (.ref 610) [.ref P.fa, .int (nm va) _]) _ _ _
    have hNb : NbOk P.many P.ab (und P.sb P.ns) := fun x y => und_nb pP.out.TB.toTreeG pT.out
    refine spl_spec B F5 X T rfl S (R := DistR P.many P.ab va) (pP.out.U.ug (fun q hq => N5 q ?hm) S) (fun n _ k hk => ?cl) (fun n => ?nl) (Nat.le_trans (pP.out.TB.nlen pT.out) (by decide)) (pP.out.TB.inN va0 va1) (dist_zero pT.out va0 va1) (fun S' n k v hG hn hk hkS hd => dist_step pT.out hNb va0 va1 hG hn hk hkS hd) (by walk_at "ROOM") (by walk_at "UNITS") fun D8 oD8 kvs h8 tk8 hk8 hn8 hD8 hdi hxin hclo hval => ?_
    case hm => exact .tail _ (.tail _ (.tail _ (.tail _ (.tail _ (.tail _ (.tail _ (.tail _ (.tail _ (.tail _ (.tail _ (.tail _ (pz.out.2.2.1 q hq))))))))))))
    case cl =>
      obtain ⟨j, j0, j1, ⟨_, rfl⟩ | ⟨rfl, _⟩⟩ := (hNb _ _).mp hk
      · exact pP.out.TB.inN (by omega) j1
      · exact pP.out.TB.inN (pT.out.up j j0 j1).1 (by have := (pT.out.up j j0 j1).2; omega)
    case nl =>
      have q1 := len_und pP.out.TB.slen (pP.out.TB.toTreeG.irr pT.out) (l := P.ns) (y := n)
      have q2 := pP.out.TB.nlen pT.out
      omega
    have hbin := grown_all pT.out hNb va0 va1 hxin hclo vb0 vb1
    obtain ⟨v9, t9, hv9, hd9⟩ := hval _ hbin
    have e9 : v9 = (wa.length : Int) + wb.length - 2 * wt.length := by
      have := dist_uniq pT.out vb0 vb1 hd9 ptop.out.symm pw.out.2.1 pw.out.1 pw.out.2.2
      omega
    have F6 := fr_onto F5 hk8
    have F7 : Fr g0 L h8 (fun z => if z = Str.ofString "depth" then some (.ref D2) else lk _ z) := F6
    rw [lk_set] at F7
    replace F7 : Fr g0 L h8 (lk _) := F7
    clear F6
    have N6 := news_addN F5 (news_onto N5 hk8) hn8 hD8
    have pd := Pack.mk hd9
    clear F5 N5 hn8 hD8 hxin hclo hval hbin hd9 hNb hk8
    k_steps
    have e10 : v9 = ([(wa.length : Int), wb.length, wt.length].getD (Int.toNat 0) 0 + [(wa.length : Int), wb.length, wt.length].getD (Int.toNat 1) 0 - 2 * [(wa.length : Int), wb.length, wt.length].getD (Int.toNat 2) 0) := e9
    show wpAny _ (ktrTop _ _ _ _ _ _ _ _ _ _) (compareOp _ (.int v9 _) (.int _ _)) _ _ _
    refine ne_int ?_
    rw [← e10, bne_self_eq_false]
    k_steps
    obtain ⟨hz, hkH, hkH2, hw6, hws⟩ := pz.out
    exact ⟨some (.ref D2), _, _, _, x, t, n, ps, Wt, rfl, (by repeat (first | exact hgb | refine bare_push ?_)), fr_eq F7 (by walk_at "SAME"), fun q hq => N6 q (.tail _ (.tail _ (.tail _ hq))), ⟨hx0, hx1, hz, hkK, hkH, hkH2, hw6, hws⟩, pW.out⟩
end
section
local macro_rules | `(tactic| walk_at "nothing") => `(tactic| fail "nothing")
local macro_rules | `(tactic| walk_at "nothing") => `(tactic| fail "nothing")
local macro_rules | `(tactic| walk_at "nothing") => `(tactic| fail "nothing")
local macro_rules | `(tactic| walk_at "nothing") => `(tactic| fail "nothing")
local macro_rules | `(tactic| walk_at "nothing") => `(tactic| fail "nothing")
local macro_rules | `(tactic| walk_at "nothing") => `(tactic| fail "nothing")
local macro_rules | `(tactic| walk_at "nothing") => `(tactic| fail "nothing")
local macro_rules | `(tactic| walk_at "nothing") => `(tactic| fail "nothing")
local macro_rules | `(tactic| walk_at "nothing") => `(tactic| fail "nothing")
local macro_rules | `(tactic| walk_at "nothing") => `(tactic| fail "nothing")
local macro_rules | `(tactic| walk_at "nothing") => `(tactic| fail "nothing")
local macro_rules | `(tactic| walk_at "nothing") => `(tactic| fail "nothing")
local macro_rules | `(tactic| walk_at "exec Assign cons ListComp") => `(tactic| (k_here; (with_reducible show wpAny _ _ (exec (Stmt.Assign _ (Expr.ListComp _ [Comprehension.mk _ (Expr.Tuple _ _ _) _ _] _ _) _) _) _ _ _); k_dflt (refine' Assign_ListComp_Tu ?hF ?hLe ?hsw ?hclos ?hcell ?hkind ?hnames ?hx ?hy ?hp ?_ ?hs; (case hF => k_asm); (case hLe => rfl); (case hsw => with_unfolding_all rfl); (case hclos => with_unfolding_all rfl); (case hcell => decide); (case hkind => rfl); (case hnames => decide); (case hx => with_unfolding_all rfl); (case hy => rfl); (case hp => rfl); (case hs => intro _; with_unfolding_all rfl))))
local macro_rules | `(tactic| walk_at "call ref") => `(tactic| ((first
  | (with_reducible show wpAny _ _ (call (Value.ref 624) _) _ _ _)
  | (with_reducible show wpAny _ _ (call (Value.ref 610) _) _ _ _)); refine stopI ?_))
local macro_rules | `(tactic| walk_at "call ref") => `(tactic| (k_here; (with_reducible show wpAny _ _ (call (Value.ref 854) [Value.ref _, Value.int _ _]) _ _ _); k_dflt (refine' next_N ?B ?F ?X ?T ?hk ?S ?N ?U ?a ?b ?c ?d ?hdp ?hun ?_; (case B => k_asm); (case F => k_asm); (case X => k_asm); (case T => k_asm); (case hk => rfl); (case S => assumption); (case N => k_asm); (case U => k_updF); (case a => assumption); (case b => assumption); (case c => omega); (case d => omega); (case hdp => walk_at "ROOM"); (case hun => walk_at "UNITS")); intro x' t' n' r' tr' h' tk' hx0' hx1' hr0' hr1' F' N'; (try dsimp only at N'); (try dsimp only); (try k_sweep)))
local macro_rules | `(tactic| walk_at "eval ListComp") => `(tactic| (k_here; (with_reducible show wpAny _ _ (eval (Expr.ListComp _ [Comprehension.mk _ (Expr.Call _ _ _ _) _ _] _ _) _) _ _ _); k_dflt (refine' PyProof.Rows.LCg.ListComp_U ?hF ?hclos ?hcell ?hkind ?hnames ?hx ?_ ?hs; (case hF => k_asm); (case hclos => with_unfolding_all rfl); (case hcell => decide); (case hkind => rfl); (case hnames => decide); (case hx => with_unfolding_all rfl); (case hs => intro _; with_unfolding_all rfl))))
local macro_rules | `(tactic| walk_at "CompSrc") => `(tactic| refine stopI ?_)
local macro_rules | `(tactic| walk_at "pyIter ref") => `(tactic| refine stopI ?_)
local macro_rules | `(tactic| walk_at "compareOp NotEq int int") => `(tactic| refine stopI ?_)
local macro_rules | `(tactic| walk_at "compareOp NotEq bool bool") => `(tactic| refine stopI ?_)
local macro_rules | `(tactic| walk_at "subscriptTail") => `(tactic| (k_here; (with_reducible show wpAny _ _ (subscriptTail _ _ (Value.ref _) (Value.ref _)) _ _ _); k_dflt (refine' item_H ?N ?hm ?hD ?hK ?hKn ?ht ?hu ?hv ?_ ?hs ?hg; (case N => k_asm); (case hm => k_mem); (case hD => with_reducible assumption); (case hK => with_reducible assumption); (case hKn => (intro p hp; (repeat (refine List.mem_cons_of_mem _ ?_)); (revert hp; revert p; with_reducible assumption))); (case ht => k_mem); (case hu => walk_at "UNITS"); (case hv => with_reducible assumption); (case hs => with_unfolding_all rfl); (case hg => intro _; with_unfolding_all rfl)); intro tk'; (try dsimp only)))
local macro_rules | `(tactic| walk_at "call ref") => `(tactic| (k_here; (with_reducible show wpAny _ _ (call (Value.ref 861) [Value.ref _, Value.int _ _]) _ _ _); k_dflt (refine' way_spec ?B ?F ?X ?T ?hk ?S ?hl ?hv0 ?hv1 ?hm ?hroot ?hab ?hdp ?hun ?_; (case B => k_asm); (case F => k_asm); (case X => k_asm); (case T => k_asm); (case hk => rfl); (case S => assumption); (case hl => walk_at "LIST"); (case hv0 => with_reducible assumption); (case hv1 => with_reducible assumption); (case hm => with_reducible assumption); (case hroot => rfl); (case hab => with_reducible assumption); (case hdp => walk_at "ROOM"); (case hun => walk_at "UNITS")); intro D' vs' l' n' h' tk' hk' hq' hD' hI' hW'; (have N' := news_add (by k_asm) (news_onto (by k_asm) hk') hq' hD'); (have l1' := news_lt (by k_asm) hq'); (have F' := fr_onto (by k_asm) hk'); (try clear hk' hq' hD'); (try k_lt l1'); (try dsimp only); (try k_sweep)))
local macro_rules | `(tactic| walk_at "call builtin:len") => `(tactic| (k_here; (with_reducible show wpAny _ _ (call (Value.builtin "len") [Value.ref _]) _ _ _); k_dflt (refine' len_ints ?hl ?hi ?hlen ?_; (case hl => walk_at "LIST"); (case hi => with_reducible assumption); (case hlen => (refine way_short (Pack.out (by with_reducible assumption)) (by with_reducible assumption) (by with_reducible assumption) (by with_reducible assumption) (by with_reducible assumption)))); intro tl' tkl'; (try dsimp only)))

theorem turn_d {w : World} {p : Program} {loose : List Str} {mean : ExcName → Option Value} {mg mb : Str → Option Value} {base g0 : Heap} {L : Addr} {s : Shared} {s₀ : Shared} {A₀ : Around} {dp un : Nat} {gd : Option (List Code)}
    {nm1 qual : Str} {prms : Arguments} {body fb : List Stmt} {scope : Scope} {dV kV doc pm cdv' ct oc : Value} {an od : Option Addr} {osl : Array (Option Value)} {tgt it : Expr} {fp : Pos}
    (hb : (hd.heap_39 w.params).lookup 866 = some ⟨oc, od, .func (fnOf nm1 qual prms body scope dV kV doc pm an cdv' ct), osl⟩) (hf : body[10]? = some (.For tgt it fb [] fp))
    (B : Below A₀ base [] g0) (X : (hd.heap_39 w.params).In g0) (T : Top p loose mean mg mb g0) (S : Sys g0) (hdp : dp + 100 < recursionLimit) (hun : un + 1000 < cLine) {P : TP} (hP : TFix PySem.Challenge.rw_fq0029_01.row.prog w L P)
    {v0 v1 v6 vo : Option Value} {va vb vc t1 : Int} {ta tb tc tk1 : Tok} (va0 : 0 ≤ va) (va1 : va < P.many) (vb0 : 0 ≤ vb) (vb1 : vb < P.many) (vc0 : 0 ≤ vc) (vc1 : vc < P.many) (htop : IsTop P.ab va vb t1) (hs : TS PySem.Challenge.rw_fq0029_01.row.prog w g0 L P s₀ (mapP v0 v1 (some (.int (nm t1) tk1)) (some (.int vc tc)) (some (.int vb tb)) (some (.int va ta)) v6 vo P) s) :
    wpAny (model PySem.Challenge.rw_fq0029_01.row.prog w) (ktrTop dp un gd qual scope L 866 cdv' [("other", L + 1 + 1 + 1 + 1), ("above", L + 1 + 1 + 1), ("many", L + 1 + 1), ("s", L + 1)] []) (execs ((fb.drop 5).take 3) (envX qual scope L 866 cdv' [("other", L + 1 + 1 + 1 + 1), ("above", L + 1 + 1 + 1), ("many", L + 1 + 1), ("s", L + 1)])) (fun f s' => f = .next ∧ Stop (∃ v0', TS PySem.Challenge.rw_fq0029_01.row.prog w g0 L P s₀ (mapP v0' v1 (some (.int (nm t1) tk1)) (some (.int vc tc)) (some (.int vb tb)) (some (.int va ta)) v6 vo P) s')) Never s := by
  revert X
  k_fill
  intro X
  refine' use_eq hb ?hh ?_
  case hh => k_is
  intro e
  cases e
  cases hf
  clear hb
  obtain ⟨h, tk, gg, x, t, n, ps, Wt, rfl, hgb, F, N, hW, hWI⟩ := hs
  have ptf := Pack.mk (@TFix.tf _ _ _ _ hP)
  have pP := Pack.mk hP

  obtain ⟨hx0, hx1, hz, hkK, hkH, hkH2, hw6, hws⟩ := hW
  have hD := hP.D
  have c3 := hP.c3
  have hTt := hD.toTree
  have n613 : @Ne Nat P.ls 613 := by have := hP.a1; have := hP.a2; omega
  have hm100 : P.many ≤ 100 := by have := hD.m1; omega
  have hrt := htop.range hTt va0 va1
  have ht0 : 0 ≤ t1 := hrt.1
  have ht1 : t1 < P.many := hrt.2
  have hab : ∀ k, 0 < k → k < P.many → 0 ≤ P.ab k ∧ P.ab k < k ∧ ∃ t, (Value.none :: P.ys).toArray[k.toNat]? = some (.int (P.ab k) t) := fun k k0 k1 => by
    have := hD.up k k0 k1
    exact ⟨this.1, this.2, hD.yv k k0 k1⟩
  have pW := Pack.mk hWI
  have pz := Pack.mk (And.intro hz (And.intro hkH (And.intro hkH2 (And.intro hw6 hws))))
  have pT := Pack.mk hTt
  have ptop := Pack.mk htop
  clear hP hWI hz hkH hkH2 hw6 hws hTt htop hrt
  dsimp only [ledT] at N
  show wpAny _ _ (execs [_, _, _] _) _ _ _
  k_steps
  rename Fr _ _ _ _ => F4
  rename News _ _ _ _ => N4
  show wpAny _ (ktrTop _ _ _ _ _ _ _ _ _ _) (call (.ref 624) [.ref P.gr, .int (nm t1) _, .int (nm vc) _]) _ _ _
  obtain ⟨hz, hkH, hkH2, hw6, hws⟩ := pz.out
  refine lca_line B F4 X T rfl S N4 (ptf.out x t n ps Wt) hz pP.out.G hkH hw6 (.tail _ (.tail _ (.tail _ (.tail _ (.head _))))) hws n613 pT.out pP.out.TB ht0 ht1 vc0 vc1 (by walk_at "ROOM") (by walk_at "UNITS") fun u1 tku1 h1 tkx ps1 W1 htop1 u10 u11 hsub1 hz1 hw61 hws1 hof1 F5 N5 => ?_
  have pW1 := Pack.mk (hof1 P.I P.io (N5 _ (.head _)).1 pP.out.i4 pW.out)
  have ptop1 := Pack.mk htop1
  have hkK1 : ∀ p ∈ P.K, p ∈ W1 := fun p hp => hsub1 p (hkK p hp)
  have pz1 := Pack.mk (And.intro hz1 (And.intro hsub1 (And.intro hw61 hws1)))
  clear F4 N4 hw61 hof1
  clear hz hkH hkH2 hw6 hws hz1 hsub1 hws1 htop1
  dsimp only [ledT] at N5
  k_steps
  rename Fr _ _ _ _ => F6
  rename News _ _ _ _ => N6
  rename_i Db hA hLl lb hB tA tB tC
  have nDb : @Ne Nat Db 613 := Nat.ne_of_gt lb.2.2.2.2.2.2.2.2.2.1
  have nDI : @Ne Nat P.I Db := Nat.ne_of_lt lb.1
  have nDs : @Ne Nat P.ls Db := Nat.ne_of_lt lb.2.2.2.2.1
  have aDb : ∀ p ∈ W1, @Ne Nat p.1 Db := allLt_ne lb.2.2.2.2.2.2.2.2.2.2
  have plb := Pack.mk lb
  clear lb
  show wpAny _ (ktrTop _ _ _ _ _ _ _ _ _ _) (call (.ref 624) [.ref P.gr, .int (nm vb) _, .int (nm vc) _]) _ _ _
  obtain ⟨hz1, hsub1, hw61, hws1⟩ := pz1.out
  obtain ⟨hz, hkH, hkH2, hw6, hws⟩ := pz.out
  refine lca_line B F6 X T rfl S N6 (.next nDb (ptf.out x t n ps1 W1)) hz1 pP.out.G (fun p hp => hsub1 p (hkH p hp)) hw61 (.tail _ (.tail _ (.tail _ (.tail _ (.tail _ (.head _)))))) hws1 n613 pT.out pP.out.TB vb0 vb1 vc0 vc1 (by walk_at "ROOM") (by walk_at "UNITS") fun u2 tku2 h2 tkx2 ps2 W2 htop2 u20 u21 hsub2 hz2 hw62 hws2 hof2 F7 N7 => ?_
  have hWI2 := hof2 P.I P.io (N7 _ (.tail _ (.head _))).1 pP.out.i4 pW1.out
  have hWD2 := hof2 Db _ (N7 _ (.head _)).1 (fun vs q e => by cases e) aDb
  clear F6 N6 hof2
  dsimp only [ledT] at N7
  k_steps
  rename Fr _ _ _ _ => F8
  rename News _ _ _ _ => N8
  show wpAny _ (ktrTop _ _ _ _ _ _ _ _ _ _) (call (.ref 624) [.ref P.gr, .int (nm va) _, .int (nm u2) _]) _ _ _
  refine lca_line B F8 X T rfl S N8 (.next nDb (ptf.out x t n ps2 W2)) hz2 pP.out.G (fun p hp => hsub2 p (hsub1 p (hkH p hp))) hw62 (.tail _ (.tail _ (.tail _ (.tail _ (.tail _ (.head _)))))) hws2 n613 pT.out pP.out.TB va0 va1 u20 u21 (by walk_at "ROOM") (by walk_at "UNITS") fun u3 tku3 h3 tkx3 ps3 W3 htop3 u30 u31 hsub3 hz3 hw63 hws3 hof3 F9 N9 => ?_
  obtain rfl := IsTop.assoc pT.out va0 va1 ptop.out ptop1.out htop2 htop3
  have hWD3 : ∀ p ∈ W3, @Ne Nat p.1 Db := hof3 Db _ (N9 _ (.head _)).1 (fun vs q e => by cases e) hWD2
  have hWI3 := hof3 P.I P.io (N9 _ (.tail _ (.head _))).1 pP.out.i4 hWI2
  have pfin := Pack.mk (And.intro hz3 (And.intro (fun p hp => hsub3 p (hsub2 p (hkK1 p hp)) : ∀ p ∈ P.K, p ∈ W3) (And.intro (fun p hp => hsub3 p (hsub2 p (hsub1 p (hkH p hp))) : ∀ p ∈ P.H, p ∈ W3) (And.intro (fun p hp => hsub3 p (hsub2 p (hsub1 p (hkH2 p hp))) : ∀ p ∈ P.H2, p ∈ W3) (And.intro hw63 (And.intro hws3 hWI3))))))
  clear F8 N8 hz1 hsub1 hws1 hw61 hz hkH hkH2 hw6 hws hz2 hsub2 hw62 hws2 htop2 hof3 hz3 hsub3 hw63 hws3 htop3 hWI2 hWI3 hWD2 aDb
  dsimp only [ledT] at N9
  have lb := plb.out
  have b1 : @Ne Nat P.D Db := Nat.ne_of_lt lb.2.1
  have b2 : @Ne Nat P.lm Db := Nat.ne_of_lt lb.2.2.1
  have b3 : @Ne Nat P.la Db := Nat.ne_of_lt lb.2.2.2.1
  have b4 : @Ne Nat (L + 1 + 1 + 1 + 1) Db := Nat.ne_of_lt lb.2.2.2.2.2.1
  have b5 : @Ne Nat (L + 1 + 1 + 1) Db := Nat.ne_of_lt lb.2.2.2.2.2.2.1
  have b6 : @Ne Nat (L + 1 + 1) Db := Nat.ne_of_lt lb.2.2.2.2.2.2.2.1
  have b7 : @Ne Nat (L + 1) Db := Nat.ne_of_lt lb.2.2.2.2.2.2.2.2.1
  have b8 : @Ne Nat 613 Db := Nat.ne_of_lt lb.2.2.2.2.2.2.2.2.2.1
  clear lb
  k_steps
  rename Fr _ _ _ _ => F10
  rename News _ _ _ _ => N10
  show wpAny _ (ktrTop _ _ _ _ _ _ _ _ _ _) (compareOp _ (.int (nm u1) _) (.int (nm u1) _)) _ _ _
  refine ne_int ?_
  rw [bne_self_eq_false]
  clear b1 b2 b3 b4 b5 b6 b7 b8 hWD3
  k_steps
  rename Fr _ _ _ _ => F11
  rename News _ _ _ _ => N11
  rename Way _ _ _ => hWy
  have ew := way_told pT.out va0 va1 ptop.out hWy
  show wpAny _ (ktrTop _ _ _ _ _ _ _ _ _ _) (compareOp _ (.bool _) (.bool _)) _ _ _
  refine EqBoolInt.of_rcne (SeqAt.RcNeAt.bool_bool _ _) ?_
  rw [ew, beq_self_eq_true]
  k_steps
  obtain ⟨hz3, hk3, hh3, hh23, hw63, hws3, hWI3⟩ := pfin.out
  exact ⟨some (.ref Db), _, _, _, x, t, n, ps3, W3, rfl, (by repeat (first | exact hgb | refine bare_push ?_)), fr_eq F11 (by walk_at "SAME"), fun q hq => N11 q (.tail _ (.tail _ hq)), ⟨hx0, hx1, hz3, hk3, hh3, hh23, hw63, hws3⟩, hWI3⟩
end
/-- one whole turn -/
theorem turn_all {w : World} {p : Program} {loose : List Str} {mean : ExcName → Option Value} {mg mb : Str → Option Value} {base g0 : Heap} {L : Addr} {s : Shared} {s₀ : Shared} {A₀ : Around} {dp un : Nat} {gd : Option (List Code)}
    {nm1 qual : Str} {prms : Arguments} {body fb : List Stmt} {scope : Scope} {dV kV doc pm cdv' ct oc : Value} {an od : Option Addr} {osl : Array (Option Value)} {tgt it : Expr} {fp : Pos}
    (hb : (hd.heap_39 w.params).lookup 866 = some ⟨oc, od, .func (fnOf nm1 qual prms body scope dV kV doc pm an cdv' ct), osl⟩) (hf : body[10]? = some (.For tgt it fb [] fp))
    (B : Below A₀ base [] g0) (X : (hd.heap_39 w.params).In g0) (T : Top p loose mean mg mb g0) (S : Sys g0) (hdp : dp + 100 < recursionLimit) (hun : un + 1000 < cLine) {P : TP} (hP : TFix PySem.Challenge.rw_fq0029_01.row.prog w L P)
    {v0 v1 v2 v3 v4 v5 v6 vo : Option Value} (hs : TS PySem.Challenge.rw_fq0029_01.row.prog w g0 L P s₀ (mapP v0 v1 v2 v3 v4 v5 v6 vo P) s) :
    wpAny (model PySem.Challenge.rw_fq0029_01.row.prog w) (ktrTop dp un gd qual scope L 866 cdv' [("other", L + 1 + 1 + 1 + 1), ("above", L + 1 + 1 + 1), ("many", L + 1 + 1), ("s", L + 1)] []) (execs (fb.take 1 ++ ((fb.drop 1).take 2 ++ ((fb.drop 3).take 2 ++ (fb.drop 5).take 3))) (envX qual scope L 866 cdv' [("other", L + 1 + 1 + 1 + 1), ("above", L + 1 + 1 + 1), ("many", L + 1 + 1), ("s", L + 1)])) (fun f s' => f = .next ∧ ∃ v0' v1' v2' v3' v4' v5', TS PySem.Challenge.rw_fq0029_01.row.prog w g0 L P s₀ (mapP v0' v1' v2' v3' v4' v5' v6 vo P) s') Never s := by
  refine execs_app (wpAny_mono (turn_a hb hf B X T S hdp hun hP hs) (fun f s1 h1 => ?_) fun _ _ e => e)
  obtain ⟨rfl, va, ta, vb, tb, vc, tc, ⟨va0, va1⟩, ⟨vb0, vb1⟩, ⟨vc0, vc1⟩, h1⟩ := h1
  refine execs_app (wpAny_mono (turn_b hb hf B X T S hdp hun hP va0 va1 vb0 vb1 h1) (fun f s2 h2 => ?_) fun _ _ e => e)
  obtain ⟨rfl, t1, tk1, htop, _, _, h2⟩ := h2
  refine execs_app (wpAny_mono (turn_c hb hf B X T S hdp hun hP va0 va1 vb0 vb1 htop h2) (fun f s3 h3 => ?_) fun _ _ e => e)
  obtain ⟨rfl, v1', h3⟩ := h3
  refine wpAny_mono (turn_d hb hf B X T S hdp hun hP va0 va1 vb0 vb1 vc0 vc1 htop h3) (fun f s4 h4 => ?_) fun _ _ e => e
  obtain ⟨rfl, v0', h4⟩ := h4
  exact ⟨rfl, _, _, _, _, _, _, h4⟩
/-- after the turns -/
def Law7 (prog : Program) (w : World) (g0 : Heap) (L sc : Addr) (s₀ s' : Shared) : Prop :=
  ∃ (P : TP) (v0 v1 v2 v3 v4 v5 v6 vo : Option Value) (h : Heap) (tk : Nat) (gg : Array GenState) (x : Int) (t : Tok) (n : Nat) (ps : Array Value) (Wt : List (Addr × Obj)), P.sc = sc ∧ TFix prog w L P ∧ s' = { s₀ with heap := h, toks := tk, gens := gg } ∧ AllBare gg ∧ Fr g0 L h (mapP v0 v1 v2 v3 v4 v5 v6 vo P) ∧ News g0 L h (ledT L P.ls P.la P.lm P.D x t n P.nm_ P.ys P.zs P.o1 P.o2 P.o3 P.o4 P.oD ps Wt) ∧ TurnW prog w g0 P.ls P.D P.H P.K P.H2 Wt ps x
theorem law_7 {w : World} {p : Program} {loose : List Str} {mean : ExcName → Option Value} {mg mb : Str → Option Value} {base g0 : Heap} {L sc : Addr} {s : Shared} {s₀ : Shared} {A₀ : Around} {dp un : Nat} {gd : Option (List Code)}
    {nm1 qual : Str} {prms : Arguments} {body : List Stmt} {scope : Scope} {dV kV doc pm cdv' ct oc : Value} {an od : Option Addr} {osl : Array (Option Value)}
    (hb : (hd.heap_39 w.params).lookup 866 = some ⟨oc, od, .func (fnOf nm1 qual prms body scope dV kV doc pm an cdv' ct), osl⟩)
    (B : Below A₀ base [] g0) (X : (hd.heap_39 w.params).In g0) (T : Top p loose mean mg mb g0) (S : Sys g0) (h6 : Law6 PySem.Challenge.rw_fq0029_01.row.prog w g0 L sc s₀ s) (hg0 : AllBare s₀.gens) (hdp : dp + 100 < recursionLimit) (hun : un + 1000 < cLine) :
    wpAny (model PySem.Challenge.rw_fq0029_01.row.prog w) (ktrTop dp un gd qual scope L 866 cdv' [("other", L + 1 + 1 + 1 + 1), ("above", L + 1 + 1 + 1), ("many", L + 1 + 1), ("s", L + 1)] []) (execs ((body.drop 10).take 1) (envX qual scope L 866 cdv' [("other", L + 1 + 1 + 1 + 1), ("above", L + 1 + 1 + 1), ("many", L + 1 + 1), ("s", L + 1)])) (fun f s' => f = .next ∧ Stop (Law7 PySem.Challenge.rw_fq0029_01.row.prog w g0 L sc s₀ s')) Never s := by
  revert X
  k_fill
  intro X
  refine' use_eq hb ?hh ?_
  case hh => k_is
  intro e
  cases e
  obtain ⟨h, tk, ls, la, lm, gr, lf, D, fa, x, t, tm, n, nm_, ys0, zs, many, ab, o1, o2, o3, o4, oD, H, K, H2, ns, sb, pb, xs, nd2, ad2, u1, u2, u3, rfl, F, N, hfix, ⟨u4, c4⟩, hx0, hx1, hG, hTB, hoff, hDo, hHK, hDH, hKT, hval, hU⟩ := h6
  have hD := hfix.D
  have f1 := hfix.o1
  have f2 := hfix.o2
  have f3 := hfix.o3
  have f4 := hfix.e1
  have f5 := hfix.e2
  have f6 := hfix.e3
  have f7 := hfix.e7
  have c1 := hfix.c1
  have c2 := hfix.c2
  have c3 := hfix.c3
  have m0 := hD.m0
  have m1 := hD.m1
  have hm100 : many ≤ 100 := by omega
  have hTt := hD.toTree
  have hab : ∀ k, 0 < k → k < many → 0 ≤ ab k ∧ ab k < k ∧ ∃ t, (Value.none :: ys0).toArray[k.toNat]? = some (.int (ab k) t) := fun k k0 k1 => by
    have := hD.up k k0 k1
    exact ⟨this.1, this.2, hD.yv k k0 k1⟩
  have d1 : @Ne Nat D ls := fun e => hDo (by simp [e])
  have d2 : @Ne Nat D lm := fun e => hDo (by simp [e])
  have d3 : @Ne Nat D la := fun e => hDo (by simp [e])
  have d4 : @Ne Nat D 613 := fun e => hDo (by simp [e])
  have d5 : @Ne Nat ls 613 := Nat.ne_of_gt (by omega)
  have hW0 : TurnW PySem.Challenge.rw_fq0029_01.row.prog w g0 ls D H K H2 ((K ++ H2) ++ H) #[] x := ⟨hx0, hx1, .inl rfl, fun p hp => List.mem_append_left _ (List.mem_append_left _ hp), fun p hp => List.mem_append_right _ hp, fun p hp => List.mem_append_left _ (List.mem_append_right _ hp), fun p hp e => hoff p hp (by simp [e]), fun p hp e => hoff p hp (by simp [e])⟩
  have mk : ∀ (I : Addr) (io : Obj), @Ne Nat I ls → @Ne Nat I 613 → NotCode io → (∀ q ∈ [D, lm, la, L + 1 + 1 + 1 + 1, L + 1 + 1 + 1, L + 1 + 1, L + 1], @Ne Nat q I) → TFix PySem.Challenge.rw_fq0029_01.row.prog w L { sc := sc, ls := ls, la := la, lm := lm, gr := gr, lf := lf, D := D, fa := fa, I := I, nm_ := nm_, tm := tm, ys := ys0, zs := zs, many := many, ab := ab, o1 := o1, o2 := o2, o3 := o3, o4 := o4, oD := oD, io := io, H := H, K := K, H2 := H2, ns := ns, sb := sb, pb := pb, xs := xs, nd2 := nd2, ad2 := ad2 } := fun I io q1 q2 q4 q3 =>
    { D := hD, c1 := c1, c2 := c2, c3 := c3, G := hG, TB := hTB, U := hU, dH := hDH, kT := hKT, val := hval, a1 := hfix.o3, a2 := hfix.o1, a3 := hfix.o2, a4 := hfix.e1, a5 := hfix.e2, a6 := hfix.e7, d1 := d1, d2 := d2, d3 := d3, d4 := d4, i1 := q1, i2 := q2, i4 := q4, i3 := q3 }
  have N1 : News g0 L h (ledT L ls la lm D x t n nm_ ys0 zs o1 o2 o3 o4 oD #[] ((K ++ H2) ++ H)) := N
  have mkP := Pack.mk mk
  have pa := Pack.mk (And.intro hb (And.intro hfix (And.intro hDo hW0)))
  have j1 : @LT.lt Nat _ 613 L := hfix.o3
  clear N mk hb hfix hDo hW0 hD f1 f2 f3 f4 f5 f6 f7 c1 c2 c3 m0 m1 hm100 hTt hab d1 d2 d3 d4 d5 hG hTB hoff hHK hDH hKT hval hU c4 hx0 hx1
  show wpAny _ _ (execs [_] _) _ _ _
  k_steps
  rename IsRange _ _ _ _ _ _ _ _ => hR1
  rename Fr _ _ _ _ => F2
  rename News _ _ _ _ => N2
  dsimp only at hR1
  obtain ⟨hb, hfix, hDo, hW0⟩ := pa.out
  refine stopE ?_
  refine forRangeT (n := 3) F2 N2 hR1 (small_one (by decide) (by decide) (by decide) (by decide)) (by decide) rfl (by rfl) (by rfl)
    (fun i m₁ n₁ => ∃ (x : Int) (t : Tok) (n : Nat) (ps : Array Value) (Wt : List (Addr × Obj)) (v0 v1 v2 v3 v4 v5 v6 vo : Option Value), m₁ = mapT v0 v1 v2 v3 v4 v5 v6 vo fa D gr lf lm sc ∧ n₁ = ledT L ls la lm D x t n nm_ ys0 zs o1 o2 o3 o4 oD ps Wt ∧ TurnW PySem.Challenge.rw_fq0029_01.row.prog w g0 ls D H K H2 Wt ps x)
    ⟨x, t, n, #[], (K ++ H2) ++ H, none, none, none, none, u2, u1, none, u3, by walk_at "SAME", rfl, hW0⟩ hg0 ?_ ?_
  · rintro I i ti m₁ n₁ h tk gg io hgb hI hi ⟨x, t, n, ps, Wt, v0, v1, v2, v3, v4, v5, v6, vo, rfl, rfl, hW⟩ hn1 hfl F3 N3
    replace F3 : Fr g0 L h (fun y => if y = Str.ofString "turn" then some (.int (i : Int) ti) else lk _ y) := F3
    rw [lk_set] at F3
    replace F3 : Fr g0 L h (lk _) := F3
    replace N3 : News g0 L h _ := N3
    have hP := mkP.out I io (Nat.ne_of_gt (hI (ls, _) (.tail _ (.tail _ (.tail _ (.head _)))))) (Nat.ne_of_gt (hI (613, _) (.tail _ (.tail _ (.tail _ (.tail _ (.tail _ (.tail _ (.tail _ (.tail _ (.head _))))))))))) (fun vs q e => hfl vs _ q e) (fun q hq => by
      simp only [List.mem_cons, List.not_mem_nil, or_false] at hq
      rcases hq with rfl | rfl | rfl | rfl | rfl | rfl | rfl
      · exact Nat.ne_of_lt (hI (_, _) (.head _))
      · exact Nat.ne_of_lt (hI (_, _) (.tail _ (.head _)))
      · exact Nat.ne_of_lt (hI (_, _) (.tail _ (.tail _ (.head _))))
      · exact Nat.ne_of_lt (hI (_, _) (.tail _ (.tail _ (.tail _ (.tail _ (.head _))))))
      · exact Nat.ne_of_lt (hI (_, _) (.tail _ (.tail _ (.tail _ (.tail _ (.tail _ (.head _)))))))
      · exact Nat.ne_of_lt (hI (_, _) (.tail _ (.tail _ (.tail _ (.tail _ (.tail _ (.tail _ (.head _))))))))
      · exact Nat.ne_of_lt (hI (_, _) (.tail _ (.tail _ (.tail _ (.tail _ (.tail _ (.tail _ (.tail _ (.head _))))))))))
    have hts : TS PySem.Challenge.rw_fq0029_01.row.prog w g0 L ({ sc := sc, ls := ls, la := la, lm := lm, gr := gr, lf := lf, D := D, fa := fa, I := I, nm_ := nm_, tm := tm, ys := ys0, zs := zs, many := many, ab := ab, o1 := o1, o2 := o2, o3 := o3, o4 := o4, oD := oD, io := io, H := H, K := K, H2 := H2, ns := ns, sb := sb, pb := pb, xs := xs, nd2 := nd2, ad2 := ad2 } : TP) s₀ (mapP v0 v1 v2 v3 v4 v5 (some (.int (i : Int) ti)) vo ({ sc := sc, ls := ls, la := la, lm := lm, gr := gr, lf := lf, D := D, fa := fa, I := I, nm_ := nm_, tm := tm, ys := ys0, zs := zs, many := many, ab := ab, o1 := o1, o2 := o2, o3 := o3, o4 := o4, oD := oD, io := io, H := H, K := K, H2 := H2, ns := ns, sb := sb, pb := pb, xs := xs, nd2 := nd2, ad2 := ad2 } : TP)) { s₀ with heap := h, toks := tk, gens := gg } := ⟨h, tk, gg, x, t, n, ps, Wt, rfl, hgb, fr_eq F3 (by walk_at "SAME"), N3, hW, fun p hp => hn1 p (.tail _ (.tail _ (.tail _ (.tail _ (.tail _ (.tail _ (.tail _ (.tail _ (.tail _ hp)))))))))⟩
    refine wpAny_mono (turn_all hb rfl B X T S hdp hun hP hts) (fun f s4 h4 => ?_) fun _ _ e => e
    obtain ⟨rfl, v0', v1', v2', v3', v4', v5', h9, tk9, gg9, x9, t9, n9, ps9, W9, rfl, hgb9, F9, N9, hW9, hI9⟩ := h4
    refine ⟨h9, tk9, gg9, _, _, rfl, hgb9, F9, N9, fun q hq => ?_, x9, t9, n9, ps9, W9, _, _, _, _, _, _, _, _, rfl, rfl, hW9⟩
    simp only [List.mem_cons] at hq
    rcases hq with rfl | rfl | rfl | rfl | rfl | rfl | rfl | rfl | rfl | hq
    · exact hP.i3 _ (by simp)
    · exact hP.i3 _ (by simp)
    · exact hP.i3 _ (by simp)
    · exact hP.i1.symm
    · exact hP.i3 _ (by simp)
    · exact hP.i3 _ (by simp)
    · exact hP.i3 _ (by simp)
    · exact hP.i3 _ (by simp)
    · exact hP.i2.symm
    · exact hI9 q hq
  · rintro m₁ n₁ h tk gg hgb ⟨x, t, n, ps, Wt, v0, v1, v2, v3, v4, v5, v6, vo, rfl, rfl, hW⟩ F5 N5
    replace F5 : Fr g0 L h (lk _) := F5
    replace N5 : News g0 L h _ := N5
    dsimp only
    k_steps
    refine ⟨{ sc := sc, ls := ls, la := la, lm := lm, gr := gr, lf := lf, D := D, fa := fa, I := D + lm + la + ls + L + 700, nm_ := nm_, tm := tm, ys := ys0, zs := zs, many := many, ab := ab, o1 := o1, o2 := o2, o3 := o3, o4 := o4, oD := oD, io := o1, H := H, K := K, H2 := H2, ns := ns, sb := sb, pb := pb, xs := xs, nd2 := nd2, ad2 := ad2 }, v0, v1, v2, v3, v4, v5, v6, vo, h, tk, gg, x, t, n, ps, Wt, rfl, mkP.out _ _ ?_ ?_ ?_ ?_, rfl, hgb, F5, N5, hW⟩
    · show @Ne Nat _ _; show ¬ (@Eq Nat (D + lm + la + ls + L + 700) ls); omega
    · show ¬ (@Eq Nat (D + lm + la + ls + L + 700) 613); omega
    · intro vs q e; rw [hfix.c1] at e; cases e
    · intro q hq
      simp only [List.mem_cons, List.not_mem_nil, or_false] at hq
      show ¬ (@Eq Nat q (D + lm + la + ls + L + 700))
      rcases hq with rfl | rfl | rfl | rfl | rfl | rfl | rfl <;> omega
/-- the objects that a digraph may hold -/
def Gob (o : Obj) : Prop := (∀ a n, o.data ≠ .seq a n) ∧ (∀ v, o.data ≠ .cell v) ∧ (∀ vs, o.data ≠ .fields vs)
open Classical in
noncomputable def pick (H : List (Addr × Obj)) : List (Addr × Obj) := H.filter (fun p => decide (Gob p.2))
theorem mem_pick {H : List (Addr × Obj)} {p : Addr × Obj} : p ∈ pick H ↔ p ∈ H ∧ Gob p.2 := by
  unfold pick
  rw [List.mem_filter]
  simp
theorem Gr.pick {prog : Program} {w : World} {H : List (Addr × Obj)} {g : Addr} {ns : List Int} {sb pb : Int → List Int} (G : Gr prog w H g ns sb pb) : Gr prog w (pick H) g ns sb pb := by
  obtain ⟨c, nd, ad, pd, ra, rp, dx, k1, k2, k3, k4, k5, t1, t2, t3, t4, t5, v1, D, hg, hdx, cg, cdx, hc⟩ := G
  refine ⟨c, nd, ad, pd, ra, rp, dx, k1, k2, k3, k4, k5, t1, t2, t3, t4, t5, v1, D, mem_pick.mpr ⟨hg, ⟨fun _ _ e => (nomatch e), fun _ e => (nomatch e), fun _ e => (nomatch e)⟩⟩, mem_pick.mpr ⟨hdx, ⟨fun _ _ e => (nomatch e), fun _ e => (nomatch e), fun _ e => (nomatch e)⟩⟩, cg, cdx, fun a l e => ?_⟩
  obtain ⟨o, ho, hd⟩ := hc a l e
  refine ⟨o, mem_pick.mpr ⟨ho, ?_⟩, hd⟩
  obtain ⟨es, ep, _, hd, _⟩ := hd
  exact ⟨fun _ _ e => (by rw [hd] at e; cases e), fun _ e => (by rw [hd] at e; cases e), fun _ e => (by rw [hd] at e; cases e)⟩
/-- an object that is no part of a digraph stands off its addresses -/
theorem off_pick {h₀ h : Heap} {L : Addr} {H : List (Addr × Obj)} {a : Addr} {o : Obj} (N : News h₀ L h H) (ha : h.get? a = some o) (hn : ¬ Gob o) : a ∉ (Mine.pick H).map (·.1) := fun hm => by
  obtain ⟨p, hp, rfl⟩ := List.mem_map.mp hm
  have hp := mem_pick.mp hp
  have e := (N p hp.1).1
  rw [ha] at e
  cases e
  exact hn hp.2
theorem no_seq {o : Obj} {a : Array Value} {n : Nat} (e : o.data = .seq a n) : ¬ Gob o := fun h => h.1 a n e
theorem no_cell {o : Obj} {v : Option Value} (e : o.data = .cell v) : ¬ Gob o := fun h => h.2.1 v e
theorem no_fields {o : Obj} {vs : Array Value} (e : o.data = .fields vs) : ¬ Gob o := fun h => h.2.2 vs e
/-- the tail after the graph's objects are renewed -/
theorem tail_new {h₀ h h' : Heap} {L ls : Addr} {Wt H H' : List (Addr × Obj)} {ps : Array Value} {ob os : Obj}
    (N : News h₀ L h Wt) (hH : ∀ p ∈ H, p ∈ Wt) (kb : KeepsBut ((Mine.pick H).map (·.1)) h h') (N' : News h₀ L h' H') (hH' : ∀ p ∈ H', p.1 ∈ (Mine.pick H).map (·.1) ∨ h.get? p.1 = none)
    (hz : TabZ h₀ Wt ps) (h6 : ∀ p ∈ Wt, p.1 ≠ 613) (hs : ∀ p ∈ Wt, p.1 ≠ ls) (e6 : h.get? 613 = some ob) (es : h.get? ls = some os) :
    ∃ W', News h₀ L h' W' ∧ (∀ p ∈ H', p ∈ W') ∧ TabZ h₀ W' ps ∧ (∀ p ∈ W', p.1 ≠ 613) ∧ (∀ p ∈ W', p.1 ≠ ls) := by
  have NH : News h₀ L h H := fun q hq => N q (hH q hq)
  have off : ∀ {a : Addr} {ob : Obj}, h.get? a = some ob → (∀ p ∈ Wt, p.1 ≠ a) → ∀ p ∈ H', p.1 ≠ a := fun e hW p hp q => by
    rcases hH' p hp with hm | hm
    · obtain ⟨r, hr, hrp⟩ := List.mem_map.mp hm
      exact hW r (hH r (mem_pick.mp hr).1) (hrp.trans q)
    · rw [q, e] at hm
      cases hm
  refine ⟨Wt.filter (fun p => decide (p.1 ∉ (Mine.pick H).map (·.1))) ++ H', fun p hp => ?_, fun p hp => List.mem_append_right _ hp, ?_, fun p hp => ?_, fun p hp => ?_⟩
  · rcases List.mem_append.mp hp with hp | hp
    · have hp := List.mem_filter.mp hp
      exact ⟨kb.keep _ _ (of_decide_eq_true hp.2) (N p hp.1).1, (N p hp.1).2⟩
    · exact N' p hp
  · rcases hz with rfl | ⟨c2, o, vs, t, h1, h2, h3, h4, h5⟩
    · exact .inl rfl
    · refine .inr ⟨c2, o, vs, t, h1, h2, ?_, h4, h5⟩
      rcases h3 with h3 | h3
      · exact .inl h3
      · exact .inr (List.mem_append_left _ (List.mem_filter.mpr ⟨h3, decide_eq_true (off_pick NH (N _ h3).1 (no_fields h4))⟩))
  · rcases List.mem_append.mp hp with hp | hp
    · exact h6 p (List.mem_filter.mp hp).1
    · exact off e6 h6 p hp
  · rcases List.mem_append.mp hp with hp | hp
    · exact hs p (List.mem_filter.mp hp).1
    · exact off es hs p hp
/-- a digraph's call of lowest_common_ancestor, what stands after it -/
theorem led_step {h₀ h h' : Heap} {L ls : Addr} {m : Str → Option Value} {news V : List (Addr × Obj)} {g : Array Value → List (Addr × Obj) → List (Addr × Obj)} {ps ps' : Array Value} {x : Int} {t : Tok} {n : Nat}
    (F : Fr h₀ L h m) (N : News h₀ L h news) (U : TabF ps V news g) (h613 : ∀ p ∈ V, p.1 ≠ 613) (hlm : (ls, W.listOf #[Value.int x t] n) ∈ news) (hls : ∀ p ∈ V, p.1 ≠ ls) (hn613 : @Ne Nat ls 613)
    (kb : KeepsBut [613] h h') (hg613 : h'.get? 613 = some (tabObj ps')) (hps' : TabOk h' ps') :
    ∃ V', (∀ p ∈ V, p ∈ V') ∧ TabZ h₀ V' ps' ∧ (∀ p ∈ V', p.1 ≠ 613) ∧ (∀ p ∈ V', p.1 ≠ ls) ∧ Fr h₀ L h' m ∧ News h₀ L h' (g ps' V') := by
  have hm := U.mem
  have NW : News h₀ L h V := fun q hq => N q (hm.2 q hq)
  have hL613 : @Ne Nat 613 L := (N _ hm.1).2.1
  have F' : Fr h₀ L h' m := fr_kb F kb fun b hb => by rw [List.mem_singleton.mp hb]; exact ⟨(N _ hm.1).2.2, (N _ hm.1).2.1⟩
  have NW' : News h₀ L h' V := fun q hq => ⟨kb.keep _ _ (fun hx => h613 q hq (List.mem_singleton.mp hx)) (NW q hq).1, (NW q hq).2⟩
  have hlsh : h'.get? ls = some (W.listOf #[Value.int x t] n) := kb.keep _ _ (fun hx => hn613 (List.mem_singleton.mp hx)) (N _ hlm).1
  rcases hps' with rfl | ⟨c2, h1, h2, c2', o, vs, tt, e1, e2, e3, e4⟩
  · exact ⟨V, fun p hp => hp, .inl rfl, h613, hls, F', U.news kb hg613 NW' N⟩
  · cases e1
    cases eg : h₀.get? c2 with
    | some o' =>
      have := F'.keep _ _ eg
      rw [e2] at this
      cases this
      exact ⟨V, fun p hp => hp, .inr ⟨c2, o, vs, tt, h1, h2, .inl eg, e3, e4⟩, h613, hls, F', U.news kb hg613 NW' N⟩
    | none =>
      have hcL : c2 ≠ L := by
        rintro rfl
        obtain ⟨oL, es, ep, hoL, hdL, _⟩ := F'.ns
        rw [e2] at hoL
        cases hoL
        rw [e3] at hdL
        cases hdL
      have hcls : c2 ≠ ls := by
        rintro rfl
        rw [e2] at hlsh
        cases hlsh
        cases e3
      have NW2 : News h₀ L h' ((c2, o) :: V) := List.forall_mem_cons.mpr ⟨⟨e2, hcL, eg⟩, NW'⟩
      exact ⟨(c2, o) :: V, fun p hp => .tail _ hp, .inr ⟨c2, o, vs, tt, h1, h2, .inr (.head _), e3, e4⟩, List.forall_mem_cons.mpr ⟨h1, h613⟩, List.forall_mem_cons.mpr ⟨hcls, hls⟩, F', U.news kb hg613 NW2 N⟩
section
variable {many : Int} {ab : Int → Int} {ns : List Int} {sb pb : Int → List Int}
theorem nm_no {k : Int} : nm k ≠ 99 ∧ nm k ≠ 98 := by
  unfold nm
  omega
theorem TreeG.no99 (G : TreeG many ab ns sb pb) : (99 : Int) ∉ ns := fun h => by
  obtain ⟨k, _, _, e⟩ := (G.mem _).mp h
  exact nm_no.1 e.symm
theorem TreeG.out (T : Tree many ab) (G : TreeG many ab ns sb pb) {n : Int} (h : n ∉ ns) : sb n = [] ∧ pb n = [] := by
  refine ⟨List.eq_nil_iff_forall_not_mem.mpr fun v hv => ?_, List.eq_nil_iff_forall_not_mem.mpr fun v hv => ?_⟩
  · obtain ⟨k, k0, k1, rfl, rfl⟩ := (G.smem _ _).mp hv
    have := T.up k k0 k1
    exact h (G.inN (by omega) (by omega))
  · obtain ⟨k, k0, k1, rfl, rfl⟩ := (G.pmem _ _).mp hv
    exact h (G.inN (by omega) (by omega))
theorem TreeG.closedS99 (T : Tree many ab) (G : TreeG many ab ns sb pb) : Closed (ns ++ [99]) sb := fun n hn k hk => by
  obtain ⟨i, h0, h1, _, rfl⟩ := (G.smem _ _).mp hk
  exact List.mem_append_left _ (G.inN (by omega) h1)
theorem TreeG.closedP99 (T : Tree many ab) (G : TreeG many ab ns sb pb) : Closed (ns ++ [99]) pb := fun n hn k hk => by
  obtain ⟨i, h0, h1, rfl, _⟩ := (G.pmem _ _).mp hk
  have := T.up i h0 h1
  exact List.mem_append_left _ (G.inN (by omega) (by omega))
theorem TreeG.acyc99 (T : Tree many ab) (G : TreeG many ab ns sb pb) : Acyc (ns ++ [99]) sb := fun n hn k hk => by
  rcases List.mem_append.mp hn with hn | hn
  · exact G.acyc T n hn k hk
  · rw [List.mem_singleton.mp hn, (G.out T G.no99).1] at hk
    cases hk
theorem TreeG.reach99 (T : Tree many ab) (G : TreeG many ab ns sb pb) {x : Int} (h : Reach pb 99 x) : x = 99 := by
  induction h with
  | refl => rfl
  | step _ hk ih => rw [ih, (G.out T G.no99).2] at hk; cases hk
theorem TreeG.ans99 (T : Tree many ab) (G : TreeG many ab ns sb pb) {a : Int} (h0 : 0 ≤ a) (h1 : a < many) {d r : Value} (h : Answer sb pb 99 (nm a) d r) : r = d := by
  rcases h with ⟨_, e⟩ | ⟨c, t, _, hl⟩
  · exact e
  · obtain rfl := G.reach99 T hl.1
    obtain ⟨j, e, _⟩ := (G.reachP T h0 h1).mp hl.2.1
    exact absurd e.symm nm_no.1
theorem TreeG.same99 (T : Tree many ab) (G : TreeG many ab ns sb pb) {d r : Value} (h : Answer sb pb 99 99 d r) : ∃ t, r = .int 99 t := by
  rcases h with ⟨h, _⟩ | ⟨c, t, rfl, hl⟩
  · exact absurd ⟨.refl, .refl⟩ (h 99)
  · obtain rfl := G.reach99 T hl.1
    exact ⟨t, rfl⟩
end
section
local macro_rules | `(tactic| walk_at "exec Assign cons ListComp") => `(tactic| (k_here; (with_reducible show wpAny _ _ (exec (Stmt.Assign _ (Expr.ListComp _ [Comprehension.mk _ (Expr.Tuple _ _ _) _ _] _ _) _) _) _ _ _); k_dflt (refine' Assign_ListComp_Tu ?hF ?hLe ?hsw ?hclos ?hcell ?hkind ?hnames ?hx ?hy ?hp ?_ ?hs; (case hF => k_asm); (case hLe => rfl); (case hsw => with_unfolding_all rfl); (case hclos => with_unfolding_all rfl); (case hcell => decide); (case hkind => rfl); (case hnames => decide); (case hx => with_unfolding_all rfl); (case hy => rfl); (case hp => rfl); (case hs => intro _; with_unfolding_all rfl))))
local macro_rules | `(tactic| walk_at "call ref") => `(tactic| ((first
  | (with_reducible show wpAny _ _ (call (Value.ref 624) _) _ _ _)
  | (with_reducible show wpAny _ _ (call (Value.ref 610) _) _ _ _)); refine stopI ?_))
local macro_rules | `(tactic| walk_at "call ref") => `(tactic| (k_here; (with_reducible show wpAny _ _ (call (Value.ref 854) [Value.ref _, Value.int _ _]) _ _ _); k_dflt (refine' next_N ?B ?F ?X ?T ?hk ?S ?N ?U ?a ?b ?c ?d ?hdp ?hun ?_; (case B => k_asm); (case F => k_asm); (case X => k_asm); (case T => k_asm); (case hk => rfl); (case S => assumption); (case N => k_asm); (case U => k_updF); (case a => assumption); (case b => assumption); (case c => omega); (case d => omega); (case hdp => walk_at "ROOM"); (case hun => walk_at "UNITS")); intro x' t' n' r' tr' h' tk' hx0' hx1' hr0' hr1' F' N'; (try dsimp only at N'); (try dsimp only); (try k_sweep)))
local macro_rules | `(tactic| walk_at "eval ListComp") => `(tactic| (k_here; (with_reducible show wpAny _ _ (eval (Expr.ListComp _ [Comprehension.mk _ (Expr.Call _ _ _ _) _ _] _ _) _) _ _ _); k_dflt (refine' PyProof.Rows.LCg.ListComp_U ?hF ?hclos ?hcell ?hkind ?hnames ?hx ?_ ?hs; (case hF => k_asm); (case hclos => with_unfolding_all rfl); (case hcell => decide); (case hkind => rfl); (case hnames => decide); (case hx => with_unfolding_all rfl); (case hs => intro _; with_unfolding_all rfl))))
local macro_rules | `(tactic| walk_at "CompSrc") => `(tactic| refine stopI ?_)
local macro_rules | `(tactic| walk_at "pyIter ref") => `(tactic| refine stopI ?_)
local macro_rules | `(tactic| walk_at "compareOp NotEq int int") => `(tactic| refine stopI ?_)
local macro_rules | `(tactic| walk_at "compareOp NotEq bool bool") => `(tactic| refine stopI ?_)
local macro_rules | `(tactic| walk_at "subscriptTail") => `(tactic| (k_here; (with_reducible show wpAny _ _ (subscriptTail _ _ (Value.ref _) (Value.ref _)) _ _ _); k_dflt (refine' item_H ?N ?hm ?hD ?hK ?hKn ?ht ?hu ?hv ?_ ?hs ?hg; (case N => k_asm); (case hm => k_mem); (case hD => with_reducible assumption); (case hK => with_reducible assumption); (case hKn => (intro p hp; (repeat (refine List.mem_cons_of_mem _ ?_)); (revert hp; revert p; with_reducible assumption))); (case ht => k_mem); (case hu => walk_at "UNITS"); (case hv => with_reducible assumption); (case hs => with_unfolding_all rfl); (case hg => intro _; with_unfolding_all rfl)); intro tk'; (try dsimp only)))
local macro_rules | `(tactic| walk_at "call ref") => `(tactic| (k_here; (with_reducible show wpAny _ _ (call (Value.ref 861) [Value.ref _, Value.int _ _]) _ _ _); k_dflt (refine' way_spec ?B ?F ?X ?T ?hk ?S ?hl ?hv0 ?hv1 ?hm ?hroot ?hab ?hdp ?hun ?_; (case B => k_asm); (case F => k_asm); (case X => k_asm); (case T => k_asm); (case hk => rfl); (case S => assumption); (case hl => walk_at "LIST"); (case hv0 => with_reducible assumption); (case hv1 => with_reducible assumption); (case hm => with_reducible assumption); (case hroot => rfl); (case hab => with_reducible assumption); (case hdp => walk_at "ROOM"); (case hun => walk_at "UNITS")); intro D' vs' l' n' h' tk' hk' hq' hD' hI' hW'; (have N' := news_add (by k_asm) (news_onto (by k_asm) hk') hq' hD'); (have l1' := news_lt (by k_asm) hq'); (have F' := fr_onto (by k_asm) hk'); (try clear hk' hq' hD'); (try k_lt l1'); (try dsimp only); (try k_sweep)))
local macro_rules | `(tactic| walk_at "call builtin:len") => `(tactic| (k_here; (with_reducible show wpAny _ _ (call (Value.builtin "len") [Value.ref _]) _ _ _); k_dflt (refine' len_ints ?hl ?hi ?hlen ?_; (case hl => walk_at "LIST"); (case hi => with_reducible assumption); (case hlen => (refine way_short (Pack.out (by with_reducible assumption)) (by with_reducible assumption) (by with_reducible assumption) (by with_reducible assumption) (by with_reducible assumption)))); intro tl' tkl'; (try dsimp only)))

local macro_rules | `(tactic| walk_at "call ref") => `(tactic| ((with_reducible show wpAny _ _ (call (Value.ref 676) _) _ _ _); refine stopI ?_))

/-- the objects that the law still needs after the turns -/
abbrev ledU (L ls lm : Addr) (x : Int) (t : Tok) (n nm_ : Nat) (zs : List Value) (o1 o2 : Obj) (ps : Array Value) (Wt : List (Addr × Obj)) : List (Addr × Obj) :=
  (lm, W.listOf zs.toArray nm_) :: (ls, W.listOf #[Value.int x t] n) :: (L + 1 + 1, o2) :: (L + 1, o1) :: (613, tabObj ps) :: Wt
theorem tab_U {L ls lm : Addr} {x : Int} {t : Tok} {n nm_ : Nat} {zs : List Value} {o1 o2 : Obj} {ps : Array Value} {Wt : List (Addr × Obj)} (a1 : @LT.lt Nat _ 613 L) (a2 : @LT.lt Nat _ (L + 1 + 1 + 1 + 1) ls) (a6 : @Ne Nat 613 lm) : TabF ps Wt (ledU L ls lm x t n nm_ zs o1 o2 ps Wt) (fun ps' W' => ledU L ls lm x t n nm_ zs o1 o2 ps' W') :=
  .next a6.symm (.next (Nat.ne_of_gt (by show @LT.lt Nat _ 613 ls; omega)) (.next (Nat.ne_of_gt (by show @LT.lt Nat _ 613 _; omega)) (.next (Nat.ne_of_gt (by show @LT.lt Nat _ 613 _; omega)) .here)))
/-- after the node 99 -/
def Law8 (prog : Program) (w : World) (g0 : Heap) (L sc : Addr) (s₀ s' : Shared) : Prop :=
  ∃ (P : TP) (v0 v1 v2 v3 v4 v5 v6 vo : Option Value) (h : Heap) (tk : Nat) (gg : Array GenState) (x : Int) (t : Tok) (n : Nat) (ps : Array Value) (Wt H9 : List (Addr × Obj)), P.sc = sc ∧ TFix prog w L P ∧ s' = { s₀ with heap := h, toks := tk, gens := gg } ∧ AllBare gg ∧ Fr g0 L h (mapP v0 v1 v2 v3 v4 v5 v6 vo P) ∧ News g0 L h (ledU L P.ls P.lm x t n P.nm_ P.zs P.o1 P.o2 ps Wt) ∧ 0 ≤ x ∧ x < 2147483647 ∧ TabZ g0 Wt ps ∧ (∀ p ∈ H9, p ∈ Wt) ∧ (∀ p ∈ Wt, p.1 ≠ 613) ∧ (∀ p ∈ Wt, p.1 ≠ P.ls) ∧ Gr prog w H9 P.gr (P.ns ++ [99]) P.sb P.pb
theorem law_8 {w : World} {p : Program} {loose : List Str} {mean : ExcName → Option Value} {mg mb : Str → Option Value} {base g0 : Heap} {L sc : Addr} {s : Shared} {s₀ : Shared} {A₀ : Around} {dp un : Nat} {gd : Option (List Code)}
    {nm1 qual : Str} {prms : Arguments} {body : List Stmt} {scope : Scope} {dV kV doc pm cdv' ct oc : Value} {an od : Option Addr} {osl : Array (Option Value)}
    (hb : (hd.heap_39 w.params).lookup 866 = some ⟨oc, od, .func (fnOf nm1 qual prms body scope dV kV doc pm an cdv' ct), osl⟩)
    (B : Below A₀ base [] g0) (X : (hd.heap_39 w.params).In g0) (T : Top p loose mean mg mb g0) (S : Sys g0) (h7 : Law7 PySem.Challenge.rw_fq0029_01.row.prog w g0 L sc s₀ s) (hdp : dp + 100 < recursionLimit) (hun : un + 1000 < cLine) :
    wpAny (model PySem.Challenge.rw_fq0029_01.row.prog w) (ktrTop dp un gd qual scope L 866 cdv' [("other", L + 1 + 1 + 1 + 1), ("above", L + 1 + 1 + 1), ("many", L + 1 + 1), ("s", L + 1)] []) (execs ((body.drop 11).take 2) (envX qual scope L 866 cdv' [("other", L + 1 + 1 + 1 + 1), ("above", L + 1 + 1 + 1), ("many", L + 1 + 1), ("s", L + 1)])) (fun f s' => f = .next ∧ Stop (Law8 PySem.Challenge.rw_fq0029_01.row.prog w g0 L sc s₀ s')) Never s := by
  revert X
  k_fill
  intro X
  refine' use_eq hb ?hh ?_
  case hh => k_is
  intro e
  cases e
  clear hb

  obtain ⟨P, v0, v1, v2, v3, v4, v5, v6, vo, h, tk, gg, x, t, n, ps, Wt, rfl, hP, rfl, hgb, F, N, hx0, hx1, hz, hkK, hkH, hkH2, hw6, hws⟩ := h7
  have hD := hP.D
  have hTt := hD.toTree
  have hTB := hP.TB
  have hG := hP.G.pick
  have m0 : 0 < P.many := by have := hD.m0; omega
  have n613 : @Ne Nat P.ls 613 := by have := hP.a1; have := hP.a2; omega
  have inW : ∀ p ∈ Wt, p ∈ ledT L P.ls P.la P.lm P.D x t n P.nm_ P.ys P.zs P.o1 P.o2 P.o3 P.o4 P.oD ps Wt := fun p hp => .tail _ (.tail _ (.tail _ (.tail _ (.tail _ (.tail _ (.tail _ (.tail _ (.tail _ hp))))))))
  obtain ⟨c, nd, ad, pd, ra, rp, dx, k1, k2, k3, k4, k5, t1, t2, t3, t4, t5, vd9, DC, hgx, hdx, cg, cdx, hc⟩ := id hP.G
  have N0 := Pack.mk N
  have N2 := news_front (news_front N (inW _ (hkH _ hdx))) (.tail _ (inW _ (hkH _ hgx)))
  clear N DC hgx hdx cg cdx hc
  have pP := Pack.mk hP
  have pz := Pack.mk (And.intro hz (And.intro hkH (And.intro hw6 hws)))
  have pG := Pack.mk hG
  have pT := Pack.mk hTt
  clear hP inW hz hkK hkH hkH2 hw6 hws hG hTt hTB
  dsimp only [ledT] at N2
  show wpAny _ _ (execs [_, _] _) _ _ _
  k_steps
  rename Fr _ _ _ _ => F1
  rename News _ _ _ _ => N1
  show wpAny _ (ktrTop _ _ _ _ _ _ _ _ _ _) (call (.ref 676) [.ref P.gr, .int 99 _]) _ _ _
  obtain ⟨hz, hkH, hw6, hws⟩ := pz.out
  have hTB := pP.out.TB.toTreeG
  have NW : News g0 L h Wt := fun q hq => N0.out q (.tail _ (.tail _ (.tail _ (.tail _ (.tail _ (.tail _ (.tail _ (.tail _ (.tail _ hq)))))))))
  have NH : News g0 L h P.H := fun q hq => NW q (hkH q hq)
  have zlm := N0.out _ (.tail _ (.head _))
  have zls := N0.out _ (.tail _ (.tail _ (.tail _ (.head _))))
  have z2 := N0.out _ (.tail _ (.tail _ (.tail _ (.tail _ (.tail _ (.tail _ (.head _)))))))
  have z1 := N0.out _ (.tail _ (.tail _ (.tail _ (.tail _ (.tail _ (.tail _ (.tail _ (.head _))))))))
  have z6 := N0.out _ (.tail _ (.tail _ (.tail _ (.tail _ (.tail _ (.tail _ (.tail _ (.tail _ (.head _)))))))))
  refine add_node_spec B F1 X T rfl S (H := pick P.H) (fun q hq => NH q (mem_pick.mp hq).1) pG.out (by have := hTB.nlen pT.out; omega) (fun n => by have := pP.out.TB.slen n; omega) (fun n => by have := pP.out.TB.plen n; omega) (fun n hn => hTB.out pT.out hn) hTB.no99 (by walk_at "ROOM") (by walk_at "UNITS") fun h9 tk9 H9 kb NH9 hH9 hG9 => ?_
  obtain ⟨W9, NW9, hHW9, hz9, h69, hs9⟩ := tail_new NW hkH kb NH9 hH9 hz hw6 hws z6.1 zls.1
  have o6 : 613 ∉ (pick P.H).map (·.1) := fun hm => by
    obtain ⟨q, hq, e⟩ := List.mem_map.mp hm
    exact hw6 q (hkH q (mem_pick.mp hq).1) e
  have N9 : News g0 L h9 (ledU L P.ls P.lm x t n P.nm_ P.zs P.o1 P.o2 ps W9) := List.forall_mem_cons.mpr ⟨⟨kb.keep _ _ (off_pick NH zlm.1 (no_seq rfl)) zlm.1, zlm.2⟩, List.forall_mem_cons.mpr ⟨⟨kb.keep _ _ (off_pick NH zls.1 (no_seq rfl)) zls.1, zls.2⟩, List.forall_mem_cons.mpr ⟨⟨kb.keep _ _ (off_pick NH z2.1 (no_cell pP.out.c2)) z2.1, z2.2⟩, List.forall_mem_cons.mpr ⟨⟨kb.keep _ _ (off_pick NH z1.1 (no_cell pP.out.c1)) z1.1, z1.2⟩, List.forall_mem_cons.mpr ⟨⟨kb.keep _ _ o6 z6.1, z6.2⟩, NW9⟩⟩⟩⟩⟩
  have F9 := fr_kb F1 kb fun b hb => by
    obtain ⟨q, hq, rfl⟩ := List.mem_map.mp hb
    exact ⟨(NH q (mem_pick.mp hq).1).2.2, (NH q (mem_pick.mp hq).1).2.1⟩
  have pG9 := Pack.mk hG9
  have pz9 := Pack.mk (And.intro hz9 (And.intro hHW9 (And.intro h69 hs9)))
  clear hz hkH hw6 hws NW NH zlm zls z2 z1 z6 N1 F1 N0 kb NH9 hH9 NW9 o6 hG9 hz9 hHW9 h69 hs9 hTB
  dsimp only [ledU] at N9
  k_steps
  rename Fr _ _ _ _ => F10
  rename News _ _ _ _ => N10
  show wpAny _ (ktrTop _ _ _ _ _ _ _ _ _ _) (call (.ref 624) [.ref P.gr, .int 99 _, .int (nm 0) _]) _ _ _
  obtain ⟨hz9, hHW9, h69, hs9⟩ := pz9.out
  have hG9 := pG9.out
  have hTB := pP.out.TB.toTreeG
  have i99 : (99 : Int) ∈ P.ns ++ [99] := List.mem_append_right _ (.head _)
  have i0 : nm 0 ∈ P.ns ++ [99] := List.mem_append_left _ (hTB.inN (Int.le_refl _) m0)
  refine lca_ok B F10 X T rfl S (fun q hq => by rw [List.mem_singleton.mp hq]; exact N10 _ (.tail _ (.tail _ (.tail _ (.tail _ (.head _)))))) (hz9.ok F10 (fun q hq => N10 q (.tail _ (.tail _ (.tail _ (.tail _ (.tail _ hq))))))) (hG9.diG (fun q hq => N10 q (.tail _ (.tail _ (.tail _ (.tail _ (.tail _ (hHW9 q hq))))))) S) (hTB.closedS99 pT.out) (hTB.closedP99 pT.out) (by rw [List.length_append]; have := hTB.nlen pT.out; show _ + 1 ≤ 12; omega) (hTB.acyc99 pT.out) i99 i0 (by walk_at "ROOM") (by walk_at "UNITS") fun ra ha tka psa kba hga hpsa hansa => ?_
  obtain ⟨Wa, hsuba, hza, h6a, hsa, Fa, Na⟩ := led_step F10 N10 (tab_U pP.out.a1 pP.out.a2 pP.out.a6) h69 (.tail _ (.head _)) hs9 n613 kba hga hpsa
  have hHWa : ∀ p ∈ H9, p ∈ Wa := fun p hp => hsuba p (hHW9 p hp)
  obtain rfl := hTB.ans99 pT.out (Int.le_refl _) m0 hansa
  have pza := Pack.mk (And.intro hza (And.intro hHWa (And.intro h6a hsa)))
  clear F10 N10 hz9 hHW9 h69 hs9 hG9 hTB i99 i0 hza hHWa h6a hsa hansa hsuba kba hga hpsa
  dsimp only [ledU] at Na
  k_steps
  rename Fr _ _ _ _ => F11
  rename News _ _ _ _ => N11
  show wpAny _ (ktrTop _ _ _ _ _ _ _ _ _ _) (call (.ref 624) [.ref P.gr, .int 99 _, .int (nm 0) _, .int 7 _]) _ _ _
  obtain ⟨hza, hHWa, h6a, hsa⟩ := pza.out
  have hG9 := pG9.out
  have hTB := pP.out.TB.toTreeG
  have i99 : (99 : Int) ∈ P.ns ++ [99] := List.mem_append_right _ (.head _)
  have i0 : nm 0 ∈ P.ns ++ [99] := List.mem_append_left _ (hTB.inN (Int.le_refl _) m0)
  refine lca_ok7 B F11 X T rfl S (fun q hq => by rw [List.mem_singleton.mp hq]; exact N11 _ (.tail _ (.tail _ (.tail _ (.tail _ (.head _)))))) (hza.ok F11 (fun q hq => N11 q (.tail _ (.tail _ (.tail _ (.tail _ (.tail _ hq))))))) (hG9.diG (fun q hq => N11 q (.tail _ (.tail _ (.tail _ (.tail _ (.tail _ (hHWa q hq))))))) S) (hTB.closedS99 pT.out) (hTB.closedP99 pT.out) (by rw [List.length_append]; have := hTB.nlen pT.out; show _ + 1 ≤ 12; omega) (hTB.acyc99 pT.out) i99 i0 (by walk_at "ROOM") (by walk_at "UNITS") fun rb hb tkb psb kbb hgb hpsb hansb => ?_
  obtain ⟨Wb, hsubb, hzb, h6b, hsb, Fb, Nb⟩ := led_step F11 N11 (tab_U pP.out.a1 pP.out.a2 pP.out.a6) h6a (.tail _ (.head _)) hsa n613 kbb hgb hpsb
  have hHWb : ∀ p ∈ H9, p ∈ Wb := fun p hp => hsubb p (hHWa p hp)
  obtain rfl := hTB.ans99 pT.out (Int.le_refl _) m0 hansb
  have pzb := Pack.mk (And.intro hzb (And.intro hHWb (And.intro h6b hsb)))
  clear F11 N11 hza hHWa h6a hsa hG9 hTB i99 i0 hzb hHWb h6b hsb hansb hsubb kbb hgb hpsb
  dsimp only [ledU] at Nb
  k_steps
  show wpAny _ (ktrTop _ _ _ _ _ _ _ _ _ _) (compareOp _ (.int 7 _) (.int 7 _)) _ _ _
  refine ne_int ?_
  rw [bne_self_eq_false]
  k_steps
  rename Fr _ _ _ _ => F12
  rename News _ _ _ _ => N12
  show wpAny _ (ktrTop _ _ _ _ _ _ _ _ _ _) (call (.ref 624) [.ref P.gr, .int 99 _, .int 99 _]) _ _ _
  obtain ⟨hzb, hHWb, h6b, hsb⟩ := pzb.out
  have hG9 := pG9.out
  have hTB := pP.out.TB.toTreeG
  have i99 : (99 : Int) ∈ P.ns ++ [99] := List.mem_append_right _ (.head _)
  refine lca_ok B F12 X T rfl S (fun q hq => by rw [List.mem_singleton.mp hq]; exact N12 _ (.tail _ (.tail _ (.tail _ (.tail _ (.head _)))))) (hzb.ok F12 (fun q hq => N12 q (.tail _ (.tail _ (.tail _ (.tail _ (.tail _ hq))))))) (hG9.diG (fun q hq => N12 q (.tail _ (.tail _ (.tail _ (.tail _ (.tail _ (hHWb q hq))))))) S) (hTB.closedS99 pT.out) (hTB.closedP99 pT.out) (by rw [List.length_append]; have := hTB.nlen pT.out; show _ + 1 ≤ 12; omega) (hTB.acyc99 pT.out) i99 i99 (by walk_at "ROOM") (by walk_at "UNITS") fun rd hd tkd psd kbd hgd hpsd hansd => ?_
  obtain ⟨Wd, hsubd, hzd, h6d, hsd, Fd, Nd⟩ := led_step F12 N12 (tab_U pP.out.a1 pP.out.a2 pP.out.a6) h6b (.tail _ (.head _)) hsb n613 kbd hgd hpsd
  have hHWd : ∀ p ∈ H9, p ∈ Wd := fun p hp => hsubd p (hHWb p hp)
  obtain ⟨td, rfl⟩ := hTB.same99 pT.out hansd
  have pzd := Pack.mk (And.intro hzd (And.intro hHWd (And.intro h6d hsd)))
  clear F12 N12 hzb hHWb h6b hsb hG9 hTB i99 hzd hHWd h6d hsd hansd hsubd kbd hgd hpsd
  dsimp only [ledU] at Nd
  k_steps
  show wpAny _ (ktrTop _ _ _ _ _ _ _ _ _ _) (compareOp _ (.int 99 _) (.int 99 _)) _ _ _
  refine ne_int ?_
  rw [bne_self_eq_false]
  k_steps
  rename Fr _ _ _ _ => F13
  rename News _ _ _ _ => N13
  obtain ⟨hzd, hHWd, h6d, hsd⟩ := pzd.out
  exact ⟨P, v0, v1, v2, v3, v4, v5, v6, vo, _, _, _, x, t, n, psd, Wd, H9, rfl, pP.out, rfl, (by repeat (first | exact hgb | refine bare_push ?_)), F13, N13, hx0, hx1, hzd, hHWd, h6d, hsd, pG9.out⟩
end
section
variable {prog : Program} {w : World} {A : Around} {E : Value → Shared → Prop} {s' : Shared} {base g h₀ h : Heap} {outer : List Env} {L a e t : Addr} {m : Str → Option Value} {cn : Str} {cs : Scope} {ccd : Value} {cl : List (Str × Addr)}
  {vs : List Value} {b₀ : Stmt} {suite : List Stmt} {pos np : Pos} {rest : List ExceptHandler} {Q : Flow → Shared → Prop} {news : List (Addr × Obj)} {KF : Frag} {C : Addr} {bmB : List Value} {newId : String}
  {p : Program} {loose : List Str} {mg mb : Str → Option Value} {x : Str}
/-- an exception of one's own kind is caught, in a frame with cells -/
theorem caught_X0 (hA : A.frames = some (envX cn cs L a ccd cl :: outer)) (F : Fr h₀ L h m) (hsm : h.UpToSlots s'.heap) (R : RaisedK h₀ (envX cn cs L a ccd cl :: outer) e (.ref C) t vs news s'.heap)
    (X : KF.In h₀) (T : TopRead p loose mg mb h₀) (ex : nsIn KF mainGlobals x = some (some (.ref C))) (q : excIn KF C bmB newId = true) (hbase : bmB.contains (.type "BaseException") = true)
    (k : ∀ h' news₂, Fr h₀ L h' m → News h₀ L h' news₂ → Got news₂ e t (.ref C) vs → News h₀ L h' news →
      wpAny (model prog w) (A.mark (some (.ref e))) (execs (b₀ :: suite) (envX cn cs L a ccd cl)) Q E { s' with heap := h' })
    (hk : cs.kind = .function := by rfl) (hx : (envX cn cs L a ccd cl).kindOf x = some .globalImplicit := by rfl) (hd : (x == ("__debug__" : Str)) = false := by decide)
    (hE : PassesOwnAt (model prog w) (A.mark (some (.ref e))) A (envX cn cs L a ccd cl) E := by passes_own) :
    wpAny (model prog w) A (noteFrame (.ref e) (envX cn cs L a ccd cl))
      (fun _ s₂ => wpAny (model prog w) A (setFlight (.ref e) none) (fun _ s₃ =>
        wpAny (model prog w) A (handleBy (.ref e) (envX cn cs L a ccd cl) (.ExceptHandler (some (.Name x np)) none (b₀ :: suite) pos :: rest)) Q E s₃) E s₂) E s' := by
  obtain ⟨⟨B, hB, hl, hfl, hnew⟩, htup⟩ := R
  have hL : B.get? L = none := by
    obtain ⟨_, ⟨L', _, hf, hn', _⟩, _⟩ := hfl.2.2.1
    obtain rfl : L = L' := Option.some.inj hf
    exact hn'
  refine wpAny_looks_onW hA rfl hfl fun h₄ hheld₄ hsm₄ => ?_
  refine wpAny_landsW hheld₄ fun h₅ hheld hsm₅' => ?_
  have hsm₅ := hsm₄.trans hsm₅'
  have hheld' := flyingW_base hB hheld
  have F₅ := F.of_stays hheld'.1 (hsm.trans hsm₅)
  obtain ⟨ob, hob, hobc⟩ := hheld'.there
  refine wpAny_handleBy_cons (codeAny_handlers_test (nameX_K F₅ X T ex ?_ hk hx hd)) (by intro q; cases q)
  obtain ⟨bm, N, nm, qn, bs, hdct, sn, sub, ab, col, dd, k0, k1, k2, k3, k5, mN, hC, hN, hni, TL⟩ := ((own_of_in X T ex q).keeps F₅.keep).obj
  refine wpAny_excMatches_sub_self hC hob hobc (TL.hasType hbase) (codeAny_handlers_suite ?_)
  refine lands_againW hheld fun h₆ hfl₆ hsm₆ => ?_
  have hfl₆' := flyingW_base hB hfl₆
  have F₆ := F.of_stays hfl₆'.1 ((hsm.trans hsm₅).trans hsm₆)
  obtain ⟨oe, ws, hoe, hoec, hoed, hoe0⟩ := hfl₆'.first
  obtain ⟨ot, nt, hot, hotc, hotd⟩ := (htup.of_slots hsm₅).of_slots hsm₆
  have N₆ := News.more F₆ (News.more F₆ News.nil hot (fun es n q => by rw [hotd] at q; cases q) (fresh_of_stays hB hnew)) hoe (fun es n q => by rw [hoed] at q; cases q) hfl₆'.2.1
  exact wpAny_passesOwnAt hE (k h₆ _ F₆ N₆ ⟨oe, ot, ws, nt, .head _, .tail _ (.head _), hoec, hoed, hoe0, hotc, hotd⟩ fun q hq => ⟨hfl₆.1 _ _ (hl q hq).1, (fun z => by have := (hl q hq).1; rw [z, hL] at this; cases this), (hl q hq).2⟩)
/-- what stood ahead of a raise still stands after it -/
theorem raisedK_of {G : Heap} {env : Env} {cls : Value} {h' g0 : Heap} (R : RaisedS base G [env] e cls t vs [] h') (F : Fr g0 L G m) (hf : env.frame = some L) (N : News g0 L G news) : RaisedK g0 [env] e cls t vs news h' := by
  obtain ⟨⟨B, hB, hBG, _, hfl, hnew⟩, htup⟩ := R
  have off : ∀ b, b ≠ L → b ∉ [env].filterMap (·.frame) := fun b hb hm => by
    rcases mem_frames hf hm with z | z
    · exact hb z
    · cases z
  exact ⟨⟨B, fun b o q => hBG b o (F.keep b o q) (off b (fun z => by rw [z, kts_self F] at q; cases q)), fun q hq => ⟨hBG _ _ (N q hq).1 (off _ (N q hq).2.1), (N q hq).2.2⟩, hfl, hnew⟩, htup⟩
end
section
local macro_rules | `(tactic| walk_at "nothing") => `(tactic| fail "nothing")
local macro_rules | `(tactic| walk_at "nothing") => `(tactic| fail "nothing")
local macro_rules | `(tactic| walk_at "nothing") => `(tactic| fail "nothing")
local macro_rules | `(tactic| walk_at "nothing") => `(tactic| fail "nothing")
local macro_rules | `(tactic| walk_at "nothing") => `(tactic| fail "nothing")
local macro_rules | `(tactic| walk_at "nothing") => `(tactic| fail "nothing")
local macro_rules | `(tactic| walk_at "nothing") => `(tactic| fail "nothing")
local macro_rules | `(tactic| walk_at "nothing") => `(tactic| fail "nothing")
local macro_rules | `(tactic| walk_at "nothing") => `(tactic| fail "nothing")
local macro_rules | `(tactic| walk_at "nothing") => `(tactic| fail "nothing")
local macro_rules | `(tactic| walk_at "nothing") => `(tactic| fail "nothing")
local macro_rules | `(tactic| walk_at "nothing") => `(tactic| fail "nothing")
local macro_rules | `(tactic| walk_at "nothing") => `(tactic| fail "nothing")
local macro_rules | `(tactic| walk_at "exec Try") => `(tactic| ((with_reducible show wpAny _ _ (exec (Stmt.Try _ (_ :: _) _ [] _) (envX _ _ _ _ _ _)) _ _ _); refine wpAny_Try_except ?_))
local macro_rules | `(tactic| walk_at "exec Assign cons ListComp") => `(tactic| (k_here; (with_reducible show wpAny _ _ (exec (Stmt.Assign _ (Expr.ListComp _ [Comprehension.mk _ (Expr.Tuple _ _ _) _ _] _ _) _) _) _ _ _); k_dflt (refine' Assign_ListComp_Tu ?hF ?hLe ?hsw ?hclos ?hcell ?hkind ?hnames ?hx ?hy ?hp ?_ ?hs; (case hF => k_asm); (case hLe => rfl); (case hsw => with_unfolding_all rfl); (case hclos => with_unfolding_all rfl); (case hcell => decide); (case hkind => rfl); (case hnames => decide); (case hx => with_unfolding_all rfl); (case hy => rfl); (case hp => rfl); (case hs => intro _; with_unfolding_all rfl))))
local macro_rules | `(tactic| walk_at "call ref") => `(tactic| ((first
  | (with_reducible show wpAny _ _ (call (Value.ref 624) _) _ _ _)
  | (with_reducible show wpAny _ _ (call (Value.ref 610) _) _ _ _)); refine stopI ?_))
local macro_rules | `(tactic| walk_at "call ref") => `(tactic| (k_here; (with_reducible show wpAny _ _ (call (Value.ref 854) [Value.ref _, Value.int _ _]) _ _ _); k_dflt (refine' next_N ?B ?F ?X ?T ?hk ?S ?N ?U ?a ?b ?c ?d ?hdp ?hun ?_; (case B => k_asm); (case F => k_asm); (case X => k_asm); (case T => k_asm); (case hk => rfl); (case S => assumption); (case N => k_asm); (case U => k_updF); (case a => assumption); (case b => assumption); (case c => omega); (case d => omega); (case hdp => walk_at "ROOM"); (case hun => walk_at "UNITS")); intro x' t' n' r' tr' h' tk' hx0' hx1' hr0' hr1' F' N'; (try dsimp only at N'); (try dsimp only); (try k_sweep)))
local macro_rules | `(tactic| walk_at "eval ListComp") => `(tactic| (k_here; (with_reducible show wpAny _ _ (eval (Expr.ListComp _ [Comprehension.mk _ (Expr.Call _ _ _ _) _ _] _ _) _) _ _ _); k_dflt (refine' PyProof.Rows.LCg.ListComp_U ?hF ?hclos ?hcell ?hkind ?hnames ?hx ?_ ?hs; (case hF => k_asm); (case hclos => with_unfolding_all rfl); (case hcell => decide); (case hkind => rfl); (case hnames => decide); (case hx => with_unfolding_all rfl); (case hs => intro _; with_unfolding_all rfl))))
local macro_rules | `(tactic| walk_at "CompSrc") => `(tactic| refine stopI ?_)
local macro_rules | `(tactic| walk_at "pyIter ref") => `(tactic| refine stopI ?_)
local macro_rules | `(tactic| walk_at "compareOp NotEq int int") => `(tactic| refine stopI ?_)
local macro_rules | `(tactic| walk_at "compareOp NotEq bool bool") => `(tactic| refine stopI ?_)
local macro_rules | `(tactic| walk_at "subscriptTail") => `(tactic| (k_here; (with_reducible show wpAny _ _ (subscriptTail _ _ (Value.ref _) (Value.ref _)) _ _ _); k_dflt (refine' item_H ?N ?hm ?hD ?hK ?hKn ?ht ?hu ?hv ?_ ?hs ?hg; (case N => k_asm); (case hm => k_mem); (case hD => with_reducible assumption); (case hK => with_reducible assumption); (case hKn => (intro p hp; (repeat (refine List.mem_cons_of_mem _ ?_)); (revert hp; revert p; with_reducible assumption))); (case ht => k_mem); (case hu => walk_at "UNITS"); (case hv => with_reducible assumption); (case hs => with_unfolding_all rfl); (case hg => intro _; with_unfolding_all rfl)); intro tk'; (try dsimp only)))
local macro_rules | `(tactic| walk_at "call ref") => `(tactic| (k_here; (with_reducible show wpAny _ _ (call (Value.ref 861) [Value.ref _, Value.int _ _]) _ _ _); k_dflt (refine' way_spec ?B ?F ?X ?T ?hk ?S ?hl ?hv0 ?hv1 ?hm ?hroot ?hab ?hdp ?hun ?_; (case B => k_asm); (case F => k_asm); (case X => k_asm); (case T => k_asm); (case hk => rfl); (case S => assumption); (case hl => walk_at "LIST"); (case hv0 => with_reducible assumption); (case hv1 => with_reducible assumption); (case hm => with_reducible assumption); (case hroot => rfl); (case hab => with_reducible assumption); (case hdp => walk_at "ROOM"); (case hun => walk_at "UNITS")); intro D' vs' l' n' h' tk' hk' hq' hD' hI' hW'; (have N' := news_add (by k_asm) (news_onto (by k_asm) hk') hq' hD'); (have l1' := news_lt (by k_asm) hq'); (have F' := fr_onto (by k_asm) hk'); (try clear hk' hq' hD'); (try k_lt l1'); (try dsimp only); (try k_sweep)))
local macro_rules | `(tactic| walk_at "call builtin:len") => `(tactic| (k_here; (with_reducible show wpAny _ _ (call (Value.builtin "len") [Value.ref _]) _ _ _); k_dflt (refine' len_ints ?hl ?hi ?hlen ?_; (case hl => walk_at "LIST"); (case hi => with_reducible assumption); (case hlen => (refine way_short (Pack.out (by with_reducible assumption)) (by with_reducible assumption) (by with_reducible assumption) (by with_reducible assumption) (by with_reducible assumption)))); intro tl' tkl'; (try dsimp only)))
local macro_rules | `(tactic| walk_at "subscriptTail") => `(tactic| (k_here; (with_reducible show wpAny _ _ (subscriptTail _ _ (Value.ref _) (Value.int _ _)) _ _ _); k_dflt (refine' item_names ?D ?hl ?h0 ?h1 ?_ ?hs ?hg; (case D => with_reducible assumption); (case hl => walk_at "LIST"); (case h0 => first | (with_reducible assumption) | omega); (case h1 => first | (with_reducible assumption) | omega); (case hs => with_unfolding_all rfl); (case hg => intro _; with_unfolding_all rfl)); intro tn'; (try dsimp only)))
theorem TreeG.no98 {many : Int} {ab : Int → Int} {ns : List Int} {sb pb : Int → List Int} (G : TreeG many ab ns sb pb) : (98 : Int) ∉ ns ++ [99] := fun h => by
  rcases List.mem_append.mp h with h | h
  · obtain ⟨k, _, _, e⟩ := (G.mem _).mp h
    exact nm_no.2 e.symm
  · cases List.mem_singleton.mp h
theorem law_9 {w : World} {p : Program} {loose : List Str} {mean : ExcName → Option Value} {mg mb : Str → Option Value} {base g0 : Heap} {L sc : Addr} {s : Shared} {s₀ : Shared} {A₀ : Around} {dp un : Nat} {gd : Option (List Code)}
    {nm1 qual : Str} {prms : Arguments} {body : List Stmt} {scope : Scope} {dV kV doc pm cdv' ct oc : Value} {an od : Option Addr} {osl : Array (Option Value)}
    (hb : (hd.heap_39 w.params).lookup 866 = some ⟨oc, od, .func (fnOf nm1 qual prms body scope dV kV doc pm an cdv' ct), osl⟩)
    (B : Below A₀ base [] g0) (X : (hd.heap_39 w.params).In g0) (T : Top p loose mean mg mb g0) (S : Sys g0) (h8 : Law8 PySem.Challenge.rw_fq0029_01.row.prog w g0 L sc s₀ s) (hgd : gd = some []) (hdp : dp + 100 < recursionLimit) (hun : un + 1000 < cLine) :
    wpAny (model PySem.Challenge.rw_fq0029_01.row.prog w) (ktrTop dp un gd qual scope L 866 cdv' [("other", L + 1 + 1 + 1 + 1), ("above", L + 1 + 1 + 1), ("many", L + 1 + 1), ("s", L + 1)] []) (execs ((body.drop 13).take 1) (envX qual scope L 866 cdv' [("other", L + 1 + 1 + 1 + 1), ("above", L + 1 + 1 + 1), ("many", L + 1 + 1), ("s", L + 1)])) (fun f s' => f = .next ∧ Stop (Law8 PySem.Challenge.rw_fq0029_01.row.prog w g0 L sc s₀ s')) Never s := by
  revert X
  k_fill
  intro X
  refine' use_eq hb ?hh ?_
  case hh => k_is
  intro e
  cases e
  clear hb

  obtain ⟨P, v0, v1, v2, v3, v4, v5, v6, vo, h, tk, gg, x, t, n, ps, Wt, H9, rfl, hP, rfl, hgb, F, N, hx0, hx1, hz, hH9, hw6, hws, hG⟩ := h8
  have hD := hP.D
  have hTt := hD.toTree
  have m0 : 0 < P.many := by have := hD.m0; omega
  have pP := Pack.mk hP
  have pz := Pack.mk (And.intro hz (And.intro hH9 (And.intro hw6 hws)))
  have pG := Pack.mk hG
  have pT := Pack.mk hTt
  clear hP hz hH9 hw6 hws hG hTt
  dsimp only [ledU] at N
  show wpAny _ _ (execs [_] _) _ _ _
  k_steps
  rename Fr _ _ _ _ => F1
  rename News _ _ _ _ => N1
  show wpAny _ (ktrTop _ _ _ _ _ _ _ _ _ _) (call (.ref 624) [.ref P.gr, .int 0 _, .int 98 _]) _ _ _
  have hTB := pP.out.TB.toTreeG
  have i0 : (0 : Int) ∈ P.ns ++ [99] := List.mem_append_left _ (hTB.inN (Int.le_refl 0) m0)
  refine lca_miss B F1 X T rfl S (pG.out.diG (fun q hq => N1 q (.tail _ (.tail _ (.tail _ (.tail _ (.tail _ (pz.out.2.1 q hq))))))) S) (hTB.closedS99 pT.out) (by rw [List.length_append]; have := hTB.nlen pT.out; show _ + 1 ≤ 12; omega) (hTB.acyc99 pT.out) i0 hTB.no98 hgd (by walk_at "ROOM") (by walk_at "UNITS") fun e te vse h9 tk9 R9 U9 => ?_
  have R10 := raisedK_of R9 F1 rfl N1
  dsimp only
  show wpAny _ _ (noteFrame _ _) (fun _ s₂ => wpAny _ _ (setFlight _ none) (fun _ s₃ => wpAny _ _ (handleBy _ _ (ExceptHandler.ExceptHandler (some (Expr.Name _ _)) none _ _ :: _)) _ _ s₃) _ s₂) _ _
  refine caught_X0 (p := p) (loose := loose) (mg := mg) (mb := mb) (bmB := [.type "Exception", .type "BaseException", .type "object"]) (newId := "Exception.__new__") rfl F1 U9 R10 X ?T ?ex ?q ?hb ?_
  case T => k_asm
  case ex => k_is
  case q => k_exc
  case hb => rfl
  intro h10 news2 F2 _ _ N2
  clear R9 U9 R10 F1 N1
  k_steps
  obtain ⟨hz, hH9, hw6, hws⟩ := pz.out
  exact ⟨P, v0, v1, v2, v3, v4, v5, v6, vo, _, _, _, x, t, n, ps, Wt, H9, rfl, pP.out, rfl, (by repeat (first | exact hgb | refine bare_push ?_)), F2, N2, hx0, hx1, hz, hH9, hw6, hws, pG.out⟩
end
section
variable {many : Int} {ab : Int → Int} {ns : List Int} {sb pb : Int → List Int}
theorem reach_head {f : Int → List Int} {x y z : Int} (h : y ∈ f x) (r : Reach f y z) : Reach f x z := by
  induction r with
  | refl => exact .step .refl h
  | step _ hk ih => exact .step ih hk
theorem TreeG.down (T : Tree many ab) (G : TreeG many ab ns sb pb) {a j : Int} (h : Up ab a j) (h0 : 0 ≤ a) (h1 : a < many) : Reach sb (nm j) (nm a) := by
  induction h with
  | refl => exact .refl
  | step hu hj ih =>
    have := hu.range T h0 h1
    exact reach_head ((G.smem _ _).mpr ⟨_, hj, by omega, rfl, rfl⟩) ih
theorem reach_mono {f g : Int → List Int} (h : ∀ x, ∀ y ∈ f x, y ∈ g x) {x y : Int} (r : Reach f x y) : Reach g x y := by
  induction r with
  | refl => exact .refl
  | step _ hk ih => exact .step ih (h _ _ hk)
theorem in_arc {f : Int → List Int} {u v x y : Int} (h : y ∈ f x) : y ∈ arc f u v x := by
  unfold arc
  split
  · rename_i e; subst e; exact List.mem_append_left _ h
  · exact h
theorem arc_self {f : Int → List Int} {u v : Int} : v ∈ arc f u v u := by
  unfold arc
  rw [if_pos rfl]
  exact List.mem_append_right _ (.head _)
theorem of_arc {f : Int → List Int} {u v x y : Int} (h : y ∈ arc f u v x) : y ∈ f x ∨ y = v := by
  unfold arc at h
  split at h
  · rename_i e; subst e
    rcases List.mem_append.mp h with h | h
    · exact .inl h
    · exact .inr (List.mem_singleton.mp h)
  · exact .inl h
theorem in_addn {l : List Int} {n x : Int} (h : x ∈ l) : x ∈ addn l n := by
  unfold addn
  split
  · exact h
  · exact List.mem_append_left _ h
theorem self_addn {l : List Int} {n : Int} : n ∈ addn l n := by
  unfold addn
  split
  · assumption
  · exact List.mem_append_right _ (.head _)
theorem of_addn {l : List Int} {n x : Int} (h : x ∈ addn l n) : x ∈ l ∨ x = n := by
  unfold addn at h
  split at h
  · exact .inl h
  · rcases List.mem_append.mp h with h | h
    · exact .inl h
    · exact .inr (List.mem_singleton.mp h)
theorem TreeG.noS (T : Tree many ab) (G : TreeG many ab ns sb pb) (u : Int) : nm 0 ∉ sb u := fun h => by
  obtain ⟨k, k0, k1, _, e⟩ := (G.smem _ _).mp h
  have := T.m1
  have := nm_inj (by omega) (by omega) (by omega) (by omega) e
  omega
theorem TreeG.noP (T : Tree many ab) (G : TreeG many ab ns sb pb) (u : Int) : u ∉ pb (nm 0) := fun h => by
  obtain ⟨k, k0, k1, _, e⟩ := (G.pmem _ _).mp h
  have := T.m1
  have := nm_inj (by omega) (by omega) (by omega) (by omega) e
  omega
theorem TreeG.closedR (T : Tree many ab) (G : TreeG many ab ns sb pb) (u : Int) : Closed (addn (addn (ns ++ [99]) u) (nm 0)) (arc sb u (nm 0)) := fun n hn k hk => by
  rcases of_arc hk with hk | rfl
  · obtain ⟨i, h0, h1, _, rfl⟩ := (G.smem _ _).mp hk
    exact in_addn (in_addn (List.mem_append_left _ (G.inN (by omega) h1)))
  · exact self_addn
theorem TreeG.ring (T : Tree many ab) (G : TreeG many ab ns sb pb) {a : Int} (h0 : 0 ≤ a) (h1 : a < many) : ¬ Acyc (addn (addn (ns ++ [99]) (nm a)) (nm 0)) (arc sb (nm a) (nm 0)) := fun h =>
  h (nm a) (in_addn self_addn) (nm 0) arc_self (reach_mono (fun _ _ hy => in_arc hy) (G.down T (Up.root T (Nat.le_refl _) h0 h1) h0 h1))
end
section
local macro_rules | `(tactic| walk_at "nothing") => `(tactic| fail "nothing")
local macro_rules | `(tactic| walk_at "nothing") => `(tactic| fail "nothing")
local macro_rules | `(tactic| walk_at "nothing") => `(tactic| fail "nothing")
local macro_rules | `(tactic| walk_at "nothing") => `(tactic| fail "nothing")
local macro_rules | `(tactic| walk_at "nothing") => `(tactic| fail "nothing")
local macro_rules | `(tactic| walk_at "nothing") => `(tactic| fail "nothing")
local macro_rules | `(tactic| walk_at "nothing") => `(tactic| fail "nothing")
local macro_rules | `(tactic| walk_at "nothing") => `(tactic| fail "nothing")
local macro_rules | `(tactic| walk_at "nothing") => `(tactic| fail "nothing")
local macro_rules | `(tactic| walk_at "nothing") => `(tactic| fail "nothing")
local macro_rules | `(tactic| walk_at "nothing") => `(tactic| fail "nothing")
local macro_rules | `(tactic| walk_at "nothing") => `(tactic| fail "nothing")
local macro_rules | `(tactic| walk_at "nothing") => `(tactic| fail "nothing")
local macro_rules | `(tactic| walk_at "nothing") => `(tactic| fail "nothing")
local macro_rules | `(tactic| walk_at "nothing") => `(tactic| fail "nothing")
local macro_rules | `(tactic| walk_at "nothing") => `(tactic| fail "nothing")
local macro_rules | `(tactic| walk_at "nothing") => `(tactic| fail "nothing")
local macro_rules | `(tactic| walk_at "nothing") => `(tactic| fail "nothing")
local macro_rules | `(tactic| walk_at "nothing") => `(tactic| fail "nothing")
local macro_rules | `(tactic| walk_at "nothing") => `(tactic| fail "nothing")
local macro_rules | `(tactic| walk_at "nothing") => `(tactic| fail "nothing")
local macro_rules | `(tactic| walk_at "nothing") => `(tactic| fail "nothing")
local macro_rules | `(tactic| walk_at "nothing") => `(tactic| fail "nothing")
local macro_rules | `(tactic| walk_at "nothing") => `(tactic| fail "nothing")
local macro_rules | `(tactic| walk_at "nothing") => `(tactic| fail "nothing")
local macro_rules | `(tactic| walk_at "nothing") => `(tactic| fail "nothing")
local macro_rules | `(tactic| walk_at "nothing") => `(tactic| fail "nothing")
local macro_rules | `(tactic| walk_at "exec Assign cons ListComp") => `(tactic| (k_here; (with_reducible show wpAny _ _ (exec (Stmt.Assign _ (Expr.ListComp _ [Comprehension.mk _ (Expr.Tuple _ _ _) _ _] _ _) _) _) _ _ _); k_dflt (refine' Assign_ListComp_Tu ?hF ?hLe ?hsw ?hclos ?hcell ?hkind ?hnames ?hx ?hy ?hp ?_ ?hs; (case hF => k_asm); (case hLe => rfl); (case hsw => with_unfolding_all rfl); (case hclos => with_unfolding_all rfl); (case hcell => decide); (case hkind => rfl); (case hnames => decide); (case hx => with_unfolding_all rfl); (case hy => rfl); (case hp => rfl); (case hs => intro _; with_unfolding_all rfl))))
local macro_rules | `(tactic| walk_at "call ref") => `(tactic| ((first
  | (with_reducible show wpAny _ _ (call (Value.ref 624) _) _ _ _)
  | (with_reducible show wpAny _ _ (call (Value.ref 610) _) _ _ _)); refine stopI ?_))
local macro_rules | `(tactic| walk_at "call ref") => `(tactic| (k_here; (with_reducible show wpAny _ _ (call (Value.ref 854) [Value.ref _, Value.int _ _]) _ _ _); k_dflt (refine' next_N ?B ?F ?X ?T ?hk ?S ?N ?U ?a ?b ?c ?d ?hdp ?hun ?_; (case B => k_asm); (case F => k_asm); (case X => k_asm); (case T => k_asm); (case hk => rfl); (case S => assumption); (case N => k_asm); (case U => k_updF); (case a => assumption); (case b => assumption); (case c => omega); (case d => omega); (case hdp => walk_at "ROOM"); (case hun => walk_at "UNITS")); intro x' t' n' r' tr' h' tk' hx0' hx1' hr0' hr1' F' N'; (try dsimp only at N'); (try dsimp only); (try k_sweep)))
local macro_rules | `(tactic| walk_at "eval ListComp") => `(tactic| (k_here; (with_reducible show wpAny _ _ (eval (Expr.ListComp _ [Comprehension.mk _ (Expr.Call _ _ _ _) _ _] _ _) _) _ _ _); k_dflt (refine' PyProof.Rows.LCg.ListComp_U ?hF ?hclos ?hcell ?hkind ?hnames ?hx ?_ ?hs; (case hF => k_asm); (case hclos => with_unfolding_all rfl); (case hcell => decide); (case hkind => rfl); (case hnames => decide); (case hx => with_unfolding_all rfl); (case hs => intro _; with_unfolding_all rfl))))
local macro_rules | `(tactic| walk_at "CompSrc") => `(tactic| refine stopI ?_)
local macro_rules | `(tactic| walk_at "pyIter ref") => `(tactic| refine stopI ?_)
local macro_rules | `(tactic| walk_at "compareOp NotEq int int") => `(tactic| refine stopI ?_)
local macro_rules | `(tactic| walk_at "compareOp NotEq bool bool") => `(tactic| refine stopI ?_)
local macro_rules | `(tactic| walk_at "subscriptTail") => `(tactic| (k_here; (with_reducible show wpAny _ _ (subscriptTail _ _ (Value.ref _) (Value.ref _)) _ _ _); k_dflt (refine' item_H ?N ?hm ?hD ?hK ?hKn ?ht ?hu ?hv ?_ ?hs ?hg; (case N => k_asm); (case hm => k_mem); (case hD => with_reducible assumption); (case hK => with_reducible assumption); (case hKn => (intro p hp; (repeat (refine List.mem_cons_of_mem _ ?_)); (revert hp; revert p; with_reducible assumption))); (case ht => k_mem); (case hu => walk_at "UNITS"); (case hv => with_reducible assumption); (case hs => with_unfolding_all rfl); (case hg => intro _; with_unfolding_all rfl)); intro tk'; (try dsimp only)))
local macro_rules | `(tactic| walk_at "call ref") => `(tactic| (k_here; (with_reducible show wpAny _ _ (call (Value.ref 861) [Value.ref _, Value.int _ _]) _ _ _); k_dflt (refine' way_spec ?B ?F ?X ?T ?hk ?S ?hl ?hv0 ?hv1 ?hm ?hroot ?hab ?hdp ?hun ?_; (case B => k_asm); (case F => k_asm); (case X => k_asm); (case T => k_asm); (case hk => rfl); (case S => assumption); (case hl => walk_at "LIST"); (case hv0 => with_reducible assumption); (case hv1 => with_reducible assumption); (case hm => with_reducible assumption); (case hroot => rfl); (case hab => with_reducible assumption); (case hdp => walk_at "ROOM"); (case hun => walk_at "UNITS")); intro D' vs' l' n' h' tk' hk' hq' hD' hI' hW'; (have N' := news_add (by k_asm) (news_onto (by k_asm) hk') hq' hD'); (have l1' := news_lt (by k_asm) hq'); (have F' := fr_onto (by k_asm) hk'); (try clear hk' hq' hD'); (try k_lt l1'); (try dsimp only); (try k_sweep)))
local macro_rules | `(tactic| walk_at "call builtin:len") => `(tactic| (k_here; (with_reducible show wpAny _ _ (call (Value.builtin "len") [Value.ref _]) _ _ _); k_dflt (refine' len_ints ?hl ?hi ?hlen ?_; (case hl => walk_at "LIST"); (case hi => with_reducible assumption); (case hlen => (refine way_short (Pack.out (by with_reducible assumption)) (by with_reducible assumption) (by with_reducible assumption) (by with_reducible assumption) (by with_reducible assumption)))); intro tl' tkl'; (try dsimp only)))

local macro_rules | `(tactic| walk_at "exec Try") => `(tactic| ((with_reducible show wpAny _ _ (exec (Stmt.Try _ (_ :: _) _ [] _) (envX _ _ _ _ _ _)) _ _ _); refine wpAny_Try_except ?_))
local macro_rules | `(tactic| walk_at "call ref") => `(tactic| ((with_reducible show wpAny _ _ (call (Value.ref 704) _) _ _ _); refine stopI ?_))
/-- the law's end: what stood stands, the table has grown, nothing is left over -/
def Law10 (g0 : Heap) (L : Addr) (s s' : Shared) : Prop := (∃ m, Fr g0 L s'.heap m) ∧ (∃ ps, s'.heap.get? 613 = some (tabObj ps)) ∧ s'.os = s.os ∧ AllBare s'.gens
theorem law_10 {w : World} {p : Program} {loose : List Str} {mean : ExcName → Option Value} {mg mb : Str → Option Value} {base g0 : Heap} {L sc : Addr} {s : Shared} {s₀ : Shared} {A₀ : Around} {dp un : Nat} {gd : Option (List Code)}
    {nm1 qual : Str} {prms : Arguments} {body : List Stmt} {scope : Scope} {dV kV doc pm cdv' ct oc : Value} {an od : Option Addr} {osl : Array (Option Value)}
    (hb : (hd.heap_39 w.params).lookup 866 = some ⟨oc, od, .func (fnOf nm1 qual prms body scope dV kV doc pm an cdv' ct), osl⟩)
    (B : Below A₀ base [] g0) (X : (hd.heap_39 w.params).In g0) (T : Top p loose mean mg mb g0) (S : Sys g0) (h8 : Law8 PySem.Challenge.rw_fq0029_01.row.prog w g0 L sc s₀ s) (hdp : dp + 100 < recursionLimit) (hun : un + 1000 < cLine) :
    wpAny (model PySem.Challenge.rw_fq0029_01.row.prog w) (ktrTop dp un gd qual scope L 866 cdv' [("other", L + 1 + 1 + 1 + 1), ("above", L + 1 + 1 + 1), ("many", L + 1 + 1), ("s", L + 1)] []) (execs (body.drop 14) (envX qual scope L 866 cdv' [("other", L + 1 + 1 + 1 + 1), ("above", L + 1 + 1 + 1), ("many", L + 1 + 1), ("s", L + 1)])) (fun f s' => f = .ret (.bool true) ∧ Stop (Law10 g0 L s₀ s')) Never s := by
  revert X
  k_fill
  intro X
  refine' use_eq hb ?hh ?_
  case hh => k_is
  intro e
  cases e
  clear hb

  obtain ⟨P, v0, v1, v2, v3, v4, v5, v6, vo, h, tk, gg, x, t, n, ps, Wt, H9, rfl, hP, rfl, hgb, F, N, hx0, hx1, hz, hH9, hw6, hws, hG⟩ := h8
  have hD := hP.D
  have hTt := hD.toTree
  have m0 : 0 < P.many := by have := hD.m0; omega
  have m1 : P.many ≤ 1000 := by have := hD.m1; omega
  have c1 := hP.c1
  have c2 := hP.c2
  have a1 := hP.a1
  have a2 := hP.a2
  have g5 : @Ne Nat P.lm P.ls := hP.a5.symm
  have g9 : @Ne Nat (L + 1 + 1) P.ls := by omega
  have g10 : @Ne Nat (L + 1) P.ls := by omega
  have g11 : @Ne Nat 613 P.ls := by omega
  obtain ⟨c, nd, ad, pd, ra, rp, dx, k1, k2, k3, k4, k5, t1, t2, t3, t4, t5, vd9, DC, hgx, hdx, cg, cdx, hc⟩ := id hG
  have ngr : @Ne Nat P.gr P.ls := hws _ (hH9 _ hgx)
  have ndx : @Ne Nat dx P.ls := hws _ (hH9 _ hdx)
  have inW : ∀ p ∈ Wt, p ∈ ledU L P.ls P.lm x t n P.nm_ P.zs P.o1 P.o2 ps Wt := fun p hp => .tail _ (.tail _ (.tail _ (.tail _ (.tail _ hp))))
  have N2 := news_front (news_front N (inW _ (hH9 _ hdx))) (.tail _ (inW _ (hH9 _ hgx)))
  have pP := Pack.mk hP
  have pz := Pack.mk (And.intro hz (And.intro hH9 hw6))
  have pG := Pack.mk hG.pick
  have pT := Pack.mk hTt
  clear N hP hz hH9 hw6 hG hTt inW a1 a2 DC hgx hdx cg cdx hc
  dsimp only [ledU] at N2
  show wpAny _ _ (execs [_, _, _] _) _ _ _
  k_steps
  rename Fr _ _ _ _ => F1
  rename News _ _ _ _ => N1
  rename_i x9 t9 n9 r9 tr9 hA tkA q0 q1 r0 r1 hB tnA tnB
  show wpAny _ (ktrTop _ _ _ _ _ _ _ _ _ _) (call (.ref 704) [.ref P.gr, .int (nm r9) _, .int (nm 0) _]) _ _ _
  obtain ⟨hz, hH9, hw6⟩ := pz.out
  have hTB := pP.out.TB.toTreeG
  have NW : News g0 L hB Wt := fun q hq => N1 q (.tail _ (.tail _ (.tail _ (.tail _ (.tail _ (.tail _ (.tail _ hq)))))))
  have NH : News g0 L hB H9 := fun q hq => NW q (hH9 q hq)
  have zlm := N1 _ (.tail _ (.tail _ (.head _)))
  have z6 := N1 _ (.tail _ (.tail _ (.tail _ (.tail _ (.tail _ (.tail _ (.head _)))))))
  have zls := N1 _ (.tail _ (.tail _ (.tail _ (.head _))))
  have hnl := hTB.nlen pT.out
  refine add_edge_spec B F1 X T rfl S (H := pick H9) (fun q hq => NH q (mem_pick.mp hq).1) pG.out (by rw [List.length_append]; show _ + 1 ≤ 100; omega) (fun n => by have := pP.out.TB.slen n; omega) (fun n => by have := pP.out.TB.plen n; omega) (fun n hn => hTB.out pT.out fun h => hn (List.mem_append_left _ h)) (hTB.noS pT.out _) (hTB.noP pT.out _) (fun _ => List.mem_append_left _ (hTB.inN r0 r1)) (by walk_at "ROOM") (by walk_at "UNITS") fun h9 tk9 H10 kb NH9 hH10 hG9 => ?_
  have N9 : News g0 L h9 ((P.lm, W.listOf P.zs.toArray P.nm_) :: (613, tabObj ps) :: H10) := List.forall_mem_cons.mpr ⟨⟨kb.keep _ _ (off_pick NH zlm.1 (no_seq rfl)) zlm.1, zlm.2⟩, List.forall_mem_cons.mpr ⟨⟨kb.keep _ _ (fun hm => by obtain ⟨q, hq, e⟩ := List.mem_map.mp hm; exact hw6 q (hH9 q (mem_pick.mp hq).1) e) z6.1, z6.2⟩, NH9⟩⟩
  have F9 := fr_kb F1 kb fun b hb => by
    obtain ⟨q, hq, rfl⟩ := List.mem_map.mp hb
    exact ⟨(NH q (mem_pick.mp hq).1).2.2, (NH q (mem_pick.mp hq).1).2.1⟩
  have pG9 := Pack.mk hG9
  clear hz hH9 hw6 NW NH zlm z6 zls N1 F1 kb NH9 hH10 hG9 ngr ndx g5 g9 g10 g11 c1 c2
  k_steps
  rename Fr _ _ _ _ => F10
  rename News _ _ _ _ => N10
  show wpAny _ (ktrTop _ _ _ _ _ _ _ _ _ _) (call (.ref 624) [.ref P.gr, .int (nm 0) _, .int (nm r9) _]) _ _ _
  refine lca_ring B F10 X T rfl S (pG9.out.diG (fun q hq => N10 q (.tail _ (.tail _ hq))) S) (hTB.closedR pT.out _) (by
    have e1 := len_addn (ns := addn (P.ns ++ [99]) (nm r9)) (n := nm 0)
    have e2 := len_addn (ns := P.ns ++ [99]) (n := nm r9)
    rw [List.length_append] at e2
    have e3 : ([99] : List Int).length = 1 := rfl
    omega) (hTB.ring pT.out r0 r1) (by walk_at "ROOM") (by walk_at "UNITS") fun e te vse h10 tk10 R9 U9 => ?_
  have R10 := raisedK_of R9 F10 rfl N10
  dsimp only
  show wpAny _ _ (noteFrame _ _) (fun _ s₂ => wpAny _ _ (setFlight _ none) (fun _ s₃ => wpAny _ _ (handleBy _ _ (ExceptHandler.ExceptHandler (some (Expr.Name _ _)) none _ _ :: _)) _ _ s₃) _ s₂) _ _
  refine caught_X0 (p := p) (loose := loose) (mg := mg) (mb := mb) (bmB := [.type "Exception", .type "BaseException", .type "object"]) (newId := "Exception.__new__") rfl F10 U9 R10 X ?T ?ex ?q ?hb ?_
  case T => k_asm
  case ex => k_is
  case q => k_exc
  case hb => rfl
  intro h11 news2 F2 _ _ N2
  clear R9 U9 R10 F10 N10
  k_steps
  exact ⟨⟨_, F2⟩, ⟨_, (N2 (613, tabObj ps) (by k_mem)).1⟩, rfl, (by repeat (first | exact hgb | refine bare_push ?_))⟩
end
theorem cut_body {α : Type} (l : List α) : l.take 4 ++ ((l.drop 4).take 1 ++ ((l.drop 5).take 1 ++ ((l.drop 6).take 1 ++ ((l.drop 7).take 2 ++ ((l.drop 9).take 1 ++ ((l.drop 10).take 1 ++ ((l.drop 11).take 2 ++ ((l.drop 13).take 1 ++ l.drop 14)))))))) = l := by
  have key : ∀ (n k : Nat), (l.drop n).take k ++ l.drop (n + k) = l.drop n := fun n k => by
    rw [← List.drop_drop]; exact List.take_append_drop k _
  rw [key 13 1, key 11 2, key 10 1, key 9 1, key 7 2, key 6 1, key 5 1, key 4 1]
  exact List.take_append_drop 4 l
theorem Law1.same {g0 : Heap} {L sc : Addr} {s s' : Shared} (H : Law1 g0 L sc s s') : s'.os = s.os ∧ s'.gens = s.gens := by
  obtain ⟨h, tk, ls, la, lm, x, t, tm, n, nm, ys, zs, many, o1, o2, o3, o4, rfl, _⟩ := H
  exact ⟨rfl, rfl⟩
theorem Law2.same {prog : Program} {w : World} {g0 : Heap} {L sc : Addr} {s s' : Shared} (H : Law2 prog w g0 L sc s s') : s'.os = s.os ∧ s'.gens = s.gens := by
  obtain ⟨h, tk, ls, la, lm, gr, lf, x, t, tm, n, nm_, nf, ys, zs, many, o1, o2, o3, o4, H₀, T₀, ts, rfl, _⟩ := H
  exact ⟨rfl, rfl⟩
theorem law_all {w : World} {p : Program} {loose : List Str} {mean : ExcName → Option Value} {mg mb : Str → Option Value} {base g0 : Heap} {L sc : Addr} {s : Shared} {vs : List Value} {cells : List Int} {o1 o2 o3 o4 : Obj} {A₀ : Around} {dp un : Nat} {gd : Option (List Code)}
    {nm qual : Str} {prms : Arguments} {body : List Stmt} {scope : Scope} {dV kV doc pm cdv' ct oc : Value} {an od : Option Addr} {osl : Array (Option Value)}
    (hb : (hd.heap_39 w.params).lookup 866 = some ⟨oc, od, .func (fnOf nm qual prms body scope dV kV doc pm an cdv' ct), osl⟩)
    (B : Below A₀ base [] g0) (X : (hd.heap_39 w.params).In g0) (T : Top p loose mean mg mb g0) (S : Sys g0)
    (F : Fr g0 L s.heap (lk [("script", some (.ref sc))])) (N : News g0 L s.heap [(L + 1 + 1 + 1 + 1, o4), (L + 1 + 1 + 1, o3), (L + 1 + 1, o2), (L + 1, o1), (613, tabObj #[])])
    (c1 : o1.data = .cell none) (c2 : o2.data = .cell none) (c3 : o3.data = .cell none) (c4 : o4.data = .cell none) (hl : g0.IsList sc vs.toArray) (hi : IntsAre vs cells) (hlen : cells.length ≤ 63) (hdp : dp + 100 < recursionLimit) (hun : un + 1000 < cLine) (h613 : 613 < L) (hgd : gd = some []) (hg0 : AllBare s.gens) :
    wpAny (model PySem.Challenge.rw_fq0029_01.row.prog w) (ktrTop dp un gd qual scope L 866 cdv' [("other", L + 1 + 1 + 1 + 1), ("above", L + 1 + 1 + 1), ("many", L + 1 + 1), ("s", L + 1)] []) (execs body (envX qual scope L 866 cdv' [("other", L + 1 + 1 + 1 + 1), ("above", L + 1 + 1 + 1), ("many", L + 1 + 1), ("s", L + 1)])) (fun f s' => f = .ret (.bool true) ∧ Stop (Law10 g0 L s s')) Never s := by
  rw [show execs body = execs (body.take 4 ++ ((body.drop 4).take 1 ++ ((body.drop 5).take 1 ++ ((body.drop 6).take 1 ++ ((body.drop 7).take 2 ++ ((body.drop 9).take 1 ++ ((body.drop 10).take 1 ++ ((body.drop 11).take 2 ++ ((body.drop 13).take 1 ++ body.drop 14))))))))) from congrArg execs (cut_body body).symm]
  refine execs_app (wpAny_mono (law_1 hb B X T S F N c1 c2 c3 c4 hl hi hlen hdp hun h613) (fun f s1 h1 => ?_) fun _ _ e => e)
  obtain ⟨rfl, h1⟩ := h1
  refine execs_app (wpAny_mono (law_2 hb B X T S h1 hdp hun) (fun f s2 h2 => ?_) fun _ _ e => e)
  obtain ⟨rfl, h2⟩ := h2
  have q1 := Law1.same h1
  have q2 := Law2.same h2
  have hg2 : AllBare s2.gens := by rw [q2.2, q1.2]; exact hg0
  have ho2 : s2.os = s.os := q2.1.trans q1.1
  refine execs_app (wpAny_mono (law_3 hb B X T S h2 hdp hun) (fun f s3 h3 => ?_) fun _ _ e => e)
  obtain ⟨rfl, h3⟩ := h3
  refine execs_app (wpAny_mono (law_4 hb B X T S h3 hdp hun) (fun f s4 h4 => ?_) fun _ _ e => e)
  obtain ⟨rfl, h4⟩ := h4
  refine execs_app (wpAny_mono (law_5 hb B X T S h4 hdp hun) (fun f s5 h5 => ?_) fun _ _ e => e)
  obtain ⟨rfl, h5⟩ := h5
  refine execs_app (wpAny_mono (law_6 hb B X T S h5 hdp hun) (fun f s6 h6 => ?_) fun _ _ e => e)
  obtain ⟨rfl, h6⟩ := h6
  refine execs_app (wpAny_mono (law_7 hb B X T S h6 hg2 hdp hun) (fun f s7 h7 => ?_) fun _ _ e => e)
  obtain ⟨rfl, h7⟩ := h7
  refine execs_app (wpAny_mono (law_8 hb B X T S h7 hdp hun) (fun f s8 h8 => ?_) fun _ _ e => e)
  obtain ⟨rfl, h8⟩ := h8
  refine execs_app (wpAny_mono (law_9 hb B X T S h8 hgd hdp hun) (fun f s9 h9 => ?_) fun _ _ e => e)
  obtain ⟨rfl, h9⟩ := h9
  refine wpAny_mono (law_10 hb B X T S h9 hdp hun) (fun f s' h => ⟨h.1, ?_⟩) fun _ _ e => e
  obtain ⟨a1, a2, a3, a4⟩ := h.2
  exact stopE ⟨a1, a2, a3.trans ho2, a4⟩
theorem sys_of_top {p : Program} {loose : List Str} {mean : ExcName → Option Value} {mg mb : Str → Option Value} {h : Heap} (T : Top p loose mean mg mb h) : Sys h := by
  obtain ⟨_, ⟨o, _, _, ho, _⟩, _⟩ := T.nodigits
  exact ⟨cStatics, o, by decide, ho⟩
/-- the law's end serves the claim -/
theorem end_true {cw : ClaimW} {cl : Str → Option Addr} {mean : ExcName → Option Value} {args : List WData} {s₁ s' : Shared} {tabs : List (Addr × Addr)} (hT : TabsAt tabs s₁.heap) (hr : ∀ cls, cw.raises args cls = false) (hp : cw.post args (.bool true) args = true)
    (keep : ∀ b o, (ghostOf s₁.heap tabs).get? b = some o → s'.heap.get? b = some o) (gr : GrownAll tabs s'.heap) (hos : s'.os = s₁.os) (hg : AllBare s'.gens) : GoodWG cw cl mean args s₁ (.ok (.ret (.bool true))) s' := by
  have one : ∀ b o, s₁.heap.get? b = some o → (b ∉ tabs.map (·.2) ∧ s'.heap.get? b = some o) ∨ (isCodeTable s₁.heap b ∧ o = tabObj #[] ∧ ∃ ps, s'.heap.get? b = some (tabObj ps)) := fun b o e => by
    by_cases hb : b ∈ tabs.map (·.2)
    · obtain ⟨q, hq, rfl⟩ := List.mem_map.mp hb
      have t := hT q hq
      have e2 := t.2
      rw [e] at e2
      exact .inr ⟨(t.1.tab t.2).isCodeTable, Option.some.inj e2, gr.get q hq⟩
    · exact .inl ⟨hb, keep b o (ghost_ne e hb)⟩
  refine ⟨.inl ⟨_, _, [], rfl, hr, ReadsW.bool true, hp, fun _ => ⟨List.nodup_nil, fun _ hm => nomatch hm⟩⟩, ⟨fun b o e => ?_, fun b o e => ?_⟩, hos, hg⟩
  · rcases one b o e with h | ⟨h1, rfl, ps, h3⟩
    · exact .inl h.2
    · exact .inr (.inl ⟨h1, rfl, #[], ps, rfl, by rw [Array.empty_append]; exact h3⟩)
  · rcases one b o e with h | ⟨_, _, ps, h3⟩
    · exact ⟨o, h.2⟩
    · exact ⟨_, h3⟩
theorem in_at {K : Frag} {h : Heap} {a : Addr} {o : Obj} (X : K.In h) (e : K.lookup a = some o) : h.get? a = some o := X a o e
theorem j2 : PySem.Challenge.rw_fq0029_01.Holds := by
  refine hd ?_
  k_fill
  intro w s₀ s₁ mg mb G Y fa o pm cd doc dV kV ho hdt hcd hD hmg hg args vals as hpre hlay hrd hwl hlo
  have KX := km_in_of Y
  km_tabs Y
  have X := (Ground.X G).1
  have V := (Ground.X G).2
  refine Ground.open G ?_
  intro T B D TE TW
  try (refine guard_noD D (by decide +kernel) ?_; clear D)
  have e1 := mg_of (n := Str.ofString "law") (v := .ref 866) KX T.g (by kernel_rfl)
  have e2 : mg (Str.ofString "law") = some (.ref fa) := hmg
  rw [e1] at e2
  cases e2
  clear e1
  km_lay T hmg ho hdt cd
  have ecd : cd = .ref 865 := by
    refine' use_eq ho (in_at KX ?hh) ?_
    case hh => k_is
    intro e
    cases e
    cases hdt
    rfl
  subst ecd
  clear hmg
  wrow_args hpre hlay hrd hwl hlo
  all_goals (first | refine callC_kw (enter_call ?_) | refine enter_call ?_)
  w_top on
  w_call any ho hdt hcd hD T F
  clear hdt
  kn_ghosts F T
  k_drop
  rename_i o4 o3 o2 o1 c4 c3 c2 c1 cA X T K F N h613
  have S := sys_of_top T
  rename IntsAre _ _ => hi
  clear cA
  show wpAny _ (ktrTop _ _ _ _ _ _ _ _ _ _) (execs _ (envX _ _ _ _ _ _)) _ _ _
  dsimp only
  refine' wpAny_mono (law_all (s := { s₁ with heap := _, toks := _ }) ?hb K X T S ?F N ?c1 ?c2 ?c3 ?c4 lifted hi ?hlen ?hdp ?hun h613 ?hgd ?hg0) ?post ?exc
  case exc => exact fun _ _ e => e.elim
  case hb => k_is
  case F => exact fr_eq F (show lk _ = bindL _ [(Str.ofString "script", Value.ref _)] (lk []) from (bindL_lk [(Str.ofString "script", Value.ref _)] [] (by intro x hx; rw [List.mem_singleton.mp hx]; rfl)).symm)
  case c1 => exact c1
  case c2 => exact c2
  case c3 => exact c3
  case c4 => exact c4
  case hlen => omega
  case hdp => decide
  case hun => decide
  case hgd => rfl
  case hg0 => exact .of_eq hg
  case post =>
    intro f s' hf
    obtain ⟨rfl, hS⟩ := hf
    unfold Stop at hS
    obtain ⟨⟨m9, F9⟩, ⟨ps, h9⟩, hos, hg9⟩ := hS
    exact end_true hT9 (fun _ => rfl) (by first | rfl | wrow_post) F9.keep ⟨⟨ps, h9⟩, trivial⟩ hos hg9
end Mine
theorem PySem.Challenge.cw_fq0029_01_holds : PySem.Challenge.rw_fq0029_01.Holds :=
  Mine.j2
