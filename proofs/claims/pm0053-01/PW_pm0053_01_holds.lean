import PyProof.Rows.All
import Wide.All
import OpenK.AllK
import Wide.FinOn
import PySem.Challenge.RW_pm0053_01
open PySem PySem.W PyProof.Rows PySem.Calls PySem.Spec
set_option Elab.async false
set_option compiler.extract_closed false
set_option maxRecDepth 100000
set_option maxHeartbeats 8000000
namespace Mine
open_top hd for PySem.Challenge.rw_pm0053_01
theorem top_off : True := by
  w_top off
  trivial
section
abbrev LO : List Str := [Str.ofString "bisect_right", Str.ofString "_name_disallowed_re", Str.ofString "_value_disallowed_re", Str.ofString "Headers", Str.ofString "_sre"]
/-- an Around of a caller whose parts are letters -/
abbrev AR (dp un : Nat) (fr : Option (List Env)) (gd : Option (List Code)) : Around := { handled := none, depth := dp, frames := fr, guards := gd, units := un }
/-- what keeps all objects -/
abbrev Kp (h h' : Heap) : Prop := ∀ b o, h.get? b = some o → h'.get? b = some o

section
variable {prog : Program} {w : World} {A : Around} {s : Shared} {K : Frag} {p : Program} {loose : List Str} {mean : ExcName → Option Value} {mg mb : Str → Option Value} {E : Value → Shared → Prop} {Q : Value → Shared → Prop}
  {name qual : Str} {params : Arguments} {body : List Stmt} {scope : Scope} {dV kV doc pm cdv ct oc : Value} {an od : Option Addr} {osl : Array (Option Value)} {f : Addr} {pos : List Value} {kw : List (Str × Value)}

/-- a def without cells is entered; the whole heap is its base -/
theorem enter (binds : List (Str × Value)) (X : K.In s.heap) (T : Top p loose mean mg mb s.heap)
    (ho : K.lookup f = some ⟨oc, od, .func (fnOf name qual params body scope dV kV doc pm an cdv ct), osl⟩) (hcd : codeIn K cdv qual = true) (hroom : A.depth < recursionLimit)
    (hbind : ∀ S, peek K S (bindArgs (fnOf name qual params body scope dV kV doc pm an cdv ct) ⟨pos, kw⟩) = some binds) (hloc : (binds.all fun x => decide (scope.names.lookup x.1 = some .local)) = true)
    (h : ∀ L' h₁, Fr s.heap L' h₁ (fun y => binds.reverse.lookup y) → News s.heap L' h₁ [] →
      wpAny (model prog w) (A.deeper (envOf qual scope L' f cdv)) (execs body (envOf qual scope L' f cdv)) (fun fl s' => Q (match fl with | .ret v => v | _ => .none) s') (fun _ _ => False)
        { s with heap := h₁, toks := s.toks + binds.length })
    (hco : scope.isCoroutine = false) (hgen : scope.isGenerator = false) (hk : scope.kind = .function)
    (hcell : ∀ x ∈ scope.names, x.2 ≠ .cell) : wpAny (model prog w) A (call (.ref f) pos kw) Q E s := by
  refine wpAny_call ?_
  refine codeAny_call_def (fd := fnX name qual params body scope [] dV kV doc pm an cdv ct) (body := body) (binds := binds) hroom (X _ _ ho) rfl T.nolimit (codeRec_of X hcd) rfl (kp_binds X hbind) hcell (locs hloc) (fun h₁ hns hk₁ => ?_) hco hgen hk
  exact wpAny_mono (h s.heap.objs.size h₁ ⟨hns, hk₁, Nat.le_refl _⟩ News.nil) (fun _ _ x => x) fun _ _ x => x.elim

/-- a def with cells is entered -/
theorem enterC (binds : List (Str × Value)) (X : K.In s.heap) (T : Top p loose mean mg mb s.heap)
    (ho : K.lookup f = some ⟨oc, od, .func (fnOf name qual params body scope dV kV doc pm an cdv ct), osl⟩) (hcd : codeIn K cdv qual = true) (hroom : A.depth < recursionLimit)
    (hbind : ∀ S, peek K S (bindArgs (fnOf name qual params body scope dV kV doc pm an cdv ct) ⟨pos, kw⟩) = some binds) (hkind : (binds.all fun y => scope.names.lookup y.1 == some .local || scope.names.lookup y.1 == some .cell) = true)
    (hnd : ((cellsFrom 0 scope.names []).map (·.1)).Nodup)
    (h : ∀ L' h₁ tk cells, Fr s.heap L' h₁ (bindL (envOfC qual scope L' f cdv).kindOf binds fun _ => none) → News s.heap L' h₁ cells →
      CellsAre (bindC (envOfC qual scope L' f cdv).kindOf binds fun _ => none) (cellsFrom (L' + 1) scope.names []) cells →
      wpAny (model prog w) (A.deeper (envOfC qual scope L' f cdv)) (execs body (envOfC qual scope L' f cdv)) (fun fl s' => Q (match fl with | .ret v => v | _ => .none) s') (fun _ _ => False)
        { s with heap := h₁, toks := tk })
    (hco : scope.isCoroutine = false) (hgen : scope.isGenerator = false) (hk : scope.kind = .function) : wpAny (model prog w) A (call (.ref f) pos kw) Q E s := by
  refine wpAny_call ?_
  refine codeAny_call_function (fd := fnX name qual params body scope [] dV kV doc pm an cdv ct) hroom (X _ _ ho) rfl hco hgen rfl (codeRec_of X hcd) (kp_binds X hbind _ _ _ _ ?_)
  refine wpAny_newFunctionEnv_cells hk (kindsX hkind _) fun env' he s' x => ?_
  subst he
  refine ⟨T.nolimit.keeps x.toInCall.keep, codeAny_func ?_⟩
  obtain ⟨h₁, tk, rfl, _⟩ := x.done
  obtain ⟨cells, NC, Y⟩ := Cl.news (h₀ := s.heap) (Nat.le_refl _) fun n c hm => ⟨x.cell n c (lookup_of_mem_nodup (cellsFrom_names scope.names 0 (s.heap.objs.size + 1) [] [] rfl ▸ hnd) hm), x.above n c hm⟩
  exact wpAny_mono (h s.heap.objs.size h₁ tk cells ⟨x.toInCall.ns, x.toInCall.keep, Nat.le_refl _⟩ NC Y) (fun _ _ y => y) fun _ _ y => y.elim
end


section
variable {prog : Program} {w : World} {A : Around} {s : Shared} {env : Env} {h₀ : Heap}

/-- a for over any walk: what holds between the turns is told of the state -/
theorem loop_any {R : Result → Shared → Prop} {target : Expr} {body : List Stmt} {It : Addr} {fp : List Addr} {n : Nat} {P : Nat → Value → Prop} {St : Nat → Heap → Prop} (W : Walks prog w A It fp [It] n P St)
    (hgo : ∀ i (s : Shared) v (Q' : Unit → Shared → Prop), St (i + 1) s.heap → P i v → Q' () s → wpAny (model prog w) A (letOwnedTupleGo target (.ref It) v) Q' (fun _ _ => False) s)
    (J : Nat → Shared → Prop) (hJ : ∀ i (s : Shared) h' tk, J i s → (∀ b o, b ≠ It → s.heap.get? b = some o → h'.get? b = some o) → J i { s with heap := h', toks := tk })
    (turn : ∀ i v s, i < n → J i s → St (i + 1) s.heap → P i v → wpAny (model prog w) A (assign target env v) (fun _ s₂ => wpAny (model prog w) A (execs body env)
      (fun f s₃ => match f with | .ret v => R (.ok (.ret v)) s₃ | .brk => R (.ok .next) s₃ | _ => J (i + 1) s₃ ∧ St (i + 1) s₃.heap) (fun _ _ => False) s₂) (fun _ _ => False) s)
    (done : ∀ s, J n s → R (.ok .next) s) (h0 : J 0 s) (hst : St 0 s.heap) : codeAny (model prog w) A (.forLoop target (.ref It) body [] env) R s := by
  refine codeAny_forLoop_any (fun k s' => ∃ i, i ≤ n ∧ k = n + 1 - i ∧ J i s' ∧ St i s'.heap) ?_ (n + 1) ⟨0, Nat.zero_le _, rfl, h0, hst⟩
  rintro k s' ⟨i, hi, rfl, hj, st⟩
  by_cases hlt : i < n
  · refine W.item i _ _ _ hlt st fun v h₁ tk₁ hP hst₁ hk₁ => ?_
    have hj₁ := hJ i s' h₁ tk₁ hj fun b o hb e => hk₁ b o (by simpa using hb) e
    refine wpAny_mono (hgo i _ v (fun _ s₁' => s₁' = { s' with heap := h₁, toks := tk₁ }) hst₁ hP rfl) (fun _ s₁' e => ?_) fun _ _ x => x.elim
    subst e
    refine wpAny_mono (turn i v _ hlt hj₁ hst₁ hP) (fun _ s₂ h₂ => ?_) fun _ _ x => x.elim
    refine wpAny_mono h₂ (fun f s₃ h₃ => ?_) fun _ _ x => x.elim
    cases f with
    | ret v => exact h₃
    | brk => exact h₃
    | next => exact ⟨n + 1 - (i + 1), by omega, i + 1, hlt, rfl, h₃.1, h₃.2⟩
    | cont => exact ⟨n + 1 - (i + 1), by omega, i + 1, hlt, rfl, h₃.1, h₃.2⟩
  · have : i = n := by omega
    subst this
    refine W.done _ _ _ st fun h₁ tk₁ hk₁ => wpAny_execs_nil ?_
    exact done _ (hJ i s' h₁ tk₁ hj fun b o hb e => hk₁ b o (by simpa using hb) e)

/-- what a turn's end must show -/
def TurnP {σ : Type} (h₀ : Heap) (L : Addr) (S : σ → List (Addr × Obj)) (M : σ → Str → Option Value) (J : σ → Prop) (It : Addr) (oI : Obj) (s : Shared) (Q : Flow → Shared → Prop) (f : Flow) (s₃ : Shared) : Prop := match f with
  | .ret v => Q (.ret v) s₃
  | .brk => Q .next s₃
  | _ => ∃ c h' tk', s₃ = { s with heap := h', toks := tk' } ∧ J c ∧ Fr h₀ L h' (M c) ∧ News h₀ L h' ((It, oI) :: S c) ∧ ∀ p ∈ S c, p.1 ≠ It

theorem fr_step {L : Addr} {h h' : Heap} {m : Str → Option Value} {It : Addr} (F : Fr h₀ L h m) (hL : L ≠ It) (hI : h₀.get? It = none) (hk : ∀ b o, b ≠ It → h.get? b = some o → h'.get? b = some o) : Fr h₀ L h' m :=
  ⟨F.ns.at' fun o e => hk _ o hL e, fun b o e => hk b o (by rintro rfl; rw [hI] at e; cases e) (F.keep b o e), F.above⟩
theorem news_step {L : Addr} {h h' : Heap} {It : Addr} {S : List (Addr × Obj)} (N : News h₀ L h S) (hS : ∀ p ∈ S, p.1 ≠ It) (hk : ∀ b o, b ≠ It → h.get? b = some o → h'.get? b = some o) : News h₀ L h' S :=
  fun p hp => ⟨hk _ _ (hS p hp) (N p hp).1, (N p hp).2⟩

/-- a for whose state is a frame's map and a ledger, told by a datum -/
theorem loop_led {σ : Type} (S : σ → List (Addr × Obj)) (M : σ → Str → Option Value) (J : Nat → σ → Prop) (c₀ : σ) {Q : Flow → Shared → Prop} {ER : Value → Shared → Prop} {target : Expr} {body : List Stmt} {It : Addr} {fp : List Addr} {n : Nat} {P : Nat → Value → Prop} {St : Nat → Heap → Prop}
    (W : Walks prog w A It fp [It] n P St) (hst : St 0 s.heap)
    (hgo : ∀ i (s : Shared) v (Q' : Unit → Shared → Prop), St (i + 1) s.heap → P i v → Q' () s → wpAny (model prog w) A (letOwnedTupleGo target (.ref It) v) Q' (fun _ _ => False) s)
    (hL : env.locals ≠ It) (hI : h₀.get? It = none) (hIt : ∀ i h, St i h → ∃ o, h.get? It = some o)
    (hfp : ∀ b ∈ fp, b ≠ It → (∃ o, h₀.get? b = some o) ∨ ∃ o, ∀ c, (b, o) ∈ S c)
    (F : Fr h₀ env.locals s.heap (M c₀)) (N : News h₀ env.locals s.heap (S c₀)) (hS : ∀ p ∈ S c₀, p.1 ≠ It) (hj : J 0 c₀)
    (turn : ∀ i v c h tk oI, i < n → P i v → J i c → (∀ p ∈ S c, p.1 ≠ It) → Fr h₀ env.locals h (M c) → News h₀ env.locals h ((It, oI) :: S c) →
      wpAny (model prog w) A (assign target env v) (fun _ s₂ => wpAny (model prog w) A (execs body env) (TurnP h₀ env.locals S M (J (i + 1)) It oI { s with heap := h, toks := tk } Q) (fun _ _ => False) s₂) (fun _ _ => False) { s with heap := h, toks := tk })
    (done : ∀ c h tk, J n c → Fr h₀ env.locals h (M c) → News h₀ env.locals h (S c) → Q .next { s with heap := h, toks := tk }) :
    codeAny (model prog w) A (.forLoop target (.ref It) body [] env) (fun r s' => match r with | .ok f => Q f s' | .error e => ER e s') s := by
  refine loop_any W hgo (fun i s' => ∃ c h tk, s' = { s with heap := h, toks := tk } ∧ J i c ∧ Fr h₀ env.locals h (M c) ∧ News h₀ env.locals h (S c) ∧ ∀ p ∈ S c, p.1 ≠ It) ?_ ?_ ?_ ⟨c₀, _, _, rfl, hj, F, N, hS⟩ hst
  · rintro i s' h' tk ⟨c, h, tk₁, rfl, hj, F, N, hS⟩ hk
    exact ⟨c, h', tk, rfl, hj, fr_step F hL hI hk, news_step N hS hk, hS⟩
  · rintro i v s' hi ⟨c, h, tk, rfl, hj, F, N, hS⟩ st hP
    obtain ⟨oI, hoI⟩ := hIt _ _ st
    have N' : News h₀ env.locals h ((It, oI) :: S c) := fun p hp => by
      rcases List.mem_cons.mp hp with rfl | hp
      · exact ⟨hoI, Ne.symm hL, hI⟩
      · exact N p hp
    refine wpAny_mono (turn i v c h tk oI hi hP hj hS F N') (fun _ s₂ h₂ => wpAny_mono h₂ (fun f s₃ h₃ => ?_) fun _ _ x => x) fun _ _ x => x
    have key : (∃ c h' tk', s₃ = { s with heap := h', toks := tk' } ∧ J (i + 1) c ∧ Fr h₀ env.locals h' (M c) ∧ News h₀ env.locals h' ((It, oI) :: S c) ∧ ∀ p ∈ S c, p.1 ≠ It) →
        (∃ c h tk, s₃ = { s with heap := h, toks := tk } ∧ J (i + 1) c ∧ Fr h₀ env.locals h (M c) ∧ News h₀ env.locals h (S c) ∧ ∀ p ∈ S c, p.1 ≠ It) ∧ St (i + 1) s₃.heap := by
      rintro ⟨c', h', tk', rfl, hj', F'', N'', hS'⟩
      refine ⟨⟨c', h', tk', rfl, hj', F'', fun p hp => N'' p (.tail _ hp), hS'⟩, W.frame _ _ _ st fun b hb o e => ?_⟩
      by_cases hbI : b = It
      · subst hbI
        have : o = oI := Option.some.inj (e.symm.trans hoI)
        subst this
        exact (N'' _ (.head _)).1
      · rcases hfp b hb hbI with ⟨o', ho'⟩ | ⟨o', ho'⟩
        · have : o' = o := Option.some.inj ((F.keep b o' ho').symm.trans e)
          subst this
          exact F''.keep b o' ho'
        · have : o' = o := Option.some.inj ((N _ (ho' c)).1.symm.trans e)
          subst this
          exact (N'' _ (.tail _ (ho' c'))).1
    cases f with
    | ret v => exact h₃
    | brk => exact h₃
    | next => exact key h₃
    | cont => exact key h₃
  · rintro s' ⟨c, h, tk, rfl, hj, F, N, _⟩
    exact done c h tk hj F N

theorem fresh_none {L : Addr} {h : Heap} {m : Str → Option Value} (F : Fr h₀ L h m) : h₀.get? h.objs.size = none := by
  cases hq : h₀.get? h.objs.size with
  | none => rfl
  | some o => exact absurd (Heap.lt_size (F.keep _ _ hq)) (Nat.lt_irrefl _)

/-- a Name target: the value is stored, the body goes on -/
theorem turn_name {x : Str} {px : Pos} {body : List Stmt} {m : Str → Option Value} {S : List (Addr × Obj)} {h : Heap} {tk : Nat} {v : Value} {T : Flow → Shared → Prop} (hx : env.kindOf x = some .local) (hk : env.scope.kind = .function)
    (F : Fr h₀ env.locals h m) (N : News h₀ env.locals h S)
    (k : ∀ h' tk', Fr h₀ env.locals h' (fun z => if z = x then some v else m z) → News h₀ env.locals h' S → wpAny (model prog w) A (execs body env) T (fun _ _ => False) { s with heap := h', toks := tk' }) :
    wpAny (model prog w) A (assign (.Name x px) env v) (fun _ s₂ => wpAny (model prog w) A (execs body env) T (fun _ _ => False) s₂) (fun _ _ => False) { s with heap := h, toks := tk } :=
  wpAny_assign_Name (wpAny_storeName_local hx F.ns (fun h' hn hs => k h' _ (F.set hn hs) (N.set hs)) (by rw [hk]; rfl))

theorem news_push1 {L : Addr} {h : Heap} {m : Str → Option Value} {S : List (Addr × Obj)} (_F : Fr h₀ L h m) (N : News h₀ L h S) (o : Obj) : News h₀ L (h.push o) S := fun p hp => ⟨Heap.get?_push_of_some _ (N p hp).1, (N p hp).2⟩
theorem news_ne_size {L : Addr} {h : Heap} {S : List (Addr × Obj)} (N : News h₀ L h S) : ∀ p ∈ S, p.1 ≠ h.objs.size := fun p hp => Nat.ne_of_lt (Heap.lt_size (N p hp).1)

/-- a turn's end: a map of the frame, a datum that tells the ledger -/
def TurnM {τ : Type} (h₀ : Heap) (L : Addr) (S : τ → List (Addr × Obj)) (J : (Str → Option Value) → τ → Prop) (It : Addr) (oI : Obj) (s : Shared) (Q : Flow → Shared → Prop) (f : Flow) (s₃ : Shared) : Prop := match f with
  | .ret v => Q (.ret v) s₃
  | .brk => Q .next s₃
  | _ => ∃ m c h' tk', s₃ = { s with heap := h', toks := tk' } ∧ J m c ∧ Fr h₀ L h' m ∧ News h₀ L h' ((It, oI) :: S c) ∧ ∀ p ∈ S c, p.1 ≠ It
theorem TurnM.toP {τ : Type} {h₀ : Heap} {L : Addr} {S : τ → List (Addr × Obj)} {J : (Str → Option Value) → τ → Prop} {It : Addr} {oI : Obj} {s s' : Shared} {Q : Flow → Shared → Prop} {f : Flow} {s₃ : Shared} (hs : ∃ h tk, s' = { s with heap := h, toks := tk }) (h : TurnM h₀ L S J It oI s' Q f s₃) :
    TurnP h₀ L (fun c : (Str → Option Value) × τ => S c.2) (fun c => c.1) (fun c => J c.1 c.2) It oI s Q f s₃ := by
  obtain ⟨h₁, tk₁, rfl⟩ := hs
  cases f with
  | ret v => exact h
  | brk => exact h
  | next => obtain ⟨m, c, h', tk', e, a⟩ := h; exact ⟨(m, c), h', tk', e, a⟩
  | cont => obtain ⟨m, c, h', tk', e, a⟩ := h; exact ⟨(m, c), h', tk', e, a⟩

/-- for x in a text of low signs -/
theorem for_str {τ : Type} {h₀ : Heap} {L : Addr} {m₀ : Str → Option Value} (F₀ : Fr h₀ L s.heap m₀) (S : τ → List (Addr × Obj)) (J : Nat → (Str → Option Value) → τ → Prop) (c₀ : τ) (y : Str) (t : Tok) {Q : Flow → Shared → Prop} {x : Str} {px pos : Pos} {iter : Expr} {body : List Stmt}
    (hL : env.locals = L) (hh : A.handled = none) (hx : env.kindOf x = some .local) (hk : env.scope.kind = .function) (hs : ∀ v, foldedSetIterable iter env v = pure v) (ha : y.cps.all (· < 128) = true)
    (h : wpAny (model prog w) A (eval iter env) (fun xv s₁ => xv = .str y t ∧ ∃ h tk, s₁ = { s with heap := h, toks := tk } ∧ Kp s.heap h) (fun _ _ => False) s)
    (N : News h₀ L s.heap (S c₀)) (hj : J 0 m₀ c₀)
    (turn : ∀ i k u m c h tk It oI, y.cps[i]? = some k → J i m c → (∀ p ∈ S c, p.1 ≠ It) → Fr h₀ L h (fun z => if z = x then some (.str ⟨#[k]⟩ u) else m z) → News h₀ L h ((It, oI) :: S c) →
        wpAny (model prog w) A (execs body env) (TurnM h₀ L S (J (i + 1)) It oI { s with heap := h, toks := tk } Q) (fun _ _ => False) { s with heap := h, toks := tk })
    (done : ∀ m c h tk, J y.cps.size m c → Fr h₀ L h m → News h₀ L h (S c) → Q .next { s with heap := h, toks := tk }) :
    wpAny (model prog w) A (exec (.For (.Name x px) iter body [] pos) env) Q (fun _ _ => False) s := by
  subst hL
  refine wpAny_For (wpAny_mono h (fun xv s₁ h₁ => ?_) fun _ _ e => e) hs
  obtain ⟨rfl, h₁, tk₁, rfl, hkp⟩ := h₁
  have F₁ : Fr h₀ env.locals h₁ m₀ := F₀.keeps hkp
  have N₁ : News h₀ env.locals h₁ (S c₀) := N.grown hkp
  refine wpAny_pyIter_ascii ha ?_
  refine loop_led (fun c : (Str → Option Value) × τ => S c.2) (fun c => c.1) (fun i c => J i c.1 c.2) (m₀, c₀) (s := { s with heap := h₁.push _, toks := tk₁ }) (Walks.strAscii hh _ y t) ⟨_, Heap.get?_push_size _ rfl, rfl, rfl⟩ (fun _ _ _ _ _ _ q => wpAny_pure q) (Nat.ne_of_lt F₁.ns.lt) (fresh_none F₁) (fun _ _ st => let ⟨o, ho, _⟩ := st; ⟨o, ho⟩)
    (fun b hb hne => absurd (by simpa using hb) hne) (F₁.push _) (news_push1 F₁ N₁ _) (news_ne_size N₁) hj ?_ (fun c h tk a b d => done c.1 c.2 h tk a b d)
  rintro i v c h tk oI _ ⟨k, u, hk', rfl⟩ hJ hne F' N'
  refine turn_name (s := s) hx hk F' N' fun h' tk' F'' N'' => ?_
  exact wpAny_mono (turn i k u c.1 c.2 h' tk' _ oI hk' hJ hne F'' N'') (fun f s₃ h₃ => h₃.toP ⟨_, _, rfl⟩) fun _ _ e => e

/-- for x in a range from 0 -/
theorem for_range {τ : Type} {h₀ : Heap} {L : Addr} {m₀ : Str → Option Value} (F₀ : Fr h₀ L s.heap m₀) (S : τ → List (Addr × Obj)) (J : Nat → (Str → Option Value) → τ → Prop) (c₀ : τ) (n : Nat) {Q : Flow → Shared → Prop} {x : Str} {px pos : Pos} {iter : Expr} {body : List Stmt}
    (hL : env.locals = L) (hh : A.handled = none) (hx : env.kindOf x = some .local) (hk : env.scope.kind = .function) (hs : ∀ v, foldedSetIterable iter env v = pure v) (hn : n < 1000)
    (h : wpAny (model prog w) A (eval iter env) (fun xv s₁ => ∃ r t u v, xv = .ref r ∧ IsRange s₁.heap r 0 n 1 t u v ∧ ∃ h tk, s₁ = { s with heap := h, toks := tk } ∧ Kp s.heap h) (fun _ _ => False) s)
    (N : News h₀ L s.heap (S c₀)) (hj : J 0 m₀ c₀)
    (turn : ∀ i u m c h tk It oI, i < n → J i m c → (∀ p ∈ S c, p.1 ≠ It) → Fr h₀ L h (fun z => if z = x then some (.int i u) else m z) → News h₀ L h ((It, oI) :: S c) →
        wpAny (model prog w) A (execs body env) (TurnM h₀ L S (J (i + 1)) It oI { s with heap := h, toks := tk } Q) (fun _ _ => False) { s with heap := h, toks := tk })
    (done : ∀ m c h tk, J n m c → Fr h₀ L h m → News h₀ L h (S c) → Q .next { s with heap := h, toks := tk }) :
    wpAny (model prog w) A (exec (.For (.Name x px) iter body [] pos) env) Q (fun _ _ => False) s := by
  subst hL
  refine wpAny_For (wpAny_mono h (fun xv s₁ h₁ => ?_) fun _ _ e => e) hs
  obtain ⟨r, t, u, v, rfl, hr, h₁, tk₁, rfl, hkp⟩ := h₁
  have F₁ : Fr h₀ env.locals h₁ m₀ := F₀.keeps hkp
  have N₁ : News h₀ env.locals h₁ (S c₀) := N.grown hkp
  have hsz : Builtin.Range.rangeSize 0 n 1 = (n : Int) := by unfold Builtin.Range.rangeSize; simp; omega
  refine wpAny_pyIter_range hr (by unfold Builtin.Range.small; rw [hsz]; simp [Builtin.Range.rangeFitsLong]; omega) ?_
  refine loop_led (fun c : (Str → Option Value) × τ => S c.2) (fun c => c.1) (fun i c => J i c.1 c.2) (m₀, c₀) (s := { s with heap := h₁.push _, toks := tk₁ }) (Walks.range hh _ 0 1 n) (by show IsRangeIter _ _ _ _ _; rw [hsz]; simpa using Heap.get?_push_size _ rfl) (fun _ _ _ _ _ _ q => wpAny_pure q) (Nat.ne_of_lt F₁.ns.lt) (fresh_none F₁) (fun _ _ st => ⟨_, st⟩)
    (fun b hb hne => absurd (by simpa using hb) hne) (F₁.push _) (news_push1 F₁ N₁ _) (news_ne_size N₁) hj ?_ (fun c h tk a b d => done c.1 c.2 h tk a b d)
  rintro i v c h tk oI hi ⟨u, rfl⟩ hJ hne F' N'
  refine turn_name (s := s) hx hk F' N' fun h' tk' F'' N'' => ?_
  have e : (0 : Int) + (i : Int) * 1 = (i : Int) := by omega
  rw [e] at F''
  exact wpAny_mono (turn i u c.1 c.2 h' tk' _ oI hi hJ hne F'' N'') (fun f s₃ h₃ => h₃.toP ⟨_, _, rfl⟩) fun _ _ e => e

theorem list_iter_pure {target : Expr} {It l : Addr} {i : Nat} {v : Value} {Q' : Unit → Shared → Prop} (st : s.heap.IsListIter It l i) (q : Q' () s) : wpAny (model prog w) A (letOwnedTupleGo target (.ref It) v) Q' (fun _ _ => False) s := by
  obtain ⟨o, ho, hc, hd⟩ := st
  unfold letOwnedTupleGo
  split
  · split
    · rename_i r a e
      cases e
      refine wpAny_bind (wpAny_load ho ?_)
      rw [hc, hd]
      simp
      exact wpAny_pure q
    · exact wpAny_pure q
  · split
    · rename_i r a e
      cases e
      refine wpAny_bind (wpAny_load ho ?_)
      rw [hc, hd]
      simp
      exact wpAny_pure q
    · exact wpAny_pure q
  · exact wpAny_pure q

/-- for target in a list that no turn changes -/
theorem for_list {τ : Type} {h₀ : Heap} {L : Addr} {m₀ : Str → Option Value} (F₀ : Fr h₀ L s.heap m₀) (S : τ → List (Addr × Obj)) (J : Nat → (Str → Option Value) → τ → Prop) (c₀ : τ) (l : Addr) (vs : List Value) (n : Nat) {Q : Flow → Shared → Prop} {target : Expr} {pos : Pos} {iter : Expr} {body : List Stmt}
    (hL : env.locals = L) (hh : A.handled = none) (hs : ∀ v, foldedSetIterable iter env v = pure v) (hl : h₀.get? l = some (listOf vs.toArray n) ∨ ∀ c, (l, listOf vs.toArray n) ∈ S c)
    (h : wpAny (model prog w) A (eval iter env) (fun xv s₁ => xv = .ref l ∧ ∃ h tk, s₁ = { s with heap := h, toks := tk } ∧ Kp s.heap h) (fun _ _ => False) s)
    (N : News h₀ L s.heap (S c₀)) (hj : J 0 m₀ c₀)
    (turn : ∀ i v m c h tk It oI, vs[i]? = some v → J i m c → (∀ p ∈ S c, p.1 ≠ It) → Fr h₀ L h m → News h₀ L h ((It, oI) :: S c) →
        wpAny (model prog w) A (assign target env v) (fun _ s₂ => wpAny (model prog w) A (execs body env) (TurnM h₀ L S (J (i + 1)) It oI { s with heap := h, toks := tk } Q) (fun _ _ => False) s₂) (fun _ _ => False) { s with heap := h, toks := tk })
    (done : ∀ m c h tk, J vs.length m c → Fr h₀ L h m → News h₀ L h (S c) → Q .next { s with heap := h, toks := tk }) :
    wpAny (model prog w) A (exec (.For target iter body [] pos) env) Q (fun _ _ => False) s := by
  subst hL
  refine wpAny_For (wpAny_mono h (fun xv s₁ h₁ => ?_) fun _ _ e => e) hs
  obtain ⟨rfl, h₁, tk₁, rfl, hkp⟩ := h₁
  have F₁ : Fr h₀ env.locals h₁ m₀ := F₀.keeps hkp
  have N₁ : News h₀ env.locals h₁ (S c₀) := N.grown hkp
  have hol : h₁.get? l = some (listOf vs.toArray n) := hl.elim (fun e => F₁.keep _ _ e) fun e => (N₁ _ (e c₀)).1
  have hls : h₁.IsList l vs.toArray := ⟨_, hol, rfl, n, rfl⟩
  have hne : l ≠ h₁.objs.size := Nat.ne_of_lt (Heap.lt_size hol)
  refine wpAny_pyIter_list hls ?_
  have W := Walks.list (prog := prog) (w := w) hh h₁.objs.size l hne vs.toArray
  have hsz : vs.toArray.size = vs.length := by simp
  rw [hsz] at W
  refine loop_led (fun c : (Str → Option Value) × τ => S c.2) (fun c => c.1) (fun i c => J i c.1 c.2) (m₀, c₀) (s := { s with heap := h₁.push _, toks := tk₁ }) W ⟨⟨_, Heap.get?_push_size _ rfl, rfl, rfl⟩, hls.push _⟩ (fun _ _ _ _ st _ q => list_iter_pure st.1 q) (Nat.ne_of_lt F₁.ns.lt) (fresh_none F₁) (fun _ _ st => let ⟨⟨o, ho, _⟩, _⟩ := st; ⟨o, ho⟩)
    ?_ (F₁.push _) (news_push1 F₁ N₁ _) (news_ne_size N₁) hj ?_ (fun c h tk a b d => done c.1 c.2 h tk a b d)
  · intro b hb hbn
    have : b = l := by
      rcases List.mem_cons.mp hb with e | hb
      · exact absurd e hbn
      · simpa using hb
    subst this
    exact hl.elim (fun e => .inl ⟨_, e⟩) fun e => .inr ⟨_, fun c => e c.2⟩
  · rintro i v c h tk oI _ hv hJ hne' F' N'
    have hv' : vs[i]? = some v := by simpa using hv
    exact wpAny_mono (turn i v c.1 c.2 h tk _ oI hv' hJ hne' F' N') (fun _ s₂ h₂ => wpAny_mono h₂ (fun f s₃ h₃ => h₃.toP ⟨_, _, rfl⟩) fun _ _ e => e) fun _ _ e => e
end
section
variable {M : Model} {A : Around} {E : Value → Shared → Prop} {s : Shared} {env : Env} {Q : Flow → Shared → Prop} {QV : Value → Shared → Prop}
theorem stopFor {t i : Expr} {b o : List Stmt} {p : Pos} (h : wpAny M A (exec (.For t i b o p) env) Q E s) : wpAny M A (exec (.For t i b o p) env) Q E s := h
theorem stopWhile {t : Expr} {b o : List Stmt} {p : Pos} (h : wpAny M A (exec (.While t b o p) env) Q E s) : wpAny M A (exec (.While t b o p) env) Q E s := h
theorem stopComp {e : Expr} {g : List Comprehension} {sc : Scope} {p : Pos} (h : wpAny M A (eval (.ListComp e g sc p) env) QV E s) : wpAny M A (eval (.ListComp e g sc p) env) QV E s := h
theorem stopCompA {t e : Expr} {g : List Comprehension} {sc : Scope} {p p' : Pos} (h : wpAny M A (exec (.Assign [t] (.ListComp e g sc p) p') env) Q E s) : wpAny M A (exec (.Assign [t] (.ListComp e g sc p) p') env) Q E s := h
theorem stopDComp {e e' : Expr} {g : List Comprehension} {sc : Scope} {p : Pos} (h : wpAny M A (eval (.DictComp e e' g sc p) env) QV E s) : wpAny M A (eval (.DictComp e e' g sc p) env) QV E s := h
theorem stopDCompA {t e e' : Expr} {g : List Comprehension} {sc : Scope} {p p' : Pos} (h : wpAny M A (exec (.Assign [t] (.DictComp e e' g sc p) p') env) Q E s) : wpAny M A (exec (.Assign [t] (.DictComp e e' g sc p) p') env) Q E s := h
theorem stopCmp {a b : Addr} (h : wpAny M A (compareOp .NotEq (.ref a) (.ref b)) QV E s) : wpAny M A (compareOp .NotEq (.ref a) (.ref b)) QV E s := h
theorem stopCall {f : Addr} {vs : List Value} {kw : List (Str × Value)} (h : wpAny M A (call (.ref f) vs kw) QV E s) : wpAny M A (call (.ref f) vs kw) QV E s := h
end
theorem lk_ne {m : Str → Option Value} {x y : Str} {v : Value} {w : Option Value} (hn : x ≠ y) (h : m x = some v) : (fun z => if z = y then w else m z) x = some v := by show (if x = y then w else m x) = _; rw [if_neg hn]; exact h
theorem lk_eq {m : Str → Option Value} {y : Str} {v : Value} : (fun z => if z = y then some v else m z) y = some v := if_pos rfl
theorem ldnX {M : Model} {A : Around} {E : Value → Shared → Prop} {s : Shared} {h₀ : Heap} {L a : Addr} {m : Str → Option Value} {cn : Str} {cs : Scope} {ccd : Value} {cl : List (Str × Addr)} {x : Str} {v : Value} {Q : Value → Shared → Prop} (F : Fr h₀ L s.heap m) (hv : m x = some v) (h : Q v s)
    (hk : cs.kind = .function) (hx : (envX cn cs L a ccd cl).kindOf x = some .local) : wpAny M A (loadName (envX cn cs L a ccd cl) x) Q E s := wpAny_loadName_local hk hx F.ns hv h
theorem low_ok {prog : Program} {w : World} {A : Around} {E : Value → Shared → Prop} {s : Shared} {Q : Value → Shared → Prop} {x y : Str} {t : Tok} (e : Txt.lower x = y) (hx : x.length ≤ 5592405) (h : Q (.str y s.toks) { s with toks := s.toks + 1 }) :
    wpAny (model prog w) A (call (.builtin "str.lower") [.str x t]) Q E s := SCL.lower hx fun _ => e ▸ h
theorem up_ok {prog : Program} {w : World} {A : Around} {E : Value → Shared → Prop} {s : Shared} {Q : Value → Shared → Prop} {x y : Str} {t : Tok} (e : Txt.upper x = y) (hx : x.length ≤ 5592405) (h : Q (.str y s.toks) { s with toks := s.toks + 1 }) :
    wpAny (model prog w) A (call (.builtin "str.upper") [.str x t]) Q E s := SCL.upper hx fun _ => e ▸ h
theorem sg_short {k : Nat} : (Str.mk #[k]).length ≤ 5592405 := by show (1 : Nat) ≤ _; decide

/-- the signs' small letters -/
def lw (k : Nat) : Nat := if 65 ≤ k ∧ k ≤ 90 then k + 32 else k
abbrev sg (k : Nat) : Str := ⟨#[k]⟩

section
variable {prog : Program} {w : World} {A : Around} {s : Shared} {env : Env}
/-- a while's turn's end -/
def TurnW {τ : Type} (h₀ : Heap) (L : Addr) (S : τ → List (Addr × Obj)) (J : Nat → (Str → Option Value) → τ → Prop) (n : Nat) (s : Shared) (Q : Flow → Shared → Prop) (f : Flow) (s₃ : Shared) : Prop := match f with
  | .ret v => Q (.ret v) s₃
  | .brk => Q .next s₃
  | _ => ∃ n' m c h' tk', n' < n ∧ s₃ = { s with heap := h', toks := tk' } ∧ J n' m c ∧ Fr h₀ L h' m ∧ News h₀ L h' (S c)
theorem while_led {τ : Type} {h₀ : Heap} {L : Addr} {m₀ : Str → Option Value} (F₀ : Fr h₀ L s.heap m₀) (S : τ → List (Addr × Obj)) (J : Nat → (Str → Option Value) → τ → Prop) (n₀ : Nat) (c₀ : τ) {Q : Flow → Shared → Prop} {test : Expr} {body : List Stmt} {pos : Pos}
    (N : News h₀ L s.heap (S c₀)) (hj : J n₀ m₀ c₀)
    (turn : ∀ n m c h tk, J n m c → Fr h₀ L h m → News h₀ L h (S c) → wpAny (model prog w) A (isTrue test env (eval test env))
      (fun b s₂ => if b = true then wpAny (model prog w) A (execs body env) (TurnW h₀ L S J n s Q) (fun _ _ => False) s₂ else Q .next s₂) (fun _ _ => False) { s with heap := h, toks := tk }) :
    wpAny (model prog w) A (exec (.While test body [] pos) env) Q (fun _ _ => False) s := by
  refine wpAny_While (codeAny_whileLoop (fun n s' => ∃ m c h tk, s' = { s with heap := h, toks := tk } ∧ J n m c ∧ Fr h₀ L h m ∧ News h₀ L h (S c)) ?_ n₀ ⟨m₀, c₀, s.heap, s.toks, rfl, hj, F₀, N⟩)
  rintro n s' ⟨m, c, h, tk, rfl, hJ, F, N⟩
  refine wpAny_mono (turn n m c h tk hJ F N) (fun b s₂ h₂ => ?_) fun _ _ e => e.elim
  cases b with
  | false => simp only [Bool.false_eq_true, if_false] at h₂ ⊢; exact wpAny_execs_nil h₂
  | true =>
    simp only [if_true] at h₂ ⊢
    refine wpAny_mono h₂ (fun f s₃ h₃ => ?_) fun _ _ e => e.elim
    cases f with
    | ret v => exact h₃
    | brk => exact h₃
    | next => obtain ⟨n', m', c', h', tk', hn, e, a⟩ := h₃; exact ⟨n', hn, m', c', h', tk', e, a⟩
    | cont => obtain ⟨n', m', c', h', tk', hn, e, a⟩ := h₃; exact ⟨n', hn, m', c', h', tk', e, a⟩
end

theorem isl_base {h₀ h : Heap} {L l : Addr} {m : Str → Option Value} {vs : List Value} {n : Nat} (F : Fr h₀ L h m) (e : h₀.get? l = some (listOf vs.toArray n)) : h.IsList l vs.toArray := ⟨_, F.keep _ _ e, rfl, _, rfl⟩
theorem isl_news {h₀ h : Heap} {L l : Addr} {vs : List Value} {n : Nat} {news : List (Addr × Obj)} (N : News h₀ L h news) (e : (l, listOf vs.toArray n) ∈ news) : h.IsList l vs.toArray := ⟨_, (N _ e).1, rfl, _, rfl⟩
section
variable {prog : Program} {w : World} {A : Around} {E : Value → Shared → Prop} {s : Shared} {Q : Value → Shared → Prop}
theorem len_ok {l : Addr} {vs : List Value} {k : Nat} (hl : s.heap.IsList l vs.toArray) (hk : vs.length = k) (hb : k < 1000000) (h : Q (.int k (s.toks + 1)) { s with toks := s.toks + 1 + 1 }) : wpAny (model prog w) A (call (.builtin "len") [.ref l]) Q E s := by
  subst hk
  exact PyProof.Rows.len_list hl (by simp; omega) (by simpa using h)
theorem ints_getD {vs : List Value} {ns : List Int} (hi : IntsAre vs ns) : ∀ (k : Nat), k < ns.length → ∃ t, vs[k]? = some (.int (ns.getD k 0) t) := by
  induction hi with
  | nil => intro k h; exact absurd h (Nat.not_lt_zero _)
  | cons n t r ih =>
    intro k h
    cases k with
    | zero => exact ⟨t, rfl⟩
    | succ k => exact ih k (Nat.lt_of_succ_lt_succ h)
theorem item_ints_ok {value slice : Expr} {l : Addr} {vs : List Value} {ns : List Int} {k : Int} {u : Tok} (hl : s.heap.IsList l vs.toArray) (hi : IntsAre vs ns) (h0 : 0 ≤ k) (h1 : k < ns.length) (hb : ns.length < 1000000) (h : ∀ t, Q (.int (ns.getD k.toNat 0) t) s)
    (hs : subscripted slice false (.ref l) (.int k u) = operate [.ref l, .int k u] (getItem (.ref l) (.int k u)) := by with_unfolding_all rfl) :
    wpAny (model prog w) A (subscriptTail value slice (.ref l) (.int k u)) Q E s := by
  obtain ⟨t, e⟩ := ints_getD hi k.toNat (by omega)
  exact tail_any hl.typeIs slot_list_getitem.lookup (wpAny_getItem_list hl h0 (by omega) (by simpa using e) (h t)) hs
end

section
variable {prog : Program} {w : World} {A : Around} {s : Shared} {K : Frag} {p : Program} {loose : List Str} {mean : ExcName → Option Value} {mg mb : Str → Option Value} {E : Value → Shared → Prop} {R : Result → Shared → Prop} {Q : Value → Shared → Prop}
  {name qual : Str} {params : Arguments} {body : List Stmt} {scope : Scope} {dV kV doc pm cdv ct oc : Value} {an od : Option Addr} {osl : Array (Option Value)} {f : Addr} {pos : List Value} {kw : List (Str × Value)}

/-- what the callee may change is hidden from its base -/
abbrev hid (h : Heap) (mu : List (Addr × Obj)) : Heap := hideAll h (mu.map (·.1))
theorem hid_keeps {h : Heap} {mu : List (Addr × Obj)} : Kp (hid h mu) h := fun _ _ e => of_hideAll _ e
theorem news_hid {h h₁ : Heap} {mu : List (Addr × Obj)} (hk : Kp h h₁) (hmu : ∀ p ∈ mu, h.get? p.1 = some p.2) : News (hid h mu) h.objs.size h₁ mu :=
  fun q hq => ⟨hk _ _ (hmu q hq), Nat.ne_of_lt (Heap.lt_size (hmu q hq)), hideAll_none _ (List.mem_map_of_mem hq)⟩
theorem top_nolimit_up {h h' : Heap} (T : Top p loose mean mg mb h) (k : Kp h h') : h'.NoLimit := T.nolimit.keeps k

theorem enterM (mu : List (Addr × Obj)) (hmu : ∀ p ∈ mu, s.heap.get? p.1 = some p.2) (binds : List (Str × Value)) (X : K.In (hid s.heap mu)) (T : Top p loose mean mg mb (hid s.heap mu))
    (ho : K.lookup f = some ⟨oc, od, .func (fnOf name qual params body scope dV kV doc pm an cdv ct), osl⟩) (hcd : codeIn K cdv qual = true) (hroom : A.depth < recursionLimit)
    (hbind : ∀ S, peek K S (bindArgs (fnOf name qual params body scope dV kV doc pm an cdv ct) ⟨pos, kw⟩) = some binds) (hloc : (binds.all fun x => decide (scope.names.lookup x.1 = some .local)) = true)
    (h : ∀ L' h₁, Fr (hid s.heap mu) L' h₁ (fun y => binds.reverse.lookup y) → News (hid s.heap mu) L' h₁ mu →
      wpAny (model prog w) (A.deeper (envOf qual scope L' f cdv)) (execs body (envOf qual scope L' f cdv)) (fun fl s' => R (.ok (.ret (match fl with | .ret v => v | _ => .none))) s') (fun _ _ => False)
        { s with heap := h₁, toks := s.toks + binds.length })
    (hco : scope.isCoroutine = false) (hgen : scope.isGenerator = false) (hk : scope.kind = .function)
    (hcell : ∀ x ∈ scope.names, x.2 ≠ .cell) : codeAny (model prog w) A (.call (.ref f) ⟨pos, kw⟩) R s := by
  refine codeAny_call_def (fd := fnX name qual params body scope [] dV kV doc pm an cdv ct) (body := body) (binds := binds) hroom (hid_keeps _ _ (X _ _ ho)) rfl (T.nolimit.keeps hid_keeps) ((codeRec_of X hcd).keeps hid_keeps) rfl (kp_binds (X.keeps hid_keeps) hbind) hcell (locs hloc) (fun h₁ hns hk₁ => ?_) hco hgen hk
  exact wpAny_mono (h s.heap.objs.size h₁ ⟨hns, fun b o e => hk₁ b o (hid_keeps b o e), Nat.le_of_eq (hideAll_size _ _)⟩ (news_hid hk₁ hmu)) (fun _ _ x => x) fun _ _ x => x.elim

theorem enterMC (mu : List (Addr × Obj)) (hmu : ∀ p ∈ mu, s.heap.get? p.1 = some p.2) (binds : List (Str × Value)) (X : K.In (hid s.heap mu)) (T : Top p loose mean mg mb (hid s.heap mu))
    (ho : K.lookup f = some ⟨oc, od, .func (fnOf name qual params body scope dV kV doc pm an cdv ct), osl⟩) (hcd : codeIn K cdv qual = true) (hroom : A.depth < recursionLimit)
    (hbind : ∀ S, peek K S (bindArgs (fnOf name qual params body scope dV kV doc pm an cdv ct) ⟨pos, kw⟩) = some binds) (hkind : (binds.all fun y => scope.names.lookup y.1 == some .local || scope.names.lookup y.1 == some .cell) = true)
    (hnd : ((cellsFrom 0 scope.names []).map (·.1)).Nodup)
    (h : ∀ L' h₁ tk cells, Fr (hid s.heap mu) L' h₁ (bindL (envOfC qual scope L' f cdv).kindOf binds fun _ => none) → News (hid s.heap mu) L' h₁ (cells ++ mu) →
      CellsAre (bindC (envOfC qual scope L' f cdv).kindOf binds fun _ => none) (cellsFrom (L' + 1) scope.names []) cells → (∀ p ∈ mu, p.1 < L') →
      wpAny (model prog w) (A.deeper (envOfC qual scope L' f cdv)) (execs body (envOfC qual scope L' f cdv)) (fun fl s' => R (.ok (.ret (match fl with | .ret v => v | _ => .none))) s') (fun _ _ => False)
        { s with heap := h₁, toks := tk })
    (hco : scope.isCoroutine = false) (hgen : scope.isGenerator = false) (hk : scope.kind = .function) : codeAny (model prog w) A (.call (.ref f) ⟨pos, kw⟩) R s := by
  refine codeAny_call_function (fd := fnX name qual params body scope [] dV kV doc pm an cdv ct) hroom (hid_keeps _ _ (X _ _ ho)) rfl hco hgen rfl ((codeRec_of X hcd).keeps hid_keeps) (kp_binds (X.keeps hid_keeps) hbind _ _ _ _ ?_)
  refine wpAny_newFunctionEnv_cells hk (kindsX hkind _) fun env' he s' x => ?_
  subst he
  refine ⟨(T.nolimit.keeps hid_keeps).keeps x.toInCall.keep, codeAny_func ?_⟩
  obtain ⟨h₁, tk, rfl, _⟩ := x.done
  have hk₁ := x.toInCall.keep
  obtain ⟨cells, NC, Y⟩ := Cl.news (h₀ := s.heap) (Nat.le_refl _) fun n c hm => ⟨x.cell n c (lookup_of_mem_nodup (cellsFrom_names scope.names 0 (s.heap.objs.size + 1) [] [] rfl ▸ hnd) hm), x.above n c hm⟩
  refine wpAny_mono (h s.heap.objs.size h₁ tk cells ⟨x.toInCall.ns, fun b o e => hk₁ b o (hid_keeps b o e), Nat.le_of_eq (hideAll_size _ _)⟩ (fun q hq => ?_) Y fun q hq => Heap.lt_size (hmu q hq)) (fun _ _ y => y) fun _ _ y => y.elim
  rcases List.mem_append.mp hq with hq | hq
  · refine ⟨(NC q hq).1, (NC q hq).2.1, ?_⟩
    cases e : (hid s.heap mu).get? q.1 with
    | none => rfl
    | some o => have := hid_keeps _ _ e; rw [(NC q hq).2.2] at this; cases this
  · exact news_hid hk₁ hmu q hq
end
theorem kin_hid {K : Frag} {h₀ h : Heap} {L : Addr} {m : Str → Option Value} {news mu : List (Addr × Obj)} (X : K.In h₀) (F : Fr h₀ L h m) (N : News h₀ L h news) (hs : ∀ p ∈ mu, p ∈ news) : K.In (hid h mu) := fun a o e =>
  hideAll_get _ (F.keep _ _ (X a o e)) fun hm => by
    obtain ⟨p, hp, rfl⟩ := List.mem_map.mp hm
    have := (N p (hs p hp)).2.2
    rw [X _ _ e] at this; cases this
theorem stays_hid {h₀ h : Heap} {L : Addr} {m : Str → Option Value} {news mu : List (Addr × Obj)} (F : Fr h₀ L h m) (N : News h₀ L h news) (hs : ∀ p ∈ mu, p ∈ news) : Kp h₀ (hid h mu) := fun a o e =>
  hideAll_get _ (F.keep _ _ e) fun hm => by
    obtain ⟨p, hp, rfl⟩ := List.mem_map.mp hm
    have := (N p (hs p hp)).2.2
    rw [e] at this; cases this
theorem hid_get {h : Heap} {mu : List (Addr × Obj)} {b : Addr} {o : Obj} (e : h.get? b = some o) (hn : ∀ p ∈ mu, b ≠ p.1) : (hid h mu).get? b = some o := hideAll_get _ e fun hm => by
  obtain ⟨p, hp, rfl⟩ := List.mem_map.mp hm
  exact hn p hp rfl

section
variable {M : Model} {A : Around} {E : Value → Shared → Prop} {s : Shared} {env : Env} {h₀ : Heap} {L c : Addr} {m mg mb : Str → Option Value} {x : Str} {pos : Pos} {v : Value} {Q : Value → Shared → Prop} {news : List (Addr × Obj)} {o : Obj} {K : Frag} {p : Program} {loose : List Str}
theorem ldG_L (F : Fr h₀ L s.heap m) (hv : m x = some v) (h : Q v s) (hL : env.locals = L) (hk : env.scope.kind = .function) (hx : env.kindOf x = some .local) (hb : (x == ("__debug__" : Str)) = false) :
    wpAny M A (eval (.Name x pos) env) Q E s := wpAny_Name (wpAny_loadName_local hk hx (hL ▸ F.ns) hv h) hb
theorem ldG_C (N : News h₀ L s.heap news) (hc : env.cells.lookup x = some c) (hm : (c, o) ∈ news) (hd : o.data = .cell (some v)) (h : Q v s) (hk : env.scope.kind = .function) (hx : env.kindOf x = some .cell) (hb : (x == ("__debug__" : Str)) = false) :
    wpAny M A (eval (.Name x pos) env) Q E s := wpAny_Name (wpAny_loadName_cell hk hx hc ⟨o, N.get hm, hd⟩ h) hb
theorem ldG_F (N : News h₀ L s.heap news) (hc : env.cells.lookup x = some c) (hm : (c, o) ∈ news) (hd : o.data = .cell (some v)) (h : Q v s) (hk : env.scope.kind = .function) (hx : env.kindOf x = some .free) (hb : (x == ("__debug__" : Str)) = false) (hn : (x == ("__classdict__" : Str)) = false) :
    wpAny M A (eval (.Name x pos) env) Q E s := wpAny_Name (wpAny_loadName_free hk hx hc ⟨o, N.get hm, hd⟩ h hn) hb
theorem ldG_B (F : Fr h₀ L s.heap m) (X : K.In h₀) (T : TopRead p loose mg mb h₀) (e : nsIn K mainGlobals x = some none) (hv : bootBuiltins x = some v) (hn : x ≠ "__name__") (h : Q v s)
    (hg : env.globals = mainGlobals) (hbu : env.builtins = builtinsNs) (hk : env.scope.kind = .function) (hx : env.kindOf x = some .globalImplicit) (hb : (x == ("__debug__" : Str)) = false) :
    wpAny M A (eval (.Name x pos) env) Q E s :=
  Name_function_global hk hx (loadGlobal_builtin (env := env) (by rw [hg]; exact T.g.keeps F.keep) (mg_none_of X T.g e) (by rw [hbu]; exact T.b.keeps F.keep) ((T.builtins x hn).trans hv) h) hb
end

section
variable {prog : Program} {w : World} {A : Around} {s : Shared} {env : Env} {h₀ : Heap} {L : Addr} {m₀ : Str → Option Value} {S₀ : List (Addr × Obj)}
theorem comp_core {elt iter : Expr} {x : Str} {px : Pos} {ifs : List Expr} {scope : Scope} {cl : List (Str × Addr)} {pos : Pos} {Q : Value → Shared → Prop} {n : Nat} {P : Nat → Value → Prop} (p : Value → Bool) (G : Value → Value → Prop)
    (F : Fr h₀ L s.heap m₀) (N : News h₀ L s.heap S₀)
    (hclos : closureFor scope env = pure cl) (hcell : ∀ y ∈ scope.names, y.2 ≠ .cell) (hkind : scope.kind = .function)
    (hnames : ∀ y ∈ scope.names, y.2 = .local → scope.names.lookup y.1 = some .local) (hx : scope.names.lookup x = some .local) (hs : ∀ x, foldedSetIterable iter env x = pure x) (hsz : n ≤ sizeLine)
    (h : wpAny (model prog w) A (eval iter env) (fun xv s₁ => wpAny (model prog w) A (pyIter xv) (fun it s₂ => ∃ It fp St h₂ tk₂, it = .ref It ∧ s₂ = { s with heap := h₂, toks := tk₂ } ∧ Kp s.heap h₂ ∧ s.heap.get? It = none ∧ Walks prog w A It fp [It] n P St ∧ St 0 h₂ ∧ ∀ b ∈ fp, b < h₂.objs.size) (fun _ _ => False) s₁) (fun _ _ => False) s)
    (tests : ∀ C i v s₃ m₃, P i v → Fr h₀ C s₃.heap m₃ → News h₀ C s₃.heap S₀ → Kp s.heap s₃.heap → m₃ x = some v →
      wpAny (model prog w) A (forIn ifs true fun c r => if r = true then do let ok ← isTrue c (compEnvC scope cl C env) (eval c (compEnvC scope cl C env)); pure (ForInStep.yield ok) else pure (ForInStep.yield r)) (fun ok s₄ => ok = p v ∧ Keeps s₃ s₄) (fun _ _ => False) s₃)
    (helt : ∀ C i v s₃ m₃, P i v → p v = true → Fr h₀ C s₃.heap m₃ → News h₀ C s₃.heap S₀ → Kp s.heap s₃.heap → m₃ x = some v →
      wpAny (model prog w) A (eval elt (compEnvC scope cl C env)) (fun y s₄ => G v y ∧ Keeps s₃ s₄) (fun _ _ => False) s₃)
    (done : ∀ D ny ys (vs : List Value) h' tk, vs.length = n → (∀ j v, vs[j]? = some v → P j v) → Paired G (vs.filter p) ys → Fr h₀ L h' m₀ → News h₀ L h' ((D, listOf ys.toArray ny) :: S₀) → Kp s.heap h' → s.heap.get? D = none → Q (.ref D) { s with heap := h', toks := tk }) :
    wpAny (model prog w) A (eval (.ListComp elt [⟨.Name x px, iter, ifs, 0⟩] scope pos) env) Q (fun _ _ => False) s := by
  refine wpAny_ListComp_free p G hclos hcell hkind hnames hx (wpAny_mono h (fun xv s₁ h₁ => wpAny_mono h₁ (fun it s₂ h₂ => ?_) fun _ _ e => e) fun _ _ e => e) hs
  obtain ⟨It, fp, St, h₂, tk₂, rfl, rfl, hk, hI, W, st, hfp⟩ := h₂
  have key : ∀ C (s₃ : Shared) m₃, h₂.objs.size ≤ C → s₃.heap.Ns C m₃ → (∀ b o, b ∉ [It] → h₂.get? b = some o → s₃.heap.get? b = some o) → Fr h₀ C s₃.heap m₃ ∧ News h₀ C s₃.heap S₀ ∧ Kp s.heap s₃.heap := by
    intro C s₃ m₃ hC hn hkk
    have kk : Kp s.heap s₃.heap := fun b o e => hkk b o (by simp; rintro rfl; rw [hI] at e; cases e) (hk b o e)
    obtain ⟨oL, _, _, hL, _⟩ := F.ns
    exact ⟨⟨hn, fun b o e => kk b o (F.keep b o e), Nat.le_trans F.above (Nat.le_trans (Nat.le_of_lt (Heap.lt_size (hk _ _ hL))) hC)⟩, fun q hq => ⟨kk _ _ (N q hq).1, Nat.ne_of_lt (Nat.lt_of_lt_of_le (Heap.lt_size (hk _ _ (N q hq).1)) hC), (N q hq).2.2⟩, kk⟩
  refine ⟨It, fp, [It], n, P, St, rfl, W, hsz, st, hfp, ⟨?_, ?_⟩, ?_⟩
  · intro C i v s₃ m₃ E' hC hP hn hm hkk _
    obtain ⟨F', N', k'⟩ := key C s₃ m₃ hC hn hkk
    exact wpAny_mono (tests C i v s₃ m₃ hP F' N' k' hm) (fun _ _ e => e) fun _ _ e => e.elim
  · intro C i v s₃ m₃ E' hC hP hp hn hm hkk _
    obtain ⟨F', N', k'⟩ := key C s₃ m₃ hC hn hkk
    exact wpAny_mono (helt C i v s₃ m₃ hP hp F' N' k' hm) (fun _ _ e => e) fun _ _ e => e.elim
  · intro D h' tk ys vs hD hl hpl hlen hP hF hkk
    have kk : Kp s.heap h' := fun b o e => hkk b o (by simp; rintro rfl; rw [hI] at e; cases e) (hk b o e)
    obtain ⟨ny, ho⟩ := hpl
    have hD' : s.heap.get? D = none := by
      cases e : s.heap.get? D with
      | none => rfl
      | some o => have := hk _ _ e; rw [show h₂.get? D = none from hD] at this; cases this
    refine done D ny ys.toList vs h' tk hlen hP hF (F.keeps kk) (fun q hq => ?_) kk hD'
    rcases List.mem_cons.mp hq with rfl | hq
    · refine ⟨by simpa using ho, fun e => ?_, ?_⟩
      · obtain ⟨oL, _, _, hL, _⟩ := F.ns
        rw [show (D : Addr) = L from e, hL] at hD'; cases hD'
      · cases e : h₀.get? D with
        | none => rfl
        | some o => rw [F.keep _ _ e] at hD'; cases hD'
    · exact N.grown kk q hq
end

theorem paired_idx {β : Type} {F : Value → Value → Prop} {G : β → Value → Prop} {p : Value → Bool} {q : β → Bool} (R : β → Value → Prop) (hp : ∀ b v, R b v → p v = q b) (hG : ∀ b v y, R b v → F v y → G b y) :
    ∀ {vs ys : List Value} {l : List β}, vs.length = l.length → (∀ (j : Nat) (v : Value), vs[j]? = some v → ∃ b, l[j]? = some b ∧ R b v) → Paired F (vs.filter p) ys → Paired G (l.filter q) ys
  | [], ys, l, hl, _, h => by
    have : l = [] := by cases l with | nil => rfl | cons => simp at hl
    subst this
    cases h; exact .nil
  | v :: vs, ys, l, hl, hR, h => by
    cases l with
    | nil => simp at hl
    | cons b l =>
      obtain ⟨b', e, hr⟩ := hR 0 v rfl
      cases e
      have ih := fun {ys} => paired_idx (vs := vs) (ys := ys) (l := l) R hp hG (by simpa using hl) fun j u e => hR (j + 1) u e
      have hpv := hp b v hr
      cases hq : q b with
      | true =>
        rw [hq] at hpv
        rw [List.filter_cons_of_pos (by simpa using hpv)] at h
        rw [List.filter_cons_of_pos (by simpa using hq)]
        cases h with
        | cons h1 h2 => exact .cons (hG _ _ _ hr h1) (ih h2)
      | false =>
        rw [hq] at hpv
        rw [List.filter_cons_of_neg (by simpa using hpv)] at h
        rw [List.filter_cons_of_neg (by simpa using hq)]
        exact ih h

section
variable {prog : Program} {w : World} {A : Around} {s : Shared} {env : Env} {h₀ : Heap} {L : Addr} {m₀ : Str → Option Value} {S₀ : List (Addr × Obj)}
theorem get_size_none (h : Heap) : h.get? h.objs.size = none := by
  cases e : h.get? h.objs.size with
  | none => rfl
  | some o => exact absurd (Heap.lt_size e) (Nat.lt_irrefl _)
theorem size_fresh {h h₁ : Heap} (k : Kp h h₁) : h.get? h₁.objs.size = none := by
  cases e : h.get? h₁.objs.size with
  | none => rfl
  | some o => have := k _ _ e; rw [get_size_none] at this; cases this

theorem comp_list {elt iter : Expr} {x : Str} {px : Pos} {ifs : List Expr} {scope : Scope} {cl : List (Str × Addr)} {pos : Pos} {Q : Value → Shared → Prop} (F : Fr h₀ L s.heap m₀) (N : News h₀ L s.heap S₀) (l : Addr) (vs : List Value) (n : Nat) (p : Value → Bool) (G : Value → Value → Prop)
    (hh : A.handled = none) (hclos : closureFor scope env = pure cl) (hcell : ∀ y ∈ scope.names, y.2 ≠ .cell) (hkind : scope.kind = .function)
    (hnames : ∀ y ∈ scope.names, y.2 = .local → scope.names.lookup y.1 = some .local) (hx : scope.names.lookup x = some .local) (hs : ∀ x, foldedSetIterable iter env x = pure x) (hl : s.heap.get? l = some (listOf vs.toArray n)) (hsz : vs.length < 1000)
    (h : wpAny (model prog w) A (eval iter env) (fun xv s₁ => xv = .ref l ∧ ∃ h tk, s₁ = { s with heap := h, toks := tk } ∧ Kp s.heap h) (fun _ _ => False) s)
    (tests : ∀ C (i : Nat) v s₃ m₃, vs[i]? = some v → Fr h₀ C s₃.heap m₃ → News h₀ C s₃.heap S₀ → Kp s.heap s₃.heap → m₃ x = some v →
      wpAny (model prog w) A (forIn ifs true fun c r => if r = true then do let ok ← isTrue c (compEnvC scope cl C env) (eval c (compEnvC scope cl C env)); pure (ForInStep.yield ok) else pure (ForInStep.yield r)) (fun ok s₄ => ok = p v ∧ Keeps s₃ s₄) (fun _ _ => False) s₃)
    (helt : ∀ C (i : Nat) v s₃ m₃, vs[i]? = some v → p v = true → Fr h₀ C s₃.heap m₃ → News h₀ C s₃.heap S₀ → Kp s.heap s₃.heap → m₃ x = some v →
      wpAny (model prog w) A (eval elt (compEnvC scope cl C env)) (fun y s₄ => G v y ∧ Keeps s₃ s₄) (fun _ _ => False) s₃)
    (done : ∀ D ny ys h' tk, Paired G (vs.filter p) ys → Fr h₀ L h' m₀ → News h₀ L h' ((D, listOf ys.toArray ny) :: S₀) → Kp s.heap h' → s.heap.get? D = none → Q (.ref D) { s with heap := h', toks := tk }) :
    wpAny (model prog w) A (eval (.ListComp elt [⟨.Name x px, iter, ifs, 0⟩] scope pos) env) Q (fun _ _ => False) s := by
  refine comp_core (n := vs.length) (P := fun i v => vs[i]? = some v) p G F N hclos hcell hkind hnames hx hs (by rw [sizeLine_eq]; omega) (wpAny_mono h (fun xv s₁ h₁ => ?_) fun _ _ e => e) tests helt fun D ny ys vs' h' tk hlen hP hF a b c d => ?_
  · obtain ⟨rfl, h₁, tk₁, rfl, hk⟩ := h₁
    have hol : h₁.get? l = some (listOf vs.toArray n) := hk _ _ hl
    have hls : h₁.IsList l vs.toArray := ⟨_, hol, rfl, n, rfl⟩
    have hne : l ≠ h₁.objs.size := Nat.ne_of_lt (Heap.lt_size hol)
    have W := Walks.list (prog := prog) (w := w) hh h₁.objs.size l hne vs.toArray
    have hsz2 : vs.toArray.size = vs.length := by simp
    rw [hsz2] at W
    have W : Walks prog w A h₁.objs.size [h₁.objs.size, l] [h₁.objs.size] vs.length (fun i v => vs[i]? = some v) (fun i h => h.IsListIter h₁.objs.size l i ∧ h.IsList l vs.toArray) := by simpa using W
    refine wpAny_pyIter_list hls ⟨_, _, _, _, _, rfl, rfl, fun b o e => Heap.get?_push_of_some _ (hk b o e), size_fresh hk, W, ⟨⟨_, Heap.get?_push_size _ rfl, rfl, rfl⟩, hls.push _⟩, ?_⟩
    intro b hb
    show b < (h₁.push _).objs.size
    rw [Heap.size_push]
    rcases List.mem_cons.mp hb with rfl | hb
    · exact Nat.lt_succ_self _
    · rw [List.mem_singleton.mp hb]; exact Nat.lt_succ_of_lt (Heap.lt_size hol)
  · have : vs' = vs := by simpa using list_of_places (vs := vs') (items := vs.toArray) (by simpa using hlen) (by simpa using hP)
    subst this
    exact done D ny ys h' tk hF a b c d

theorem comp_str {elt iter : Expr} {x : Str} {px : Pos} {scope : Scope} {cl : List (Str × Addr)} {pos : Pos} {Q : Value → Shared → Prop} (F : Fr h₀ L s.heap m₀) (N : News h₀ L s.heap S₀) (y : Str) (t : Tok) (G : Nat → Value → Prop)
    (hh : A.handled = none) (hclos : closureFor scope env = pure cl) (hcell : ∀ y ∈ scope.names, y.2 ≠ .cell) (hkind : scope.kind = .function)
    (hnames : ∀ y ∈ scope.names, y.2 = .local → scope.names.lookup y.1 = some .local) (hx : scope.names.lookup x = some .local) (hs : ∀ x, foldedSetIterable iter env x = pure x) (ha : y.cps.all (· < 128) = true) (hsz : y.cps.size < 1000)
    (h : wpAny (model prog w) A (eval iter env) (fun xv s₁ => xv = .str y t ∧ ∃ h tk, s₁ = { s with heap := h, toks := tk } ∧ Kp s.heap h) (fun _ _ => False) s)
    (helt : ∀ C k u s₃ m₃, k ∈ y.cps.toList → Fr h₀ C s₃.heap m₃ → News h₀ C s₃.heap S₀ → Kp s.heap s₃.heap → m₃ x = some (.str (sg k) u) →
      wpAny (model prog w) A (eval elt (compEnvC scope cl C env)) (fun y s₄ => G k y ∧ Keeps s₃ s₄) (fun _ _ => False) s₃)
    (done : ∀ D ny ys h' tk, Paired G y.cps.toList ys → Fr h₀ L h' m₀ → News h₀ L h' ((D, listOf ys.toArray ny) :: S₀) → Kp s.heap h' → s.heap.get? D = none → Q (.ref D) { s with heap := h', toks := tk }) :
    wpAny (model prog w) A (eval (.ListComp elt [⟨.Name x px, iter, [], 0⟩] scope pos) env) Q (fun _ _ => False) s := by
  refine comp_core (n := y.cps.size) (P := SignAt y) (fun _ => true) (fun v r => ∀ k u, v = .str (sg k) u → G k r) F N hclos hcell hkind hnames hx hs (by rw [sizeLine_eq]; omega) (wpAny_mono h (fun xv s₁ h₁ => ?_) fun _ _ e => e)
    (fun C i v s₃ m₃ _ _ _ _ _ => ?_) (fun C i v s₃ m₃ hP _ F' N' k' hm => ?_) fun D ny ys vs' h' tk hlen hP hF a b c d => ?_
  · obtain ⟨rfl, h₁, tk₁, rfl, hk⟩ := h₁
    refine wpAny_pyIter_ascii ha ⟨_, _, _, _, _, rfl, rfl, fun b o e => Heap.get?_push_of_some _ (hk b o e), size_fresh hk, Walks.strAscii hh _ y t, ⟨_, Heap.get?_push_size _ rfl, rfl, rfl⟩, ?_⟩
    intro b hb
    show b < (h₁.push _).objs.size
    rw [Heap.size_push, List.mem_singleton.mp hb]
    exact Nat.lt_succ_self _
  · rw [List.forIn_nil]
    exact wpAny_pure ⟨rfl, _, _, rfl, fun _ _ e => e⟩
  · obtain ⟨k, u, hk, rfl⟩ := hP
    exact wpAny_mono (helt C k u s₃ m₃ (by simpa using Array.mem_of_getElem? hk) F' N' k' hm) (fun r s₄ h₄ => ⟨fun k' u' e => by injection e with e1 e2; injection e1 with e1; simp at e1; exact e1 ▸ h₄.1, h₄.2⟩) fun _ _ e => e
  · have := paired_idx (β := Nat) (G := G) (q := fun _ => true) (fun k v => ∃ u, v = .str (sg k) u) (fun _ _ _ => rfl) (fun b v r ⟨u, e⟩ hr => hr b u e) (vs := vs') (ys := ys) (l := y.cps.toList) (by rw [hlen]; simp)
      (fun j v e => by obtain ⟨k, u, hk, rfl⟩ := hP j v e; exact ⟨k, by simpa using hk, u, rfl⟩) hF
    rw [show (y.cps.toList.filter fun _ => true) = y.cps.toList from List.filter_eq_self.mpr fun _ _ => rfl] at this
    exact done D ny ys h' tk this a b c d

theorem comp_range {elt iter : Expr} {x : Str} {px : Pos} {ifs : List Expr} {scope : Scope} {cl : List (Str × Addr)} {pos : Pos} {Q : Value → Shared → Prop} (F : Fr h₀ L s.heap m₀) (N : News h₀ L s.heap S₀) (n : Nat) (q : Nat → Bool) (G : Nat → Value → Prop)
    (hh : A.handled = none) (hclos : closureFor scope env = pure cl) (hcell : ∀ y ∈ scope.names, y.2 ≠ .cell) (hkind : scope.kind = .function)
    (hnames : ∀ y ∈ scope.names, y.2 = .local → scope.names.lookup y.1 = some .local) (hx : scope.names.lookup x = some .local) (hs : ∀ x, foldedSetIterable iter env x = pure x) (hsz : n < 1000)
    (h : wpAny (model prog w) A (eval iter env) (fun xv s₁ => ∃ r t u v, xv = .ref r ∧ IsRange s₁.heap r 0 n 1 t u v ∧ ∃ h tk, s₁ = { s with heap := h, toks := tk } ∧ Kp s.heap h) (fun _ _ => False) s)
    (tests : ∀ C (i : Nat) u s₃ m₃, i < n → Fr h₀ C s₃.heap m₃ → News h₀ C s₃.heap S₀ → Kp s.heap s₃.heap → m₃ x = some (.int i u) →
      wpAny (model prog w) A (forIn ifs true fun c r => if r = true then do let ok ← isTrue c (compEnvC scope cl C env) (eval c (compEnvC scope cl C env)); pure (ForInStep.yield ok) else pure (ForInStep.yield r)) (fun ok s₄ => ok = q i ∧ Keeps s₃ s₄) (fun _ _ => False) s₃)
    (helt : ∀ C (i : Nat) u s₃ m₃, i < n → q i = true → Fr h₀ C s₃.heap m₃ → News h₀ C s₃.heap S₀ → Kp s.heap s₃.heap → m₃ x = some (.int i u) →
      wpAny (model prog w) A (eval elt (compEnvC scope cl C env)) (fun y s₄ => G i y ∧ Keeps s₃ s₄) (fun _ _ => False) s₃)
    (done : ∀ D ny ys h' tk, Paired G ((List.range n).filter q) ys → Fr h₀ L h' m₀ → News h₀ L h' ((D, listOf ys.toArray ny) :: S₀) → Kp s.heap h' → s.heap.get? D = none → Q (.ref D) { s with heap := h', toks := tk }) :
    wpAny (model prog w) A (eval (.ListComp elt [⟨.Name x px, iter, ifs, 0⟩] scope pos) env) Q (fun _ _ => False) s := by
  have e0 : ∀ i : Nat, (0 : Int) + (i : Int) * 1 = (i : Int) := fun i => by omega
  refine comp_core (n := n) (P := fun i v => i < n ∧ ∃ t, v = .int (0 + (i : Int) * 1) t) (fun v => match v with | .int i _ => q i.toNat | _ => false) (fun v r => ∀ (k : Nat) u, v = .int k u → G k r) F N hclos hcell hkind hnames hx hs (by rw [sizeLine_eq]; omega) (wpAny_mono h (fun xv s₁ h₁ => ?_) fun _ _ e => e)
    (fun C i v s₃ m₃ hP F' N' k' hm => ?_) (fun C i v s₃ m₃ hP hq F' N' k' hm => ?_) fun D ny ys vs' h' tk hlen hP hF a b c d => ?_
  · obtain ⟨r, t, u, v, rfl, hr, h₁, tk₁, rfl, hk⟩ := h₁
    have hsz' : Builtin.Range.rangeSize 0 n 1 = (n : Int) := by unfold Builtin.Range.rangeSize; simp; omega
    refine wpAny_pyIter_range hr (by unfold Builtin.Range.small; rw [hsz']; simp [Builtin.Range.rangeFitsLong]; omega) ⟨_, _, _, _, _, rfl, rfl, fun b o e => Heap.get?_push_of_some _ (hk b o e), size_fresh hk, (Walks.range hh _ 0 1 n).bound, by show IsRangeIter _ _ _ _ _; rw [hsz']; simpa using Heap.get?_push_size _ rfl, ?_⟩
    intro b hb
    show b < (h₁.push _).objs.size
    rw [Heap.size_push, List.mem_singleton.mp hb]
    exact Nat.lt_succ_self _
  · obtain ⟨hi, t, rfl⟩ := hP
    rw [e0] at hm ⊢
    exact tests C i t s₃ m₃ hi F' N' k' hm
  · obtain ⟨hi, t, rfl⟩ := hP
    rw [e0] at hm hq
    refine wpAny_mono (helt C i t s₃ m₃ hi hq F' N' k' hm) (fun r s₄ h₄ => ⟨fun k' u' e => ?_, h₄.2⟩) fun _ _ e => e
    injection e with e1 e2
    have : i = k' := by omega
    exact this ▸ h₄.1
  · have := paired_idx (β := Nat) (G := G) (q := q) (fun k v => ∃ u, v = .int k u) (fun _ _ ⟨u, e⟩ => by rw [e]; rfl) (fun b v r ⟨u, e⟩ hr => hr b u e) (vs := vs') (ys := ys) (l := List.range n) (by rw [hlen]; simp)
      (fun j v e => by obtain ⟨hj, u, rfl⟩ := hP j v e; exact ⟨j, by simp [hj], u, by rw [e0]⟩) hF
    exact done D ny ys h' tk this a b c d
end

theorem ne_cls {h : Heap} {a b : Addr} {o o' : Obj} (ha : h.get? a = some o) (hb : h.get? b = some o') (hc : o.cls ≠ o'.cls) : a ≠ b := by
  rintro rfl
  exact hc (by rw [Option.some.inj (ha.symm.trans hb)])

section
variable {prog : Program} {w : World} {A : Around} {E : Value → Shared → Prop} {s : Shared}
open Builtin.List in
theorem setItem_all {l D sl : Addr} {xs ys : List Value} {n : Nat} {Q : Unit → Shared → Prop} (hl : s.heap.get? l = some (listOf xs.toArray n)) (hD : s.heap.IsList D ys.toArray) (hne : l ≠ D) (hs : s.heap.IsSliceOf sl .none .none .none) (hx : xs.length < 1000) (hy : ys.length < 1000)
    (h : ∀ h' n', h'.get? l = some (listOf ys.toArray n') → Heap.SameBut l s.heap h' → Q () { s with heap := h' }) : wpAny (model prog w) A (setItem (.ref l) (.ref sl) (.ref D)) Q E s := by
  have hls : s.heap.IsList l xs.toArray := ⟨_, hl, rfl, n, rfl⟩
  obtain ⟨oD, hoD, hcD, nD, hdD⟩ := id hD
  obtain ⟨os, hos, hcs, hds⟩ := id hs
  have hTs : s.TypeIs (.ref sl) "slice" := ⟨os, hos, hcs⟩
  have hTD : s.TypeIs (.ref D) "list" := ⟨oD, hoD, hcD⟩
  unfold setItem
  refine wpAny_holding ?_
  refine wpAny_bind (wpAny_sequenceKey hls.typeIs (by decide) ?_)
  refine wpAny_bind (wpAny_callSpecial?_slot (name := Str.ofString "__setitem__") hls.typeIs slot_list_setitem
    (wpAny_call_entry slot_list_setitem hls.typeIs entry_list_setitem ?_ (args_list_setitem _ _ _)))
  show wpAny _ _ (listSubscript? (.ref sl) >>= _) _ _ s
  refine wpAny_bind ?_
  unfold listSubscript?
  refine wpAny_bind (wpAny_specialOf hTs slice_no_index ?_)
  simp only [Option.isNone_none, if_true]
  refine wpAny_pure ?_
  show wpAny _ _ (typeOf (.ref sl) >>= _) _ _ s
  refine wpAny_bind (wpAny_typeOf hTs ?_)
  rw [if_neg (by decide)]
  rw [listSliceParts_eq]
  refine wpAny_bind (wpAny_bind (wpAny_field hos hds (x := .none) rfl (wpAny_bind (wpAny_listPart .none ?_))))
  rw [if_neg (by simp [rawPart, rawInt])]
  refine wpAny_bind (wpAny_field hos hds (x := .none) rfl (wpAny_bind (wpAny_listPart .none ?_)))
  refine wpAny_bind (wpAny_field hos hds (x := .none) rfl (wpAny_bind (wpAny_listPart .none (wpAny_pure ?_))))
  have hsame : listSameRef (.ref l) (.ref D) = false := by
    simp [listSameRef, hne]
  simp only [hsame, Bool.false_eq_true, if_false]
  refine wpAny_bind ?_
  unfold listAllItems
  refine wpAny_bind (wpAny_typeOf hTD ?_)
  rw [if_pos (by decide)]
  unfold listItems
  refine wpAny_bind (wpAny_seqItems hoD hdD (wpAny_pure ?_))
  refine wpAny_bind (wpAny_bind (wpAny_seqItems hl rfl (wpAny_pure ?_)))
  refine wpAny_bind (wpAny_of_eq (sliceIndices_raw none none none xs.toArray.size (by simp)) ?_)
  have e1 : sliceBounds none none none xs.toArray.size = (0, (xs.length : Int), 1) := by simp [sliceBounds]
  rw [e1]
  dsimp only
  rw [if_pos (by decide)]
  refine wpAny_bind (wpAny_rule ?_)
  have hlong : listTooLong (xs.toArray.size + ys.toArray.size) = false := by
    unfold listTooLong
    simp [sizeLine_eq]
    omega
  simp only [hlong, Bool.false_eq_true, if_false]
  refine wpAny_bind (m := listUpdate (.ref l) _) (wpAny_updateSeq hl rfl ?_ (by simp [sizeLine_eq]; omega) (by simp [sizeLine_eq]; omega))
  refine wpAny_bind (wpAny_letGo ?_)
  refine wpAny_pure ⟨_, rfl, wpAny_pure (h _ (if ys.length = xs.length then n else n + 1) ?_ (Heap.SameBut.update ..))⟩
  rw [Heap.get?_update_self _ hl rfl]
  by_cases e : ys.length = xs.length <;> simp [Obj.mapSeq, e]
end

theorem one_test {prog : Program} {w : World} {A : Around} {s : Shared} {e : Expr} {env : Env} {P : Bool → Shared → Prop} (h : wpAny (model prog w) A (isTrue e env (eval e env)) P (fun _ _ => False) s) :
    wpAny (model prog w) A (forIn [e] true fun c r => if r = true then do let ok ← isTrue c env (eval c env); pure (ForInStep.yield ok) else pure (ForInStep.yield r)) P (fun _ _ => False) s := by
  rw [List.forIn_cons, if_pos rfl]
  refine wpAny_bind (wpAny_bind (wpAny_mono h (fun ok s₁ h₁ => wpAny_pure ?_) fun _ _ e => e))
  simp only [List.forIn_nil]
  exact wpAny_pure h₁

theorem del_own {M : Model} {A : Around} {E : Value → Shared → Prop} {s : Shared} {K : Frag} {x C L f : Addr} {h₀ : Heap} {m : Str → Option Value} {ox : Obj} {od : Option Obj} {i : Value} {Q : Unit → Shared → Prop} (F : Fr h₀ L s.heap m) (X₀ : K.In h₀) (I : InstAt s.heap x ox C od) (hq : noSeq K C = true) (hs : findIn K (.ref C) "__delitem__" = some (some (.ref f))) (hf : isFn K (.ref f) = true)
    (h : wpAny M A (call (.ref f) [.ref x, i]) (fun _ s' => Q () s') E s) : wpAny M A (delItem (.ref x) i) Q E s := by
  have X := X₀.keeps F.keep
  unfold delItem sequenceKey
  refine wpAny_holding (wpAny_bind (wpAny_bind (I.type.here ?_)))
  refine wpAny_bind ((anyM_none X hq).here ?_)
  rw [if_pos (show (!false) = true from rfl)]
  exact wpAny_pure (wpAny_bind (special_fn X I hs (beq_iff_eq.mp hf) (wpAny_mono h (fun _ _ z => wpAny_pure z) fun _ _ z => z)))

theorem all_gt {tl : List (Addr × Obj)} {a d : Nat} (h : ∀ p ∈ tl, @LT.lt Nat _ a p.1) (hd : d ≤ a) : ∀ p ∈ tl, p.1 ≠ d := fun p hp => Nat.ne_of_gt (Nat.lt_of_le_of_lt hd (h p hp))

end
local macro_rules | `(tactic| walk_at "my_lk") => `(tactic| repeat' (first | exact lk_eq | assumption | refine lk_ne (by decide) ?_ | rfl))
local macro_rules | `(tactic| walk_at "loadName") => `(tactic| (k_here; k_dflt (refine' ldnX ?F ?v ?_ ?a ?b; (case F => k_asm); (case a => rfl); (case b => rfl); (case v => walk_at "my_lk"); k_whole)))
local macro_rules | `(tactic| walk_at "eval Name") => `(tactic| (k_here; k_dflt (refine' nameX_L ?F ?v ?_ ?a ?b; (case F => k_asm); (case a => rfl); (case b => rfl); (case v => walk_at "my_lk"); k_whole)))
local macro_rules | `(tactic| walk_at "call builtin:str.lower") => `(tactic| (k_here; refine low_ok (by with_reducible assumption) sg_short ?_))
local macro_rules | `(tactic| walk_at "call builtin:str.upper") => `(tactic| (k_here; refine up_ok (by with_reducible assumption) sg_short ?_))
local macro_rules | `(tactic| walk_at "my_steps") => `(tactic| repeat' ((fail_if_success (with_reducible first | refine stopFor ?_ | refine stopWhile ?_ | refine stopComp ?_ | refine stopCompA ?_ | refine stopDComp ?_ | refine stopDCompA ?_ | refine stopCall ?_ | refine stopCmp ?_)); first | (k_unfold; (try dsimp only)) | walk1 | (dsimp only; walk1)))
local macro_rules | `(tactic| walk_at "my_isl") => `(tactic| first | with_reducible assumption | exact isl_base (by assumption) (by assumption) | exact isl_news (by assumption) (by k_mem))
local macro_rules | `(tactic| walk_at "my_ar") => `(tactic| first | assumption | omega)
local macro_rules | `(tactic| walk_at "call builtin:len") => `(tactic| (k_here; (with_reducible show wpAny _ _ (call (Value.builtin "len") [Value.ref _]) _ _ _); k_dflt (refine' len_ok ?l ?k ?b ?_; (case l => walk_at "my_isl"); (case k => assumption); (case b => walk_at "my_ar"); k_whole)))
local macro_rules | `(tactic| walk_at "subscriptTail") => `(tactic| (k_here; (with_reducible show wpAny _ _ (subscriptTail _ _ (Value.ref _) (Value.int _ _)) _ _ _); k_dflt (refine' item_ints_ok ?l ?i ?a ?b ?c ?_ ?d; (case l => walk_at "my_isl"); (case i => assumption); (case a => walk_at "my_ar"); (case b => walk_at "my_ar"); (case c => walk_at "my_ar"); (case d => with_unfolding_all rfl)); intro _))
local macro_rules | `(tactic| walk_at "eval Name") => `(tactic| (k_here; k_dflt (first
  | (refine' ldG_C ?N ?c ?m ?d ?_ ?a ?b ?e; (case a => rfl); (case b => rfl); (case e => rfl); (case N => k_asm); (case c => rfl); (case m => k_mem); (case d => k_asm); k_whole)
  | (refine' ldG_F ?N ?c ?m ?d ?_ ?a ?b ?e ?f; (case a => rfl); (case b => rfl); (case e => rfl); (case f => rfl); (case N => k_asm); (case c => rfl); (case m => k_mem); (case d => k_asm); k_whole)
  | (refine' nameG_K ?F ?k1 ?k2 ?k3 ?_ ?k4 ?k5 ?k6 ?k7; (case k4 => rfl); (case k5 => rfl); (case k6 => rfl); (case k7 => rfl); (case F => k_asm); (case k1 => k_asm); (case k2 => k_asm); (case k3 => k_is); k_whole)
  | (refine' ldG_B ?F ?X ?T ?e ?v ?n ?_ ?g ?bu ?a ?b ?c; (case g => rfl); (case bu => rfl); (case a => rfl); (case b => rfl); (case c => rfl); (case F => k_asm); (case X => k_asm); (case T => k_asm); (case e => k_is); (case v => boot_fast); (case n => decide); k_whole))))
local macro_rules | `(tactic| walk_at "eval Name") => `(tactic| (k_here; k_dflt (refine' ldG_L ?F ?v ?_ ?a ?b ?c ?d; (case b => rfl); (case c => rfl); (case F => k_asm); (case a => rfl); (case d => rfl); (case v => walk_at "my_lk"); k_whole)))
local macro_rules | `(tactic| walk_at "delItem ref str") => `(tactic| (k_here; (with_reducible show wpAny _ _ (delItem (Value.ref _) _) _ _ _); k_dflt (refine' del_own ?F ?X ?I ?hQ ?hS ?hF ?_; (case F => k_asm); (case X => k_asm); (case I => k_inst); (case hS => k_is); (case hF => k_is); (case hQ => k_is); k_whole)))
local macro_rules | `(tactic| walk_at "subscriptTail") => `(tactic| (k_here; (with_reducible show wpAny _ _ (subscriptTail _ (Expr.Slice none (some _) none _) (Value.str _ _) (Value.ref _)) _ _ _); (with_reducible rename Fr _ _ _ _ => F'); (with_reducible rename News _ _ _ _ => N'); (refine slice_strN_ns (hsz := ?hsz) (s := ⟨_, _, _, _, _⟩) F' N' ?_); (case hsz => first | kxi_size | walk_at "my_size"); intro _ _ _ _ _))
local macro_rules | `(tactic| k_all) => `(tactic| (refine all_gt (by assumption) ?_; omega))
local macro_rules | `(tactic| k_all) => `(tactic| with_reducible assumption)
section
def presum (f : Nat → Int) (l : List Nat) (i : Nat) : Int := ((l.take i).map f).sum

theorem presum_zero (f : Nat → Int) (l : List Nat) : presum f l 0 = 0 := by simp [presum]
theorem presum_succ {f : Nat → Int} {l : List Nat} {i k : Nat} (h : l[i]? = some k) : presum f l (i + 1) = presum f l i + f k := by
  unfold presum
  rw [List.take_add_one, h]
  simp
def endsOf (f : Nat → Int) (l : List Nat) (n : Nat) : List Int := (List.range n).map fun j => presum f l (j + 1)
theorem endsOf_succ (f : Nat → Int) (l : List Nat) (n : Nat) : endsOf f l (n + 1) = endsOf f l n ++ [presum f l (n + 1)] := by
  unfold endsOf
  rw [List.range_succ, List.map_append]; rfl
theorem endsOf_length (f : Nat → Int) (l : List Nat) (n : Nat) : (endsOf f l n).length = n := by simp [endsOf]

theorem ends_ok (w : World) {mean : ExcName → Option Value} {mg mb : Str → Option Value} {dp un : Nat} {fr : Option (List Env)} {gd : Option (List Code)} {s : Shared} {y : Str} {t : Tok} {d : Addr} {Q E : Value → Shared → Prop}
    (X : (Mine.hd.heap_39 w.params).In s.heap) (T : Top Mine.hd.view_39 LO mean mg mb s.heap) (hd : dp + 1 < recursionLimit) (hu : un + 40 < cLine)
    {D : List (PyData × PyData)} (f : Nat → Int) (TD : StrTab PySem.Challenge.rw_pm0053_01.row.prog w s.heap d D) (hy : y.cps.all (· < 128) = true) (hlen : y.cps.size < 100) (hw : ∀ k ∈ y.cps.toList, Txt.lower (sg k) = sg (lw k) ∧ lookup (.str (sg (lw k))) D = some (.int (f k)) ∧ 0 ≤ f k ∧ f k < 100)
    (ret : ∀ (h' : Heap) (tk' : Nat) (l : Addr) (vs : List Value) (n : Nat), Kp s.heap h' → h'.get? l = some (listOf vs.toArray n) → IntsAre vs (endsOf f y.cps.toList y.cps.size) → Q (.ref l) { s with heap := h', toks := tk' }) :
    wpAny (model PySem.Challenge.rw_pm0053_01.row.prog w) (AR dp un fr gd) (call (.ref 232) [.str y t, .ref d]) Q E s := by
  revert X T
  k_fill
  intro X T
  k_dflt (refine' enter [(Str.ofString "word", Value.str y t), (Str.ofString "steer", Value.ref d)] ?k3 ?k5 ?k6 ?k7 ?k8 ?k9 ?kB ?_ ?c2 ?c3 ?c4 ?c5)
  (case k3 => assumption); (case k5 => assumption); (case k6 => k_is); (case k7 => k_is); (case k8 => (dsimp only [AR, Around.deeper]; omega)); (case k9 => exact fun _ => rfl); (case c5 => decide); (case kB => exact rfl); (case c2 => exact rfl); (case c3 => exact rfl); (case c4 => exact rfl); k_whole; intro L' h' F' N'; (try dsimp only)
  k_fold
  walk_at "my_steps"
  rename_i lE hT hB h₁ h₂ F₁ N₁
  refine for_str F₁ (fun c : List Value × Nat => [(lE, listOf c.1.toArray c.2)])
    (fun i m c => m (Str.ofString "word") = some (.str y t) ∧ m (Str.ofString "steer") = some (.ref d) ∧ m (Str.ofString "ends") = some (.ref lE) ∧ (∃ u, m (Str.ofString "total") = some (.int (presum f y.cps.toList i) u)) ∧ IntsAre c.1 (endsOf f y.cps.toList i) ∧ i ≤ y.cps.size)
    ([], 0) y t rfl rfl rfl rfl (fun _ => rfl) hy ?_ N₁ ?_ ?_ ?_
  · walk_at "my_steps"
  · exact ⟨by walk_at "my_lk", by walk_at "my_lk", by walk_at "my_lk", ⟨_, by rfl⟩, .nil, by omega⟩
  · rintro i k u m c h tk It oI hk ⟨h1, h2, h3, ⟨u4, h4⟩, h5, h6⟩ hne F N
    obtain ⟨hlow, hlk, hk0, hk1⟩ := hw k (by simpa using Array.mem_of_getElem? hk)
    have hne1 : @Ne Nat lE It := hne _ (.head _)
    have hsz : c.1.length < 100 := by rw [h5.length, endsOf_length]; omega
    have hsz' : c.1.toArray.size ≤ 16777216 := by simp; omega
    walk_at "my_steps"
    rename_i _ h₃ _ F₃ h₄ F₄ N₄
    have hi : i < y.cps.size := by
      rcases Nat.lt_or_ge i y.cps.size with h | h
      · exact h
      · rw [Array.getElem?_eq_none h] at hk; cases hk
    have hk' : y.cps.toList[i]? = some k := by rw [← hk]; simp
    rw [List.push_toArray] at N₄
    have hps := presum_succ (f := f) hk'
    refine ⟨_, (c.1 ++ [_], c.2 + 1), _, _, rfl, ⟨by walk_at "my_lk", by walk_at "my_lk", by walk_at "my_lk", ⟨_, by rw [hps]; exact lk_eq⟩, ?_, hi⟩, F₄, N₄, ?_⟩
    · rw [endsOf_succ, hps]
      exact h5.append (.cons _ _ .nil)
    · intro p hp
      rw [List.mem_singleton.mp hp]
      exact hne1
  · rintro m c h tk ⟨h1, h2, h3, _, h5, h6⟩ F N
    dsimp only
    walk_at "my_steps"
    exact ret _ _ _ _ _ F.keep (N _ (.head _)).1 h5

end
section
theorem bisect_ok (w : World) {mean : ExcName → Option Value} {mg mb : Str → Option Value} {dp un : Nat} {fr : Option (List Env)} {gd : Option (List Code)} {s : Shared} {l : Addr} {vs : List Value} {n : Nat} {ns : List Int} {x : Int} {t : Tok} {Q E : Value → Shared → Prop}
    (X : (Mine.hd.heap_39 w.params).In s.heap) (T : Top Mine.hd.view_39 LO mean mg mb s.heap) (hd : dp + 1 < recursionLimit) (hu : un + 40 < cLine)
    (hl : s.heap.get? l = some (listOf vs.toArray n)) (hi : IntsAre vs ns) (hlen : ns.length < 100) (hso : ∀ i j : Nat, i ≤ j → j < ns.length → ns.getD i 0 ≤ ns.getD j 0)
    (ret : ∀ (r : Nat) (t : Tok) (h' : Heap) (tk' : Nat), r ≤ ns.length → (∀ j : Nat, j < r → ns.getD j 0 ≤ x) → (∀ j : Nat, r ≤ j → j < ns.length → x < ns.getD j 0) → Kp s.heap h' → Q (.int r t) { s with heap := h', toks := tk' }) :
    wpAny (model PySem.Challenge.rw_pm0053_01.row.prog w) (AR dp un fr gd) (call (.ref 47) [.ref l, .int x t]) Q E s := by
  revert X T
  k_fill
  intro X T
  k_dflt (refine' enter [(Str.ofString "a", Value.ref l), (Str.ofString "x", Value.int x t), (Str.ofString "lo", Value.int 0 291), (Str.ofString "hi", Value.none), (Str.ofString "key", Value.none)] ?k3 ?k5 ?k6 ?k7 ?k8 ?k9 ?kB ?_ ?c2 ?c3 ?c4 ?c5)
  (case k3 => assumption); (case k5 => assumption); (case k6 => k_is); (case k7 => k_is); (case k8 => (dsimp only [AR, Around.deeper]; omega)); (case k9 => exact fun _ => rfl); (case c5 => decide); (case kB => exact rfl); (case c2 => exact rfl); (case c3 => exact rfl); (case c4 => exact rfl); k_whole; intro L' h' F' N'; (try dsimp only)
  k_fold
  have hvl : vs.length = ns.length := hi.length
  walk_at "my_steps"
  rename_i F₁ N₁
  refine while_led (τ := Unit) F₁ (fun _ => [])
    (fun k m _ => m (Str.ofString "a") = some (.ref l) ∧ (∃ t, m (Str.ofString "x") = some (.int x t)) ∧ ∃ (lo hi : Nat) (t1 t2 : Tok), m (Str.ofString "lo") = some (.int lo t1) ∧ m (Str.ofString "hi") = some (.int hi t2) ∧ k = hi - lo ∧ lo ≤ hi ∧ hi ≤ ns.length ∧ (∀ j : Nat, j < lo → ns.getD j 0 ≤ x) ∧ (∀ j : Nat, hi ≤ j → j < ns.length → x < ns.getD j 0))
    (ns.length - 0) () N₁ ?_ ?_
  · exact ⟨by walk_at "my_lk", ⟨_, by walk_at "my_lk"⟩, 0, ns.length, _, _, by walk_at "my_lk", by walk_at "my_lk", rfl, by omega, by omega, fun j h => absurd h (Nat.not_lt_zero _), fun j h h' => absurd h' (by omega)⟩
  · rintro k m _ h tk ⟨h1, ⟨t2, h2⟩, lo, hh, t3, t4, h3, h4, rfl, h5, h6, h7, h8⟩ F N
    have hm : ((lo : Int) + (hh : Int)).fdiv 2 = (((lo + hh) / 2 : Nat) : Int) := by rw [Int.fdiv_eq_ediv_of_nonneg _ (by omega)]; omega
    have hm' : (((lo : Int) + (hh : Int)).fdiv 2).toNat = (lo + hh) / 2 := by rw [hm]; rfl
    walk_at "my_steps"
    · rename_i hlt _ hx h' F' N'
      rw [hm'] at hx
      have hlt' : lo < hh := by omega
      refine ⟨(lo + hh) / 2 - lo, _, (), _, _, by omega, rfl, ⟨by walk_at "my_lk", ⟨_, by walk_at "my_lk"⟩, lo, (lo + hh) / 2, _, _, by walk_at "my_lk", by rw [← hm]; walk_at "my_lk", rfl, by omega, by omega, h7, fun j a b => ?_⟩, F', N'⟩
      have := hso ((lo + hh) / 2) j a b
      omega
    · rename_i hlt _ hx h' F' N'
      rw [hm'] at hx
      have hlt' : lo < hh := by omega
      have e : ((lo : Int) + (hh : Int)).fdiv 2 + 1 = (((lo + hh) / 2 + 1 : Nat) : Int) := by rw [hm]; omega
      refine ⟨hh - ((lo + hh) / 2 + 1), _, (), _, _, by omega, rfl, ⟨by walk_at "my_lk", ⟨_, by walk_at "my_lk"⟩, (lo + hh) / 2 + 1, hh, _, _, by rw [← e]; walk_at "my_lk", by walk_at "my_lk", rfl, by omega, by omega, fun j a => ?_, h8⟩, F', N'⟩
      have := hso j ((lo + hh) / 2) (by omega) (by omega)
      omega
    · exact ret _ _ _ _ (by omega) h7 (fun j a b => h8 j (by omega) b) (Fr.keep (by assumption))

end
section
def oth (k : Nat) : Nat := if 97 ≤ k then k - 32 else k + 32
theorem low_all : ∀ k ∈ [48, 49, 65, 66, 67, 68, 97, 98, 99, 100], Txt.lower (sg k) = sg (lw k) := by decide +kernel
theorem up_all : ∀ k ∈ [97, 98, 99, 100], Txt.upper (sg k) = sg (k - 32) := by decide +kernel
theorem oth_all : ∀ k ∈ [97, 98, 99, 100, 65, 66, 67, 68], (if (sg k == sg (lw k)) = true then Txt.upper (sg k) else sg (lw k)) = sg (oth k) := by decide +kernel
theorem oth_in : ∀ k ∈ [97, 98, 99, 100, 65, 66, 67, 68], k ∈ [48, 49, 65, 66, 67, 68, 97, 98, 99, 100] := by decide

theorem other_ok (w : World) {mean : ExcName → Option Value} {mg mb : Str → Option Value} {dp un : Nat} {fr : Option (List Env)} {gd : Option (List Code)} {s : Shared} {k : Nat} {t : Tok} {Q E : Value → Shared → Prop}
    (X : (Mine.hd.heap_39 w.params).In s.heap) (T : Top Mine.hd.view_39 LO mean mg mb s.heap) (hd : dp + 1 < recursionLimit) (hu : un + 40 < cLine) (hk : k ∈ [97, 98, 99, 100, 65, 66, 67, 68])
    (ret : ∀ (t : Tok) (h' : Heap) (tk' : Nat), Kp s.heap h' → Q (.str (sg (oth k)) t) { s with heap := h', toks := tk' }) :
    wpAny (model PySem.Challenge.rw_pm0053_01.row.prog w) (AR dp un fr gd) (call (.ref 225) [.str (sg k) t]) Q E s := by
  revert X T
  k_fill
  intro X T
  k_dflt (refine' enter [(Str.ofString "name", Value.str (sg k) t)] ?k3 ?k5 ?k6 ?k7 ?k8 ?k9 ?kB ?_ ?c2 ?c3 ?c4 ?c5)
  (case k3 => assumption); (case k5 => assumption); (case k6 => k_is); (case k7 => k_is); (case k8 => (dsimp only [AR, Around.deeper]; omega)); (case k9 => exact fun _ => rfl); (case c5 => decide); (case kB => exact rfl); (case c2 => exact rfl); (case c3 => exact rfl); (case c4 => exact rfl); k_whole; intro L' h' F' N'; (try dsimp only)
  have hlow : Txt.lower (sg k) = sg (lw k) := low_all k (oth_in k hk)
  have hall := oth_all k hk
  try k_fold
  walk_at "my_steps"
  · rename_i hc
    rw [if_pos hc] at hall
    have hup := hall
    walk_at "my_steps"
    exact ret _ _ _ (Fr.keep (by assumption))
  · rename_i hc
    rw [if_neg (by rw [hc]; decide)] at hall
    rw [hall]
    exact ret _ _ _ (Fr.keep (by assumption))

end
section
theorem plainAttrs_pattern : PlainAttrs "re.Pattern" :=
  ⟨⟨"object.__getattribute__", by rw [typeLookup_type, builtinLookup_eq_fast]; kernel_rfl, by decide +kernel⟩, by rw [typeLookup_type, builtinLookup_eq_fast]; kernel_rfl⟩
theorem slot_search : Slot "re.Pattern" "search" "re.Pattern.search" :=
  .of (owner := "re.Pattern") (n := "search") (by rw [typeLookup_type, builtinLookup_eq_fast]; kernel_rfl) (by decide +kernel) (by decide +kernel) (by decide +kernel)
    (by first | exact .inl (by decide +kernel) | exact .inr (by decide +kernel)) (by rw [isSubtype_type]; kernel_rfl)
theorem type_search : typeOf (.builtin "re.Pattern.search") = pure (.type "method_descriptor") := by show builtinType _ = _; rw [builtinType_eq_fast]; kernel_rfl
theorem entry_search : entryFor table "re.Pattern.search" = some Builtin.«re.Pattern.search» := entryFor_of_tree (by kernel_rfl)
theorem args_search (a b : Value) : argsOk "re.Pattern.search" ⟨[a, b], []⟩ := by unfold argsOk; kernel_rfl

/-- the signs of the texts of rules -/
def sgs : List Nat := [48, 49, 97, 98, 99, 65, 66, 67]
/-- the names' signs -/
def nms : List Nat := [97, 98, 99, 100, 65, 66, 67, 68]
/-- the texts of rules: none to two signs -/
def bodies : List (List Nat) := [] :: sgs.map (fun a => [a]) ++ sgs.flatMap fun a => sgs.map fun b => [a, b]
abbrev tx (l : List Nat) : Str := ⟨l.toArray⟩
theorem tx_app (a b : List Nat) : tx a ++ tx b = tx (a ++ b) := by
  show (⟨a.toArray ++ b.toArray⟩ : Str) = _
  simp
theorem tx_len (a : List Nat) : (tx a).length = a.length := by
  show a.toArray.size = _
  simp

def noneB (x : Option Fin) : Bool := match x with
  | some (.done (.ret .none)) => true
  | _ => false
theorem noneB_eq {x : Option Fin} (h : noneB x = true) : x = some (.done (.ret .none)) := by
  unfold noneB at h
  split at h
  · rfl
  · cases h
theorem search_names (P : Params) (S : Setting) (t : Tok) : (nms.all fun k => noneB (peek (Mine.hd.heap_39 P) S (Builtin.«re.Pattern.search» ⟨[.ref 59, .str (tx [k]) t], []⟩))) = true := by kernel_rfl
theorem search_bodies (P : Params) (S : Setting) (t : Tok) : (bodies.all fun l => noneB (peek (Mine.hd.heap_39 P) S (Builtin.«re.Pattern.search» ⟨[.ref 64, .str (tx l) t], []⟩))) = true := by kernel_rfl
section
variable {w : World} {A : Around} {E : Value → Shared → Prop} {s : Shared} {Q : Value → Shared → Prop} {prog : Program}
theorem pattern_type {a : Addr} {o : Obj} (X : (Mine.hd.heap_39 w.params).In s.heap) (ho : (Mine.hd.heap_39 w.params).lookup a = some o) (hc : o.cls = .type "re.Pattern") : s.TypeIs (.ref a) "re.Pattern" := ⟨o, X _ _ ho, hc⟩
theorem search_ok {a : Addr} {o : Obj} {x : Str} {t : Tok} (X : (Mine.hd.heap_39 w.params).In s.heap) (ho : (Mine.hd.heap_39 w.params).lookup a = some o) (hc : o.cls = .type "re.Pattern")
    (hp : ∀ S, peek (Mine.hd.heap_39 w.params) S (Builtin.«re.Pattern.search» ⟨[.ref a, .str x t], []⟩) = some (.done (.ret .none))) (h : Q .none s) :
    wpAny (model prog w) A (call (.builtin "re.Pattern.search") [.ref a, .str x t]) Q E s :=
  wpAny_call_entry slot_search (pattern_type X ho hc) entry_search ((Looks.of_peek X (hp _)).here ⟨_, rfl, h⟩) (args_search _ _)
theorem search_name_ok {k : Nat} {t : Tok} (X : (Mine.hd.heap_39 w.params).In s.heap) (hk : k ∈ nms) (h : Q .none s) :
    wpAny (model prog w) A (call (.builtin "re.Pattern.search") [.ref 59, .str (tx [k]) t]) Q E s :=
  search_ok X rfl rfl (fun S => noneB_eq (List.all_eq_true.mp (search_names w.params S t) k hk)) h
theorem search_body_ok {l : List Nat} {t : Tok} (X : (Mine.hd.heap_39 w.params).In s.heap) (hk : l ∈ bodies) (h : Q .none s) :
    wpAny (model prog w) A (call (.builtin "re.Pattern.search") [.ref 64, .str (tx l) t]) Q E s :=
  search_ok X rfl rfl (fun S => noneB_eq (List.all_eq_true.mp (search_bodies w.params S t) l hk)) h
theorem getSearch_ok {a : Addr} {o : Obj} {pl : Sem Bool} {Q : Value × List Value → Shared → Prop} (X : (Mine.hd.heap_39 w.params).In s.heap) (ho : (Mine.hd.heap_39 w.params).lookup a = some o) (hc : o.cls = .type "re.Pattern") (hd : o.dict = none)
    (h : Q (.builtin "re.Pattern.search", [.ref a]) s) : wpAny (model prog w) A (getMethod (.ref a) (Str.ofString "search") pl) Q E s :=
  getMethod_builtin (pattern_type X ho hc) plainAttrs_pattern slot_search type_search (fun b e => by cases e; exact ⟨o, X _ _ ho, hd⟩) h
end

end
local macro_rules | `(tactic| walk_at "getMethod ref") => `(tactic| (k_here; k_dflt (refine' getSearch_ok ?x ?a ?b ?c ?_; (case x => k_in); (case a => exact rfl); (case b => exact rfl); (case c => exact rfl); k_whole)))
local macro_rules | `(tactic| walk_at "call builtin:re.Pattern.search") => `(tactic| (k_here; k_dflt (first | (refine' search_name_ok ?x ?k ?_; (case x => k_in); (case k => assumption); k_whole) | (refine' search_body_ok ?x ?k ?_; (case x => k_in); (case k => assumption); k_whole))))
local macro_rules | `(tactic| walk_at "my_size") => `(tactic| ((try simp only [tx_len, sizeLine_eq]); omega))
section
theorem convert_name_ok (w : World) {mean : ExcName → Option Value} {mg mb : Str → Option Value} {dp un : Nat} {fr : Option (List Env)} {gd : Option (List Code)} {s : Shared} {k : Nat} {t : Tok} {self : Value} {Q E : Value → Shared → Prop}
    (X : (Mine.hd.heap_39 w.params).In s.heap) (T : Top Mine.hd.view_39 LO mean mg mb s.heap) (hd : dp + 1 < recursionLimit) (hu : un + 40 < cLine) (hk : k ∈ nms)
    (ret : ∀ (h' : Heap) (tk' : Nat), Kp s.heap h' → Q (.str (tx [k]) t) { s with heap := h', toks := tk' }) :
    wpAny (model PySem.Challenge.rw_pm0053_01.row.prog w) (AR dp un fr gd) (call (.ref 86) [self, .str (tx [k]) t] [(Str.ofString "name", .bool true)]) Q E s := by
  revert X T
  k_fill
  intro X T
  k_dflt (refine' enter [(Str.ofString "self", self), (Str.ofString "value", Value.str (tx [k]) t), (Str.ofString "name", Value.bool true)] ?k3 ?k5 ?k6 ?k7 ?k8 ?k9 ?kB ?_ ?c2 ?c3 ?c4 ?c5)
  (case k3 => assumption); (case k5 => assumption); (case k6 => k_is); (case k7 => k_is); (case k8 => (dsimp only [AR, Around.deeper]; omega)); (case k9 => exact fun _ => rfl); (case c5 => decide); (case kB => exact rfl); (case c2 => exact rfl); (case c3 => exact rfl); (case c4 => exact rfl); k_whole; intro L' h' F' N'; (try dsimp only)
  try k_fold
  walk_at "my_steps"
  exact ret _ _ (Fr.keep (by assumption))

theorem convert_body_ok (w : World) {mean : ExcName → Option Value} {mg mb : Str → Option Value} {dp un : Nat} {fr : Option (List Env)} {gd : Option (List Code)} {s : Shared} {l : List Nat} {t : Tok} {self : Value} {Q E : Value → Shared → Prop}
    (X : (Mine.hd.heap_39 w.params).In s.heap) (T : Top Mine.hd.view_39 LO mean mg mb s.heap) (hd : dp + 1 < recursionLimit) (hu : un + 40 < cLine) (hk : l ∈ bodies)
    (ret : ∀ (h' : Heap) (tk' : Nat), Kp s.heap h' → Q (.str (tx l) t) { s with heap := h', toks := tk' }) :
    wpAny (model PySem.Challenge.rw_pm0053_01.row.prog w) (AR dp un fr gd) (call (.ref 86) [self, .str (tx l) t] [(Str.ofString "name", .bool false)]) Q E s := by
  revert X T
  k_fill
  intro X T
  k_dflt (refine' enter [(Str.ofString "self", self), (Str.ofString "value", Value.str (tx l) t), (Str.ofString "name", Value.bool false)] ?k3 ?k5 ?k6 ?k7 ?k8 ?k9 ?kB ?_ ?c2 ?c3 ?c4 ?c5)
  (case k3 => assumption); (case k5 => assumption); (case k6 => k_is); (case k7 => k_is); (case k8 => (dsimp only [AR, Around.deeper]; omega)); (case k9 => exact fun _ => rfl); (case c5 => decide); (case kB => exact rfl); (case c2 => exact rfl); (case c3 => exact rfl); (case c4 => exact rfl); k_whole; intro L' h' F' N'; (try dsimp only)
  try k_fold
  walk_at "my_steps"
  exact ret _ _ (Fr.keep (by assumption))

end
section
theorem paired_append {α β : Type} {F : α → β → Prop} {l₁ k₁ : List α} {l₂ k₂ : List β} (h : Paired F l₁ l₂) (h' : Paired F k₁ k₂) : Paired F (l₁ ++ k₁) (l₂ ++ k₂) := by
  induction h with
  | nil => exact h'
  | cons a _ ih => exact .cons a ih
theorem paired_get {α β : Type} {F : α → β → Prop} {l₁ : List α} {l₂ : List β} (h : Paired F l₁ l₂) : ∀ {i : Nat} {v : α}, l₁[i]? = some v → ∃ e, l₂[i]? = some e ∧ F v e := by
  induction h with
  | nil => intro i v e; simp at e
  | cons hab _ ih =>
    intro i v e
    cases i with
    | zero => cases e; exact ⟨_, rfl, hab⟩
    | succ i => exact ih e
theorem paired_mono {α β : Type} {F G : α → β → Prop} {l₁ : List α} {l₂ : List β} (h : Paired F l₁ l₂) (hm : ∀ a b, F a b → G a b) : Paired G l₁ l₂ := by
  induction h with
  | nil => exact .nil
  | cons hab _ ih => exact .cons (hm _ _ hab) ih
abbrev pairObj (x y : Str) (t1 t2 : Tok) (n : Nat) : Obj := { cls := .type "tuple", data := .seq #[.str x t1, .str y t2] n }
/-- a tuple of two texts -/
def PairAt (h : Heap) (v : Value) (x y : Str) : Prop := ∃ a t1 t2 n, v = .ref a ∧ h.get? a = some (pairObj x y t1 t2 n)
theorem PairAt.keep {h h' : Heap} {v : Value} {x y : Str} (p : PairAt h v x y) (k : Kp h h') : PairAt h' v x y := let ⟨a, t1, t2, n, e, o⟩ := p; ⟨a, t1, t2, n, e, k _ _ o⟩
abbrev Tbl := List (Nat × List Nat)
abbrev TblAt (h : Heap) (vs : List Value) (tb : Tbl) : Prop := Paired (fun v e => PairAt h v (tx [e.1]) (tx e.2)) vs tb
theorem TblAt.keep {h h' : Heap} {vs : List Value} {tb : Tbl} (p : TblAt h vs tb) (k : Kp h h') : TblAt h' vs tb := paired_mono p fun _ _ q => q.keep k
abbrev hdDict (hs : Int) (tk : Tok) (l : Addr) : Obj := dictOf [⟨hs, .str (Str.ofString "_headers") tk, .ref l⟩] 1
/-- a Headers object: its dict, its list -/
structure HeadAt (h : Heap) (hd d l : Addr) (hs : Int) (tk : Tok) (vs : List Value) (n : Nat) : Prop where
  inst : h.get? hd = some (instObj 187 d)
  dict : h.get? d = some (hdDict hs tk l)
  list : h.get? l = some (listOf vs.toArray n)
theorem HeadAt.keep {h h' : Heap} {hd d l : Addr} {hs : Int} {tk : Tok} {vs : List Value} {n : Nat} (p : HeadAt h hd d l hs tk vs n) (k : Kp h h') : HeadAt h' hd d l hs tk vs n := ⟨k _ _ p.1, k _ _ p.2, k _ _ p.3⟩
def TblOk (tb : Tbl) : Prop := ∀ e ∈ tb, e.1 ∈ nms ∧ e.2 ∈ bodies
/-- what a table tells of a name -/
def getT (tb : Tbl) (k : Nat) : Option (List Nat) := (tb.find? fun e => lw e.1 == lw k).map (·.2)
theorem inst_base {h₀ h : Heap} {L x C dx : Addr} {m : Str → Option Value} {od : Obj} {sl : Array (Option Value)} (F : Fr h₀ L h m) (h1 : h₀.get? x = some (⟨.ref C, some dx, .plain, sl⟩ : Obj)) (h2 : h₀.get? dx = some od) : InstAt h x ⟨.ref C, some dx, .plain, sl⟩ C (some od) :=
  ⟨F.keep _ _ h1, rfl, rfl, F.keep _ _ h2⟩
theorem low_nms : ∀ k ∈ nms, Txt.lower (sg k) = sg (lw k) ∧ Txt.lower (sg (lw k)) = sg (lw k) ∧ lw k ∈ nms ∧ lw k ∈ [97, 98, 99, 100] := by decide +kernel
theorem sg_eq {a b : Nat} : (sg a == sg b) = (a == b) := by
  by_cases h : a = b
  · subst h; simp
  · have : sg a ≠ sg b := fun e => h (by injection e with e; simpa using e)
    rw [beq_eq_false_iff_ne.mpr this, beq_eq_false_iff_ne.mpr h]
theorem getT_hit : ∀ {tb : Tbl} {k i : Nat} {e : Nat × List Nat}, tb[i]? = some e → lw e.1 = lw k → (∀ e' ∈ tb.take i, lw e'.1 ≠ lw k) → getT tb k = some e.2
  | [], _, _, _, h, _, _ => by simp at h
  | a :: r, k, i, e, h, he, hn => by
    cases i with
    | zero => cases h; simp [getT, he]
    | succ i =>
      have ha : lw a.1 ≠ lw k := hn a (by simp)
      have := getT_hit (tb := r) (k := k) (i := i) h he fun e' h' => hn e' (by simp [h'])
      unfold getT at this ⊢
      rw [List.find?_cons_of_neg (by simpa using ha)]
      exact this
theorem getT_miss {tb : Tbl} {k : Nat} (h : ∀ e ∈ tb, lw e.1 ≠ lw k) : getT tb k = none := by
  unfold getT
  rw [Option.map_eq_none_iff, List.find?_eq_none]
  intro e he
  simpa using h e he
theorem take_succ_all {α : Type} {P : α → Prop} {l : List α} {i : Nat} {e : α} (h : ∀ x ∈ l.take i, P x) (he : l[i]? = some e) (hp : P e) : ∀ x ∈ l.take (i + 1), P x := by
  rw [List.take_add_one, he]
  intro x hx
  rcases List.mem_append.mp hx with hx | hx
  · exact h x hx
  · simp at hx; subst hx; exact hp

end
local macro_rules | `(tactic| k_inst) => `(tactic| exact inst_base (by assumption) (by assumption) (by assumption))
section
theorem get_ok (w : World) {mean : ExcName → Option Value} {mg mb : Str → Option Value} {dp un : Nat} {fr : Option (List Env)} {gd : Option (List Code)} {s : Shared} {k : Nat} {t : Tok} {dv : Value} {Q E : Value → Shared → Prop}
    {hd d l : Addr} {hs : Int} {tk : Tok} {vs : List Value} {n : Nat} {tb : Tbl}
    (X : (Mine.hd.heap_39 w.params).In s.heap) (T : Top Mine.hd.view_39 LO mean mg mb s.heap) (hdp : dp + 2 < recursionLimit) (hu : un + 80 < cLine) (hk : k ∈ nms)
    (H : HeadAt s.heap hd d l hs tk vs n) (TB : TblAt s.heap vs tb) (TO : TblOk tb)
    (ret : ∀ (v : Value) (h' : Heap) (tk' : Nat), (match getT tb k with | some b => ∃ t, v = .str (tx b) t | none => v = dv) → Kp s.heap h' → Q v { s with heap := h', toks := tk' }) :
    wpAny (model PySem.Challenge.rw_pm0053_01.row.prog w) (AR dp un fr gd) (call (.ref 134) [.ref hd, .str (sg k) t, dv]) Q E s := by
  revert X T
  k_fill
  intro X T
  k_dflt (refine' enter [(Str.ofString "self", Value.ref hd), (Str.ofString "name", Value.str (sg k) t), (Str.ofString "default", dv)] ?k3 ?k5 ?k6 ?k7 ?k8 ?k9 ?kB ?_ ?c2 ?c3 ?c4 ?c5)
  (case k3 => assumption); (case k5 => assumption); (case k6 => k_is); (case k7 => k_is); (case k8 => (dsimp only [AR, Around.deeper]; omega)); (case k9 => exact fun _ => rfl); (case c5 => decide); (case kB => exact rfl); (case c2 => exact rfl); (case c3 => exact rfl); (case c4 => exact rfl); k_whole; intro L' h' F' N'; (try dsimp only)
  try k_fold
  obtain ⟨hlow, hlow2, hlk, hlk2⟩ := low_nms k hk
  have hH1 := H.inst
  have hH2 := H.dict
  have hH3 := H.list
  walk_at "my_steps"
  rename Fr _ _ _ _ => F₁
  rename News _ _ _ _ => N₁
  refine convert_name_ok w (X.keeps F₁.keep) (T.keeps F₁.keep) (by show dp + 1 + 1 < _; omega) (by show un + 3 + 40 < _; omega) hlk ?_
  intro h₂ tk₂ k₂
  replace F₁ := F₁.keeps k₂
  replace N₁ := N₁.grown k₂
  walk_at "my_steps"
  rename Fr _ _ _ _ => F₂
  rename News _ _ _ _ => N₂
  refine for_list (τ := Unit) F₂ (fun _ => []) (fun i m _ => m (Str.ofString "self") = some (.ref hd) ∧ (∃ t, m (Str.ofString "name") = some (.str (sg (lw k)) t)) ∧ m (Str.ofString "default") = some dv ∧ ∀ e ∈ tb.take i, lw e.1 ≠ lw k)
    () l vs n rfl rfl (fun _ => rfl) (.inl hH3) ?_ N₂ ?_ ?_ ?_
  · walk_at "my_steps"
  · exact ⟨by walk_at "my_lk", ⟨_, by walk_at "my_lk"⟩, by walk_at "my_lk", fun e h => by simp at h⟩
  · rintro i v m _ h tk It oI hv ⟨h1, ⟨t2, h2⟩, h3, h4⟩ hne F N
    obtain ⟨e, he, a, u1, u2, n2, rfl, ha⟩ := paired_get TB hv
    have hT : IsTup h a #[.str (tx [e.1]) u1, .str (tx e.2) u2] := ⟨_, F.keep _ _ ha, rfl, _, rfl⟩
    obtain ⟨g1, g2, g3, g4⟩ := low_nms e.1 (TO e (List.mem_of_getElem? he)).1
    walk_at "my_steps"
    · rename_i hc
      rw [sg_eq] at hc
      refine ret _ _ _ ?_ (Fr.keep (by assumption))
      rw [getT_hit he (by simpa using hc) h4]
      exact ⟨_, rfl⟩
    · rename_i hc
      rw [sg_eq] at hc
      rename Fr _ _ _ _ => F₃
      rename News _ _ _ _ => N₃
      exact ⟨_, (), _, _, rfl, ⟨by walk_at "my_lk", ⟨_, by walk_at "my_lk"⟩, by walk_at "my_lk", take_succ_all h4 he (by simpa using hc)⟩, F₃, N₃, fun _ h => nomatch h⟩
  · rintro m _ h tk ⟨h1, _, h3, h4⟩ F N
    have hlen : vs.length = tb.length := TB.length
    rw [hlen, List.take_length] at h4
    dsimp only
    walk_at "my_steps"
    refine ret _ _ _ ?_ (Fr.keep (by assumption))
    rw [getT_miss h4]

end
section
/-- the table less a name -/
def delT (tb : Tbl) (k : Nat) : Tbl := tb.filter fun e => lw e.1 != lw k
theorem par_filter {α β : Type} {P : α → β → Prop} {p : α → Bool} {q : β → Bool} {vs : List α} {tb : List β} (hq : Paired (fun v e => p v = q e) vs tb) : Paired P vs tb → Paired P (vs.filter p) (tb.filter q) := by
  intro h
  induction hq with
  | nil => cases h; exact .nil
  | @cons a b l₁ l₂ hab _ ih =>
    cases h with
    | cons h1 h2 =>
      cases hqb : q b with
      | true => rw [hqb] at hab; rw [List.filter_cons_of_pos (by simpa using hab), List.filter_cons_of_pos (by simpa using hqb)]; exact .cons h1 (ih h2)
      | false => rw [hqb] at hab; rw [List.filter_cons_of_neg (by simpa using hab), List.filter_cons_of_neg (by simpa using hqb)]; exact ih h2
/-- does the tuple at v bear another name? -/
def keepsV (h : Heap) (k : Nat) (v : Value) : Bool := match v with
  | .ref a => (match h.get? a with
    | some ⟨_, _, .seq items _, _⟩ => (match items.toList with
      | .str x _ :: _ => Txt.lower x != sg (lw k)
      | _ => false)
    | _ => false)
  | _ => false
theorem sg_ne {a b : Nat} : (sg a != sg b) = (a != b) := by unfold bne; rw [sg_eq]
theorem keepsV_eq {h : Heap} {k : Nat} {v : Value} {e : Nat × List Nat} (p : PairAt h v (tx [e.1]) (tx e.2)) (he : e.1 ∈ nms) : keepsV h k v = (lw e.1 != lw k) := by
  obtain ⟨a, t1, t2, n, rfl, ha⟩ := p
  unfold keepsV
  simp only [ha]
  rw [(low_nms _ he).1, sg_ne]
theorem keepsV_all {h : Heap} {k : Nat} {vs : List Value} {tb : Tbl} (TB : TblAt h vs tb) (TO : TblOk tb) : Paired (fun v e => keepsV h k v = (lw e.1 != lw k)) vs tb := by
  induction TB with
  | nil => exact .nil
  | cons hab _ ih => exact .cons (keepsV_eq hab (TO _ (.head _)).1) (ih fun e he => TO e (.tail _ he))

theorem del_ok (w : World) {mean : ExcName → Option Value} {mg mb : Str → Option Value} {dp un : Nat} {fr : Option (List Env)} {gd : Option (List Code)} {s : Shared} {k : Nat} {t : Tok} {E : Value → Shared → Prop} {Q : Value → Shared → Prop}
    {hd d l : Addr} {hs : Int} {tk : Tok} {vs : List Value} {n : Nat} {tb : Tbl}
    (X : (Mine.hd.heap_39 w.params).In (hid s.heap [(l, listOf vs.toArray n)])) (T : Top Mine.hd.view_39 LO mean mg mb (hid s.heap [(l, listOf vs.toArray n)])) (hdp : dp + 2 < recursionLimit) (hu : un + 80 < cLine) (hk : k ∈ nms)
    (H : HeadAt s.heap hd d l hs tk vs n) (TB : TblAt s.heap vs tb) (TO : TblOk tb) (hlen : tb.length < 100)
    (ret : ∀ (vs' : List Value) (n' : Nat) (h' : Heap) (tk' : Nat), (∀ P : Value → Nat × List Nat → Prop, Paired P vs tb → Paired P vs' (delT tb k)) → (∀ b o, b ≠ l → s.heap.get? b = some o → h'.get? b = some o) → h'.get? l = some (listOf vs'.toArray n') → Q .none { s with heap := h', toks := tk' }) :
    wpAny (model PySem.Challenge.rw_pm0053_01.row.prog w) (AR dp un fr gd) (call (.ref 105) [.ref hd, .str (sg k) t]) Q E s := by
  revert X T
  k_fill
  intro X T
  refine wpAny_call ?_
  have hmu : ∀ p ∈ [(l, listOf vs.toArray n)], s.heap.get? p.1 = some p.2 := fun p hp => by rw [List.mem_singleton.mp hp]; exact H.list
  k_dflt (refine' enterMC [(l, listOf vs.toArray n)] hmu [(Str.ofString "self", Value.ref hd), (Str.ofString "name", Value.str (sg k) t)] ?k3 ?k5 ?k6 ?k7 ?k8 ?k9 ?kB ?kD ?_ ?c2 ?c3 ?c4)
  (case k3 => assumption); (case k5 => assumption); (case k6 => k_is); (case k7 => k_is); (case k8 => (dsimp only [AR, Around.deeper]; omega)); (case k9 => exact fun _ => rfl); (case kB => exact rfl); (case kD => decide +kernel); (case c2 => exact rfl); (case c3 => exact rfl); (case c4 => exact rfl); k_whole; intro L' h' tk' cells' F' N' Y' l1
  k_cells Y'
  rename_i oN dN
  have dN' : oN.data = .cell (some (.str (sg k) t)) := dN
  clear dN
  simp only [List.cons_append, List.nil_append] at N'
  have hLl : @LT.lt Nat _ l L' := l1 _ (.head _)
  have e1 : hd ≠ l := by rintro rfl; have := H.inst.symm.trans H.list; cases this
  have e2 : d ≠ l := ne_cls H.dict H.list (by show Value.type _ ≠ Value.type _; decide)
  have hH1 := hid_get H.inst (mu := [(l, listOf vs.toArray n)]) (by simpa using e1)
  have hH2 := hid_get H.dict (mu := [(l, listOf vs.toArray n)]) (by simpa using e2)
  obtain ⟨hlow, hlow2, hlk, hlk2⟩ := low_nms k hk
  try k_fold
  walk_at "my_steps"
  rename Fr _ _ _ _ => F₁
  rename News _ _ _ _ => N₁
  refine convert_name_ok w (X.keeps F₁.keep) (T.keeps F₁.keep) (by show dp + 1 + 1 < _; omega) (by show un + 3 + 40 < _; omega) hlk ?_
  intro h₂ tk₂ k₂
  replace F₁ := F₁.keeps k₂
  replace N₁ := N₁.grown k₂
  walk_at "my_steps"
  rename Fr _ _ _ _ => F₂
  rename News _ _ _ _ => N₂
  refine wpAny_Assign_Subscript ?_ (by rfl)
  have hl2 := N₂.get (a := l) (o := listOf vs.toArray n) (by k_mem)
  k_dflt (refine' comp_list F₂ N₂ l vs n (keepsV s.heap k) (fun v y => y = v) ?a ?b ?c ?d ?e ?f ?g hl2 ?z ?it ?te ?el ?dn)
  (case a => rfl); (case b => rfl); (case c => decide); (case d => rfl); (case e => decide); (case f => rfl); (case g => exact fun _ => rfl); (case z => rw [TB.length]; omega)
  · walk_at "my_steps"
  · intro C i v s₃ m₃ hv F N kk hm
    obtain ⟨e, he, a, u1, u2, n2, rfl, ha⟩ := paired_get TB hv
    have hT : IsTup s₃.heap a #[.str (tx [e.1]) u1, .str (tx e.2) u2] := ⟨_, F.keep _ _ (hid_get ha (by simpa using ne_cls ha H.list (by show Value.type _ ≠ Value.type _; decide))), rfl, _, rfl⟩
    have hp := keepsV_eq (k := k) ⟨a, u1, u2, n2, rfl, ha⟩ (TO e (List.mem_of_getElem? he)).1
    obtain ⟨g1, g2, g3, g4⟩ := low_nms e.1 (TO e (List.mem_of_getElem? he)).1
    refine one_test ?_
    walk_at "my_steps"
    · rw [hp]; exact sg_ne
    · exact ⟨_, _, rfl, fun _ _ e => e⟩
  · intro C i v s₃ m₃ hv hp F N kk hm
    walk_at "my_steps"
    exact ⟨_, _, rfl, fun _ _ e => e⟩
  · intro D ny ys h₅ tk₅ hp F₅ N₅ kk hD
    rename_i oN' dN''
    have dN' : oN'.data = .cell (some (.str (tx [lw k]) tk')) := dN''
    clear dN''
    walk_at "my_steps"
    dsimp only
    have hys : ys = vs.filter (keepsV s.heap k) := by
      clear F₅ N₅ kk hD dN'
      generalize vs.filter (keepsV s.heap k) = zs at hp
      induction hp with
      | nil => rfl
      | cons e _ ih => rw [e, ih]
    have hlv : vs.length = tb.length := TB.length
    have hyl : ys.length ≤ vs.length := by rw [hys]; exact List.length_filter_le ..
    have hl5 : (h₅.push { cls := Value.type "slice", data := Data.fields #[Value.none, Value.none, Value.none] }).get? l = some (listOf vs.toArray n) := Heap.get?_push_of_some _ (N₅.get (by k_mem))
    have hD5 : (h₅.push { cls := Value.type "slice", data := Data.fields #[Value.none, Value.none, Value.none] }).get? D = some (listOf ys.toArray ny) := Heap.get?_push_of_some _ (N₅.get (by k_mem))
    refine setItem_all hl5 ⟨_, hD5, rfl, _, rfl⟩ ?_ ⟨_, Heap.get?_push_size _ rfl, rfl, rfl⟩ (by omega) (by omega) fun h₆ n₆ g₆ sb => ?_
    · exact fun e => nomatch hl2.symm.trans ((congrArg _ e).trans hD)
    · dsimp only
      refine wpAny_execs_nil ?_
      refine ret ys n₆ h₆ _ (fun P hP => ?_) (fun b o hb e => ?_) g₆
      · rw [hys]; exact par_filter (keepsV_all TB TO) hP
      · rw [sb.2 b hb]
        exact Heap.get?_push_of_some _ (F₅.keep _ _ (hid_get e (by simpa using hb)))

end
section
theorem news_but {h₀ h h' : Heap} {L l : Addr} {o o' : Obj} {S : List (Addr × Obj)} (N : News h₀ L h ((l, o) :: S)) (hS : ∀ p ∈ S, p.1 ≠ l) (hk : ∀ b o, b ≠ l → h.get? b = some o → h'.get? b = some o) (hl : h'.get? l = some o') : News h₀ L h' ((l, o') :: S) := by
  intro p hp
  rcases List.mem_cons.mp hp with rfl | hp
  · exact ⟨hl, (N _ (.head _)).2⟩
  · exact ⟨hk _ _ (hS _ hp) (N _ (.tail _ hp)).1, (N _ (.tail _ hp)).2⟩
theorem fresh_hid {h h' : Heap} {L a : Addr} {o : Obj} {mu S : List (Addr × Obj)} (N : News (hid h mu) L h' S) (hm : (a, o) ∈ S) (hne : ∀ p ∈ mu, a ≠ p.1) : h.get? a = none := by
  cases e : h.get? a with
  | none => rfl
  | some x => exact nomatch (N.fresh hm).symm.trans (hid_get e hne)
theorem HeadAt.but {h h' : Heap} {hd d l : Addr} {hs : Int} {tk : Tok} {vs vs' : List Value} {n n' : Nat} (p : HeadAt h hd d l hs tk vs n) (k : ∀ b o, b ≠ l → h.get? b = some o → h'.get? b = some o) (hl : h'.get? l = some (listOf vs'.toArray n')) : HeadAt h' hd d l hs tk vs' n' :=
  ⟨k _ _ (by rintro rfl; have := p.1.symm.trans p.3; cases this) p.1, k _ _ (ne_cls p.2 p.3 (by show Value.type _ ≠ Value.type _; decide)) p.2, hl⟩
theorem TblAt.but {h h' : Heap} {l : Addr} {vs vs₁ : List Value} {n : Nat} {tb : Tbl} (p : TblAt h vs tb) (hl : h.get? l = some (listOf vs₁.toArray n)) (k : ∀ b o, b ≠ l → h.get? b = some o → h'.get? b = some o) : TblAt h' vs tb :=
  paired_mono p fun _ _ ⟨a, t1, t2, n, e, o⟩ => ⟨a, t1, t2, n, e, k _ _ (ne_cls o hl (by show Value.type _ ≠ Value.type _; decide)) o⟩
theorem delT_len (tb : Tbl) (k : Nat) : (delT tb k).length ≤ tb.length := List.length_filter_le ..

theorem setitem_ok (w : World) {mean : ExcName → Option Value} {mg mb : Str → Option Value} {dp un : Nat} {fr : Option (List Env)} {gd : Option (List Code)} {s : Shared} {k : Nat} {t u : Tok} {b : List Nat} {E : Value → Shared → Prop} {Q : Value → Shared → Prop}
    {hd d l : Addr} {hs : Int} {tk : Tok} {vs : List Value} {n : Nat} {tb : Tbl}
    (X : (Mine.hd.heap_39 w.params).In (hid s.heap [(l, listOf vs.toArray n)])) (T : Top Mine.hd.view_39 LO mean mg mb (hid s.heap [(l, listOf vs.toArray n)])) (hdp : dp + 3 < recursionLimit) (hu : un + 120 < cLine) (hk : k ∈ nms) (hb : b ∈ bodies)
    (H : HeadAt s.heap hd d l hs tk vs n) (TB : TblAt s.heap vs tb) (TO : TblOk tb) (hlen : tb.length < 100)
    (ret : ∀ (vs₁ : List Value) (a : Addr) (t1 t2 : Tok) (nn n' : Nat) (h' : Heap) (tk' : Nat), (∀ P : Value → Nat × List Nat → Prop, Paired P vs tb → Paired P vs₁ (delT tb k)) → h'.get? a = some (pairObj (tx [k]) (tx b) t1 t2 nn) → s.heap.get? a = none →
      (∀ b o, b ≠ l → s.heap.get? b = some o → h'.get? b = some o) → h'.get? l = some (listOf (vs₁ ++ [Value.ref a]).toArray n') → Q .none { s with heap := h', toks := tk' }) :
    wpAny (model PySem.Challenge.rw_pm0053_01.row.prog w) (AR dp un fr gd) (call (.ref 100) [.ref hd, .str (sg k) t, .str (tx b) u]) Q E s := by
  revert X T
  k_fill
  intro X T
  refine wpAny_call ?_
  have hmu : ∀ p ∈ [(l, listOf vs.toArray n)], s.heap.get? p.1 = some p.2 := fun p hp => by rw [List.mem_singleton.mp hp]; exact H.list
  k_dflt (refine' enterM [(l, listOf vs.toArray n)] hmu [(Str.ofString "self", Value.ref hd), (Str.ofString "name", Value.str (sg k) t), (Str.ofString "val", Value.str (tx b) u)] ?k3 ?k5 ?k6 ?k7 ?k8 ?k9 ?kB ?_ ?c2 ?c3 ?c4 ?c5)
  (case k3 => assumption); (case k5 => assumption); (case k6 => k_is); (case k7 => k_is); (case k8 => (dsimp only [AR, Around.deeper]; omega)); (case k9 => exact fun _ => rfl); (case c5 => decide); (case kB => exact rfl); (case c2 => exact rfl); (case c3 => exact rfl); (case c4 => exact rfl); k_whole; intro L' h' F' N'; (try dsimp only)
  try k_fold
  have e1 : hd ≠ l := by rintro rfl; have := H.inst.symm.trans H.list; cases this
  have e2 : d ≠ l := ne_cls H.dict H.list (by show Value.type _ ≠ Value.type _; decide)
  have hH1 := hid_get H.inst (mu := [(l, listOf vs.toArray n)]) (by simpa using e1)
  have hH2 := hid_get H.dict (mu := [(l, listOf vs.toArray n)]) (by simpa using e2)
  walk_at "my_steps"
  rename Fr _ _ _ _ => F₁
  rename News _ _ _ _ => N₁
  have TB₁ : TblAt h' vs tb := TB.but H.list fun b o hb e => F₁.keep _ _ (hid_get e (by simpa using hb))
  have hL1 : @Ne Nat l L' := (N₁ _ (.head _)).2.1
  have h0 : (hid s.heap [(l, listOf vs.toArray n)]).get? l = none := (N₁ _ (.head _)).2.2
  refine del_ok w (kin_hid X F₁ N₁ (by simp)) (T.keeps (stays_hid F₁ N₁ (by simp))) (by show dp + 1 + 2 < _; omega) (by show un + 3 + 80 < _; omega) hk ⟨F₁.keep _ _ hH1, F₁.keep _ _ hH2, N₁.get (.head _)⟩ TB₁ TO hlen ?_
  intro vs₂ n₂ h₂ tk₂ g₁ g₂ g₃
  have TB₂ : TblAt h₂ vs₂ (delT tb k) := TblAt.but (g₁ _ TB₁) (N₁.get (.head _)) g₂
  have hv2 : vs₂.length < 100 := by rw [TB₂.length]; exact Nat.lt_of_le_of_lt (delT_len ..) hlen
  have F₂ := fr_step F₁ (Ne.symm hL1) h0 g₂
  have N₂ := news_but N₁ (by simp) g₂ g₃
  clear F₁ N₁
  dsimp only
  have hsz' : vs₂.toArray.size ≤ 16777216 := by simp; omega
  walk_at "my_steps"
  rename Fr _ _ _ _ => F₁
  rename News _ _ _ _ => N₁
  refine convert_name_ok w (X.keeps F₁.keep) (T.keeps F₁.keep) (by show dp + 1 + 1 < _; omega) (by show un + 3 + 40 < _; omega) hk ?_
  intro h₃ tk₃ k₃
  replace F₁ := F₁.keeps k₃
  replace N₁ := N₁.grown k₃
  walk_at "my_steps"
  rename Fr _ _ _ _ => F₂
  rename News _ _ _ _ => N₂
  refine convert_body_ok w (X.keeps F₂.keep) (T.keeps F₂.keep) (by show dp + 1 + 1 < _; omega) (by show un + 3 + 40 < _; omega) hb ?_
  intro h₄ tk₄ k₄
  replace F₂ := F₂.keeps k₄
  replace N₂ := N₂.grown k₄
  walk_at "my_steps"
  rename Fr _ _ _ _ => F₃
  rename News _ _ _ _ => N₃
  rw [List.push_toArray] at N₃
  have kk : ∀ b o, b ≠ l → s.heap.get? b = some o → _ := fun b o hb e => F₃.keep _ _ (hid_get e (by simpa using hb))
  exact ret _ _ _ _ _ _ _ _ g₁ (N₃.get (.head _)) (fresh_hid N₃ (.head _) (by simpa using ne_cls (N₃.get (.head _)) (N₃.get (.tail _ (.head _))) (by show Value.type _ ≠ Value.type _; decide))) kk (N₃.get (.tail _ (.head _)))


end
section
theorem get_d_ok (w : World) {mean : ExcName → Option Value} {mg mb : Str → Option Value} {dp un : Nat} {fr : Option (List Env)} {gd : Option (List Code)} {s : Shared} {k : Nat} {t : Tok} {Q E : Value → Shared → Prop}
    {hd d l : Addr} {hs : Int} {tk : Tok} {vs : List Value} {n : Nat} {tb : Tbl}
    (X : (Mine.hd.heap_39 w.params).In s.heap) (T : Top Mine.hd.view_39 LO mean mg mb s.heap) (hdp : dp + 2 < recursionLimit) (hu : un + 80 < cLine) (hk : k ∈ nms)
    (H : HeadAt s.heap hd d l hs tk vs n) (TB : TblAt s.heap vs tb) (TO : TblOk tb)
    (ret : ∀ (v : Value) (h' : Heap) (tk' : Nat), (match getT tb k with | some b => ∃ t, v = .str (tx b) t | none => v = .none) → Kp s.heap h' → Q v { s with heap := h', toks := tk' }) :
    wpAny (model PySem.Challenge.rw_pm0053_01.row.prog w) (AR dp un fr gd) (call (.ref 134) [.ref hd, .str (sg k) t]) Q E s := by
  revert X T
  k_fill
  intro X T
  k_dflt (refine' enter [(Str.ofString "self", Value.ref hd), (Str.ofString "name", Value.str (sg k) t), (Str.ofString "default", .none)] ?k3 ?k5 ?k6 ?k7 ?k8 ?k9 ?kB ?_ ?c2 ?c3 ?c4 ?c5)
  (case k3 => assumption); (case k5 => assumption); (case k6 => k_is); (case k7 => k_is); (case k8 => (dsimp only [AR, Around.deeper]; omega)); (case k9 => exact fun _ => rfl); (case c5 => decide); (case kB => exact rfl); (case c2 => exact rfl); (case c3 => exact rfl); (case c4 => exact rfl); k_whole; intro L' h' F' N'; (try dsimp only)
  try k_fold
  obtain ⟨hlow, hlow2, hlk, hlk2⟩ := low_nms k hk
  have hH1 := H.inst
  have hH2 := H.dict
  have hH3 := H.list
  walk_at "my_steps"
  rename Fr _ _ _ _ => F₁
  rename News _ _ _ _ => N₁
  refine convert_name_ok w (X.keeps F₁.keep) (T.keeps F₁.keep) (by show dp + 1 + 1 < _; omega) (by show un + 3 + 40 < _; omega) hlk ?_
  intro h₂ tk₂ k₂
  replace F₁ := F₁.keeps k₂
  replace N₁ := N₁.grown k₂
  walk_at "my_steps"
  rename Fr _ _ _ _ => F₂
  rename News _ _ _ _ => N₂
  refine for_list (τ := Unit) F₂ (fun _ => []) (fun i m _ => m (Str.ofString "self") = some (.ref hd) ∧ (∃ t, m (Str.ofString "name") = some (.str (sg (lw k)) t)) ∧ m (Str.ofString "default") = some .none ∧ ∀ e ∈ tb.take i, lw e.1 ≠ lw k)
    () l vs n rfl rfl (fun _ => rfl) (.inl hH3) ?_ N₂ ?_ ?_ ?_
  · walk_at "my_steps"
  · exact ⟨by walk_at "my_lk", ⟨_, by walk_at "my_lk"⟩, by walk_at "my_lk", fun e h => by simp at h⟩
  · rintro i v m _ h tk It oI hv ⟨h1, ⟨t2, h2⟩, h3, h4⟩ hne F N
    obtain ⟨e, he, a, u1, u2, n2, rfl, ha⟩ := paired_get TB hv
    have hT : IsTup h a #[.str (tx [e.1]) u1, .str (tx e.2) u2] := ⟨_, F.keep _ _ ha, rfl, _, rfl⟩
    obtain ⟨g1, g2, g3, g4⟩ := low_nms e.1 (TO e (List.mem_of_getElem? he)).1
    walk_at "my_steps"
    · rename_i hc
      rw [sg_eq] at hc
      refine ret _ _ _ ?_ (Fr.keep (by assumption))
      rw [getT_hit he (by simpa using hc) h4]
      exact ⟨_, rfl⟩
    · rename_i hc
      rw [sg_eq] at hc
      rename Fr _ _ _ _ => F₃
      rename News _ _ _ _ => N₃
      exact ⟨_, (), _, _, rfl, ⟨by walk_at "my_lk", ⟨_, by walk_at "my_lk"⟩, by walk_at "my_lk", take_succ_all h4 he (by simpa using hc)⟩, F₃, N₃, fun _ h => nomatch h⟩
  · rintro m _ h tk ⟨h1, _, h3, h4⟩ F N
    have hlen : vs.length = tb.length := TB.length
    rw [hlen, List.take_length] at h4
    dsimp only
    walk_at "my_steps"
    refine ret _ _ _ ?_ (Fr.keep (by assumption))
    rw [getT_miss h4]

def setdT (tb : Tbl) (k : Nat) (b : List Nat) : Tbl × List Nat := match getT tb k with
  | some c => (tb, c)
  | none => (tb ++ [(k, b)], b)
theorem setdefault_ok (w : World) {mean : ExcName → Option Value} {mg mb : Str → Option Value} {dp un : Nat} {fr : Option (List Env)} {gd : Option (List Code)} {s : Shared} {k : Nat} {t u : Tok} {b : List Nat} {E : Value → Shared → Prop} {Q : Value → Shared → Prop}
    {hd d l : Addr} {hs : Int} {tk : Tok} {vs : List Value} {n : Nat} {tb : Tbl}
    (X : (Mine.hd.heap_39 w.params).In (hid s.heap [(l, listOf vs.toArray n)])) (T : Top Mine.hd.view_39 LO mean mg mb (hid s.heap [(l, listOf vs.toArray n)])) (hdp : dp + 3 < recursionLimit) (hu : un + 120 < cLine) (hk : k ∈ nms) (hb : b ∈ bodies)
    (H : HeadAt s.heap hd d l hs tk vs n) (TB : TblAt s.heap vs tb) (TO : TblOk tb) (hlen : tb.length < 100)
    (ret1 : ∀ (c : List Nat) (t : Tok) (h' : Heap) (tk' : Nat), getT tb k = some c → Kp s.heap h' → Q (.str (tx c) t) { s with heap := h', toks := tk' })
    (ret2 : ∀ (a : Addr) (t t1 t2 : Tok) (nn n' : Nat) (h' : Heap) (tk' : Nat), getT tb k = none → h'.get? a = some (pairObj (tx [k]) (tx b) t1 t2 nn) → s.heap.get? a = none →
      (∀ b o, b ≠ l → s.heap.get? b = some o → h'.get? b = some o) → h'.get? l = some (listOf (vs ++ [Value.ref a]).toArray n') → Q (.str (tx b) t) { s with heap := h', toks := tk' }) :
    wpAny (model PySem.Challenge.rw_pm0053_01.row.prog w) (AR dp un fr gd) (call (.ref 177) [.ref hd, .str (sg k) t, .str (tx b) u]) Q E s := by
  revert X T
  k_fill
  intro X T
  refine wpAny_call ?_
  have hmu : ∀ p ∈ [(l, listOf vs.toArray n)], s.heap.get? p.1 = some p.2 := fun p hp => by rw [List.mem_singleton.mp hp]; exact H.list
  k_dflt (refine' enterM [(l, listOf vs.toArray n)] hmu [(Str.ofString "self", Value.ref hd), (Str.ofString "name", Value.str (sg k) t), (Str.ofString "value", Value.str (tx b) u)] ?k3 ?k5 ?k6 ?k7 ?k8 ?k9 ?kB ?_ ?c2 ?c3 ?c4 ?c5)
  (case k3 => assumption); (case k5 => assumption); (case k6 => k_is); (case k7 => k_is); (case k8 => (dsimp only [AR, Around.deeper]; omega)); (case k9 => exact fun _ => rfl); (case c5 => decide); (case kB => exact rfl); (case c2 => exact rfl); (case c3 => exact rfl); (case c4 => exact rfl); k_whole; intro L' h' F' N'; (try dsimp only)
  try k_fold
  have e1 : hd ≠ l := by rintro rfl; have := H.inst.symm.trans H.list; cases this
  have e2 : d ≠ l := ne_cls H.dict H.list (by show Value.type _ ≠ Value.type _; decide)
  have hH1 := hid_get H.inst (mu := [(l, listOf vs.toArray n)]) (by simpa using e1)
  have hH2 := hid_get H.dict (mu := [(l, listOf vs.toArray n)]) (by simpa using e2)
  have hv2 : vs.length < 100 := by rw [TB.length]; exact hlen
  have hsz' : vs.toArray.size ≤ 16777216 := by simp; omega
  walk_at "my_steps"
  rename Fr _ _ _ _ => F₁
  rename News _ _ _ _ => N₁
  have TB₁ : TblAt h' vs tb := TB.but H.list fun b o hb e => F₁.keep _ _ (hid_get e (by simpa using hb))
  refine get_d_ok w (X.keeps F₁.keep) (T.keeps F₁.keep) (by show dp + 1 + 2 < _; omega) (by show un + 3 + 80 < _; omega) hk ⟨F₁.keep _ _ hH1, F₁.keep _ _ hH2, N₁.get (.head _)⟩ TB₁ TO ?_
  intro v h₂ tk₂ hv k₂
  replace F₁ := F₁.keeps k₂
  replace N₁ := N₁.grown k₂
  have kk : ∀ b o, b ≠ l → s.heap.get? b = some o → h₂.get? b = some o := fun b o hb e => F₁.keep _ _ (hid_get e (by simpa using hb))
  cases hg : getT tb k with
  | some c =>
    rw [hg] at hv
    obtain ⟨t₂, rfl⟩ := hv
    walk_at "my_steps"
    rename Fr _ _ _ _ => F₃
    rename News _ _ _ _ => N₃
    refine ret1 c _ _ _ hg fun b o e => ?_
    by_cases hb : b = l
    · subst hb
      rw [H.list] at e; cases e
      exact N₃.get (.head _)
    · exact F₃.keep _ _ (hid_get e (by simpa using hb))
  | none =>
    rw [hg] at hv
    dsimp only at hv
    subst hv
    walk_at "my_steps"
    rename Fr _ _ _ _ => F₁
    rename News _ _ _ _ => N₁
    refine convert_name_ok w (X.keeps F₁.keep) (T.keeps F₁.keep) (by show dp + 1 + 1 < _; omega) (by show un + 3 + 40 < _; omega) hk ?_
    intro h₃ tk₃ k₃
    replace F₁ := F₁.keeps k₃
    replace N₁ := N₁.grown k₃
    walk_at "my_steps"
    rename Fr _ _ _ _ => F₂
    rename News _ _ _ _ => N₂
    refine convert_body_ok w (X.keeps F₂.keep) (T.keeps F₂.keep) (by show dp + 1 + 1 < _; omega) (by show un + 3 + 40 < _; omega) hb ?_
    intro h₄ tk₄ k₄
    replace F₂ := F₂.keeps k₄
    replace N₂ := N₂.grown k₄
    walk_at "my_steps"
    rename Fr _ _ _ _ => F₃
    rename News _ _ _ _ => N₃
    rw [List.push_toArray] at N₃
    clear kk
    have kk : ∀ b o, b ≠ l → s.heap.get? b = some o → _ := fun b o hb e => F₃.keep _ _ (hid_get e (by simpa using hb))
    exact ret2 _ _ _ _ _ _ _ _ hg (N₃.get (.head _)) (fresh_hid N₃ (.head _) (by simpa using ne_cls (N₃.get (.head _)) (N₃.get (.tail _ (.head _))) (by show Value.type _ ≠ Value.type _; decide))) kk (N₃.get (.tail _ (.head _)))

end
section
theorem rangePick {vs : List Value} {m : Nat} (hm : m ≤ vs.length) : ((sliceRange 0 (m : Int) 1).filterMap (vs.toArray[·]?)) = vs.take m := by
  have e1 : sliceRange 0 (m : Int) 1 = List.range m := by
    unfold sliceRange
    simp only [show (1 : Int) > 0 from by decide, if_true]
    have : (if (0 : Int) < (m : Int) then ((m : Int) - 0 + 1 - 1) / 1 else 0) = (m : Int) := by split <;> omega
    rw [this, Int.toNat_natCast]
    refine (List.map_congr_left (g := id) fun k _ => ?_).trans (List.map_id _)
    simp
  rw [e1]
  clear e1
  induction m with
  | zero => simp
  | succ m ih =>
    rw [List.range_succ, List.filterMap_append, ih (by omega), List.take_add_one]
    cases e : vs[m]? <;> simp [e]
theorem slicePick_all (vs : List Value) : slicePick vs.toArray none none none = vs.toArray := by
  unfold slicePick
  have e : sliceBounds none none none vs.toArray.size = (0, (vs.length : Int), 1) := by simp [sliceBounds]
  rw [e]; dsimp only
  rw [rangePick (Nat.le_refl _), List.take_length]
theorem slicePick_take (vs : List Value) (k : Nat) : slicePick vs.toArray none (some (k : Int)) none = (vs.take k).toArray := by
  unfold slicePick
  have e : sliceBounds none (some (k : Int)) none vs.toArray.size = (0, ((min k vs.length : Nat) : Int), 1) := by simp [sliceBounds]; omega
  rw [e]; dsimp only
  rw [rangePick (by omega)]
  congr 1
  rcases Nat.le_total k vs.length with h | h
  · rw [Nat.min_eq_left h]
  · rw [Nat.min_eq_right h, List.take_length, List.take_of_length_le h]
section
variable {prog : Program} {w : World} {A : Around} {E : Value → Shared → Prop} {s : Shared}
theorem tail_slice {value : Expr} {lo up : Option Expr} {p : Pos} {o i : Value} {T id : String} {Q : Value → Shared → Prop} (hT : s.TypeIs o T)
    (hl : typeLookup (.type T) "__getitem__" = pure (some (.builtin id))) (h : wpAny (model prog w) A (getItem o i) Q E s)
    (ht : ∀ r, letTemporaryGo value o r = pure () := by intro _; with_unfolding_all rfl) :
    wpAny (model prog w) A (subscriptTail value (.Slice lo up none p) o i) Q E s := by
  unfold subscriptTail
  refine wpAny_bind ?_
  rw [getitemInPython_of_ne hT.not_modules]
  refine wpAny_bind (wpAny_specialOf hT hl ?_)
  have fin : wpAny (model prog w) A (subscripted (.Slice lo up none p) false o i) (fun r s₃ => wpAny (model prog w) A (letTemporaryGo value o r >>= fun _ => pure r) Q E s₃) E s :=
    wpAny_operating (vs := [i, o]) (wpAny_mono h (fun r s₃ h₃ => wpAny_bind (wpAny_of_eq (ht r) (wpAny_pure h₃))) fun _ _ x => x)
  first
    | exact wpAny_pure (wpAny_bind fin)
    | exact wpAny_bind (wpAny_pure (wpAny_bind fin))
    | exact wpAny_bind fin
theorem lslice_all {value : Expr} {p : Pos} {l sl : Addr} {vs : List Value} {Q : Value → Shared → Prop} (hl : s.heap.IsList l vs.toArray) (hs : s.heap.IsSliceOf sl .none .none .none) (hsz : vs.length < 1000000)
    (h : Q (.ref s.heap.objs.size) { s with heap := s.heap.push (listOf vs.toArray 0) }) (ht : ∀ r, letTemporaryGo value (.ref l) r = pure () := by intro _; with_unfolding_all rfl) : wpAny (model prog w) A (subscriptTail value (.Slice none none none p) (.ref l) (.ref sl)) Q E s :=
  tail_slice hl.typeIs slot_list_getitem.lookup (wpAny_getItem_list_slice hl hs .none .none .none (by simp) (by rw [slicePick_all]; exact h) (by simp [sizeLine_eq]; omega)) ht
theorem lslice_take {value e : Expr} {p : Pos} {l sl : Addr} {vs : List Value} {k : Nat} {u : Tok} {Q : Value → Shared → Prop} (hl : s.heap.IsList l vs.toArray) (hs : s.heap.IsSliceOf sl .none (.int k u) .none) (hsz : vs.length < 1000000)
    (h : Q (.ref s.heap.objs.size) { s with heap := s.heap.push (listOf (vs.take k).toArray 0) }) (ht : ∀ r, letTemporaryGo value (.ref l) r = pure () := by intro _; with_unfolding_all rfl) : wpAny (model prog w) A (subscriptTail value (.Slice none (some e) none p) (.ref l) (.ref sl)) Q E s :=
  tail_slice hl.typeIs slot_list_getitem.lookup (wpAny_getItem_list_slice hl hs .none (.int _ _) .none (by simp) (by rw [slicePick_take]; exact h) (by simp [sizeLine_eq]; omega)) ht
end
theorem items_ok (w : World) {mean : ExcName → Option Value} {mg mb : Str → Option Value} {dp un : Nat} {fr : Option (List Env)} {gd : Option (List Code)} {s : Shared} {Q E : Value → Shared → Prop}
    {hd d l : Addr} {hs : Int} {tk : Tok} {vs : List Value} {n : Nat}
    (X : (Mine.hd.heap_39 w.params).In s.heap) (T : Top Mine.hd.view_39 LO mean mg mb s.heap) (hdp : dp + 2 < recursionLimit) (hu : un + 80 < cLine)
    (H : HeadAt s.heap hd d l hs tk vs n) (hlen : vs.length < 100)
    (ret : ∀ (r : Addr) (n' : Nat) (h' : Heap) (tk' : Nat), h'.get? r = some (listOf vs.toArray n') → s.heap.get? r = none → Kp s.heap h' → Q (.ref r) { s with heap := h', toks := tk' }) :
    wpAny (model PySem.Challenge.rw_pm0053_01.row.prog w) (AR dp un fr gd) (call (.ref 151) [.ref hd]) Q E s := by
  revert X T
  k_fill
  intro X T
  k_dflt (refine' enter [(Str.ofString "self", Value.ref hd)] ?k3 ?k5 ?k6 ?k7 ?k8 ?k9 ?kB ?_ ?c2 ?c3 ?c4 ?c5)
  (case k3 => assumption); (case k5 => assumption); (case k6 => k_is); (case k7 => k_is); (case k8 => (dsimp only [AR, Around.deeper]; omega)); (case k9 => exact fun _ => rfl); (case c5 => decide); (case kB => exact rfl); (case c2 => exact rfl); (case c3 => exact rfl); (case c4 => exact rfl); k_whole; intro L' h' F' N'; (try dsimp only)
  try k_fold
  have hH1 := H.inst
  have hH2 := H.dict
  have hH3 := H.list
  walk_at "my_steps"
  rename Fr _ _ _ _ => F₁
  dsimp only
  refine lslice_all ⟨_, Heap.get?_push_of_some _ (F₁.keep _ _ hH3), rfl, _, rfl⟩ ⟨_, Heap.get?_push_size _ rfl, rfl, rfl⟩ (by omega) ?_
  exact ret _ 0 _ _ (Heap.get?_push_size _ rfl) (size_fresh fun b o e => Heap.get?_push_of_some _ (F₁.keep _ _ e)) fun b o e => Heap.get?_push_of_some _ (Heap.get?_push_of_some _ (F₁.keep _ _ e))

end
section
theorem rangePickG {α : Type} {vs : List α} {m : Nat} (hm : m ≤ vs.length) : ((sliceRange 0 (m : Int) 1).filterMap (vs.toArray[·]?)) = vs.take m := by
  have e1 : sliceRange 0 (m : Int) 1 = List.range m := by
    unfold sliceRange
    simp only [show (1 : Int) > 0 from by decide, if_true]
    have : (if (0 : Int) < (m : Int) then ((m : Int) - 0 + 1 - 1) / 1 else 0) = (m : Int) := by split <;> omega
    rw [this, Int.toNat_natCast]
    refine (List.map_congr_left (g := id) fun k _ => ?_).trans (List.map_id _)
    simp
  rw [e1]
  clear e1
  induction m with
  | zero => simp
  | succ m ih =>
    rw [List.range_succ, List.filterMap_append, ih (by omega), List.take_add_one]
    cases e : vs[m]? <;> simp [e]
theorem item_tx_eq {l : List Nat} {k : Int} (h0 : 0 ≤ k) (h1 : k < l.length) : Txt.item (tx l) k = sg (l.getD k.toNat 0) := by
  obtain ⟨j, rfl⟩ := Int.eq_ofNat_of_zero_le h0
  have hj : j < l.length := by omega
  have e : seqIndex? (j : Int) (tx l).length = some j := by
    unfold seqIndex?
    rw [tx_len]
    simp only [show ¬ ((j : Int) < 0) from by omega, if_false]
    rw [if_pos (by simp; omega)]
    rfl
  unfold Txt.item Txt.charAt
  rw [e]
  simp [hj]
theorem item_tx {prog : Program} {w : World} {A : Around} {E : Value → Shared → Prop} {s : Shared} {value slice : Expr} {l : List Nat} {t u : Tok} {k : Int} {Q : Value → Shared → Prop} (h0 : 0 ≤ k) (h1 : k < l.length) (hl : l.length < 1000) (h : Q (.str (sg (l.getD k.toNat 0)) s.toks) { s with toks := s.toks + 1 })
    (hs : subscripted slice false (.str (tx l) t) (.int k u) = operate [.str (tx l) t, .int k u] (getItem (.str (tx l) t) (.int k u)) := by with_unfolding_all rfl)
    (ht : ∀ r, letTemporaryGo value (.str (tx l) t) r = pure () := by intro _; with_unfolding_all rfl) :
    wpAny (model prog w) A (subscriptTail value slice (.str (tx l) t) (.int k u)) Q E s :=
  KXi.item (tx_len l) (by omega) h1 (by omega) (fun _ => by rw [item_tx_eq h0 h1]; exact h) hs ht
theorem slice_tx {l : List Nat} {k : Int} (h0 : 0 ≤ k) : Txt.slice (tx l) none (some k) = tx (l.take k.toNat) := by
  obtain ⟨j, rfl⟩ := Int.eq_ofNat_of_zero_le h0
  have hm : min j l.length ≤ l.length := Nat.min_le_right ..
  have e : Builtin.Str.strSliceIndices none (some (j : Int)) 1 (tx l).length = sliceRange 0 ((min j l.length : Nat) : Int) 1 := by
    rw [tx_len]
    unfold Builtin.Str.strSliceIndices
    simp
    congr 1
    omega
  have e2 : (sliceRange 0 ((min j l.length : Nat) : Int) 1).filterMap ((tx l).cps[·]?) = l.take (min j l.length) := rangePickG hm
  have e3 : l.take (min j l.length) = l.take j := by rw [Nat.min_comm, List.take_eq_take_iff]; omega
  unfold Txt.slice
  rw [e, e2, e3]
  split
  · rename_i h
    have h3 : (sliceRange 0 ((min j l.length : Nat) : Int) 1).length = min j l.length := by
      unfold sliceRange; simp
      split <;> omega
    rw [h3, tx_len] at h
    have : l.length ≤ j := by simp at h; omega
    rw [Int.toNat_natCast, List.take_of_length_le this]
  · rfl
theorem glue_tx (acc : Array Nat) : ∀ ls : List (List Nat), (ls.map tx).foldl (fun acc p => acc ++ (Str.ofString "").cps ++ p.cps) acc = acc ++ ls.flatten.toArray := by
  intro ls
  induction ls generalizing acc with
  | nil => simp
  | cons a r ih =>
    rw [List.map_cons, List.foldl_cons, ih]
    have : (Str.ofString "").cps = #[] := by decide
    rw [this]
    simp
theorem join_tx (ls : List (List Nat)) : Txt.join (Str.ofString "") (ls.map tx) = tx ls.flatten := by
  unfold Txt.join Builtin.Str.glued
  cases ls with
  | nil => rfl
  | cons a r =>
    have : ((a :: r).map tx).drop 1 = r.map tx := by simp
    rw [this, glue_tx]
    simp
theorem join_ok {prog : Program} {w : World} {A : Around} {E : Value → Shared → Prop} {s : Shared} {D : Addr} {t : Tok} {ys : List Value} {ls : List (List Nat)} {Q : Value → Shared → Prop} (hl : s.heap.IsList D ys.toArray) (hi : Paired (fun (l : List Nat) v => ∃ u, v = .str (tx l) u) ls ys) (hn : ls.length < 100) (hb : ∀ l ∈ ls, l.length < 1000)
    (h : ∀ t' k, Q (.str (tx ls.flatten) t') { s with toks := k }) : wpAny (model prog w) A (call (.builtin "str.join") [.str (Str.ofString "") t, .ref D]) Q E s := by
  have hS : StrsAre ys (ls.map tx) := by
    clear hl hn hb h
    induction hi with
    | nil => exact .nil
    | cons e _ ih => obtain ⟨u, rfl⟩ := e; exact .cons _ _ ih
  refine join_listW hl (by simpa using hS) (by decide) ?_ (fun t' k => by rw [join_tx]; exact h t' k)
  have : ((ls.map tx).map (·.length)).sum ≤ ls.length * 1000 := by
    clear h hS hi hl hn
    induction ls with
    | nil => simp
    | cons a r ih =>
      have := ih fun l hl => hb l (.tail _ hl)
      have h2 := hb a (.head _)
      simp only [List.map_cons, List.sum_cons, List.length_cons, tx_len]
      omega
  rw [List.length_map]
  omega
theorem len_tx {prog : Program} {w : World} {A : Around} {E : Value → Shared → Prop} {s : Shared} {l : List Nat} {t : Tok} {Q : Value → Shared → Prop} (hl : l.length < 1000) (h : Q (.int l.length (s.toks + 1)) { s with toks := s.toks + 1 + 1 }) : wpAny (model prog w) A (call (.builtin "len") [.str (tx l) t]) Q E s := by
  have e : (tx l).length = l.length := tx_len l
  refine len_str (by rw [e]; omega) ?_
  rw [e]
  exact h

end
local macro_rules | `(tactic| walk_at "call builtin:len") => `(tactic| (k_here; (with_reducible show wpAny _ _ (call (Value.builtin "len") [Value.str _ _]) _ _ _); k_dflt (refine' len_tx ?l ?_; (case l => walk_at "my_ar"); k_whole)))
local macro_rules | `(tactic| walk_at "subscriptTail") => `(tactic| (k_here; (with_reducible show wpAny _ _ (subscriptTail _ _ (Value.str (Str.mk (List.toArray _)) _) (Value.int _ _)) _ _ _); k_dflt (refine' item_tx ?a ?b ?c ?_ ?d; (case a => walk_at "my_ar"); (case b => walk_at "my_ar"); (case c => walk_at "my_ar"); (case d => with_unfolding_all rfl); k_whole)))
section
theorem headers_ok (w : World) {mean : ExcName → Option Value} {mg mb : Str → Option Value} {dp un : Nat} {fr : Option (List Env)} {gd : Option (List Code)} {s : Shared} {Q E : Value → Shared → Prop}
    {h₀ : Heap} {L : Addr} {m : Str → Option Value} {news : List (Addr × Obj)} (F : Fr h₀ L s.heap m) (N : News h₀ L s.heap news)
    (X : (Mine.hd.heap_39 w.params).In h₀) (T : Top Mine.hd.view_39 LO mean mg mb h₀) (hdp : dp + 2 < recursionLimit) (hu : un + 80 < cLine)
    (ret : ∀ (hd d l : Addr) (hs : Int) (tk : Tok) (n : Nat) (h' : Heap) (tk' : Nat), Fr h₀ L h' m → News h₀ L h' ((hd, instObj 187 d) :: (d, hdDict hs tk l) :: (l, listOf #[] n) :: news) → (∀ p ∈ news, p.1 < d) → d < hd → hd < l → Q (.ref hd) { s with heap := h', toks := tk' }) :
    wpAny (model PySem.Challenge.rw_pm0053_01.row.prog w) (AR dp un fr gd) (call (.ref 187) []) Q E s := by
  revert X T
  k_fill
  intro X T
  k_dflt (refine' call_cls (fI := 79) F X N ?a ?b ?c ?_)
  (case a => k_is); (case b => k_is); (case c => k_is)
  intro hd d h₁ F₁ N₁ hn hlt
  have hmu : ∀ p ∈ [(hd, instObj 187 d), (d, dictOf [] 0)], h₁.get? p.1 = some p.2 := fun p hp => (N₁ p (by simp only [List.mem_cons, List.not_mem_nil, or_false] at hp ⊢; rcases hp with h | h; exact .inl h; exact .inr (.inl h))).1
  have X₁ := kin_hid (mu := [(hd, instObj 187 d), (d, dictOf [] 0)]) X F₁ N₁ (by simp)
  have T₁ := T.keeps (stays_hid (mu := [(hd, instObj 187 d), (d, dictOf [] 0)]) F₁ N₁ (by simp))
  k_dflt (refine' enterM (s := ⟨h₁, _, _, _, _⟩) [(hd, instObj 187 d), (d, dictOf [] 0)] hmu [(Str.ofString "self", Value.ref hd), (Str.ofString "headers", Value.none)] ?k3 ?k5 ?k6 ?k7 ?k8 ?k9 ?kB ?_ ?c2 ?c3 ?c4 ?c5)
  (case k3 => exact X₁); (case k5 => exact T₁); (case k6 => k_is); (case k7 => k_is); (case k8 => (show dp + 1 < _; omega)); (case k9 => exact fun _ => rfl); (case c5 => decide); (case kB => exact rfl); (case c2 => exact rfl); (case c3 => exact rfl); (case c4 => exact rfl); k_whole; intro L' h' F' N'; (try dsimp only)
  try k_fold
  walk_at "my_steps"
  rename_i l₁ hh₁ hl hh₂ F' N'
  k_dflt (refine' set_dict ?k1 ?k2 ?k3 ?k4 ?k5 ?k6 ?k7 ?k8 ?k9 ?k10 ?k11 ?k12 ?k13 ?_)
  (case k1 => k_asm); (case k2 => k_asm); (case k3 => k_asm); (case k4 => k_inst); (case k5 => exact rfl); (case k6 => k_is); (case k7 => k_is); (case k8 => k_is); (case k9 => k_is); (case k10 => k_get); (case k11 => k_put)
  (case k12 => exact .tail (Nat.ne_of_gt hl.2) (.tail (Nat.ne_of_gt hlt) (.head (fun _ h => nomatch h))))
  (case k13 => exact Nat.le_of_ble_eq_true rfl)
  k_whole; intro h' F' N'; (try k_sweep)
  walk_at "my_steps"
  rename Fr _ _ _ _ => F₂
  rename News _ _ _ _ => N₂
  refine for_list (τ := Unit) F₂ (fun _ => _) (fun _ _ _ => True) () _ [] 0 rfl rfl (fun _ => rfl) (.inr fun _ => .head _) ?_ N₂ trivial ?_ ?_
  · walk_at "my_steps"
  · intro i v m c h tk It oI hv
    simp at hv
  · rintro m' _ h tk _ F N
    dsimp only
    walk_at "my_steps"
    refine ⟨rfl, ?_⟩
    have kk : ∀ b o, b ≠ hd → b ≠ d → h₁.get? b = some o → h.get? b = some o := fun b o hb hb' e => F.keep _ _ (hid_get e (by simpa using ⟨hb, hb'⟩))
    have st := stays_hid (mu := [(hd, instObj 187 d), (d, dictOf [] 0)]) F₁ N₁ (by simp)
    have L1 := (N₁ _ (.head _)).2
    have L2 := (N₁ _ (.tail _ (.head _))).2
    have L3 := (N _ (.head _)).2.2
    obtain ⟨hs₁, tk₁, hP⟩ : ∃ hs tk, h.get? d = some (hdDict hs tk l₁) := ⟨_, _, N.get (.tail _ (.tail _ (.head _)))⟩
    refine ret hd d l₁ hs₁ tk₁ 0 h _ ⟨F₁.ns.at fun o e => kk _ o (Ne.symm L1.1) (Ne.symm L2.1) e, fun b o e => F.keep _ _ (st b o e), F₁.above⟩ ?_ hn hlt hl.1
    intro p hp
    rcases List.mem_cons.mp hp with rfl | hp
    · exact ⟨N.get (.tail _ (.head _)), L1⟩
    rcases List.mem_cons.mp hp with rfl | hp
    · exact ⟨hP, L2⟩
    rcases List.mem_cons.mp hp with rfl | hp
    · refine ⟨N.get (.head _), ?_, ?_⟩
      · obtain ⟨o, es, ep, ho, _⟩ := F₁.ns.noRefKey
        intro e
        have := hid_get ho (mu := [(hd, instObj 187 d), (d, dictOf [] 0)]) (by simpa using ⟨Ne.symm L1.1, Ne.symm L2.1⟩)
        rw [← e] at this
        exact nomatch L3.symm.trans this
      · cases e : h₀.get? _ with
        | none => rfl
        | some o => exact nomatch L3.symm.trans (st _ _ e)
    · have := N₁ _ (.tail _ (.tail _ hp))
      exact ⟨kk _ _ (Nat.ne_of_lt (Nat.lt_trans (hn _ hp) hlt)) (Nat.ne_of_lt (hn _ hp)) this.1, this.2⟩

end
section
theorem news_tail {h₀ h : Heap} {L : Addr} {p : Addr × Obj} {S : List (Addr × Obj)} (N : News h₀ L h (p :: S)) : News h₀ L h S := fun q hq => N q (.tail _ hq)
section
variable {prog : Program} {w : World} {A : Around} {s : Shared} {env : Env}
/-- the loop over a list, from the walk of it on -/
theorem for_list_at {τ : Type} {h₀ : Heap} {L : Addr} {m₀ : Str → Option Value} (F₁ : Fr h₀ L s.heap m₀) (S : τ → List (Addr × Obj)) (J : Nat → (Str → Option Value) → τ → Prop) (c₀ : τ) (l : Addr) (vs : List Value) (n : Nat) {Q : Flow → Shared → Prop} {ER E : Value → Shared → Prop} {target : Expr} {body : List Stmt}
    (hL : env.locals = L) (hh : A.handled = none) (hl : h₀.get? l = some (listOf vs.toArray n) ∨ ∀ c, (l, listOf vs.toArray n) ∈ S c)
    (N₁ : News h₀ L s.heap (S c₀)) (hj : J 0 m₀ c₀)
    (turn : ∀ i v m c h tk It oI, vs[i]? = some v → J i m c → (∀ p ∈ S c, p.1 ≠ It) → Fr h₀ L h m → News h₀ L h ((It, oI) :: S c) →
        wpAny (model prog w) A (assign target env v) (fun _ s₂ => wpAny (model prog w) A (execs body env) (TurnM h₀ L S (J (i + 1)) It oI { s with heap := h, toks := tk } Q) (fun _ _ => False) s₂) (fun _ _ => False) { s with heap := h, toks := tk })
    (done : ∀ m c h tk, J vs.length m c → Fr h₀ L h m → News h₀ L h (S c) → Q .next { s with heap := h, toks := tk }) :
    wpAny (model prog w) A (pyIter (.ref l)) (fun it s₂ => codeAny (model prog w) A (.forLoop target it body [] env) (fun r s' => match r with | .ok f => Q f s' | .error e => ER e s') s₂) E s := by
  subst hL
  have hol : s.heap.get? l = some (listOf vs.toArray n) := hl.elim (fun e => F₁.keep _ _ e) fun e => (N₁ _ (e c₀)).1
  have hls : s.heap.IsList l vs.toArray := ⟨_, hol, rfl, n, rfl⟩
  have hne : l ≠ s.heap.objs.size := Nat.ne_of_lt (Heap.lt_size hol)
  refine wpAny_pyIter_list hls ?_
  have W := Walks.list (prog := prog) (w := w) hh s.heap.objs.size l hne vs.toArray
  have hsz : vs.toArray.size = vs.length := by simp
  rw [hsz] at W
  refine loop_led (fun c : (Str → Option Value) × τ => S c.2) (fun c => c.1) (fun i c => J i c.1 c.2) (m₀, c₀) (s := { s with heap := s.heap.push _ }) W ⟨⟨_, Heap.get?_push_size _ rfl, rfl, rfl⟩, hls.push _⟩ (fun _ _ _ _ st _ q => list_iter_pure st.1 q) (Nat.ne_of_lt F₁.ns.lt) (fresh_none F₁) (fun _ _ st => let ⟨⟨o, ho, _⟩, _⟩ := st; ⟨o, ho⟩)
    ?_ (F₁.push _) (news_push1 F₁ N₁ _) (news_ne_size N₁) hj ?_ (fun c h tk a b d => done c.1 c.2 h tk a b d)
  · intro b hb hbn
    have : b = l := by
      rcases List.mem_cons.mp hb with e | hb
      · exact absurd e hbn
      · simpa using hb
    subst this
    exact hl.elim (fun e => .inl ⟨_, e⟩) fun e => .inr ⟨_, fun c => e c.2⟩
  · rintro i v c h tk oI _ hv hJ hne' F' N'
    have hv' : vs[i]? = some v := by simpa using hv
    exact wpAny_mono (turn i v c.1 c.2 h tk _ oI hv' hJ hne' F' N') (fun _ s₂ h₂ => wpAny_mono h₂ (fun f s₃ h₃ => h₃.toP ⟨_, _, rfl⟩) fun _ _ e => e) fun _ _ e => e
theorem lslice_takeN {h₀ : Heap} {L : Addr} {m : Str → Option Value} {news : List (Addr × Obj)} {E : Value → Shared → Prop} {value e : Expr} {p : Pos} {l : Addr} {vs : List Value} {k : Int} {u : Tok} {Q : Value → Shared → Prop} (F : Fr h₀ L s.heap m) (N : News h₀ L s.heap news) (hl : s.heap.IsList l vs.toArray) (hsz : vs.length < 1000000) (hk : 0 ≤ k)
    (h : ∀ a h', Fr h₀ L h' m → News h₀ L h' ((a, listOf (vs.take k.toNat).toArray 0) :: news) → (∀ p ∈ news, p.1 < a) → Q (.ref a) { s with heap := h' }) (ht : ∀ r, letTemporaryGo value (.ref l) r = pure () := by intro _; with_unfolding_all rfl) :
    wpAny (model prog w) A (subscriptTail value (.Slice none (some e) none p) (.ref l) (.ref s.heap.objs.size)) Q E { s with heap := s.heap.push { cls := .type "slice", data := .fields #[.none, .int k u, .none] } } := by
  obtain ⟨j, rfl⟩ := Int.eq_ofNat_of_zero_le hk
  refine lslice_take (hl.push _) ⟨_, Heap.get?_push_size _ rfl, rfl, rfl⟩ hsz (h _ _ ((F.push _).push _) (News.push (F.push _) (N.pushKeep _) _) fun p hp => ?_) ht
  have := Heap.lt_size (N _ hp).1
  rw [Heap.size_push]
  exact Nat.lt_succ_of_lt this
end
theorem sl_abc {r : Int} (h0 : 0 ≤ r) (h4 : r < 4) : Txt.slice (Str.ofString "abc") none (some r) = tx ([97, 98, 99].take r.toNat) := by
  have : r = 0 ∨ r = 1 ∨ r = 2 ∨ r = 3 := by omega
  rcases this with rfl | rfl | rfl | rfl <;> decide +kernel
theorem sl_ABC {r : Int} (h0 : 0 ≤ r) (h4 : r < 4) : Txt.slice (Str.ofString "ABC") none (some r) = tx ([65, 66, 67].take r.toNat) := by
  have : r = 0 ∨ r = 1 ∨ r = 2 ∨ r = 3 := by omega
  rcases this with rfl | rfl | rfl | rfl <;> decide +kernel
theorem opq {M : Model} {A : Around} {α : Type} {m : Sem α} {s : Shared} {P : α → Shared → Prop} {E : Value → Shared → Prop} (h : ∀ P' : α → Shared → Prop, (∀ v s₁, P v s₁ → P' v s₁) → wpAny M A m P' E s) : wpAny M A m P E s := h P fun _ _ x => x
theorem add_tx {prog : Program} {w : World} {A : Around} {E : Value → Shared → Prop} {s : Shared} {a b : List Nat} {x : Str} {t u : Tok} {Q : Value → Shared → Prop} (hx : x = tx a) (hz : a.length + b.length ≤ 1000) (h : ∀ t' k, Q (.str (tx (a ++ b)) t') { s with toks := k }) :
    wpAny (model prog w) A (binaryOp .Add (.str x t) (.str (tx b) u)) Q E s := by
  subst hx
  refine PySem.SB.add (hsz := ?z1) (fun t1 k1 => ?_)
  case z1 => rw [tx_len, tx_len, sizeLine_eq]; omega
  rw [tx_app]; exact h _ _
theorem ints_get {vs : List Value} {ns : List Int} (h : IntsAre vs ns) : ∀ {i : Nat} {v : Value}, vs[i]? = some v → ∃ x t, v = .int x t ∧ ns[i]? = some x := by
  induction h with
  | nil => intro i v e; simp at e
  | cons n t _ ih =>
    intro i v e
    cases i with
    | zero => cases e; exact ⟨_, _, rfl, rfl⟩
    | succ i => exact ih e
def signsOf (i : Nat) : List Nat := [48, 49] ++ [97, 98, 99].take i ++ [65, 66, 67].take i
def signAt (i : Nat) (y : Int) (t : Nat) : Nat := (signsOf i).getD (y / (3 * 8 ^ t) % 8 % (signsOf i).length).toNat 0
def bodyOf (i : Nat) (y : Int) : List Nat := (List.range (y % 3).toNat).map fun t => signAt i y t
/-- a deed: how, name, text -/
theorem signAt_eq (i : Nat) (y : Int) (t : Nat) : (signsOf i).getD (((y.fdiv (3 * 8 ^ ((t : Nat) : Int).toNat)).fmod 8).fmod ((signsOf i).length : Nat)).toNat 0 = signAt i y t := by
  have hl : (0 : Int) ≤ ((signsOf i).length : Nat) := by omega
  rw [Int.toNat_natCast, Int.fmod_eq_emod_of_nonneg _ hl, Int.fmod_eq_emod_of_nonneg _ (by decide), Int.fdiv_eq_ediv_of_nonneg _ (Int.mul_nonneg (by decide) (Int.pow_nonneg (by decide)))]
  rfl
theorem news_rot {h₀ h : Heap} {L : Addr} {p q1 q2 q3 q4 q5 : Addr × Obj} {tl : List (Addr × Obj)} (N : News h₀ L h (p :: q1 :: q2 :: q3 :: q4 :: q5 :: tl)) : News h₀ L h (q1 :: q2 :: q3 :: q4 :: q5 :: p :: tl) := by
  intro x hx
  simp only [List.mem_cons] at hx
  rcases hx with e | e | e | e | e | e | e <;> exact N x (by simp [e])
structure Deed where
  how : Nat
  name : Nat
  body : List Nat
def deedOf (x : Int) : Deed := ⟨(x / 4 % 4).toNat, 97 + (x % 4).toNat, bodyOf (x % 4).toNat (x / 16)⟩
abbrev deedObj (e : Deed) (t1 t2 t3 : Tok) (n : Nat) : Obj := listOf #[.int e.how t1, .str (sg e.name) t2, .str (tx e.body) t3] n
theorem deed_how {x : Int} : (x.fdiv 4).fmod 4 = (((deedOf x).how : Nat) : Int) := by
  show _ = (((x / 4 % 4).toNat : Nat) : Int)
  rw [Int.fdiv_eq_ediv_of_nonneg _ (by decide), Int.fmod_eq_emod_of_nonneg _ (by decide)]; omega
theorem deed_name {x r : Int} (h0 : 0 ≤ r) (h4 : r < 4) (hr : x.fmod 4 = r) : Txt.item (Str.ofString "abcd") r = sg (deedOf x).name := by
  show _ = sg (97 + (x % 4).toNat)
  rw [Int.fmod_eq_emod_of_nonneg _ (by decide)] at hr
  rw [hr]
  have : r = 0 ∨ r = 1 ∨ r = 2 ∨ r = 3 := by omega
  rcases this with rfl | rfl | rfl | rfl <;> decide +kernel
theorem deed_body {x r : Int} (hr : x.fmod 4 = r) : List.map (fun t => signAt r.toNat (x.fdiv 16) t) (List.range ((x.fdiv 16).fmod 3).toNat) = (deedOf x).body := by
  show _ = bodyOf (x % 4).toNat (x / 16)
  rw [← hr, Int.fmod_eq_emod_of_nonneg _ (by decide), Int.fmod_eq_emod_of_nonneg _ (by decide), Int.fdiv_eq_ediv_of_nonneg _ (by decide)]
  rfl
def DeedAt (h : Heap) (v : Value) (e : Deed) : Prop := ∃ a t1 t2 t3 n, v = .ref a ∧ h.get? a = some (deedObj e t1 t2 t3 n)
def DeedIn (tl : List (Addr × Obj)) (v : Value) (e : Deed) : Prop := ∃ a t1 t2 t3 n, v = .ref a ∧ (a, deedObj e t1 t2 t3 n) ∈ tl
def deedsOf (ns : List Int) : List Deed := ([416, 561, 1714, 371] ++ ns.take 6).map deedOf


/-- new objects of a callee -/
abbrev Fresh (h h' : Heap) (S : List (Addr × Obj)) : Prop := ∀ p ∈ S, h.get? p.1 = none ∧ h'.get? p.1 = some p.2
theorem fresh_of {h₀ h : Heap} {L : Addr} {S : List (Addr × Obj)} (N : News h₀ L h S) : Fresh h₀ h S := fun p hp => ⟨(N p hp).2.2, (N p hp).1⟩
theorem news_addS {h₀ h h' : Heap} {L : Addr} {m : Str → Option Value} {S S' : List (Addr × Obj)} (F : Fr h₀ L h m) (N : News h₀ L h S) (k : Kp h h') (f : Fresh h h' S') : News h₀ L h' (S ++ S') := by
  intro p hp
  rcases List.mem_append.mp hp with hp | hp
  · exact N.grown k p hp
  · obtain ⟨hn, hr⟩ := f p hp
    refine ⟨hr, fun e => ?_, ?_⟩
    · obtain ⟨oL, _, _, hoL, _⟩ := F.ns
      rw [show p.1 = L from e, hoL] at hn; cases hn
    · cases e : h₀.get? p.1 with
      | none => rfl
      | some o => rw [F.keep _ _ e] at hn; cases hn
theorem fresh_ne {h h' : Heap} {S' : List (Addr × Obj)} {a : Addr} {o : Obj} (f : Fresh h h' S') (e : h.get? a = some o) : ∀ p ∈ S', p.1 ≠ a := fun p hp h => by
  have := (f p hp).1
  rw [h, e] at this; cases this

end
section
structure Lst0 (h : Heap) (l : Addr) (vs : List Value) : Prop where
  is : h.IsList l vs.toArray
theorem deeds_ok (w : World) {mean : ExcName → Option Value} {mg mb : Str → Option Value} {dp un : Nat} {fr : Option (List Env)} {gd : Option (List Code)} {s : Shared} {Q E : Value → Shared → Prop}
    {l : Addr} {vs : List Value} {ns : List Int}
    (X : (Mine.hd.heap_39 w.params).In s.heap) (T : Top Mine.hd.view_39 LO mean mg mb s.heap) (hdp : dp + 2 < recursionLimit) (hu : un + 80 < cLine)
    (hl : Lst0 s.heap l vs) (hi : IntsAre vs ns) (hlen : vs.length < 100)
    (ret : ∀ (S : List (Addr × Obj)) (r : Addr) (vs' : List Value) (n' : Nat) (h' : Heap) (tk' : Nat), Fresh s.heap h' S → (r, listOf vs'.toArray n') ∈ S → Paired (DeedIn S) vs' (deedsOf ns) → Kp s.heap h' → Q (.ref r) { s with heap := h', toks := tk' }) :
    wpAny (model PySem.Challenge.rw_pm0053_01.row.prog w) (AR dp un fr gd) (call (.ref 196) [.ref l]) Q E s := by
  revert X T
  k_fill
  intro X T
  k_dflt (refine' enterC [(Str.ofString "script", Value.ref l)] ?k3 ?k5 ?k6 ?k7 ?k8 ?k9 ?kB ?kD ?_ ?c2 ?c3 ?c4)
  (case k3 => assumption); (case k5 => assumption); (case k6 => k_is); (case k7 => k_is); (case k8 => (dsimp only [AR, Around.deeper]; omega)); (case k9 => exact fun _ => rfl); (case kB => exact rfl); (case kD => decide +kernel); (case c2 => exact rfl); (case c3 => exact rfl); (case c4 => exact rfl); k_whole; intro L' h' tk' cells' F' N' Y'
  k_cells Y'
  try k_fold
  walk_at "my_steps"
  refine wpAny_For ?_ (fun _ => rfl)
  walk_at "my_steps"
  rename Fr _ _ _ _ => F₁
  rename News _ _ _ _ => N₁
  dsimp only
  k_dflt (refine' lslice_takeN (s := ⟨_, _, _, _, _⟩) F₁ N₁ ?a ?b (by decide) ?_)
  (case a => exact let ⟨o, ho, r⟩ := hl.is; ⟨o, F₁.keep _ _ ho, r⟩)
  (case b => omega)
  k_whole
  intro lS h₂ F₂ N₂ hlS
  clear F₁ N₁
  k_dflt (refine' kmk_add_lit F₂ N₂ ?a ?b ?c ?_ ?z)
  (case a => exact ⟨_, N₂.get (.tail _ (.head _)), rfl, _, rfl⟩); (case b => exact ⟨_, N₂.get (.head _), rfl, _, rfl⟩); (case c => exact rfl); (case z => simp [sizeLine_eq]; omega)
  k_whole
  intro lX h₃ F₃ N₃ hlX
  clear F₂ N₂
  rename_i oY oS dY dS lD hh1 l0 hh2 lN hh3 l1
  generalize hws : (#[Value.int 416 tk, Value.int 561 (tk + 1), Value.int 1714 (tk + 1 + 1), Value.int 371 (tk + 1 + 1 + 1)].toList ++ (List.take (Int.toNat 6) vs).toArray.toList) = ws at N₃
  have hI : IntsAre ws ([416, 561, 1714, 371] ++ ns.take 6) := by
    rw [← hws]
    exact (IntsAre.cons _ _ (.cons _ _ (.cons _ _ (.cons _ _ .nil)))).append (by simpa using hi.take 6)
  have hX : @LT.lt Nat _ lD lX := hlX (lD, listOf #[] 0) (by simp)
  have hX1 : @LT.lt Nat _ (L' + 1 + 1) lX := hlX (L' + 1 + 1, oY) (by simp)
  have hX2 : @LT.lt Nat _ (L' + 1) lX := hlX (L' + 1, oS) (by simp)
  have hD1 : @LT.lt Nat _ (L' + 1 + 1) lD := l0.1
  have hD2 : @LT.lt Nat _ (L' + 1) lD := l0.2
  have N₄ : News s.heap L' h₃ [(lX, listOf ws.toArray 0), (lD, listOf #[] 0), (L' + 1 + 1, oY), (L' + 1, oS)] := by
    intro p hp
    refine N₃ p ?_
    simp only [List.mem_cons, List.not_mem_nil, or_false] at hp ⊢
    rcases hp with h | h | h | h
    · exact .inl h
    · exact .inr (.inr (.inr (.inl h)))
    · exact .inr (.inr (.inr (.inr (.inl h))))
    · exact .inr (.inr (.inr (.inr (.inr h))))
  clear N₃ hlX l0 l1
  refine for_list_at (τ := Obj × Obj × List Value × Nat × List (Addr × Obj)) F₃ (fun c => (lX, listOf ws.toArray 0) :: (lD, listOf c.2.2.1.toArray c.2.2.2.1) :: (L' + 1 + 1, c.1) :: (L' + 1, c.2.1) :: c.2.2.2.2)
    (fun i m c => m (Str.ofString "deeds") = some (.ref lD) ∧ (∃ x, c.1.data = .cell x) ∧ (∃ x, c.2.1.data = .cell x) ∧ Paired (DeedIn c.2.2.2.2) c.2.2.1 ((([416, 561, 1714, 371] ++ ns.take 6).map deedOf).take i) ∧ (∀ p ∈ c.2.2.2.2, @LT.lt Nat _ lX p.1) ∧ i ≤ 10)
    (oY, oS, [], 0, []) lX ws 0 rfl rfl (.inr fun _ => .head _) N₄ ?_ ?_ ?_
  · exact ⟨by walk_at "my_lk", ⟨_, dY⟩, ⟨_, dS⟩, .nil, fun _ h => (nomatch h), by omega⟩
  · rintro i v m ⟨oY, oS, vs₁, n₁, tl⟩ h tk It oI hv ⟨h1, ⟨xY, h2⟩, ⟨xS, h3⟩, h4, h5, h6⟩ hne F N
    dsimp only at h2 h3 h4 h5 hne N
    obtain ⟨x, ux, rfl, hx⟩ := ints_get hI hv
    have i1 : @Ne Nat lD It := hne (lD, _) (.tail _ (.head _))
    have i2 : @Ne Nat (L' + 1 + 1) It := hne (L' + 1 + 1, _) (.tail _ (.tail _ (.head _)))
    have i3 : @Ne Nat (L' + 1) It := hne (L' + 1, _) (.tail _ (.tail _ (.tail _ (.head _))))
    walk_at "my_steps"
    have hr0 : 0 ≤ x.fmod 4 := by rw [Int.fmod_eq_emod_of_nonneg _ (by decide)]; omega
    have hr4 : x.fmod 4 < 4 := by rw [Int.fmod_eq_emod_of_nonneg _ (by decide)]; omega
    generalize hr : x.fmod 4 = r at *
    rw [sl_abc hr0 hr4]
    refine add_tx (a := [48, 49]) (by decide) (by simp; omega) (fun t1 k1 => ?_)
    walk_at "my_steps"
    rw [sl_ABC hr0 hr4]
    refine add_tx rfl (by simp; omega) (fun t2 k2 => ?_)
    rw [show [48, 49] ++ List.take r.toNat [97, 98, 99] ++ List.take r.toNat [65, 66, 67] = signsOf r.toNat from rfl]
    have hS : (signsOf r.toNat).length = 2 + r.toNat + r.toNat := by simp [signsOf]; omega
    have hsz' : vs₁.toArray.size ≤ 16777216 := by
      have := h4.length
      simp at this
      simp; omega
    walk_at "my_steps"
    rename Fr _ _ _ _ => F₄
    rename News _ _ _ _ => N₄
    have hy3 : (((x.fdiv 16).fmod 3).toNat : Int) = (x.fdiv 16).fmod 3 := Int.toNat_of_nonneg (by rw [Int.fmod_eq_emod_of_nonneg _ (by decide)]; omega)
    have hy4 : ((x.fdiv 16).fmod 3).toNat < 3 := by rw [Int.fmod_eq_emod_of_nonneg _ (by decide)]; omega
    k_dflt (refine' comp_range F₄ N₄ ((x.fdiv 16).fmod 3).toNat (fun _ => true) (fun t v => ∃ u, v = .str (sg (signAt r.toNat (x.fdiv 16) t)) u) ?a ?b ?c ?d ?e ?f ?g ?z ?it ?te ?el ?dn)
    (case a => rfl); (case b => rfl); (case c => decide); (case d => rfl); (case e => decide); (case f => rfl); (case g => exact fun _ => rfl); (case z => omega)
    · refine opq fun P hP => ?_
      walk_at "my_steps"
      exact hP _ _ ⟨_, _, _, _, rfl, by rw [hy3]; assumption, _, _, rfl, by assumption⟩
    · intro C i u s₃ m₃ hi' F N kk hm
      rw [List.forIn_nil]
      exact wpAny_pure ⟨rfl, _, _, rfl, fun _ _ e => e⟩
    · intro C i u s₃ m₃ hi' hq F N kk hm
      refine opq fun P hP => ?_
      have hi2 : i = 0 ∨ i = 1 := by omega
      rcases hi2 with rfl | rfl
      all_goals
        walk_at "my_steps"
        refine item_tx (l := signsOf r.toNat) (Int.fmod_nonneg_of_pos _ (by omega)) (Int.fmod_lt_of_pos _ (by omega)) (by omega) ?_
        rw [signAt_eq]
        exact hP _ _ ⟨⟨_, rfl⟩, _, _, rfl, fun _ _ e => e⟩
    · intro D ny ys h₅ tk₅ hp F₅ N₅ kk hD
      have hDl := N₅.get (.head _)
      replace N₅ := news_tail N₅
      walk_at "my_steps"
      refine join_ok (ls := (List.range ((x.fdiv 16).fmod 3).toNat).map fun t => [signAt r.toNat (x.fdiv 16) t]) ⟨_, hDl, rfl, _, rfl⟩ ?j1 ?j2 ?j3 (fun t3 k3 => ?_)
      case j1 =>
        have := hp
        rw [show (List.range ((x.fdiv 16).fmod 3).toNat).filter (fun _ => true) = List.range ((x.fdiv 16).fmod 3).toNat from List.filter_eq_self.mpr fun _ _ => rfl] at this
        clear hp
        generalize List.range ((x.fdiv 16).fmod 3).toNat = ts at this
        clear N₅ F₅ hD kk hDl
        induction this with
        | nil => exact .nil
        | cons e _ ih => exact .cons e ih
      case j2 => simp; omega
      case j3 => intro l hl; obtain ⟨_, _, rfl⟩ := List.mem_map.mp hl; exact (by decide : 1 < 1000)
      rw [show ((List.range ((x.fdiv 16).fmod 3).toNat).map fun t => [signAt r.toNat (x.fdiv 16) t]).flatten = ((List.range ((x.fdiv 16).fmod 3).toNat).map fun t => signAt r.toNat (x.fdiv 16) t) by
        generalize List.range ((x.fdiv 16).fmod 3).toNat = ts
        induction ts with
        | nil => rfl
        | cons a r ih => simp [ih]]
      walk_at "my_steps"
      rename Fr _ _ _ _ => F₇
      rename News _ _ _ _ => N₇
      rw [List.push_toArray, deed_how, deed_name hr0 hr4 hr, deed_body hr] at N₇
      have hxs : (List.map deedOf ([416, 561, 1714, 371] ++ List.take 6 ns))[i]? = some (deedOf x) := by rw [List.getElem?_map, hx]; rfl
      have hil := (List.getElem?_eq_some_iff.mp hx).1
      have hil2 : i < 10 := by simp at hil; omega
      refine ⟨_, (_, _, vs₁ ++ [_], n₁ + 1, (_, _) :: tl), _, _, rfl, ⟨by walk_at "my_lk", ⟨_, by assumption⟩, ⟨_, by assumption⟩, ?p1, ?p2, hil2⟩, F₇, news_rot N₇, ?p3⟩
      case p1 =>
        show Paired _ _ (List.take (i + 1) (List.map deedOf ([416, 561, 1714, 371] ++ List.take 6 ns)))
        rw [List.take_add_one (i := i), hxs]
        exact paired_append (paired_mono h4 fun _ _ ⟨a, t1, t2, t3, n, e, hm⟩ => ⟨a, t1, t2, t3, n, e, .tail _ hm⟩) (.cons ⟨_, _, _, _, _, rfl, .head _⟩ .nil)
      case p2 =>
        intro p hp
        rcases List.mem_cons.mp hp with rfl | hp
        · dsimp only; omega
        · exact h5 p hp
      case p3 =>
        intro p hp
        simp only [List.mem_cons] at hp
        rcases hp with rfl | rfl | rfl | rfl | rfl | hp
        · exact hne (lX, _) (.head _)
        · exact i1
        · exact i2
        · exact i3
        · exact Nat.ne_of_gt (by omega)
        · exact hne p (.tail _ (.tail _ (.tail _ (.tail _ hp))))
  · rintro m ⟨oY, oS, vs₁, n₁, tl⟩ h tk ⟨h1, _, _, h4, h5, h6⟩ F N
    dsimp only at h4 h5 N ⊢
    walk_at "my_steps"
    refine ret _ lD vs₁ n₁ _ _ (fresh_of N) (.tail _ (.head _)) ?_ F.keep
    have hl : ws.length = ([416, 561, 1714, 371] ++ ns.take 6).length := hI.length
    rw [List.take_of_length_le (by rw [List.length_map, hl]; exact Nat.le_refl _)] at h4
    exact paired_mono h4 fun _ _ ⟨a, t1, t2, t3, n, e, hm⟩ => ⟨a, t1, t2, t3, n, e, .tail _ (.tail _ (.tail _ (.tail _ hm)))⟩

end
section
def setT (tb : Tbl) (k : Nat) (b : List Nat) : Tbl := delT tb k ++ [(k, b)]
def doneStep (st : Tbl × List (List Nat)) (e : Deed) : Tbl × List (List Nat) := match e.how with
  | 0 => (setT st.1 e.name e.body, st.2)
  | 1 => (setT st.1 (e.name - 32) e.body, st.2)
  | 2 => ((setdT st.1 (e.name - 32) e.body).1, st.2 ++ [(setdT st.1 (e.name - 32) e.body).2])
  | _ => (delT st.1 e.name, st.2)
def foldDone (ds : List Deed) : Tbl × List (List Nat) := ds.foldl doneStep ([], [])
def DeedOk (e : Deed) : Prop := e.how < 4 ∧ e.name ∈ [97, 98, 99, 100] ∧ e.body ∈ bodies
theorem delT_ok {tb : Tbl} (h : TblOk tb) (k : Nat) : TblOk (delT tb k) := fun e he => h e (List.mem_filter.mp he).1
theorem up_nms : ∀ k ∈ [97, 98, 99, 100], k ∈ nms ∧ k - 32 ∈ nms := by decide
theorem snoc_ok {tb : Tbl} (h : TblOk tb) {k : Nat} {b : List Nat} (hk : k ∈ nms) (hb : b ∈ bodies) : TblOk (tb ++ [(k, b)]) := fun e he => by
  rcases List.mem_append.mp he with he | he
  · exact h e he
  · rw [List.mem_singleton.mp he]; exact ⟨hk, hb⟩
theorem step_ok {st : Tbl × List (List Nat)} {e : Deed} (h : TblOk st.1) (he : DeedOk e) : TblOk (doneStep st e).1 ∧ (doneStep st e).1.length ≤ st.1.length + 1 := by
  obtain ⟨h1, h2, h3⟩ := he
  obtain ⟨u1, u2⟩ := up_nms _ h2
  have hd : ∀ k, (delT st.1 k).length ≤ st.1.length := fun k => delT_len ..
  unfold doneStep
  split
  · refine ⟨snoc_ok (delT_ok h _) u1 h3, ?_⟩
    have := hd e.name
    simp [setT]; omega
  · refine ⟨snoc_ok (delT_ok h _) u2 h3, ?_⟩
    have := hd (e.name - 32)
    simp [setT]; omega
  · unfold setdT
    split
    · exact ⟨h, by simp⟩
    · exact ⟨snoc_ok h u2 h3, by simp⟩
  · exact ⟨delT_ok h _, Nat.le_succ_of_le (hd _)⟩
theorem fold_ok : ∀ {ds : List Deed} (st : Tbl × List (List Nat)), TblOk st.1 → (∀ e ∈ ds, DeedOk e) → TblOk (ds.foldl doneStep st).1 ∧ (ds.foldl doneStep st).1.length ≤ st.1.length + ds.length
  | [], st, h, _ => ⟨h, Nat.le_refl _⟩
  | e :: r, st, h, hd => by
    obtain ⟨a, b⟩ := step_ok h (hd e (.head _))
    obtain ⟨c, d⟩ := fold_ok (ds := r) (doneStep st e) a fun x hx => hd x (.tail _ hx)
    exact ⟨c, by simp only [List.foldl_cons, List.length_cons]; omega⟩
theorem foldDone_succ {ds : List Deed} {i : Nat} {e : Deed} (h : ds[i]? = some e) : foldDone (ds.take (i + 1)) = doneStep (foldDone (ds.take i)) e := by
  unfold foldDone
  rw [List.take_add_one, h, List.foldl_append]; rfl
def PairIn (tl : List (Addr × Obj)) (v : Value) (e : Nat × List Nat) : Prop := ∃ a t1 t2 n, v = .ref a ∧ (a, pairObj (tx [e.1]) (tx e.2) t1 t2 n) ∈ tl
abbrev IsTx (v : Value) (l : List Nat) : Prop := ∃ t, v = .str (tx l) t
theorem news_mut {h₀ h h' : Heap} {L l a : Addr} {m : Str → Option Value} {o o' oa : Obj} {S S' : List (Addr × Obj)} (F : Fr h₀ L h m) (N : News h₀ L h S) (hl : (l, o) ∈ S) (hS : ∀ p ∈ S', p = (l, o') ∨ p = (a, oa) ∨ (p ∈ S ∧ p.1 ≠ l)) (ga : h'.get? a = some oa) (gf : h.get? a = none)
    (gk : ∀ b o, b ≠ l → h.get? b = some o → h'.get? b = some o) (gl : h'.get? l = some o') : News h₀ L h' S' := by
  intro p hp
  rcases hS p hp with rfl | rfl | ⟨h1, h2⟩
  · exact ⟨gl, (N _ hl).2⟩
  · refine ⟨ga, ?_, ?_⟩
    · rintro rfl
      obtain ⟨o, _, _, ho, _⟩ := F.ns
      exact nomatch gf.symm.trans ho
    · cases e : h₀.get? a with
      | none => rfl
      | some x => exact nomatch gf.symm.trans (F.keep _ _ e)
  · exact ⟨gk _ _ h2 (N _ h1).1, (N _ h1).2⟩
theorem ne_fresh {h₀ h : Heap} {L a b : Addr} {o : Obj} {S : List (Addr × Obj)} (N : News h₀ L h S) (hb : (b, o) ∈ S) (ha : h.get? a = none) : @Ne Nat a b := by
  rintro rfl
  exact nomatch ha.symm.trans (N.get hb)

theorem done_ok (w : World) {mean : ExcName → Option Value} {mg mb : Str → Option Value} {dp un : Nat} {fr : Option (List Env)} {gd : Option (List Code)} {s : Shared} {Q E : Value → Shared → Prop}
    {l : Addr} {vs : List Value} {n : Nat} {ds : List Deed}
    (X : (Mine.hd.heap_39 w.params).In s.heap) (T : Top Mine.hd.view_39 LO mean mg mb s.heap) (hdp : dp + 5 < recursionLimit) (hu : un + 160 < cLine)
    (hl : s.heap.get? l = some (listOf vs.toArray n)) (hi : Paired (DeedAt s.heap) vs ds) (hok : ∀ e ∈ ds, DeedOk e) (hlen : ds.length < 50)
    (ret : ∀ (S : List (Addr × Obj)) (r hd d lH lS : Addr) (hs : Int) (tk : Tok) (vs' ss : List Value) (nR n1 n2 : Nat) (h' : Heap) (tk' : Nat), Fresh s.heap h' S → (r, listOf #[.ref hd, .ref lS] nR) ∈ S → (hd, instObj 187 d) ∈ S → (d, hdDict hs tk lH) ∈ S → (lH, listOf vs'.toArray n1) ∈ S → Paired (PairIn S) vs' (foldDone ds).1 → (lS, listOf ss.toArray n2) ∈ S → Paired IsTx ss (foldDone ds).2 → Kp s.heap h' → Q (.ref r) { s with heap := h', toks := tk' }) :
    wpAny (model PySem.Challenge.rw_pm0053_01.row.prog w) (AR dp un fr gd) (call (.ref 203) [.ref l]) Q E s := by
  revert X T
  k_fill
  intro X T
  k_dflt (refine' enter [(Str.ofString "deeds", Value.ref l)] ?k3 ?k5 ?k6 ?k7 ?k8 ?k9 ?kB ?_ ?c2 ?c3 ?c4 ?c5)
  (case k3 => assumption); (case k5 => assumption); (case k6 => k_is); (case k7 => k_is); (case k8 => (dsimp only [AR, Around.deeper]; omega)); (case k9 => exact fun _ => rfl); (case c5 => decide); (case kB => exact rfl); (case c2 => exact rfl); (case c3 => exact rfl); (case c4 => exact rfl); k_whole; intro L' h' F' N'; (try dsimp only)
  try k_fold
  walk_at "my_steps"
  rename Fr _ _ _ _ => F₁
  rename News _ _ _ _ => N₁
  refine headers_ok w F₁ N₁ X T (by show dp + 1 + 2 < _; omega) (by show un + 3 + 80 < _; omega) ?_
  intro hd d lH hs tkH nH h₂ tk₂ F₂ N₂ _ hdh hhl
  clear F₁ N₁
  walk_at "my_steps"
  rename Fr _ _ _ _ => F₃
  rename News _ _ _ _ => N₃
  rename _ ∧ _ => l3
  obtain ⟨lS, N₄, F₄, c1, c2, c3⟩ : ∃ lS : Addr, News s.heap L' _ [(hd, instObj 187 d), (d, hdDict hs tkH lH), (lH, listOf #[] nH), (lS, listOf #[] 0)] ∧ (Fr s.heap L' _ fun y => if y = Str.ofString "said" then some (Value.ref lS) else if y = Str.ofString "head" then some (Value.ref hd) else List.lookup y [(Str.ofString "deeds", Value.ref l)].reverse) ∧ @LT.lt Nat _ lH lS ∧ @LT.lt Nat _ d hd ∧ @LT.lt Nat _ hd lH :=
    ⟨_, fun p hp => N₃ p (by simp only [List.mem_cons, List.not_mem_nil, or_false] at hp ⊢; rcases hp with h | h | h | h <;> simp [h]), F₃, by omega, hdh, hhl⟩
  clear N₃ F₃ l3
  have hvl : vs.length = ds.length := hi.length
  refine for_list (τ := List Value × Nat × List Value × Nat × List (Addr × Obj)) F₄ (fun c => (hd, instObj 187 d) :: (d, hdDict hs tkH lH) :: (lH, listOf c.1.toArray c.2.1) :: (lS, listOf c.2.2.1.toArray c.2.2.2.1) :: c.2.2.2.2)
    (fun i m c => m (Str.ofString "head") = some (.ref hd) ∧ m (Str.ofString "said") = some (.ref lS) ∧ Paired (PairIn c.2.2.2.2) c.1 (foldDone (ds.take i)).1 ∧ Paired IsTx c.2.2.1 (foldDone (ds.take i)).2 ∧ (∀ p ∈ c.2.2.2.2, p.1 ≠ lH) ∧ (∀ p ∈ c.2.2.2.2, p.1 ≠ lS) ∧ c.2.2.1.length ≤ i)
    ([], nH, [], 0, []) l vs n rfl rfl (fun _ => rfl) (.inl hl) ?_ N₄ ?_ ?_ ?_
  · walk_at "my_steps"
  · exact ⟨by walk_at "my_lk", by walk_at "my_lk", .nil, .nil, fun _ h => (nomatch h), fun _ h => (nomatch h), Nat.le_refl _⟩
  · rintro i v m ⟨vs', n', ss, n2, tl⟩ h tk' It oI hv ⟨h1, h2, h3, h4, h5, h6, h7⟩ hne F N
    dsimp only at h3 h4 h5 h6 h7 hne N
    obtain ⟨e, he, a, t1, t2, t3, ne, rfl, ha⟩ := paired_get hi hv
    have hil : i < ds.length := (List.getElem?_eq_some_iff.mp he).1
    have hT : h.IsList a #[.int e.how t1, .str (sg e.name) t2, .str (tx e.body) t3] := ⟨_, F.keep _ _ ha, rfl, _, rfl⟩
    obtain ⟨k1, k2, k3⟩ := hok e (List.mem_of_getElem? he)
    obtain ⟨u1, u2⟩ := up_nms _ k2
    have hup := up_all _ k2
    obtain ⟨f1, f2⟩ := fold_ok (ds := ds.take i) ([], []) (fun _ h => (nomatch h)) fun x hx => hok x (List.mem_of_mem_take hx)
    have f3 : (foldDone (ds.take i)).1.length < 100 := by
      have : (ds.take i).length ≤ i := by simp; omega
      unfold foldDone
      simp only [List.length_nil] at f2
      omega
    have i1 : @Ne Nat hd It := hne _ (.head _)
    have i2 : @Ne Nat d It := hne _ (.tail _ (.head _))
    have i3 : @Ne Nat lH It := hne _ (.tail _ (.tail _ (.head _)))
    have i4 : @Ne Nat lS It := hne _ (.tail _ (.tail _ (.tail _ (.head _))))
    have hfs := foldDone_succ he
    obtain ⟨how, name, body⟩ := e
    dsimp only at k1 k2 k3 u1 u2 hup hT
    have k1' : how = 0 ∨ how = 1 ∨ how = 2 ∨ how = 3 := by omega
    rcases k1' with rfl | rfl | rfl | rfl
    · walk_at "my_steps"
      rename Fr _ _ _ _ => F₅
      rename News _ _ _ _ => N₅
      have mH : (lH, listOf vs'.toArray n') ∈ (It, oI) :: (hd, instObj 187 d) :: (d, hdDict hs tkH lH) :: (lH, listOf vs'.toArray n') :: (lS, listOf ss.toArray n2) :: tl := .tail _ (.tail _ (.tail _ (.head _)))
      have TB : TblAt _ vs' _ := paired_mono h3 fun _ _ ⟨a, t1, t2, n, e, hm⟩ => ⟨a, t1, t2, n, e, N₅.get (.tail _ (.tail _ (.tail _ (.tail _ (.tail _ hm)))))⟩
      refine setitem_ok w (kin_hid X F₅ N₅ (by simpa using mH)) (T.keeps (stays_hid F₅ N₅ (by simpa using mH))) (by show dp + 1 + 3 < _; omega) (by show un + 3 + 120 < _; omega) u1 k3 ⟨N₅.get (.tail _ (.head _)), N₅.get (.tail _ (.tail _ (.head _))), N₅.get mH⟩ TB f1 f3 ?_
      intro vs₁ a' x1 x2 nn n₁ h₆ tk₆ g1 g2 g3 g4 g5
      have F₆ := fr_step F₅ (Ne.symm (N₅ _ mH).2.1) (N₅ _ mH).2.2 g4
      have N₆ : News s.heap L' h₆ ((It, oI) :: (hd, instObj 187 d) :: (d, hdDict hs tkH lH) :: (lH, listOf (vs₁ ++ [Value.ref a']).toArray n₁) :: (lS, listOf ss.toArray n2) :: (a', pairObj (tx [name]) (tx body) x1 x2 nn) :: tl) := by
        refine news_mut F₅ N₅ mH (fun p hp => ?_) g2 g3 g4 g5
        simp only [List.mem_cons] at hp
        rcases hp with rfl | rfl | rfl | rfl | rfl | rfl | hp
        · exact .inr (.inr ⟨.head _, Ne.symm i3⟩)
        · exact .inr (.inr ⟨.tail _ (.head _), Nat.ne_of_lt c3⟩)
        · exact .inr (.inr ⟨.tail _ (.tail _ (.head _)), Nat.ne_of_lt (Nat.lt_trans c2 c3)⟩)
        · exact .inl rfl
        · exact .inr (.inr ⟨.tail _ (.tail _ (.tail _ (.tail _ (.head _)))), Nat.ne_of_gt c1⟩)
        · exact .inr (.inl rfl)
        · exact .inr (.inr ⟨.tail _ (.tail _ (.tail _ (.tail _ (.tail _ hp)))), h5 p hp⟩)
      have aI := ne_fresh N₅ (.head _) g3
      have aH := ne_fresh N₅ mH g3
      have aS := ne_fresh N₅ (.tail _ (.tail _ (.tail _ (.tail _ (.head _))))) g3
      have hP : Paired (PairIn ((a', pairObj (tx [name]) (tx body) x1 x2 nn) :: tl)) (vs₁ ++ [Value.ref a']) (foldDone (ds.take (i + 1))).1 := by
        rw [hfs]
        exact paired_append (g1 _ (paired_mono h3 fun _ _ ⟨a, t1, t2, n, e, hm⟩ => ⟨a, t1, t2, n, e, .tail _ hm⟩)) (.cons ⟨_, _, _, _, rfl, .head _⟩ .nil)
      clear F₅ N₅
      dsimp only
      walk_at "my_steps"
      refine ⟨_, (vs₁ ++ [Value.ref a'], n₁, ss, n2, (a', pairObj (tx [name]) (tx body) x1 x2 nn) :: tl), _, _, rfl, ⟨by walk_at "my_lk", by walk_at "my_lk", hP, by rw [hfs]; exact h4, fun p hp => ?_, fun p hp => ?_, by show ss.length ≤ i + 1; omega⟩, F₆, N₆, fun p hp => ?_⟩
      · rcases List.mem_cons.mp hp with rfl | hp
        · exact aH
        · exact h5 p hp
      · rcases List.mem_cons.mp hp with rfl | hp
        · exact aS
        · exact h6 p hp
      · simp only [List.mem_cons] at hp
        rcases hp with rfl | rfl | rfl | rfl | rfl | hp
        · exact i1
        · exact i2
        · exact i3
        · exact i4
        · exact aI
        · exact hne p (.tail _ (.tail _ (.tail _ (.tail _ hp))))
    · walk_at "my_steps"
      rename Fr _ _ _ _ => F₅
      rename News _ _ _ _ => N₅
      have mH : (lH, listOf vs'.toArray n') ∈ (It, oI) :: (hd, instObj 187 d) :: (d, hdDict hs tkH lH) :: (lH, listOf vs'.toArray n') :: (lS, listOf ss.toArray n2) :: tl := .tail _ (.tail _ (.tail _ (.head _)))
      have TB : TblAt _ vs' _ := paired_mono h3 fun _ _ ⟨a, t1, t2, n, e, hm⟩ => ⟨a, t1, t2, n, e, N₅.get (.tail _ (.tail _ (.tail _ (.tail _ (.tail _ hm)))))⟩
      refine setitem_ok w (kin_hid X F₅ N₅ (by simpa using mH)) (T.keeps (stays_hid F₅ N₅ (by simpa using mH))) (by show dp + 1 + 3 < _; omega) (by show un + 3 + 120 < _; omega) u2 k3 ⟨N₅.get (.tail _ (.head _)), N₅.get (.tail _ (.tail _ (.head _))), N₅.get mH⟩ TB f1 f3 ?_
      intro vs₁ a' x1 x2 nn n₁ h₆ tk₆ g1 g2 g3 g4 g5
      have F₆ := fr_step F₅ (Ne.symm (N₅ _ mH).2.1) (N₅ _ mH).2.2 g4
      have N₆ : News s.heap L' h₆ ((It, oI) :: (hd, instObj 187 d) :: (d, hdDict hs tkH lH) :: (lH, listOf (vs₁ ++ [Value.ref a']).toArray n₁) :: (lS, listOf ss.toArray n2) :: (a', pairObj (tx [name - 32]) (tx body) x1 x2 nn) :: tl) := by
        refine news_mut F₅ N₅ mH (fun p hp => ?_) g2 g3 g4 g5
        simp only [List.mem_cons] at hp
        rcases hp with rfl | rfl | rfl | rfl | rfl | rfl | hp
        · exact .inr (.inr ⟨.head _, Ne.symm i3⟩)
        · exact .inr (.inr ⟨.tail _ (.head _), Nat.ne_of_lt c3⟩)
        · exact .inr (.inr ⟨.tail _ (.tail _ (.head _)), Nat.ne_of_lt (Nat.lt_trans c2 c3)⟩)
        · exact .inl rfl
        · exact .inr (.inr ⟨.tail _ (.tail _ (.tail _ (.tail _ (.head _)))), Nat.ne_of_gt c1⟩)
        · exact .inr (.inl rfl)
        · exact .inr (.inr ⟨.tail _ (.tail _ (.tail _ (.tail _ (.tail _ hp)))), h5 p hp⟩)
      have aI := ne_fresh N₅ (.head _) g3
      have aH := ne_fresh N₅ mH g3
      have aS := ne_fresh N₅ (.tail _ (.tail _ (.tail _ (.tail _ (.head _))))) g3
      have hP : Paired (PairIn ((a', pairObj (tx [name - 32]) (tx body) x1 x2 nn) :: tl)) (vs₁ ++ [Value.ref a']) (foldDone (ds.take (i + 1))).1 := by
        rw [hfs]
        exact paired_append (g1 _ (paired_mono h3 fun _ _ ⟨a, t1, t2, n, e, hm⟩ => ⟨a, t1, t2, n, e, .tail _ hm⟩)) (.cons ⟨_, _, _, _, rfl, .head _⟩ .nil)
      clear F₅ N₅
      dsimp only
      walk_at "my_steps"
      refine ⟨_, (vs₁ ++ [Value.ref a'], n₁, ss, n2, (a', pairObj (tx [name - 32]) (tx body) x1 x2 nn) :: tl), _, _, rfl, ⟨by walk_at "my_lk", by walk_at "my_lk", hP, by rw [hfs]; exact h4, fun p hp => ?_, fun p hp => ?_, by show ss.length ≤ i + 1; omega⟩, F₆, N₆, fun p hp => ?_⟩
      · rcases List.mem_cons.mp hp with rfl | hp
        · exact aH
        · exact h5 p hp
      · rcases List.mem_cons.mp hp with rfl | hp
        · exact aS
        · exact h6 p hp
      · simp only [List.mem_cons] at hp
        rcases hp with rfl | rfl | rfl | rfl | rfl | hp
        · exact i1
        · exact i2
        · exact i3
        · exact i4
        · exact aI
        · exact hne p (.tail _ (.tail _ (.tail _ (.tail _ hp))))
    · have hsz' : ss.toArray.size ≤ 16777216 := by simp; omega
      walk_at "my_steps"
      rename Fr _ _ _ _ => F₅
      rename News _ _ _ _ => N₅
      have mH : (lH, listOf vs'.toArray n') ∈ (It, oI) :: (hd, instObj 187 d) :: (d, hdDict hs tkH lH) :: (lH, listOf vs'.toArray n') :: (lS, listOf ss.toArray n2) :: tl := .tail _ (.tail _ (.tail _ (.head _)))
      have TB : TblAt _ vs' _ := paired_mono h3 fun _ _ ⟨a, t1, t2, n, e, hm⟩ => ⟨a, t1, t2, n, e, N₅.get (.tail _ (.tail _ (.tail _ (.tail _ (.tail _ hm)))))⟩
      refine setdefault_ok w (kin_hid X F₅ N₅ (by simpa using mH)) (T.keeps (stays_hid F₅ N₅ (by simpa using mH))) (by show dp + 1 + 3 < _; omega) (by show un + 3 + 120 < _; omega) u2 k3 ⟨N₅.get (.tail _ (.head _)), N₅.get (.tail _ (.tail _ (.head _))), N₅.get mH⟩ TB f1 f3 ?_ ?_
      · intro c tc h₆ tk₆ hg kk
        have F₆ := F₅.keeps kk
        have N₆ := N₅.grown kk
        have hst : doneStep (foldDone (ds.take i)) ⟨2, name, body⟩ = ((foldDone (ds.take i)).1, (foldDone (ds.take i)).2 ++ [c]) := by
          show (((setdT _ (name - 32) body).1), _ ++ [(setdT _ (name - 32) body).2]) = _
          unfold setdT
          rw [hg]
        rw [hst] at hfs
        clear F₅ N₅
        dsimp only
        walk_at "my_steps"
        rename Fr _ _ _ _ => F₇
        rename News _ _ _ _ => N₇
        rw [List.push_toArray] at N₇
        refine ⟨_, (vs', n', ss ++ [_], n2 + 1, tl), _, _, rfl, ⟨by walk_at "my_lk", by walk_at "my_lk", by rw [hfs]; exact h3, by rw [hfs]; exact paired_append h4 (.cons ⟨_, rfl⟩ .nil), h5, h6, by show (ss ++ [_]).length ≤ i + 1; simp; omega⟩, F₇, N₇, fun p hp => ?_⟩
        simp only [List.mem_cons] at hp
        rcases hp with rfl | rfl | rfl | rfl | hp
        · exact i1
        · exact i2
        · exact i3
        · exact i4
        · exact hne p (.tail _ (.tail _ (.tail _ (.tail _ hp))))
      · intro a' tb x1 x2 nn n₁ h₆ tk₆ hg g2 g3 g4 g5
        have F₆ := fr_step F₅ (Ne.symm (N₅ _ mH).2.1) (N₅ _ mH).2.2 g4
        have N₆ : News s.heap L' h₆ ((It, oI) :: (hd, instObj 187 d) :: (d, hdDict hs tkH lH) :: (lH, listOf (vs' ++ [Value.ref a']).toArray n₁) :: (lS, listOf ss.toArray n2) :: (a', pairObj (tx [name - 32]) (tx body) x1 x2 nn) :: tl) := by
          refine news_mut F₅ N₅ mH (fun p hp => ?_) g2 g3 g4 g5
          simp only [List.mem_cons] at hp
          rcases hp with rfl | rfl | rfl | rfl | rfl | rfl | hp
          · exact .inr (.inr ⟨.head _, Ne.symm i3⟩)
          · exact .inr (.inr ⟨.tail _ (.head _), Nat.ne_of_lt c3⟩)
          · exact .inr (.inr ⟨.tail _ (.tail _ (.head _)), Nat.ne_of_lt (Nat.lt_trans c2 c3)⟩)
          · exact .inl rfl
          · exact .inr (.inr ⟨.tail _ (.tail _ (.tail _ (.tail _ (.head _)))), Nat.ne_of_gt c1⟩)
          · exact .inr (.inl rfl)
          · exact .inr (.inr ⟨.tail _ (.tail _ (.tail _ (.tail _ (.tail _ hp)))), h5 p hp⟩)
        have aI := ne_fresh N₅ (.head _) g3
        have aH := ne_fresh N₅ mH g3
        have aS := ne_fresh N₅ (.tail _ (.tail _ (.tail _ (.tail _ (.head _))))) g3
        have hst : doneStep (foldDone (ds.take i)) ⟨2, name, body⟩ = ((foldDone (ds.take i)).1 ++ [(name - 32, body)], (foldDone (ds.take i)).2 ++ [body]) := by
          show (((setdT _ (name - 32) body).1), _ ++ [(setdT _ (name - 32) body).2]) = _
          unfold setdT
          rw [hg]
        rw [hst] at hfs
        have hP : Paired (PairIn ((a', pairObj (tx [name - 32]) (tx body) x1 x2 nn) :: tl)) (vs' ++ [Value.ref a']) (foldDone (ds.take (i + 1))).1 := by
          rw [hfs]
          exact paired_append (paired_mono h3 fun _ _ ⟨a, t1, t2, n, e, hm⟩ => ⟨a, t1, t2, n, e, .tail _ hm⟩) (.cons ⟨_, _, _, _, rfl, .head _⟩ .nil)
        clear F₅ N₅
        dsimp only
        walk_at "my_steps"
        rename Fr _ _ _ _ => F₇
        rename News _ _ _ _ => N₇
        rw [List.push_toArray (l := ss)] at N₇
        refine ⟨_, (vs' ++ [Value.ref a'], n₁, ss ++ [_], n2 + 1, (a', pairObj (tx [name - 32]) (tx body) x1 x2 nn) :: tl), _, _, rfl, ⟨by walk_at "my_lk", by walk_at "my_lk", hP, by rw [hfs]; exact paired_append h4 (.cons ⟨_, rfl⟩ .nil), fun p hp => ?_, fun p hp => ?_, by show (ss ++ [_]).length ≤ i + 1; simp; omega⟩, F₇, N₇, fun p hp => ?_⟩
        · rcases List.mem_cons.mp hp with rfl | hp
          · exact aH
          · exact h5 p hp
        · rcases List.mem_cons.mp hp with rfl | hp
          · exact aS
          · exact h6 p hp
        · simp only [List.mem_cons] at hp
          rcases hp with rfl | rfl | rfl | rfl | rfl | hp
          · exact i1
          · exact i2
          · exact i3
          · exact i4
          · exact aI
          · exact hne p (.tail _ (.tail _ (.tail _ (.tail _ hp))))
    · walk_at "my_steps"
      rename Fr _ _ _ _ => F₅
      rename News _ _ _ _ => N₅
      have mH : (lH, listOf vs'.toArray n') ∈ (It, oI) :: (hd, instObj 187 d) :: (d, hdDict hs tkH lH) :: (lH, listOf vs'.toArray n') :: (lS, listOf ss.toArray n2) :: tl := .tail _ (.tail _ (.tail _ (.head _)))
      have TB : TblAt _ vs' _ := paired_mono h3 fun _ _ ⟨a, t1, t2, n, e, hm⟩ => ⟨a, t1, t2, n, e, N₅.get (.tail _ (.tail _ (.tail _ (.tail _ (.tail _ hm)))))⟩
      refine del_ok w (kin_hid X F₅ N₅ (by simpa using mH)) (T.keeps (stays_hid F₅ N₅ (by simpa using mH))) (by show dp + 1 + 2 < _; omega) (by show un + 3 + 80 < _; omega) u1 ⟨N₅.get (.tail _ (.head _)), N₅.get (.tail _ (.tail _ (.head _))), N₅.get mH⟩ TB f1 f3 ?_
      intro vs₁ n₁ h₆ tk₆ g1 g4 g5
      have F₆ := fr_step F₅ (Ne.symm (N₅ _ mH).2.1) (N₅ _ mH).2.2 g4
      have N₆ : News s.heap L' h₆ ((It, oI) :: (hd, instObj 187 d) :: (d, hdDict hs tkH lH) :: (lH, listOf vs₁.toArray n₁) :: (lS, listOf ss.toArray n2) :: tl) := by
        intro p hp
        simp only [List.mem_cons] at hp
        have old : ∀ q ∈ (It, oI) :: (hd, instObj 187 d) :: (d, hdDict hs tkH lH) :: (lH, listOf vs'.toArray n') :: (lS, listOf ss.toArray n2) :: tl, q.1 ≠ lH → h₆.get? q.1 = some q.2 ∧ q.1 ≠ L' ∧ s.heap.get? q.1 = none := fun q hq hne => ⟨g4 _ _ hne (N₅ _ hq).1, (N₅ _ hq).2⟩
        rcases hp with rfl | rfl | rfl | rfl | rfl | hp
        · exact old _ (.head _) (Ne.symm i3)
        · exact old _ (.tail _ (.head _)) (Nat.ne_of_lt c3)
        · exact old _ (.tail _ (.tail _ (.head _))) (Nat.ne_of_lt (Nat.lt_trans c2 c3))
        · exact ⟨g5, (N₅ _ mH).2⟩
        · exact old _ (.tail _ (.tail _ (.tail _ (.tail _ (.head _))))) (Nat.ne_of_gt c1)
        · exact old _ (.tail _ (.tail _ (.tail _ (.tail _ (.tail _ hp))))) (h5 p hp)
      have hP : Paired (PairIn tl) vs₁ (foldDone (ds.take (i + 1))).1 := by
        rw [hfs]
        exact g1 _ h3
      clear F₅ N₅
      dsimp only
      walk_at "my_steps"
      refine ⟨_, (vs₁, n₁, ss, n2, tl), _, _, rfl, ⟨by walk_at "my_lk", by walk_at "my_lk", hP, by rw [hfs]; exact h4, h5, h6, by show ss.length ≤ i + 1; omega⟩, F₆, N₆, fun p hp => ?_⟩
      simp only [List.mem_cons] at hp
      rcases hp with rfl | rfl | rfl | rfl | hp
      · exact i1
      · exact i2
      · exact i3
      · exact i4
      · exact hne p (.tail _ (.tail _ (.tail _ (.tail _ hp))))
  · rintro m ⟨vs', n', ss, n2, tl⟩ h tk' ⟨h1, h2, h3, h4, h5, h6, h7⟩ F N
    dsimp only at h3 h4 h5 h6 h7 N ⊢
    rw [hvl, List.take_length] at h3 h4
    walk_at "my_steps"
    rename Fr _ _ _ _ => F₅
    rename News _ _ _ _ => N₅
    exact ret _ _ hd d lH lS hs tkH vs' ss _ n' n2 _ _ (fresh_of N₅) (.head _) (.tail _ (.head _)) (.tail _ (.tail _ (.head _))) (.tail _ (.tail _ (.tail _ (.head _))))
      (paired_mono h3 fun _ _ ⟨a, t1, t2, n, e, hm⟩ => ⟨a, t1, t2, n, e, .tail _ (.tail _ (.tail _ (.tail _ (.tail _ hm))))⟩) (.tail _ (.tail _ (.tail _ (.tail _ (.head _))))) h4 F₅.keep

end
section

section
variable {prog : Program} {w : World} {A : Around} {s : Shared} {env : Env} {h₀ : Heap} {L : Addr} {m₀ : Str → Option Value} {S₀ : List (Addr × Obj)}
theorem comp_strE {elt iter : Expr} {x : Str} {px : Pos} {scope : Scope} {cl : List (Str × Addr)} {pos : Pos} {Q : Value → Shared → Prop} (F : Fr h₀ L s.heap m₀) (N : News h₀ L s.heap S₀) (y : Str) (G : Nat → Value → Prop)
    (hh : A.handled = none) (hclos : closureFor scope env = pure cl) (hcell : ∀ y ∈ scope.names, y.2 ≠ .cell) (hkind : scope.kind = .function)
    (hnames : ∀ y ∈ scope.names, y.2 = .local → scope.names.lookup y.1 = some .local) (hx : scope.names.lookup x = some .local) (hs : ∀ x, foldedSetIterable iter env x = pure x) (ha : y.cps.all (· < 128) = true) (hsz : y.cps.size < 1000)
    (h : wpAny (model prog w) A (eval iter env) (fun xv s₁ => (∃ t, xv = .str y t) ∧ ∃ h tk, s₁ = { s with heap := h, toks := tk } ∧ Kp s.heap h) (fun _ _ => False) s)
    (helt : ∀ C k u s₃ m₃, k ∈ y.cps.toList → Fr h₀ C s₃.heap m₃ → News h₀ C s₃.heap S₀ → Kp s.heap s₃.heap → m₃ x = some (.str (sg k) u) →
      wpAny (model prog w) A (eval elt (compEnvC scope cl C env)) (fun y s₄ => G k y ∧ Keeps s₃ s₄) (fun _ _ => False) s₃)
    (done : ∀ D ny ys h' tk, Paired G y.cps.toList ys → Fr h₀ L h' m₀ → News h₀ L h' ((D, listOf ys.toArray ny) :: S₀) → Kp s.heap h' → s.heap.get? D = none → Q (.ref D) { s with heap := h', toks := tk }) :
    wpAny (model prog w) A (eval (.ListComp elt [⟨.Name x px, iter, [], 0⟩] scope pos) env) Q (fun _ _ => False) s := by
  refine comp_core (n := y.cps.size) (P := SignAt y) (fun _ => true) (fun v r => ∀ k u, v = .str (sg k) u → G k r) F N hclos hcell hkind hnames hx hs (by rw [sizeLine_eq]; omega) (wpAny_mono h (fun xv s₁ h₁ => ?_) fun _ _ e => e)
    (fun C i v s₃ m₃ _ _ _ _ _ => ?_) (fun C i v s₃ m₃ hP _ F' N' k' hm => ?_) fun D ny ys vs' h' tk hlen hP hF a b c d => ?_
  · obtain ⟨⟨t, rfl⟩, h₁, tk₁, rfl, hk⟩ := h₁
    refine wpAny_pyIter_ascii ha ⟨_, _, _, _, _, rfl, rfl, fun b o e => Heap.get?_push_of_some _ (hk b o e), size_fresh hk, Walks.strAscii hh _ y t, ⟨_, Heap.get?_push_size _ rfl, rfl, rfl⟩, ?_⟩
    intro b hb
    show b < (h₁.push _).objs.size
    rw [Heap.size_push, List.mem_singleton.mp hb]
    exact Nat.lt_succ_self _
  · rw [List.forIn_nil]
    exact wpAny_pure ⟨rfl, _, _, rfl, fun _ _ e => e⟩
  · obtain ⟨k, u, hk, rfl⟩ := hP
    exact wpAny_mono (helt C k u s₃ m₃ (by simpa using Array.mem_of_getElem? hk) F' N' k' hm) (fun r s₄ h₄ => ⟨fun k' u' e => by injection e with e1 e2; injection e1 with e1; simp at e1; exact e1 ▸ h₄.1, h₄.2⟩) fun _ _ e => e
  · have := paired_idx (β := Nat) (G := G) (q := fun _ => true) (fun k v => ∃ u, v = .str (sg k) u) (fun _ _ _ => rfl) (fun b v r ⟨u, e⟩ hr => hr b u e) (vs := vs') (ys := ys) (l := y.cps.toList) (by rw [hlen]; simp)
      (fun j v e => by obtain ⟨k, u, hk, rfl⟩ := hP j v e; exact ⟨k, by simpa using hk, u, rfl⟩) hF
    rw [show (y.cps.toList.filter fun _ => true) = y.cps.toList from List.filter_eq_self.mpr fun _ _ => rfl] at this
    exact done D ny ys h' tk this a b c d

end
theorem abcd_at {i k : Nat} (h : (Str.ofString "abcd").cps[i]? = some k) : i < 4 ∧ k = 97 + i := by
  rw [show (Str.ofString "abcd").cps = #[97, 98, 99, 100] by decide +kernel] at h
  have hi : i < 4 := by
    rcases Nat.lt_or_ge i 4 with h1 | h1
    · exact h1
    · rw [Array.getElem?_eq_none h1] at h; cases h
  have : i = 0 ∨ i = 1 ∨ i = 2 ∨ i = 3 := by omega
  rcases this with rfl | rfl | rfl | rfl <;> (simp at h; omega)
/-- the texts of the letters: small, and of letters ahead only -/
structure BodiesOk (B : Nat → List Nat) : Prop where
  len : ∀ k ∈ [97, 98, 99, 100], (B k).length ≤ 2
  ahead : ∀ k ∈ [97, 98, 99, 100], ∀ j ∈ B k, j ∈ [48, 49, 65, 66, 67, 97, 98, 99] ∧ (lw j ∈ [48, 49] ∨ lw j ∈ [97, 98, 99] ∧ lw j < k)
theorem weights_ok (w : World) {mean : ExcName → Option Value} {mg mb : Str → Option Value} {dp un : Nat} {fr : Option (List Env)} {gd : Option (List Code)} {s : Shared} {Q E : Value → Shared → Prop}
    {db dw : Addr} {ow : Obj} {kvs : List (Str × Value)} {D Db : List (PyData × PyData)} {B : Nat → List Nat} {W : Nat → Int}
    (X : (Mine.hd.heap_39 w.params).In (hid s.heap [(dw, ow)])) (T : Top Mine.hd.view_39 LO mean mg mb (hid s.heap [(dw, ow)])) (hdp : dp + 2 < recursionLimit) (hu : un + 80 < cLine)
    (TB : StrTab PySem.Challenge.rw_pm0053_01.row.prog w (hid s.heap [(dw, ow)]) db Db) (hB : ∀ k ∈ [97, 98, 99, 100], lookup (.str (sg k)) Db = some (.str (tx (B k)))) (BO : BodiesOk B)
    (hw : s.heap.get? dw = some ow) (hsys : (dw == sysModules) = false) (hd : ow.IsDictOf (strKind PySem.Challenge.rw_pm0053_01.row.prog w) kvs) (hf : PyProof.V.FlatPairs PyData.str kvs D) (hn : D.length ≤ 2)
    (h0 : ∀ k ∈ [48, 49], lookup (.str (sg k)) D = some (.int (W k))) (hW : ∀ k ∈ [97, 98, 99, 100], W k = ((B k).map fun j => W (lw j)).sum) (hW2 : ∀ k ∈ [48, 49, 97, 98, 99, 100], 0 ≤ W k ∧ W k < 50)
    (ret : ∀ (o' : Obj) (kvs' : List (Str × Value)) (D' : List (PyData × PyData)) (h' : Heap) (tk' : Nat), o'.IsDictOf (strKind PySem.Challenge.rw_pm0053_01.row.prog w) kvs' → PyProof.V.FlatPairs PyData.str kvs' D' → D'.length ≤ 6 → (∀ k ∈ [48, 49, 97, 98, 99, 100], lookup (.str (sg k)) D' = some (.int (W k))) →
      (∀ b o, b ≠ dw → s.heap.get? b = some o → h'.get? b = some o) → h'.get? dw = some o' → Q (.ref dw) { s with heap := h', toks := tk' }) :
    wpAny (model PySem.Challenge.rw_pm0053_01.row.prog w) (AR dp un fr gd) (call (.ref 218) [.ref db, .ref dw]) Q E s := by
  revert X T
  k_fill
  intro X T
  refine wpAny_call ?_
  have hmu : ∀ p ∈ [(dw, ow)], s.heap.get? p.1 = some p.2 := fun p hp => by rw [List.mem_singleton.mp hp]; exact hw
  k_dflt (refine' enterMC [(dw, ow)] hmu [(Str.ofString "bodies", Value.ref db), (Str.ofString "weights", Value.ref dw)] ?k3 ?k5 ?k6 ?k7 ?k8 ?k9 ?kB ?kD ?_ ?c2 ?c3 ?c4)
  (case k3 => assumption); (case k5 => assumption); (case k6 => k_is); (case k7 => k_is); (case k8 => (dsimp only [AR, Around.deeper]; omega)); (case k9 => exact fun _ => rfl); (case kB => exact rfl); (case kD => decide +kernel); (case c2 => exact rfl); (case c3 => exact rfl); (case c4 => exact rfl); k_whole; intro L' h' tk' cells' F' N' Y' l1
  k_cells Y'
  rename_i oN dN
  have dN' : oN.data = .cell (some (.ref dw)) := dN
  clear dN
  simp only [List.cons_append, List.nil_append] at N'
  have hLl : @LT.lt Nat _ dw L' := l1 _ (.head _)
  try k_fold
  walk_at "my_steps"
  refine for_str (τ := Obj × List (Str × Value) × List (PyData × PyData)) F' (fun c => [(L' + 1, oN), (dw, c.1)])
    (fun i m c => m (Str.ofString "bodies") = some (.ref db) ∧ c.1.IsDictOf (strKind PySem.Challenge.rw_pm0053_01.row.prog w) c.2.1 ∧ PyProof.V.FlatPairs PyData.str c.2.1 c.2.2 ∧ c.2.2.length ≤ 2 + i ∧ ∀ k ∈ [48, 49] ++ [97, 98, 99, 100].take i, lookup (.str (sg k)) c.2.2 = some (.int (W k)))
    (ow, kvs, D) (Str.ofString "abcd") tk' rfl rfl rfl rfl (fun _ => rfl) (by decide +kernel) ?_ N' ?_ ?_ ?_
  · walk_at "my_steps"
  · exact ⟨by walk_at "my_lk", hd, hf, by omega, by simpa using h0⟩
  · rintro i k u m ⟨o, kvs, D⟩ h tk It oI hk ⟨h1, h2, h3, h4, h5⟩ hne F N
    dsimp only at h2 h3 h4 h5 hne N
    obtain ⟨hi, rfl⟩ := abcd_at hk
    have mk : 97 + i ∈ [97, 98, 99, 100] := by simp; omega
    have hBk := hB _ mk
    have bl := BO.len _ mk
    have ba := BO.ahead _ mk
    walk_at "my_steps"
    rename Fr _ _ _ _ => F₁
    rename News _ _ _ _ => N₁
    k_dflt (refine' comp_strE F₁ N₁ (tx (B (97 + i))) (fun j v => ∃ u, v = .int (W (lw j)) u) ?a ?b ?c ?d ?e ?f ?g ?y ?z ?it ?el ?dn)
    (case a => rfl); (case b => rfl); (case c => decide); (case d => rfl); (case e => decide); (case f => rfl); (case g => exact fun _ => rfl)
    · rw [Array.all_eq_true']
      intro j hj
      have := (ba j (by simpa using hj)).1
      simp at this ⊢
      omega
    · simp; omega
    · refine opq fun P hP => ?_
      walk_at "my_steps"
      exact hP _ _ ⟨⟨_, rfl⟩, _, _, rfl, fun _ _ e => e⟩
    · intro C j u s₃ m₃ hj F N kk hm
      refine opq fun P hP => ?_
      obtain ⟨b1, b2⟩ := ba j (by simpa using hj)
      have hlow := low_all j (by simp at b1 ⊢; omega)
      have hlk : lookup (.str (sg (lw j))) D = some (.int (W (lw j))) := by
        refine h5 _ ?_
        rcases b2 with b2 | ⟨b2, b3⟩
        · exact List.mem_append.mpr (.inl b2)
        · refine List.mem_append.mpr (.inr ?_)
          have : i = 0 ∨ i = 1 ∨ i = 2 ∨ i = 3 := by omega
          rcases this with rfl | rfl | rfl | rfl <;> simp at b2 b3 ⊢ <;> omega
      have TW : StrTab PySem.Challenge.rw_pm0053_01.row.prog w s₃.heap dw D := ⟨hsys, _, Heap.dictOf_iff.mpr ⟨o, N.get (.tail _ (.tail _ (.head _))), h2⟩, h3⟩
      walk_at "my_steps"
      exact hP _ _ ⟨⟨_, rfl⟩, _, _, rfl, fun _ _ e => e⟩
    · intro Dl ny ys h₅ tk₅ hp F₅ N₅ kk hDl
      have hI : IntsAre ys ((B (97 + i)).map fun j => W (lw j)) := by
        have := hp
        simp only at this
        clear hp N₅ F₅ kk hDl
        generalize B (97 + i) = bs at this
        induction this with
        | nil => exact .nil
        | cons e _ ih => obtain ⟨u, rfl⟩ := e; exact .cons _ _ ih
      have d1 : @Ne Nat Dl dw := ne_fresh N₁ (.tail _ (.tail _ (.head _))) hDl
      have d2 : @Ne Nat dw It := hne _ (.tail _ (.head _))
      have d3 : @Ne Nat (L' + 1) It := hne _ (.head _)
      walk_at "my_steps"
      rename Fr _ _ _ _ => F₆
      rename News _ _ _ _ => N₆
      k_dflt (refine' setItem_K (enc := PyData.str) PyProof.V.same_str (strKind_is _ _ _ _) (PyProof.V.Flat.int _ _) F₆ N₆ ?UU h2 h3 ?_ ?zz)
      case UU => exact .tail d1 (.tail (Ne.symm d2) (.tail (Nat.ne_of_gt (Nat.lt_succ_of_lt hLl)) (.head fun _ h => nomatch h)))
      case zz => rw [sizeLine_eq]; omega
      intro h₇ o₇ F₇ N₇ g1 g2
      dsimp only
      walk_at "my_steps"
      refine ⟨_, (o₇, _, _), _, _, rfl, ⟨by walk_at "my_lk", g1, g2, ?_, ?_⟩, F₇, news_tail N₇, ?_⟩
      · have := PyProof.V.putD_length_le (.str (sg (97 + i))) (.int ((B (97 + i)).map fun j => W (lw j)).sum) D
        show (PyProof.V.putD _ _ D).length ≤ 2 + (i + 1)
        exact Nat.le_trans this (by omega)
      · intro k hk
        show lookup (.str (sg k)) (PyProof.V.putD (.str (sg (97 + i))) _ D) = _
        by_cases hki : k = 97 + i
        · subst hki
          rw [PyProof.V.lookup_putK_same (enc := PyData.str) PyProof.V.keyEnc_str, ← hW _ mk]
        · rw [PyProof.V.lookup_putK_other (enc := PyData.str) PyProof.V.keyEnc_str (fun e => hki (by simpa using e))]
          refine h5 k ?_
          have : i = 0 ∨ i = 1 ∨ i = 2 ∨ i = 3 := by omega
          rcases this with rfl | rfl | rfl | rfl <;> simp at hk hki ⊢ <;> omega
      · intro p hp
        simp only [List.mem_cons, List.not_mem_nil, or_false] at hp
        rcases hp with rfl | rfl
        · exact d3
        · exact d2
  · rintro m ⟨o, kvs, D⟩ h tk ⟨h1, h2, h3, h4, h5⟩ F N
    dsimp only at h2 h3 h4 h5 N ⊢
    walk_at "my_steps"
    have h4' : (Str.ofString "abcd").cps.size = 4 := by decide +kernel
    rw [h4'] at h4 h5
    refine ret o kvs D h _ h2 h3 h4 (fun k hk => h5 k (by simpa using hk)) (fun b x hb e => F.keep _ _ (hid_get e (by simpa using hb))) (N.get (.tail _ (.head _)))

end
section

section
variable {prog : Program} {w : World} {A : Around} {s : Shared} {env : Env} {h₀ : Heap}
/-- for x in a text of low signs -/
theorem for_strE {τ : Type} {h₀ : Heap} {L : Addr} {m₀ : Str → Option Value} (_F₀ : Fr h₀ L s.heap m₀) (S : τ → List (Addr × Obj)) (J : Nat → (Str → Option Value) → τ → Prop) (c₀ : τ) (y : Str) {Q : Flow → Shared → Prop} {x : Str} {px pos : Pos} {iter : Expr} {body : List Stmt}
    (hL : env.locals = L) (hh : A.handled = none) (hx : env.kindOf x = some .local) (hk : env.scope.kind = .function) (hs : ∀ v, foldedSetIterable iter env v = pure v) (ha : y.cps.all (· < 128) = true)
    (h : wpAny (model prog w) A (eval iter env) (fun xv s₁ => (∃ t, xv = .str y t) ∧ ∃ h tk, s₁ = { s with heap := h, toks := tk } ∧ Fr h₀ L h m₀ ∧ News h₀ L h (S c₀)) (fun _ _ => False) s)
    (hj : J 0 m₀ c₀)
    (turn : ∀ i k u m c h tk It oI, y.cps[i]? = some k → J i m c → (∀ p ∈ S c, p.1 ≠ It) → Fr h₀ L h (fun z => if z = x then some (.str ⟨#[k]⟩ u) else m z) → News h₀ L h ((It, oI) :: S c) →
        wpAny (model prog w) A (execs body env) (TurnM h₀ L S (J (i + 1)) It oI { s with heap := h, toks := tk } Q) (fun _ _ => False) { s with heap := h, toks := tk })
    (done : ∀ m c h tk, J y.cps.size m c → Fr h₀ L h m → News h₀ L h (S c) → Q .next { s with heap := h, toks := tk }) :
    wpAny (model prog w) A (exec (.For (.Name x px) iter body [] pos) env) Q (fun _ _ => False) s := by
  subst hL
  refine wpAny_For (wpAny_mono h (fun xv s₁ h₁ => ?_) fun _ _ e => e) hs
  obtain ⟨⟨t, rfl⟩, h₁, tk₁, rfl, F₁, N₁⟩ := h₁
  refine wpAny_pyIter_ascii ha ?_
  refine loop_led (fun c : (Str → Option Value) × τ => S c.2) (fun c => c.1) (fun i c => J i c.1 c.2) (m₀, c₀) (s := { s with heap := h₁.push _, toks := tk₁ }) (Walks.strAscii hh _ y t) ⟨_, Heap.get?_push_size _ rfl, rfl, rfl⟩ (fun _ _ _ _ _ _ q => wpAny_pure q) (Nat.ne_of_lt F₁.ns.lt) (fresh_none F₁) (fun _ _ st => let ⟨o, ho, _⟩ := st; ⟨o, ho⟩)
    (fun b hb hne => absurd (by simpa using hb) hne) (F₁.push _) (news_push1 F₁ N₁ _) (news_ne_size N₁) hj ?_ (fun c h tk a b d => done c.1 c.2 h tk a b d)
  rintro i v c h tk oI _ ⟨k, u, hk', rfl⟩ hJ hne F' N'
  refine turn_name (s := s) hx hk F' N' fun h' tk' F'' N'' => ?_
  exact wpAny_mono (turn i k u c.1 c.2 h' tk' _ oI hk' hJ hne F'' N'') (fun f s₃ h₃ => h₃.toP ⟨_, _, rfl⟩) fun _ _ e => e

end
abbrev sumF (f : Nat → Int) (l : List Nat) : Int := (l.map f).sum
abbrev six : List Nat := [48, 49, 97, 98, 99, 100]
theorem lw_small : ∀ j ∈ [48, 49, 65, 66, 67, 68, 97, 98, 99, 100], lw j < 102 ∧ lw j ∈ six := by decide
theorem tx_ne {l : List Nat} (h : l ≠ []) : (tx l != Str.ofString "") = true := by
  cases l with
  | nil => exact absurd rfl h
  | cons a r =>
    refine bne_iff_ne.mpr fun e => ?_
    have := congrArg Str.length e
    rw [tx_len] at this
    rw [show (Str.ofString "").length = 0 from by decide] at this
    simp at this
theorem endsOf_getD {f : Nat → Int} {l : List Nat} {n j : Nat} (h : j < n) : (endsOf f l n).getD j 0 = presum f l (j + 1) := by
  unfold endsOf
  rw [List.getD_eq_getElem?_getD, List.getElem?_map, List.getElem?_range h]; rfl
theorem presum_mono {f : Nat → Int} {l : List Nat} (h : ∀ k ∈ l, 0 ≤ f k) {i j : Nat} (hij : i ≤ j) : presum f l i ≤ presum f l j := by
  induction hij with
  | refl => exact Int.le_refl _
  | @step j _ ih =>
    cases e : l[j]? with
    | some k => rw [presum_succ e]; have := h k (List.mem_of_getElem? e); omega
    | none =>
      have : presum f l (j + 1) = presum f l j := by unfold presum; rw [List.take_add_one, e]; simp
      show presum f l i ≤ presum f l (j + 1)
      omega
theorem not_digit : ∀ k ∈ [48, 49, 65, 66, 67, 68, 97, 98, 99, 100], (Builtin.Str.occurrences (Str.ofString "01") (sg k) 0 (Str.ofString "01").length 1).isEmpty = true → k ∈ [97, 98, 99, 100, 65, 66, 67, 68] := by decide +kernel
theorem a_digit : ∀ k ∈ [48, 49, 65, 66, 67, 68, 97, 98, 99, 100], (Builtin.Str.occurrences (Str.ofString "01") (sg k) 0 (Str.ofString "01").length 1).isEmpty = false → k = 48 ∨ k = 49 := by decide +kernel
theorem let_low : ∀ k ∈ [97, 98, 99, 100, 65, 66, 67, 68], lw k ∈ [97, 98, 99, 100] ∧ oth k ∈ nms ∧ lw (oth k) = lw k ∧ lw (lw k) = lw k := by decide
theorem let_ge : ∀ k ∈ [97, 98, 99, 100], 97 ≤ k := by decide
theorem ahead_in {j : Nat} (h : j ∈ [48, 49, 65, 66, 67, 97, 98, 99]) : j ∈ [48, 49, 65, 66, 67, 68, 97, 98, 99, 100] := by simp at h ⊢; omega
theorem sumF_append (f : Nat → Int) (a b : List Nat) : sumF f (a ++ b) = sumF f a + sumF f b := by simp [sumF, List.sum_append]
theorem sumF_flat {f F : Nat → Int} {ex : Nat → List Nat} : ∀ {l : List Nat}, (∀ j ∈ l, F (lw j) = sumF f (ex (lw j))) → sumF (fun j => F (lw j)) l = sumF f (l.flatMap fun j => ex (lw j))
  | [], _ => rfl
  | a :: r, h => by
    rw [List.flatMap_cons, sumF_append, ← h a (.head _), ← sumF_flat fun j hj => h j (.tail _ hj)]
    simp [sumF]
/-- what a walk has told: the sign, what lies ahead of it -/
def WalkEnd (Tx : List Nat) (w0 v0 : Nat → Int) (goal0 : Int) (nm : Nat) (told : Int) : Prop := ∃ pre suf, Tx = pre ++ nm :: suf ∧ told = sumF v0 pre ∧ sumF w0 pre ≤ goal0 ∧ goal0 < sumF w0 pre + w0 nm

theorem walk_ok (w : World) {mean : ExcName → Option Value} {mg mb : Str → Option Value} {dp un : Nat} {fr : Option (List Env)} {gd : Option (List Code)} {s : Shared} {Q E : Value → Shared → Prop}
    {hd d l : Addr} {hs : Int} {tk : Tok} {vs : List Value} {n : Nat} {tb : Tbl} {ds dt : Addr} {Ds Dt : List (PyData × PyData)} {B ex : Nat → List Nat} {W V w0 v0 : Nat → Int} {word0 : List Nat} {goal0 : Int} {tw tg : Tok}
    (X : (Mine.hd.heap_39 w.params).In s.heap) (T : Top Mine.hd.view_39 LO mean mg mb s.heap) (hdp : dp + 5 < recursionLimit) (hu : un + 160 < cLine)
    (H : HeadAt s.heap hd d l hs tk vs n) (TB : TblAt s.heap vs tb) (TO : TblOk tb) (hget : ∀ k ∈ [97, 98, 99, 100], (getT tb k).getD [] = B k) (BO : BodiesOk B)
    (TS : StrTab PySem.Challenge.rw_pm0053_01.row.prog w s.heap ds Ds) (hS : ∀ k ∈ six, lookup (.str (sg k)) Ds = some (.int (W k)))
    (TT : StrTab PySem.Challenge.rw_pm0053_01.row.prog w s.heap dt Dt) (hT : ∀ k ∈ six, lookup (.str (sg k)) Dt = some (.int (V k)))
    (e48 : ex 48 = [48]) (e49 : ex 49 = [49]) (eB : ∀ k ∈ [97, 98, 99, 100], ex k = (B k).flatMap fun j => ex (lw j))
    (hW : ∀ k ∈ six, W k = sumF w0 (ex k) ∧ 0 ≤ W k ∧ W k < 50) (hV : ∀ k ∈ six, V k = sumF v0 (ex k) ∧ 0 ≤ V k ∧ V k < 50)
    (hw0 : ∀ k ∈ word0, k ∈ [48, 49, 65, 66, 67, 68, 97, 98, 99, 100]) (hwl : word0.length < 50) (hg0 : 0 ≤ goal0) (hg1 : goal0 < sumF (fun k => W (lw k)) word0)
    (ret : ∀ (r : Addr) (nm : Nat) (told : Int) (t1 t2 : Tok) (nr : Nat) (h' : Heap) (tk' : Nat), WalkEnd (word0.flatMap fun j => ex (lw j)) w0 v0 goal0 nm told → h'.get? r = some (listOf #[.str (sg nm) t1, .int told t2] nr) → s.heap.get? r = none → Kp s.heap h' → Q (.ref r) { s with heap := h', toks := tk' }) :
    wpAny (model PySem.Challenge.rw_pm0053_01.row.prog w) (AR dp un fr gd) (call (.ref 239) [.ref hd, .str (tx word0) tw, .ref ds, .ref dt, .int goal0 tg]) Q E s := by
  revert X T
  k_fill
  intro X T
  k_dflt (refine' enter [(Str.ofString "head", Value.ref hd), (Str.ofString "word", Value.str (tx word0) tw), (Str.ofString "steer", Value.ref ds), (Str.ofString "tally", Value.ref dt), (Str.ofString "goal", Value.int goal0 tg)] ?k3 ?k5 ?k6 ?k7 ?k8 ?k9 ?kB ?_ ?c2 ?c3 ?c4 ?c5)
  (case k3 => assumption); (case k5 => assumption); (case k6 => k_is); (case k7 => k_is); (case k8 => (dsimp only [AR, Around.deeper]; omega)); (case k9 => exact fun _ => rfl); (case c5 => decide); (case kB => exact rfl); (case c2 => exact rfl); (case c3 => exact rfl); (case c4 => exact rfl); k_whole; intro L' h' F' N'; (try dsimp only)
  try k_fold
  walk_at "my_steps"
  rename Fr _ _ _ _ => F₁
  rename News _ _ _ _ => N₁
  refine while_led (τ := List Nat × Int × List Nat × List Nat × Nat) F₁ (fun _ => [])
    (fun k m c => m (Str.ofString "head") = some (.ref hd) ∧ m (Str.ofString "steer") = some (.ref ds) ∧ m (Str.ofString "tally") = some (.ref dt) ∧ (∃ t, m (Str.ofString "word") = some (.str (tx c.1) t)) ∧ (∃ t, m (Str.ofString "goal") = some (.int c.2.1 t)) ∧ (∃ t, m (Str.ofString "told") = some (.int (sumF v0 c.2.2.1) t)) ∧
      (∀ j ∈ c.1, lw j < k) ∧ (∀ j ∈ c.1, j ∈ [48, 49, 65, 66, 67, 68, 97, 98, 99, 100]) ∧ c.1.length < 50 ∧
      (c.1 ≠ [] → 0 ≤ c.2.1 ∧ c.2.1 < sumF (fun k => W (lw k)) c.1 ∧ goal0 = c.2.1 + sumF w0 c.2.2.1 ∧ (word0.flatMap fun j => ex (lw j)) = c.2.2.1 ++ (c.1.flatMap fun j => ex (lw j)) ++ c.2.2.2.1) ∧
      (c.1 = [] → (∃ t, m (Str.ofString "name") = some (.str (sg c.2.2.2.2) t)) ∧ WalkEnd (word0.flatMap fun j => ex (lw j)) w0 v0 goal0 c.2.2.2.2 (sumF v0 c.2.2.1)))
    102 (word0, goal0, [], [], 0) N₁ ?_ ?_
  · refine ⟨by walk_at "my_lk", by walk_at "my_lk", by walk_at "my_lk", ⟨_, by walk_at "my_lk"⟩, ⟨_, by walk_at "my_lk"⟩, ⟨_, by walk_at "my_lk"⟩, ?_, hw0, hwl, fun _ => ⟨hg0, hg1, by simp [sumF], by simp⟩, ?_⟩
    · intro j hj
      have := lw_small j (hw0 j hj)
      omega
    · intro e
      subst e
      simp [sumF] at hg1
      omega
  · rintro k m ⟨word, goal, pre, suf, nm⟩ h tk' ⟨h1, h2, h3, ⟨t4, h4⟩, ⟨t5, h5⟩, ⟨t6, h6⟩, h8, h9, h10, h11, h12⟩ F N
    dsimp only at h4 h5 h6 h8 h9 h10 h11 h12 ⊢
    by_cases hw : word = []
    · subst hw
      obtain ⟨⟨t7, h7⟩, hE⟩ := h12 rfl
      walk_at "my_steps"
      · rename Fr _ _ _ _ => F₂
        rename News _ _ _ _ => N₂
        exact ret _ _ _ _ _ _ _ _ hE (N₂.get (.head _)) (N₂ _ (.head _)).2.2 F₂.keep
    · obtain ⟨g0, g1, g2, g3⟩ := h11 hw
      walk_at "my_steps"
      · rename Fr _ _ _ _ => F₂
        rename News _ _ _ _ => N₂
        refine ends_ok w (X.keeps F₂.keep) (T.keeps F₂.keep) (by show dp + 1 + 1 < _; omega) (by show un + 3 + 40 < _; omega) (fun k => W (lw k)) (TS.keep F₂.keep) ?y1 ?y2 ?y3 ?_
        case y1 =>
          rw [Array.all_eq_true']
          intro j hj
          have := h9 j (by simpa using hj)
          simp at this ⊢
          omega
        case y2 => simp; omega
        case y3 =>
          intro j hj
          have hj' := h9 j (by simpa using hj)
          have h6' := (lw_small j hj').2
          refine ⟨low_all j (by simp at hj' ⊢; omega), hS _ h6', (hW _ h6').2.1, by have := (hW _ h6').2.2; omega⟩
        intro h₃ tk₃ lE vE nE k₃ hE1 hE2
        replace F₂ := F₂.keeps k₃
        replace N₂ := N₂.grown k₃
        walk_at "my_steps"
        rename Fr _ _ _ _ => F₃
        rename News _ _ _ _ => N₃
        have hwn : ∀ j ∈ word, 0 ≤ W (lw j) := fun j hj => (hW _ (lw_small j (h9 j hj)).2).2.1
        have hsz : (tx word).cps.size = word.length := by simp
        refine bisect_ok w (X.keeps F₃.keep) (T.keeps F₃.keep) (by show dp + 1 + 1 < _; omega) (by show un + 3 + 40 < _; omega) hE1 hE2 (by rw [endsOf_length, hsz]; omega) (fun i j hij hj => ?_) ?_
        · rw [endsOf_length] at hj
          rw [endsOf_getD (by omega), endsOf_getD hj]
          exact presum_mono (by simpa using hwn) (by omega)
        intro kk tk5 h₄ tk₄ b1 b2 b3 k₄
        replace F₃ := F₃.keeps k₄
        replace N₃ := N₃.grown k₄
        walk_at "my_steps"
        rename Fr _ _ _ _ => F₄
        rename News _ _ _ _ => N₄
        have hel : (endsOf (fun k => W (lw k)) (tx word).cps.toList (tx word).cps.size).length = word.length := by rw [endsOf_length, hsz]
        have htl : (tx word).cps.toList = word := by simp
        rw [htl, hsz] at b1 b2 b3
        have hkl : kk < word.length := by
          rw [endsOf_length] at b1
          rcases Nat.lt_or_ge kk word.length with h | h
          · exact h
          · have h0 : 0 < word.length := List.length_pos_iff.mpr hw
            have := b2 (word.length - 1) (by omega)
            rw [endsOf_getD (by omega)] at this
            have e : presum (fun k => W (lw k)) word (word.length - 1 + 1) = sumF (fun k => W (lw k)) word := by
              rw [Nat.sub_add_cancel h0]; unfold presum sumF; rw [List.take_length]
            omega
        refine for_strE (τ := Unit) F₄ (fun _ => []) (fun i m _ => m (Str.ofString "head") = some (.ref hd) ∧ m (Str.ofString "steer") = some (.ref ds) ∧ m (Str.ofString "tally") = some (.ref dt) ∧ (∃ t, m (Str.ofString "word") = some (.str (tx word) t)) ∧ (∃ t, m (Str.ofString "k") = some (.int kk t)) ∧
            (∃ t, m (Str.ofString "goal") = some (.int (goal - presum (fun k => W (lw k)) word i) t)) ∧ (∃ t, m (Str.ofString "told") = some (.int (sumF v0 pre + presum (fun k => V (lw k)) word i) t)))
          () (tx (word.take kk)) rfl rfl rfl rfl (fun _ => rfl) ?y4 ?y5 ?y6 ?y7 ?y8
        case y4 =>
          rw [Array.all_eq_true']
          intro j hj
          have := h9 j (List.mem_of_mem_take (by simpa using hj))
          simp at this ⊢
          omega
        case y5 =>
          refine opq fun P hP => ?_
          walk_at "my_steps"
          rename Fr _ _ _ _ => F₅
          rw [slice_tx (by omega), Int.toNat_natCast]
          exact hP _ _ ⟨⟨_, rfl⟩, _, _, rfl, F₅, News.nil⟩
        case y6 => exact ⟨by walk_at "my_lk", by walk_at "my_lk", by walk_at "my_lk", ⟨_, by walk_at "my_lk"⟩, ⟨_, by walk_at "my_lk"⟩, ⟨_, by rw [presum_zero, Int.sub_zero]; walk_at "my_lk"⟩, ⟨_, by rw [presum_zero, Int.add_zero]; walk_at "my_lk"⟩⟩
        case y7 =>
          rintro i j u m' _ h tk It oI hj ⟨q1, q2, q3, ⟨t8, q4⟩, ⟨t9, q5⟩, ⟨t10, q6⟩, ⟨t11, q7⟩⟩ hne F N
          have hj2 : (word.take kk)[i]? = some j := by simpa using hj
          have hj3 : word[i]? = some j := by
            rw [List.getElem?_take] at hj2
            split at hj2
            · exact hj2
            · cases hj2
          have hjm := h9 j (List.mem_of_getElem? hj3)
          have h6' := (lw_small j hjm).2
          have hlow := low_all j (by simp at hjm ⊢; omega)
          have l1 := hS _ h6'
          have l2 := hT _ h6'
          walk_at "my_steps"
          rename Fr _ _ _ _ => F₅
          rename News _ _ _ _ => N₅
          refine ⟨_, (), _, _, rfl, ⟨by walk_at "my_lk", by walk_at "my_lk", by walk_at "my_lk", ⟨_, by walk_at "my_lk"⟩, ⟨_, by walk_at "my_lk"⟩, ⟨_, by rw [presum_succ hj3, ← Int.sub_sub]; walk_at "my_lk"⟩, ⟨_, by rw [presum_succ hj3, ← Int.add_assoc]; walk_at "my_lk"⟩⟩, F₅, N₅, fun _ h => nomatch h⟩
        case y8 =>
          rintro m' _ h tk ⟨q1, q2, q3, ⟨t8, q4⟩, ⟨t9, q5⟩, ⟨t10, q6⟩, ⟨t11, q7⟩⟩ F N
          have hys : (tx (word.take kk)).cps.size = kk := by simp; omega
          rw [hys] at q6 q7
          have hH1 := H.inst
          have hH2 := H.dict
          have hH3 := H.list
          obtain ⟨nm', hnm⟩ : ∃ nm', word[kk]? = some nm' := ⟨_, List.getElem?_eq_getElem hkl⟩
          have hit : Txt.item (tx word) (kk : Int) = sg nm' := by rw [item_tx_eq (by omega) (by omega), Int.toNat_natCast, List.getD_eq_getElem?_getD, hnm]; rfl
          have hnm9 := h9 nm' (List.mem_of_getElem? hnm)
          have hsm := lw_small nm' hnm9
          have p0 : presum (fun k => W (lw k)) word kk ≤ goal := by
            cases kk with
            | zero => rw [presum_zero]; exact g0
            | succ j => have := b2 j (by omega); rw [endsOf_getD (by omega)] at this; exact this
          have p1 : goal < presum (fun k => W (lw k)) word kk + W (lw nm') := by
            have := b3 kk (Nat.le_refl _) (by rw [endsOf_length]; exact hkl)
            rw [endsOf_getD hkl, presum_succ hnm] at this
            exact this
          have htk : ∀ j ∈ word.take kk, j ∈ [48, 49, 65, 66, 67, 68, 97, 98, 99, 100] := fun j hj => h9 j (List.mem_of_mem_take hj)
          have pW : presum (fun k => W (lw k)) word kk = sumF w0 ((word.take kk).flatMap fun j => ex (lw j)) := sumF_flat fun j hj => (hW _ (lw_small j (htk j hj)).2).1
          have pV : presum (fun k => V (lw k)) word kk = sumF v0 ((word.take kk).flatMap fun j => ex (lw j)) := sumF_flat fun j hj => (hV _ (lw_small j (htk j hj)).2).1
          have hsp : word = word.take kk ++ nm' :: word.drop (kk + 1) := by
            conv => lhs; rw [← List.take_append_drop kk word]
            congr 1
            rw [List.drop_eq_getElem_cons hkl]
            congr 1
            exact Option.some.inj ((List.getElem?_eq_getElem hkl).symm.trans hnm)
          have g3' : (word0.flatMap fun j => ex (lw j)) = (pre ++ (word.take kk).flatMap fun j => ex (lw j)) ++ ex (lw nm') ++ (((word.drop (kk + 1)).flatMap fun j => ex (lw j)) ++ suf) := by
            rw [g3]
            conv => lhs; rw [hsp]
            simp
          dsimp only
          walk_at "my_steps"
          · rename _ ∨ _ => hc
            rw [tx_len] at hc
            omega
          · rename _ = true => hc
            rw [hit] at hc ⊢
            have hlet := not_digit nm' hnm9 hc
            rename Fr _ _ _ _ => F₅
            rename News _ _ _ _ => N₅
            refine other_ok w (X.keeps F₅.keep) (T.keeps F₅.keep) (by show dp + 1 + 1 < _; omega) (by show un + 3 + 40 < _; omega) hlet ?_
            intro tO h₆ tk₆ k₆
            replace F₅ := F₅.keeps k₆
            replace N₅ := N₅.grown k₆
            walk_at "my_steps"
            rename Fr _ _ _ _ => F₆
            rename News _ _ _ _ => N₆
            have hl4 := let_low nm' hlet
            refine get_ok w (X.keeps F₆.keep) (T.keeps F₆.keep) (by show dp + 1 + 2 < _; omega) (by show un + 3 + 80 < _; omega) hl4.2.1 (H.keep F₆.keep) (TB.keep F₆.keep) TO ?_
            intro v₇ h₇ tk₇ hv k₇
            replace F₆ := F₆.keeps k₇
            replace N₆ := N₆.grown k₇
            have hgt : getT tb (oth nm') = getT tb (lw nm') := by unfold getT; rw [hl4.2.2.1, hl4.2.2.2]
            have hBe := hget _ hl4.1
            rw [hgt] at hv
            have hvB : ∃ t, v₇ = .str (tx (B (lw nm'))) t := by
              revert hv hBe
              cases getT tb (lw nm') with
              | none => intro hv hBe; exact ⟨_, by rw [← hBe]; exact hv⟩
              | some b => rintro ⟨t, rfl⟩ hBe; exact ⟨t, by rw [← hBe]; rfl⟩
            obtain ⟨tB, rfl⟩ := hvB
            walk_at "my_steps"
            rename Fr _ _ _ _ => F₇
            rename News _ _ _ _ => N₇
            have hBa := BO.ahead _ hl4.1
            have hBl := BO.len _ hl4.1
            have hWB : W (lw nm') = sumF (fun k => W (lw k)) (B (lw nm')) := by
              rw [(hW _ hsm.2).1, eB _ hl4.1]
              exact (sumF_flat fun j hj => (hW _ (lw_small j (ahead_in (hBa j hj).1)).2).1).symm
            have hne' : B (lw nm') ≠ [] := by
              intro e
              rw [e] at hWB
              simp only [sumF, List.map_nil, List.sum_nil] at hWB
              omega
            refine ⟨lw nm', _, (B (lw nm'), goal - presum (fun k => W (lw k)) word kk, pre ++ (word.take kk).flatMap (fun j => ex (lw j)), ((word.drop (kk + 1)).flatMap fun j => ex (lw j)) ++ suf, 0), _, _, h8 _ (List.mem_of_getElem? hnm), rfl,
              ⟨by walk_at "my_lk", by walk_at "my_lk", by walk_at "my_lk", ⟨_, by walk_at "my_lk"⟩, ⟨_, by walk_at "my_lk"⟩, ⟨_, by rw [sumF_append, ← pV]; walk_at "my_lk"⟩, ?_, fun j hj => ahead_in (hBa j hj).1, by show (B (lw nm')).length < 50; omega, fun _ => ⟨?_, ?_, ?_, ?_⟩, fun e => absurd e hne'⟩, F₇, N₇⟩
            · intro j hj
              rcases (hBa j hj).2 with h | ⟨_, h⟩
              · have := let_ge _ hl4.1; simp at h; omega
              · exact h
            · show 0 ≤ goal - presum (fun k => W (lw k)) word kk
              omega
            · show goal - presum (fun k => W (lw k)) word kk < sumF (fun k => W (lw k)) (B (lw nm'))
              omega
            · show goal0 = goal - presum (fun k => W (lw k)) word kk + sumF w0 (pre ++ (word.take kk).flatMap (fun j => ex (lw j)))
              rw [sumF_append, ← pW]
              omega
            · show _ = (pre ++ (word.take kk).flatMap (fun j => ex (lw j))) ++ (B (lw nm')).flatMap (fun j => ex (lw j)) ++ (((word.drop (kk + 1)).flatMap fun j => ex (lw j)) ++ suf)
              rw [← eB _ hl4.1]
              exact g3'
          · rename _ = false => hc
            rw [hit] at hc
            have hdg := a_digit nm' hnm9 hc
            rename Fr _ _ _ _ => F₅
            rename News _ _ _ _ => N₅
            have hlw : lw nm' = nm' := by rcases hdg with rfl | rfl <;> rfl
            have hex : ex nm' = [nm'] := by rcases hdg with rfl | rfl <;> assumption
            have hw0 : W nm' = w0 nm' := by
              have := (hW _ hsm.2).1
              rw [hlw, hex] at this
              simpa [sumF] using this
            have hk0 : 0 < k := by
              have := h8 _ (List.mem_of_getElem? hnm)
              omega
            rw [hlw, hex] at g3'
            rw [hlw, hw0] at p1
            refine ⟨0, _, ([], goal - presum (fun k => W (lw k)) word kk, pre ++ (word.take kk).flatMap (fun j => ex (lw j)), [], nm'), _, _, hk0, rfl,
              ⟨by walk_at "my_lk", by walk_at "my_lk", by walk_at "my_lk", ⟨_, by rw [show tx [] = Str.ofString "" from by decide]; walk_at "my_lk"⟩, ⟨_, by walk_at "my_lk"⟩, ⟨_, by rw [sumF_append, ← pV]; walk_at "my_lk"⟩, fun _ h => (nomatch h), fun _ h => (nomatch h), (by show 0 < 50; decide), fun h => absurd rfl h, fun _ => ⟨⟨_, by rw [← hit]; walk_at "my_lk"⟩, ⟨_, ((word.drop (kk + 1)).flatMap fun j => ex (lw j)) ++ suf, ?_, rfl, ?_, ?_⟩⟩⟩, F₅, N₅⟩
            · rw [g3']
              simp
            · show sumF w0 (pre ++ _) ≤ goal0
              rw [sumF_append, ← pW]
              omega
            · show goal0 < sumF w0 (pre ++ _) + w0 nm'
              rw [sumF_append, ← pW]
              omega
      · rename_i hc
        exact absurd (tx_ne hw) (by simpa using hc)

end
section
abbrev tupObj (vs : List Value) : Obj := { cls := .type "tuple", data := .seq vs.toArray }
theorem peek1_push {α : Type} {K : Frag} {M : Model} {A : Around} {E : Value → Shared → Prop} {Q : α → Shared → Prop} {s : Shared} {o : Obj} {r : Addr → α} (X : K.In s.heap) (q : Q (r s.heap.objs.size) { s with heap := s.heap.push o }) (t : Sem α) :
    ∀ (g : Addr → Option α), peek1 K ⟨M.prog, M.w.params⟩ t = some (o, g) → (∀ D, g D = some (r D)) → wpAny M A t Q E s := by
  induction t with
  | rule _ k ih => exact fun g e hg Γ p hΓ => ih () g e hg Γ p hΓ
  | point _ k ih => exact fun g e hg Γ p hΓ => ih () g e hg Γ p hΓ
  | ask k ih => exact fun g e hg Γ p hΓ => ih _ g e hg Γ p hΓ
  | load a _ k ih =>
    intro g e hg Γ p hΓ
    simp only [peek1] at e
    cases ho : K.lookup a with
    | none => rw [ho] at e; cases e
    | some ob => rw [ho] at e; exact ⟨ob, X _ _ ho, ih ob g e hg Γ p hΓ⟩
  | alloc ob k _ =>
    intro g e hg
    have e : some (ob, fun D => peek K ⟨M.prog, M.w.params⟩ (k D)) = some (o, g) := e
    obtain ⟨rfl, rfl⟩ := Prod.mk.inj (Option.some.inj e)
    show wpAny M A (alloc ob >>= k) Q E s
    refine wpAny_bind (wpAny_alloc ?_)
    exact (Looks.of_peek (M := M) (h := s.heap.push ob) (X.keeps fun b x hb => Heap.get?_push_of_some _ hb) (hg s.heap.objs.size)).here (s := { s with heap := s.heap.push ob }) q
  | _ => intro g e; cases e
section
variable {prog : Program} {w : World} {A : Around} {s : Shared} {K : Frag} {p : Program} {loose : List Str} {mean : ExcName → Option Value} {mg mb : Str → Option Value} {E : Value → Shared → Prop} {Q : Value → Shared → Prop}
  {name qual : Str} {params : Arguments} {body : List Stmt} {scope : Scope} {dV kV doc pm cdv ct oc : Value} {an od : Option Addr} {osl : Array (Option Value)} {f : Addr} {pos : List Value} {kw : List (Str × Value)}
/-- a def with a rest parameter is entered -/
theorem enterV (vs : List Value) (binds : Addr → List (Str × Value)) {g₁ : Addr → Option (List (Str × Value))} (X : K.In s.heap) (T : Top p loose mean mg mb s.heap)
    (ho : K.lookup f = some ⟨oc, od, .func (fnOf name qual params body scope dV kV doc pm an cdv ct), osl⟩) (hcd : codeIn K cdv qual = true) (hroom : A.depth < recursionLimit)
    (hp : peek1 K ⟨prog, w.params⟩ (bindArgs (fnOf name qual params body scope dV kV doc pm an cdv ct) ⟨pos, kw⟩) = some (tupObj vs, g₁)) (hg : ∀ D, g₁ D = some (binds D)) (hloc : ∀ D, ((binds D).all fun x => decide (scope.names.lookup x.1 = some .local)) = true)
    (h : ∀ D L' h₁ tk, Fr s.heap L' h₁ (fun y => (binds D).reverse.lookup y) → News s.heap L' h₁ [(D, tupObj vs)] →
      wpAny (model prog w) (A.deeper (envOf qual scope L' f cdv)) (execs body (envOf qual scope L' f cdv)) (fun fl s' => Q (match fl with | .ret v => v | _ => .none) s') (fun _ _ => False)
        { s with heap := h₁, toks := tk })
    (hco : scope.isCoroutine = false) (hgen : scope.isGenerator = false) (hk : scope.kind = .function)
    (hcell : ∀ x ∈ scope.names, x.2 ≠ .cell) : wpAny (model prog w) A (call (.ref f) pos kw) Q E s := by
  refine wpAny_call ?_
  refine codeAny_call_function (fd := fnX name qual params body scope [] dV kV doc pm an cdv ct) (body := body) hroom (X _ _ ho) rfl hco hgen rfl (codeRec_of X hcd) ?_
  refine peek1_push (o := tupObj vs) X (r := binds) ?_ _ g₁ hp hg
  have kk : ∀ b o, s.heap.get? b = some o → (s.heap.push (tupObj vs)).get? b = some o := fun b o e => Heap.get?_push_of_some _ e
  refine wpAny_newFunctionEnv (s := { s with heap := s.heap.push (tupObj vs) }) hcell (locs (hloc _)) (fun h₁ hns hsb => ⟨(T.nolimit.keeps kk).fresh _ hsb, codeAny_func ?_⟩) hk
  have hk₁ : ∀ b o, (s.heap.push (tupObj vs)).get? b = some o → h₁.get? b = some o := fun b o e => hsb.extBut b o (Nat.ne_of_lt (Heap.lt_size e)) (Heap.get?_push_of_some _ e)
  have hsz : (s.heap.push (tupObj vs)).objs.size = s.heap.objs.size + 1 := Heap.size_push ..
  refine wpAny_mono (h s.heap.objs.size _ h₁ _ ⟨hns, fun b o e => hk₁ _ _ (kk _ _ e), by rw [hsz]; exact Nat.le_succ _⟩ ?_) (fun _ _ y => y) fun _ _ y => y.elim
  intro p hp
  rw [List.mem_singleton.mp hp]
  refine ⟨hk₁ _ _ (Heap.get?_push_size _ rfl), by rw [hsz]; exact Nat.ne_of_lt (Nat.lt_succ_self _), ?_⟩
  cases e : s.heap.get? s.heap.objs.size with
  | none => rfl
  | some o => exact absurd (Heap.lt_size e) (Nat.lt_irrefl _)
end
/-- one sign's text put in for it -/
def sub1 (k : Nat) (b l : List Nat) : List Nat := l.flatMap fun j => if j = k then b else [j]
theorem sub1_free {k : Nat} {b l : List Nat} (h : k ∉ l) : sub1 k b l = l := by
  unfold sub1
  induction l with
  | nil => rfl
  | cons a r ih =>
    rw [List.flatMap_cons, if_neg (fun e => h (by rw [e]; exact .head _)), ih fun hm => h (.tail _ hm)]
    rfl
theorem sub1_app {k : Nat} {b l r : List Nat} : sub1 k b (l ++ r) = sub1 k b l ++ sub1 k b r := List.flatMap_append
theorem sub1_self {k : Nat} {b : List Nat} : sub1 k b [k] = b := by simp [sub1]
theorem join_sub (k : Nat) (b : List Nat) : ∀ (ls : List Str), (∀ p ∈ ls, k ∉ p.cps.toList) → (Str.join (tx b) ls).cps.toList = sub1 k b (Str.join (sg k) ls).cps.toList
  | [], _ => rfl
  | [x], h => (sub1_free (h x (.head _))).symm
  | x :: y :: r, h => by
    have ih := join_sub k b (y :: r) fun p hp => h p (.tail _ hp)
    show (x ++ tx b ++ Str.join (tx b) (y :: r)).cps.toList = sub1 k b (x ++ sg k ++ Str.join (sg k) (y :: r)).cps.toList
    have e : ∀ a b : Str, (a ++ b).cps.toList = a.cps.toList ++ b.cps.toList := fun a b => by
      show (a.cps ++ b.cps).toList = _
      simp
    rw [e, e, e, e, sub1_app, sub1_app, ih, sub1_free (h x (.head _))]
    have : (sg k).cps.toList = [k] := rfl
    rw [this, sub1_self]
theorem str_of_list {x : Str} : tx x.cps.toList = x := by cases x; rfl
theorem join_split_sub (k : Nat) (b l : List Nat) : Txt.join (tx b) (Txt.split (tx l) (sg k)) = tx (sub1 k b l) := by
  have h1 := join_sub k b (Txt.split (tx l) (sg k)) (StrLaws.split_free _ k)
  rw [StrLaws.join_split] at h1
  show Builtin.Str.glued _ _ = _
  rw [StrLaws.glued_eq_join, ← str_of_list (x := Str.join _ _), h1]
/-- the values of a row of pairs -/
inductive PairVals : List Value → List (Nat × List Nat) → Prop
  | nil : PairVals [] []
  | cons (k : Nat) (b : List Nat) (t1 t2 : Tok) {r : List Value} {ps : List (Nat × List Nat)} : PairVals r ps → PairVals (.str (sg k) t1 :: .str (tx b) t2 :: r) ((k, b) :: ps)
def subs (ps : List (Nat × List Nat)) (l : List Nat) : List Nat := ps.foldl (fun l p => sub1 p.1 p.2 l) l
theorem PairVals.len {vs : List Value} {ps : List (Nat × List Nat)} (h : PairVals vs ps) : vs.length = 2 * ps.length := by
  induction h with
  | nil => rfl
  | cons _ _ _ _ _ ih => simp only [List.length_cons, ih]; omega
theorem join_len (k : Nat) : ∀ (ls : List Str), (ls.map (·.length)).sum + ls.length ≤ (Str.join (sg k) ls).length + 1
  | [] => Nat.zero_le _
  | [x] => by show x.length + 0 + 1 ≤ x.length + 1; omega
  | x :: y :: r => by
    have ih := join_len k (y :: r)
    have e : ∀ a b : Str, (a ++ b).length = a.length + b.length := fun a b => by
      show (a.cps ++ b.cps).size = _
      simp [Str.length]
    show x.length + ((y :: r).map (·.length)).sum + ((y :: r).length + 1) ≤ (x ++ sg k ++ Str.join (sg k) (y :: r)).length + 1
    rw [e, e]
    have : (sg k).length = 1 := rfl
    omega
theorem list16 {α : Type} {l : List α} (h : l.length = 16) : ∃ a1 a2 a3 a4 a5 a6 a7 a8 a9 b1 b2 b3 b4 b5 b6 b7 : α, l = [a1, a2, a3, a4, a5, a6, a7, a8, a9, b1, b2, b3, b4, b5, b6, b7] := by
  match l, h with
  | [a1, a2, a3, a4, a5, a6, a7, a8, a9, b1, b2, b3, b4, b5, b6, b7], _ => exact ⟨_, _, _, _, _, _, _, _, _, _, _, _, _, _, _, _, rfl⟩
theorem sub1_len {k : Nat} {b l : List Nat} (h : b.length ≤ 2) : (sub1 k b l).length ≤ 2 * l.length := by
  induction l with
  | nil => exact Nat.zero_le _
  | cons a r ih =>
    show (List.flatMap _ (a :: r)).length ≤ _
    rw [List.flatMap_cons, List.length_append, List.length_cons]
    have : (if a = k then b else [a]).length ≤ 2 := by split <;> simp_all
    have : (r.flatMap fun j => if j = k then b else [j]).length ≤ 2 * r.length := ih
    omega
section
variable {prog : Program} {w : World} {A : Around} {E : Value → Shared → Prop} {s : Shared} {h₀ : Heap} {L a : Addr} {m : Str → Option Value} {news : List (Addr × Obj)} {vs : List Value}
theorem tup_truthy_nil {Q : Bool → Shared → Prop} (N : News h₀ L s.heap news) (hm : (a, tupObj []) ∈ news) (h : Q false { s with toks := s.toks + 1 + 1 }) : wpAny (model prog w) A (truthy (.ref a)) Q E s :=
  truthy_tuple (News.isTup N hm) (by simp) h
theorem tup_truthy_cons {Q : Bool → Shared → Prop} {x : Value} (N : News h₀ L s.heap news) (hm : (a, tupObj (x :: vs)) ∈ news) (hl : vs.length < 1000) (h : Q true { s with toks := s.toks + 1 + 1 }) : wpAny (model prog w) A (truthy (.ref a)) Q E s :=
  truthy_tuple (News.isTup N hm) (by simp; omega) (by simpa using h)
theorem tup_item0 {value slice : Expr} {x : Value} {u : Tok} {Q : Value → Shared → Prop} (N : News h₀ L s.heap news) (hm : (a, tupObj (x :: vs)) ∈ news) (h : Q x s)
    (hs : subscripted slice false (.ref a) (.int 0 u) = operate [.ref a, .int 0 u] (getItem (.ref a) (.int 0 u)) := by with_unfolding_all rfl) :
    wpAny (model prog w) A (subscriptTail value slice (.ref a) (.int 0 u)) Q E s :=
  item_tupleT (l := x :: vs) (j := 0) (News.isTup N hm) (by decide) (by decide) (by unfold seqIndex?; simp) rfl h hs
theorem tup_item1 {value slice : Expr} {x y : Value} {u : Tok} {Q : Value → Shared → Prop} (N : News h₀ L s.heap news) (hm : (a, tupObj (x :: y :: vs)) ∈ news) (h : Q y s)
    (hs : subscripted slice false (.ref a) (.int 1 u) = operate [.ref a, .int 1 u] (getItem (.ref a) (.int 1 u)) := by with_unfolding_all rfl) :
    wpAny (model prog w) A (subscriptTail value slice (.ref a) (.int 1 u)) Q E s :=
  item_tupleT (l := x :: y :: vs) (j := 1) (News.isTup N hm) (by decide) (by decide) (by unfold seqIndex?; simp; omega) rfl h hs
theorem join_parts {Q : Value → Shared → Prop} {x : List Nat} {k : Nat} {b : List Nat} {t : Tok} {l : List (Str × Tok)} {D : Addr} (N : News h₀ L s.heap news) (hm : (D, ({ cls := .type "list", data := .seq (strValues l).toArray } : Obj)) ∈ news) (hl : l.map (·.1) = Txt.split (tx x) (sg k)) (hb : b.length ≤ 2) (hx : x.length ≤ 2000)
    (h : ∀ t' tk, Q (.str (tx (sub1 k b x)) t') { s with toks := tk }) : wpAny (model prog w) A (call (.builtin "str.join") [.str (tx b) t, .ref D]) Q E s := by
  have hS : ∀ l : List (Str × Tok), StrsAre (strValues l) (l.map (·.1)) := fun l => by
    induction l with
    | nil => exact .nil
    | cons p r ih => exact .cons _ _ ih
  have hw : ((Txt.split (tx x) (sg k)).map (·.length)).sum + (Txt.split (tx x) (sg k)).length ≤ 2 * (tx x).length + 1 := by
    have := join_len k (Txt.split (tx x) (sg k))
    rw [StrLaws.join_split] at this
    omega
  refine join_listW (ys := Txt.split (tx x) (sg k)) (News.isList N hm) (by rw [← hl]; simpa using hS l) (by rw [tx_len]; omega) ?_ (fun t' tk => by rw [join_split_sub]; exact h t' tk)
  rw [tx_len] at hw
  omega
theorem tup_rest {value slice : Expr} {x y : Value} {u : Tok} {Q : Value → Shared → Prop} (F : Fr h₀ L s.heap m) (N : News h₀ L s.heap news) (hm : (a, tupObj (x :: y :: vs)) ∈ news) (hl : vs.length < 1000)
    (h : ∀ D h', Fr h₀ L h' m → News h₀ L h' [(D, tupObj vs)] → Q (.ref D) { s with heap := h' })
    (hs : subscripted slice false (.ref a) (.ref s.heap.objs.size) = operate [.ref s.heap.objs.size, .ref a] (getItem (.ref a) (.ref s.heap.objs.size)) := by with_unfolding_all rfl)
    (hg : ∀ r, letTemporaryGo value (.ref a) r = pure () := by intro _; with_unfolding_all rfl) :
    wpAny (model prog w) A (subscriptTail value slice (.ref a) (.ref s.heap.objs.size)) Q E { s with heap := s.heap.push { cls := .type "slice", data := .fields #[.int 2 u, .none, .none] } } :=
  slice_tuple_from (items := (x :: y :: vs).toArray) (a := 2) F N (News.isTup N hm) (by decide) (by simp) (fun h' F' N' => h _ h' F' fun p hp => by
    rw [List.mem_singleton.mp hp]
    have := N' _ (.head _)
    exact this) hs hg (by rw [sizeLine_eq]; simp; omega)
end
local macro_rules | `(tactic| walk_at "truthy ref") => `(tactic| (k_here; (with_reducible show wpAny _ _ (truthy (Value.ref _)) _ _ _); first
  | (k_dflt (refine' tup_truthy_nil ?N ?m ?_; (case N => k_asm); (case m => exact List.Mem.head _); k_whole))
  | (k_dflt (refine' tup_truthy_cons ?N ?m ?l ?_; (case N => k_asm); (case m => exact List.Mem.head _); (case l => (simp only [List.length_cons, List.length_nil]; omega)); k_whole))))
local macro_rules | `(tactic| walk_at "subscriptTail") => `(tactic| (k_here; (with_reducible show wpAny _ _ (subscriptTail _ _ (Value.ref _) (Value.int 0 _)) _ _ _); k_dflt (refine' tup_item0 ?N ?m ?_ ?d; (case N => k_asm); (case m => exact List.Mem.head _); (case d => with_unfolding_all rfl); k_whole)))
local macro_rules | `(tactic| walk_at "subscriptTail") => `(tactic| (k_here; (with_reducible show wpAny _ _ (subscriptTail _ _ (Value.ref _) (Value.int 1 _)) _ _ _); k_dflt (refine' tup_item1 ?N ?m ?_ ?d; (case N => k_asm); (case m => exact List.Mem.head _); (case d => with_unfolding_all rfl); k_whole)))
local macro_rules | `(tactic| walk_at "subscriptTail") => `(tactic| (k_here; (with_reducible show wpAny _ _ (subscriptTail _ _ (Value.ref _) (Value.ref _)) _ _ _); k_dflt (refine' tup_rest (s := ⟨_, _, _, _, _⟩) ?F ?N ?m ?l ?_ ?hs ?hg; (case F => k_asm); (case N => k_asm); (case m => exact List.Mem.tail _ (List.Mem.head _)); (case l => omega); (case hs => with_unfolding_all rfl); (case hg => intro _; with_unfolding_all rfl); k_whole); intro _ _ _ _))
local macro_rules | `(tactic| walk_at "call builtin:str.join") => `(tactic| (k_here; k_dflt (refine' join_parts ?N ?m ?e ?b ?x ?_; (case N => k_asm); (case m => exact List.Mem.head _); (case e => assumption); (case b => with_reducible assumption); (case x => omega); k_whole); intro _ _))
theorem replace_ok (w : World) {mean : ExcName → Option Value} {mg mb : Str → Option Value} {dp un : Nat} {fr : Option (List Env)} {gd : Option (List Code)} {s : Shared} {Q E : Value → Shared → Prop}
    {x : List Nat} {t : Tok} {vs : List Value} {ps : List (Nat × List Nat)}
    (X : (Mine.hd.heap_39 w.params).In s.heap) (T : Top Mine.hd.view_39 LO mean mg mb s.heap) (hdp : dp + 2 < recursionLimit) (hu : un + 80 < cLine)
    (hv : PairVals vs ps) (h8 : ps.length = 8) (hb : ∀ p ∈ ps, p.2.length ≤ 2) (hx : x.length * 2 ^ ps.length ≤ 1000)
    (ret : ∀ (t' : Tok) (h' : Heap) (tk' : Nat), Kp s.heap h' → Q (.str (tx (subs ps x)) t') { s with heap := h', toks := tk' }) :
    wpAny (model PySem.Challenge.rw_pm0053_01.row.prog w) (AR dp un fr gd) (call (.ref 54) (.str (tx x) t :: vs)) Q E s := by
  obtain ⟨a1, a2, a3, a4, a5, a6, a7, a8, a9, b1, b2, b3, b4, b5, b6, b7, hvs⟩ := list16 (l := vs) (by rw [hv.len, h8])
  rw [hvs]
  revert X T
  k_fill
  intro X T
  k_dflt (refine' enterV [a1, a2, a3, a4, a5, a6, a7, a8, a9, b1, b2, b3, b4, b5, b6, b7] (fun D => [(Str.ofString "text", Value.str (tx x) t), (Str.ofString "pairs", Value.ref D)]) ?k3 ?k5 ?k6 ?k7 ?k8 ?k9 ?kG ?kB ?_ ?c2 ?c3 ?c4 ?c5)
  (case k3 => assumption); (case k5 => assumption); (case k6 => k_is); (case k7 => k_is); (case k8 => (dsimp only [AR, Around.deeper]; omega)); (case k9 => exact rfl); (case kG => exact fun _ => rfl); (case c5 => decide); (case kB => exact fun _ => rfl); (case c2 => exact rfl); (case c3 => exact rfl); (case c4 => exact rfl); k_whole; intro D L' h' tk' F' N'; (try dsimp only)
  rw [← hvs] at N'
  try k_fold
  walk_at "my_steps"
  rename Fr _ _ _ _ => F₁
  rename News _ _ _ _ => N₁
  refine while_led (τ := List Nat × Addr × List Value × List (Nat × List Nat)) F₁ (fun c => [(c.2.1, tupObj c.2.2.1)])
    (fun k m c => k = c.2.2.2.length ∧ (∃ t, m (Str.ofString "text") = some (.str (tx c.1) t)) ∧ m (Str.ofString "pairs") = some (.ref c.2.1) ∧ PairVals c.2.2.1 c.2.2.2 ∧ (∀ p ∈ c.2.2.2, p.2.length ≤ 2) ∧ c.1.length * 2 ^ c.2.2.2.length ≤ 1000 ∧ c.2.2.2.length < 100 ∧ subs c.2.2.2 c.1 = subs ps x)
    8 (x, D, vs, ps) N₁ ?_ ?_
  · exact ⟨h8.symm, ⟨_, by walk_at "my_lk"⟩, by walk_at "my_lk", hv, hb, hx, by show ps.length < 100; omega, rfl⟩
  · rintro k m ⟨l, a, vs', ps'⟩ h tk ⟨h1, ⟨t2, h2⟩, h3, h4, h5, h6, h7, h8⟩ F N
    dsimp only at h1 h2 h3 h4 h5 h6 h7 h8 N ⊢
    cases h4 with
    | nil =>
      walk_at "my_steps"
      refine (congrArg (fun z => Q (.str (tx z) _) _) h8).mpr (ret _ _ _ F.keep)
    | cons k b t1 t2 hr =>
      rename_i r qs
      have hrl := hr.len
      simp only [List.length_cons] at h1 h6 h7
      have hb2 : b.length ≤ 2 := h5 (k, b) (.head _)
      have hl2 : l.length ≤ 1000 := by
        have : 1 ≤ 2 ^ (qs.length + 1) := Nat.one_le_two_pow
        have := Nat.mul_le_mul_left l.length this
        omega
      walk_at "my_steps"
      rename Fr _ _ _ _ => F₂
      rename News _ _ _ _ => N₂
      refine ⟨qs.length, _, (sub1 k b l, _, r, qs), _, _, by omega, rfl, ⟨rfl, ⟨_, by walk_at "my_lk"⟩, by walk_at "my_lk", hr, fun p hp => h5 p (.tail _ hp), ?_, by show qs.length < 100; omega, h8⟩, F₂, N₂⟩
      have h9 := sub1_len (k := k) (l := l) hb2
      show (sub1 k b l).length * 2 ^ qs.length ≤ 1000
      refine Nat.le_trans (Nat.mul_le_mul_right _ h9) ?_
      rw [Nat.mul_comm 2, Nat.mul_assoc, ← Nat.pow_succ']
      exact h6

end
section
section
variable {prog : Program} {w : World} {A : Around} {s : Shared} {env : Env} {h₀ : Heap} {L : Addr} {m₀ : Str → Option Value} {S₀ : List (Addr × Obj)}
theorem dcomp_use {kx vx iter : Expr} {x : Str} {px : Pos} {ifs : List Expr} {scope : Scope} {cl : List (Str × Addr)} {pos : Pos} {use : Option (Value → Sem Unit)} {p' : Pos} {Q : Value → Shared → Prop} {n : Nat} {P : Nat → Value → Prop} (p : Value → Bool) (FK : Value → Str → Prop) (FV : Value → Value → Prop)
    (F : Fr h₀ L s.heap m₀) (N : News h₀ L s.heap S₀)
    (hclos : closureFor scope env = pure cl) (hcell : ∀ y ∈ scope.names, y.2 ≠ .cell) (hkind : scope.kind = .function)
    (hnames : ∀ y ∈ scope.names, y.2 = .local → scope.names.lookup y.1 = some .local) (hx : scope.names.lookup x = some .local) (hs : ∀ x, foldedSetIterable iter env x = pure x) (hsz : n ≤ sizeLine)
    (h : wpAny (model prog w) A (eval iter env) (fun xv s₁ => wpAny (model prog w) A (pyIter xv) (fun it s₂ => ∃ It fp St h₂ tk₂, it = .ref It ∧ s₂ = { s with heap := h₂, toks := tk₂ } ∧ Kp s.heap h₂ ∧ s.heap.get? It = none ∧ Walks prog w A It fp [It] n P St ∧ St 0 h₂ ∧ ∀ b ∈ fp, b < h₂.objs.size) (fun _ _ => False) s₁) (fun _ _ => False) s)
    (tests : ∀ C i v s₃ m₃, P i v → Fr h₀ C s₃.heap m₃ → News h₀ C s₃.heap S₀ → Kp s.heap s₃.heap → m₃ x = some v →
      wpAny (model prog w) A (forIn ifs true fun c r => if r = true then do let ok ← isTrue c (compEnvC scope cl C env) (eval c (compEnvC scope cl C env)); pure (ForInStep.yield ok) else pure (ForInStep.yield r)) (fun ok s₄ => ok = p v ∧ Keeps s₃ s₄) (fun _ _ => False) s₃)
    (hkey : ∀ C i v s₃ m₃, P i v → p v = true → Fr h₀ C s₃.heap m₃ → News h₀ C s₃.heap S₀ → Kp s.heap s₃.heap → m₃ x = some v →
      wpAny (model prog w) A (eval kx (compEnvC scope cl C env)) (fun y s₄ => (∃ k t, y = .str k t ∧ FK v k) ∧ Keeps s₃ s₄) (fun _ _ => False) s₃)
    (hval : ∀ C i v s₃ m₃, P i v → p v = true → Fr h₀ C s₃.heap m₃ → News h₀ C s₃.heap S₀ → Kp s.heap s₃.heap → m₃ x = some v →
      wpAny (model prog w) A (eval vx (compEnvC scope cl C env)) (fun y s₄ => FV v y ∧ Keeps s₃ s₄) (fun _ _ => False) s₃)
    (fin : ∀ D C oD kvs (vs : List Value) h' tk m', vs.length = n → (∀ j v, vs[j]? = some v → P j v) → StoredAll FK FV (vs.filter p) kvs → oD.IsDictOf (strKind prog w) kvs → h'.get? D = some oD → Kp s.heap h' → s.heap.get? D = none → s.heap.get? C = none → D ≠ C → h'.Ns C m' → h₀.objs.size ≤ D →
      compPost (model prog w) A (fun _ _ => False) use Q (.ref D) C (.ok .next) { s with heap := h', toks := tk }) :
    wpAny (model prog w) A (comprehension (.DictComp kx vx [⟨.Name x px, iter, ifs, 0⟩] scope pos) scope env p' newDict false (eval iter env) use) Q (fun _ _ => False) s := by
  refine wpAny_comprehension_free (use := use) rfl hs hclos hkind hnames (wpAny_mono h (fun xv s₁ h₁ => wpAny_mono h₁ (fun it s₂ h₂ => ?_) fun _ _ e => e) fun _ _ e => e)
  obtain ⟨It, fp, St, h₂, tk₂, rfl, rfl, hk, hI, W, st, hfp⟩ := h₂
  have key : ∀ C (s₃ : Shared) m₃, h₂.objs.size ≤ C → s₃.heap.Ns C m₃ → (∀ b o, b ∉ [It] → h₂.get? b = some o → s₃.heap.get? b = some o) → Fr h₀ C s₃.heap m₃ ∧ News h₀ C s₃.heap S₀ ∧ Kp s.heap s₃.heap := by
    intro C s₃ m₃ hC hn hkk
    have kk : Kp s.heap s₃.heap := fun b o e => hkk b o (by simp; rintro rfl; rw [hI] at e; cases e) (hk b o e)
    obtain ⟨oL, _, _, hL, _⟩ := F.ns
    exact ⟨⟨hn, fun b o e => kk b o (F.keep b o e), Nat.le_trans F.above (Nat.le_trans (Nat.le_of_lt (Heap.lt_size (hk _ _ hL))) hC)⟩, fun q hq => ⟨kk _ _ (N q hq).1, Nat.ne_of_lt (Nat.lt_of_lt_of_le (Heap.lt_size (hk _ _ (N q hq).1)) hC), (N q hq).2.2⟩, kk⟩
  refine wpAny_newObj_type (wpAny_newFunctionEnv hcell (by intro y hy; simp at hy) (fun h₁ hns₁ hsb₁ => ?_) hkind)
  dsimp only at hns₁ hsb₁ ⊢
  have hnew : (h₂.push { cls := .type "dict", dict := none, data := .dict #[] }).DictOf (strKind prog w) h₂.objs.size [] := Heap.DictOf.new h₂
  generalize hH2 : h₂.push { cls := .type "dict", dict := none, data := .dict #[] } = H2 at hns₁ hsb₁ hnew ⊢
  have hC : H2.objs.size = h₂.objs.size + 1 := by rw [← hH2, Heap.size_push]
  have hCle : h₂.objs.size ≤ H2.objs.size := by rw [hC]; exact Nat.le_succ _
  have hDC : h₂.objs.size ≠ H2.objs.size := by rw [hC]; exact Nat.ne_of_lt (Nat.lt_succ_self _)
  have below : ∀ b, b < h₂.objs.size → b ≠ H2.objs.size ∧ b ≠ h₂.objs.size := fun b hb => ⟨by rw [hC]; exact Nat.ne_of_lt (Nat.lt_succ_of_lt hb), Nat.ne_of_lt hb⟩
  have hDf : h₂.objs.size ∉ fp := fun hm => Nat.lt_irrefl _ (hfp _ hm)
  have hCf : H2.objs.size ∉ fp := fun hm => by have := hfp _ hm; rw [hC] at this; exact Nat.lt_irrefl _ (Nat.lt_of_succ_lt this)
  have old : ∀ b o, h₂.get? b = some o → h₁.get? b = some o := fun b o e => hsb₁.extBut b o (below b (Heap.lt_size e)).1 (Heap.get?_push_of_some _ (hH2 ▸ Heap.get?_push_of_some _ e))
  have hacc : h₁.DictOf (strKind prog w) h₂.objs.size [] := hnew.at fun o e => hsb₁.extBut _ _ hDC (Heap.get?_push_of_some _ e)
  have hst₁ : St 0 h₁ := W.frame _ _ _ st fun b _ o e => old b o e
  have fresh : ∀ a, h₂.objs.size ≤ a → h₂.get? a = none := fun a ha => by
    cases e : h₂.get? a with
    | none => rfl
    | some o' => exact absurd (Heap.lt_size e) (Nat.not_lt.mpr ha)
  have loop : ∀ s₃ : Shared, s₃ = { s with heap := h₁, toks := tk₂ + ([] : List (Str × Value)).length } →
      codeAny (model prog w) A (.compLoop (.DictComp kx vx [⟨.Name x px, iter, ifs, 0⟩] scope pos) 0 (.ref It) (.ref h₂.objs.size) (compEnvC scope cl H2.objs.size env))
        (compPost (model prog w) A (fun _ _ => False) use Q (.ref h₂.objs.size) H2.objs.size) s₃ := by
    rintro s₃ rfl
    have up : ∀ s₃ : Shared, (∀ b o, b ≠ H2.objs.size → b ∉ [It] → b ≠ h₂.objs.size → h₁.get? b = some o → s₃.heap.get? b = some o) → ∀ b o, b ∉ [It] → h₂.get? b = some o → s₃.heap.get? b = some o :=
      fun s₃ hkk b o hb e => hkk b o (below b (Heap.lt_size e)).1 hb (below b (Heap.lt_size e)).2 (old b o e)
    refine codeAny_compLoop_walkD (hsz := hsz) (knd := strKind prog w) (cenv := compEnvC scope cl H2.objs.size env) W p FK FV (lookup_relabel_local hx) (by simp [compEnvC, relabel, hkind]) hDC hDf hCf hst₁ hacc hns₁ ?_ ?_ ?_ ?_
    · intro i v s₃ m₃ hv hn hm hkk
      obtain ⟨F', N', k'⟩ := key _ s₃ m₃ hCle hn (up s₃ hkk)
      exact wpAny_mono (tests _ i v s₃ m₃ hv F' N' k' hm) (fun _ _ e => e) fun _ _ e => e.elim
    · intro i v s₃ m₃ hv hp hn hm hkk
      obtain ⟨F', N', k'⟩ := key _ s₃ m₃ hCle hn (up s₃ hkk)
      exact wpAny_mono (hkey _ i v s₃ m₃ hv hp F' N' k' hm) (fun y _ e => ⟨let ⟨k, t, a, b⟩ := e.1; ⟨k, by rw [a]; exact strKind_is prog w k t, b⟩, e.2⟩) fun _ _ e => e.elim
    · intro i v s₃ m₃ hv hp hn hm hkk
      obtain ⟨F', N', k'⟩ := key _ s₃ m₃ hCle hn (up s₃ hkk)
      exact wpAny_mono (hval _ i v s₃ m₃ hv hp F' N' k' hm) (fun _ _ e => e) fun _ _ e => e.elim
    · intro h' tk m' kvs vs hn ha hlen hP hF hkk
      have kk' : ∀ b o, b ∉ [It] → h₂.get? b = some o → h'.get? b = some o := fun b o hb e => hkk b o (below b (Heap.lt_size e)).1 hb (below b (Heap.lt_size e)).2 (old b o e)
      have kk : Kp s.heap h' := fun b o e => kk' b o (by simp; rintro rfl; rw [hI] at e; cases e) (hk b o e)
      obtain ⟨oD, hoD, hdD⟩ := Heap.dictOf_iff.mp ha
      have fr : ∀ b, h₂.objs.size ≤ b → s.heap.get? b = none := fun b hb => by
        cases e : s.heap.get? b with
        | none => rfl
        | some o => exact absurd (Heap.lt_size (hk _ _ e)) (Nat.not_lt.mpr hb)
      exact fin h₂.objs.size H2.objs.size oD kvs vs h' tk m' hlen hP hF hdD hoD kk (fr _ (Nat.le_refl _)) (fr _ hCle) hDC hn (by obtain ⟨oL, _, _, hL, _⟩ := F.ns; exact Nat.le_trans F.above (Nat.le_of_lt (Heap.lt_size (hk _ _ hL))))
  exact codeAny_compStart_dict (loop _ rfl) (W.self 0 _ _ _ hst₁ (loop _ rfl))
theorem dcomp_core {kx vx iter : Expr} {x : Str} {px : Pos} {ifs : List Expr} {scope : Scope} {cl : List (Str × Addr)} {pos : Pos} {Q : Value → Shared → Prop} {n : Nat} {P : Nat → Value → Prop} (p : Value → Bool) (FK : Value → Str → Prop) (FV : Value → Value → Prop)
    (F : Fr h₀ L s.heap m₀) (N : News h₀ L s.heap S₀)
    (hclos : closureFor scope env = pure cl) (hcell : ∀ y ∈ scope.names, y.2 ≠ .cell) (hkind : scope.kind = .function)
    (hnames : ∀ y ∈ scope.names, y.2 = .local → scope.names.lookup y.1 = some .local) (hx : scope.names.lookup x = some .local) (hs : ∀ x, foldedSetIterable iter env x = pure x) (hsz : n ≤ sizeLine)
    (h : wpAny (model prog w) A (eval iter env) (fun xv s₁ => wpAny (model prog w) A (pyIter xv) (fun it s₂ => ∃ It fp St h₂ tk₂, it = .ref It ∧ s₂ = { s with heap := h₂, toks := tk₂ } ∧ Kp s.heap h₂ ∧ s.heap.get? It = none ∧ Walks prog w A It fp [It] n P St ∧ St 0 h₂ ∧ ∀ b ∈ fp, b < h₂.objs.size) (fun _ _ => False) s₁) (fun _ _ => False) s)
    (tests : ∀ C i v s₃ m₃, P i v → Fr h₀ C s₃.heap m₃ → News h₀ C s₃.heap S₀ → Kp s.heap s₃.heap → m₃ x = some v →
      wpAny (model prog w) A (forIn ifs true fun c r => if r = true then do let ok ← isTrue c (compEnvC scope cl C env) (eval c (compEnvC scope cl C env)); pure (ForInStep.yield ok) else pure (ForInStep.yield r)) (fun ok s₄ => ok = p v ∧ Keeps s₃ s₄) (fun _ _ => False) s₃)
    (hkey : ∀ C i v s₃ m₃, P i v → p v = true → Fr h₀ C s₃.heap m₃ → News h₀ C s₃.heap S₀ → Kp s.heap s₃.heap → m₃ x = some v →
      wpAny (model prog w) A (eval kx (compEnvC scope cl C env)) (fun y s₄ => (∃ k t, y = .str k t ∧ FK v k) ∧ Keeps s₃ s₄) (fun _ _ => False) s₃)
    (hval : ∀ C i v s₃ m₃, P i v → p v = true → Fr h₀ C s₃.heap m₃ → News h₀ C s₃.heap S₀ → Kp s.heap s₃.heap → m₃ x = some v →
      wpAny (model prog w) A (eval vx (compEnvC scope cl C env)) (fun y s₄ => FV v y ∧ Keeps s₃ s₄) (fun _ _ => False) s₃)
    (done : ∀ D oD kvs (vs : List Value) h' tk, vs.length = n → (∀ j v, vs[j]? = some v → P j v) → StoredAll FK FV (vs.filter p) kvs → oD.IsDictOf (strKind prog w) kvs → Fr h₀ L h' m₀ → News h₀ L h' ((D, oD) :: S₀) → Kp s.heap h' → s.heap.get? D = none → h₀.objs.size ≤ D → Q (.ref D) { s with heap := h', toks := tk }) :
    wpAny (model prog w) A (eval (.DictComp kx vx [⟨.Name x px, iter, ifs, 0⟩] scope pos) env) Q (fun _ _ => False) s := by
  rw [arm_eval_DictComp]
  refine dcomp_use (use := none) p FK FV F N hclos hcell hkind hnames hx hs hsz h tests hkey hval ?_
  intro D C oD kvs vs h' tk m' hlen hP hF hd hoD kk hD hC hDC hn hge
  refine ⟨m', hn, fun h'' hs'' => ?_⟩
  have kk₂ : Kp s.heap h'' := fun b o e => hs''.extBut b o (by rintro rfl; rw [hC] at e; cases e) (kk b o e)
  obtain ⟨oL, _, _, hoL, _⟩ := F.ns
  refine done D oD kvs vs h'' tk hlen hP hF hd (F.keeps kk₂) (fun q hq => ?_) kk₂ hD hge
  rcases List.mem_cons.mp hq with rfl | hq
  · refine ⟨hs''.extBut _ _ hDC hoD, fun e => ?_, ?_⟩
    · rw [show (D : Addr) = L from e, hoL] at hD; cases hD
    · cases e : h₀.get? D with
      | none => rfl
      | some o => rw [F.keep _ _ e] at hD; cases hD
  · exact N.grown kk₂ q hq
theorem dcomp_coreA {kx vx iter : Expr} {x y : Str} {px py : Pos} {ifs : List Expr} {scope : Scope} {cl : List (Str × Addr)} {pos spos : Pos} {Q : Flow → Shared → Prop} {n : Nat} {P : Nat → Value → Prop} (p : Value → Bool) (FK : Value → Str → Prop) (FV : Value → Value → Prop)
    (F : Fr h₀ L s.heap m₀) (N : News h₀ L s.heap S₀) (hL : env.locals = L)
    (hsw : swapsWith (.DictComp kx vx [⟨.Name x px, iter, ifs, 0⟩] scope pos) (some (.Name y py)) spos.line env = pure true)
    (hy : env.kindOf y = some .local) (hp : (env.scope.kind == .class || (env.scope.kind == .module && env.locals != env.globals)) = false)
    (hclos : closureFor scope env = pure cl) (hcell : ∀ y ∈ scope.names, y.2 ≠ .cell) (hkind : scope.kind = .function)
    (hnames : ∀ y ∈ scope.names, y.2 = .local → scope.names.lookup y.1 = some .local) (hx : scope.names.lookup x = some .local) (hs : ∀ x, foldedSetIterable iter env x = pure x) (hsz : n ≤ sizeLine)
    (h : wpAny (model prog w) A (eval iter env) (fun xv s₁ => wpAny (model prog w) A (pyIter xv) (fun it s₂ => ∃ It fp St h₂ tk₂, it = .ref It ∧ s₂ = { s with heap := h₂, toks := tk₂ } ∧ Kp s.heap h₂ ∧ s.heap.get? It = none ∧ Walks prog w A It fp [It] n P St ∧ St 0 h₂ ∧ ∀ b ∈ fp, b < h₂.objs.size) (fun _ _ => False) s₁) (fun _ _ => False) s)
    (tests : ∀ C i v s₃ m₃, P i v → Fr h₀ C s₃.heap m₃ → News h₀ C s₃.heap S₀ → Kp s.heap s₃.heap → m₃ x = some v →
      wpAny (model prog w) A (forIn ifs true fun c r => if r = true then do let ok ← isTrue c (compEnvC scope cl C env) (eval c (compEnvC scope cl C env)); pure (ForInStep.yield ok) else pure (ForInStep.yield r)) (fun ok s₄ => ok = p v ∧ Keeps s₃ s₄) (fun _ _ => False) s₃)
    (hkey : ∀ C i v s₃ m₃, P i v → p v = true → Fr h₀ C s₃.heap m₃ → News h₀ C s₃.heap S₀ → Kp s.heap s₃.heap → m₃ x = some v →
      wpAny (model prog w) A (eval kx (compEnvC scope cl C env)) (fun y s₄ => (∃ k t, y = .str k t ∧ FK v k) ∧ Keeps s₃ s₄) (fun _ _ => False) s₃)
    (hval : ∀ C i v s₃ m₃, P i v → p v = true → Fr h₀ C s₃.heap m₃ → News h₀ C s₃.heap S₀ → Kp s.heap s₃.heap → m₃ x = some v →
      wpAny (model prog w) A (eval vx (compEnvC scope cl C env)) (fun y s₄ => FV v y ∧ Keeps s₃ s₄) (fun _ _ => False) s₃)
    (done : ∀ D oD kvs (vs : List Value) h' tk, vs.length = n → (∀ j v, vs[j]? = some v → P j v) → StoredAll FK FV (vs.filter p) kvs → oD.IsDictOf (strKind prog w) kvs → Fr h₀ L h' (fun z => if z = y then some (.ref D) else m₀ z) → News h₀ L h' ((D, oD) :: S₀) → s.heap.get? D = none → h₀.objs.size ≤ D → Q .next { s with heap := h', toks := tk }) :
    wpAny (model prog w) A (exec (.Assign [.Name y py] (.DictComp kx vx [⟨.Name x px, iter, ifs, 0⟩] scope pos) spos) env) Q (fun _ _ => False) s := by
  subst hL
  rw [exec_Assign_Name_used _ _ _ _ hsw]
  refine wpAny_bind (wpAny_standAt (wpAny_bind ?_))
  show wpAny _ A (do let _ ← comprehension (.DictComp kx vx [⟨.Name x px, iter, ifs, 0⟩] scope pos) scope env _ newDict false (eval iter env) (some (assign (.Name y py) env))) _ _ s
  refine wpAny_bind (wpAny_mono (dcomp_use (use := some (assign (.Name y py) env)) (Q := fun _ s' => Q .next s') p FK FV F N hclos hcell hkind hnames hx hs hsz h tests hkey hval ?_) (fun _ s' hq => wpAny_pure (wpAny_pure hq)) fun _ _ e => e)
  intro D C oD kvs vs h' tk m' hlen hP hF hd hoD kk hD hC hDC hn hge
  obtain ⟨oL, esL, epL, hoL, rL⟩ := F.ns
  have hLC : env.locals ≠ C := by rintro e; rw [← e, hoL] at hC; cases hC
  have hLD : env.locals ≠ D := by rintro e; rw [← e, hoL] at hD; cases hD
  show wpAny _ A (assign (.Name y py) env (.ref D)) _ _ _
  refine wpAny_assign_Name (wpAny_storeName_local (m := m₀) hy ⟨oL, esL, epL, kk _ _ hoL, rL⟩ (fun h₃ hn₃ hs₃ => ?_) hp)
  refine ⟨m', hn.sameBut hs₃ (Ne.symm hLC), fun h₄ hs₄ => ?_⟩
  have up : ∀ b o, b ≠ env.locals → b ≠ C → h'.get? b = some o → h₄.get? b = some o := fun b o hb hb' e => hs₄.extBut b o hb' (hs₃.extBut b o hb e)
  have hLn : h₀.get? env.locals = none := by
    cases e : h₀.get? env.locals with
    | none => rfl
    | some o => exact absurd (Heap.lt_size e) (Nat.not_lt.mpr F.above)
  have kk₄ : ∀ b o, b ≠ env.locals → s.heap.get? b = some o → h₄.get? b = some o := fun b o hb e => up b o hb (by rintro rfl; rw [hC] at e; cases e) (kk b o e)
  refine done D oD kvs vs h₄ _ hlen hP hF hd ⟨hn₃.sameBut hs₄ hLC, fun b o e => kk₄ b o (fun hb => by rw [hb, hLn] at e; cases e) (F.keep b o e), F.above⟩ (fun q hq => ?_) hD hge
  rcases List.mem_cons.mp hq with rfl | hq
  · refine ⟨up _ _ (Ne.symm hLD) hDC hoD, fun e => hLD e.symm, ?_⟩
    cases e : h₀.get? D with
    | none => rfl
    | some o => rw [F.keep _ _ e] at hD; cases hD
  · exact ⟨kk₄ _ _ (N q hq).2.1 (N q hq).1, (N q hq).2⟩
end

end
section
/-- a rule's key and pair -/
def KeyRow (tl : List (Addr × Obj)) (kv : Str × Value) (e : Nat × List Nat) : Prop := kv.1 = sg (lw e.1) ∧ PairIn tl kv.2 e
theorem sg_inj {a b : Nat} : sg a = sg b ↔ a = b := ⟨fun e => by injection e with e; simpa using e, fun e => by rw [e]⟩
theorem getT_cons {e : Nat × List Nat} {tb : Tbl} {k : Nat} : getT (e :: tb) k = if lw e.1 = lw k then some e.2 else getT tb k := by
  unfold getT
  rw [List.find?_cons]
  by_cases h : lw e.1 = lw k
  · rw [if_pos h, show (lw e.1 == lw k) = true from beq_iff_eq.mpr h]; rfl
  · rw [if_neg h, show (lw e.1 == lw k) = false from beq_eq_false_iff_ne.mpr h]
theorem valueAt_cons {kv : Str × Value} {kvs : List (Str × Value)} {k : Str} : valueAt (kv :: kvs) k = if kv.1 = k then some kv.2 else valueAt kvs k := by
  unfold valueAt
  rw [List.find?_cons]
  by_cases h : kv.1 = k
  · rw [if_pos h, decide_eq_true h]; rfl
  · rw [if_neg h, decide_eq_false h]
theorem rows_get {tl : List (Addr × Obj)} {kvs : List (Str × Value)} {tb : Tbl} (h : Paired (KeyRow tl) kvs tb) {k : Nat} (hk : lw k = k) :
    match getT tb k with | some b => ∃ v e, valueAt kvs (sg k) = some v ∧ PairIn tl v e ∧ e.2 = b | none => valueAt kvs (sg k) = none := by
  induction h with
  | nil => exact rfl
  | @cons kv e kvs tb hr _ ih =>
    rw [getT_cons, valueAt_cons, hr.1, hk]
    by_cases hh : lw e.1 = k
    · rw [if_pos hh, if_pos (by rw [hh])]
      exact ⟨kv.2, e, rfl, hr.2, rfl⟩
    · rw [if_neg hh, if_neg fun q => hh (sg_inj.mp q)]
      exact ih
theorem stored_new {kvs : List (Str × Value)} {k : Str} {v : Value} (h : valueAt kvs k = none) : stored kvs k v = kvs ++ [(k, v)] := by
  unfold stored
  rw [if_neg]
  intro hn
  obtain ⟨kv, hm, he⟩ := List.any_eq_true.mp hn
  unfold valueAt at h
  rw [Option.map_eq_none_iff, List.find?_eq_none] at h
  exact h kv hm he
theorem paired_filter {α β : Type} {R : α → β → Prop} {p : α → Bool} {q : β → Bool} (hpq : ∀ a b, R a b → p a = q b) {l : List α} {r : List β} (h : Paired R l r) : Paired R (l.filter p) (r.filter q) := by
  induction h with
  | nil => exact .nil
  | @cons a b _ _ hr _ ih =>
    rw [List.filter_cons, List.filter_cons, hpq a b hr]
    cases q b with
    | true => exact .cons hr ih
    | false => exact ih
theorem rows_del {tl : List (Addr × Obj)} {kvs : List (Str × Value)} {tb : Tbl} (h : Paired (KeyRow tl) kvs tb) {k : Nat} (hk : lw k = k) : Paired (KeyRow tl) (kvs.filter fun kv => !(kv.1 == sg k)) (delT tb k) :=
  paired_filter (fun kv e hr => by
    rw [hr.1, hk, sg_eq]
    rfl) h
theorem valueAt_app {kvs : List (Str × Value)} {k k' : Str} {v : Value} (hn : k ∉ kvs.map (·.1)) : valueAt (kvs ++ [(k, v)]) k' = if k' = k then some v else valueAt kvs k' := by
  induction kvs with
  | nil =>
    show valueAt [(k, v)] k' = _
    rw [valueAt_cons]
    by_cases h : k = k'
    · rw [if_pos h, if_pos h.symm]
    · rw [if_neg h, if_neg (Ne.symm h)]
  | cons a r ih =>
    rw [List.cons_append, valueAt_cons, valueAt_cons, ih fun hm => hn (.tail _ hm)]
    by_cases h : a.1 = k'
    · have : ¬ k' = k := fun e => hn (by rw [← e, ← h]; exact .head _)
      rw [if_pos h, if_neg this]
      exact (if_pos h).symm
    · rw [if_neg h, if_neg h]
/-- what a dict comprehension over texts stored -/
theorem storedAll_keys {FK : Value → Str → Prop} {FV : Value → Value → Prop} (hFK : ∀ v k, FK v k → ∃ t, v = .str k t) {l : List Value} {kvs : List (Str × Value)} (h : StoredAll FK FV l kvs) (hn : ∀ ks : List Str, Paired (fun v k => ∃ t, v = .str k t) l ks → ks.Nodup) :
    Paired (fun v (kv : Str × Value) => FK v kv.1 ∧ FV v kv.2) l kvs := by
  induction h with
  | nil => exact .nil
  | @snoc l kvs v k y hl hk hy ih =>
    have ex : ∀ {l : List Value} {kvs : List (Str × Value)}, Paired (fun v (kv : Str × Value) => FK v kv.1 ∧ FV v kv.2) l kvs → Paired (fun v k => ∃ t, v = Value.str k t) l (kvs.map (·.1)) := fun h => by
      induction h with
      | nil => exact .nil
      | cons hr _ ih => exact .cons (hFK _ _ hr.1) ih
    have lk : ∀ {l : List Value} {kvs : List (Str × Value)}, StoredAll FK FV l kvs → ∃ ks, Paired (fun v k => ∃ t, v = Value.str k t) l ks := fun h => by
      induction h with
      | nil => exact ⟨[], .nil⟩
      | snoc _ hk _ ih => obtain ⟨ks, h⟩ := ih; exact ⟨ks ++ [_], paired_append h (.cons (hFK _ _ hk) .nil)⟩
    have ih' := ih fun ks hp => by
      have := hn (ks ++ [k]) (paired_append hp (.cons (hFK _ _ hk) .nil))
      exact (List.nodup_append.mp this).1
    have hnn := hn _ (paired_append (ex ih') (.cons (hFK _ _ hk) .nil))
    have hnot : k ∉ kvs.map (·.1) := fun hm => (List.nodup_append.mp hnn).2.2 k hm k (.head _) rfl
    have hno : valueAt kvs k = none := by
      unfold valueAt
      rw [Option.map_eq_none_iff, List.find?_eq_none]
      intro kv hm he
      exact hnot (List.mem_map.mpr ⟨kv, hm, by simpa using he⟩)
    rw [stored_new hno]
    exact paired_append ih' (.cons ⟨hk, hy⟩ .nil)
/-- two rows of the same keys, each told by the same table -/
theorem rows_eq {f : Str → Option Value} : ∀ {l r : List (Str × Value)}, l.map (·.1) = r.map (·.1) → (∀ kv ∈ l, f kv.1 = some kv.2) → (∀ kv ∈ r, f kv.1 = some kv.2) → l = r
  | [], [], _, _, _ => rfl
  | [], _ :: _, h, _, _ => nomatch h
  | _ :: _, [], h, _, _ => nomatch h
  | a :: l, b :: r, h, h1, h2 => by
    obtain ⟨e1, e2⟩ := List.cons.inj h
    have e3 : some a.2 = some b.2 := (h1 a (.head _)).symm.trans ((congrArg f e1).trans (h2 b (.head _)))
    rw [rows_eq e2 (fun kv hm => h1 kv (.tail _ hm)) fun kv hm => h2 kv (.tail _ hm), Prod.ext e1 (Option.some.inj e3)]
theorem valueAt_mem {kvs : List (Str × Value)} (hn : (kvs.map (·.1)).Nodup) {kv : Str × Value} (hm : kv ∈ kvs) : valueAt kvs kv.1 = some kv.2 := by
  obtain ⟨i, hi⟩ := List.getElem?_of_mem hm
  exact valueAt_of_get hn hi
theorem same_keys {l : List Value} {r : List (Str × Value)} (h : Paired (fun v (kv : Str × Value) => ∃ t, v = Value.str kv.1 t) l r) : ∀ {ks : List Str}, Paired (fun v k => ∃ t, v = Value.str k t) l ks → ks = r.map (·.1) := by
  induction h with
  | nil => intro ks h; cases h; rfl
  | cons hr _ ih =>
    intro ks h
    cases h with
    | cons ha hb =>
      obtain ⟨t, rfl⟩ := hr
      obtain ⟨t', e⟩ := ha
      injection e with e _
      rw [List.map_cons, ← ih hb, e]
theorem paired_keys {FV : Value → Value → Prop} {l : List Value} {kvs : List (Str × Value)} (h : Paired (fun v (kv : Str × Value) => (∃ t, v = .str kv.1 t) ∧ FV v kv.2) l kvs) : Paired (fun v k => ∃ t, v = Value.str k t) l (kvs.map (·.1)) := by
  induction h with
  | nil => exact .nil
  | cons hr _ ih => exact .cons hr.1 ih
theorem paired_told {f : Str → Option Value} {l : List Value} {kvs : List (Str × Value)} (h : Paired (fun v (kv : Str × Value) => (∃ t, v = .str kv.1 t) ∧ ∃ k t, v = .str k t ∧ f k = some kv.2) l kvs) : ∀ kv ∈ kvs, f kv.1 = some kv.2 := by
  induction h with
  | nil => exact fun _ h => nomatch h
  | cons hr _ ih =>
    intro kv hm
    rcases List.mem_cons.mp hm with rfl | hm
    · obtain ⟨⟨t, e⟩, k, t', e', hv⟩ := hr
      rw [e] at e'
      injection e' with e' _
      rw [e']; exact hv
    · exact ih kv hm
/-- `{key: rules[key] for key in rules if p}` gives the rows that pass -/
theorem comp_rows {kvs kvs' : List (Str × Value)} {vs : List Value} (q : Str → Bool) (hn : (kvs.map (·.1)).Nodup) (hv : Paired (fun v (kv : Str × Value) => ∃ t, v = Value.str kv.1 t) vs kvs) {p : Value → Bool} (hp : ∀ k t, p (.str k t) = q k)
    (h : StoredAll (fun v k => ∃ t, v = .str k t) (fun v y => ∃ k t, v = .str k t ∧ valueAt kvs k = some y) (vs.filter p) kvs') : kvs' = kvs.filter fun kv => q kv.1 := by
  have hf : Paired (fun v (kv : Str × Value) => ∃ t, v = Value.str kv.1 t) (vs.filter p) (kvs.filter fun kv => q kv.1) := paired_filter (fun v kv ⟨t, e⟩ => by rw [e]; exact hp _ _) hv
  have hN : ((kvs.filter fun kv => q kv.1).map (·.1)).Nodup := (List.filter_sublist.map _).nodup hn
  have hK := storedAll_keys (fun _ _ h => h) h fun ks hks => by rw [same_keys hf hks]; exact hN
  exact rows_eq (f := valueAt kvs) (same_keys hf (paired_keys (FV := fun v y => ∃ k t, v = .str k t ∧ valueAt kvs k = some y) hK)) (paired_told hK) fun kv hm => valueAt_mem hn (List.mem_filter.mp hm).1
section
variable {prog : Program} {w : World} {A : Around} {s : Shared} {env : Env} {h₀ : Heap} {L : Addr} {m₀ : Str → Option Value} {S₀ : List (Addr × Obj)}
/-- `{key: rules[key] for key in rules if q}` -/
theorem dcomp_keys {kx vx iter : Expr} {x : Str} {px : Pos} {ifs : List Expr} {scope : Scope} {cl : List (Str × Addr)} {pos : Pos} {Q : Value → Shared → Prop} {kvs : List (Str × Value)} {d : Addr} {od : Obj} (q : Str → Bool)
    (F : Fr h₀ L s.heap m₀) (N : News h₀ L s.heap S₀) (hd : (d, od) ∈ S₀) (hD : od.IsDictOf (strKind prog w) kvs) (hsys : (d == sysModules) = false) (hh : A.handled = none)
    (hclos : closureFor scope env = pure cl) (hcell : ∀ y ∈ scope.names, y.2 ≠ .cell) (hkind : scope.kind = .function)
    (hnames : ∀ y ∈ scope.names, y.2 = .local → scope.names.lookup y.1 = some .local) (hx : scope.names.lookup x = some .local) (hs : ∀ x, foldedSetIterable iter env x = pure x) (hsz : kvs.length ≤ sizeLine)
    (h : wpAny (model prog w) A (eval iter env) (fun xv s₁ => xv = .ref d ∧ ∃ h tk, s₁ = { s with heap := h, toks := tk } ∧ Kp s.heap h) (fun _ _ => False) s)
    (tests : ∀ C k v t s₃ m₃, (k, v) ∈ kvs → Fr h₀ C s₃.heap m₃ → News h₀ C s₃.heap S₀ → m₃ x = some (.str k t) →
      wpAny (model prog w) A (forIn ifs true fun c r => if r = true then do let ok ← isTrue c (compEnvC scope cl C env) (eval c (compEnvC scope cl C env)); pure (ForInStep.yield ok) else pure (ForInStep.yield r)) (fun ok s₄ => ok = q k ∧ Keeps s₃ s₄) (fun _ _ => False) s₃)
    (hkey : ∀ C k v t s₃ m₃, (k, v) ∈ kvs → Fr h₀ C s₃.heap m₃ → News h₀ C s₃.heap S₀ → m₃ x = some (.str k t) →
      wpAny (model prog w) A (eval kx (compEnvC scope cl C env)) (fun y s₄ => (∃ t, y = .str k t) ∧ Keeps s₃ s₄) (fun _ _ => False) s₃)
    (hval : ∀ C k v t s₃ m₃, valueAt kvs k = some v → Fr h₀ C s₃.heap m₃ → News h₀ C s₃.heap S₀ → m₃ x = some (.str k t) →
      wpAny (model prog w) A (eval vx (compEnvC scope cl C env)) (fun y s₄ => y = v ∧ Keeps s₃ s₄) (fun _ _ => False) s₃)
    (done : ∀ D oD h' tk, oD.IsDictOf (strKind prog w) (kvs.filter fun kv => q kv.1) → Fr h₀ L h' m₀ → News h₀ L h' ((D, oD) :: S₀) → Kp s.heap h' → s.heap.get? D = none → h₀.objs.size ≤ D → Q (.ref D) { s with heap := h', toks := tk }) :
    wpAny (model prog w) A (eval (.DictComp kx vx [⟨.Name x px, iter, ifs, 0⟩] scope pos) env) Q (fun _ _ => False) s := by
  have hn : (kvs.map (·.1)).Nodup := let ⟨_, _, _, _, _, _, r⟩ := hD; r
  obtain ⟨ep, hat⟩ : ∃ ep, s.heap.DictAt (strKind prog w) d kvs ep := let ⟨es, ep, r⟩ := hD; ⟨ep, od, es, N.get hd, r⟩
  have hdl : s.heap.get? d = some od := N.get hd
  have shape : ∀ {i : Nat} {v : Value}, (∃ k x, kvs[i]? = some (k, x) ∧ (strKind prog w).is k v = true) → ∃ k x t, (k, x) ∈ kvs ∧ valueAt kvs k = some x ∧ v = .str k t := by
    rintro i v ⟨k, x, hi, hv⟩
    obtain ⟨t, rfl⟩ := Value.isStrOf_shape hv
    exact ⟨k, x, t, List.mem_of_getElem? hi, valueAt_of_get hn hi, rfl⟩
  refine dcomp_core (n := kvs.length) (P := fun i v => ∃ k x, kvs[i]? = some (k, x) ∧ (strKind prog w).is k v = true) (fun v => match v with | .str k _ => q k | _ => false) (fun v k => ∃ t, v = .str k t) (fun v y => ∃ k t, v = .str k t ∧ valueAt kvs k = some y)
    F N hclos hcell hkind hnames hx hs hsz (wpAny_mono h (fun xv s₁ h₁ => ?_) fun _ _ e => e) ?_ ?_ ?_ ?_
  · obtain ⟨rfl, h₁, tk₁, rfl, hk⟩ := h₁
    have hlt : d < h₁.objs.size := Heap.lt_size (hk _ _ hdl)
    have hat₁ : h₁.DictAt (strKind prog w) d kvs ep := hat.at' fun o e => hk _ _ e
    refine wpAny_pyIter_dict (s := { s with heap := h₁, toks := tk₁ }) hsys hat₁ ⟨_, _, _, _, _, rfl, rfl, fun b o e => Heap.get?_push_of_some _ (hk b o e), size_fresh hk, Walks.dictKeys hh h₁.objs.size d (Nat.ne_of_lt hlt) kvs ep, ⟨⟨_, Heap.get?_push_size _ rfl, rfl, rfl⟩, hat₁.at' fun o e => Heap.get?_push_of_some _ e⟩, ?_⟩
    intro b hb
    show b < (h₁.push _).objs.size
    rw [Heap.size_push]
    rcases List.mem_cons.mp hb with rfl | hb
    · exact Nat.lt_succ_self _
    · rw [List.mem_singleton.mp hb]; exact Nat.lt_succ_of_lt hlt
  · intro C i v s₃ m₃ hP F' N' _ hm
    obtain ⟨k, x, t, h1, h2, rfl⟩ := shape hP
    exact tests C k x t s₃ m₃ h1 F' N' hm
  · intro C i v s₃ m₃ hP _ F' N' _ hm
    obtain ⟨k, x, t, h1, h2, rfl⟩ := shape hP
    exact wpAny_mono (hkey C k x t s₃ m₃ h1 F' N' hm) (fun y s₄ ⟨⟨t', e⟩, b⟩ => ⟨⟨k, t', e, t, rfl⟩, b⟩) fun _ _ e => e
  · intro C i v s₃ m₃ hP _ F' N' _ hm
    obtain ⟨k, x, t, h1, h2, rfl⟩ := shape hP
    exact wpAny_mono (hval C k x t s₃ m₃ h2 F' N' hm) (fun y s₄ ⟨e, b⟩ => ⟨⟨k, t, rfl, by rw [e]; exact h2⟩, b⟩) fun _ _ e => e
  · intro D oD kvs' vs h' tk hlen hP hF hd' F' N' kk hD' hge
    have hv : Paired (fun v (kv : Str × Value) => ∃ t, v = Value.str kv.1 t) vs kvs := by
      have : ∀ {vs : List Value} {kvs : List (Str × Value)}, vs.length = kvs.length → (∀ j v, vs[j]? = some v → ∃ k x, kvs[j]? = some (k, x) ∧ (strKind prog w).is k v = true) → Paired (fun v (kv : Str × Value) => ∃ t, v = Value.str kv.1 t) vs kvs := fun {vs} => by
        induction vs with
        | nil => intro kvs hl _; cases kvs with | nil => exact .nil | cons _ _ => cases hl
        | cons a r ih =>
          intro kvs hl hp
          cases kvs with
          | nil => cases hl
          | cons b t =>
            refine .cons ?_ (ih (Nat.succ.inj hl) fun j v hj => hp (j + 1) v hj)
            obtain ⟨k, x, e, hv⟩ := hp 0 a rfl
            cases e
            exact Value.isStrOf_shape hv
      exact this hlen hP
    have e := comp_rows q hn hv (p := fun v => match v with | .str k _ => q k | _ => false) (fun _ _ => rfl) hF
    subst e
    exact done D oD h' tk hd' F' N' kk hD' hge
end
theorem news_due {h₀ h : Heap} {L : Addr} {a D It S d n r : Addr × Obj} {tl : List (Addr × Obj)} (N : News h₀ L h (a :: D :: It :: S :: d :: n :: r :: tl)) : News h₀ L h (It :: S :: D :: n :: r :: a :: tl) := by
  intro x hx
  simp only [List.mem_cons] at hx
  rcases hx with e | e | e | e | e | e | e <;> exact N x (by simp [e])
theorem news_due' {h₀ h : Heap} {L : Addr} {D It S d n r : Addr × Obj} {tl : List (Addr × Obj)} (N : News h₀ L h (D :: It :: S :: d :: n :: r :: tl)) : News h₀ L h (It :: S :: D :: n :: r :: tl) := by
  intro x hx
  simp only [List.mem_cons] at hx
  rcases hx with e | e | e | e | e | e <;> exact N x (by simp [e])

end
section
local macro_rules | `(tactic| walk_at "idle line") => `(tactic| fail)
local macro_rules | `(tactic| walk_at "idle line") => `(tactic| fail)
local macro_rules | `(tactic| walk_at "idle line") => `(tactic| fail)
local macro_rules | `(tactic| walk_at "idle line") => `(tactic| fail)
local macro_rules | `(tactic| walk_at "idle line") => `(tactic| fail)
local macro_rules | `(tactic| walk_at "idle line") => `(tactic| fail)
local macro_rules | `(tactic| walk_at "idle line") => `(tactic| fail)
local macro_rules | `(tactic| walk_at "idle line") => `(tactic| fail)
local macro_rules | `(tactic| walk_at "compareOp NotIn str ref") => `(tactic| (k_here; k_dflt (refine kdg_notin (knd := PySem.strKind _ _) (by k_asm) (by k_mem) (by with_reducible assumption) (by with_reducible assumption) (strKind_is _ _ _ _) _ (by with_reducible assumption) ?_); (try dsimp only [Bool.not_true, Bool.not_false])))
local macro_rules | `(tactic| walk_at "subscriptTail") => `(tactic| (k_here; (with_reducible show wpAny _ _ (subscriptTail _ _ (Value.ref _) (Value.str _ _)) _ _ _); k_dflt (refine kda_item (knd := PySem.strKind _ _) (by k_asm) (by k_mem) (by with_reducible assumption) (strKind_is _ _ _ _) (by with_reducible assumption) ?_)))
local macro_rules | `(tactic| walk_at "setItem ref str") => `(tactic| (k_here; k_dflt (refine' kda_set (knd := PySem.strKind _ _) ?F ?N ?U ?d (strKind_is _ _ _ _) ?z ?_; (case F => k_asm); (case N => k_asm); (case U => k_updF); (case d => with_reducible assumption); (case z => (rw [sizeLine_eq]; omega))); intro h' o' F' N' hd'; (try dsimp only at N')))
structure DueSt where
  d : Addr
  oD : Obj
  kvs : List (Str × Value)
  oN : Obj
  oR : Obj
  ss : List Value
  n2 : Nat
  tl : List (Addr × Obj)
theorem getT_up {tb : Tbl} {k : Nat} (hk : k ∈ [97, 98, 99, 100]) : getT tb (k - 32) = getT tb k := by
  unfold getT
  rw [show lw (k - 32) = lw k from (by decide : ∀ k ∈ [97, 98, 99, 100], lw (k - 32) = lw k) k hk]
theorem delT_up {tb : Tbl} {k : Nat} (hk : k ∈ [97, 98, 99, 100]) : delT tb (k - 32) = delT tb k := by
  unfold delT
  rw [show lw (k - 32) = lw k from (by decide : ∀ k ∈ [97, 98, 99, 100], lw (k - 32) = lw k) k hk]
theorem valueAt_snoc {kvs : List (Str × Value)} {k : Str} {v : Value} (h : valueAt kvs k = none) : valueAt (kvs ++ [(k, v)]) k = some v := by
  induction kvs with
  | nil => show valueAt [(k, v)] k = _; rw [valueAt_cons, if_pos rfl]
  | cons a r ih =>
    rw [valueAt_cons] at h
    by_cases e : a.1 = k
    · rw [if_pos e] at h; cases h
    · rw [if_neg e] at h
      rw [List.cons_append, valueAt_cons, if_neg e, ih h]
theorem rows_more {tl tl' : List (Addr × Obj)} {kvs : List (Str × Value)} {tb : Tbl} (h : Paired (KeyRow tl) kvs tb) (hs : ∀ p ∈ tl, p ∈ tl') : Paired (KeyRow tl') kvs tb :=
  paired_mono h fun _ _ ⟨e, a, t1, t2, n, e2, hm⟩ => ⟨e, a, t1, t2, n, e2, hs _ hm⟩
theorem lw_low : ∀ k ∈ [97, 98, 99, 100], lw k = k := by decide
theorem due_ok (w : World) {mean : ExcName → Option Value} {mg mb : Str → Option Value} {dp un : Nat} {fr : Option (List Env)} {gd : Option (List Code)} {s : Shared} {Q E : Value → Shared → Prop}
    {l : Addr} {vs : List Value} {n : Nat} {ds : List Deed}
    (X : (Mine.hd.heap_39 w.params).In s.heap) (T : Top Mine.hd.view_39 LO mean mg mb s.heap) (hdp : dp + 2 < recursionLimit) (hu : un + 80 < cLine)
    (hl : s.heap.get? l = some (listOf vs.toArray n)) (hi : Paired (DeedAt s.heap) vs ds) (hok : ∀ e ∈ ds, DeedOk e) (hlen : ds.length < 50)
    (ret : ∀ (S : List (Addr × Obj)) (r dR lS : Addr) (oD : Obj) (kvs : List (Str × Value)) (ss : List Value) (nR n2 : Nat) (h' : Heap) (tk' : Nat), Fresh s.heap h' S → (r, listOf #[.ref dR, .ref lS] nR) ∈ S → (dR, oD) ∈ S → oD.IsDictOf (strKind PySem.Challenge.rw_pm0053_01.row.prog w) kvs → (dR == sysModules) = false →
      Paired (KeyRow S) kvs (foldDone ds).1 → (lS, listOf ss.toArray n2) ∈ S → Paired IsTx ss (foldDone ds).2 → Kp s.heap h' → Q (.ref r) { s with heap := h', toks := tk' }) :
    wpAny (model PySem.Challenge.rw_pm0053_01.row.prog w) (AR dp un fr gd) (call (.ref 208) [.ref l]) Q E s := by
  revert X T
  k_fill
  intro X T
  k_dflt (refine' enterC [(Str.ofString "deeds", Value.ref l)] ?k3 ?k5 ?k6 ?k7 ?k8 ?k9 ?kB ?kD ?_ ?c2 ?c3 ?c4)
  (case k3 => assumption); (case k5 => assumption); (case k6 => k_is); (case k7 => k_is); (case k8 => (dsimp only [AR, Around.deeper]; omega)); (case k9 => exact fun _ => rfl); (case kB => exact rfl); (case kD => decide +kernel); (case c2 => exact rfl); (case c3 => exact rfl); (case c4 => exact rfl); k_whole; intro L' h' tk' cells' F' N' Y'
  k_cells Y'
  try k_fold
  walk_at "my_steps"
  rename Fr _ _ _ _ => F₁
  rename News _ _ _ _ => N₁
  rename_i dR _ oD hsys hD _ _ _ l1 _ oR dcR lS _ l2 hh
  have hvl : vs.length = ds.length := hi.length
  have q1 : @LT.lt Nat _ (L' + 1 + 1) dR := l1.1
  have q2 : @LT.lt Nat _ dR lS := l2.1
  have q3 : @LT.lt Nat _ (L' + 1 + 1) lS := Nat.lt_trans q1 q2
  clear l1 l2
  refine for_list (τ := DueSt) F₁ (fun c => (lS, listOf c.ss.toArray c.n2) :: (c.d, c.oD) :: (L' + 1 + 1, c.oN) :: (L' + 1, c.oR) :: c.tl)
    (fun i m c => m (Str.ofString "said") = some (.ref lS) ∧ c.oD.IsDictOf (strKind PySem.Challenge.rw_pm0053_01.row.prog w) c.kvs ∧ (c.d == sysModules) = false ∧ c.oR.data = .cell (some (.ref c.d)) ∧ (∃ x, c.oN.data = .cell x) ∧
      Paired (KeyRow c.tl) c.kvs (foldDone (ds.take i)).1 ∧ Paired IsTx c.ss (foldDone (ds.take i)).2 ∧ (∀ p ∈ c.tl, @LT.lt Nat _ lS p.1) ∧ (∀ p ∈ c.tl, p.1 ≠ c.d) ∧ c.ss.length ≤ i ∧ @Ne Nat c.d (L' + 1 + 1) ∧ @Ne Nat c.d (L' + 1) ∧ @Ne Nat c.d lS)
    ⟨dR, oD, [], _, oR, [], 0, []⟩ l vs n rfl rfl (fun _ => rfl) (.inl hl) ?_ N₁ ?_ ?_ ?_
  · walk_at "my_steps"
  · exact ⟨by walk_at "my_lk", hD, hsys, dcR, ⟨_, by assumption⟩, .nil, .nil, fun _ h => (nomatch h), fun _ h => (nomatch h), Nat.le_refl _, Nat.ne_of_gt q1, Nat.ne_of_gt (Nat.lt_of_succ_lt q1), Nat.ne_of_lt q2⟩
  · rintro i v m ⟨dR, oD, kvs, oN, oR, ss, n2, tl⟩ h tk' It oI hv ⟨h1, h2, h3, h4, ⟨xN, h5⟩, h6, h7, h8, h9, h10, h11, h11', h12⟩ hne F N
    dsimp only at h2 h3 h4 h5 h6 h7 h8 h9 h10 h11 h11' h12 hne N
    obtain ⟨e, he, a, t1, t2, t3, ne, rfl, ha⟩ := paired_get hi hv
    have hil : i < ds.length := (List.getElem?_eq_some_iff.mp he).1
    have hT : h.IsList a #[.int e.how t1, .str (sg e.name) t2, .str (tx e.body) t3] := ⟨_, F.keep _ _ ha, rfl, _, rfl⟩
    obtain ⟨k1, k2, k3⟩ := hok e (List.mem_of_getElem? he)
    have hup := up_all _ k2
    have i1 : @Ne Nat lS It := hne _ (.head _)
    have i2 : @Ne Nat dR It := hne _ (.tail _ (.head _))
    have i3 : @Ne Nat (L' + 1 + 1) It := hne (L' + 1 + 1, _) (.tail _ (.tail _ (.head _)))
    have i4 : @Ne Nat (L' + 1) It := hne (L' + 1, _) (.tail _ (.tail _ (.tail _ (.head _))))
    have hfs := foldDone_succ he
    obtain ⟨how, name, body⟩ := e
    dsimp only at k1 k2 k3 hup hT
    have hlw : lw name = name := lw_low _ k2
    have hget := rows_get h6 hlw
    have hkl : kvs.length ≤ 60 := by
      have f2 := (fold_ok (ds := ds.take i) ([], []) (fun _ h => (nomatch h)) fun x hx => hok x (List.mem_of_mem_take hx)).2
      have : (ds.take i).length ≤ i := by simp; omega
      have := h6.length
      unfold foldDone at this
      simp only [List.length_nil] at f2
      omega
    have hsz' : ss.toArray.size ≤ 16777216 := by simp; omega
    have hlw : lw name = name := lw_low _ k2
    have hget := rows_get h6 hlw
    have hkl : kvs.length ≤ 60 := by
      have f2 := (fold_ok (ds := ds.take i) ([], []) (fun _ h => (nomatch h)) fun x hx => hok x (List.mem_of_mem_take hx)).2
      have : (ds.take i).length ≤ i := by simp; omega
      have := h6.length
      unfold foldDone at this
      simp only [List.length_nil] at f2
      omega
    have hsz' : ss.toArray.size ≤ 16777216 := by simp; omega
    have k1' : how = 0 ∨ how = 1 ∨ how = 2 ∨ how = 3 := by omega
    by_cases h2h : how = 2
    · subst h2h
      cases hg : getT (foldDone (ds.take i)).1 name with
      | none =>
        rw [hg] at hget
        have hb : (valueAt kvs (sg name)).isSome = false := by rw [hget]; rfl
        walk_at "my_steps"
        rename_i h₃ _ N₃ _ _ h₄ F₄ N₄ _ _ _
        have aI : @LT.lt Nat _ It h₃.objs.size := Heap.lt_size (N₃ _ (.head _)).1
        have aS : @LT.lt Nat _ lS h₃.objs.size := Heap.lt_size (N₃ _ (.tail _ (.head _))).1
        have aD : @LT.lt Nat _ dR h₃.objs.size := Heap.lt_size (N₃ _ (.tail _ (.tail _ (.head _)))).1
        dsimp only at N₄ ⊢
        generalize h₃.objs.size = a' at aI aS aD N₄ ⊢
        refine kda_set (knd := PySem.strKind _ _) (v := .ref a') F₄ N₄ (.tail (Nat.ne_of_gt aD) (.tail (Ne.symm i2) (.tail (Ne.symm h12) (.head ?_)))) h2 (strKind_is _ _ _ _) (by rw [sizeLine_eq]; omega) ?_
        · exact List.forall_mem_cons.mpr ⟨Ne.symm h11, List.forall_mem_cons.mpr ⟨Ne.symm h11', h9⟩⟩
        intro h₅ oD₅ F₅ N₅ hD₅
        rw [stored_new hget] at hD₅
        have hv₅ := valueAt_snoc (v := .ref a') hget
        dsimp only at N₅ ⊢
        clear F₄ N₄ N₃
        walk_at "my_steps"
        rename Fr _ _ _ _ => F₇
        rename News _ _ _ _ => N₇
        rw [List.push_toArray] at N₇
        have hst : doneStep (foldDone (ds.take i)) ⟨2, name, body⟩ = ((foldDone (ds.take i)).1 ++ [(name - 32, body)], (foldDone (ds.take i)).2 ++ [body]) := by
          show (((setdT _ (name - 32) body).1), _ ++ [(setdT _ (name - 32) body).2]) = _
          unfold setdT
          rw [getT_up k2, hg]
        rw [hst] at hfs
        refine ⟨_, ⟨dR, oD₅, kvs ++ [(sg name, .ref a')], _, oR, ss ++ [_], n2 + 1, (a', _) :: tl⟩, _, _, rfl, ⟨by walk_at "my_lk", hD₅, h3, h4, ⟨_, by assumption⟩, ?_, by rw [hfs]; exact paired_append h7 (.cons ⟨_, rfl⟩ .nil), fun p hp => ?_, fun p hp => ?_, by show (ss ++ [_]).length ≤ i + 1; simp; omega, h11, h11', h12⟩, F₇, news_rot N₇, fun p hp => ?_⟩
        · rw [hfs]
          exact paired_append (rows_more h6 fun _ hp => .tail _ hp) (.cons ⟨by rw [show lw (name - 32) = name from (by decide : ∀ k ∈ [97, 98, 99, 100], lw (k - 32) = k) name k2], a', _, _, 0, rfl, .head _⟩ .nil)
        · rcases List.mem_cons.mp hp with rfl | hp
          · exact aS
          · exact h8 p hp
        · rcases List.mem_cons.mp hp with rfl | hp
          · exact Nat.ne_of_gt aD
          · exact h9 p hp
        · simp only [List.mem_cons] at hp
          rcases hp with rfl | rfl | rfl | rfl | rfl | hp
          · exact i1
          · exact i2
          · exact i3
          · exact i4
          · exact Nat.ne_of_gt aI
          · exact hne p (.tail _ (.tail _ (.tail _ (.tail _ hp))))
      | some b =>
        rw [hg] at hget
        obtain ⟨v, e, g1, ⟨a₁, x1, x2, nn, rfl, hm⟩, rfl⟩ := hget
        have hb : (valueAt kvs (sg name)).isSome = true := by rw [g1]; rfl
        walk_at "my_steps"
        rename News _ _ _ _ => N₄
        k_dflt (refine' item_tupleT (j := 1) (News.isTup N₄ (List.Mem.tail _ (.tail _ (.tail _ (.tail _ (.tail _ hm)))))) ?ya ?yb ?yc ?yd ?_ ?ye)
        (case ya => decide); (case yb => decide); (case yc => rfl); (case yd => rfl); (case ye => with_unfolding_all rfl); k_whole
        walk_at "my_steps"
        rename Fr _ _ _ _ => F₇
        rename News _ _ _ _ => N₇
        rw [List.push_toArray] at N₇
        have hst : doneStep (foldDone (ds.take i)) ⟨2, name, body⟩ = ((foldDone (ds.take i)).1, (foldDone (ds.take i)).2 ++ [e.2]) := by
          show (((setdT _ (name - 32) body).1), _ ++ [(setdT _ (name - 32) body).2]) = _
          unfold setdT
          rw [getT_up k2, hg]
        rw [hst] at hfs
        refine ⟨_, ⟨dR, oD, kvs, _, oR, ss ++ [_], n2 + 1, tl⟩, _, _, rfl, ⟨by walk_at "my_lk", h2, h3, h4, ⟨_, by assumption⟩, by rw [hfs]; exact h6, by rw [hfs]; exact paired_append h7 (.cons ⟨_, rfl⟩ .nil), h8, h9, by show (ss ++ [_]).length ≤ i + 1; simp; omega, h11, h11', h12⟩, F₇, N₇, fun p hp => ?_⟩
        simp only [List.mem_cons] at hp
        rcases hp with rfl | rfl | rfl | rfl | hp
        · exact i1
        · exact i2
        · exact i3
        · exact i4
        · exact hne p (.tail _ (.tail _ (.tail _ (.tail _ hp))))
    · walk_at "my_steps"
      · rename_i hc
        omega
      · rename_i hc
        refine wpAny_Assign_Name ?_ (by rfl)
        rename Fr _ _ _ _ => F₄
        rename News _ _ _ _ => N₄
        k_dflt (refine' dcomp_keys (kvs := kvs) (d := dR) (fun k => !(k == sg name)) F₄ N₄ (List.Mem.tail _ (.tail _ (.head _))) h2 h3 ?zm ?za ?zb ?zc ?zd ?ze ?zf ?zg ?zh ?zi ?zj ?zk ?zl)
        (case zm => rfl); (case za => rfl); (case zb => decide); (case zc => rfl); (case zd => decide); (case ze => rfl); (case zf => exact fun _ => rfl); (case zg => rw [sizeLine_eq]; omega)
        case zh =>
          refine opq fun P hP => ?_
          walk_at "my_steps"
          exact hP _ _ ⟨rfl, _, _, rfl, fun _ _ e => e⟩
        case zi =>
          intro C k v t s₃ m₃ hm F N hx
          refine opq fun P hP => ?_
          refine one_test ?_
          walk_at "my_steps"
          exact hP _ _ ⟨rfl, _, _, rfl, fun _ _ e => e⟩
        case zj =>
          intro C k v t s₃ m₃ hm F N hx
          refine opq fun P hP => ?_
          walk_at "my_steps"
          exact hP _ _ ⟨⟨_, rfl⟩, _, _, rfl, fun _ _ e => e⟩
        case zk =>
          intro C k v t s₃ m₃ hm F N hx
          refine opq fun P hP => ?_
          walk_at "my_steps"
          exact hP _ _ ⟨rfl, _, _, rfl, fun _ _ e => e⟩
        case zl =>
          intro D oD₅ h₅ tk₅ hD₅ F₅ N₅ k₅ hDn hge
          have d1 : @Ne Nat D It := ne_fresh N₄ (.head _) hDn
          have d2 : @Ne Nat D lS := ne_fresh N₄ (.tail _ (.head _)) hDn
          have d3 : @Ne Nat D dR := ne_fresh N₄ (.tail _ (.tail _ (.head _))) hDn
          have d4 : @Ne Nat D (L' + 1 + 1) := ne_fresh N₄ (.tail _ (.tail _ (.tail _ (.head _)))) hDn
          have d5 : @Ne Nat D (L' + 1) := ne_fresh N₄ (.tail _ (.tail _ (.tail _ (.tail _ (.head _))))) hDn
          have d6 : ∀ p ∈ tl, p.1 ≠ D := fun p hp => Ne.symm (ne_fresh N₄ (.tail _ (.tail _ (.tail _ (.tail _ (.tail _ hp))))) hDn)
          have hrow := rows_del h6 hlw
          have hfl : (kvs.filter fun kv => !(kv.1 == sg name)).length ≤ 60 := Nat.le_trans (List.length_filter_le ..) hkl
          have hdel : valueAt (kvs.filter fun kv => !(kv.1 == sg name)) (sg name) = none := by
            unfold valueAt
            rw [Option.map_eq_none_iff, List.find?_eq_none]
            intro kv hm he
            have := (List.mem_filter.mp hm).2
            rw [of_decide_eq_true he] at this
            simp at this
          have hDsys : (D == sysModules) = false := beq_eq_false_iff_ne.mpr (Nat.ne_of_gt (Nat.lt_of_lt_of_le (modules_low T.nolimit) hge))
          clear F₄ N₄
          walk_at "my_steps"
          · rename_i h₃ _ _ N₃ _ _ h₄ F₄ N₄ _ _ _
            have hq0 : how = 0 := by omega
            subst hq0
            have aI : @LT.lt Nat _ It h₃.objs.size := Heap.lt_size (N₃ _ (.tail _ (.head _))).1
            have aS : @LT.lt Nat _ lS h₃.objs.size := Heap.lt_size (N₃ _ (.tail _ (.tail _ (.head _)))).1
            have aD : @LT.lt Nat _ D h₃.objs.size := Heap.lt_size (N₃ _ (.head _)).1
            dsimp only at N₄ ⊢
            generalize h₃.objs.size = a' at aI aS aD N₄ ⊢
            refine kda_set (knd := PySem.strKind _ _) (v := .ref a') F₄ N₄ (.tail (Nat.ne_of_gt aD) (.head ?_)) hD₅ (strKind_is _ _ _ _) (by rw [sizeLine_eq]; omega) ?_
            · exact List.forall_mem_cons.mpr ⟨Ne.symm d1, List.forall_mem_cons.mpr ⟨Ne.symm d2, List.forall_mem_cons.mpr ⟨Ne.symm d3, List.forall_mem_cons.mpr ⟨Ne.symm d4, List.forall_mem_cons.mpr ⟨Ne.symm d5, d6⟩⟩⟩⟩⟩
            intro h₆ oD₆ F₆ N₆ hD₆
            rw [stored_new hdel] at hD₆
            dsimp only at N₆ ⊢
            clear F₄ N₄ N₃
            walk_at "my_steps"
            rename Fr _ _ _ _ => F₇
            rename News _ _ _ _ => N₇
            refine ⟨_, ⟨D, oD₆, _ ++ [(sg name, .ref a')], _, _, ss, n2, (a', _) :: tl⟩, _, _, rfl, ⟨by walk_at "my_lk", hD₆, hDsys, by assumption, ⟨_, by assumption⟩, ?_, by rw [hfs]; exact h7, fun p hp => ?_, fun p hp => ?_, Nat.le_succ_of_le h10, d4, d5, d2⟩, F₇, news_due N₇, fun p hp => ?_⟩
            · rw [hfs]
              exact paired_append (rows_more hrow fun _ hp => .tail _ hp) (.cons ⟨by rw [hlw], a', _, _, 0, rfl, .head _⟩ .nil)
            · rcases List.mem_cons.mp hp with rfl | hp
              · exact aS
              · exact h8 p hp
            · rcases List.mem_cons.mp hp with rfl | hp
              · exact Nat.ne_of_gt aD
              · exact d6 p hp
            · simp only [List.mem_cons] at hp
              rcases hp with rfl | rfl | rfl | rfl | rfl | hp
              · exact i1
              · exact d1
              · exact i3
              · exact i4
              · exact Nat.ne_of_gt aI
              · exact hne p (.tail _ (.tail _ (.tail _ (.tail _ hp))))
          · rename_i h₃ _ _ N₃ _ _ _ _ h₄ F₄ N₄ _ _ _
            have hq0 : how = 1 := by omega
            subst hq0
            have aI : @LT.lt Nat _ It h₃.objs.size := Heap.lt_size (N₃ _ (.tail _ (.head _))).1
            have aS : @LT.lt Nat _ lS h₃.objs.size := Heap.lt_size (N₃ _ (.tail _ (.tail _ (.head _)))).1
            have aD : @LT.lt Nat _ D h₃.objs.size := Heap.lt_size (N₃ _ (.head _)).1
            dsimp only at N₄ ⊢
            generalize h₃.objs.size = a' at aI aS aD N₄ ⊢
            refine kda_set (knd := PySem.strKind _ _) (v := .ref a') F₄ N₄ (.tail (Nat.ne_of_gt aD) (.head ?_)) hD₅ (strKind_is _ _ _ _) (by rw [sizeLine_eq]; omega) ?_
            · exact List.forall_mem_cons.mpr ⟨Ne.symm d1, List.forall_mem_cons.mpr ⟨Ne.symm d2, List.forall_mem_cons.mpr ⟨Ne.symm d3, List.forall_mem_cons.mpr ⟨Ne.symm d4, List.forall_mem_cons.mpr ⟨Ne.symm d5, d6⟩⟩⟩⟩⟩
            intro h₆ oD₆ F₆ N₆ hD₆
            rw [stored_new hdel] at hD₆
            dsimp only at N₆ ⊢
            clear F₄ N₄ N₃
            walk_at "my_steps"
            rename Fr _ _ _ _ => F₇
            rename News _ _ _ _ => N₇
            refine ⟨_, ⟨D, oD₆, _ ++ [(sg name, .ref a')], _, _, ss, n2, (a', _) :: tl⟩, _, _, rfl, ⟨by walk_at "my_lk", hD₆, hDsys, by assumption, ⟨_, by assumption⟩, ?_, by rw [hfs]; exact h7, fun p hp => ?_, fun p hp => ?_, Nat.le_succ_of_le h10, d4, d5, d2⟩, F₇, news_due N₇, fun p hp => ?_⟩
            · rw [hfs]
              show Paired _ _ (delT _ (name - 32) ++ [(name - 32, body)])
              rw [delT_up k2]
              exact paired_append (rows_more hrow fun _ hp => .tail _ hp) (.cons ⟨by rw [show lw (name - 32) = name from (by decide : ∀ k ∈ [97, 98, 99, 100], lw (k - 32) = k) name k2], a', _, _, 0, rfl, .head _⟩ .nil)
            · rcases List.mem_cons.mp hp with rfl | hp
              · exact aS
              · exact h8 p hp
            · rcases List.mem_cons.mp hp with rfl | hp
              · exact Nat.ne_of_gt aD
              · exact d6 p hp
            · simp only [List.mem_cons] at hp
              rcases hp with rfl | rfl | rfl | rfl | rfl | hp
              · exact i1
              · exact d1
              · exact i3
              · exact i4
              · exact Nat.ne_of_gt aI
              · exact hne p (.tail _ (.tail _ (.tail _ (.tail _ hp))))
          · have hq0 : how = 3 := by omega
            subst hq0
            rename Fr _ _ _ _ => F₇
            rename News _ _ _ _ => N₇
            refine ⟨_, ⟨D, oD₅, _, _, _, ss, n2, tl⟩, _, _, rfl, ⟨by walk_at "my_lk", hD₅, hDsys, by assumption, ⟨_, by assumption⟩, by rw [hfs]; exact hrow, by rw [hfs]; exact h7, h8, d6, Nat.le_succ_of_le h10, d4, d5, d2⟩, F₇, news_due' N₇, fun p hp => ?_⟩
            simp only [List.mem_cons] at hp
            rcases hp with rfl | rfl | rfl | rfl | hp
            · exact i1
            · exact d1
            · exact i3
            · exact i4
            · exact hne p (.tail _ (.tail _ (.tail _ (.tail _ hp))))
  · rintro m ⟨dR, oD, kvs, oN, oR, ss, n2, tl⟩ h tk' ⟨h1, h2, h3, h4, ⟨xN, h5⟩, h6, h7, h8, h9, h10, h11, h11', h12⟩ F N
    dsimp only at h2 h3 h4 h5 h6 h7 h8 h9 h10 h11 h11' h12 N ⊢
    rw [hvl, List.take_length] at h6 h7
    walk_at "my_steps"
    rename Fr _ _ _ _ => F₅
    rename News _ _ _ _ => N₅
    exact ret _ _ dR lS oD kvs ss _ n2 _ _ (fresh_of N₅) (.head _) (.tail _ (.tail _ (.head _))) h2 h3
      (paired_mono h6 fun _ _ ⟨e, a, t1, t2, n, e2, hm⟩ => ⟨e, a, t1, t2, n, e2, .tail _ (.tail _ (.tail _ (.tail _ (.tail _ hm))))⟩) (.tail _ (.head _)) h7 F₅.keep

end
section
local macro_rules | `(tactic| walk_at "idle line") => `(tactic| fail)
local macro_rules | `(tactic| walk_at "idle line") => `(tactic| fail)
local macro_rules | `(tactic| walk_at "idle line") => `(tactic| fail)
local macro_rules | `(tactic| walk_at "idle line") => `(tactic| fail)
local macro_rules | `(tactic| walk_at "idle line") => `(tactic| fail)
local macro_rules | `(tactic| walk_at "idle line") => `(tactic| fail)
local macro_rules | `(tactic| walk_at "idle line") => `(tactic| fail)
local macro_rules | `(tactic| walk_at "idle line") => `(tactic| fail)
local macro_rules | `(tactic| walk_at "idle line") => `(tactic| fail)
local macro_rules | `(tactic| walk_at "idle line") => `(tactic| fail)
local macro_rules | `(tactic| walk_at "idle line") => `(tactic| fail)
local macro_rules | `(tactic| walk_at "idle line") => `(tactic| fail)
local macro_rules | `(tactic| walk_at "idle line") => `(tactic| fail)
local macro_rules | `(tactic| walk_at "idle line") => `(tactic| fail)
local macro_rules | `(tactic| walk_at "idle line") => `(tactic| fail)
local macro_rules | `(tactic| walk_at "idle line") => `(tactic| fail)
theorem rows_getP {P : Value → Nat × List Nat → Prop} {kvs : List (Str × Value)} {tb : Tbl} (h : Paired (fun (kv : Str × Value) e => kv.1 = sg (lw e.1) ∧ P kv.2 e) kvs tb) {k : Nat} (hk : lw k = k) :
    match getT tb k with | some b => ∃ v e, valueAt kvs (sg k) = some v ∧ P v e ∧ e.2 = b | none => valueAt kvs (sg k) = none := by
  induction h with
  | nil => exact rfl
  | @cons kv e kvs tb hr _ ih =>
    rw [getT_cons, valueAt_cons, hr.1, hk]
    by_cases hh : lw e.1 = k
    · rw [if_pos hh, if_pos (by rw [hh])]
      exact ⟨kv.2, e, rfl, hr.2, rfl⟩
    · rw [if_neg hh, if_neg fun q => hh (sg_inj.mp q)]
      exact ih
section
variable {prog : Program} {w : World} {A : Around} {E : Value → Shared → Prop} {s : Shared} {h₀ : Heap} {L d : Addr} {m : Str → Option Value} {o : Obj} {kvs : List (Str × Value)} {k : Str} {t : Tok} {v : Value}
theorem base_in {Q : Value → Shared → Prop} (F : Fr h₀ L s.heap m) (ho : h₀.get? d = some o) (hd : o.IsDictOf (strKind prog w) kvs) (lo : (d == sysModules) = false) (b : Bool) (hb : (valueAt kvs k).isSome = b) (h : Q (.bool b) { s with toks := s.toks + 1 }) :
    wpAny (model prog w) A (compareOp .In (.str k t) (.ref d)) Q E s := wpAny_in_of (strKind_is prog w k t) lo (Heap.DictOf.mapOf (Heap.dictOf_iff.mpr ⟨o, F.keep _ _ ho, hd⟩)) (by rw [hb]; exact h)
theorem base_item {value slice : PySem.Expr} {Q : Value → Shared → Prop} (F : Fr h₀ L s.heap m) (ho : h₀.get? d = some o) (hd : o.IsDictOf (strKind prog w) kvs) (hl : valueAt kvs k = some v) (h : Q v { s with toks := s.toks + 1 })
    (hs : subscripted slice false (.ref d) (.str k t) = operate [.ref d, .str k t] (getItem (.ref d) (.str k t)) := by with_unfolding_all rfl) (hg : ∀ r, letTemporaryGo value (.ref d) r = pure () := by intro _; with_unfolding_all rfl) :
    wpAny (model prog w) A (subscriptTail value slice (.ref d) (.str k t)) Q E s :=
  have hD : s.heap.DictOf (strKind prog w) d kvs := Heap.dictOf_iff.mpr ⟨o, F.keep _ _ ho, hd⟩
  subscriptTail_builtin hD.typeIs slot_dict_getitem.lookup (wpAny_getItem_of (strKind_is prog w k t) hD.mapOf hl h) hs hg
theorem base_pair1 {value slice : Expr} {a : Addr} {x y : Str} {t1 t2 u : Tok} {n : Nat} {Q : Value → Shared → Prop} (F : Fr h₀ L s.heap m) (ho : h₀.get? a = some (pairObj x y t1 t2 n)) (h : Q (.str y t2) s)
    (hs : subscripted slice false (.ref a) (.int 1 u) = operate [.ref a, .int 1 u] (getItem (.ref a) (.int 1 u)) := by with_unfolding_all rfl) :
    wpAny (model prog w) A (subscriptTail value slice (.ref a) (.int 1 u)) Q E s :=
  item_tupleT (l := [.str x t1, .str y t2]) (j := 1) ⟨_, F.keep _ _ ho, rfl, _, rfl⟩ (by decide) (by decide) rfl rfl h hs
end
local macro_rules | `(tactic| walk_at "compareOp In str ref") => `(tactic| (k_here; k_dflt (refine' base_in ?F ?o ?d ?l _ ?b ?_; (case F => k_asm); (case o => with_reducible assumption); (case d => with_reducible assumption); (case l => with_reducible assumption); (case b => with_reducible assumption); k_whole)))
local macro_rules | `(tactic| walk_at "subscriptTail") => `(tactic| (k_here; (with_reducible show wpAny _ _ (subscriptTail _ _ (Value.ref _) (Value.str _ _)) _ _ _); k_dflt (refine' base_item ?F ?o ?d ?l ?_ ?s ?g; (case F => k_asm); (case o => with_reducible assumption); (case d => with_reducible assumption); (case l => with_reducible assumption); (case s => with_unfolding_all rfl); (case g => intro _; with_unfolding_all rfl); k_whole)))
local macro_rules | `(tactic| walk_at "subscriptTail") => `(tactic| (k_here; (with_reducible show wpAny _ _ (subscriptTail _ _ (Value.ref _) (Value.int 1 _)) _ _ _); k_dflt (refine' base_pair1 ?F ?o ?_ ?s; (case F => k_asm); (case o => with_reducible assumption); (case s => with_unfolding_all rfl); k_whole)))
abbrev RuleRow (h : Heap) (kv : Str × Value) (e : Nat × List Nat) : Prop := kv.1 = sg (lw e.1) ∧ PairAt h kv.2 (tx [e.1]) (tx e.2)
theorem written_ok (w : World) {mean : ExcName → Option Value} {mg mb : Str → Option Value} {dp un : Nat} {fr : Option (List Env)} {gd : Option (List Code)} {s : Shared} {Q E : Value → Shared → Prop}
    {dR : Addr} {oD : Obj} {kvs : List (Str × Value)} {tb : Tbl} {B ex : Nat → List Nat} {word0 : List Nat} {tw : Tok}
    (X : (Mine.hd.heap_39 w.params).In s.heap) (T : Top Mine.hd.view_39 LO mean mg mb s.heap) (hdp : dp + 2 < recursionLimit) (hu : un + 80 < cLine)
    (hR : s.heap.get? dR = some oD) (hD : oD.IsDictOf (strKind PySem.Challenge.rw_pm0053_01.row.prog w) kvs) (hsys : (dR == sysModules) = false) (hrow : Paired (RuleRow s.heap) kvs tb)
    (hget : ∀ k ∈ [97, 98, 99, 100], (getT tb k).getD [] = B k) (BO : BodiesOk B)
    (e48 : ex 48 = [48]) (e49 : ex 49 = [49]) (eB : ∀ k ∈ [97, 98, 99, 100], ex k = (B k).flatMap fun j => ex (lw j)) (hex : ∀ k ∈ six, (ex k).length < 30)
    (hw0 : ∀ k ∈ word0, k ∈ [48, 49, 65, 66, 67, 68, 97, 98, 99, 100]) (hwl : word0.length < 20)
    (ret : ∀ (t : Tok) (h' : Heap) (tk' : Nat), Kp s.heap h' → Q (.str (tx (word0.flatMap fun j => ex (lw j))) t) { s with heap := h', toks := tk' }) :
    wpAny (model PySem.Challenge.rw_pm0053_01.row.prog w) (AR dp un fr gd) (call (.ref 213) [.ref dR, .str (tx word0) tw]) Q E s := by
  revert X T
  k_fill
  intro X T
  k_dflt (refine' enterC [(Str.ofString "rules", Value.ref dR), (Str.ofString "word", Value.str (tx word0) tw)] ?k3 ?k5 ?k6 ?k7 ?k8 ?k9 ?kB ?kD ?_ ?c2 ?c3 ?c4)
  (case k3 => assumption); (case k5 => assumption); (case k6 => k_is); (case k7 => k_is); (case k8 => (dsimp only [AR, Around.deeper]; omega)); (case k9 => exact fun _ => rfl); (case kB => exact rfl); (case kD => decide +kernel); (case c2 => exact rfl); (case c3 => exact rfl); (case c4 => exact rfl); k_whole; intro L' h' tk' cells' F' N' Y'
  k_cells Y'
  try k_fold
  walk_at "my_steps"
  rename Fr _ _ _ _ => F₁
  rename News _ _ _ _ => N₁
  rename_i _ oT lo hd hf _ l1 _ oC dC
  have hlk0 : ∀ k ∈ [48, 49], lookup (.str (sg k)) [(PyData.str (Str.ofString "0"), PyData.str (Str.ofString "0")), (.str (Str.ofString "1"), .str (Str.ofString "1"))] = some (.str (tx (ex k))) := by
    intro k hk
    simp only [List.mem_cons, List.not_mem_nil, or_false] at hk
    rcases hk with rfl | rfl
    · rw [e48]; with_unfolding_all rfl
    · rw [e49]; with_unfolding_all rfl
  obtain ⟨kT, DT, hd, hf, hn, hlk⟩ : ∃ kT DT, oT.IsDictOf (strKind PySem.Challenge.rw_pm0053_01.row.prog w) kT ∧ PyProof.V.FlatPairs PyData.str kT DT ∧ DT.length ≤ 2 ∧ ∀ k ∈ [48, 49], lookup (.str (sg k)) DT = some (.str (tx (ex k))) := ⟨_, _, hd, hf, Nat.le_refl 2, hlk0⟩
  dsimp only at dC
  generalize h'.objs.size = dT at lo l1 N₁ dC
  have cl1 : @Ne Nat (L' + 1) dT := Nat.ne_of_lt l1
  clear l1
  rename ∀ p ∈ [_], _ => l9
  clear l9
  have seg : ∀ (j : Nat), j ∈ [48, 49, 65, 66, 67, 68, 97, 98, 99, 100] → (ex (lw j)).length < 30 := fun j hj => hex _ (lw_small j hj).2
  have flat : ∀ (l : List Nat) (ys : List Value), Paired (fun (j : Nat) v => ∃ u, v = Value.str (tx (ex (lw j))) u) l ys → Paired (fun (l : List Nat) v => ∃ u, v = Value.str (tx l) u) (l.map fun j => ex (lw j)) ys := fun l ys h => by
    induction h with
    | nil => exact .nil
    | cons e _ ih => exact .cons e ih
  refine for_strE (τ := Obj × List (Str × Value) × List (PyData × PyData)) F₁ (fun c => [(dT, c.1), (L' + 1, oC)])
    (fun i m c => m (Str.ofString "rules") = some (.ref dR) ∧ m (Str.ofString "word") = some (.str (tx word0) tw) ∧ c.1.IsDictOf (strKind PySem.Challenge.rw_pm0053_01.row.prog w) c.2.1 ∧ PyProof.V.FlatPairs PyData.str c.2.1 c.2.2 ∧ c.2.2.length ≤ 2 + i ∧ ∀ k ∈ [48, 49] ++ [97, 98, 99, 100].take i, lookup (.str (sg k)) c.2.2 = some (.str (tx (ex k))))
    (oT, kT, DT) (Str.ofString "abcd") rfl rfl rfl rfl (fun _ => rfl) (by decide +kernel) ?_ ?_ ?_ ?_
  · refine opq fun P hP => ?_
    walk_at "my_steps"
    exact hP _ _ ⟨⟨_, rfl⟩, _, _, rfl, F₁, N₁⟩
  · exact ⟨by walk_at "my_lk", by walk_at "my_lk", hd, hf, by omega, by simpa using hlk⟩
  · rintro i k u m ⟨o, kw, D⟩ h tk It oI hk ⟨h1, h2, h3, h4, h5, h6⟩ hne F N
    dsimp only at h3 h4 h5 h6 hne N
    obtain ⟨hi, rfl⟩ := abcd_at hk
    have mk : 97 + i ∈ [97, 98, 99, 100] := by simp; omega
    have bl := BO.len _ mk
    have ba := BO.ahead _ mk
    have hlw : lw (97 + i) = 97 + i := lw_low _ mk
    have hrg := rows_getP (P := fun v e => PairAt s.heap v (tx [e.1]) (tx e.2)) hrow hlw
    have hgB := hget _ mk
    have d2 : @Ne Nat dT It := hne _ (.head _)
    have d3 : @Ne Nat (L' + 1) It := hne (L' + 1, _) (.tail _ (.head _))
    obtain ⟨b, hb, hvb⟩ : ∃ b, (valueAt kvs (sg (97 + i))).isSome = b ∧ (b = true → ∃ a x t1 t2 n, valueAt kvs (sg (97 + i)) = some (.ref a) ∧ s.heap.get? a = some (pairObj x (tx (B (97 + i))) t1 t2 n)) ∧ (b = false → B (97 + i) = []) := by
      cases hg : getT tb (97 + i) with
      | none =>
        rw [hg] at hrg hgB
        exact ⟨false, by rw [hrg]; rfl, fun h => (nomatch h), fun _ => hgB.symm⟩
      | some b =>
        rw [hg] at hrg hgB
        obtain ⟨v, e, g1, ⟨a, t1, t2, n, rfl, g2⟩, rfl⟩ := hrg
        exact ⟨true, by rw [g1]; rfl, fun _ => ⟨a, _, t1, t2, n, g1, by rw [← hgB]; exact g2⟩, fun h => nomatch h⟩
    have hbe : b = false → Str.ofString "" = tx (B (97 + i)) := fun hh => by rw [hvb.2 hh]; decide
    cases b with
    | true =>
      obtain ⟨a, x, t1, t2, n, g1, g2⟩ := hvb.1 rfl
      walk_at "my_steps"
      rename Fr _ _ _ _ => F₁
      rename News _ _ _ _ => N₁
      k_dflt (refine' comp_strE F₁ N₁ (tx (B (97 + i))) (fun j v => ∃ u, v = .str (tx (ex (lw j))) u) ?a1 ?b1 ?c1 ?d1 ?e1 ?f1 ?g1 ?y1 ?z1 ?it1 ?el1 ?dn1)
      (case a1 => rfl); (case b1 => rfl); (case c1 => decide); (case d1 => rfl); (case e1 => decide); (case f1 => rfl); (case g1 => exact fun _ => rfl)
      · rw [Array.all_eq_true']
        intro j hj
        have := (ba j (by simpa using hj)).1
        simp at this ⊢
        omega
      · simp; omega
      · refine opq fun P hP => ?_
        walk_at "my_steps"
        exact hP _ _ ⟨⟨_, rfl⟩, _, _, rfl, fun _ _ e => e⟩
      · intro C j u s₃ m₃ hj F N kk hm
        refine opq fun P hP => ?_
        obtain ⟨b1, b2⟩ := ba j (by simpa using hj)
        have hlow := low_all j (by simp at b1 ⊢; omega)
        have hlk : lookup (.str (sg (lw j))) D = some (.str (tx (ex (lw j)))) := by
          refine h6 _ ?_
          rcases b2 with b2 | ⟨b2, b3⟩
          · exact List.mem_append.mpr (.inl b2)
          · refine List.mem_append.mpr (.inr ?_)
            have : i = 0 ∨ i = 1 ∨ i = 2 ∨ i = 3 := by omega
            rcases this with rfl | rfl | rfl | rfl <;> simp at b2 b3 ⊢ <;> omega
        have TW : StrTab PySem.Challenge.rw_pm0053_01.row.prog w s₃.heap dT D := ⟨lo, _, Heap.dictOf_iff.mpr ⟨o, N.get (.tail _ (.head _)), h3⟩, h4⟩
        walk_at "my_steps"
        exact hP _ _ ⟨⟨_, rfl⟩, _, _, rfl, fun _ _ e => e⟩
      · intro Dl ny ys h₅ tk₅ hp F₅ N₅ kk hDl
        have d1 : @Ne Nat Dl dT := ne_fresh N₁ (.tail _ (.head _)) hDl
        have hDlg := N₅.get (.head _)
        walk_at "my_steps"
        have hp' := flat (B (97 + i)) ys (by simpa using hp)
        refine join_ok ⟨_, hDlg, rfl, _, rfl⟩ hp' (by simp; omega) (fun l hl => ?_) fun t k => ?_
        · obtain ⟨j, hj, rfl⟩ := List.mem_map.mp hl
          exact Nat.lt_trans (seg j (ahead_in (ba j hj).1)) (by decide)
        walk_at "my_steps"
        rename Fr _ _ _ _ => F₆
        rename News _ _ _ _ => N₆
        rw [show (List.map (fun j => ex (lw j)) (B (97 + i))).flatten = ex (97 + i) from (eB _ mk).symm]
        k_dflt (refine' setItem_K (enc := PyData.str) PyProof.V.same_str (strKind_is _ _ _ _) (PyProof.V.Flat.str _ _) F₆ N₆ ?UU1 h3 h4 ?_ ?zz1)
        case UU1 => exact .tail d1 (.tail (Ne.symm d2) (.head fun p hp => by rw [List.mem_singleton.mp hp]; exact cl1))
        case zz1 => rw [sizeLine_eq]; omega
        intro h₇ o₇ F₇ N₇ g1 g2
        dsimp only
        walk_at "my_steps"
        refine ⟨_, (o₇, _, _), _, _, rfl, ⟨by walk_at "my_lk", by walk_at "my_lk", g1, g2, ?_, ?_⟩, F₇, news_tail N₇, ?_⟩
        · have := PyProof.V.putD_length_le (.str (sg (97 + i))) (.str (tx (ex (97 + i)))) D
          show (PyProof.V.putD _ _ D).length ≤ 2 + (i + 1)
          exact Nat.le_trans this (by omega)
        · intro k hk
          show lookup (.str (sg k)) (PyProof.V.putD (.str (sg (97 + i))) _ D) = _
          by_cases hki : k = 97 + i
          · subst hki
            rw [PyProof.V.lookup_putK_same (enc := PyData.str) PyProof.V.keyEnc_str]
          · rw [PyProof.V.lookup_putK_other (enc := PyData.str) PyProof.V.keyEnc_str (fun e => hki (by simpa using e))]
            refine h6 k ?_
            have : i = 0 ∨ i = 1 ∨ i = 2 ∨ i = 3 := by omega
            rcases this with rfl | rfl | rfl | rfl <;> simp at hk hki ⊢ <;> omega
        · intro p hp
          simp only [List.mem_cons, List.not_mem_nil, or_false] at hp
          rcases hp with rfl | rfl
          · exact d2
          · exact d3
    | false =>
      have hbe' := hbe rfl
      walk_at "my_steps"
      rename Fr _ _ _ _ => F₀
      rw [hbe'] at F₀
      have F₁ := F₀
      clear F₀
      rename News _ _ _ _ => N₁
      k_dflt (refine' comp_strE F₁ N₁ (tx (B (97 + i))) (fun j v => ∃ u, v = .str (tx (ex (lw j))) u) ?a2 ?b2 ?c2 ?d2 ?e2 ?f2 ?g2 ?y2 ?z2 ?it2 ?el2 ?dn2)
      (case a2 => rfl); (case b2 => rfl); (case c2 => decide); (case d2 => rfl); (case e2 => decide); (case f2 => rfl); (case g2 => exact fun _ => rfl)
      · rw [Array.all_eq_true']
        intro j hj
        have := (ba j (by simpa using hj)).1
        simp at this ⊢
        omega
      · simp; omega
      · refine opq fun P hP => ?_
        walk_at "my_steps"
        exact hP _ _ ⟨⟨_, rfl⟩, _, _, rfl, fun _ _ e => e⟩
      · intro C j u s₃ m₃ hj F N kk hm
        refine opq fun P hP => ?_
        obtain ⟨b1, b2⟩ := ba j (by simpa using hj)
        have hlow := low_all j (by simp at b1 ⊢; omega)
        have hlk : lookup (.str (sg (lw j))) D = some (.str (tx (ex (lw j)))) := by
          refine h6 _ ?_
          rcases b2 with b2 | ⟨b2, b3⟩
          · exact List.mem_append.mpr (.inl b2)
          · refine List.mem_append.mpr (.inr ?_)
            have : i = 0 ∨ i = 1 ∨ i = 2 ∨ i = 3 := by omega
            rcases this with rfl | rfl | rfl | rfl <;> simp at b2 b3 ⊢ <;> omega
        have TW : StrTab PySem.Challenge.rw_pm0053_01.row.prog w s₃.heap dT D := ⟨lo, _, Heap.dictOf_iff.mpr ⟨o, N.get (.tail _ (.head _)), h3⟩, h4⟩
        walk_at "my_steps"
        exact hP _ _ ⟨⟨_, rfl⟩, _, _, rfl, fun _ _ e => e⟩
      · intro Dl ny ys h₅ tk₅ hp F₅ N₅ kk hDl
        have d1 : @Ne Nat Dl dT := ne_fresh N₁ (.tail _ (.head _)) hDl
        have hDlg := N₅.get (.head _)
        walk_at "my_steps"
        have hp' := flat (B (97 + i)) ys (by simpa using hp)
        refine join_ok ⟨_, hDlg, rfl, _, rfl⟩ hp' (by simp; omega) (fun l hl => ?_) fun t k => ?_
        · obtain ⟨j, hj, rfl⟩ := List.mem_map.mp hl
          exact Nat.lt_trans (seg j (ahead_in (ba j hj).1)) (by decide)
        walk_at "my_steps"
        rename Fr _ _ _ _ => F₆
        rename News _ _ _ _ => N₆
        rw [show (List.map (fun j => ex (lw j)) (B (97 + i))).flatten = ex (97 + i) from (eB _ mk).symm]
        k_dflt (refine' setItem_K (enc := PyData.str) PyProof.V.same_str (strKind_is _ _ _ _) (PyProof.V.Flat.str _ _) F₆ N₆ ?UU2 h3 h4 ?_ ?zz2)
        case UU2 => exact .tail d1 (.tail (Ne.symm d2) (.head fun p hp => by rw [List.mem_singleton.mp hp]; exact cl1))
        case zz2 => rw [sizeLine_eq]; omega
        intro h₇ o₇ F₇ N₇ g1 g2
        dsimp only
        walk_at "my_steps"
        refine ⟨_, (o₇, _, _), _, _, rfl, ⟨by walk_at "my_lk", by walk_at "my_lk", g1, g2, ?_, ?_⟩, F₇, news_tail N₇, ?_⟩
        · have := PyProof.V.putD_length_le (.str (sg (97 + i))) (.str (tx (ex (97 + i)))) D
          show (PyProof.V.putD _ _ D).length ≤ 2 + (i + 1)
          exact Nat.le_trans this (by omega)
        · intro k hk
          show lookup (.str (sg k)) (PyProof.V.putD (.str (sg (97 + i))) _ D) = _
          by_cases hki : k = 97 + i
          · subst hki
            rw [PyProof.V.lookup_putK_same (enc := PyData.str) PyProof.V.keyEnc_str]
          · rw [PyProof.V.lookup_putK_other (enc := PyData.str) PyProof.V.keyEnc_str (fun e => hki (by simpa using e))]
            refine h6 k ?_
            have : i = 0 ∨ i = 1 ∨ i = 2 ∨ i = 3 := by omega
            rcases this with rfl | rfl | rfl | rfl <;> simp at hk hki ⊢ <;> omega
        · intro p hp
          simp only [List.mem_cons, List.not_mem_nil, or_false] at hp
          rcases hp with rfl | rfl
          · exact d2
          · exact d3
  · rintro m ⟨o, kw, D⟩ h tk ⟨h1, h2, h3, h4, h5, h6⟩ F N
    dsimp only at h3 h4 h5 h6 N ⊢
    have h4' : (Str.ofString "abcd").cps.size = 4 := by decide +kernel
    rw [h4'] at h5 h6
    walk_at "my_steps"
    rename Fr _ _ _ _ => F₅
    rename News _ _ _ _ => N₅
    k_dflt (refine' comp_strE F₅ N₅ (tx word0) (fun j v => ∃ u, v = .str (tx (ex (lw j))) u) ?a3 ?b3 ?c3 ?d3 ?e3 ?f3 ?g3 ?y3 ?z3 ?it3 ?el3 ?dn3)
    (case a3 => rfl); (case b3 => rfl); (case c3 => decide); (case d3 => rfl); (case e3 => decide); (case f3 => rfl); (case g3 => exact fun _ => rfl)
    · rw [Array.all_eq_true']
      intro j hj
      have := hw0 j (by simpa using hj)
      simp at this ⊢
      omega
    · simp; omega
    · refine opq fun P hP => ?_
      walk_at "my_steps"
      exact hP _ _ ⟨⟨_, rfl⟩, _, _, rfl, fun _ _ e => e⟩
    · intro C j u s₃ m₃ hj F N kk hm
      refine opq fun P hP => ?_
      have hj' := hw0 j (by simpa using hj)
      have hlow := low_all j (by simp at hj' ⊢; omega)
      have hlk : lookup (.str (sg (lw j))) D = some (.str (tx (ex (lw j)))) := h6 _ (lw_small j hj').2
      have TW : StrTab PySem.Challenge.rw_pm0053_01.row.prog w s₃.heap dT D := ⟨lo, _, Heap.dictOf_iff.mpr ⟨o, N.get (.head _), h3⟩, h4⟩
      walk_at "my_steps"
      exact hP _ _ ⟨⟨_, rfl⟩, _, _, rfl, fun _ _ e => e⟩
    · intro Dl ny ys h₅ tk₅ hp F₆ N₆ kk hDl
      have hDlg := N₆.get (.head _)
      walk_at "my_steps"
      have hp' := flat word0 ys (by simpa using hp)
      refine join_ok ⟨_, hDlg, rfl, _, rfl⟩ hp' (by simp; omega) (fun l hl => ?_) fun t k => ?_
      · obtain ⟨j, hj, rfl⟩ := List.mem_map.mp hl
        exact Nat.lt_trans (seg j (hw0 j hj)) (by decide)
      walk_at "my_steps"
      exact ret _ _ _ (Fr.keep (by assumption))

end
section
section
variable {prog : Program} {w : World} {A : Around} {s : Shared} {env : Env} {h₀ : Heap} {L : Addr} {m₀ : Str → Option Value} {S₀ : List (Addr × Obj)}
/-- what a comprehension goes over -/
def Src (prog : Program) (w : World) (A : Around) (s : Shared) (n : Nat) (P : Nat → Value → Prop) (it : Value) (s₂ : Shared) : Prop :=
  ∃ It fp St h₂ tk₂, it = .ref It ∧ s₂ = { s with heap := h₂, toks := tk₂ } ∧ Kp s.heap h₂ ∧ s.heap.get? It = none ∧ Walks prog w A It fp [It] n P St ∧ St 0 h₂ ∧ (∀ b ∈ fp, b < h₂.objs.size) ∧ (∀ i h, St i h → ∃ o, h.get? It = some o)
theorem src_range {iter : Expr} {n : Nat} (hh : A.handled = none) (hsz : n < 1000)
    (h : wpAny (model prog w) A (eval iter env) (fun xv s₁ => ∃ r t u v, xv = .ref r ∧ IsRange s₁.heap r 0 n 1 t u v ∧ ∃ h tk, s₁ = { s with heap := h, toks := tk } ∧ Kp s.heap h) (fun _ _ => False) s) :
    wpAny (model prog w) A (eval iter env) (fun xv s₁ => wpAny (model prog w) A (pyIter xv) (Src prog w A s n (fun i v => i < n ∧ ∃ t, v = .int i t)) (fun _ _ => False) s₁) (fun _ _ => False) s := by
  refine wpAny_mono h (fun xv s₁ h₁ => ?_) fun _ _ e => e
  obtain ⟨r, t, u, v, rfl, hr, h₁, tk₁, rfl, hk⟩ := h₁
  have e0 : ∀ i : Nat, (0 : Int) + (i : Int) * 1 = (i : Int) := fun i => by omega
  have hsz' : Builtin.Range.rangeSize 0 n 1 = (n : Int) := by unfold Builtin.Range.rangeSize; simp; omega
  have W := (Walks.range (prog := prog) (w := w) hh h₁.objs.size 0 1 n).bound
  simp only [e0] at W
  refine wpAny_pyIter_range hr (by unfold Builtin.Range.small; rw [hsz']; simp [Builtin.Range.rangeFitsLong]; omega) ⟨_, _, _, _, _, rfl, rfl, fun b o e => Heap.get?_push_of_some _ (hk b o e), size_fresh hk, W, ?_, ?_, ?_⟩
  · show IsRangeIter _ _ _ _ _
    rw [hsz']; simpa using Heap.get?_push_size _ rfl
  · intro b hb
    show b < (h₁.push _).objs.size
    rw [Heap.size_push, List.mem_singleton.mp hb]
    exact Nat.lt_succ_self _
  · exact fun i h st => ⟨_, st⟩
theorem src_list {iter : Expr} {l : Addr} {vs : List Value} {n : Nat} (hh : A.handled = none) (hl : s.heap.get? l = some (listOf vs.toArray n))
    (h : wpAny (model prog w) A (eval iter env) (fun xv s₁ => xv = .ref l ∧ ∃ h tk, s₁ = { s with heap := h, toks := tk } ∧ Kp s.heap h) (fun _ _ => False) s) :
    wpAny (model prog w) A (eval iter env) (fun xv s₁ => wpAny (model prog w) A (pyIter xv) (Src prog w A s vs.length (fun i v => vs[i]? = some v)) (fun _ _ => False) s₁) (fun _ _ => False) s := by
  refine wpAny_mono h (fun xv s₁ h₁ => ?_) fun _ _ e => e
  obtain ⟨rfl, h₁, tk₁, rfl, hk⟩ := h₁
  have hol : h₁.get? l = some (listOf vs.toArray n) := hk _ _ hl
  have hls : h₁.IsList l vs.toArray := ⟨_, hol, rfl, n, rfl⟩
  have hne : l ≠ h₁.objs.size := Nat.ne_of_lt (Heap.lt_size hol)
  have W := Walks.list (prog := prog) (w := w) hh h₁.objs.size l hne vs.toArray
  have hsz2 : vs.toArray.size = vs.length := by simp
  rw [hsz2] at W
  have W : Walks prog w A h₁.objs.size [h₁.objs.size, l] [h₁.objs.size] vs.length (fun i v => vs[i]? = some v) (fun i h => h.IsListIter h₁.objs.size l i ∧ h.IsList l vs.toArray) := by simpa using W
  refine wpAny_pyIter_list hls ⟨_, _, _, _, _, rfl, rfl, fun b o e => Heap.get?_push_of_some _ (hk b o e), size_fresh hk, W, ⟨⟨_, Heap.get?_push_size _ rfl, rfl, rfl⟩, hls.push _⟩, ?_, ?_⟩
  · intro b hb
    show b < (h₁.push _).objs.size
    rw [Heap.size_push]
    rcases List.mem_cons.mp hb with rfl | hb
    · exact Nat.lt_succ_self _
    · rw [List.mem_singleton.mp hb]; exact Nat.lt_succ_of_lt (Heap.lt_size hol)
  · exact fun i h st => let ⟨o, e, _⟩ := st.1; ⟨o, e⟩

theorem comp_key {h₂ : Heap} {It : Addr} (F : Fr h₀ L s.heap m₀) (N : News h₀ L s.heap S₀) (hk : Kp s.heap h₂) (hI : s.heap.get? It = none) (C : Addr) (s₃ : Shared) (m₃ : Str → Option Value) (hC : h₂.objs.size ≤ C) (hn : s₃.heap.Ns C m₃) (hkk : ∀ b o, b ∉ [It] → h₂.get? b = some o → s₃.heap.get? b = some o) :
    Fr h₀ C s₃.heap m₃ ∧ News h₀ C s₃.heap S₀ ∧ Kp s.heap s₃.heap := by
  have kk : Kp s.heap s₃.heap := fun b o e => hkk b o (by simp; rintro rfl; rw [hI] at e; cases e) (hk b o e)
  obtain ⟨oL, _, _, hL, _⟩ := F.ns
  exact ⟨⟨hn, fun b o e => kk b o (F.keep b o e), Nat.le_trans F.above (Nat.le_trans (Nat.le_of_lt (Heap.lt_size (hk _ _ hL))) hC)⟩, fun q hq => ⟨kk _ _ (N q hq).1, Nat.ne_of_lt (Nat.lt_of_lt_of_le (Heap.lt_size (hk _ _ (N q hq).1)) hC), (N q hq).2.2⟩, kk⟩
theorem fresh_up {h h₂ : Heap} {T : Addr} (hk : Kp h h₂) (e : h₂.get? T = none) : h.get? T = none := by
  cases e' : h.get? T with
  | none => rfl
  | some o => rw [hk _ _ e'] at e; cases e

/-- `y = [elt for x in iter if ..]`, plain elements -/
theorem comp_coreA {elt iter : Expr} {x y : Str} {px py : Pos} {ifs : List Expr} {scope : Scope} {cl : List (Str × Addr)} {pos spos : Pos} {Q : Flow → Shared → Prop} {n : Nat} {P : Nat → Value → Prop} (p : Value → Bool) (G : Value → Value → Prop)
    (F : Fr h₀ L s.heap m₀) (N : News h₀ L s.heap S₀) (hL : env.locals = L)
    (hsw : swapsWith (.ListComp elt [⟨.Name x px, iter, ifs, 0⟩] scope pos) (some (.Name y py)) spos.line env = pure true)
    (hclos : closureFor scope env = pure cl) (hcell : ∀ y ∈ scope.names, y.2 ≠ .cell) (hkind : scope.kind = .function)
    (hnames : ∀ y ∈ scope.names, y.2 = .local → scope.names.lookup y.1 = some .local) (hx : scope.names.lookup x = some .local) (hy : env.kindOf y = some .local) (hp : (env.scope.kind == .class || (env.scope.kind == .module && env.locals != env.globals)) = false)
    (hs : ∀ x, foldedSetIterable iter env x = pure x) (hsz : n ≤ sizeLine)
    (h : wpAny (model prog w) A (eval iter env) (fun xv s₁ => wpAny (model prog w) A (pyIter xv) (Src prog w A s n P) (fun _ _ => False) s₁) (fun _ _ => False) s)
    (tests : ∀ C i v s₃ m₃, P i v → Fr h₀ C s₃.heap m₃ → News h₀ C s₃.heap S₀ → Kp s.heap s₃.heap → m₃ x = some v →
      wpAny (model prog w) A (forIn ifs true fun c r => if r = true then do let ok ← isTrue c (compEnvC scope cl C env) (eval c (compEnvC scope cl C env)); pure (ForInStep.yield ok) else pure (ForInStep.yield r)) (fun ok s₄ => ok = p v ∧ Keeps s₃ s₄) (fun _ _ => False) s₃)
    (helt : ∀ C i v s₃ m₃, P i v → p v = true → Fr h₀ C s₃.heap m₃ → News h₀ C s₃.heap S₀ → Kp s.heap s₃.heap → m₃ x = some v →
      wpAny (model prog w) A (eval elt (compEnvC scope cl C env)) (fun y s₄ => G v y ∧ Keeps s₃ s₄) (fun _ _ => False) s₃)
    (done : ∀ D ny ys (vs : List Value) h' tk, vs.length = n → (∀ j v, vs[j]? = some v → P j v) → Paired G (vs.filter p) ys → Fr h₀ L h' (fun z => if z = y then some (.ref D) else m₀ z) → News h₀ L h' ((D, listOf ys.toArray ny) :: S₀) → s.heap.get? D = none → Q .next { s with heap := h', toks := tk }) :
    wpAny (model prog w) A (exec (.Assign [.Name y py] (.ListComp elt [⟨.Name x px, iter, ifs, 0⟩] scope pos) spos) env) Q (fun _ _ => False) s := by
  subst hL
  refine wpAny_Assign_ListComp_free p G hsw hclos hcell hkind hnames hx hy hp (wpAny_mono h (fun xv s₁ h₁ => wpAny_mono h₁ (fun it s₂ h₂ => ?_) fun _ _ e => e) fun _ _ e => e) hs
  obtain ⟨It, fp, St, h₂, tk₂, rfl, rfl, hk, hI, W, st, hfp, _⟩ := h₂
  obtain ⟨oL, esL, epL, hoL, rL⟩ := F.ns
  refine ⟨It, fp, [It], n, P, St, m₀, rfl, W, hsz, st, hfp, ?_, ⟨oL, esL, epL, hk _ _ hoL, rL⟩, ⟨?_, ?_⟩, ?_⟩
  · intro hm
    rw [List.mem_singleton.mp hm] at hoL
    rw [hI] at hoL; cases hoL
  · intro C i v s₃ m₃ E' hC hP hn hm hkk _
    obtain ⟨F', N', k'⟩ := comp_key F N hk hI C s₃ m₃ hC hn hkk
    exact wpAny_mono (tests C i v s₃ m₃ hP F' N' k' hm) (fun _ _ e => e) fun _ _ e => e.elim
  · intro C i v s₃ m₃ E' hC hP hp hn hm hkk _
    obtain ⟨F', N', k'⟩ := comp_key F N hk hI C s₃ m₃ hC hn hkk
    exact wpAny_mono (helt C i v s₃ m₃ hP hp F' N' k' hm) (fun _ _ e => e) fun _ _ e => e.elim
  · intro D h' tk ys vs hD hl hpl hlen hP hF hns hkk
    have hD' : s.heap.get? D = none := fresh_up hk hD
    have kk : ∀ b o, b ≠ env.locals → s.heap.get? b = some o → h'.get? b = some o := fun b o hb e => hkk b o hb (by simp; rintro rfl; rw [hI] at e; cases e) (hk b o e)
    obtain ⟨ny, ho⟩ := hpl
    have hLn : h₀.get? env.locals = none := by
      cases e : h₀.get? env.locals with
      | none => rfl
      | some o => exact absurd (Heap.lt_size e) (Nat.not_lt.mpr F.above)
    refine done D ny ys.toList vs h' tk hlen hP hF ⟨hns, fun b o e => kk b o (fun hb => by rw [hb, hLn] at e; cases e) (F.keep b o e), F.above⟩ (fun q hq => ?_) hD'
    rcases List.mem_cons.mp hq with rfl | hq
    · refine ⟨by simpa using ho, fun e => ?_, ?_⟩
      · rw [show (D : Addr) = env.locals from e, hoL] at hD'; cases hD'
      · cases e : h₀.get? D with
        | none => rfl
        | some o => rw [F.keep _ _ e] at hD'; cases hD'
    · exact ⟨kk _ _ (N q hq).2.1 (N q hq).1, (N q hq).2⟩

/-- a comprehension whose elements are new lists -/
theorem compO_core {elt iter : Expr} {x : Str} {px : Pos} {scope : Scope} {cl : List (Str × Addr)} {pos : Pos} {Q : Value → Shared → Prop} {n : Nat} {P : Nat → Value → Prop} (G : Value → Array Value → Prop)
    (F : Fr h₀ L s.heap m₀) (N : News h₀ L s.heap S₀)
    (hclos : closureFor scope env = pure cl) (hcell : ∀ y ∈ scope.names, y.2 ≠ .cell) (hkind : scope.kind = .function)
    (hnames : ∀ y ∈ scope.names, y.2 = .local → scope.names.lookup y.1 = some .local) (hx : scope.names.lookup x = some .local)
    (hs : ∀ x, foldedSetIterable iter env x = pure x) (hsz : n ≤ sizeLine)
    (h : wpAny (model prog w) A (eval iter env) (fun xv s₁ => wpAny (model prog w) A (pyIter xv) (Src prog w A s n P) (fun _ _ => False) s₁) (fun _ _ => False) s)
    (helt : ∀ C i v s₃ m₃, P i v → Fr h₀ C s₃.heap m₃ → News h₀ C s₃.heap S₀ → Kp s.heap s₃.heap → m₃ x = some v →
      wpAny (model prog w) A (eval elt (compEnvC scope cl C env)) (fun y s₄ => (∃ T its, y = .ref T ∧ s₃.heap.get? T = none ∧ s₄.heap.IsList T its ∧ G v its) ∧ Keeps s₃ s₄) (fun _ _ => False) s₃)
    (done : ∀ D ny ys (vs : List Value) h' tk, vs.length = n → (∀ j v, vs[j]? = some v → P j v) → Paired (LstIs s.heap G h') vs ys → Fr h₀ L h' m₀ → News h₀ L h' ((D, listOf ys.toArray ny) :: S₀) → Kp s.heap h' → Q (.ref D) { s with heap := h', toks := tk }) :
    wpAny (model prog w) A (eval (.ListComp elt [⟨.Name x px, iter, [], 0⟩] scope pos) env) Q (fun _ _ => False) s := by
  refine wpAny_ListComp_freeO (fun _ => true) G hclos hcell hkind hnames hx (wpAny_mono h (fun xv s₁ h₁ => wpAny_mono h₁ (fun it s₂ h₂ => ?_) fun _ _ e => e) fun _ _ e => e) hs
  obtain ⟨It, fp, St, h₂, tk₂, rfl, rfl, hk, hI, W, st, hfp, hlive⟩ := h₂
  refine ⟨It, fp, [It], n, P, St, rfl, W, hsz, fun i h st b hb => by rw [List.mem_singleton.mp hb]; exact hlive i h st, st, hfp, ⟨?_, ?_⟩, ?_⟩
  · intro C i v s₃ m₃ E' hC hP hn hm hkk _
    rw [List.forIn_nil]
    exact wpAny_pure ⟨rfl, _, _, rfl, fun _ _ e => e⟩
  · intro C i v s₃ m₃ E' hC hP _ hn hm hkk _
    obtain ⟨F', N', k'⟩ := comp_key F N hk hI C s₃ m₃ hC hn hkk
    exact wpAny_mono (helt C i v s₃ m₃ hP F' N' k' hm) (fun _ _ e => e) fun _ _ e => e.elim
  · intro D h' tk ys vs hD hl hpl hlen hP hF _ _ hkk
    have hD' : s.heap.get? D = none := fresh_up hk hD
    have kk : Kp s.heap h' := fun b o e => hkk b o (by simp; rintro rfl; rw [hI] at e; cases e) (hk b o e)
    obtain ⟨ny, ho⟩ := hpl
    obtain ⟨oL, _, _, hoL, _⟩ := F.ns
    have hF' : Paired (LstIs s.heap G h') vs ys.toList := by
      rw [List.filter_eq_self.mpr fun _ _ => rfl] at hF
      exact hF.mono fun _ _ ⟨T, its, e, h1, h2⟩ => ⟨T, its, e, fresh_up hk h1, h2⟩
    refine done D ny ys.toList vs h' tk hlen hP hF' (F.keeps kk) (fun q hq => ?_) kk
    rcases List.mem_cons.mp hq with rfl | hq
    · refine ⟨by simpa using ho, fun e => ?_, ?_⟩
      · rw [show (D : Addr) = L from e, hoL] at hD'; cases hD'
      · cases e : h₀.get? D with
        | none => rfl
        | some o => rw [F.keep _ _ e] at hD'; cases hD'
    · exact N.grown kk q hq

/-- `y = [elt for x in iter]`, the elements new lists -/
theorem compO_coreA {elt iter : Expr} {x y : Str} {px py : Pos} {scope : Scope} {cl : List (Str × Addr)} {pos spos : Pos} {Q : Flow → Shared → Prop} {n : Nat} {P : Nat → Value → Prop} (G : Value → Array Value → Prop)
    (F : Fr h₀ L s.heap m₀) (N : News h₀ L s.heap S₀) (hL : env.locals = L)
    (hsw : swapsWith (.ListComp elt [⟨.Name x px, iter, [], 0⟩] scope pos) (some (.Name y py)) spos.line env = pure true)
    (hclos : closureFor scope env = pure cl) (hcell : ∀ y ∈ scope.names, y.2 ≠ .cell) (hkind : scope.kind = .function)
    (hnames : ∀ y ∈ scope.names, y.2 = .local → scope.names.lookup y.1 = some .local) (hx : scope.names.lookup x = some .local) (hy : env.kindOf y = some .local) (hp : (env.scope.kind == .class || (env.scope.kind == .module && env.locals != env.globals)) = false)
    (hs : ∀ x, foldedSetIterable iter env x = pure x) (hsz : n ≤ sizeLine)
    (h : wpAny (model prog w) A (eval iter env) (fun xv s₁ => wpAny (model prog w) A (pyIter xv) (Src prog w A s n P) (fun _ _ => False) s₁) (fun _ _ => False) s)
    (helt : ∀ C i v s₃ m₃, P i v → Fr h₀ C s₃.heap m₃ → News h₀ C s₃.heap S₀ → Kp s.heap s₃.heap → m₃ x = some v →
      wpAny (model prog w) A (eval elt (compEnvC scope cl C env)) (fun y s₄ => (∃ T its, y = .ref T ∧ s₃.heap.get? T = none ∧ s₄.heap.IsList T its ∧ G v its) ∧ Keeps s₃ s₄) (fun _ _ => False) s₃)
    (done : ∀ D ny ys (vs : List Value) h' tk, vs.length = n → (∀ j v, vs[j]? = some v → P j v) → Paired (LstIs s.heap G h') vs ys → Fr h₀ L h' (fun z => if z = y then some (.ref D) else m₀ z) → News h₀ L h' ((D, listOf ys.toArray ny) :: S₀) → Q .next { s with heap := h', toks := tk }) :
    wpAny (model prog w) A (exec (.Assign [.Name y py] (.ListComp elt [⟨.Name x px, iter, [], 0⟩] scope pos) spos) env) Q (fun _ _ => False) s := by
  subst hL
  rw [exec_Assign_Name_used _ _ _ _ hsw]
  refine wpAny_bind (wpAny_standAt (wpAny_bind ?_))
  show wpAny _ A (do let _ ← comprehension (.ListComp elt [⟨.Name x px, iter, [], 0⟩] scope pos) scope env _ (newList []) false (eval iter env) (some (assign (.Name y py) env))) _ _ s
  refine wpAny_bind (wpAny_mono (wpAny_comprehension_free (use := some (assign (.Name y py) env)) (Q := fun _ s' => Q .next s') rfl hs hclos hkind hnames
    (wpAny_mono h (fun xv s₁ h₁ => wpAny_mono h₁ (fun it s₂ h₂ => ?_) fun _ _ e => e) fun _ _ e => e)) (fun _ s' hq => wpAny_pure (wpAny_pure hq)) fun _ _ e => e)
  obtain ⟨It, fp, St, h₂, tk₂, rfl, rfl, hk, hI, W, st, hfp, hlive⟩ := h₂
  refine comp_block_walkCO (RR := fun acc C => compPost (model prog w) A (fun _ _ => False) (some (assign (.Name y py) env)) (fun _ s' => Q .next s') acc C) W hsz (fun _ => true) G (fun i h st b hb => by rw [List.mem_singleton.mp hb]; exact hlive i h st) hcell hkind hx st hfp ⟨?_, ?_⟩ ?_
  · intro C i v s₃ m₃ E' hC hP hn hm hkk _
    rw [List.forIn_nil]
    exact wpAny_pure ⟨rfl, _, _, rfl, fun _ _ e => e⟩
  · intro C i v s₃ m₃ E' hC hP _ hn hm hkk _
    obtain ⟨F', N', k'⟩ := comp_key F N hk hI C s₃ m₃ hC hn hkk
    exact wpAny_mono (helt C i v s₃ m₃ hP F' N' k' hm) (fun _ _ e => e) fun _ _ e => e.elim
  intro D C h' tk m' ys vs hD hC hDC hnC hlD hplD hlen hP hF _ hkk
  obtain ⟨oL, esL, epL, hoL, rL⟩ := F.ns
  have hD' : s.heap.get? D = none := fresh_up hk hD
  have hC' : s.heap.get? C = none := fresh_up hk hC
  have hLC : env.locals ≠ C := by rintro e; rw [← e, hoL] at hC'; cases hC'
  have hLD : env.locals ≠ D := by rintro e; rw [← e, hoL] at hD'; cases hD'
  have kk : Kp s.heap h' := fun b o e => hkk b o (by simp; rintro rfl; rw [hI] at e; cases e) (hk b o e)
  show wpAny _ A (assign (.Name y py) env (.ref D)) _ _ _
  refine wpAny_assign_Name (wpAny_storeName_local (m := m₀) hy ⟨oL, esL, epL, kk _ _ hoL, rL⟩ (fun h₃ hn₃ hs₃ => ?_) hp)
  refine ⟨m', hnC.sameBut hs₃ (Ne.symm hLC), fun h₄ hs₄ => ?_⟩
  have up : ∀ b o, b ≠ env.locals → b ≠ C → h'.get? b = some o → h₄.get? b = some o := fun b o hb hb' e => hs₄.extBut b o hb' (hs₃.extBut b o hb e)
  have hLn : h₀.get? env.locals = none := by
    cases e : h₀.get? env.locals with
    | none => rfl
    | some o => exact absurd (Heap.lt_size e) (Nat.not_lt.mpr F.above)
  have kk₄ : ∀ b o, b ≠ env.locals → s.heap.get? b = some o → h₄.get? b = some o := fun b o hb e => up b o hb (by rintro rfl; rw [hC'] at e; cases e) (kk b o e)
  have hF' : Paired (LstIs s.heap G h₄) vs ys.toList := by
    rw [List.filter_eq_self.mpr fun _ _ => rfl] at hF
    exact hF.mono fun _ _ ⟨T, its, e, h1, h2, _, _, h5, h6⟩ => ⟨T, its, e, fresh_up hk h1, let ⟨o, ho, r⟩ := h5; ⟨o, up _ _ (fun hT => by have := fresh_up hk h1; rw [hT, hoL] at this; cases this) h2 ho, r⟩, h6⟩
  obtain ⟨ny, ho⟩ := hplD
  refine done D ny ys.toList vs h₄ _ hlen hP hF' ⟨hn₃.sameBut hs₄ hLC, fun b o e => kk₄ b o (fun hb => by rw [hb, hLn] at e; cases e) (F.keep b o e), F.above⟩ (fun q hq => ?_)
  rcases List.mem_cons.mp hq with rfl | hq
  · refine ⟨by simpa using up _ _ (Ne.symm hLD) hDC ho, fun e => hLD e.symm, ?_⟩
    cases e : h₀.get? D with
    | none => rfl
    | some o => rw [F.keep _ _ e] at hD'; cases hD'
  · exact ⟨kk₄ _ _ (N q hq).2.1 (N q hq).1, (N q hq).2⟩
end

end
section
abbrev c1 : Nat → Int := fun _ => 1
abbrev cK (k : Nat) : Nat → Int := fun j => if j = k then 1 else 0
theorem sum_c1 (l : List Nat) : sumF c1 l = l.length := by
  induction l with
  | nil => rfl
  | cons a r ih => simp only [sumF, List.map_cons, List.sum_cons, List.length_cons] at ih ⊢; rw [ih]; show (1 : Int) + _ = _; omega
theorem sum_cK (k : Nat) (l : List Nat) : sumF (cK k) l = (l.count k : Int) := by
  induction l with
  | nil => rfl
  | cons a r ih =>
    rw [List.count_cons]
    simp only [sumF, List.map_cons, List.sum_cons] at ih ⊢
    rw [ih]
    show (if a = k then (1 : Int) else 0) + _ = _
    by_cases h : a = k
    · subst h; simp; omega
    · simp [h]
theorem sumF_bound {f : Nat → Int} (hf : ∀ j, 0 ≤ f j ∧ f j ≤ 1) (l : List Nat) : 0 ≤ sumF f l ∧ sumF f l ≤ l.length := by
  induction l with
  | nil => exact ⟨Int.le_refl _, Int.le_refl _⟩
  | cons a r ih =>
    simp only [sumF, List.map_cons, List.sum_cons, List.length_cons] at ih ⊢
    have := hf a
    omega
theorem c1_ok : ∀ j, 0 ≤ c1 j ∧ c1 j ≤ 1 := fun _ => ⟨(by decide : (0 : Int) ≤ 1), (by decide : (1 : Int) ≤ 1)⟩
theorem cK_ok (k : Nat) : ∀ j, 0 ≤ cK k j ∧ cK k j ≤ 1 := fun j => by
  show 0 ≤ (if j = k then (1 : Int) else 0) ∧ (if j = k then (1 : Int) else 0) ≤ 1
  by_cases h : j = k <;> simp [h]
theorem count_tx (l : List Nat) (k : Nat) : Txt.count (tx l) (sg k) = (l.count k : Int) := by
  have hfree := StrLaws.split_free (tx l) k
  have hjoin := StrLaws.join_split (tx l) (sg k)
  have cj : ∀ ls : List Str, (∀ p ∈ ls, k ∉ p.cps.toList) → (Str.join (sg k) ls).cps.toList.count k = ls.length - 1 := by
    intro ls
    induction ls with
    | nil => intro _; rfl
    | cons x r ih =>
      intro h
      cases r with
      | nil => exact List.count_eq_zero.mpr (h x (.head _))
      | cons y r =>
        have ih := ih fun p hp => h p (.tail _ hp)
        have e : ∀ a b : Str, (a ++ b).cps.toList = a.cps.toList ++ b.cps.toList := fun a b => by
          show (a.cps ++ b.cps).toList = _
          simp
        show (x ++ sg k ++ Str.join (sg k) (y :: r)).cps.toList.count k = _
        rw [e, e, List.count_append, List.count_append, ih, List.count_eq_zero.mpr (h x (.head _))]
        have : (sg k).cps.toList = [k] := rfl
        rw [this]
        simp
        omega
  have hc := cj _ hfree
  rw [hjoin] at hc
  have hl : (tx l).cps.toList = l := by simp
  rw [hl] at hc
  unfold Txt.count
  rw [hc]
  congr 1
  show (Builtin.Str.occurrences (tx l) (sg k) 0 (tx l).length ((tx l).length + 1)).length = _
  cases ho : Builtin.Str.occurrences (tx l) (sg k) 0 (tx l).length ((tx l).length + 1) with
  | nil =>
    have : Txt.split (tx l) (sg k) = [tx l] := by
      unfold Txt.split
      rw [ho]
      split <;> rfl
    rw [this]; rfl
  | cons i r =>
    by_cases hd : (decide ((tx l).length < (sg k).length) || decide (Builtin.Str.strKind (tx l) < Builtin.Str.strKind (sg k))) = true
    · exfalso
      obtain ⟨f, h⟩ := StrLaws.occ_chain (tx l) (sg k) ((tx l).length + 1)
      rw [ho] at h
      have hm := (StrLaws.subAt_one (tx l) k i).mp h.2.1
      exact hfree (tx l) (by unfold Txt.split; rw [if_pos hd]; exact List.mem_singleton.mpr rfl) (List.mem_of_getElem? hm)
    · have : (Txt.split (tx l) (sg k)).length = (i :: r).length + 1 := by
        unfold Txt.split
        rw [if_neg hd, ho, if_neg (by simp), length_partsBetween]
      rw [this]; rfl
theorem walk_size {Tx : List Nat} {v0 : Nat → Int} {i nm : Nat} {told : Int} (h : WalkEnd Tx c1 v0 (i : Int) nm told) : Tx[i]? = some nm ∧ told = sumF v0 (Tx.take i) := by
  obtain ⟨pre, suf, rfl, rfl, h1, h2⟩ := h
  rw [sum_c1] at h1 h2
  have h3 : c1 nm = 1 := rfl
  rw [h3] at h2
  have : pre.length = i := by omega
  subst this
  exact ⟨by simp, by simp⟩
/-- where a sign stands -/
abbrev placesOf (Tx : List Nat) (k : Nat) : List Nat := (List.range Tx.length).filter fun i => Tx.getD i 0 == k
theorem places_cons (a : Nat) (Tx : List Nat) (k : Nat) : placesOf (a :: Tx) k = (if a = k then [0] else []) ++ (placesOf Tx k).map Nat.succ := by
  unfold placesOf
  rw [List.length_cons, List.range_succ_eq_map, List.filter_cons, List.filter_map]
  have : ((fun i => (a :: Tx).getD i 0 == k) ∘ Nat.succ) = fun i => Tx.getD i 0 == k := rfl
  rw [this]
  by_cases h : a = k
  · rw [if_pos h, if_pos (by simpa using h)]; rfl
  · rw [if_neg h, if_neg (by simpa using h)]; rfl
theorem places_split (pre suf : List Nat) (k : Nat) : (placesOf (pre ++ k :: suf) k)[pre.count k]? = some pre.length := by
  induction pre with
  | nil => rw [List.nil_append, places_cons, if_pos rfl]; rfl
  | cons a r ih =>
    rw [List.cons_append, places_cons, List.count_cons]
    by_cases h : a = k
    · rw [if_pos h, if_pos (by simpa using h), List.singleton_append, List.getElem?_cons_succ, List.getElem?_map, ih]; rfl
    · rw [if_neg h, if_neg (by simpa using h), List.nil_append, Nat.add_zero, List.getElem?_map, ih]; rfl
theorem places_len (Tx : List Nat) (k : Nat) : (placesOf Tx k).length = Tx.count k := by
  induction Tx with
  | nil => rfl
  | cons a r ih =>
    rw [places_cons, List.length_append, List.length_map, ih, List.count_cons]
    by_cases h : a = k
    · rw [if_pos h, if_pos (by simpa using h)]; simp; omega
    · rw [if_neg h, if_neg (by simpa using h)]; simp
theorem walk_kth {Tx : List Nat} {k j nm : Nat} {told : Int} (h : WalkEnd Tx (cK k) c1 (j : Int) nm told) : nm = k ∧ ∃ i : Nat, (placesOf Tx k)[j]? = some i ∧ told = (i : Int) := by
  obtain ⟨pre, suf, rfl, rfl, h1, h2⟩ := h
  rw [sum_cK] at h1 h2
  have h3 : cK k nm = if nm = k then 1 else 0 := rfl
  by_cases hk : nm = k
  · subst hk
    rw [h3, if_pos rfl] at h2
    have : j = pre.count nm := by omega
    subst this
    exact ⟨rfl, pre.length, places_split _ _ _, sum_c1 _⟩
  · rw [h3, if_neg hk] at h2
    omega
theorem eqv_same {A : Around} {E : Value → Shared → Prop} {prog : Program} {w : World} {s : Shared} {Q : Value → Shared → Prop} {a b : Value} {d : PyData} {as bs : List Addr} (ra : Reads s.heap a d as) (rb : Reads s.heap b d bs) (hd : SeqAt.shaped d = true) (hu : A.units + 64 < cLine) (hl : d.canLay0 = true) (h : Q (.bool false) s) :
    wpAny (model prog w) A (compareOp .NotEq a b) Q E s := ne_dataH ra rb hd hd hu (by rw [SeqAt.eqv_refl d hl]; exact h)
theorem eqv_same_eq {A : Around} {E : Value → Shared → Prop} {prog : Program} {w : World} {s : Shared} {Q : Value → Shared → Prop} {a b : Value} {d : PyData} {as bs : List Addr} (ra : Reads s.heap a d as) (rb : Reads s.heap b d bs) (hd : SeqAt.shaped d = true) (hu : A.units + 64 < cLine) (hl : d.canLay0 = true) (h : Q (.bool true) s) :
    wpAny (model prog w) A (compareOp .Eq a b) Q E s := eq_dataH ra rb hd hd hu (by rw [SeqAt.eqv_refl d hl]; exact h)
section
variable {w : World} {mean : ExcName → Option Value} {mg mb : Str → Option Value} {dp un : Nat} {fr : Option (List Env)} {gd : Option (List Code)} {s : Shared} {Q E : Value → Shared → Prop} {h₀ : Heap} {L : Addr} {m : Str → Option Value} {S : List (Addr × Obj)}
  {db dw : Addr} {ow : Obj} {kvs : List (Str × Value)} {D Db : List (PyData × PyData)} {B ex : Nat → List Nat} {f : Nat → Int}
theorem weights_fr (F : Fr h₀ L s.heap m) (N : News h₀ L s.heap S) (X : (Mine.hd.heap_39 w.params).In h₀) (T : Top Mine.hd.view_39 LO mean mg mb h₀) (hdp : dp + 2 < recursionLimit) (hu : un + 80 < cLine)
    (TD : StrTab PySem.Challenge.rw_pm0053_01.row.prog w h₀ db Db) (hB : ∀ k ∈ [97, 98, 99, 100], lookup (.str (sg k)) Db = some (.str (tx (B k)))) (BO : BodiesOk B)
    {g : Obj → List (Addr × Obj)} (U : UpdF dw ow S g) (hsys : (dw == sysModules) = false) (hd : ow.IsDictOf (strKind PySem.Challenge.rw_pm0053_01.row.prog w) kvs) (hfl : PyProof.V.FlatPairs PyData.str kvs D) (hn : D.length ≤ 2)
    (hf : ∀ j, 0 ≤ f j ∧ f j ≤ 1) (e48 : ex 48 = [48]) (e49 : ex 49 = [49]) (eB : ∀ k ∈ [97, 98, 99, 100], ex k = (B k).flatMap fun j => ex (lw j)) (hex : ∀ k ∈ six, (ex k).length < 30)
    (h0 : ∀ k ∈ [48, 49], lookup (.str (sg k)) D = some (.int (f k)))
    (ret : ∀ (o' : Obj) (kvs' : List (Str × Value)) (D' : List (PyData × PyData)) (h' : Heap) (tk' : Nat), o'.IsDictOf (strKind PySem.Challenge.rw_pm0053_01.row.prog w) kvs' → PyProof.V.FlatPairs PyData.str kvs' D' → (∀ k ∈ six, lookup (.str (sg k)) D' = some (.int (sumF f (ex k)))) →
      Fr h₀ L h' m → News h₀ L h' (g o') → Q (.ref dw) { s with heap := h', toks := tk' }) :
    wpAny (model PySem.Challenge.rw_pm0053_01.row.prog w) (AR dp un fr gd) (call (.ref 218) [.ref db, .ref dw]) Q E s := by
  obtain ⟨pre, post, rfl, hg, ua, ub⟩ := U.split
  have hm : (dw, ow) ∈ pre ++ (dw, ow) :: post := List.mem_append_right _ (.head _)
  have hsub : ∀ p ∈ [(dw, ow)], p ∈ pre ++ (dw, ow) :: post := fun p hp => by rw [List.mem_singleton.mp hp]; exact hm
  refine weights_ok w (W := fun k => sumF f (ex k)) (kin_hid X F N hsub) (T.keeps (stays_hid F N hsub)) hdp hu (TD.keep (stays_hid F N hsub)) hB BO (N _ hm).1 hsys hd hfl hn ?_ ?_ ?_ ?_
  · intro k hk
    rw [h0 k hk]
    simp only [List.mem_cons, List.not_mem_nil, or_false] at hk
    rcases hk with rfl | rfl
    · rw [e48]; simp [sumF]
    · rw [e49]; simp [sumF]
  · intro k hk
    show sumF f (ex k) = sumF (fun j => sumF f (ex (lw j))) (B k)
    rw [eB k hk, ← sumF_flat (F := fun j => sumF f (ex j)) fun _ _ => rfl]
  · intro k hk
    have := sumF_bound hf (ex k)
    have := hex k hk
    show 0 ≤ sumF f (ex k) ∧ sumF f (ex k) < 50
    omega
  · intro o' kvs' D' h' tk' g1 g2 _ g4 g5 g6
    have hmm := N _ hm
    refine ret o' kvs' D' h' tk' g1 g2 g4 (fr_step F (Ne.symm hmm.2.1) hmm.2.2 g5) ?_
    rw [hg]
    intro p hp
    rcases List.mem_append.mp hp with hp | hp
    · have := N p (List.mem_append_left _ hp)
      exact ⟨g5 _ _ (ua p hp) this.1, this.2⟩
    · rcases List.mem_cons.mp hp with rfl | hp
      · exact ⟨g6, hmm.2⟩
      · have := N p (List.mem_append_right _ (.tail _ hp))
        exact ⟨g5 _ _ (ub p hp) this.1, this.2⟩
end
theorem news_add {h₀ h h' : Heap} {L r : Addr} {m : Str → Option Value} {o : Obj} {S : List (Addr × Obj)} (F : Fr h₀ L h m) (N : News h₀ L h S) (k : Kp h h') (hr : h'.get? r = some o) (hn : h.get? r = none) : News h₀ L h' ((r, o) :: S) := by
  intro p hp
  rcases List.mem_cons.mp hp with rfl | hp
  · refine ⟨hr, fun e => ?_, fresh_up F.keep hn⟩
    obtain ⟨oL, _, _, hoL, _⟩ := F.ns
    rw [show r = L from e, hoL] at hn; cases hn
  · exact N.grown k p hp
abbrev pairD (x : Str) (n : Int) : PyData := .list [.str x, .int n]
theorem strOk_tx {l : List Nat} (h : ∀ j ∈ l, j < 1000) : PyData.strOk (tx l) = true := by
  unfold PyData.strOk
  rw [Array.all_eq_true']
  intro j hj
  have := h j (by simpa using hj)
  exact decide_eq_true (by omega)
theorem strOk_sg {k : Nat} (h : k < 1000) : PyData.strOk (sg k) = true := strOk_tx (l := [k]) fun j hj => by rw [List.mem_singleton.mp hj]; exact h
theorem pairD_ok {k : Nat} (h : k < 1000) (n : Int) : SeqAt.shaped (pairD (sg k) n) = true ∧ (pairD (sg k) n).canLay0 = true := by
  constructor <;> simp [SeqAt.shaped, PyData.canLay0, PyData.canLayAll0, PyData.depth, PyData.depthAll, strOk_sg h]
theorem reads_pair {h : Heap} {r : Addr} {x : Str} {n : Int} {t u : Tok} {k : Nat} (hr : h.get? r = some (listOf #[.str x t, .int n u] k)) : ∃ as, Reads h (.ref r) (pairD x n) as :=
  ⟨_, reads_list_at hr rfl rfl (ReadsAll.cons (Reads.str _ _) (ReadsAll.cons (Reads.int _ _) .nil))⟩
theorem item_at {T0 : List Nat} {i nm : Nat} (h : T0[i]? = some nm) : Txt.item (tx T0) (i : Int) = sg nm := by
  have hl := (List.getElem?_eq_some_iff.mp h).1
  rw [item_tx_eq (by omega) (by omega), Int.toNat_natCast, List.getD_eq_getElem?_getD, h]; rfl
theorem count_slice {T0 : List Nat} {i : Nat} : Txt.count (Txt.slice (tx T0) none (some (i : Int))) (Str.ofString "1") = sumF (cK 49) (T0.take i) := by
  rw [slice_tx (by omega), Int.toNat_natCast, show Str.ofString "1" = sg 49 from by decide +kernel, count_tx, sum_cK]
theorem pairs_lay {k : Nat} (h : k < 1000) (l : List Nat) : PyData.canLayAll0 (l.map fun (i : Nat) => pairD (sg k) (i : Int)) = true ∧ PyData.depthAll (l.map fun (i : Nat) => pairD (sg k) (i : Int)) ≤ 1 := by
  induction l with
  | nil => exact ⟨rfl, Nat.zero_le _⟩
  | cons a r ih =>
    refine ⟨?_, ?_⟩
    · rw [List.map_cons, PyData.canLayAll0, ih.1, (pairD_ok h _).2]; rfl
    · rw [List.map_cons, PyData.depthAll]
      have : (pairD (sg k) (a : Int)).depth = 1 := by simp [PyData.depth, PyData.depthAll]
      omega
theorem pairs_ok {k : Nat} (h : k < 1000) (l : List Nat) : SeqAt.shaped (.list (l.map fun (i : Nat) => pairD (sg k) (i : Int))) = true ∧ (PyData.list (l.map fun (i : Nat) => pairD (sg k) (i : Int))).canLay0 = true := by
  obtain ⟨h1, h2⟩ := pairs_lay h l
  refine ⟨?_, by rw [PyData.canLay0]; exact h1⟩
  unfold SeqAt.shaped
  rw [PyData.canLay0, PyData.depth, h1]
  simp
  omega
theorem reads_all {h : Heap} {k : Nat} : ∀ {ys : List Value} {l : List Nat}, Paired (fun (i : Nat) y => ∃ T its t1 t2, y = Value.ref T ∧ h.IsList T its ∧ its = #[.str (sg k) t1, .int (i : Int) t2]) l ys → ∃ as, ReadsAll h ys (l.map fun (i : Nat) => pairD (sg k) (i : Int)) as
  | [], _, h => by cases h; exact ⟨_, .nil⟩
  | y :: ys, _, h => by
    cases h with
    | cons ha hb =>
      obtain ⟨T, its, t1, t2, rfl, ⟨o, ho, hc, n, hd⟩, rfl⟩ := ha
      obtain ⟨as, ih⟩ := reads_all hb
      exact ⟨_, .cons (reads_list_at ho hc hd (ReadsAll.cons (Reads.str _ _) (ReadsAll.cons (Reads.int _ _) .nil))) ih⟩
theorem paired_flip {α β : Type} {F : α → β → Prop} {l : List α} {r : List β} (h : Paired F l r) : Paired (fun b a => F a b) r l := by
  induction h with
  | nil => exact .nil
  | cons a _ ih => exact .cons a ih
theorem paired_at {β : Type} {F : Value → Value → Prop} {G : β → Value → Prop} (R : β → Value → Prop) (hG : ∀ b v y, R b v → F v y → G b y) {vs ys : List Value} {l : List β} (hl : vs.length = l.length) (hR : ∀ (j : Nat) (v : Value), vs[j]? = some v → ∃ b, l[j]? = some b ∧ R b v) (h : Paired F vs ys) : Paired G l ys := by
  have := paired_idx (p := fun _ => true) (q := fun _ => true) R (fun _ _ _ => rfl) hG hl hR (ys := ys) (by rw [List.filter_eq_self.mpr fun _ _ => rfl]; exact h)
  rw [List.filter_eq_self.mpr fun _ _ => rfl] at this
  exact this
theorem ne_same {S S' : List (Addr × Obj)} {It : Addr} (h : S'.map Prod.fst = S.map Prod.fst) (hne : ∀ p ∈ S, p.1 ≠ It) : ∀ p ∈ S', p.1 ≠ It := fun p hp => by
  have hm : p.1 ∈ S.map Prod.fst := by rw [← h]; exact List.mem_map_of_mem hp
  obtain ⟨q, hq, e⟩ := List.mem_map.mp hm
  rw [← e]
  exact hne q hq

end
section
local macro_rules | `(tactic| walk_at "idle line") => `(tactic| fail)
local macro_rules | `(tactic| walk_at "idle line") => `(tactic| fail)
local macro_rules | `(tactic| walk_at "idle line") => `(tactic| fail)
local macro_rules | `(tactic| walk_at "idle line") => `(tactic| fail)
local macro_rules | `(tactic| walk_at "idle line") => `(tactic| fail)
local macro_rules | `(tactic| walk_at "idle line") => `(tactic| fail)
local macro_rules | `(tactic| walk_at "idle line") => `(tactic| fail)
local macro_rules | `(tactic| walk_at "idle line") => `(tactic| fail)
local macro_rules | `(tactic| walk_at "idle line") => `(tactic| fail)
local macro_rules | `(tactic| walk_at "idle line") => `(tactic| fail)
local macro_rules | `(tactic| walk_at "idle line") => `(tactic| fail)
local macro_rules | `(tactic| walk_at "idle line") => `(tactic| fail)
local macro_rules | `(tactic| walk_at "idle line") => `(tactic| fail)
local macro_rules | `(tactic| walk_at "idle line") => `(tactic| fail)
local macro_rules | `(tactic| walk_at "idle line") => `(tactic| fail)
local macro_rules | `(tactic| walk_at "idle line") => `(tactic| fail)
local macro_rules | `(tactic| walk_at "idle line") => `(tactic| fail)
local macro_rules | `(tactic| walk_at "idle line") => `(tactic| fail)
local macro_rules | `(tactic| walk_at "idle line") => `(tactic| fail)
local macro_rules | `(tactic| walk_at "idle line") => `(tactic| fail)
local macro_rules | `(tactic| walk_at "idle line") => `(tactic| fail)
local macro_rules | `(tactic| walk_at "idle line") => `(tactic| fail)
local macro_rules | `(tactic| walk_at "idle line") => `(tactic| fail)
local macro_rules | `(tactic| walk_at "idle line") => `(tactic| fail)
theorem agrees_ok (w : World) {mean : ExcName → Option Value} {mg mb : Str → Option Value} {dp un : Nat} {fr : Option (List Env)} {gd : Option (List Code)} {s : Shared} {Q E : Value → Shared → Prop}
    {hd d l : Addr} {hs : Int} {tk : Tok} {vs : List Value} {n : Nat} {tb : Tbl} {db : Addr} {Db : List (PyData × PyData)} {B ex : Nat → List Nat} {word0 T0 : List Nat} {tw tt : Tok}
    (X : (Mine.hd.heap_39 w.params).In s.heap) (T : Top Mine.hd.view_39 LO mean mg mb s.heap) (hdp : dp + 7 < recursionLimit) (hu : un + 300 < cLine)
    (H : HeadAt s.heap hd d l hs tk vs n) (TB : TblAt s.heap vs tb) (TO : TblOk tb) (hget : ∀ k ∈ [97, 98, 99, 100], (getT tb k).getD [] = B k) (BO : BodiesOk B)
    (TD : StrTab PySem.Challenge.rw_pm0053_01.row.prog w s.heap db Db) (hB : ∀ k ∈ [97, 98, 99, 100], lookup (.str (sg k)) Db = some (.str (tx (B k))))
    (e48 : ex 48 = [48]) (e49 : ex 49 = [49]) (eB : ∀ k ∈ [97, 98, 99, 100], ex k = (B k).flatMap fun j => ex (lw j)) (hex : ∀ k ∈ six, (ex k).length < 30)
    (hw0 : ∀ k ∈ word0, k ∈ [48, 49, 65, 66, 67, 68, 97, 98, 99, 100]) (hwl : word0.length < 50) (hT0 : T0 = word0.flatMap fun j => ex (lw j)) (hTl : T0.length < 100) (hT1 : ∀ k ∈ T0, k = 48 ∨ k = 49)
    (ret : ∀ (h' : Heap) (tk' : Nat), Kp s.heap h' → Q (.bool true) { s with heap := h', toks := tk' }) :
    wpAny (model PySem.Challenge.rw_pm0053_01.row.prog w) (AR dp un fr gd) (call (.ref 244) [.ref hd, .str (tx word0) tw, .ref db, .str (tx T0) tt]) Q E s := by
  revert X T
  k_fill
  intro X T
  k_dflt (refine' enterC [(Str.ofString "head", Value.ref hd), (Str.ofString "word", Value.str (tx word0) tw), (Str.ofString "bodies", Value.ref db), (Str.ofString "text", Value.str (tx T0) tt)] ?k3 ?k5 ?k6 ?k7 ?k8 ?k9 ?kB ?kD ?_ ?c2 ?c3 ?c4)
  (case k3 => assumption); (case k5 => assumption); (case k6 => k_is); (case k7 => k_is); (case k8 => (dsimp only [AR, Around.deeper]; omega)); (case k9 => exact fun _ => rfl); (case kB => exact rfl); (case kD => decide +kernel); (case c2 => exact rfl); (case c3 => exact rfl); (case c4 => exact rfl); k_whole; intro L' h' tk' cells' F' N' Y'
  k_cells Y'
  rename_i o1 o2 o3 o4 o5 o6 d1 d2 d3 d4 d5 d6
  have c6 : o6.data = .cell (some (.ref hd)) := d6
  have c5 : o5.data = .cell (some (.str (tx word0) tw)) := d5
  have c4 : o4.data = .cell (some (.str (tx T0) tt)) := d4
  obtain ⟨x3, c3⟩ : ∃ x, o3.data = .cell x := ⟨_, d3⟩
  obtain ⟨x2, c2'⟩ : ∃ x, o2.data = .cell x := ⟨_, d2⟩
  obtain ⟨x1, c1'⟩ : ∃ x, o1.data = .cell x := ⟨_, d1⟩
  clear d1 d2 d3 d4 d5 d6
  try k_fold
  walk_at "my_steps"
  rename Fr _ _ _ _ => F₁
  rename News _ _ _ _ => N₁
  rename_i _ oT lo hd1 hf1 l9 l1
  clear l9
  have hlk0 : ∀ k ∈ [48, 49], lookup (.str (sg k)) [(PyData.str (Str.ofString "0"), PyData.int 1), (.str (Str.ofString "1"), .int 1)] = some (.int (c1 k)) := by
    intro k hk
    simp only [List.mem_cons, List.not_mem_nil, or_false] at hk
    rcases hk with rfl | rfl <;> with_unfolding_all rfl
  obtain ⟨kT, DT, hd1, hf1, hn1, hlk1⟩ : ∃ kT DT, oT.IsDictOf (strKind PySem.Challenge.rw_pm0053_01.row.prog w) kT ∧ PyProof.V.FlatPairs PyData.str kT DT ∧ DT.length ≤ 2 ∧ ∀ k ∈ [48, 49], lookup (.str (sg k)) DT = some (.int (c1 k)) := ⟨_, _, hd1, hf1, Nat.le_refl 2, hlk0⟩
  clear hlk0
  (try dsimp only)
  generalize h'.objs.size = s1 at lo l1 N₁ ⊢
  k_dflt (refine' weights_fr F₁ N₁ X T ?wa ?wb TD hB BO ?wU lo hd1 hf1 hn1 c1_ok e48 e49 eB hex hlk1 ?_)
  (case wa => (show dp + 1 + 2 < _; omega)); (case wb => (show un + 3 + 80 < _; omega)); (case wU => k_updF)
  intro oS kvS DS h₂ tk₂ gS1 gS2 gS3 F₂ N₂
  clear F₁ N₁ hd1 hf1 hn1 hlk1
  (try dsimp only at N₂)
  walk_at "my_steps"
  rename Fr _ _ _ _ => F₁
  rename News _ _ _ _ => N₁
  rename_i h₃ oz Fz Nz dz Fy h₄ oT lo2 hd1 hf1 l92 l12
  clear l92 Fz Nz Fy
  have hlk0 : ∀ k ∈ [48, 49], lookup (.str (sg k)) [(PyData.str (Str.ofString "0"), PyData.int 1), (.str (Str.ofString "1"), .int 0)] = some (.int (cK 48 k)) := by
    intro k hk
    simp only [List.mem_cons, List.not_mem_nil, or_false] at hk
    rcases hk with rfl | rfl <;> with_unfolding_all rfl
  obtain ⟨kT, DT, hd1, hf1, hn1, hlk1⟩ : ∃ kT DT, oT.IsDictOf (strKind PySem.Challenge.rw_pm0053_01.row.prog w) kT ∧ PyProof.V.FlatPairs PyData.str kT DT ∧ DT.length ≤ 2 ∧ ∀ k ∈ [48, 49], lookup (.str (sg k)) DT = some (.int (cK 48 k)) := ⟨_, _, hd1, hf1, Nat.le_refl 2, hlk0⟩
  clear hlk0
  (try dsimp only)
  generalize h₃.objs.size = s2 at lo2 l12 N₁ ⊢
  k_dflt (refine' weights_fr F₁ N₁ X T ?wa2 ?wb2 TD hB BO ?wU2 lo2 hd1 hf1 hn1 (cK_ok 48) e48 e49 eB hex hlk1 ?_)
  (case wa2 => (show dp + 1 + 2 < _; omega)); (case wb2 => (show un + 3 + 80 < _; omega)); (case wU2 => k_updF)
  intro oN kvN DN h₅ tk₅ gN1 gN2 gN3 F₂ N₂
  clear F₁ N₁ hd1 hf1 hn1 hlk1
  (try dsimp only at N₂)
  walk_at "my_steps"
  rename Fr _ _ _ _ => F₁
  rename News _ _ _ _ => N₁
  rename_i h₅' Fz Nz Fy h₆' oT lo3 hd1 hf1 l93 l13
  clear l93 Fz Nz Fy
  have hlk0 : ∀ k ∈ [48, 49], lookup (.str (sg k)) [(PyData.str (Str.ofString "0"), PyData.int 0), (.str (Str.ofString "1"), .int 1)] = some (.int (cK 49 k)) := by
    intro k hk
    simp only [List.mem_cons, List.not_mem_nil, or_false] at hk
    rcases hk with rfl | rfl <;> with_unfolding_all rfl
  obtain ⟨kT, DT, hd1, hf1, hn1, hlk1⟩ : ∃ kT DT, oT.IsDictOf (strKind PySem.Challenge.rw_pm0053_01.row.prog w) kT ∧ PyProof.V.FlatPairs PyData.str kT DT ∧ DT.length ≤ 2 ∧ ∀ k ∈ [48, 49], lookup (.str (sg k)) DT = some (.int (cK 49 k)) := ⟨_, _, hd1, hf1, Nat.le_refl 2, hlk0⟩
  clear hlk0
  (try dsimp only)
  generalize h₅'.objs.size = s3 at lo3 l13 N₁ ⊢
  k_dflt (refine' weights_fr F₁ N₁ X T ?wa3 ?wb3 TD hB BO ?wU3 lo3 hd1 hf1 hn1 (cK_ok 49) e48 e49 eB hex hlk1 ?_)
  (case wa3 => (show dp + 1 + 2 < _; omega)); (case wb3 => (show un + 3 + 80 < _; omega)); (case wU3 => k_updF)
  intro oO kvO DO h₇ tk₇ gO1 gO2 gO3 F₂ N₂
  clear F₁ N₁ hd1 hf1 hn1 hlk1
  (try dsimp only at N₂)
  have total : ∀ f : Nat → Int, sumF (fun k => sumF f (ex (lw k))) word0 = sumF f T0 := fun f => by
    rw [hT0]
    exact sumF_flat (F := fun k => sumF f (ex k)) fun _ _ => rfl
  have bnd : ∀ f : Nat → Int, (∀ j, 0 ≤ f j ∧ f j ≤ 1) → ∀ k ∈ six, sumF f (ex k) = sumF f (ex k) ∧ 0 ≤ sumF f (ex k) ∧ sumF f (ex k) < 50 := fun f hf k hk => by
    have := sumF_bound hf (ex k)
    have := hex k hk
    omega
  walk_at "my_steps"
  rename Fr _ _ _ _ => F₁
  rename News _ _ _ _ => N₁
  refine for_range (τ := Unit) F₁ (fun _ => [(s3, oO), (s2, oN), (s1, oS), (L' + 1 + 1 + 1 + 1 + 1 + 1, o1), (L' + 1 + 1 + 1 + 1 + 1, o2), (L' + 1 + 1 + 1 + 1, oz), (L' + 1 + 1 + 1, o4), (L' + 1 + 1, o5), (L' + 1, o6)]) (fun _ m _ => m (Str.ofString "noughts") = some (.ref s2) ∧ m (Str.ofString "ones") = some (.ref s3)) () T0.length rfl rfl rfl rfl (fun _ => rfl) (by omega) ?_ N₁ ⟨by walk_at "my_lk", by walk_at "my_lk"⟩ ?_ ?_
  · refine opq fun P hP => ?_
    walk_at "my_steps"
    exact hP _ _ ⟨_, _, _, _, rfl, by assumption, _, _, rfl, by assumption⟩
  · rintro i u m _ h tk It oI hi ⟨q1, q2⟩ hne F N
    walk_at "my_steps"
    rename Fr _ _ _ _ => F₃
    rename News _ _ _ _ => N₃
    have TS : StrTab PySem.Challenge.rw_pm0053_01.row.prog w _ s1 DS := ⟨lo, _, Heap.dictOf_iff.mpr ⟨oS, N₃.get (by k_mem), gS1⟩, gS2⟩
    have TU : StrTab PySem.Challenge.rw_pm0053_01.row.prog w _ s3 DO := ⟨lo3, _, Heap.dictOf_iff.mpr ⟨oO, N₃.get (by k_mem), gO1⟩, gO2⟩
    refine walk_ok w (W := fun k => sumF c1 (ex k)) (V := fun k => sumF (cK 49) (ex k)) (w0 := c1) (v0 := cK 49) (X.keeps F₃.keep) (T.keeps F₃.keep) (by show dp + 1 + 5 < _; omega) (by show un + 3 + 160 < _; omega) (H.keep F₃.keep) (TB.keep F₃.keep) TO hget BO TS gS3 TU gO3 e48 e49 eB (bnd _ c1_ok) (bnd _ (cK_ok 49)) hw0 hwl (by omega) (by rw [total, sum_c1]; omega) ?_
    intro r nm told t1 t2 nr h₉ tk₉ hE hr hrn k₉
    rw [← hT0] at hE
    obtain ⟨w1, w2⟩ := walk_size hE
    replace N₃ := news_add F₃ N₃ k₉ hr hrn
    replace F₃ := F₃.keeps k₉
    walk_at "my_steps"
    · rename _ ∨ _ => hc
      rw [tx_len] at hc
      omega
    · rename Fr _ _ _ _ => F₄
      rename News _ _ _ _ => N₄
      rw [item_at w1, count_slice, ← w2] at N₄
      obtain ⟨as, ra⟩ := reads_pair (N₄.get (List.Mem.tail _ (.head _)))
      obtain ⟨bs, rb⟩ := reads_pair (N₄.get (.head _))
      have hnm : nm < 1000 := by rcases hT1 nm (List.mem_of_getElem? w1) with rfl | rfl <;> decide
      refine eqv_same ra rb (pairD_ok hnm _).1 (by show un + 3 + 64 < _; omega) (pairD_ok hnm _).2 ?_
      clear ra rb
      walk_at "my_steps"
      rename Fr _ _ _ _ => F₅
      rename News _ _ _ _ => N₅
      exact ⟨_, (), _, _, rfl, ⟨by walk_at "my_lk", by walk_at "my_lk"⟩, F₅, fun p hp => N₅ p (.tail _ (.tail _ hp)), hne⟩
  · rintro m _ h tk ⟨q1, q2⟩ F N
    dsimp only
    walk_at "my_steps"
    refine wpAny_For ?_ (fun _ => rfl)
    walk_at "my_steps"
    rename Fr _ _ _ _ => F₃
    rename News _ _ _ _ => N₃
    rename_i lA hA l1A lB hB' l1B lX hX l1X
    dsimp only
    refine for_list_at (τ := Obj × Obj) F₃ (fun c => [(lX, listOf #[.ref lA, .ref lB] 0), (lB, listOf #[.str (Str.ofString "1") (tk + 1), .ref s3] 0), (lA, listOf #[.str (Str.ofString "0") tk, .ref s2] 0), (s3, oO), (s2, oN), (s1, oS), (L' + 1 + 1 + 1 + 1 + 1 + 1, c.1), (L' + 1 + 1 + 1 + 1 + 1, c.2), (L' + 1 + 1 + 1 + 1, oz), (L' + 1 + 1 + 1, o4), (L' + 1 + 1, o5), (L' + 1, o6)])
      (fun _ _ c => (∃ x, c.1.data = .cell x) ∧ (∃ x, c.2.data = .cell x)) (o1, o2) lX [.ref lA, .ref lB] 0 rfl rfl (.inr fun _ => .head _) N₃ ⟨⟨_, c1'⟩, ⟨_, c2'⟩⟩ ?_ ?_
    · rintro i v m ⟨p1, p2⟩ h tk' It oI hv ⟨⟨y1, b1⟩, ⟨y2, b2⟩⟩ hne F N
      dsimp only at b1 b2 hne N
      obtain ⟨a, k, t, dk, oK, DK, kvK, rfl, hT, hk, hKm, hKlo, gK1, gK2, gK3⟩ : ∃ a k t dk oK DK kvK, v = .ref a ∧ h.IsList a #[.str (sg k) t, .ref dk] ∧ (k = 48 ∨ k = 49) ∧ (∀ S : List (Addr × Obj), (s3, oO) ∈ S → (s2, oN) ∈ S → (dk, oK) ∈ S) ∧ (dk == sysModules) = false ∧ oK.IsDictOf (strKind PySem.Challenge.rw_pm0053_01.row.prog w) kvK ∧ PyProof.V.FlatPairs PyData.str kvK DK ∧ ∀ j ∈ six, lookup (.str (sg j)) DK = some (.int (sumF (cK k) (ex j))) := by
        cases i with
        | zero => cases hv; exact ⟨lA, 48, _, s2, oN, DN, _, rfl, ⟨_, N.get (.tail _ (.tail _ (.tail _ (.head _)))), rfl, _, rfl⟩, .inl rfl, fun _ _ h => h, lo2, gN1, gN2, gN3⟩
        | succ i =>
          cases i with
          | zero => cases hv; exact ⟨lB, 49, _, s3, oO, DO, _, rfl, ⟨_, N.get (.tail _ (.tail _ (.head _))), rfl, _, rfl⟩, .inr rfl, fun _ h _ => h, lo3, gO1, gO2, gO3⟩
          | succ i => simp at hv
      have hk1 : k < 1000 := by rcases hk with rfl | rfl <;> decide
      have i1 : @Ne Nat It (L' + 1 + 1 + 1 + 1 + 1 + 1) := Ne.symm (hne (L' + 1 + 1 + 1 + 1 + 1 + 1, _) (by k_mem))
      have i2 : @Ne Nat It (L' + 1 + 1 + 1 + 1 + 1) := Ne.symm (hne (L' + 1 + 1 + 1 + 1 + 1, _) (by k_mem))
      walk_at "my_steps"
      rename Fr _ _ _ _ => F₄
      rename News _ _ _ _ => N₄
      k_dflt (refine' comp_coreA (n := T0.length) (P := fun i v => i < T0.length ∧ ∃ t, v = .int (i : Int) t) (fun v => match v with | .int i _ => T0.getD i.toNat 0 == k | _ => false) (fun v r => r = v) F₄ N₄ ?pa ?pb ?pc ?pd ?pe ?pf ?pg ?ph ?pi ?pj ?pk ?pl ?pm ?pn ?po)
      (case pa => exact rfl); (case pb => with_unfolding_all rfl); (case pc => rfl); (case pd => decide); (case pe => rfl); (case pf => decide); (case pg => rfl); (case ph => rfl); (case pi => rfl); (case pj => exact fun _ => rfl); (case pk => rw [sizeLine_eq]; omega)
      case pl =>
        refine src_range rfl (by omega) ?_
        refine opq fun P hP => ?_
        walk_at "my_steps"
        exact hP _ _ ⟨_, _, _, _, rfl, by assumption, _, _, rfl, by assumption⟩
      case pm =>
        rintro C i v s₃ m₃ ⟨hi, u, rfl⟩ F N kk hm
        refine opq fun P hP => ?_
        refine one_test ?_
        walk_at "my_steps"
        · rename _ ∨ _ => hc
          rw [tx_len] at hc
          omega
        · rw [item_at (nm := T0.getD i 0) (by rw [List.getD_eq_getElem?_getD, List.getElem?_eq_getElem hi]; rfl), sg_eq]
          exact hP _ _ ⟨rfl, _, _, rfl, fun _ _ e => e⟩
      case pn =>
        rintro C i v s₃ m₃ ⟨hi, u, rfl⟩ hp F N kk hm
        refine opq fun P hP => ?_
        walk_at "my_steps"
        exact hP _ _ ⟨rfl, _, _, rfl, fun _ _ e => e⟩
      case po =>
        intro lP nP ys vs₁ h₁ tk₁ hlen hP hG F₅ N₅ hlP
        have hI : Paired (fun (i : Nat) r => ∃ u, r = Value.int (i : Int) u) (placesOf T0 k) ys := paired_idx (β := Nat) (G := fun i r => ∃ u, r = Value.int (i : Int) u) (q := fun i => T0.getD i 0 == k) (fun i v => ∃ u, v = .int (i : Int) u) (fun _ _ ⟨u, e⟩ => by rw [e]; rfl) (fun b v r ⟨u, e⟩ hr => ⟨u, by rw [hr, e]⟩) (by rw [hlen]; simp)
          (fun j v e => by obtain ⟨hj, u, rfl⟩ := hP j v e; exact ⟨j, by simp [hj], u, rfl⟩) hG
        clear hG hP
        clear F₄ N₄
        have hyl : ys.length = (placesOf T0 k).length := hI.length.symm
        have hpl : (placesOf T0 k).length ≤ T0.length := by rw [places_len]; exact List.count_le_length
        walk_at "my_steps"
        rename Fr _ _ _ _ => F₆
        rename News _ _ _ _ => N₆
        k_dflt (refine' compO_coreA (n := (placesOf T0 k).length) (P := fun i v => i < (placesOf T0 k).length ∧ ∃ t, v = .int (i : Int) t) (fun v its => ∀ (j : Nat) u, v = .int (j : Int) u → ∃ i t1 t2, (placesOf T0 k)[j]? = some i ∧ its = #[.str (sg k) t1, .int (i : Int) t2]) F₆ N₆ ?ra ?rb ?rc ?rd ?re ?rf ?rg ?rh ?ri ?rj ?rk ?rl ?rm ?rn)
        (case ra => exact rfl); (case rb => with_unfolding_all rfl); (case rc => rfl); (case rd => decide); (case re => rfl); (case rf => decide); (case rg => rfl); (case rh => rfl); (case ri => rfl); (case rj => exact fun _ => rfl); (case rk => rw [sizeLine_eq]; omega)
        case rl =>
          refine src_range rfl (by omega) ?_
          refine opq fun P hP => ?_
          walk_at "my_steps"
          exact hP _ _ ⟨_, _, _, _, rfl, by assumption, _, _, rfl, by assumption⟩
        case rm =>
          rintro C i v s₃ m₃ ⟨hi, u, rfl⟩ F N kk hm
          refine opq fun P hP => ?_
          walk_at "my_steps"
          have TS : StrTab PySem.Challenge.rw_pm0053_01.row.prog w s₃.heap s1 DS := ⟨lo, _, Heap.dictOf_iff.mpr ⟨oS, N.get (by k_mem), gS1⟩, gS2⟩
          have TU : StrTab PySem.Challenge.rw_pm0053_01.row.prog w s₃.heap dk DK := ⟨hKlo, _, Heap.dictOf_iff.mpr ⟨oK, N.get (hKm _ (by k_mem) (by k_mem)), gK1⟩, gK2⟩
          refine walk_ok w (W := fun j => sumF (cK k) (ex j)) (V := fun j => sumF c1 (ex j)) (w0 := cK k) (v0 := c1) (X.keeps F.keep) (T.keeps F.keep) (by show dp + 1 + 5 < _; omega) (by show un + 3 + 160 < _; omega) (H.keep F.keep) (TB.keep F.keep) TO hget BO TU gK3 TS gS3 e48 e49 eB (bnd _ (cK_ok k)) (bnd _ c1_ok) hw0 hwl (by omega) (by rw [total, sum_cK, ← places_len]; omega) ?_
          intro r nm told t1 t2 nr h₉ tk₉ hE hr hrn k₉
          rw [← hT0] at hE
          obtain ⟨rfl, i', w1, rfl⟩ := walk_kth hE
          exact hP _ _ ⟨⟨r, _, rfl, hrn, ⟨_, hr, rfl, _, rfl⟩, fun j u' e => by
            injection e with e1
            obtain rfl : i = j := by omega
            exact ⟨i', t1, t2, w1, rfl⟩⟩, _, _, rfl, k₉⟩
        case rn =>
          intro lF nF yf vf h₂ tk₂ hlf hPf hGf F₇ N₇
          have hIf := paired_flip hI
          walk_at "my_steps"
          rename Fr _ _ _ _ => F₇
          rename News _ _ _ _ => N₇
          k_dflt (refine' compO_core (n := ys.length) (P := fun i v => ys[i]? = some v) (fun v its => ∀ (i : Nat) u, v = .int (i : Int) u → ∃ t1 t2, its = #[.str (sg k) t1, .int (i : Int) t2]) F₇ N₇ ?sc ?sd ?se ?sf ?sg ?sj ?sk ?sl ?sm ?sn)
          (case sc => rfl); (case sd => decide); (case se => rfl); (case sf => decide); (case sg => rfl); (case sj => exact fun _ => rfl); (case sk => rw [sizeLine_eq]; omega)
          case sl =>
            refine src_list (n := nP) rfl (N₇.get (List.Mem.tail _ (.head _))) ?_
            refine opq fun P hP => ?_
            walk_at "my_steps"
            exact hP _ _ ⟨rfl, _, _, rfl, fun _ _ e => e⟩
          case sm =>
            rintro C i v s₃ m₃ hi F N kk hm
            obtain ⟨i', _, u, rfl⟩ := paired_get hIf hi
            refine opq fun P hP => ?_
            refine wpAny_List ?_
            walk_at "my_steps"
            exact hP _ _ ⟨⟨_, _, rfl, get_size_none _, ⟨_, Heap.get?_push_size _ rfl, rfl, _, rfl⟩, fun i2 u' e => (by injection e with e1; obtain rfl : i' = i2 := (by omega); exact ⟨_, _, rfl⟩)⟩, _, _, rfl, fun b o e => Heap.get?_push_of_some _ e⟩
          case sn =>
            intro lC nC yc vc h₃ tk₃ hlc hPc hGc F₈ N₈ k₈
            obtain rfl : vc = ys := by simpa using list_of_places (vs := vc) (items := ys.toArray) (by simpa using hlc) (by simpa using hPc)
            clear F₇ N₇
            walk_at "my_steps"
            have rF : Paired (fun (i : Nat) y => ∃ T its t1 t2, y = Value.ref T ∧ h₃.IsList T its ∧ its = #[.str (sg k) t1, .int (i : Int) t2]) (placesOf T0 k) yf :=
              paired_at (fun b v => ∃ (j : Nat) (t : Tok), v = .int (j : Int) t ∧ (placesOf T0 k)[j]? = some b) (fun b v y ⟨j, t, e, hb⟩ ⟨T, its, e2, _, ⟨o, ho, hr⟩, hG⟩ => by
                obtain ⟨i, t1, t2, hi, e3⟩ := hG j t e
                rw [hb] at hi
                cases hi
                exact ⟨T, its, t1, t2, e2, ⟨o, k₈ _ _ ho, hr⟩, e3⟩) hlf (fun j v e => by obtain ⟨hj, t, rfl⟩ := hPf j v e; exact ⟨_, List.getElem?_eq_getElem hj, j, t, rfl, List.getElem?_eq_getElem hj⟩) hGf
            have rC : Paired (fun (i : Nat) y => ∃ T its t1 t2, y = Value.ref T ∧ h₃.IsList T its ∧ its = #[.str (sg k) t1, .int (i : Int) t2]) (placesOf T0 k) yc :=
              paired_at (fun (b : Nat) v => ∃ u, v = .int (b : Int) u) (fun b v y hb hy => by
                obtain ⟨u, e⟩ := hb
                obtain ⟨T, its, e2, _, hT, hG⟩ := hy
                obtain ⟨t1, t2, e3⟩ := hG b u e
                exact ⟨T, its, t1, t2, e2, hT, e3⟩) hyl (fun j v e => paired_get hIf e) hGc
            obtain ⟨as, ra⟩ := reads_all rF
            obtain ⟨bs, rb⟩ := reads_all rC
            refine eqv_same (reads_list_at (N₈.get (List.Mem.tail _ (.head _))) rfl rfl ra) (reads_list_at (N₈.get (.head _)) rfl rfl rb) (pairs_ok hk1 _).1 (by show un + 3 + 64 < _; omega) (pairs_ok hk1 _).2 ?_
            clear ra rb rF rC
            walk_at "my_steps"
            rename Fr _ _ _ _ => F₉
            rename News _ _ _ _ => N₉
            exact ⟨_, (_, _), _, _, rfl, ⟨⟨_, by assumption⟩, ⟨_, by assumption⟩⟩, F₉, fun p hp => N₉ p (.tail _ (.tail _ (.tail _ hp))), ne_same (by exact rfl) hne⟩
    · rintro m ⟨p1, p2⟩ h tk' ⟨⟨y1, b1⟩, ⟨y2, b2⟩⟩ F N
      dsimp only at b1 b2 N ⊢
      walk_at "my_steps"
      exact ret _ _ (Fr.keep (by assumption))

end
section
/-- a row of the table: its text names letters ahead only -/
def RowOk (k : Nat) (b : List Nat) : Prop := b.length ≤ 2 ∧ ∀ j ∈ b, j ∈ [48, 49, 65, 66, 67, 97, 98, 99] ∧ (lw j ∈ [48, 49] ∨ lw j ∈ [97, 98, 99] ∧ lw j < lw k)
theorem signAt_mem {i : Nat} (y : Int) (t : Nat) : signAt i y t ∈ signsOf i := by
  have hl : 0 < (signsOf i).length := by simp [signsOf]
  unfold signAt
  have h0 := Int.emod_nonneg (y / (3 * 8 ^ t) % 8) (b := ((signsOf i).length : Int)) (by omega)
  have h1 := Int.emod_lt_of_pos (y / (3 * 8 ^ t) % 8) (b := ((signsOf i).length : Int)) (by omega)
  generalize y / (3 * 8 ^ t) % 8 % ((signsOf i).length : Int) = z at h0 h1
  have hz : z.toNat < (signsOf i).length := by omega
  rw [List.getD_eq_getElem?_getD, List.getElem?_eq_getElem hz]
  exact List.getElem_mem hz
theorem signs_ok : ∀ i ∈ [0, 1, 2, 3], ∀ j ∈ signsOf i, j ∈ [48, 49, 65, 66, 67, 97, 98, 99] ∧ (lw j ∈ [48, 49] ∨ lw j ∈ [97, 98, 99] ∧ lw j < 97 + i) := by decide +kernel
theorem body_len (i : Nat) (y : Int) : (bodyOf i y).length ≤ 2 := by
  unfold bodyOf
  rw [List.length_map, List.length_range]
  omega
theorem body_in (i : Nat) (y : Int) : ∀ j ∈ bodyOf i y, j ∈ signsOf i := by
  intro j hj
  obtain ⟨t, _, rfl⟩ := List.mem_map.mp hj
  exact signAt_mem y t
theorem in_bodies {l : List Nat} (h : l.length ≤ 2) (hs : ∀ j ∈ l, j ∈ sgs) : l ∈ bodies := by
  unfold bodies
  match l, h with
  | [], _ => exact List.mem_append_left _ (.head _)
  | [a], _ => exact List.mem_append_left _ (.tail _ (List.mem_map.mpr ⟨a, hs a (.head _), rfl⟩))
  | [a, b], _ => exact List.mem_append_right _ (List.mem_flatMap.mpr ⟨a, hs a (.head _), List.mem_map.mpr ⟨b, hs b (.tail _ (.head _)), rfl⟩⟩)
theorem deed_parts (x : Int) : (deedOf x).how < 4 ∧ ∃ i : Nat, i ∈ [0, 1, 2, 3] ∧ (deedOf x).name = 97 + i ∧ (deedOf x).body = bodyOf i (x / 16) := by
  unfold deedOf
  dsimp only
  have h1 := Int.emod_nonneg (x / 4) (b := 4) (by decide)
  have h2 := Int.emod_lt_of_pos (x / 4) (b := 4) (by decide)
  have h3 := Int.emod_nonneg x (b := 4) (by decide)
  have h4 := Int.emod_lt_of_pos x (b := 4) (by decide)
  generalize x / 4 % 4 = y at h1 h2
  generalize x % 4 = z at h3 h4
  refine ⟨by omega, z.toNat, ?_, rfl, rfl⟩
  simp only [List.mem_cons, List.not_mem_nil, or_false]
  omega
theorem deed_fine (x : Int) : DeedOk (deedOf x) ∧ RowOk (deedOf x).name (deedOf x).body ∧ RowOk ((deedOf x).name - 32) (deedOf x).body := by
  obtain ⟨hh, i, hi, hn, hB⟩ := deed_parts x
  have hb := body_in i (x / 16)
  have hs := signs_ok i hi
  have hlw : lw (97 + i) = 97 + i ∧ lw (97 + i - 32) = 97 + i := (by decide +kernel : ∀ i ∈ [0, 1, 2, 3], lw (97 + i) = 97 + i ∧ lw (97 + i - 32) = 97 + i) i hi
  refine ⟨⟨hh, ?_, ?_⟩, ?_, ?_⟩
  · rw [hn]
    exact (by decide +kernel : ∀ i ∈ [0, 1, 2, 3], 97 + i ∈ [97, 98, 99, 100]) i hi
  · rw [hB]
    refine in_bodies (body_len _ _) fun j hj => ?_
    have := (hs j (hb j hj)).1
    revert this
    exact (by decide +kernel : ∀ j ∈ [48, 49, 65, 66, 67, 97, 98, 99], j ∈ sgs) j
  · rw [hn, hB]
    exact ⟨body_len _ _, fun j hj => by rw [hlw.1]; exact hs j (hb j hj)⟩
  · rw [hn, hB]
    exact ⟨body_len _ _, fun j hj => by rw [hlw.2]; exact hs j (hb j hj)⟩
theorem rows_snoc {tb : Tbl} {k : Nat} {b : List Nat} (h : ∀ e ∈ tb, RowOk e.1 e.2) (hk : RowOk k b) : ∀ e ∈ tb ++ [(k, b)], RowOk e.1 e.2 := fun e he => by
  rcases List.mem_append.mp he with he | he
  · exact h e he
  · rw [List.mem_singleton.mp he]; exact hk
theorem rows_delT {tb : Tbl} {k : Nat} (h : ∀ e ∈ tb, RowOk e.1 e.2) : ∀ e ∈ delT tb k, RowOk e.1 e.2 := fun e he => h e (List.mem_filter.mp he).1
theorem step_rows {st : Tbl × List (List Nat)} {e : Deed} (h : ∀ r ∈ st.1, RowOk r.1 r.2) (h1 : RowOk e.name e.body) (h2 : RowOk (e.name - 32) e.body) : ∀ r ∈ (doneStep st e).1, RowOk r.1 r.2 := by
  unfold doneStep
  split
  · exact rows_snoc (rows_delT h) h1
  · exact rows_snoc (rows_delT h) h2
  · unfold setdT
    split
    · exact h
    · exact rows_snoc h h2
  · exact rows_delT h
theorem fold_rows : ∀ {ds : List Deed} (st : Tbl × List (List Nat)), (∀ r ∈ st.1, RowOk r.1 r.2) → (∀ e ∈ ds, RowOk e.name e.body ∧ RowOk (e.name - 32) e.body) → ∀ r ∈ (ds.foldl doneStep st).1, RowOk r.1 r.2
  | [], _, h, _ => h
  | e :: r, st, h, hd => fold_rows (ds := r) _ (step_rows h (hd e (.head _)).1 (hd e (.head _)).2) fun x hx => hd x (.tail _ hx)
theorem getT_mem {tb : Tbl} {k : Nat} {b : List Nat} (h : getT tb k = some b) : ∃ e ∈ tb, lw e.1 = lw k ∧ e.2 = b := by
  unfold getT at h
  obtain ⟨e, he, rfl⟩ := Option.map_eq_some_iff.mp h
  exact ⟨e, List.mem_of_find?_eq_some he, by simpa using List.find?_some he, rfl⟩
/-- the text of a letter -/
def bodyT (tb : Tbl) (k : Nat) : List Nat := (getT tb k).getD []
theorem bodyT_ok {tb : Tbl} (h : ∀ r ∈ tb, RowOk r.1 r.2) : BodiesOk (bodyT tb) := by
  have key : ∀ k ∈ [97, 98, 99, 100], RowOk k (bodyT tb k) := fun k hk => by
    unfold bodyT
    cases e : getT tb k with
    | none => exact ⟨Nat.zero_le _, fun _ h => nomatch h⟩
    | some b =>
      obtain ⟨r, hr, hl, rfl⟩ := getT_mem e
      have := h r hr
      exact ⟨this.1, fun j hj => by rw [← hl]; exact this.2 j hj⟩
  refine ⟨fun k hk => (key k hk).1, fun k hk j hj => ?_⟩
  obtain ⟨a, b⟩ := (key k hk).2 j hj
  rw [lw_low k hk] at b
  exact ⟨a, b⟩
/-- a letter written out, n letters known -/
def lvl (B : Nat → List Nat) : Nat → Nat → List Nat
  | 0, k => if k = 48 ∨ k = 49 then [k] else []
  | n + 1, k => if k = 97 + n then (B k).flatMap fun j => lvl B n (lw j) else lvl B n k
def exOf (B : Nat → List Nat) : Nat → List Nat := lvl B 4
theorem lvl_up {B : Nat → List Nat} {n k : Nat} (h : k < 97 + n) : ∀ m, n ≤ m → lvl B m k = lvl B n k := by
  intro m hm
  induction hm with
  | refl => rfl
  | @step m hm ih =>
    rw [lvl, if_neg (by have : n ≤ m := hm; omega), ih]
section
variable {B : Nat → List Nat}
theorem ex_digit : exOf B 48 = [48] ∧ exOf B 49 = [49] := by
  constructor
  · exact (lvl_up (n := 0) (by decide) 4 (by decide)).trans rfl
  · exact (lvl_up (n := 0) (by decide) 4 (by decide)).trans rfl
theorem ex_letter (BO : BodiesOk B) : ∀ k ∈ [97, 98, 99, 100], exOf B k = (B k).flatMap fun j => exOf B (lw j) := by
  intro k hk
  obtain ⟨i, hi, rfl⟩ : ∃ i : Nat, i < 4 ∧ k = 97 + i := ⟨k - 97, by simp at hk; omega, by simp at hk; omega⟩
  have e1 : exOf B (97 + i) = lvl B (i + 1) (97 + i) := lvl_up (n := i + 1) (by omega) 4 (by omega)
  rw [e1, lvl, if_pos rfl]
  have : ∀ j ∈ B (97 + i), lvl B i (lw j) = exOf B (lw j) := fun j hj => by
    refine (lvl_up (n := i) ?_ 4 (by omega)).symm
    rcases (BO.ahead _ hk j hj).2 with h | ⟨_, h⟩
    · simp at h; omega
    · exact h
  generalize B (97 + i) = bs at this
  induction bs with
  | nil => rfl
  | cons a r ih =>
    rw [List.flatMap_cons, List.flatMap_cons, this a (.head _), ih fun j hj => this j (.tail _ hj)]
theorem lvl_len (BO : BodiesOk B) : ∀ n ≤ 4, ∀ k, (lvl B n k).length ≤ 2 ^ n ∧ ∀ j ∈ lvl B n k, j = 48 ∨ j = 49 := by
  intro n
  induction n with
  | zero =>
    intro _ k
    unfold lvl
    split
    · rename_i h
      exact ⟨Nat.le_refl _, fun j hj => by rw [List.mem_singleton.mp hj]; exact h⟩
    · exact ⟨Nat.zero_le _, fun _ h => nomatch h⟩
  | succ n ih =>
    intro hn k
    have ih := ih (by omega)
    rw [lvl]
    split
    · rename_i h
      have hb := BO.len k (by subst h; simp; omega)
      refine ⟨?_, fun j hj => ?_⟩
      · have : ∀ l : List Nat, (l.flatMap fun j => lvl B n (lw j)).length ≤ l.length * 2 ^ n := fun l => by
          induction l with
          | nil => exact Nat.zero_le _
          | cons a r ih2 =>
            rw [List.flatMap_cons, List.length_append, List.length_cons, Nat.succ_mul]
            have := (ih (lw a)).1
            omega
        refine Nat.le_trans (this _) ?_
        rw [Nat.pow_succ, Nat.mul_comm (2 ^ n)]
        exact Nat.mul_le_mul_right _ hb
      · obtain ⟨a, _, hj⟩ := List.mem_flatMap.mp hj
        exact (ih (lw a)).2 j hj
    · have := ih k
      exact ⟨Nat.le_trans this.1 (Nat.pow_le_pow_right (by decide) (Nat.le_succ n)), this.2⟩
theorem ex_len (BO : BodiesOk B) (k : Nat) : (exOf B k).length ≤ 16 ∧ ∀ j ∈ exOf B k, j = 48 ∨ j = 49 := lvl_len BO 4 (Nat.le_refl _) k
/-- the pairs that replace is handed -/
def pairsOf (B : Nat → List Nat) : List (Nat × List Nat) := [(100, B 100), (68, B 100), (99, B 99), (67, B 99), (98, B 98), (66, B 98), (97, B 97), (65, B 97)]
theorem sub1_flat {k : Nat} {b : List Nat} {g : Nat → List Nat} (h : b.flatMap g = g k) (l : List Nat) : (sub1 k b l).flatMap g = l.flatMap g := by
  induction l with
  | nil => rfl
  | cons a r ih =>
    show ((a :: r).flatMap fun j => if j = k then b else [j]).flatMap g = _
    rw [List.flatMap_cons, List.flatMap_append, List.flatMap_cons]
    show _ ++ (sub1 k b r).flatMap g = _
    rw [ih]
    congr 1
    split
    · rename_i e; rw [h, e]
    · simp
/-- signs of less than n letters -/
def Below4 (n : Nat) (l : List Nat) : Prop := ∀ j ∈ l, j ∈ [48, 49, 65, 66, 67, 68, 97, 98, 99, 100] ∧ (j ∈ [48, 49] ∨ lw j < 97 + n)
theorem sub_below {n : Nat} (hn : n ∈ [0, 1, 2, 3]) {l b : List Nat} (h : Below4 (n + 1) l) (hb : Below4 n b) : Below4 n (sub1 (65 + n) b (sub1 (97 + n) b l)) := by
  intro j hj
  obtain ⟨a, ha, hj⟩ := List.mem_flatMap.mp hj
  by_cases e1 : a = 65 + n
  · rw [if_pos e1] at hj
    exact hb j hj
  · rw [if_neg e1] at hj
    rw [List.mem_singleton.mp hj]
    obtain ⟨c, hc, ha⟩ := List.mem_flatMap.mp ha
    by_cases e2 : c = 97 + n
    · rw [if_pos e2] at ha
      exact hb a ha
    · rw [if_neg e2] at ha
      rw [List.mem_singleton.mp ha] at e1 ⊢
      obtain ⟨h1, h2⟩ := h c hc
      refine ⟨h1, ?_⟩
      rcases h2 with h2 | h2
      · exact .inl h2
      · refine .inr ?_
        revert h2 e1 e2
        exact (by decide +kernel : ∀ n ∈ [0, 1, 2, 3], ∀ c ∈ [48, 49, 65, 66, 67, 68, 97, 98, 99, 100], ¬ c = 65 + n → ¬ c = 97 + n → lw c < 97 + (n + 1) → lw c < 97 + n) n hn c h1
theorem sub_below2 {n k k2 : Nat} (hn : n ∈ [0, 1, 2, 3]) (hk : k = 97 + n) (hk2 : k2 = 65 + n) {l b : List Nat} (h : Below4 (n + 1) l) (hb : Below4 n b) : Below4 n (sub1 k2 b (sub1 k b l)) := by
  subst hk hk2
  exact sub_below hn h hb
theorem body_below (BO : BodiesOk B) {n : Nat} (hn : n ∈ [0, 1, 2, 3]) : Below4 n (B (97 + n)) := by
  have hk : 97 + n ∈ [97, 98, 99, 100] := (by decide +kernel : ∀ n ∈ [0, 1, 2, 3], 97 + n ∈ [97, 98, 99, 100]) n hn
  intro j hj
  obtain ⟨h1, h2⟩ := BO.ahead _ hk j hj
  refine ⟨ahead_in h1, ?_⟩
  rcases h2 with h2 | ⟨_, h2⟩
  · refine .inl ?_
    revert h2
    exact (by decide +kernel : ∀ j ∈ [48, 49, 65, 66, 67, 97, 98, 99], lw j ∈ [48, 49] → j ∈ [48, 49]) j h1
  · exact .inr h2
theorem digits_flat : ∀ {l : List Nat}, (∀ j ∈ l, j ∈ [48, 49]) → (l.flatMap fun j => exOf B (lw j)) = l
  | [], _ => rfl
  | a :: r, h => by
    rw [List.flatMap_cons, digits_flat fun j hj => h j (.tail _ hj)]
    have := h a (.head _)
    simp only [List.mem_cons, List.not_mem_nil, or_false] at this
    rcases this with rfl | rfl
    · rw [show lw 48 = 48 from rfl, ex_digit.1]; rfl
    · rw [show lw 49 = 49 from rfl, ex_digit.2]; rfl
/-- replace writes the word out -/
theorem subs_pairs (BO : BodiesOk B) {l : List Nat} (h : ∀ j ∈ l, j ∈ [48, 49, 65, 66, 67, 68, 97, 98, 99, 100]) : subs (pairsOf B) l = l.flatMap fun j => exOf B (lw j) := by
  have hE := ex_letter BO
  have b4 : Below4 4 l := fun j hj => ⟨h j hj, .inr ((by decide +kernel : ∀ j ∈ [48, 49, 65, 66, 67, 68, 97, 98, 99, 100], lw j < 101) j (h j hj))⟩
  have b3 := sub_below2 (k := 100) (k2 := 68) (b := B 100) (n := 3) (by decide) rfl rfl b4 (body_below BO (n := 3) (by decide))
  have b2 := sub_below2 (k := 99) (k2 := 67) (b := B 99) (n := 2) (by decide) rfl rfl b3 (body_below BO (n := 2) (by decide))
  have b1 := sub_below2 (k := 98) (k2 := 66) (b := B 98) (n := 1) (by decide) rfl rfl b2 (body_below BO (n := 1) (by decide))
  have b0 := sub_below2 (k := 97) (k2 := 65) (b := B 97) (n := 0) (by decide) rfl rfl b1 (body_below BO (n := 0) (by decide))
  have hs : subs (pairsOf B) l = sub1 65 (B 97) (sub1 97 (B 97) (sub1 66 (B 98) (sub1 98 (B 98) (sub1 67 (B 99) (sub1 99 (B 99) (sub1 68 (B 100) (sub1 100 (B 100) l))))))) := by
    simp only [subs, pairsOf, List.foldl_cons, List.foldl_nil]
  rw [hs]
  have hd : ∀ j ∈ sub1 65 (B 97) (sub1 97 (B 97) (sub1 66 (B 98) (sub1 98 (B 98) (sub1 67 (B 99) (sub1 99 (B 99) (sub1 68 (B 100) (sub1 100 (B 100) l))))))), j ∈ [48, 49] := fun j hj => by
    obtain ⟨h1, h2⟩ := b0 j hj
    rcases h2 with h2 | h2
    · exact h2
    · revert h2
      exact (by decide +kernel : ∀ j ∈ [48, 49, 65, 66, 67, 68, 97, 98, 99, 100], lw j < 97 + 0 → j ∈ [48, 49]) j h1
  refine (digits_flat (B := B) hd).symm.trans ?_
  rw [sub1_flat (hE 97 (by decide)).symm, sub1_flat (hE 97 (by decide)).symm, sub1_flat (hE 98 (by decide)).symm, sub1_flat (hE 98 (by decide)).symm,
    sub1_flat (hE 99 (by decide)).symm, sub1_flat (hE 99 (by decide)).symm, sub1_flat (hE 100 (by decide)).symm, sub1_flat (hE 100 (by decide)).symm]
end

end
section
abbrev rowD (e : Nat × List Nat) : PyData := .tuple [.str (tx [e.1]), .str (tx e.2)]
theorem reads_rows {h : Heap} {S : List (Addr × Obj)} (hS : ∀ p ∈ S, h.get? p.1 = some p.2) : ∀ {vs : List Value} {tb : Tbl}, Paired (PairIn S) vs tb → ∃ as, ReadsAll h vs (tb.map rowD) as
  | _, _, .nil => ⟨_, .nil⟩
  | _, _, .cons ⟨a, t1, t2, n, e, hm⟩ r => by
    obtain ⟨as, ih⟩ := reads_rows hS r
    subst e
    exact ⟨_, .cons (reads_tuple_at (hS _ hm) rfl rfl (ReadsAll.cons (Reads.str _ _) (ReadsAll.cons (Reads.str _ _) .nil))) ih⟩
theorem rows_vals {S : List (Addr × Obj)} {kvs : List (Str × Value)} {tb : Tbl} (h : Paired (KeyRow S) kvs tb) : Paired (PairIn S) (kvs.map (·.2)) tb := by
  induction h with
  | nil => exact .nil
  | cons hr _ ih => exact .cons hr.2 ih
theorem small_body : ∀ l ∈ bodies, ∀ j ∈ l, j < 1000 := by decide +kernel
theorem small_name : ∀ k ∈ nms, k < 1000 := by decide +kernel
theorem rows_lay {tb : Tbl} (h : TblOk tb) : PyData.canLayAll0 (tb.map rowD) = true ∧ PyData.depthAll (tb.map rowD) ≤ 1 := by
  induction tb with
  | nil => exact ⟨rfl, Nat.zero_le _⟩
  | cons a r ih =>
    obtain ⟨i1, i2⟩ := ih fun e he => h e (.tail _ he)
    obtain ⟨h1, h2⟩ := h a (.head _)
    have s1 : PyData.strOk (tx [a.1]) = true := strOk_tx fun j hj => by rw [List.mem_singleton.mp hj]; exact small_name _ h1
    have s2 : PyData.strOk (tx a.2) = true := strOk_tx fun j hj => small_body _ h2 j hj
    refine ⟨?_, ?_⟩
    · rw [List.map_cons, PyData.canLayAll0, i1]
      simp [PyData.canLay0, PyData.canLayAll0, s1, s2]
    · rw [List.map_cons, PyData.depthAll]
      have : (rowD a).depth = 1 := by simp [PyData.depth, PyData.depthAll]
      omega
theorem list_shaped {xs : List PyData} {n : Nat} (h1 : PyData.canLayAll0 xs = true) (h2 : PyData.depthAll xs ≤ n) (hn : n < 60) : SeqAt.shaped (.list xs) = true ∧ (PyData.list xs).canLay0 = true := by
  refine ⟨?_, by rw [PyData.canLay0]; exact h1⟩
  unfold SeqAt.shaped
  rw [PyData.canLay0, PyData.depth, h1]
  simp
  omega
theorem reads_strs {h : Heap} : ∀ {ss : List Value} {sd : List (List Nat)}, Paired IsTx ss sd → ReadsAll h ss (sd.map fun l => .str (tx l)) []
  | _, _, .nil => .nil
  | _, _, .cons ⟨t, e⟩ r => by subst e; exact .cons (as := []) (Reads.str _ _) (reads_strs r)
theorem strs_lay {sd : List (List Nat)} (h : ∀ l ∈ sd, l ∈ bodies) : PyData.canLayAll0 (sd.map fun l => .str (tx l)) = true ∧ PyData.depthAll (sd.map fun l => PyData.str (tx l)) ≤ 1 := by
  induction sd with
  | nil => exact ⟨rfl, Nat.zero_le _⟩
  | cons a r ih =>
    obtain ⟨i1, i2⟩ := ih fun e he => h e (.tail _ he)
    have s2 : PyData.strOk (tx a) = true := strOk_tx fun j hj => small_body _ (h a (.head _)) j hj
    refine ⟨?_, ?_⟩
    · rw [List.map_cons, PyData.canLayAll0, i1]
      simp [PyData.canLay0, s2]
    · rw [List.map_cons, PyData.depthAll]
      have : (PyData.str (tx a)).depth = 0 := by simp [PyData.depth]
      omega
theorem step_said {st : Tbl × List (List Nat)} {e : Deed} (hT : TblOk st.1) (h : ∀ l ∈ st.2, l ∈ bodies) (he : DeedOk e) : ∀ l ∈ (doneStep st e).2, l ∈ bodies := by
  unfold doneStep
  split
  · exact h
  · exact h
  · intro l hl
    rcases List.mem_append.mp hl with hl | hl
    · exact h l hl
    · rw [List.mem_singleton.mp hl]
      unfold setdT
      cases hg : getT st.1 (e.name - 32) with
      | none => exact he.2.2
      | some b =>
        obtain ⟨r, hr, _, rfl⟩ := getT_mem hg
        exact (hT r hr).2
  · exact h
theorem fold_said : ∀ {ds : List Deed} (st : Tbl × List (List Nat)), TblOk st.1 → (∀ l ∈ st.2, l ∈ bodies) → (∀ e ∈ ds, DeedOk e) → ∀ l ∈ (ds.foldl doneStep st).2, l ∈ bodies
  | [], _, _, h, _ => h
  | e :: r, _, hT, h, hd => fold_said (ds := r) _ (step_ok hT (hd e (.head _))).1 (step_said hT h (hd e (.head _))) fun x hx => hd x (.tail _ hx)
theorem signs_rows {G : Nat → Value → Prop} : ∀ {vs : List Value} {l : List Nat} {kvs : List (Str × Value)}, vs.length = l.length → (∀ (j : Nat) v, vs[j]? = some v → ∃ k u, l[j]? = some k ∧ v = Value.str (sg k) u) →
    Paired (fun v (kv : Str × Value) => (∃ t, v = Value.str kv.1 t) ∧ ∃ k t, v = Value.str (sg k) t ∧ G k kv.2) vs kvs → Paired (fun k (kv : Str × Value) => kv.1 = sg k ∧ G k kv.2) l kvs
  | [], l, _, hl, _, h => by
    cases h
    cases l with
    | nil => exact .nil
    | cons _ _ => cases hl
  | v :: vs, l, _, hl, hv, h => by
    cases l with
    | nil => cases hl
    | cons k l =>
      cases h with
      | cons ha hb =>
        obtain ⟨k', u, e, rfl⟩ := hv 0 v rfl
        cases e
        obtain ⟨⟨t, e1⟩, k2, t2, e2, hg⟩ := ha
        injection e1 with e1 _
        injection e2 with e2 _
        have := sg_inj.mp e2
        subst this
        exact .cons ⟨e1.symm, hg⟩ (signs_rows (Nat.succ.inj hl) (fun j v hj => hv (j + 1) v hj) hb)
theorem signs_keys : ∀ {vs : List Value} {l : List Nat} {ks : List Str}, vs.length = l.length → (∀ (j : Nat) v, vs[j]? = some v → ∃ k u, l[j]? = some k ∧ v = Value.str (sg k) u) → Paired (fun v k => ∃ t, v = Value.str k t) vs ks → ks = l.map sg
  | [], l, _, hl, _, h => by
    cases h
    cases l with
    | nil => rfl
    | cons _ _ => cases hl
  | v :: vs, l, _, hl, hv, h => by
    cases l with
    | nil => cases hl
    | cons k l =>
      cases h with
      | cons ha hb =>
        obtain ⟨k', u, e, rfl⟩ := hv 0 v rfl
        cases e
        obtain ⟨t, e1⟩ := ha
        injection e1 with e1 _
        rw [List.map_cons, signs_keys (Nat.succ.inj hl) (fun j v hj => hv (j + 1) v hj) hb, e1]
section
variable {prog : Program} {w : World} {A : Around} {s : Shared} {env : Env} {h₀ : Heap} {L : Addr} {m₀ : Str → Option Value} {S₀ : List (Addr × Obj)}
/-- `y = {x: vx for x in text}` -/
theorem dcomp_strA {kx vx iter : Expr} {x y : Str} {px py : Pos} {scope : Scope} {cl : List (Str × Addr)} {pos spos : Pos} {Q : Flow → Shared → Prop} (F : Fr h₀ L s.heap m₀) (N : News h₀ L s.heap S₀) (yy : Str) (G : Nat → Value → Prop) (hL : env.locals = L)
    (hsw : swapsWith (.DictComp kx vx [⟨.Name x px, iter, [], 0⟩] scope pos) (some (.Name y py)) spos.line env = pure true)
    (hy : env.kindOf y = some .local) (hp : (env.scope.kind == .class || (env.scope.kind == .module && env.locals != env.globals)) = false)
    (hh : A.handled = none) (hclos : closureFor scope env = pure cl) (hcell : ∀ y ∈ scope.names, y.2 ≠ .cell) (hkind : scope.kind = .function)
    (hnames : ∀ y ∈ scope.names, y.2 = .local → scope.names.lookup y.1 = some .local) (hx : scope.names.lookup x = some .local) (hs : ∀ x, foldedSetIterable iter env x = pure x) (ha : yy.cps.all (· < 128) = true) (hsz : yy.cps.size < 1000) (hnd : (yy.cps.toList.map sg).Nodup)
    (h : wpAny (model prog w) A (eval iter env) (fun xv s₁ => (∃ t, xv = .str yy t) ∧ ∃ h tk, s₁ = { s with heap := h, toks := tk } ∧ Kp s.heap h) (fun _ _ => False) s)
    (hkey : ∀ C k u s₃ m₃, k ∈ yy.cps.toList → Fr h₀ C s₃.heap m₃ → News h₀ C s₃.heap S₀ → Kp s.heap s₃.heap → m₃ x = some (.str (sg k) u) →
      wpAny (model prog w) A (eval kx (compEnvC scope cl C env)) (fun y s₄ => (∃ t, y = .str (sg k) t) ∧ Keeps s₃ s₄) (fun _ _ => False) s₃)
    (hval : ∀ C k u s₃ m₃, k ∈ yy.cps.toList → Fr h₀ C s₃.heap m₃ → News h₀ C s₃.heap S₀ → Kp s.heap s₃.heap → m₃ x = some (.str (sg k) u) →
      wpAny (model prog w) A (eval vx (compEnvC scope cl C env)) (fun y s₄ => G k y ∧ Keeps s₃ s₄) (fun _ _ => False) s₃)
    (done : ∀ D oD kvs h' tk, oD.IsDictOf (strKind prog w) kvs → Paired (fun k (kv : Str × Value) => kv.1 = sg k ∧ G k kv.2) yy.cps.toList kvs → Fr h₀ L h' (fun z => if z = y then some (.ref D) else m₀ z) → News h₀ L h' ((D, oD) :: S₀) → h₀.objs.size ≤ D → Q .next { s with heap := h', toks := tk }) :
    wpAny (model prog w) A (exec (.Assign [.Name y py] (.DictComp kx vx [⟨.Name x px, iter, [], 0⟩] scope pos) spos) env) Q (fun _ _ => False) s := by
  refine dcomp_coreA (n := yy.cps.size) (P := SignAt yy) (fun _ => true) (fun v k => ∃ t, v = .str k t) (fun v y => ∃ k t, v = .str (sg k) t ∧ G k y) F N hL hsw hy hp hclos hcell hkind hnames hx hs (by rw [sizeLine_eq]; omega) (wpAny_mono h (fun xv s₁ h₁ => ?_) fun _ _ e => e)
    (fun C i v s₃ m₃ _ _ _ _ _ => ?_) (fun C i v s₃ m₃ hP _ F' N' k' hm => ?_) (fun C i v s₃ m₃ hP _ F' N' k' hm => ?_) fun D oD kvs vs' h' tk hlen hP hF hd' a b _ e => ?_
  · obtain ⟨⟨t, rfl⟩, h₁, tk₁, rfl, hk⟩ := h₁
    refine wpAny_pyIter_ascii ha ⟨_, _, _, _, _, rfl, rfl, fun b o e => Heap.get?_push_of_some _ (hk b o e), size_fresh hk, Walks.strAscii hh _ yy t, ⟨_, Heap.get?_push_size _ rfl, rfl, rfl⟩, ?_⟩
    intro b hb
    show b < (h₁.push _).objs.size
    rw [Heap.size_push, List.mem_singleton.mp hb]
    exact Nat.lt_succ_self _
  · rw [List.forIn_nil]
    exact wpAny_pure ⟨rfl, _, _, rfl, fun _ _ e => e⟩
  · obtain ⟨k, u, hk, rfl⟩ := hP
    exact wpAny_mono (hkey C k u s₃ m₃ (by simpa using Array.mem_of_getElem? hk) F' N' k' hm) (fun r s₄ ⟨⟨t, e⟩, b⟩ => ⟨⟨sg k, t, e, u, rfl⟩, b⟩) fun _ _ e => e
  · obtain ⟨k, u, hk, rfl⟩ := hP
    exact wpAny_mono (hval C k u s₃ m₃ (by simpa using Array.mem_of_getElem? hk) F' N' k' hm) (fun r s₄ ⟨g, b⟩ => ⟨⟨k, u, rfl, g⟩, b⟩) fun _ _ e => e
  · have hl : vs'.length = yy.cps.toList.length := by rw [hlen]; simp
    have hv : ∀ (j : Nat) v, vs'[j]? = some v → ∃ k u, yy.cps.toList[j]? = some k ∧ v = Value.str (sg k) u := fun j v ej => by
      obtain ⟨k, u, hk, rfl⟩ := hP j v ej
      exact ⟨k, u, by simpa using hk, rfl⟩
    rw [List.filter_eq_self.mpr fun _ _ => rfl] at hF
    have hK := storedAll_keys (fun _ _ h => h) hF fun ks hks => by rw [signs_keys hl hv hks]; exact hnd
    exact done D oD kvs h' tk hd' (signs_rows hl hv hK) a b e
end
theorem four_rows {b : Nat → List Nat} {kB : List (Str × Value)} (h : Paired (fun k (kv : Str × Value) => kv.1 = sg k ∧ ∃ u, kv.2 = Value.str (tx (b k)) u) [97, 98, 99, 100] kB) :
    ∃ D, PyProof.V.FlatPairs PyData.str kB D ∧ (∀ k ∈ [97, 98, 99, 100], lookup (.str (sg k)) D = some (.str (tx (b k)))) ∧ ∀ k ∈ [97, 98, 99, 100], ∃ u, valueAt kB (sg k) = some (.str (tx (b k)) u) := by
  obtain ⟨u1, u2, u3, u4, rfl⟩ : ∃ u1 u2 u3 u4, kB = [(sg 97, Value.str (tx (b 97)) u1), (sg 98, .str (tx (b 98)) u2), (sg 99, .str (tx (b 99)) u3), (sg 100, .str (tx (b 100)) u4)] := by
    cases h with
    | @cons _ kv1 _ _ h1 h =>
    cases h with
    | @cons _ kv2 _ _ h2 h =>
    cases h with
    | @cons _ kv3 _ _ h3 h =>
    cases h with
    | @cons _ kv4 _ _ h4 h =>
    cases h
    obtain ⟨a1, u1, b1⟩ := h1
    obtain ⟨a2, u2, b2⟩ := h2
    obtain ⟨a3, u3, b3⟩ := h3
    obtain ⟨a4, u4, b4⟩ := h4
    exact ⟨u1, u2, u3, u4, by rw [← a1, ← b1, ← a2, ← b2, ← a3, ← b3, ← a4, ← b4]⟩
  refine ⟨[(.str (sg 97), .str (tx (b 97))), (.str (sg 98), .str (tx (b 98))), (.str (sg 99), .str (tx (b 99))), (.str (sg 100), .str (tx (b 100)))], .cons (.str _ _) (.cons (.str _ _) (.cons (.str _ _) (.cons (.str _ _) .nil))), ?_, ?_⟩
  · intro k hk
    simp only [List.mem_cons, List.not_mem_nil, or_false] at hk
    rcases hk with rfl | rfl | rfl | rfl <;> with_unfolding_all rfl
  · intro k hk
    simp only [List.mem_cons, List.not_mem_nil, or_false] at hk
    rcases hk with rfl | rfl | rfl | rfl
    · exact ⟨u1, by with_unfolding_all rfl⟩
    · exact ⟨u2, by with_unfolding_all rfl⟩
    · exact ⟨u3, by with_unfolding_all rfl⟩
    · exact ⟨u4, by with_unfolding_all rfl⟩
theorem PairVals.append {v1 v2 : List Value} {p1 p2 : List (Nat × List Nat)} (h1 : PairVals v1 p1) (h2 : PairVals v2 p2) : PairVals (v1 ++ v2) (p1 ++ p2) := by
  induction h1 with
  | nil => exact h2
  | cons k b t1 t2 _ ih => exact .cons k b t1 t2 ih
theorem dcba_at {i k : Nat} (h : (Str.ofString "dcba").cps[i]? = some k) : k ∈ [97, 98, 99, 100] ∧ ∀ B : Nat → List Nat, (pairsOf B).take (2 * (i + 1)) = (pairsOf B).take (2 * i) ++ [(k, B k), (k - 32, B k)] := by
  rw [show (Str.ofString "dcba").cps = #[100, 99, 98, 97] by decide +kernel] at h
  have hi : i < 4 := by
    rcases Nat.lt_or_ge i 4 with h1 | h1
    · exact h1
    · rw [Array.getElem?_eq_none h1] at h; cases h
  have : i = 0 ∨ i = 1 ∨ i = 2 ∨ i = 3 := by omega
  rcases this with rfl | rfl | rfl | rfl
  · have : k = 100 := by simpa using h.symm
    subst this; exact ⟨by decide, fun _ => rfl⟩
  · have : k = 99 := by simpa using h.symm
    subst this; exact ⟨by decide, fun _ => rfl⟩
  · have : k = 98 := by simpa using h.symm
    subst this; exact ⟨by decide, fun _ => rfl⟩
  · have : k = 97 := by simpa using h.symm
    subst this; exact ⟨by decide, fun _ => rfl⟩
theorem pairs_news {h₀ h : Heap} {L lX : Addr} {vq : List Value} {k k2 : Nat} {b : List Nat} {u1 u2 t u3 : Tok} {z It q : Addr × Obj} {rest : List (Addr × Obj)} {ps : List (Nat × List Nat)}
    (N : News h₀ L h ((lX, listOf (vq.toArray.toList ++ #[Value.str (sg k) u1, .str (tx b) u2, .str (sg k2) t, .str (tx b) u3].toList).toArray 0) :: z :: It :: q :: rest)) (c : PairVals vq ps) :
    ∃ vn, PairVals vn (ps ++ [(k, b), (k2, b)]) ∧ News h₀ L h (It :: (lX, listOf vn.toArray 0) :: rest) := by
  refine ⟨vq ++ [Value.str (sg k) u1, .str (tx b) u2, .str (sg k2) t, .str (tx b) u3], c.append (.cons _ _ _ _ (.cons _ _ _ _ .nil)), fun p hp => ?_⟩
  rcases List.mem_cons.mp hp with rfl | hp
  · exact N _ (.tail _ (.tail _ (.head _)))
  rcases List.mem_cons.mp hp with rfl | hp
  · exact N _ (.head _)
  · exact N _ (.tail _ (.tail _ (.tail _ (.tail _ hp))))

end
section
local macro_rules | `(tactic| walk_at "idle line") => `(tactic| fail)
local macro_rules | `(tactic| walk_at "idle line") => `(tactic| fail)
local macro_rules | `(tactic| walk_at "idle line") => `(tactic| fail)
local macro_rules | `(tactic| walk_at "idle line") => `(tactic| fail)
local macro_rules | `(tactic| walk_at "idle line") => `(tactic| fail)
local macro_rules | `(tactic| walk_at "idle line") => `(tactic| fail)
local macro_rules | `(tactic| walk_at "idle line") => `(tactic| fail)
local macro_rules | `(tactic| walk_at "idle line") => `(tactic| fail)
local macro_rules | `(tactic| walk_at "idle line") => `(tactic| fail)
local macro_rules | `(tactic| walk_at "idle line") => `(tactic| fail)
local macro_rules | `(tactic| walk_at "idle line") => `(tactic| fail)
local macro_rules | `(tactic| walk_at "idle line") => `(tactic| fail)
local macro_rules | `(tactic| walk_at "idle line") => `(tactic| fail)
local macro_rules | `(tactic| walk_at "idle line") => `(tactic| fail)
local macro_rules | `(tactic| walk_at "idle line") => `(tactic| fail)
local macro_rules | `(tactic| walk_at "idle line") => `(tactic| fail)
local macro_rules | `(tactic| walk_at "idle line") => `(tactic| fail)
local macro_rules | `(tactic| walk_at "idle line") => `(tactic| fail)
local macro_rules | `(tactic| walk_at "idle line") => `(tactic| fail)
local macro_rules | `(tactic| walk_at "idle line") => `(tactic| fail)
local macro_rules | `(tactic| walk_at "idle line") => `(tactic| fail)
local macro_rules | `(tactic| walk_at "idle line") => `(tactic| fail)
local macro_rules | `(tactic| walk_at "idle line") => `(tactic| fail)
local macro_rules | `(tactic| walk_at "idle line") => `(tactic| fail)
local macro_rules | `(tactic| walk_at "idle line") => `(tactic| fail)
local macro_rules | `(tactic| walk_at "idle line") => `(tactic| fail)
local macro_rules | `(tactic| walk_at "idle line") => `(tactic| fail)
local macro_rules | `(tactic| walk_at "idle line") => `(tactic| fail)
local macro_rules | `(tactic| walk_at "idle line") => `(tactic| fail)
local macro_rules | `(tactic| walk_at "idle line") => `(tactic| fail)
local macro_rules | `(tactic| walk_at "idle line") => `(tactic| fail)
local macro_rules | `(tactic| walk_at "idle line") => `(tactic| fail)
theorem news_pick {h₀ h : Heap} {L : Addr} {S S' : List (Addr × Obj)} (N : News h₀ L h S) (hs : ∀ p ∈ S', p ∈ S) : News h₀ L h S' := fun p hp => N p (hs p hp)
local macro_rules | `(tactic| walk_at "getMethod ref") => `(tactic| (k_here; (with_reducible show wpAny _ _ (getMethod (Value.ref _) (Str.ofString "values") _) _ _ _); k_dflt (refine kdl_method (knd := PySem.strKind _ _) PySem.F.slot_dict_values PySem.F.type_dict_values (by k_asm) (by k_mem) (by with_reducible assumption) ?_)))
local macro_rules | `(tactic| walk_at "call type:list") => `(tactic| (k_here; (with_reducible show wpAny _ _ (call (Value.type "list") [Value.ref _]) _ _ _); k_dflt (refine kdl_list_valuesP (knd := PySem.strKind _ _) (by rfl) (by k_asm) (by k_asm) (by k_mem) (by k_mem) (by with_reducible assumption) (by omega) ?_); intro D' c' h' tk' F' N' l1))
local macro_rules | `(tactic| walk_at "subscriptTail") => `(tactic| (k_here; (with_reducible show wpAny _ _ (subscriptTail _ _ (Value.ref _) (Value.str _ _)) _ _ _); k_dflt (refine kda_item (knd := PySem.strKind _ _) (by k_asm) (by k_mem) (by with_reducible assumption) (strKind_is _ _ _ _) (by with_reducible assumption) ?_)))
local macro_rules | `(tactic| walk_at "StarOf ref") => `(tactic| (k_here; k_dflt (refine' star_seq ?k1 ?k2 ?m ?c ?d ?T ?e ?z ?_; (case k1 => k_asm); (case k2 => k_asm); (case m => k_mem); (case c => exact rfl); (case d => exact rfl); (case T => exact .inl rfl); (case e => exact rfl); (case z => (rw [sizeLine_eq, List.size_toArray]; omega)); k_whole); intro h' F' N'; (try dsimp only [List.nil_append, List.cons_append])))
local macro_rules | `(tactic| k_qdec) => `(tactic| decide +kernel)
/-- how the law ends -/
def LawEnd (s₁ : Shared) (fl : Flow) (s' : Shared) : Prop := fl = .ret (.bool true) ∧ ∃ h' tk' L' m', s' = { s₁ with heap := h', toks := tk' } ∧ Fr s₁.heap L' h' m'
theorem law_holds : PySem.Challenge.rw_pm0053_01.Holds := Mine.hd (by
  k_go0
  rename_i w s₀ s₁ mg mb G Y fa o pm doc ho hg KX X V GL T B TE TW m1 m2 M m3 m4 hcd ns hs hlay0 hL hr hl2 m5 m6 l vs m7 hL2 ra w1 r0 hI hr2 hlen htriv K0 hD h₁ tk₁ F oC dC N X0
  refine wpAny_mono (Q := LawEnd s₁) (E := fun _ _ => False) ?_ ?_ (fun _ _ h => h.elim)
  · clear X0 hD K0 hr2 r0 w1 ra hl2 hr hL hlay0 hs hcd M TW TE B GL V X Y G ho hg htriv
    have hns : vs.length < 100 := by
      have := hI.length
      simp at hlen
      omega
    have eL : looseW Mine.hd.view_39 [Str.ofString "bisect_right", Str.ofString "_name_disallowed_re", Str.ofString "_value_disallowed_re"] = LO := by kernel_rfl
    rw [eL] at T
    clear hlen eL
    obtain ⟨xC, dC⟩ : ∃ x, oC.data = .cell x := ⟨_, dC⟩
    obtain ⟨m0, hm0, F⟩ : ∃ m0, m0 (Str.ofString "script") = some (.ref l) ∧ Fr s₁.heap s₁.heap.objs.size h₁ m0 := ⟨_, rfl, F⟩
    dsimp only
    generalize s₁.heap.objs.size = L' at F N ⊢
    try k_fold
    walk_at "my_steps"
    rename Fr _ _ _ _ => F₁
    rename News _ _ _ _ => N₁
    rw [show Str.ofString "dA1" = tx [100, 65, 49] by decide +kernel] at F₁
    k_dflt (refine' deeds_ok w (KX.keeps F₁.keep) (T.keeps F₁.keep) ?aa ?ab ⟨let ⟨o, ho, r⟩ := hL2; ⟨o, F₁.keep _ _ ho, r⟩⟩ hI hns ?_)
    (case aa => decide +kernel); (case ab => decide +kernel)
    intro S₁ lD vd nd h₂ tk₂ f₁ d1 d2 k₁
    have u1 := fresh_ne f₁ (N₁.get (.head _))
    replace N₁ := news_addS F₁ N₁ k₁ f₁
    rw [List.singleton_append] at N₁
    replace F₁ := F₁.keeps k₁
    obtain ⟨hok, hrow1⟩ : (∀ e ∈ deedsOf ns, DeedOk e) ∧ ∀ e ∈ deedsOf ns, RowOk e.name e.body ∧ RowOk (e.name - 32) e.body := by
      unfold deedsOf
      constructor
      · intro e he
        obtain ⟨x, _, rfl⟩ := List.mem_map.mp he
        exact (deed_fine x).1
      · intro e he
        obtain ⟨x, _, rfl⟩ := List.mem_map.mp he
        exact (deed_fine x).2
    have hdl : (deedsOf ns).length < 50 := by
      unfold deedsOf
      rw [List.length_map, List.length_append, List.length_take]
      simp
      omega
    generalize deedsOf ns = ds at d2 hok hrow1 hdl
    walk_at "my_steps"
    rename Fr _ _ _ _ => F₂
    rename News _ _ _ _ => N₂
    k_dflt (refine' done_ok w (KX.keeps F₂.keep) (T.keeps F₂.keep) ?ac ?ad (N₂.get (List.Mem.tail _ d1)) (paired_mono d2 fun _ _ ⟨a, t1, t2, t3, n, e, hm⟩ => ⟨a, t1, t2, t3, n, e, N₂.get (.tail _ hm)⟩) hok hdl ?_)
    (case ac => decide +kernel); (case ad => decide +kernel)
    intro S₂ r₂ hd₂ dd lH lS hs₂ tkH vt ss nR n1 n2 h₃ tk₃ f₂ e1 e2 e3 e4 e5 e6 e7 k₂
    have u2 := fresh_ne f₂ (N₂.get (.head _))
    replace N₂ := news_pick (S' := (L' + 1, oC) :: (hd₂, instObj 187 dd) :: (dd, hdDict hs₂ tkH lH) :: (lH, listOf vt.toArray n1) :: (lS, listOf ss.toArray n2) :: (S₁ ++ S₂)) (news_addS F₂ N₂ k₂ f₂) (by
      intro p hp
      rcases List.mem_cons.mp hp with rfl | hp
      · exact .head _
      rcases List.mem_cons.mp hp with rfl | hp
      · exact .tail _ (List.mem_append_right _ e2)
      rcases List.mem_cons.mp hp with rfl | hp
      · exact .tail _ (List.mem_append_right _ e3)
      rcases List.mem_cons.mp hp with rfl | hp
      · exact .tail _ (List.mem_append_right _ e4)
      rcases List.mem_cons.mp hp with rfl | hp
      · exact .tail _ (List.mem_append_right _ e6)
      · exact .tail _ hp)
    replace F₂ := F₂.keeps k₂
    have hT : h₃.IsList r₂ #[.ref hd₂, .ref lS] := ⟨_, (f₂ _ e1).2, rfl, _, rfl⟩
    have v1 : @Ne Nat hd₂ (L' + 1) := u2 _ e2
    have v2 : @Ne Nat dd (L' + 1) := u2 _ e3
    have v3 : @Ne Nat lH (L' + 1) := u2 _ e4
    have v4 : @Ne Nat lS (L' + 1) := u2 _ e6
    have v5 : ∀ p ∈ S₁ ++ S₂, p.1 ≠ L' + 1 := fun p hp => (List.mem_append.mp hp).elim (u1 p) (u2 p)
    replace d1 := List.mem_append_left S₂ d1
    replace e5 : Paired (PairIn (S₁ ++ S₂)) vt (foldDone ds).1 := paired_mono e5 fun _ _ ⟨a, t1, t2, n, e, hm⟩ => ⟨a, t1, t2, n, e, List.mem_append_right _ hm⟩
    replace d2 : Paired (DeedIn (S₁ ++ S₂)) vd ds := paired_mono d2 fun _ _ ⟨a, t1, t2, t3, n, e, hm⟩ => ⟨a, t1, t2, t3, n, e, List.mem_append_left _ hm⟩
    clear u1 u2 f₁ f₂ e1 e2 e3 e4 e6 k₁ k₂
    generalize S₁ ++ S₂ = S at *
    walk_at "my_steps"
    rename Fr _ _ _ _ => F₃
    rename News _ _ _ _ => N₃
    rename_i oC' dC' hC'
    k_dflt (refine' due_ok w (KX.keeps F₃.keep) (T.keeps F₃.keep) ?ae ?af (N₃.get (List.Mem.tail _ (.tail _ (.tail _ (.tail _ (.tail _ d1)))))) (paired_mono d2 fun _ _ ⟨a, t1, t2, t3, n, e, hm⟩ => ⟨a, t1, t2, t3, n, e, N₃.get (.tail _ (.tail _ (.tail _ (.tail _ (.tail _ hm)))))⟩) hok hdl ?_)
    (case ae => decide +kernel); (case af => decide +kernel)
    intro S₃ r₃ dR lA oD kvs sa nR3 n3 h₄ tk₄ f₃ g1 g2 g3 g4 g5 g6 g7 k₃
    replace N₃ := news_pick (S' := (L' + 1, oC') :: (hd₂, instObj 187 dd) :: (dd, hdDict hs₂ tkH lH) :: (lH, listOf vt.toArray n1) :: (lS, listOf ss.toArray n2) :: (dR, oD) :: (lA, listOf sa.toArray n3) :: (S ++ S₃)) (news_addS F₃ N₃ k₃ f₃) (by
      intro p hp
      simp only [List.mem_cons] at hp
      rcases hp with rfl | rfl | rfl | rfl | rfl | rfl | rfl | hp
      · exact List.mem_append_left _ (by k_mem)
      · exact List.mem_append_left _ (by k_mem)
      · exact List.mem_append_left _ (by k_mem)
      · exact List.mem_append_left _ (by k_mem)
      · exact List.mem_append_left _ (by k_mem)
      · exact List.mem_append_right _ g2
      · exact List.mem_append_right _ g6
      · rcases List.mem_append.mp hp with hp | hp
        · exact List.mem_append_left _ (.tail _ (.tail _ (.tail _ (.tail _ (.tail _ hp)))))
        · exact List.mem_append_right _ hp)
    replace F₃ := F₃.keeps k₃
    have hT3 : h₄.IsList r₃ #[.ref dR, .ref lA] := ⟨_, (f₃ _ g1).2, rfl, _, rfl⟩
    obtain ⟨hTO, hTl⟩ := fold_ok (ds := ds) ([], []) (fun _ h => (nomatch h)) hok
    have hRows := fold_rows (ds := ds) ([], []) (fun _ h => (nomatch h)) hrow1
    have hSd := fold_said (ds := ds) ([], []) (fun _ h => (nomatch h)) (fun _ h => (nomatch h)) hok
    have hfd : ds.foldl doneStep ([], []) = foldDone ds := rfl
    rw [hfd] at hTO hTl hRows hSd
    replace e5 : Paired (PairIn (S ++ S₃)) vt (foldDone ds).1 := paired_mono e5 fun _ _ ⟨a, t1, t2, n, e, hm⟩ => ⟨a, t1, t2, n, e, List.mem_append_left _ hm⟩
    replace g5 : Paired (KeyRow (S ++ S₃)) kvs (foldDone ds).1 := paired_mono g5 fun _ _ ⟨e', a, t1, t2, n, e, hm⟩ => ⟨e', a, t1, t2, n, e, List.mem_append_right _ hm⟩
    have htl : (foldDone ds).1.length < 50 := by simp only [List.length_nil] at hTl; omega
    clear hfd hTl g1 g2 g6 k₃ f₃ d1 d2 v1 v2 v3 v4 v5 hok hrow1 hT hdl
    generalize foldDone ds = fd at *
    obtain ⟨tb, sd⟩ := fd
    dsimp only at e5 e7 g5 g7 hTO hRows htl hSd
    generalize S ++ S₃ = SS at *
    have hvl : vt.length = tb.length := e5.length
    have hkl : kvs.length = tb.length := g5.length
    have hkz : kvs.length ≤ 16777216 := by omega
    walk_at "my_steps"
    rename Fr _ _ _ _ => F₄
    rename News _ _ _ _ => N₄
    k_dflt (refine' items_ok w (KX.keeps F₄.keep) (T.keeps F₄.keep) ?ag ?ah ⟨N₄.get (List.Mem.tail _ (.head _)), N₄.get (.tail _ (.tail _ (.head _))), N₄.get (.tail _ (.tail _ (.tail _ (.head _))))⟩ (by omega) ?_)
    (case ag => decide +kernel); (case ah => decide +kernel)
    intro lI nI h₅ tk₅ hI1 hI2 k₅
    replace N₄ := news_add F₄ N₄ k₅ hI1 hI2
    replace F₄ := F₄.keeps k₅
    walk_at "my_steps"
    rename Fr _ _ _ _ => F₅
    rename News _ _ _ _ => N₅
    rename_i lV cV hV tkV l1V
    clear l1V
    obtain ⟨as, ra⟩ := reads_rows (fun p hp => N₅.get (List.Mem.tail _ (.tail _ (.tail _ (.tail _ (.tail _ (.tail _ (.tail _ (.tail _ (.tail _ (.tail _ hp))))))))))) e5
    obtain ⟨bs, rb⟩ := reads_rows (fun p hp => N₅.get (List.Mem.tail _ (.tail _ (.tail _ (.tail _ (.tail _ (.tail _ (.tail _ (.tail _ (.tail _ (.tail _ hp))))))))))) (rows_vals g5)
    obtain ⟨q1, q2⟩ := rows_lay hTO
    obtain ⟨q3, q4⟩ := list_shaped q1 q2 (by decide)
    refine eqv_same (reads_list_at (N₅.get (List.Mem.tail _ (.tail _ (.head _)))) rfl rfl ra) (reads_list_at (N₅.get (.head _)) rfl rfl rb) q3 (by show 4 + 3 + 64 < cLine; decide +kernel) q4 ?_
    clear ra rb
    walk_at "my_steps"
    obtain ⟨q5, q6⟩ := strs_lay hSd
    obtain ⟨q7, q8⟩ := list_shaped q5 q6 (by decide)
    refine eqv_same (reads_list_at (N₅.get (List.Mem.tail _ (.tail _ (.tail _ (.tail _ (.tail _ (.tail _ (.tail _ (.head _))))))))) rfl rfl (reads_strs e7)) (reads_list_at (N₅.get (List.Mem.tail _ (.tail _ (.tail _ (.tail _ (.tail _ (.tail _ (.tail _ (.tail _ (.tail _ (.head _))))))))))) rfl rfl (reads_strs g7)) q7 (by show 4 + 3 + 64 < cLine; decide +kernel) q8 ?_
    clear q1 q2 q3 q4 q5 q6 q7 q8 e7 g7 hSd
    walk_at "my_steps"
    rename Fr _ _ _ _ => F₆
    rename News _ _ _ _ => N₆
    replace N₆ := news_pick (S' := (L' + 1, oC') :: (hd₂, instObj 187 dd) :: (dd, hdDict hs₂ tkH lH) :: (lH, listOf vt.toArray n1) :: (dR, oD) :: SS) N₆ (by
      intro p hp
      simp only [List.mem_cons] at hp
      rcases hp with rfl | rfl | rfl | rfl | rfl | hp
      · k_mem
      · k_mem
      · k_mem
      · k_mem
      · k_mem
      · exact List.Mem.tail _ (.tail _ (.tail _ (.tail _ (.tail _ (.tail _ (.tail _ (.tail _ (.tail _ (.tail _ hp))))))))))
    k_dflt (refine' dcomp_strA F₆ N₆ (Str.ofString "abcd") (fun k v => ∃ u, v = .str (tx (bodyT tb k)) u) ?ba ?bb ?bc ?bd ?be ?bf ?bg ?bh ?bi ?bj ?bk ?bl ?bm ?bn ?bo ?bp ?bq ?br)
    (case ba => exact rfl); (case bb => with_unfolding_all rfl); (case bc => rfl); (case bd => rfl); (case be => rfl); (case bf => rfl); (case bg => decide); (case bh => rfl); (case bi => decide); (case bj => rfl); (case bk => exact fun _ => rfl); (case bl => decide +kernel); (case bm => decide +kernel); (case bn => decide +kernel)
    case bo =>
      refine opq fun P hP => ?_
      walk_at "my_steps"
      exact hP _ _ ⟨⟨_, rfl⟩, _, _, rfl, fun _ _ e => e⟩
    case bp =>
      intro C k u s₃ m₃ hk F N kk hm
      refine opq fun P hP => ?_
      walk_at "my_steps"
      exact hP _ _ ⟨⟨_, rfl⟩, _, _, rfl, fun _ _ e => e⟩
    case bq =>
      intro C k u s₃ m₃ hk F N kk hm
      have hk4 : k ∈ [97, 98, 99, 100] := by
        rw [show (Str.ofString "abcd").cps.toList = [97, 98, 99, 100] by decide +kernel] at hk
        exact hk
      have hup := up_all k hk4
      refine opq fun P hP => ?_
      walk_at "my_steps"
      k_dflt (refine' get_ok w (k := k - 32) (KX.keeps F.keep) (T.keeps F.keep) ?ca ?cb (up_nms _ hk4).2 ⟨N.get (List.Mem.tail _ (.head _)), N.get (.tail _ (.tail _ (.head _))), N.get (.tail _ (.tail _ (.tail _ (.head _))))⟩ (paired_mono e5 fun _ _ ⟨a, t1, t2, n, e, hm⟩ => ⟨a, t1, t2, n, e, N.get (.tail _ (.tail _ (.tail _ (.tail _ (.tail _ hm)))))⟩) hTO ?_)
      (case ca => decide +kernel); (case cb => decide +kernel)
      intro v h₈ tk₈ hv k₈
      rw [getT_up hk4] at hv
      refine hP _ _ ⟨?_, _, _, rfl, k₈⟩
      unfold bodyT
      revert hv
      cases getT tb k with
      | none => intro hv; exact ⟨_, hv⟩
      | some b => rintro ⟨t, e⟩; exact ⟨t, e⟩
    case br =>
      intro dB oB kB h₇ tk₇ b1 b2 F₇ N₇ b3
      rw [show (Str.ofString "abcd").cps.toList = [97, 98, 99, 100] by decide +kernel] at b2
      obtain ⟨DB, bF, bL, bV⟩ := four_rows b2
      have hBsys : (dB == sysModules) = false := beq_eq_false_iff_ne.mpr (Nat.ne_of_gt (Nat.lt_of_lt_of_le (modules_low T.nolimit) b3))
      have BO := bodyT_ok hRows
      clear b2 b3 F₆ N₆
      dsimp only
      walk_at "my_steps"
      rename Fr _ _ _ _ => F₈
      rename News _ _ _ _ => N₈
      rename_i lP hP₈ l1P hP₉
      clear l1P
      refine for_strE (τ := Addr × List Value × Nat) F₈ (fun c => (c.1, listOf c.2.1.toArray c.2.2) :: (dB, oB) :: (L' + 1, oC') :: (hd₂, instObj 187 dd) :: (dd, hdDict hs₂ tkH lH) :: (lH, listOf vt.toArray n1) :: (dR, oD) :: SS)
        (fun i m c => m (Str.ofString "bodies") = some (.ref dB) ∧ m (Str.ofString "rules") = some (.ref dR) ∧ (∃ t, m (Str.ofString "word") = some (.str (tx [100, 65, 49]) t)) ∧ m (Str.ofString "pairs") = some (.ref c.1) ∧ PairVals c.2.1 ((pairsOf (bodyT tb)).take (2 * i)))
        (lP, [], 0) (Str.ofString "dcba") rfl rfl rfl rfl (fun _ => rfl) (by decide +kernel) ?_ ?_ ?_ ?_
      · refine opq fun P hP => ?_
        walk_at "my_steps"
        exact hP _ _ ⟨⟨_, rfl⟩, _, _, rfl, F₈, N₈⟩
      · exact ⟨by walk_at "my_lk", by walk_at "my_lk", ⟨_, by walk_at "my_lk"⟩, by walk_at "my_lk", .nil⟩
      · rintro i k u m ⟨lQ, vq, nq⟩ h tk It oI hk ⟨c1, c2, ⟨tW, c3⟩, c4, c5⟩ hne F N
        dsimp only at c4 c5 hne N
        obtain ⟨hk4, hk8⟩ := dcba_at hk
        have hup := up_all k hk4
        obtain ⟨uk, hvk⟩ := bV k hk4
        walk_at "my_steps"
        rename Fr _ _ _ _ => F₁₀
        rename News _ _ _ _ => N₁₀
        have hq8 : vq.length ≤ 16 := by
          rw [c5.len, List.length_take]
          show 2 * min (2 * i) 8 ≤ 16
          omega
        k_dflt (refine' kmk_add_lit F₁₀ N₁₀ ?ea ?eb ?ec ?_ ?ez)
        (case ea => exact ⟨_, N₁₀.get (.tail _ (.tail _ (.head _))), rfl, _, rfl⟩); (case eb => exact ⟨_, N₁₀.get (.head _), rfl, _, rfl⟩); (case ec => exact rfl); (case ez => simp [sizeLine_eq]; omega)
        k_whole
        intro lX h₁₁ F₁₁ N₁₁ hlX
        clear F₁₀ N₁₀
        have iX : @Ne Nat lX It := Nat.ne_of_gt (hlX (It, oI) (.tail _ (.head _)))
        walk_at "my_steps"
        rename Fr _ _ _ _ => F₁₂
        rename News _ _ _ _ => N₁₂
        obtain ⟨vn, hvn, N₁₃⟩ := pairs_news N₁₂ c5
        rw [← hk8] at hvn
        refine ⟨_, (lX, vn, 0), _, _, rfl, ⟨by walk_at "my_lk", by walk_at "my_lk", ⟨_, by walk_at "my_lk"⟩, by walk_at "my_lk", hvn⟩, F₁₂, N₁₃, ?_⟩
        intro p hp
        rcases List.mem_cons.mp hp with rfl | hp
        · exact iX
        · exact hne p (.tail _ hp)
      · rintro m ⟨lQ, vq, nq⟩ h tk ⟨c1, c2, ⟨tW, c3⟩, c4, c5⟩ F N
        dsimp only at c4 c5 N ⊢
        rw [show (Str.ofString "dcba").cps.size = 4 by decide +kernel] at c5
        walk_at "my_steps"
        rename Fr _ _ _ _ => F₉
        rename News _ _ _ _ => N₉
        have hex := fun k => ex_len BO k
        k_dflt (refine' written_ok w (B := bodyT tb) (ex := exOf (bodyT tb)) (KX.keeps F₉.keep) (T.keeps F₉.keep) ?da ?db (N₉.get (List.Mem.tail _ (.tail _ (.tail _ (.tail _ (.tail _ (.tail _ (.head _)))))))) g3 g4 (paired_mono g5 fun _ _ ⟨e', a, t1, t2, n, e, hm⟩ => ⟨e', a, t1, t2, n, e, N₉.get (.tail _ (.tail _ (.tail _ (.tail _ (.tail _ (.tail _ (.tail _ hm)))))))⟩) (fun _ _ => rfl) BO ex_digit.1 ex_digit.2 (ex_letter BO) (fun k _ => Nat.lt_of_le_of_lt (hex k).1 (by decide)) (by decide) (by decide) ?_)
        (case da => decide +kernel); (case db => decide +kernel)
        intro tT h₁₀ tk₁₀ k₁₀
        replace N₉ := N₉.grown k₁₀
        replace F₉ := F₉.keeps k₁₀
        have hT0 : ([100, 65, 49].flatMap fun j => exOf (bodyT tb) (lw j)).length ≤ 33 ∧ ∀ j ∈ [100, 65, 49].flatMap fun j => exOf (bodyT tb) (lw j), j = 48 ∨ j = 49 := by
          constructor
          · simp only [List.flatMap_cons, List.flatMap_nil, List.length_append, List.length_nil]
            have := (hex (lw 100)).1
            have := (hex (lw 65)).1
            rw [show lw 49 = 49 from rfl, ex_digit.2]
            simp only [List.length_cons, List.length_nil]
            omega
          · intro j hj
            obtain ⟨a, _, hj⟩ := List.mem_flatMap.mp hj
            exact (hex _).2 j hj
        have hsub : subs (pairsOf (bodyT tb)) [100, 65, 49] = [100, 65, 49].flatMap fun j => exOf (bodyT tb) (lw j) := subs_pairs BO (by decide)
        generalize hTT : ([100, 65, 49].flatMap fun j => exOf (bodyT tb) (lw j)) = T0 at hT0 hsub ⊢
        have hvq : vq.length = 16 := c5.len
        walk_at "my_steps"
        rename Fr _ _ _ _ => F₁₀
        rename News _ _ _ _ => N₁₀
        rw [List.append_nil]
        k_dflt (refine' replace_ok w (ps := pairsOf (bodyT tb)) (KX.keeps F₁₀.keep) (T.keeps F₁₀.keep) ?fa ?fb c5 rfl ?fc (by show 3 * 2 ^ 8 ≤ 1000; decide) ?_)
        (case fa => decide +kernel); (case fb => decide +kernel)
        case fc =>
          intro p hp
          simp only [pairsOf, List.mem_cons, List.not_mem_nil, or_false] at hp
          rcases hp with rfl | rfl | rfl | rfl | rfl | rfl | rfl | rfl <;> exact BO.len _ (by decide)
        rw [hsub]
        intro tR h₁₁ tk₁₁ k₁₁
        replace N₁₀ := N₁₀.grown k₁₁
        replace F₁₀ := F₁₀.keeps k₁₁
        walk_at "my_steps"
        · rename Fr _ _ _ _ => F₁₁
          rename News _ _ _ _ => N₁₁
          k_dflt (refine' agrees_ok w (B := bodyT tb) (ex := exOf (bodyT tb)) (KX.keeps F₁₁.keep) (T.keeps F₁₁.keep) ?ga ?gb ⟨N₁₁.get (List.Mem.tail _ (.tail _ (.tail _ (.head _)))), N₁₁.get (.tail _ (.tail _ (.tail _ (.tail _ (.head _))))), N₁₁.get (.tail _ (.tail _ (.tail _ (.tail _ (.tail _ (.head _))))))⟩ (paired_mono e5 fun _ _ ⟨a, t1, t2, n, e, hm⟩ => ⟨a, t1, t2, n, e, N₁₁.get (.tail _ (.tail _ (.tail _ (.tail _ (.tail _ (.tail _ (.tail _ hm)))))))⟩) hTO (fun _ _ => rfl) BO ⟨hBsys, kB, Heap.dictOf_iff.mpr ⟨oB, N₁₁.get (.tail _ (.head _)), b1⟩, bF⟩ bL ex_digit.1 ex_digit.2 (ex_letter BO) (fun k _ => Nat.lt_of_le_of_lt (hex k).1 (by decide)) (by decide) (by decide) hTT.symm (by omega) hT0.2 ?_)
          (case ga => decide +kernel); (case gb => decide +kernel)
          intro h₁₂ tk₁₂ k₁₂
          exact ⟨rfl, _, _, L', _, rfl, F₁₁.keeps k₁₂⟩
        · rename _ = false => hc
          simp at hc
  · rintro fl s' ⟨rfl, h', tk', L', m', rfl, F'⟩
    refine goodW_bool F' hg (raisesW_false ?_) ?_
    · wrow_none_raised
    · wrow_post)

end
end Mine
theorem PySem.Challenge.cw_pm0053_01_holds : PySem.Challenge.rw_pm0053_01.Holds :=
  Mine.law_holds
