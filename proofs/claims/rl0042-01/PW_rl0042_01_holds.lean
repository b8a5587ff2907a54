import PyProof.Rows.All
import Wide.All
import OpenK.AllK
import Wide.FinOn
import Lean
import PySem.Challenge.RW_rl0042_01
set_option Elab.async false
set_option rowWalk.seconds 0
section
open PySem PySem.W PyProof.Rows
namespace Mine
set_option maxRecDepth 100000 in
set_option maxHeartbeats 8000000 in
open_top hd for PySem.Challenge.rw_rl0042_01
end Mine
end
section
open PySem PySem.W PyProof.Rows PySem.Calls
namespace Mine
abbrev AR (n : Nat) (env : Env) (outer : List Env) (gd : Option (List Code)) : Around :=
  { handled := none, depth := n, frames := some (env :: outer), guards := gd, units := n }
def Hold (P : Prop) : Prop := P
theorem Hold.on {P : Prop} (h : Hold P) : P := h
theorem load_any {α : Type} {M : Model} {A : Around} {E : Value → Shared → Prop} {Q : α → Shared → Prop} {s : Shared} {a : Addr} {q : Option Value} {k : Obj → Sem α} {o : Obj} (ho : s.heap.get? a = some o) (h : wpAny M A (k o) Q E s) : wpAny M A (.load a q k) Q E s :=
  wpAny_bind (m := loadPart a q) (f := k) (wpAny_loadPart ho h)
/-- all that stood stands -/
def Keep (h h' : Heap) : Prop := ∀ b o, h.get? b = some o → h'.get? b = some o
/-- a call that leaves what stood as it was -/
def Con (n : Nat) (w : World) (mean : ExcName → Option Value) (mg mb : Str → Option Value) (f : Addr) (args : List Value) (pre : Heap → Prop) (post : Value → Prop) : Prop :=
  ∀ (A₀ : Around) (base h₀ : Heap) (env : Env) (outer : List Env) (gd : Option (List Code)) (L : Addr) (m : Str → Option Value) (s : Shared) (Q : Value → Shared → Prop) (E : Value → Shared → Prop),
    Below A₀ base outer h₀ → Fr h₀ L s.heap m → (hd.heap_39 w.params).In h₀ → Top hd.view_39 (looseW hd.view_39 [Str.ofString "bisect_right", Str.ofString "COMPILER_FLAG_NAMES"]) mean mg mb h₀ → env.frame = some L → env.scope.kind = .function → pre s.heap →
    (∀ v h' tk', Keep s.heap h' → post v → Q v { s with heap := h', toks := tk' }) →
    wpAny (model PySem.Challenge.rw_rl0042_01.row.prog w) (AR n env outer gd) (call (.ref f) args) Q E s

theorem wpAny_roomier {α : Type} {M : Model} {t : Sem α} {Q : α → Shared → Prop} {E : Value → Shared → Prop} {s : Shared} {A B : Around}
    (h : wpAny M B t Q E s) (h1 : A.handled = B.handled) (h2 : A.depth ≤ B.depth) (h3 : A.frames = B.frames) (h4 : A.guards = B.guards) (h5 : A.units ≤ B.units) : wpAny M A t Q E s :=
  fun Γ p hΓ => h Γ p ⟨hΓ.1.trans h1, Nat.le_trans hΓ.2.1 h2, fun l hl => hΓ.2.2.1 l (h3.trans hl), fun g hg => hΓ.2.2.2.1 g (h4.trans hg), Nat.le_trans hΓ.2.2.2.2 h5⟩

theorem Keep.fr {h₀ h h' : Heap} {L : Addr} {m : Str → Option Value} (k : Keep h h') (F : Fr h₀ L h m) : Fr h₀ L h' m := by
  obtain ⟨⟨oL, a1, a2, hL, a3⟩, hk, ha⟩ := F
  exact ⟨⟨oL, a1, a2, k _ _ hL, a3⟩, fun b o e => k _ _ (hk b o e), ha⟩
theorem Keep.news {h₀ h h' : Heap} {L : Addr} {news : List (Addr × Obj)} (k : Keep h h') (N : News h₀ L h news) : News h₀ L h' news :=
  fun p hp => ⟨k _ _ (N p hp).1, (N p hp).2⟩
/-- the call is used -/
theorem Con.use {n : Nat} {w : World} {mean : ExcName → Option Value} {mg mb : Str → Option Value} {f : Addr} {args : List Value} {pre : Heap → Prop} {post : Value → Prop}
    {A A₀ : Around} {base h₀ : Heap} {env : Env} {outer : List Env} {L : Addr} {m : Str → Option Value} {news : List (Addr × Obj)} {s : Shared} {Q E : Value → Shared → Prop}
    (C : Con n w mean mg mb f args pre post) (B : Below A₀ base outer h₀) (F : Fr h₀ L s.heap m) (N : News h₀ L s.heap news) (X : (hd.heap_39 w.params).In h₀) (T : Top hd.view_39 (looseW hd.view_39 [Str.ofString "bisect_right", Str.ofString "COMPILER_FLAG_NAMES"]) mean mg mb h₀)
    (hA : A.frames = some (env :: outer)) (hh : A.handled = none) (hd : A.depth ≤ n) (hu : A.units ≤ n) (hf : env.frame = some L) (hk : env.scope.kind = .function) (hp : pre s.heap)
    (ret : ∀ v h' tk', Keep s.heap h' → Fr h₀ L h' m → News h₀ L h' news → post v → Q v { s with heap := h', toks := tk' }) :
    wpAny (model PySem.Challenge.rw_rl0042_01.row.prog w) A (call (.ref f) args) Q E s :=
  wpAny_roomier (C A₀ base h₀ env outer A.guards L m s Q E B F X T hf hk hp fun v h' tk' k hq => ret v h' tk' k (k.fr F) (k.news N) hq) hh hd hA rfl hu
/-- a body's end -/
def Back (g : Heap) (s : Shared) (post : Value → Prop) (v : Value) (s' : Shared) : Prop := ∃ L' m' h' tk', s' = { s with heap := h', toks := tk' } ∧ Fr g L' h' m' ∧ post v
theorem Back.intro {g : Heap} {s : Shared} {post : Value → Prop} {v : Value} {L' : Addr} {m' : Str → Option Value} {h' : Heap} {tk' : Nat} (F : Fr g L' h' m') (hp : post v) : Back g s post v { s with heap := h', toks := tk' } := ⟨L', m', h', tk', rfl, F, hp⟩
theorem Back.here {g : Heap} {s : Shared} {post : Value → Prop} {v : Value} {L' : Addr} {m' : Str → Option Value} (F : Fr g L' s.heap m') (hp : post v) : Back g s post v s := ⟨L', m', s.heap, s.toks, rfl, F, hp⟩
/-- the call is entered -/
theorem Con.enter {n : Nat} {w : World} {mean : ExcName → Option Value} {mg mb : Str → Option Value} {f : Addr} {args : List Value} {pre : Heap → Prop} {post : Value → Prop}
    {name qual : Str} {params : Arguments} {body : List Stmt} {scope : Scope} {dV kV doc pm cdv ct oc : Value} {an od : Option Addr} {osl : Array (Option Value)} {binds : List (Str × Value)}
    (hn : n < recursionLimit)
    (ho : (hd.heap_39 w.params).lookup f = some ⟨oc, od, .func (fnOf name qual params body scope dV kV doc pm an cdv ct), osl⟩) (hcd : codeIn (hd.heap_39 w.params) cdv qual = true)
    (hbind : ∀ s : Shared, (hd.heap_39 w.params).In s.heap → BindsTo s (fnOf name qual params body scope dV kV doc pm an cdv ct) ⟨args, []⟩ binds) (hloc : ∀ y ∈ binds, scope.names.lookup y.1 = some .local)
    (hco : scope.isCoroutine = false) (hgen : scope.isGenerator = false) (hk : scope.kind = .function) (hcell : ∀ x ∈ scope.names, x.2 ≠ .cell)
    (h : ∀ (base g : Heap) (outer : List Env) (gd : Option (List Code)) (env : Env) (s : Shared) (L' : Addr),
      Below (AR n env outer gd) base (env :: outer) g → Fr g L' s.heap (fun y => binds.reverse.lookup y) → News g L' s.heap [] → (hd.heap_39 w.params).In g → Top hd.view_39 (looseW hd.view_39 [Str.ofString "bisect_right", Str.ofString "COMPILER_FLAG_NAMES"]) mean mg mb g → pre g →
      wpAny (model PySem.Challenge.rw_rl0042_01.row.prog w) ((AR n env outer gd).deeper (envOf qual scope L' f cdv)) (execs body (envOf qual scope L' f cdv))
        (fun fl s' => Back g s post (match fl with | .ret v => v | _ => .none) s') (fun _ _ => False) s) :
    Con n w mean mg mb f args pre post := by
  intro A₀ base h₀ env outer gd L m s Q E B F X T hf hke hp ret
  have X' := X.keeps F.keep
  refine wpAny_call (codeAny_call_def (fd := fnOf name qual params body scope dV kV doc pm an cdv ct) (body := body) (binds := binds) hn (X' _ _ ho) rfl (T.nolimit.keeps F.keep) (codeRec_of X' hcd) rfl (hbind s X') hcell hloc (fun h₁ hns hk₁ => ?_) hco hgen hk)
  have B₁ := pushX B F hf hke
  refine wpAny_mono (h base s.heap outer gd env { s with heap := h₁, toks := s.toks + binds.length } s.heap.objs.size ⟨rfl, B₁.stays, B₁.frames⟩ ⟨hns, hk₁, Nat.le_refl _⟩ News.nil X' (T.keeps F.keep) hp) (fun fl s' hl => ?_) (fun _ _ x => x.elim)
  obtain ⟨L', m', h', tk', rfl, F', hq⟩ := hl
  exact ret _ h' tk' F'.keep hq
end Mine
end
section
open PySem PySem.W PyProof.Rows PySem.Calls
namespace Mine
/-- a turn's end, for with else -/
def ElsePost (h₀ : Heap) (L : Addr) (it : Addr) (io : Obj) (Jn : (Str → Option Value) → List (Addr × Obj) → Prop) (s : Shared) (Q : Flow → Shared → Prop) (f : Flow) (s₂ : Shared) : Prop :=
  match f with
  | .ret v => Q (.ret v) s₂
  | .brk => Q .next s₂
  | _ => ∃ h' tk m' news', s₂ = { s with heap := h', toks := tk } ∧ Fr h₀ L h' m' ∧ News h₀ L h' ((it, io) :: news') ∧ (∀ p ∈ news', p.1 ≠ it) ∧ Jn m' news'
theorem ElsePost.next {h₀ : Heap} {L it : Addr} {io : Obj} {Jn : (Str → Option Value) → List (Addr × Obj) → Prop} {s : Shared} {Q : Flow → Shared → Prop} {h' : Heap} {tk : Nat} {m' : Str → Option Value} {news' : List (Addr × Obj)}
    (F : Fr h₀ L h' m') (N : News h₀ L h' ((it, io) :: news')) (hne : ∀ p ∈ news', p.1 ≠ it) (hj : Jn m' news') : ElsePost h₀ L it io Jn s Q .next { s with heap := h', toks := tk } :=
  ⟨h', tk, m', news', rfl, F, N, hne, hj⟩
theorem iter_else {prog : Program} {w : World} {A : Around} {s : Shared} {env : Env} {h₀ : Heap} {x : Str} {px : Pos} {body orelse : List Stmt} {Q : Flow → Shared → Prop}
    {r : Addr} {a₀ b₀ : Int} {t₀ u₀ v₀ : Tok} {n : Nat} {m₀ : Str → Option Value} {news : List (Addr × Obj)}
    (J : Nat → (Str → Option Value) → List (Addr × Obj) → Prop)
    (hh : A.handled = none) (hr : IsRange s.heap r a₀ b₀ 1 t₀ u₀ v₀) (hsmall : Builtin.Range.small a₀ b₀ 1 = true) (hn : Builtin.Range.rangeSize a₀ b₀ 1 = (n : Int))
    (F : Fr h₀ env.locals s.heap m₀) (N : News h₀ env.locals s.heap news) (hx : env.kindOf x = some .local)
    (hp : (env.scope.kind == .class || (env.scope.kind == .module && env.locals != env.globals)) = false) (hJ : J 0 m₀ news)
    (turn : ∀ it i t m₁ news₁ h tk, (∀ p ∈ news, p.1 < it) → i < n → (∀ p ∈ news₁, p.1 ≠ it) → J i m₁ news₁ → Fr h₀ env.locals h (fun y => if y = x then some (.int (a₀ + (i : Int)) t) else m₁ y) →
      News h₀ env.locals h ((it, itR (a₀ + ((i + 1 : Nat) : Int)) ((n : Int) - ((i + 1 : Nat) : Int))) :: news₁) →
      wpAny (model prog w) A (execs body env) (ElsePost h₀ env.locals it (itR (a₀ + ((i + 1 : Nat) : Int)) ((n : Int) - ((i + 1 : Nat) : Int))) (J (i + 1)) { s with heap := h, toks := tk } Q) (fun _ _ => False) { s with heap := h, toks := tk })
    (last : ∀ m₁ news₁ h tk, J n m₁ news₁ → Fr h₀ env.locals h m₁ → News h₀ env.locals h news₁ → wpAny (model prog w) A (execs orelse env) Q (fun _ _ => False) { s with heap := h, toks := tk }) :
    wpAny (model prog w) A (pyIter (.ref r)) (fun it s₂ => codeAny (model prog w) A (.forLoop (.Name x px) it body orelse env) (fun r s' => match r with | .ok f => Q f s' | .error e => cameBackBy (model prog w) A env (fun _ _ => False) e s') s₂) (fun _ _ => False) s := by
  refine wpAny_pyIter_range hr hsmall ?_
  generalize hI : s.heap.objs.size = I
  have hnewI : h₀.get? I = none := hI ▸ next_is_new F
  have hlt : ∀ p ∈ news, p.1 < I := fun p hp => hI ▸ Heap.lt_size (N p hp).1
  have hLI : env.locals ≠ I := Nat.ne_of_lt (hI ▸ F.ns.lt)
  have W := Walks.range (prog := prog) (w := w) (A := A) hh I a₀ 1 n
  refine codeAny_forLoop (fun k s' => ∃ i h tk m₁ news₁, s' = { s with heap := h, toks := tk } ∧ k = n - i ∧ i ≤ n ∧ Fr h₀ env.locals h m₁ ∧ News h₀ env.locals h news₁ ∧ (∀ p ∈ news₁, p.1 ≠ I) ∧ IsRangeIter h I (a₀ + (i : Nat) * 1) ((n : Int) - (i : Nat)) 1 ∧ J i m₁ news₁) ?_ n
    ⟨0, _, s.toks, m₀, news, rfl, rfl, Nat.zero_le _, F.push _, (fun p hp => ⟨Heap.get?_push_of_some _ (N p hp).1, (N p hp).2⟩), fun p hp => Nat.ne_of_lt (hlt p hp), ?_, hJ⟩
  · rintro k s' ⟨i, h, tk, m₁, news₁, rfl, rfl, hin, F₁, N₁, hne, hst, hj⟩
    have moved : ∀ h' : Heap, (∀ b o, b ∉ [I] → h.get? b = some o → h'.get? b = some o) → Fr h₀ env.locals h' m₁ ∧ News h₀ env.locals h' news₁ := fun h' hk =>
      ⟨⟨F₁.ns.at' fun o e => hk _ o (fun q => hLI (List.mem_singleton.mp q)) e, fun b o e => hk b o (fun q => by rw [List.mem_singleton.mp q, hnewI] at e; cases e) (F₁.keep b o e), F₁.above⟩,
        fun p hp => ⟨hk _ _ (fun q => hne p hp (List.mem_singleton.mp q)) (N₁ p hp).1, (N₁ p hp).2⟩⟩
    by_cases hi : i < n
    · refine W.item i _ _ _ hi hst fun v h₁ tk₁ hv hst₁ hk₁ => ?_
      obtain ⟨t, rfl⟩ := hv
      obtain ⟨F₂, N₂⟩ := moved h₁ hk₁
      refine wpAny_assign_Name (wpAny_storeName_local hx F₂.ns (fun h₂ hn₂ hs₂ => ?_) hp)
      have F₃ := F₂.set hn₂ hs₂
      have N₃ := N₂.set hs₂
      have hit : h₂.get? I = some (itR (a₀ + ((i + 1 : Nat) : Int)) ((n : Int) - ((i + 1 : Nat) : Int))) := by
        refine (hs₂.2 I (Ne.symm hLI)).trans ?_
        have q : IsRangeIter h₁ I (a₀ + ((i + 1 : Nat) : Int) * 1) ((n : Int) - ((i + 1 : Nat) : Int)) 1 := hst₁
        rw [Int.mul_one] at q
        exact q
      rw [Int.mul_one] at F₃
      refine wpAny_mono (turn I i t m₁ news₁ h₂ _ hlt hi hne hj F₃ ?_) (fun f s₃ h₃ => ?_) fun _ _ e => e.elim
      · intro p hp'
        rcases List.mem_cons.mp hp' with rfl | hp'
        · exact ⟨hit, Ne.symm hLI, hnewI⟩
        · exact N₃ p hp'
      · cases f with
        | ret v => exact h₃
        | brk => exact h₃
        | next =>
          obtain ⟨h', tk', m', news', rfl, F', N', hne', hj'⟩ := h₃
          refine ⟨n - (i + 1), by omega, i + 1, h', tk', m', news', rfl, rfl, hi, F', fun p hp' => N' p (.tail _ hp'), hne', ?_, hj'⟩
          have q := (N' _ (List.mem_cons_self ..)).1
          show IsRangeIter h' I (a₀ + ((i + 1 : Nat) : Int) * 1) ((n : Int) - ((i + 1 : Nat) : Int)) 1
          rw [Int.mul_one]
          exact q
        | cont =>
          obtain ⟨h', tk', m', news', rfl, F', N', hne', hj'⟩ := h₃
          refine ⟨n - (i + 1), by omega, i + 1, h', tk', m', news', rfl, rfl, hi, F', fun p hp' => N' p (.tail _ hp'), hne', ?_, hj'⟩
          have q := (N' _ (List.mem_cons_self ..)).1
          show IsRangeIter h' I (a₀ + ((i + 1 : Nat) : Int) * 1) ((n : Int) - ((i + 1 : Nat) : Int)) 1
          rw [Int.mul_one]
          exact q
    · have e : i = n := by omega
      subst e
      refine W.done _ _ _ hst fun h₁ tk₁ hk₁ => ?_
      obtain ⟨F₂, N₂⟩ := moved h₁ hk₁
      exact wpAny_mono (last m₁ news₁ h₁ tk₁ hj F₂ N₂) (fun _ _ q => q) fun _ _ q => q.elim
  · show IsRangeIter _ I _ _ 1
    rw [hn, ← hI]
    simpa using Heap.get?_push_size _ rfl
end Mine
end
section
open PySem PySem.W PyProof.Rows PySem.Calls
namespace Mine
/-- the call of a def with cells is entered -/
theorem Con.enterC {n : Nat} {w : World} {mean : ExcName → Option Value} {mg mb : Str → Option Value} {f : Addr} {args : List Value} {pre : Heap → Prop} {post : Value → Prop}
    {name qual : Str} {params : Arguments} {body : List Stmt} {scope : Scope} {dV kV doc pm cdv ct oc : Value} {an od : Option Addr} {osl : Array (Option Value)} {binds : List (Str × Value)}
    (hn : n < recursionLimit)
    (ho : (hd.heap_39 w.params).lookup f = some ⟨oc, od, .func (fnOf name qual params body scope dV kV doc pm an cdv ct), osl⟩) (hcd : codeIn (hd.heap_39 w.params) cdv qual = true)
    (hbind : ∀ s : Shared, (hd.heap_39 w.params).In s.heap → BindsTo s (fnOf name qual params body scope dV kV doc pm an cdv ct) ⟨args, []⟩ binds)
    (hco : scope.isCoroutine = false) (hgen : scope.isGenerator = false) (hk : scope.kind = .function)
    (hkind : ∀ n, ∀ x ∈ binds, scope.names.lookup x.1 = some .local ∨ (scope.names.lookup x.1 = some .cell ∧ ((cellsFrom n scope.names []).lookup x.1).isSome = true))
    (hnd : ((cellsFrom 0 scope.names []).map (·.1)).Nodup)
    (h : ∀ (base g : Heap) (outer : List Env) (gd : Option (List Code)) (env : Env) (s : Shared) (L' : Addr) (cells : List (Addr × Obj)),
      Below (AR n env outer gd) base (env :: outer) g → Fr g L' s.heap (bindL (envOfC qual scope L' f cdv).kindOf binds fun _ => none) → News g L' s.heap cells →
      CellsAre (bindC (envOfC qual scope L' f cdv).kindOf binds fun _ => none) (cellsFrom (L' + 1) scope.names []) cells → (hd.heap_39 w.params).In g →
      Top hd.view_39 (looseW hd.view_39 [Str.ofString "bisect_right", Str.ofString "COMPILER_FLAG_NAMES"]) mean mg mb g → pre g →
      wpAny (model PySem.Challenge.rw_rl0042_01.row.prog w) ((AR n env outer gd).deeper (envOfC qual scope L' f cdv)) (execs body (envOfC qual scope L' f cdv))
        (fun fl s' => Back g s post (match fl with | .ret v => v | _ => .none) s') (fun _ _ => False) s) :
    Con n w mean mg mb f args pre post := by
  intro A₀ base h₀ env outer gd L m s Q E B F X T hf hke hp ret
  have X' := X.keeps F.keep
  refine wpAny_call (codeAny_call_function (fd := fnOf name qual params body scope dV kV doc pm an cdv ct) hn (X' _ _ ho) rfl hco hgen rfl (codeRec_of X' hcd) (hbind s X' _ _ _ _ ?_))
  refine wpAny_newFunctionEnv_cells hk (hkind _) fun env' he s' x => ?_
  subst he
  refine ⟨(T.nolimit.keeps F.keep).keeps x.toInCall.keep, codeAny_func ?_⟩
  obtain ⟨h₁, tk, rfl, _⟩ := x.done
  have B₁ := pushX B F hf hke
  obtain ⟨cells, NC, Y⟩ := Cl.news (h₀ := s.heap) (Nat.le_refl _) fun n c hm => ⟨x.cell n c (lookup_of_mem_nodup (cellsFrom_names scope.names 0 (s.heap.objs.size + 1) [] [] rfl ▸ hnd) hm), x.above n c hm⟩
  refine wpAny_mono (h base s.heap outer gd env { s with heap := h₁, toks := tk } s.heap.objs.size cells ⟨rfl, B₁.stays, B₁.frames⟩ ⟨x.toInCall.ns, x.toInCall.keep, Nat.le_refl _⟩ NC Y X' (T.keeps F.keep) hp) (fun fl s'' hl => ?_) (fun _ _ q => q.elim)
  obtain ⟨L', m', h', tk', rfl, F', hq⟩ := hl
  exact ret _ h' tk' F'.keep hq
end Mine
end
section
open PySem PySem.W PyProof.Rows PySem.Calls
namespace Mine
theorem cond1 {M : Model} {A : Around} {E : Value → Shared → Prop} {s : Shared} {c : Expr} {env : Env} {Q : Bool → Shared → Prop} (h : wpAny M A (isTrue c env (eval c env)) Q E s) :
    wpAny M A (forIn [c] true fun c r => if r = true then (do let ok ← isTrue c env (eval c env); pure (ForInStep.yield ok)) else pure (ForInStep.yield r)) Q E s := by
  simp only [List.forIn_cons, List.forIn_nil, if_true, bind_assoc, pure_bind]
  exact wpAny_bind (wpAny_mono h (fun _ _ x => wpAny_pure x) fun _ _ x => x)
theorem Keeps.rfl' {s : Shared} : Keeps s s := ⟨s.heap, s.toks, rfl, fun _ _ e => e⟩
/-- the source of a comprehension that picks ints of a list -/
def CSrc (prog : Program) (w : World) (A : Around) (h₀ : Heap) (L : Addr) (m : Str → Option Value) (env : Env) (scope : Scope) (cl : List (Str × Addr)) (x : Str) (c : Expr) (pz : Int → Bool) (Q : Value → Shared → Prop) (xv : Value) (s₁ : Shared) : Prop :=
  ∃ (news : List (Addr × Obj)) (ax : Addr) (vs : List Value) (ns : List Int), xv = .ref ax ∧ s₁.heap.IsList ax vs.toArray ∧ IntsAre vs ns ∧ ns.length ≤ sizeLine ∧ Fr h₀ L s₁.heap m ∧ News h₀ L s₁.heap news ∧
    (∀ (C : Nat) (a : Int) (t : Tok) (s₂ : Shared) (m₂ : Str → Option Value) (E' : Value → Shared → Prop), s₁.heap.objs.size ≤ C → a ∈ ns → s₂.heap.Ns C m₂ → m₂ x = some (.int a t) → Keep s₁.heap s₂.heap →
      wpAny (model prog w) A (isTrue c (compEnvC scope cl C env) (eval c (compEnvC scope cl C env))) (fun ok s₃ => ok = pz a ∧ Keeps s₂ s₃) E' s₂) ∧
    (∀ D (ys : List Value) n h' tk, Fr h₀ L h' m → News h₀ L h' ((D, listOf ys.toArray n) :: news) → (∀ p ∈ news, p.1 ≠ D) → IntsAre ys (ns.filter pz) → Q (.ref D) { s₁ with heap := h', toks := tk })
theorem news_cons {h₀ h : Heap} {L D : Addr} {m : Str → Option Value} {news : List (Addr × Obj)} {items : Array Value} (F : Fr h₀ L h m) (N : News h₀ L h news) (hn : h₀.get? D = none) (P : NewPlain h news D items) :
    ∃ n, News h₀ L h ((D, listOf items n) :: news) := by
  obtain ⟨n, hp⟩ := P.1
  refine ⟨n, fun p hp' => ?_⟩
  rcases List.mem_cons.mp hp' with rfl | hp'
  · exact ⟨hp, P.ne_locals F, hn⟩
  · exact N p hp'
theorem comp_filter {prog : Program} {w : World} {A : Around} {E : Value → Shared → Prop} {s : Shared} {h₀ : Heap} {L : Addr} {m : Str → Option Value} {env : Env} {iter c : Expr} {x : Str} {px pe pos : Pos} {scope : Scope} {cl : List (Str × Addr)} {Q : Value → Shared → Prop} (pz : Int → Bool)
    (hh : A.handled = none) (hclos : closureFor scope env = pure cl) (hcell : ∀ y ∈ scope.names, y.2 ≠ .cell) (hkind : scope.kind = .function)
    (hnames : ∀ y ∈ scope.names, y.2 = .local → scope.names.lookup y.1 = some .local) (hx : scope.names.lookup x = some .local) (hd : (x == ("__debug__" : Str)) = false)
    (h : wpAny (model prog w) A (eval iter env) (CSrc prog w A h₀ L m env scope cl x c pz Q) E s)
    (hs : ∀ x, foldedSetIterable iter env x = pure x) :
    wpAny (model prog w) A (eval (.ListComp (.Name x pe) [⟨.Name x px, iter, [c], 0⟩] scope pos) env) Q E s := by
  refine ListComp_DCn (K := .int) (pz := pz) (d := fun a => PyData.int a) (h₀ := h₀) (L := L) (m := m) hh hclos hcell hkind hnames hx (wpAny_mono h (fun xv s₁ h₁ => ?_) fun _ _ e => e) hs
  obtain ⟨news, ax, vs, ns, rfl, hl, hi, hsz, F, N, hc, hq⟩ := h₁
  refine ⟨news, ax, vs, ns, rfl, hl, hi.areOf, hsz, F, N, ?_, ?_, ?_⟩
  · intro C a v s₂ m₂ E' hC ha hv hn hm hk
    obtain ⟨t, rfl⟩ := hv
    exact cond1 (hc C a t s₂ m₂ E' hC ha hn hm hk)
  · intro C a v s₂ m₂ E' hC ha hv hp hn hm hk
    obtain ⟨t, rfl⟩ := hv
    exact wpAny_Name (wpAny_loadName_local hkind (lookup_relabel_local hx) hn hm ⟨.int a t, Keeps.rfl'⟩) hd
  · intro D ys h' tk F' N' hn hlD hP hcar
    obtain ⟨n, N2⟩ := news_cons F' N' hn hP
    exact hq D ys n h' tk F' N2 hP.2 (IntsAre.ofCarried hcar)
theorem inComp {g h₁ h₂ : Heap} {L : Addr} {C : Nat} {m m₂ : Str → Option Value} {news : List (Addr × Obj)} (F : Fr g L h₁ m) (N : News g L h₁ news) (hC : h₁.objs.size ≤ C) (hn : h₂.Ns C m₂) (hk : Keep h₁ h₂) : Fr g C h₂ m₂ ∧ News g C h₂ news :=
  ⟨⟨hn, fun b o e => hk _ _ (F.keep b o e), Nat.le_trans F.above (Nat.le_trans (Nat.le_of_lt F.ns.lt) hC)⟩,
    fun p hp => ⟨hk _ _ (N p hp).1, Nat.ne_of_lt (Nat.lt_of_lt_of_le (Heap.lt_size (N p hp).1) hC), (N p hp).2.2⟩⟩
end Mine
end
section
open PySem PySem.W PyProof.Rows PySem.Calls PySem.Spec PySem.SeqAt
namespace Mine
def StrsOk (ys : List Str) : Prop := ∀ y ∈ ys, PyData.strOk y = true
theorem readsAll_strs {h : Heap} : ∀ {vs : List Value} {ys : List Str}, StrsAre vs ys → ReadsAll h vs (ys.map PyData.str) []
  | _, _, .nil => .nil
  | _, _, .cons y t r => by simpa using ReadsAll.cons (Reads.str (h := h) y t) (readsAll_strs r)
theorem reads_strs {h : Heap} {a : Addr} {vs : List Value} {ys : List Str} (hl : h.IsList a vs.toArray) (hi : StrsAre vs ys) : Reads h (.ref a) (.list (ys.map PyData.str)) [a] := by
  obtain ⟨o, ho, hc, n, hd⟩ := hl
  exact Reads.list ho hc hd (by simpa using readsAll_strs hi)
theorem lay_strs : ∀ {ys : List Str}, StrsOk ys → PyData.canLayAll0 (ys.map PyData.str) = true
  | [], _ => by simp [PyData.canLayAll0]
  | y :: r, h => by
    have h1 := h y (List.mem_cons_self ..)
    have h2 := lay_strs (ys := r) fun z hz => h z (List.mem_cons_of_mem _ hz)
    simp [PyData.canLayAll0, PyData.canLay0, h1, h2]
theorem depth_strs : ∀ ys : List Str, PyData.depthAll (ys.map PyData.str) ≤ 1
  | [] => by simp [PyData.depthAll]
  | _ :: r => by
    have := depth_strs r
    simp only [List.map_cons, PyData.depthAll, PyData.depth]
    omega
theorem shaped_strs {ys : List Str} (h : StrsOk ys) : shaped (.list (ys.map PyData.str)) = true := by
  have h1 := depth_strs ys
  have h2 : PyData.depth (.list (ys.map PyData.str)) ≤ 64 := by simp only [PyData.depth]; omega
  show (PyData.canLay0 (.list (ys.map PyData.str)) && decide (PyData.depth (.list (ys.map PyData.str)) ≤ 64)) = true
  rw [Bool.and_eq_true]
  exact ⟨by simp only [PyData.canLay0]; exact lay_strs h, decide_eq_true h2⟩
theorem noMix_strs : ∀ ys zs : List Str, noMixAll (ys.map PyData.str) (zs.map PyData.str) = true
  | [], [] => by simp [noMixAll]
  | [], _ :: _ => by simp [noMixAll]
  | _ :: _, [] => by simp [noMixAll]
  | _ :: r, _ :: q => by simp [noMixAll, noMix, noMix_strs r q]
theorem same_strs : ∀ ys zs : List Str, PySem.Spec.sameAll (ys.map PyData.str) (zs.map PyData.str) = decide (ys = zs)
  | [], [] => by simp [PySem.Spec.sameAll]
  | [], _ :: _ => by simp [PySem.Spec.sameAll]
  | _ :: _, [] => by simp [PySem.Spec.sameAll]
  | y :: r, z :: q => by
    simp only [List.map_cons, PySem.Spec.sameAll, PySem.Spec.same, same_strs r q]
    by_cases h : y = z <;> simp [h]
section
variable {prog : Program} {w : World} {A : Around} {E : Value → Shared → Prop} {s : Shared}
theorem eq_strsK {a b : Addr} {vs us : List Value} {ys zs : List Str} {Q : Value → Shared → Prop} (hl : s.heap.IsList a vs.toArray) (hi : StrsAre vs ys) (hl' : s.heap.IsList b us.toArray) (hi' : StrsAre us zs) (hu : A.units + 64 < cLine) (h1 : StrsOk ys) (h2 : StrsOk zs)
    (h : Q (.bool (decide (ys = zs))) s) : wpAny (model prog w) A (compareOp .Eq (.ref a) (.ref b)) Q E s :=
  eq_dataH_same (reads_strs hl hi) (reads_strs hl' hi') (shaped_strs h1) (shaped_strs h2) hu (by simp only [noMix]; exact noMix_strs ys zs) (by simp only [PySem.Spec.same]; rw [same_strs]; exact h)
theorem ne_strsK {a b : Addr} {vs us : List Value} {ys zs : List Str} {Q : Value → Shared → Prop} (hl : s.heap.IsList a vs.toArray) (hi : StrsAre vs ys) (hl' : s.heap.IsList b us.toArray) (hi' : StrsAre us zs) (hu : A.units + 64 < cLine) (h1 : StrsOk ys) (h2 : StrsOk zs)
    (h : Q (.bool (!decide (ys = zs))) s) : wpAny (model prog w) A (compareOp .NotEq (.ref a) (.ref b)) Q E s :=
  ne_dataH_same (reads_strs hl hi) (reads_strs hl' hi') (shaped_strs h1) (shaped_strs h2) hu (by simp only [noMix]; exact noMix_strs ys zs) (by simp only [PySem.Spec.same]; rw [same_strs]; exact h)
end
end Mine
end
section
open PySem PySem.W PyProof.Rows PySem.Calls
namespace Mine
/-- a call that leaves what stood as it was and hands back things of its own making -/
def ConN (n : Nat) (w : World) (mean : ExcName → Option Value) (mg mb : Str → Option Value) (f : Addr) (args : List Value) (pre : Heap → Prop) (post : Value → List (Addr × Obj) → Prop) : Prop :=
  ∀ (A₀ : Around) (base h₀ : Heap) (env : Env) (outer : List Env) (gd : Option (List Code)) (L : Addr) (m : Str → Option Value) (s : Shared) (Q : Value → Shared → Prop) (E : Value → Shared → Prop),
    Below A₀ base outer h₀ → Fr h₀ L s.heap m → (hd.heap_39 w.params).In h₀ → Top hd.view_39 (looseW hd.view_39 [Str.ofString "bisect_right", Str.ofString "COMPILER_FLAG_NAMES"]) mean mg mb h₀ → env.frame = some L → env.scope.kind = .function → pre s.heap →
    (∀ v h' tk' objs, Keep s.heap h' → (∀ p ∈ objs, h'.get? p.1 = some p.2 ∧ s.heap.get? p.1 = none) → post v objs → Q v { s with heap := h', toks := tk' }) →
    wpAny (model PySem.Challenge.rw_rl0042_01.row.prog w) (AR n env outer gd) (call (.ref f) args) Q E s
theorem lt_of_new {h h' : Heap} {a b : Addr} {o : Obj} (hb : h.get? b = some o) (ha : h.get? a = none) : a ≠ b := fun e => by rw [e, hb] at ha; cases ha
theorem ConN.use {n : Nat} {w : World} {mean : ExcName → Option Value} {mg mb : Str → Option Value} {f : Addr} {args : List Value} {pre : Heap → Prop} {post : Value → List (Addr × Obj) → Prop}
    {A A₀ : Around} {base h₀ : Heap} {env : Env} {outer : List Env} {L : Addr} {m : Str → Option Value} {news : List (Addr × Obj)} {s : Shared} {Q E : Value → Shared → Prop}
    (C : ConN n w mean mg mb f args pre post) (B : Below A₀ base outer h₀) (F : Fr h₀ L s.heap m) (N : News h₀ L s.heap news) (X : (hd.heap_39 w.params).In h₀) (T : Top hd.view_39 (looseW hd.view_39 [Str.ofString "bisect_right", Str.ofString "COMPILER_FLAG_NAMES"]) mean mg mb h₀)
    (hA : A.frames = some (env :: outer)) (hh : A.handled = none) (hd : A.depth ≤ n) (hu : A.units ≤ n) (hf : env.frame = some L) (hk : env.scope.kind = .function) (hp : pre s.heap)
    (ret : ∀ v h' tk' objs, Keep s.heap h' → Fr h₀ L h' m → News h₀ L h' (objs ++ news) → (∀ p ∈ objs, ∀ q ∈ news, p.1 ≠ q.1) → post v objs → Q v { s with heap := h', toks := tk' }) :
    wpAny (model PySem.Challenge.rw_rl0042_01.row.prog w) A (call (.ref f) args) Q E s := by
  refine wpAny_roomier (C A₀ base h₀ env outer A.guards L m s Q E B F X T hf hk hp fun v h' tk' objs k ho hq => ret v h' tk' objs k (k.fr F) ?_ ?_ hq) hh hd hA rfl hu
  · intro p hp
    rcases List.mem_append.mp hp with hp | hp
    · obtain ⟨h1, h2⟩ := ho p hp
      obtain ⟨oL, _, _, hL, _⟩ := F.ns
      refine ⟨h1, fun e => ?_, ?_⟩
      · rw [e, hL] at h2; cases h2
      · cases q : h₀.get? p.1 with
        | none => rfl
        | some o => rw [F.keep _ _ q] at h2; cases h2
    · exact ⟨k _ _ (N p hp).1, (N p hp).2⟩
  · intro p hp q hq e
    have h2 := (ho p hp).2
    rw [e, (N q hq).1] at h2
    cases h2
def BackN (g : Heap) (s : Shared) (post : Value → List (Addr × Obj) → Prop) (v : Value) (s' : Shared) : Prop := ∃ L' m' h' tk' objs, s' = { s with heap := h', toks := tk' } ∧ Fr g L' h' m' ∧ News g L' h' objs ∧ post v objs
theorem BackN.intro {g : Heap} {s : Shared} {post : Value → List (Addr × Obj) → Prop} {v : Value} {L' : Addr} {m' : Str → Option Value} {h' : Heap} {tk' : Nat} {objs : List (Addr × Obj)} (F : Fr g L' h' m') (N : News g L' h' objs) (hp : post v objs) : BackN g s post v { s with heap := h', toks := tk' } := ⟨L', m', h', tk', objs, rfl, F, N, hp⟩
theorem ConN.enter {n : Nat} {w : World} {mean : ExcName → Option Value} {mg mb : Str → Option Value} {f : Addr} {args : List Value} {pre : Heap → Prop} {post : Value → List (Addr × Obj) → Prop}
    {name qual : Str} {params : Arguments} {body : List Stmt} {scope : Scope} {dV kV doc pm cdv ct oc : Value} {an od : Option Addr} {osl : Array (Option Value)} {binds : List (Str × Value)}
    (hn : n < recursionLimit)
    (ho : (hd.heap_39 w.params).lookup f = some ⟨oc, od, .func (fnOf name qual params body scope dV kV doc pm an cdv ct), osl⟩) (hcd : codeIn (hd.heap_39 w.params) cdv qual = true)
    (hbind : ∀ s : Shared, (hd.heap_39 w.params).In s.heap → BindsTo s (fnOf name qual params body scope dV kV doc pm an cdv ct) ⟨args, []⟩ binds) (hloc : ∀ y ∈ binds, scope.names.lookup y.1 = some .local)
    (hco : scope.isCoroutine = false) (hgen : scope.isGenerator = false) (hk : scope.kind = .function) (hcell : ∀ x ∈ scope.names, x.2 ≠ .cell)
    (h : ∀ (base g : Heap) (outer : List Env) (gd : Option (List Code)) (env : Env) (s : Shared) (L' : Addr),
      Below (AR n env outer gd) base (env :: outer) g → Fr g L' s.heap (fun y => binds.reverse.lookup y) → News g L' s.heap [] → (hd.heap_39 w.params).In g → Top hd.view_39 (looseW hd.view_39 [Str.ofString "bisect_right", Str.ofString "COMPILER_FLAG_NAMES"]) mean mg mb g → pre g →
      wpAny (model PySem.Challenge.rw_rl0042_01.row.prog w) ((AR n env outer gd).deeper (envOf qual scope L' f cdv)) (execs body (envOf qual scope L' f cdv))
        (fun fl s' => BackN g s post (match fl with | .ret v => v | _ => .none) s') (fun _ _ => False) s) :
    ConN n w mean mg mb f args pre post := by
  intro A₀ base h₀ env outer gd L m s Q E B F X T hf hke hp ret
  have X' := X.keeps F.keep
  refine wpAny_call (codeAny_call_def (fd := fnOf name qual params body scope dV kV doc pm an cdv ct) (body := body) (binds := binds) hn (X' _ _ ho) rfl (T.nolimit.keeps F.keep) (codeRec_of X' hcd) rfl (hbind s X') hcell hloc (fun h₁ hns hk₁ => ?_) hco hgen hk)
  have B₁ := pushX B F hf hke
  refine wpAny_mono (h base s.heap outer gd env { s with heap := h₁, toks := s.toks + binds.length } s.heap.objs.size ⟨rfl, B₁.stays, B₁.frames⟩ ⟨hns, hk₁, Nat.le_refl _⟩ News.nil X' (T.keeps F.keep) hp) (fun fl s' hl => ?_) (fun _ _ x => x.elim)
  obtain ⟨L', m', h', tk', objs, rfl, F', N', hq⟩ := hl
  exact ret _ h' tk' objs F'.keep (fun p hp => ⟨(N' p hp).1, (N' p hp).2.2⟩) hq
end Mine
end
section
open PySem PySem.W PyProof.Rows PySem.Calls
namespace Mine
theorem cond0 {M : Model} {A : Around} {E : Value → Shared → Prop} {s : Shared} {env : Env} {Q : Bool → Shared → Prop} (h : Q true s) :
    wpAny M A (forIn ([] : List Expr) true fun c r => if r = true then (do let ok ← isTrue c env (eval c env); pure (ForInStep.yield ok)) else pure (ForInStep.yield r)) Q E s := by
  simp only [List.forIn_nil]
  exact wpAny_pure h
/-- the source of a comprehension of texts over a range -/
def RSrc (prog : Program) (w : World) (A : Around) (h₀ : Heap) (L : Addr) (m : Str → Option Value) (env : Env) (scope : Scope) (cl : List (Str × Addr)) (x : Str) (elt : Expr) (f : Int → Str) (Q : Value → Shared → Prop) (xv : Value) (s₁ : Shared) : Prop :=
  ∃ (news : List (Addr × Obj)) (r : Addr) (a₀ b₀ : Int) (t₀ u₀ v₀ : Tok) (n : Nat), xv = .ref r ∧ IsRange s₁.heap r a₀ b₀ 1 t₀ u₀ v₀ ∧ Builtin.Range.small a₀ b₀ 1 = true ∧ Builtin.Range.rangeSize a₀ b₀ 1 = (n : Int) ∧ n ≤ sizeLine ∧ Fr h₀ L s₁.heap m ∧ News h₀ L s₁.heap news ∧
    (∀ (C : Nat) (a : Int) (t : Tok) (s₂ : Shared) (m₂ : Str → Option Value) (E' : Value → Shared → Prop), s₁.heap.objs.size ≤ C → a ∈ rangeInts a₀ 1 n → s₂.heap.Ns C m₂ → m₂ x = some (.int a t) → Keep s₁.heap s₂.heap →
      wpAny (model prog w) A (eval elt (compEnvC scope cl C env)) (fun y s₃ => (∃ t, y = .str (f a) t) ∧ Keeps s₂ s₃) E' s₂) ∧
    (∀ D (ys : List Value) e h' tk, Fr h₀ L h' m → News h₀ L h' ((D, listOf ys.toArray e) :: news) → (∀ p ∈ news, p.1 ≠ D) → StrsAre ys ((rangeInts a₀ 1 n).map f) → Q (.ref D) { s₁ with heap := h', toks := tk })
theorem comp_rmap {prog : Program} {w : World} {A : Around} {E : Value → Shared → Prop} {s : Shared} {h₀ : Heap} {L : Addr} {m : Str → Option Value} {env : Env} {iter elt : Expr} {x : Str} {px pos : Pos} {scope : Scope} {cl : List (Str × Addr)} {Q : Value → Shared → Prop} (f : Int → Str) (_ : Fr h₀ L s.heap m)
    (hh : A.handled = none) (hclos : closureFor scope env = pure cl) (hcell : ∀ y ∈ scope.names, y.2 ≠ .cell) (hkind : scope.kind = .function)
    (hnames : ∀ y ∈ scope.names, y.2 = .local → scope.names.lookup y.1 = some .local) (hx : scope.names.lookup x = some .local)
    (h : wpAny (model prog w) A (eval iter env) (RSrc prog w A h₀ L m env scope cl x elt f Q) E s)
    (hs : ∀ x, foldedSetIterable iter env x = pure x) :
    wpAny (model prog w) A (eval (.ListComp elt [⟨.Name x px, iter, [], 0⟩] scope pos) env) Q E s := by
  refine ListComp_DCr (pz := fun _ => true) (d := fun a => PyData.str (f a)) (h₀ := h₀) (L := L) (m := m) hh hclos hcell hkind hnames hx (wpAny_mono h (fun xv s₁ h₁ => ?_) fun _ _ e => e) hs
  obtain ⟨news, r, a₀, b₀, t₀, u₀, v₀, n, rfl, hr, hsm, hn, hsz, F, N, hc, hq⟩ := h₁
  refine ⟨news, r, a₀, b₀, 1, t₀, u₀, v₀, n, rfl, hr, hsm, hn, hsz, F, N, ?_, ?_, ?_⟩
  · intro C a v s₂ m₂ E' hC ha hv hn hm hk
    exact cond0 ⟨rfl, Keeps.rfl'⟩
  · intro C a v s₂ m₂ E' hC ha hv hp hn hm hk
    obtain ⟨t, rfl⟩ := hv
    refine wpAny_mono (hc C a t s₂ m₂ E' hC ha hn hm hk) (fun y s₃ h₃ => ?_) fun _ _ e => e
    obtain ⟨⟨t', rfl⟩, k⟩ := h₃
    exact ⟨.str _ t', k⟩
  · intro D ys h' tk F' N' hn hlD hP hcar
    obtain ⟨e, N2⟩ := news_cons F' N' hn hP
    have ef : (rangeInts a₀ 1 n).filter (fun _ => true) = rangeInts a₀ 1 n := List.filter_eq_self.mpr fun _ _ => rfl
    rw [ef] at hcar
    exact hq D ys e h' tk F' N2 hP.2 hcar.strsOf
/-- the source of a comprehension that picks ints of a range -/
def FSrc (prog : Program) (w : World) (A : Around) (h₀ : Heap) (L : Addr) (m : Str → Option Value) (env : Env) (scope : Scope) (cl : List (Str × Addr)) (x : Str) (c : Expr) (pz : Int → Bool) (Q : Value → Shared → Prop) (xv : Value) (s₁ : Shared) : Prop :=
  ∃ (news : List (Addr × Obj)) (r : Addr) (a₀ b₀ : Int) (t₀ u₀ v₀ : Tok) (n : Nat), xv = .ref r ∧ IsRange s₁.heap r a₀ b₀ 1 t₀ u₀ v₀ ∧ Builtin.Range.small a₀ b₀ 1 = true ∧ Builtin.Range.rangeSize a₀ b₀ 1 = (n : Int) ∧ n ≤ sizeLine ∧ Fr h₀ L s₁.heap m ∧ News h₀ L s₁.heap news ∧
    (∀ (C : Nat) (a : Int) (t : Tok) (s₂ : Shared) (m₂ : Str → Option Value) (E' : Value → Shared → Prop), s₁.heap.objs.size ≤ C → a ∈ rangeInts a₀ 1 n → s₂.heap.Ns C m₂ → m₂ x = some (.int a t) → Keep s₁.heap s₂.heap →
      wpAny (model prog w) A (isTrue c (compEnvC scope cl C env) (eval c (compEnvC scope cl C env))) (fun ok s₃ => ok = pz a ∧ Keeps s₂ s₃) E' s₂) ∧
    (∀ D (ys : List Value) e h' tk, Fr h₀ L h' m → News h₀ L h' ((D, listOf ys.toArray e) :: news) → (∀ p ∈ news, p.1 ≠ D) → IntsAre ys ((rangeInts a₀ 1 n).filter pz) → Q (.ref D) { s₁ with heap := h', toks := tk })
theorem comp_rfilter {prog : Program} {w : World} {A : Around} {E : Value → Shared → Prop} {s : Shared} {h₀ : Heap} {L : Addr} {m : Str → Option Value} {env : Env} {iter c : Expr} {x : Str} {px pe pos : Pos} {scope : Scope} {cl : List (Str × Addr)} {Q : Value → Shared → Prop} (pz : Int → Bool) (_ : Fr h₀ L s.heap m)
    (hh : A.handled = none) (hclos : closureFor scope env = pure cl) (hcell : ∀ y ∈ scope.names, y.2 ≠ .cell) (hkind : scope.kind = .function)
    (hnames : ∀ y ∈ scope.names, y.2 = .local → scope.names.lookup y.1 = some .local) (hx : scope.names.lookup x = some .local) (hd : (x == ("__debug__" : Str)) = false)
    (h : wpAny (model prog w) A (eval iter env) (FSrc prog w A h₀ L m env scope cl x c pz Q) E s)
    (hs : ∀ x, foldedSetIterable iter env x = pure x) :
    wpAny (model prog w) A (eval (.ListComp (.Name x pe) [⟨.Name x px, iter, [c], 0⟩] scope pos) env) Q E s := by
  refine ListComp_DCr (pz := pz) (d := fun a => PyData.int a) (h₀ := h₀) (L := L) (m := m) hh hclos hcell hkind hnames hx (wpAny_mono h (fun xv s₁ h₁ => ?_) fun _ _ e => e) hs
  obtain ⟨news, r, a₀, b₀, t₀, u₀, v₀, n, rfl, hr, hsm, hn, hsz, F, N, hc, hq⟩ := h₁
  refine ⟨news, r, a₀, b₀, 1, t₀, u₀, v₀, n, rfl, hr, hsm, hn, hsz, F, N, ?_, ?_, ?_⟩
  · intro C a v s₂ m₂ E' hC ha hv hn hm hk
    obtain ⟨t, rfl⟩ := hv
    exact cond1 (hc C a t s₂ m₂ E' hC ha hn hm hk)
  · intro C a v s₂ m₂ E' hC ha hv hp hn hm hk
    obtain ⟨t, rfl⟩ := hv
    exact wpAny_Name (wpAny_loadName_local hkind (lookup_relabel_local hx) hn hm ⟨.int a t, Keeps.rfl'⟩) hd
  · intro D ys h' tk F' N' hn hlD hP hcar
    obtain ⟨e, N2⟩ := news_cons F' N' hn hP
    exact hq D ys e h' tk F' N2 hP.2 (IntsAre.ofCarried hcar)
/-- the source of a comprehension of texts over a list of ints -/
def LSrc (prog : Program) (w : World) (A : Around) (h₀ : Heap) (L : Addr) (m : Str → Option Value) (env : Env) (scope : Scope) (cl : List (Str × Addr)) (x : Str) (elt : Expr) (f : Int → Str) (Q : Value → Shared → Prop) (xv : Value) (s₁ : Shared) : Prop :=
  ∃ (news : List (Addr × Obj)) (ax : Addr) (vs : List Value) (ns : List Int), xv = .ref ax ∧ s₁.heap.IsList ax vs.toArray ∧ IntsAre vs ns ∧ ns.length ≤ sizeLine ∧ Fr h₀ L s₁.heap m ∧ News h₀ L s₁.heap news ∧
    (∀ (C : Nat) (a : Int) (t : Tok) (s₂ : Shared) (m₂ : Str → Option Value) (E' : Value → Shared → Prop), s₁.heap.objs.size ≤ C → a ∈ ns → s₂.heap.Ns C m₂ → m₂ x = some (.int a t) → Keep s₁.heap s₂.heap →
      wpAny (model prog w) A (eval elt (compEnvC scope cl C env)) (fun y s₃ => (∃ t, y = .str (f a) t) ∧ Keeps s₂ s₃) E' s₂) ∧
    (∀ D (ys : List Value) e h' tk, Fr h₀ L h' m → News h₀ L h' ((D, listOf ys.toArray e) :: news) → (∀ p ∈ news, p.1 ≠ D) → StrsAre ys (ns.map f) → Q (.ref D) { s₁ with heap := h', toks := tk })
theorem comp_lmap {prog : Program} {w : World} {A : Around} {E : Value → Shared → Prop} {s : Shared} {h₀ : Heap} {L : Addr} {m : Str → Option Value} {env : Env} {iter elt : Expr} {x : Str} {px pos : Pos} {scope : Scope} {cl : List (Str × Addr)} {Q : Value → Shared → Prop} (f : Int → Str) (_ : Fr h₀ L s.heap m)
    (hh : A.handled = none) (hclos : closureFor scope env = pure cl) (hcell : ∀ y ∈ scope.names, y.2 ≠ .cell) (hkind : scope.kind = .function)
    (hnames : ∀ y ∈ scope.names, y.2 = .local → scope.names.lookup y.1 = some .local) (hx : scope.names.lookup x = some .local)
    (h : wpAny (model prog w) A (eval iter env) (LSrc prog w A h₀ L m env scope cl x elt f Q) E s)
    (hs : ∀ x, foldedSetIterable iter env x = pure x) :
    wpAny (model prog w) A (eval (.ListComp elt [⟨.Name x px, iter, [], 0⟩] scope pos) env) Q E s := by
  refine ListComp_DCn (K := .int) (pz := fun _ => true) (d := fun a => PyData.str (f a)) (h₀ := h₀) (L := L) (m := m) hh hclos hcell hkind hnames hx (wpAny_mono h (fun xv s₁ h₁ => ?_) fun _ _ e => e) hs
  obtain ⟨news, ax, vs, ns, rfl, hl, hi, hsz, F, N, hc, hq⟩ := h₁
  refine ⟨news, ax, vs, ns, rfl, hl, hi.areOf, hsz, F, N, ?_, ?_, ?_⟩
  · intro C a v s₂ m₂ E' hC ha hv hn hm hk
    exact cond0 ⟨rfl, Keeps.rfl'⟩
  · intro C a v s₂ m₂ E' hC ha hv hp hn hm hk
    obtain ⟨t, rfl⟩ := hv
    refine wpAny_mono (hc C a t s₂ m₂ E' hC ha hn hm hk) (fun y s₃ h₃ => ?_) fun _ _ e => e
    obtain ⟨⟨t', rfl⟩, k⟩ := h₃
    exact ⟨.str _ t', k⟩
  · intro D ys h' tk F' N' hn hlD hP hcar
    obtain ⟨e, N2⟩ := news_cons F' N' hn hP
    have ef : ns.filter (fun _ => true) = ns := List.filter_eq_self.mpr fun _ _ => rfl
    rw [ef] at hcar
    exact hq D ys e h' tk F' N2 hP.2 hcar.strsOf
end Mine
end
section
open PySem PySem.W PyProof.Rows PySem.Calls
namespace Mine
/-- the source of a comprehension that picks ints of a range and is given a name -/
def ASrc (prog : Program) (w : World) (A : Around) (h₀ : Heap) (L : Addr) (m : Str → Option Value) (env : Env) (scope : Scope) (cl : List (Str × Addr)) (x y : Str) (c : Expr) (pz : Int → Bool) (Q : Flow → Shared → Prop) (xv : Value) (s₁ : Shared) : Prop :=
  ∃ (news : List (Addr × Obj)) (r : Addr) (a₀ b₀ : Int) (t₀ u₀ v₀ : Tok) (n : Nat), xv = .ref r ∧ IsRange s₁.heap r a₀ b₀ 1 t₀ u₀ v₀ ∧ Builtin.Range.small a₀ b₀ 1 = true ∧ Builtin.Range.rangeSize a₀ b₀ 1 = (n : Int) ∧ n ≤ sizeLine ∧ Fr h₀ L s₁.heap m ∧ News h₀ L s₁.heap news ∧
    (∀ (C : Nat) (a : Int) (t : Tok) (s₂ : Shared) (m₂ : Str → Option Value) (E' : Value → Shared → Prop), s₁.heap.objs.size ≤ C → a ∈ rangeInts a₀ 1 n → s₂.heap.Ns C m₂ → m₂ x = some (.int a t) → Keep s₁.heap s₂.heap →
      wpAny (model prog w) A (isTrue c (compEnvC scope cl C env) (eval c (compEnvC scope cl C env))) (fun ok s₃ => ok = pz a ∧ Keeps s₂ s₃) E' s₂) ∧
    (∀ D (ys : List Value) e h' tk, Fr h₀ L h' (fun z => if z = y then some (.ref D) else m z) → News h₀ L h' ((D, listOf ys.toArray e) :: news) → (∀ p ∈ news, p.1 ≠ D) → IntsAre ys ((rangeInts a₀ 1 n).filter pz) → Q .next { s₁ with heap := h', toks := tk })
theorem assign_rfilter {prog : Program} {w : World} {A : Around} {E : Value → Shared → Prop} {s : Shared} {h₀ : Heap} {L : Addr} {m : Str → Option Value} {env : Env} {iter c : Expr} {x y : Str} {px py pe pos spos : Pos} {scope : Scope} {cl : List (Str × Addr)} {Q : Flow → Shared → Prop} (pz : Int → Bool) (_ : Fr h₀ L s.heap m)
    (hsw : swapsWith (.ListComp (.Name x pe) [⟨.Name x px, iter, [c], 0⟩] scope pos) (some (.Name y py)) spos.line env = pure true) (hL : env.locals = L)
    (hh : A.handled = none) (hclos : closureFor scope env = pure cl) (hcell : ∀ y ∈ scope.names, y.2 ≠ .cell) (hkind : scope.kind = .function)
    (hnames : ∀ y ∈ scope.names, y.2 = .local → scope.names.lookup y.1 = some .local) (hx : scope.names.lookup x = some .local) (hd : (x == ("__debug__" : Str)) = false)
    (hy : env.kindOf y = some .local) (hp : (env.scope.kind == .class || (env.scope.kind == .module && env.locals != env.globals)) = false)
    (h : wpAny (model prog w) A (eval iter env) (ASrc prog w A h₀ L m env scope cl x y c pz Q) E s)
    (hs : ∀ x, foldedSetIterable iter env x = pure x) :
    wpAny (model prog w) A (exec (.Assign [.Name y py] (.ListComp (.Name x pe) [⟨.Name x px, iter, [c], 0⟩] scope pos) spos) env) Q E s := by
  refine Assign_ListComp_DCr (pz := pz) (d := fun a => PyData.int a) (h₀ := h₀) (L := L) (m := m) hsw hL hh hclos hcell hkind hnames hx hy hp (wpAny_mono h (fun xv s₁ h₁ => ?_) fun _ _ e => e) hs
  obtain ⟨news, r, a₀, b₀, t₀, u₀, v₀, n, rfl, hr, hsm, hn, hsz, F, N, hc, hq⟩ := h₁
  refine ⟨news, r, a₀, b₀, 1, t₀, u₀, v₀, n, rfl, hr, hsm, hn, hsz, F, N, ?_, ?_, ?_⟩
  · intro C a v s₂ m₂ E' hC ha hv hn hm hk
    obtain ⟨t, rfl⟩ := hv
    exact cond1 (hc C a t s₂ m₂ E' hC ha hn hm hk)
  · intro C a v s₂ m₂ E' hC ha hv hp hn hm hk
    obtain ⟨t, rfl⟩ := hv
    exact wpAny_Name (wpAny_loadName_local hkind (lookup_relabel_local hx) hn hm ⟨.int a t, Keeps.rfl'⟩) hd
  · intro D ys h' tk F' N' hn hlD hP hcar
    obtain ⟨e, N2⟩ := news_cons F' N' hn hP
    exact hq D ys e h' tk F' N2 hP.2 (IntsAre.ofCarried hcar)
end Mine
end
section
open PySem PySem.W PyProof.Rows PySem.Calls
namespace Mine
set_option maxRecDepth 100000 in
set_option maxHeartbeats 8000000 in
theorem cost_con (w mean mg mb) (a b : Str) (ta tb : Tok) (ha : a.length ≤ 1000) (hb : b.length ≤ 1000) : Con 500 w mean mg mb 38 [.str a ta, .str b tb] (fun _ => True) (fun v => ∃ t, v = .int (if a = b then 0 else if Txt.lower a = Txt.lower b then 1 else 2) t) := by
  k_with_none
  w_top off
  have hfill : ((hd.heap_39 w.params).In {} → PySem.Challenge.rw_rl0042_01 = PySem.Challenge.rw_rl0042_01) := by (k_fill; intro _; rfl)
  clear hfill
  refine' Con.enter (binds := [(Str.ofString "ch_a", .str a ta), (Str.ofString "ch_b", .str b tb)]) ?k0 ?k1 ?k2 ?k3 ?k4 ?k5 ?k6 ?k7 ?k8 ?_
  case k1 => k_is
  case k0 => decide
  case k2 => k_is
  case k3 => exact (fun s _ => BindsTo.of_eq rfl)
  case k4 => exact locs rfl
  case k5 => rfl
  case k6 => rfl
  case k7 => rfl
  case k8 => decide
  intro base g outer gd env s L' B F N X T _
  (try dsimp only); (try k_lift B); (try k_fold)
  k_steps
  all_goals (refine Back.intro (s := s) (by k_asm) ⟨_, congrArg (fun x => Value.int x _) ?_⟩)
  all_goals simp_all
end Mine
end
section
open PySem PySem.W PyProof.Rows PySem.Calls
namespace Mine
def BisP (ns : List Int) (x lo hi : Int) : Prop := 0 ≤ lo ∧ lo ≤ hi ∧ hi ≤ (ns.length : Int) ∧ (∀ i : Nat, (i : Int) < lo → ns.getD i 0 ≤ x) ∧ (∀ i : Nat, hi ≤ (i : Int) → i < ns.length → x < ns.getD i 0)
theorem bis_start (ns : List Int) (x : Int) : BisP ns x 0 (ns.length : Int) := ⟨by omega, by omega, by omega, fun i h => by omega, fun i h1 h2 => by omega⟩
theorem bis_hi {ns : List Int} {x lo hi : Int} (hs : ∀ i j : Nat, i ≤ j → j < ns.length → ns.getD i 0 ≤ ns.getD j 0) (h : BisP ns x lo hi) (hlt : lo < hi) (hx : x < ns.getD ((lo + hi).fdiv 2).toNat 0) : BisP ns x lo ((lo + hi).fdiv 2) := by
  obtain ⟨h1, h2, h3, h4, h5⟩ := h
  have e : (lo + hi).fdiv 2 = (lo + hi) / 2 := Int.fdiv_eq_ediv_of_nonneg _ (by omega)
  rw [e] at hx ⊢
  refine ⟨h1, by omega, by omega, h4, fun i hi1 hi2 => ?_⟩
  exact Int.lt_of_lt_of_le hx (hs _ _ (by omega) hi2)
theorem bis_lo {ns : List Int} {x lo hi : Int} (hs : ∀ i j : Nat, i ≤ j → j < ns.length → ns.getD i 0 ≤ ns.getD j 0) (h : BisP ns x lo hi) (hlt : lo < hi) (hx : ¬ x < ns.getD ((lo + hi).fdiv 2).toNat 0) : BisP ns x ((lo + hi).fdiv 2 + 1) hi := by
  obtain ⟨h1, h2, h3, h4, h5⟩ := h
  have e : (lo + hi).fdiv 2 = (lo + hi) / 2 := Int.fdiv_eq_ediv_of_nonneg _ (by omega)
  rw [e] at hx ⊢
  refine ⟨by omega, by omega, by omega, fun i hi1 => ?_, h5⟩
  exact Int.le_trans (hs _ _ (show i ≤ ((lo + hi) / 2).toNat by omega) (by omega)) (by omega)
theorem bis_hi' {ns : List Int} {x lo hi : Int} (hs : ∀ i j : Nat, i ≤ j → j < ns.length → ns.getD i 0 ≤ ns.getD j 0) (h : BisP ns x lo hi) (hlt : lo < hi) (hx : x < ns.getD ((lo + hi).fdiv 2).toNat 0) : 0 ≤ lo ∧ lo ≤ (lo + hi).fdiv 2 ∧ (lo + hi).fdiv 2 ≤ (ns.length : Int) ∧ BisP ns x lo ((lo + hi).fdiv 2) :=
  have h' := bis_hi hs h hlt hx
  ⟨h'.1, h'.2.1, h'.2.2.1, h'⟩
theorem bis_lo' {ns : List Int} {x lo hi : Int} (hs : ∀ i j : Nat, i ≤ j → j < ns.length → ns.getD i 0 ≤ ns.getD j 0) (h : BisP ns x lo hi) (hlt : lo < hi) (hx : ¬ x < ns.getD ((lo + hi).fdiv 2).toNat 0) : 0 ≤ (lo + hi).fdiv 2 + 1 ∧ (lo + hi).fdiv 2 + 1 ≤ hi ∧ hi ≤ (ns.length : Int) ∧ BisP ns x ((lo + hi).fdiv 2 + 1) hi :=
  have h' := bis_lo hs h hlt hx
  ⟨h'.1, h'.2.1, h'.2.2.1, h'⟩
theorem bis_m1 {lo hi : Int} (hlt : lo < hi) : ((lo + hi).fdiv 2 - lo).toNat < (hi - lo).toNat := by
  rw [show (lo + hi).fdiv 2 = (lo + hi) / 2 from Int.fdiv_eq_ediv_of_nonneg _ (by omega)]; omega
theorem bis_m2 {lo hi : Int} (hlt : lo < hi) : (hi - ((lo + hi).fdiv 2 + 1)).toNat < (hi - lo).toNat := by
  rw [show (lo + hi).fdiv 2 = (lo + hi) / 2 from Int.fdiv_eq_ediv_of_nonneg _ (by omega)]; omega
theorem bis_end {ns : List Int} {x lo hi : Int} (h : BisP ns x lo hi) (h2 : lo ≤ hi) (hn : ¬ lo < hi) : BisP ns x lo lo := by
  have e : hi = lo := by omega
  subst e; exact h
set_option maxRecDepth 100000 in
set_option maxHeartbeats 8000000 in
theorem bis_con (w mean mg mb) (l : Addr) (vs : List Value) (ns : List Int) (x : Int) (tx : Tok) (hi : IntsAre vs ns) (hlen : ns.length ≤ 1000)
    (hs : ∀ i j : Nat, i ≤ j → j < ns.length → ns.getD i 0 ≤ ns.getD j 0) :
    Con 500 w mean mg mb 23 [.ref l, .int x tx] (fun h => h.IsList l vs.toArray) (fun v => ∃ r t, v = .int r t ∧ BisP ns x r r) := by
  k_with_none
  w_top off
  have hfill : ((hd.heap_39 w.params).In {} → PySem.Challenge.rw_rl0042_01 = PySem.Challenge.rw_rl0042_01) := by (k_fill; intro _; rfl)
  clear hfill
  refine' Con.enter (binds := [(Str.ofString "a", .ref l), (Str.ofString "x", .int x tx), (Str.ofString "lo", .int 0 189), (Str.ofString "hi", .none), (Str.ofString "key", .none)]) ?k0 ?k1 ?k2 ?k3 ?k4 ?k5 ?k6 ?k7 ?k8 ?_
  case k1 => k_is
  case k0 => decide
  case k2 => k_is
  case k3 =>
    intro s X M A E Q hq
    refine load_any (X 15 _ (by k_is)) ?_
    refine load_any (X 16 _ (by k_is)) ?_
    exact wpAny_pure hq
  case k4 => exact locs rfl
  case k5 => rfl
  case k6 => rfl
  case k7 => rfl
  case k8 => decide
  intro base g outer gd env s L' B F N X T hl
  (try dsimp only); (try k_lift B); (try k_fold)
  k_with "exec While Compare cons nil" => k_while (fun script lo hi => 0 ≤ lo ∧ lo ≤ hi ∧ hi ≤ (script.length : Int) ∧ BisP script x lo hi) (fun script lo hi => (hi - lo).toNat) "lo" "hi"
  k_with "state" => first | exact ⟨by omega, by omega, by omega, bis_start _ _⟩ | exact bis_hi' hs (by assumption) (by assumption) (by assumption) | exact bis_lo' hs (by assumption) (by assumption) (by assumption)
  k_with "measure" => first | exact bis_m1 (by assumption) | exact bis_m2 (by assumption)
  k_steps
  all_goals (refine Back.intro (s := s) (by k_asm) ⟨_, _, rfl, bis_end (by assumption) (by assumption) (by assumption)⟩)
end Mine
end
section
open PySem PySem.W PyProof.Rows PySem.Calls
namespace Mine
/-- the number of choices -/
def ch : Nat → Nat → Nat
  | _, 0 => 1
  | 0, _ + 1 => 0
  | n + 1, k + 1 => ch n k + ch n (k + 1)
theorem ch_step0 : ∀ x < 33, ∀ k < 4, (ch x k * (x - k)) / (k + 1) = ch x (k + 1) ∧ ch x k ≤ 40000 ∧ (x < k → ch x k = 0) := by decide +kernel
theorem ch_step {x k : Nat} (hx : x ≤ 32) (hk : k < 4) : ((ch x k : Int) * ((x : Int) - (k : Int))).fdiv ((k : Int) + 1) = (ch x (k + 1) : Int) := by
  obtain ⟨h, _, h0⟩ := ch_step0 x (by omega) k hk
  by_cases hle : k ≤ x
  · rw [← h]
    rw [show ((x : Int) - (k : Int)) = ((x - k : Nat) : Int) by omega, Int.fdiv_eq_ediv_of_nonneg _ (by omega)]
    norm_cast
  · have e := h0 (by omega)
    rw [← h, e]
    simp
theorem ch_le {x k : Nat} (hx : x ≤ 32) (hk : k ≤ 4) : ch x k ≤ 40000 := by
  have : ∀ x < 33, ∀ k < 5, ch x k ≤ 40000 := by decide +kernel
  exact this x (by omega) k (by omega)
theorem choices_start {x : Int} : (1 : Int) = (ch x.toNat ([] : List Int).length : Int) ∧ (0 : Int) ≤ 1 ∧ (1 : Int) ≤ 40000 := by
  refine ⟨?_, by omega, by omega⟩
  cases x.toNat <;> rfl
theorem choices_turn {x c k : Int} {pre : List Int} {j : Nat} (hx0 : 0 ≤ x) (hx : x ≤ 32) (hk : k = 0 + (pre.length : Int)) (hp : pre.length < j) (hj : j ≤ 4) (hc : c = (ch x.toNat pre.length : Int)) :
    (c * (x - k)).fdiv (k + 1) = (ch x.toNat (pre ++ [k]).length : Int) ∧ 0 ≤ (c * (x - k)).fdiv (k + 1) ∧ (c * (x - k)).fdiv (k + 1) ≤ 40000 := by
  have e := ch_step (x := x.toNat) (k := pre.length) (by omega) (by omega)
  have b := ch_le (x := x.toNat) (k := pre.length + 1) (by omega) (by omega)
  have e2 : (c * (x - k)).fdiv (k + 1) = (ch x.toNat (pre.length + 1) : Int) := by
    rw [← e, hc, hk, Int.toNat_of_nonneg hx0]
    simp
  rw [e2, List.length_append]
  exact ⟨rfl, by omega, by omega⟩
set_option maxRecDepth 100000 in
set_option maxHeartbeats 8000000 in
theorem choices_con (w mean mg mb) (j x : Int) (tj tx : Tok) (hj0 : 0 ≤ j) (hj : j ≤ 4) (hx0 : 0 ≤ x) (hx : x ≤ 32) :
    Con 500 w mean mg mb 71 [.int j tj, .int x tx] (fun _ => True) (fun v => ∃ t, v = .int (ch x.toNat j.toNat : Int) t) := by
  k_with_none
  w_top off
  have hfill : ((hd.heap_39 w.params).In {} → PySem.Challenge.rw_rl0042_01 = PySem.Challenge.rw_rl0042_01) := by (k_fill; intro _; rfl)
  clear hfill
  refine' Con.enter (binds := [(Str.ofString "size", .int j tj), (Str.ofString "flags", .int x tx)]) ?k0 ?k1 ?k2 ?k3 ?k4 ?k5 ?k6 ?k7 ?k8 ?_
  case k1 => k_is
  case k0 => decide
  case k2 => k_is
  case k3 => exact (fun s _ => BindsTo.of_eq rfl)
  case k4 => exact locs rfl
  case k5 => rfl
  case k6 => rfl
  case k7 => rfl
  case k8 => decide
  intro base g outer gd env s L' B F N X T _
  (try dsimp only); (try k_lift B); (try k_fold)
  k_with "pyIter ref" => k_state (fun pre c => c = (ch x.toNat pre.length : Int) ∧ 0 ≤ c ∧ c ≤ 40000) "choices"
  k_with "state" => first | exact choices_start | exact choices_turn hx0 hx (by assumption) (by assumption) (by omega) (by assumption)
  k_steps
  all_goals (refine Back.intro (s := s) (by k_asm) ⟨_, congrArg (fun x => Value.int x _) ?_⟩)
  all_goals (rename_i h _ _; rw [h, rangeKs_length]; simp)
end Mine
end
section
open PySem PySem.W PyProof.Rows PySem.Calls
namespace Mine
/-- the rank of flags, from the lowest up -/
def rkN (fl : List Int) : Nat → Int
  | 0 => 0
  | n + 1 => (ch (fl.getD n 0 + 1).toNat (n + 1) : Int) - 1 - rkN fl n
theorem rank_start (ns : List Int) : (0 : Int) = rkN ns ([] : List Int).length := rfl
theorem rank_turn {ns : List Int} {r k : Int} {pre : List Int} (hk : k = 0 + (pre.length : Int)) (hr : r = rkN ns pre.length) :
    (ch (ns.getD k.toNat 0 + 1).toNat (k + 1).toNat : Int) - 1 - r = rkN ns (pre ++ [k]).length := by
  have e : k.toNat = pre.length := by omega
  have e2 : (k + 1).toNat = pre.length + 1 := by omega
  rw [e, e2, hr, List.length_append]
  rfl
set_option maxRecDepth 100000 in
set_option maxHeartbeats 8000000 in
theorem rank_con (w mean mg mb) (l : Addr) (vs : List Value) (ns : List Int) (hi : IntsAre vs ns) (hlen : ns.length ≤ 4) (hb : ∀ i < ns.length, 0 ≤ ns.getD i 0 ∧ ns.getD i 0 ≤ 31) :
    Con 400 w mean mg mb 78 [.ref l] (fun h => h.IsList l vs.toArray) (fun v => ∃ t, v = .int (rkN ns ns.length) t) := by
  k_with_none
  w_top off
  have hfill : ((hd.heap_39 w.params).In {} → PySem.Challenge.rw_rl0042_01 = PySem.Challenge.rw_rl0042_01) := by (k_fill; intro _; rfl)
  clear hfill
  refine' Con.enter (binds := [(Str.ofString "flags", .ref l)]) ?k0 ?k1 ?k2 ?k3 ?k4 ?k5 ?k6 ?k7 ?k8 ?_
  case k1 => k_is
  case k0 => decide
  case k2 => k_is
  case k3 => exact (fun s _ => BindsTo.of_eq rfl)
  case k4 => exact locs rfl
  case k5 => rfl
  case k6 => rfl
  case k7 => rfl
  case k8 => decide
  intro base g outer gd env s L' B F N X T hl
  (try dsimp only); (try k_lift B); (try k_fold)
  k_with "pyIter ref" => k_state (fun pre r => r = rkN ns pre.length) "rank"
  k_with "state" => first | exact rank_start _ | exact rank_turn (by assumption) (by assumption)
  k_with "call ref" => k_dflt (
    have hbk := hb kN.toNat (by omega)
    k_dflt refine' Con.use (choices_con w mean mg mb _ _ _ _ ?h1 ?h2 ?h3 ?h4) ?B ?F ?N ?X ?T ?e1 ?e2 ?d ?u ?e3 ?e4 trivial ?_
    (case e1 => k_dflt rfl)
    (case e2 => k_dflt rfl)
    (case e3 => k_dflt rfl)
    (case e4 => k_dflt rfl)
    (case B => k_asm)
    (case F => k_asm)
    (case N => k_asm)
    (case X => k_asm)
    (case T => k_asm)
    (case d => k_dflt exact Nat.le_of_ble_eq_true rfl)
    (case u => k_dflt exact Nat.le_of_ble_eq_true rfl)
    (case h1 => omega)
    (case h2 => omega)
    (case h3 => omega)
    (case h4 => omega)
    intro v9 h9 tk9 kp9 F9 N9 hv9
    obtain ⟨t9, rfl⟩ := hv9
    dsimp only
    try k_fold)
  k_steps
  all_goals (refine Back.intro (s := s) (by k_asm) ⟨_, congrArg (fun x => Value.int x _) ?_⟩)
  all_goals (rename_i h; (try rw [h]); simp_all [rangeKs_length])
end Mine
end
section
open PySem PySem.W PyProof.Rows PySem.Calls
namespace Mine
/-- a column of the triangle -/
def colZ (k : Nat) : List Int := (List.range 33).map fun n => (ch n k : Int)
/-- the greatest flag of a rank -/
def topc (k r : Nat) : Nat := (List.range 33).countP (fun n => decide (ch n k ≤ r)) - 1
/-- the flags of a rank, from the greatest down -/
def un : Nat → Nat → List Nat
  | 0, _ => []
  | k + 1, r => topc (k + 1) r :: un k (ch (topc (k + 1) r + 1) (k + 1) - 1 - r)
def msk (k r : Nat) : Int := ((un k r).map fun c => (2 : Int) ^ c).sum
theorem colZ_len (k : Nat) : (colZ k).length = 33 := by simp [colZ]
theorem colZ_at {k n : Nat} (h : n < 33) : (colZ k).getD n 0 = (ch n k : Int) := by
  simp [colZ, List.getD, h]
theorem ch_mono0 : ∀ k < 5, ∀ n < 33, ch n k ≤ ch (n + 1) k := by decide +kernel
theorem ch_mono {k : Nat} (hk : k ≤ 4) : ∀ {j i : Nat}, i ≤ j → j ≤ 33 → ch i k ≤ ch j k := by
  intro j
  induction j with
  | zero => intro i hi _; have : i = 0 := by omega
            subst this; exact Nat.le_refl _
  | succ j ih =>
    intro i hi hj
    by_cases e : i = j + 1
    · subst e; exact Nat.le_refl _
    · exact Nat.le_trans (ih (by omega) (by omega)) (ch_mono0 k (by omega) j (by omega))
theorem colZ_sorted {k : Nat} (hk : k ≤ 4) : ∀ i j : Nat, i ≤ j → j < (colZ k).length → (colZ k).getD i 0 ≤ (colZ k).getD j 0 := by
  intro i j hij hj
  rw [colZ_len] at hj
  rw [colZ_at (by omega), colZ_at hj]
  exact Int.ofNat_le.mpr (ch_mono hk hij (by omega))
theorem ch_zero {k : Nat} (hk : 1 ≤ k) : ch 0 k = 0 := by
  cases k with
  | zero => omega
  | succ k => rfl
theorem countP_below {p : Nat → Bool} {c : Nat} : ∀ {n : Nat}, c ≤ n → (∀ i < c, p i = true) → (∀ i, c ≤ i → i < n → p i = false) → (List.range n).countP p = c := by
  intro n
  induction n with
  | zero => intro h _ _; have : c = 0 := by omega
            subst this; rfl
  | succ n ih =>
    intro h h1 h2
    rw [List.range_succ, List.countP_append]
    by_cases e : c = n + 1
    · subst e
      have : (List.range n).countP p = n := by
        rw [List.countP_eq_length.mpr]
        · simp
        · intro a ha; exact h1 a (by have := List.mem_range.mp ha; omega)
      rw [this, List.countP_singleton, h1 n (by omega)]; rfl
    · rw [ih (by omega) h1 (fun i a b => h2 i a (by omega)), List.countP_singleton, h2 n (by omega) (by omega)]; rfl
/-- what the search finds -/
theorem bis_top {j : Nat} {lf r : Int} (hj1 : 1 ≤ j) (hj2 : j ≤ 4) (h0 : 0 ≤ lf) (h1 : lf < (ch 32 j : Int)) (h : BisP (colZ j) lf r r) :
    1 ≤ r ∧ r ≤ 32 ∧ (r - 1).toNat = topc j lf.toNat ∧ (ch (r - 1).toNat j : Int) ≤ lf ∧ lf < (ch r.toNat j : Int) := by
  obtain ⟨a1, _, a3, a4, a5⟩ := h
  rw [colZ_len] at a3 a5
  have r1 : 1 ≤ r := by
    by_cases e : 1 ≤ r
    · exact e
    · have := a5 0 (by omega) (by omega)
      rw [colZ_at (by omega), ch_zero hj1] at this
      omega
  have r2 : r ≤ 32 := by
    by_cases e : r ≤ 32
    · exact e
    · have := a4 32 (by omega)
      rw [colZ_at (by omega)] at this
      omega
  have b1 := a4 (r - 1).toNat (by omega)
  have b2 := a5 r.toNat (by omega) (by omega)
  rw [colZ_at (by omega)] at b1 b2
  refine ⟨r1, r2, ?_, b1, b2⟩
  unfold topc
  rw [countP_below (c := r.toNat) (by omega)]
  · omega
  · intro i hi
    have := a4 i (by omega)
    rw [colZ_at (by omega)] at this
    simp; omega
  · intro i hi1 hi2
    have := a5 i (by omega) hi2
    rw [colZ_at (by omega)] at this
    simp; omega
theorem ch_pascal0 : ∀ k < 4, ∀ n < 33, ch (n + 1) (k + 1) = ch n k + ch n (k + 1) := fun _ _ _ _ => rfl
theorem chosen_start (k r : Nat) (h : r < ch 32 k) : 0 ≤ (r : Int) ∧ (r : Int) < (ch 32 (k - ([] : List Int).length) : Int) ∧ 0 + msk (k - ([] : List Int).length) (r : Int).toNat = msk k r := by
  simp; omega
theorem chosen_turn {k r : Nat} {kN lf m rr : Int} {pre : List Int} {j : Nat} (hjp : k - pre.length = j) (hj1 : 1 ≤ j) (hj2 : j ≤ 4) (h0 : 0 ≤ lf) (h1 : lf < (ch 32 (k - pre.length) : Int)) (hm : m + msk (k - pre.length) lf.toNat = msk k r) (h : BisP (colZ j) lf rr rr) :
    0 ≤ (colZ j).getD (rr - 1 + 1).toNat 0 - 1 - lf ∧ (colZ j).getD (rr - 1 + 1).toNat 0 - 1 - lf < (ch 32 (k - (pre ++ [kN]).length) : Int) ∧ m + 2 ^ (rr - 1).toNat + msk (k - (pre ++ [kN]).length) ((colZ j).getD (rr - 1 + 1).toNat 0 - 1 - lf).toNat = msk k r := by
  rw [hjp] at h1 hm
  obtain ⟨b1, b2, b3, b4, b5⟩ := bis_top hj1 hj2 h0 h1 h
  have e1 : (rr - 1 + 1).toNat = rr.toNat := by omega
  have e2 : k - (pre ++ [kN]).length = j - 1 := by simp; omega
  rw [e1, e2, colZ_at (by omega)]
  obtain ⟨i, rfl⟩ : ∃ i, j = i + 1 := ⟨j - 1, by omega⟩
  have e3 : rr.toNat = (rr - 1).toNat + 1 := by omega
  rw [e3] at b5 ⊢
  generalize hc : (rr - 1).toNat = c at *
  have hp : ch (c + 1) (i + 1) = ch c i + ch c (i + 1) := rfl
  have hmn : ch c i ≤ ch 32 i := ch_mono (by omega) (by omega) (by omega)
  simp only [Nat.add_sub_cancel]
  refine ⟨by omega, by omega, ?_⟩
  rw [← hm]
  have hu : msk (i + 1) lf.toNat = 2 ^ c + msk i (ch (c + 1) (i + 1) - 1 - lf.toNat) := by
    unfold msk
    rw [un, ← b3]
    simp
  rw [hu]
  have : ((ch (c + 1) (i + 1) : Int) - 1 - lf).toNat = ch (c + 1) (i + 1) - 1 - lf.toNat := by omega
  rw [this]; omega
set_option maxRecDepth 100000 in
set_option maxHeartbeats 8000000 in
theorem chosen_con (w mean mg mb) (l : Addr) (cs : Nat → Addr) (rs : List Value) (vv : Nat → List Value) (k : Nat) (tk0 : Tok) (r : Nat) (tr : Tok) (hk1 : 2 ≤ k) (hk2 : k ≤ 4)
    (hrs : ∀ i ≤ 4, rs[i]? = some (.ref (cs i))) (hi : ∀ i ≤ 4, IntsAre (vv i) (colZ i)) (hr1 : r < ch 32 k) :
    Con 400 w mean mg mb 59 [.ref l, .int k tk0, .int r tr] (fun h => h.IsList l rs.toArray ∧ ∀ i ≤ 4, h.IsList (cs i) (vv i).toArray) (fun v => ∃ t, v = .int (msk k r) t) := by
  k_with_none
  w_top off
  have hfill : ((hd.heap_39 w.params).In {} → PySem.Challenge.rw_rl0042_01 = PySem.Challenge.rw_rl0042_01) := by (k_fill; intro _; rfl)
  clear hfill
  refine' Con.enter (binds := [(Str.ofString "columns", .ref l), (Str.ofString "size", .int k tk0), (Str.ofString "rank", .int r tr)]) ?k0 ?k1 ?k2 ?k3 ?k4 ?k5 ?k6 ?k7 ?k8 ?_
  case k1 => k_is
  case k0 => decide
  case k2 => k_is
  case k3 => exact (fun s _ => BindsTo.of_eq rfl)
  case k4 => exact locs rfl
  case k5 => rfl
  case k6 => rfl
  case k7 => rfl
  case k8 => decide
  intro base g outer gd env s L' B F N X T ⟨hl, hlc⟩
  (try dsimp only); (try k_lift B); (try k_fold)
  k_with_none
  k_with "pyIter ref" => k_state (fun pre m lf => 0 ≤ lf ∧ lf < (ch 32 (k - pre.length) : Int) ∧ m + msk (k - pre.length) lf.toNat = msk k r) "chosen" "left"
  k_with "state" => first | exact chosen_start _ _ hr1 | exact chosen_turn (by assumption) (by assumption) (by assumption) (by assumption) (by assumption) (by assumption) (by assumption)
  k_with "subscriptTail Name BinOp ref int" => refine Hold.on ?_
  k_with "call ref" => refine Hold.on ?_
  k_steps
  · unfold Hold
    obtain ⟨j, hj⟩ : ∃ j : Nat, (k : Int) - kN = (j : Int) := ⟨((k : Int) - kN).toNat, by omega⟩
    have hj1 : 1 ≤ j := by omega
    have hj2 : j ≤ 4 := by omega
    have hjp : k - kPre.length = j := by omega
    rw [hj]
    have hlg := hlc j hj2
    have hig := hi j hj2
    refine' item_listR (items := rs.toArray) (x := .ref (cs j)) ?i1 ?i2 ?i3 ?i4 ?_
    (case i1 => exact hl.at fun o e => Fr.keep kFr l o e)
    (case i2 => omega)
    (case i3 => omega)
    (case i4 => simpa using hrs j hj2)
    try k_fold
    k_steps
    unfold Hold
    refine' Con.use (bis_con w mean mg mb (cs j) (vv j) (colZ j) _ _ hig ?h1 ?h2) ?B ?F ?N ?X ?T ?e1 ?e2 ?d ?u ?e3 ?e4 ?hp ?_
    (case e1 => rfl)
    (case e2 => rfl)
    (case e3 => rfl)
    (case e4 => rfl)
    (case B => k_asm)
    (case F => k_asm)
    (case N => k_asm)
    (case X => k_asm)
    (case T => k_asm)
    (case d => exact Nat.le_of_ble_eq_true rfl)
    (case u => exact Nat.le_of_ble_eq_true rfl)
    (case h1 => rw [colZ_len]; omega)
    (case h2 => exact colZ_sorted hj2)
    (case hp => exact hlg.at fun o e => Fr.keep (by assumption) _ o e)
    intro v9 h9 tk9 kp9 F9 N9 hv9
    obtain ⟨r9, t9, rfl, hb9⟩ := hv9
    have hr9 := bis_top hj1 hj2 (by assumption) (hjp ▸ (by assumption)) hb9
    obtain ⟨p1, p2, p3, p4, p5⟩ := hr9
    have hlen9 := colZ_len j
    dsimp only
    try k_fold
    k_with_none
    k_with "state" => first | exact chosen_start _ _ hr1 | exact chosen_turn (by assumption) (by assumption) (by assumption) (by assumption) (by assumption) (by assumption) (by assumption)
    k_steps
  all_goals (refine Back.intro (s := s) (by k_asm) ⟨_, congrArg (fun x => Value.int x _) ?_⟩)
  all_goals (simp_all [rangeKs_length, msk, un])
end Mine
end
section
open PySem PySem.W PyProof.Rows PySem.Calls
namespace Mine
def nmTab : List String := ["OPTIMIZED", "NEWLOCALS", "VARARGS", "VARKEYWORDS", "NESTED", "GENERATOR", "NOFREE", "COROUTINE", "ITERABLE_COROUTINE", "ASYNC_GENERATOR",
  "0x400", "0x800", "0x1000", "0x2000", "0x4000", "0x8000", "0x10000", "0x20000", "0x40000", "0x80000", "0x100000", "0x200000", "0x400000", "0x800000", "0x1000000", "0x2000000", "0x4000000", "0x8000000", "0x10000000", "0x20000000", "0x40000000", "0x80000000"]
/-- a flag's word -/
def nm (i : Nat) : Str := Str.ofString (nmTab.getD i "")
def bitsBelow (M : Nat) (i : Nat) : List Nat := (List.range i).filter (M.testBit ·)
theorem bits_len (M i : Nat) : (bitsBelow M i).length ≤ i := by
  have := List.length_filter_le (fun x => M.testBit x) (List.range i)
  rw [List.length_range] at this
  exact this
def flagD : List (Int × PyData) := [(1, PyData.str { cps := #[79, 80, 84, 73, 77, 73, 90, 69, 68] }), (2, PyData.str { cps := #[78, 69, 87, 76, 79, 67, 65, 76, 83] }), (4, PyData.str { cps := #[86, 65, 82, 65, 82, 71, 83] }), (8, PyData.str { cps := #[86, 65, 82, 75, 69, 89, 87, 79, 82, 68, 83] }), (16, PyData.str { cps := #[78, 69, 83, 84, 69, 68] }), (32, PyData.str { cps := #[71, 69, 78, 69, 82, 65, 84, 79, 82] }), (64, PyData.str { cps := #[78, 79, 70, 82, 69, 69] }), (128, PyData.str { cps := #[67, 79, 82, 79, 85, 84, 73, 78, 69] }), (256, PyData.str { cps := #[73, 84, 69, 82, 65, 66, 76, 69, 95, 67, 79, 82, 79, 85, 84, 73, 78, 69] }), (512, PyData.str { cps := #[65, 83, 89, 78, 67, 95, 71, 69, 78, 69, 82, 65, 84, 79, 82] })]
theorem flag_word {i : Nat} (hi : i < 32) : (KTD.datumAt (1 * 2 ^ (0 + (i : Int)).toNat) flagD).getD (PyData.str (PySem.baseText "0x" 16 (1 * 2 ^ (0 + (i : Int)).toNat))) = PyData.str (nm i) := by
  have : i = 0 ∨ i = 1 ∨ i = 2 ∨ i = 3 ∨ i = 4 ∨ i = 5 ∨ i = 6 ∨ i = 7 ∨ i = 8 ∨ i = 9 ∨ i = 10 ∨ i = 11 ∨ i = 12 ∨ i = 13 ∨ i = 14 ∨ i = 15 ∨ i = 16 ∨ i = 17 ∨ i = 18 ∨ i = 19 ∨ i = 20 ∨ i = 21 ∨ i = 22 ∨ i = 23 ∨ i = 24 ∨ i = 25 ∨ i = 26 ∨ i = 27 ∨ i = 28 ∨ i = 29 ∨ i = 30 ∨ i = 31 := by omega
  rcases this with rfl | rfl | rfl | rfl | rfl | rfl | rfl | rfl | rfl | rfl | rfl | rfl | rfl | rfl | rfl | rfl | rfl | rfl | rfl | rfl | rfl | rfl | rfl | rfl | rfl | rfl | rfl | rfl | rfl | rfl | rfl | rfl
  all_goals kernel_rfl
theorem hex_len {i : Nat} (hi : i < 32) : (PySem.baseText "0x" 16 (1 * 2 ^ (0 + (i : Int)).toNat)).length ≤ sizeLine := by
  have : ∀ i : Nat, i < 32 → (PySem.baseText "0x" 16 (1 * 2 ^ (0 + (i : Int)).toNat)).length ≤ 100 := by decide +kernel
  have h1 := this i hi
  rw [sizeLine_eq]; omega
theorem and_is (M i : Nat) : Builtin.bitAnd ((M / 2 ^ i * 2 ^ i : Nat) : Int) (1 * 2 ^ (0 + (i : Int)).toNat) = ((M / 2 ^ i % 2 * 2 ^ i : Nat) : Int) := by
  have e : (0 + (i : Int)).toNat = i := by omega
  rw [e, Int.one_mul, kbt_bit]
  have h2 : ((M / 2 ^ i * 2 ^ i : Nat) : Int) / 2 ^ i = ((M / 2 ^ i : Nat) : Int) := by
    rw [← kbt_cast, ← Int.natCast_ediv, Nat.mul_div_cancel _ (Nat.two_pow_pos i)]
  rw [h2, ← kbt_cast]
  norm_cast
theorem xor_is {M i : Nat} (h : M / 2 ^ i % 2 = 1) : Builtin.bitXor ((M / 2 ^ i * 2 ^ i : Nat) : Int) (1 * 2 ^ (0 + (i : Int)).toNat) = ((M / 2 ^ (i + 1) * 2 ^ (i + 1) : Nat) : Int) := by
  rw [bitXor_and, and_is, h]
  have e : (0 + (i : Int)).toNat = i := by omega
  rw [e, Int.one_mul, ← kbt_cast]
  have h1 : M / 2 ^ (i + 1) = M / 2 ^ i / 2 := by rw [Nat.pow_succ, Nat.div_div_eq_div_mul]
  rw [h1, Nat.pow_succ]
  generalize M / 2 ^ i = q at *
  generalize 2 ^ i = p at *
  have h3 : q = q / 2 * 2 + 1 := by omega
  have h4 : q * p = q / 2 * (p * 2) + p := by
    conv => lhs; rw [h3]
    rw [Nat.add_mul, Nat.one_mul, Nat.mul_assoc, Nat.mul_comm 2 p]
  rw [h4]; omega
theorem skip_is {M i : Nat} (h : M / 2 ^ i % 2 = 0) : M / 2 ^ i * 2 ^ i = M / 2 ^ (i + 1) * 2 ^ (i + 1) := by
  have h1 : M / 2 ^ (i + 1) = M / 2 ^ i / 2 := by rw [Nat.pow_succ, Nat.div_div_eq_div_mul]
  rw [h1, Nat.pow_succ]
  generalize M / 2 ^ i = q at *
  have h3 : q = q / 2 * 2 := by omega
  conv => lhs; rw [h3]
  rw [Nat.mul_assoc, Nat.mul_comm 2]
theorem bits_on {M i : Nat} (h : M / 2 ^ i % 2 = 1) : bitsBelow M (i + 1) = bitsBelow M i ++ [i] := by
  have ht : M.testBit i = true := by rw [Nat.testBit_eq_decide_div_mod_eq]; simp [h]
  simp [bitsBelow, List.range_succ, List.filter_append, ht]
theorem bits_off {M i : Nat} (h : M / 2 ^ i % 2 = 0) : bitsBelow M (i + 1) = bitsBelow M i := by
  have ht : M.testBit i = false := by rw [Nat.testBit_eq_decide_div_mod_eq]; simp [h]
  simp [bitsBelow, List.range_succ, List.filter_append, ht]
theorem bits_end {M i : Nat} (h : M / 2 ^ i = 0) : ∀ j, i ≤ j → bitsBelow M j = bitsBelow M i := by
  intro j hj
  induction j with
  | zero => have : i = 0 := by omega
            subst this; rfl
  | succ j ih =>
    by_cases e : i = j + 1
    · rw [e]
    · rw [bits_off ?_, ih (by omega)]
      have : M / 2 ^ j = 0 := by
        rw [Nat.div_eq_zero_iff]; right
        rw [Nat.div_eq_zero_iff] at h
        have h0 := Nat.two_pow_pos i
        exact Nat.lt_of_lt_of_le (by omega) (Nat.pow_le_pow_right (by omega) (show i ≤ j by omega))
      rw [this]
theorem and_on {M i : Nat} (h : Builtin.bitAnd ((M / 2 ^ i * 2 ^ i : Nat) : Int) (1 * 2 ^ (0 + (i : Int)).toNat) ≠ 0) : M / 2 ^ i % 2 = 1 := by
  rw [and_is] at h
  have : M / 2 ^ i % 2 ≠ 0 := fun e => h (by rw [e]; simp)
  omega
theorem and_off {M i : Nat} (h : Builtin.bitAnd ((M / 2 ^ i * 2 ^ i : Nat) : Int) (1 * 2 ^ (0 + (i : Int)).toNat) = 0) : M / 2 ^ i % 2 = 0 := by
  rw [and_is] at h
  have h0 := Nat.two_pow_pos i
  have h1 : M / 2 ^ i % 2 * 2 ^ i = 0 := by exact_mod_cast h
  rcases Nat.mul_eq_zero.mp h1 with e | e
  · exact e
  · omega
theorem div_next (M i : Nat) : M / 2 ^ (i + 1) * 2 ^ (i + 1) = 0 ↔ M / 2 ^ (i + 1) = 0 := by
  have h0 := Nat.two_pow_pos (i + 1)
  constructor
  · intro h
    rcases Nat.mul_eq_zero.mp h with e | e
    · exact e
    · omega
  · intro h; rw [h]; simp
theorem nm_len0 : ∀ i < 32, (nm i).length ≤ 18 := by decide +kernel
theorem nm_len (i : Nat) : (nm i).length ≤ 18 := by
  by_cases h : i < 32
  · exact nm_len0 i h
  · have : nm i = Str.ofString "" := by
      unfold nm
      rw [List.getD_eq_getElem?_getD, List.getElem?_eq_none (by show 32 ≤ i; omega)]
      rfl
    rw [this]
    decide
theorem sum_nm : ∀ l : List Nat, ((l.map nm).map (·.length)).sum ≤ 18 * l.length
  | [] => by simp
  | a :: l => by
    have := sum_nm l
    have := nm_len a
    simp only [List.map_cons, List.sum_cons, List.length_cons]
    omega
/-- what stands between two turns of pretty_flags -/
def PJ (M : Nat) (A : Addr) (i : Nat) (m : Str → Option Value) (nx : List (Addr × Obj)) : Prop :=
  ∃ (t : Tok) (vs : List Value) (nn : Nat), m (Str.ofString "names") = some (.ref A) ∧ m (Str.ofString "flags") = some (.int ((M / 2 ^ i * 2 ^ i : Nat) : Int) t) ∧ nx = [(A, listOf vs.toArray nn)] ∧ StrsAre vs ((bitsBelow M i).map nm) ∧ M / 2 ^ i ≠ 0
theorem fr_two {h₀ h : Heap} {L : Addr} {m : Str → Option Value} {x a b : Str} {v va vb : Value} (F : Fr h₀ L h (fun y => if y = x then some v else m y)) (ha : m a = some va) (hb : m b = some vb) :
    Fr h₀ L h (fun y => if y = x then some v else if y = a then some va else if y = b then some vb else m y) := by
  have e : (fun y => if y = x then some v else if y = a then some va else if y = b then some vb else m y) = (fun y => if y = x then some v else m y) := by
    funext y
    by_cases h1 : y = x
    · simp [h1]
    · by_cases h2 : y = a
      · simp [h1, h2, ha]
      · by_cases h3 : y = b
        · subst h3; simp [h1, h2, hb]
        · simp [h1, h2, h3]
  rw [e]; exact F
set_option maxRecDepth 100000 in
set_option maxHeartbeats 8000000 in
theorem pretty_con (w mean mg mb) (M : Nat) (tm : Tok) (hM : M < 2 ^ 32) (hM0 : M ≠ 0) :
    Con 400 w mean mg mb 31 [.int M tm] (fun h => True) (fun v => ∃ t, v = .str (Txt.join (Str.ofString ", ") ((bitsBelow M 32).map nm)) t) := by
  k_with_none
  w_top off
  have hfill : ((hd.heap_39 w.params).In {} → PySem.Challenge.rw_rl0042_01 = PySem.Challenge.rw_rl0042_01) := by (k_fill; intro _; rfl)
  clear hfill
  refine' Con.enter (binds := [(Str.ofString "flags", .int M tm)]) ?k0 ?k1 ?k2 ?k3 ?k4 ?k5 ?k6 ?k7 ?k8 ?_
  case k1 => k_is
  case k0 => decide
  case k2 => k_is
  case k3 => exact (fun s _ => BindsTo.of_eq rfl)
  case k4 => exact locs rfl
  case k5 => rfl
  case k6 => rfl
  case k7 => rfl
  case k8 => decide
  intro base g outer gd env s L' B F N X T _
  (try dsimp only); (try k_lift B); (try k_fold)
  k_with_none
  k_with "exec For Name Call cons cons" => refine Hold.on ?_
  k_with "pyIter ref" => refine Hold.on ?_
  k_steps
  unfold Hold
  refine wpAny_For ?_
  k_steps
  unfold Hold
  rename_i l' _ _ _ _ _ _ _ _ _ _ hR F0 N0 _
  refine iter_else (n := 32) (PJ M l') rfl hR rfl rfl F0 N0 rfl rfl ?_ ?_ ?_
  · exact ⟨_, [], 0, rfl, (by simp; rfl), rfl, .nil, by simpa using hM0⟩
  · rintro it i t m₁ news₁ h tk hlt hi hne ⟨tf, vs, nn, hm1, hm2, rfl, hS, hq⟩ F1 N1
    replace F1 := fr_two F1 hm1 hm2
    have hlen : vs.length ≤ 32 := by
      have h1 := hS.length
      have h2 := bits_len M i
      rw [List.length_map] at h1
      omega
    have hlt' : @LT.lt Nat _ l' it := hlt _ (List.mem_singleton.mpr rfl)
    (try dsimp only); (try k_fold)
    k_with_none
    k_with "call builtin:hex" => refine Hold.on ?_
    k_with "call builtin:dict.get" => refine Hold.on ?_
    k_steps
    · unfold Hold
      refine P.hex_of_int ?_ ?_
      · dsimp only
        walk1
        rename KTD.Keyed _ _ _ => kyX
        refine PyProof.Rows.call_get2_intTab (KTD.Keyed.keep kyX (fun b o e => Fr.keep (by assumption) b o e) _ _) (PyProof.V.Flat.str _ _) ?_
        intro v hv
        have hv2 : PyProof.V.Flat v (PyData.str (nm i)) := by
          rw [KTD.lookup_keyed] at hv
          exact flag_word hi ▸ hv
        obtain ⟨t8, rfl⟩ := hv2.str_inv
        clear hv hv2 kyX
        dsimp only
        walk1
        refine' append_K ?a1 ?a2 ?a3 ?_ ?z
        (case a1 => k_asm)
        (case a2 => k_asm)
        (case a3 => k_upd)
        (case z => rw [List.size_toArray, sizeLine_eq]; omega)
        intro h' F' N'
        have hon := and_on (M := M) (i := i) (by assumption)
        k_steps
        · have hx : Builtin.bitXor ((M / 2 ^ i * 2 ^ i : Nat) : Int) (1 * 2 ^ (0 + (i : Int)).toNat) ≠ 0 := by assumption
          rw [xor_is hon] at hx
          refine ElsePost.next (by k_asm) (by k_asm) (by intro p hp; simp at hp; subst hp; exact Nat.ne_of_lt hlt') ?_
          refine ⟨_, vs ++ [.str (nm i) t8], nn + 1, rfl, by rw [← xor_is hon]; rfl, by simp, ?_, ?_⟩
          · rw [bits_on hon, List.map_append]
            exact strsAre_append hS (.cons _ _ .nil)
          · intro e; exact hx (by rw [e]; simp)
        · dsimp only [ElsePost]
          k_steps
          have hx : Builtin.bitXor ((M / 2 ^ i * 2 ^ i : Nat) : Int) (1 * 2 ^ (0 + (i : Int)).toNat) = 0 := by assumption
          rw [xor_is hon] at hx
          have hz : M / 2 ^ (i + 1) = 0 := (div_next M i).mp (by exact_mod_cast hx)
          have hS2 : StrsAre (vs ++ [.str (nm i) t8]) ((bitsBelow M 32).map nm) := by
            rw [bits_end hz 32 (by omega), bits_on hon, List.map_append]
            exact strsAre_append hS (.cons _ _ .nil)
          refine' join_list (items := (vs ++ [Value.str (nm i) t8]).toArray) ?j1 (by simpa using hS2) ?j2 ?_
          (case j1 => exact ⟨_, News.get (by assumption) (List.mem_cons_of_mem _ (List.mem_singleton.mpr rfl)), by simp [W.listOf]⟩)
          (case j2 =>
            have h1 := sum_nm (bitsBelow M 32)
            have h2 := bits_len M 32
            have h3 : (Str.ofString ", ").length = 2 := by decide
            rw [List.length_map, h3]
            omega)
          intro t7 k7
          refine Back.intro (s := s) (by k_asm) ⟨_, rfl⟩
      · exact hex_len hi
    · have hoff := and_off (M := M) (i := i) (by assumption)
      refine ElsePost.next (by k_asm) (by k_asm) (by intro p hp; simp at hp; subst hp; exact Nat.ne_of_lt hlt') ?_
      refine ⟨_, vs, nn, rfl, by rw [← skip_is hoff]; rfl, rfl, by rw [bits_off hoff]; exact hS, ?_⟩
      intro e
      have := (div_next M i).mpr e
      rw [← skip_is hoff] at this
      rcases Nat.mul_eq_zero.mp this with e | e
      · exact hq e
      · have := Nat.two_pow_pos i; omega
  · rintro m₁ news₁ h tk ⟨tf, vs, nn, hm1, hm2, rfl, hS, hq⟩ F1 N1
    exact absurd (Nat.div_eq_of_lt hM) hq
end Mine
end
section
open PySem PySem.W PyProof.Rows PySem.Calls
namespace Mine
theorem min_pair {prog : Program} {w : World} {A : Around} {E : Value → Shared → Prop} {s : Shared} {l : Addr} {x y : Int} {t u : Tok} {Q : Value → Shared → Prop} (hh : A.handled = none) (hl : s.heap.IsList l #[.int x t, .int y u])
    (h : ∀ tt h' tk, Keep s.heap h' → Q (.int (min x y) tt) { s with heap := h', toks := tk }) : wpAny (model prog w) A (call (.builtin "min") [.ref l]) Q E s := by
  refine min_intList (xs := #[(x, t), (y, u)]) hh (by simpa [intItems] using hl) (by simp) fun v h' tk hv hk => ?_
  by_cases hxy : y < x
  · have e : min x y = y := by omega
    simp [argBest, numAt, intItems, hxy] at hv
    subst hv
    rw [← e]
    exact h _ _ _ hk
  · have e : min x y = x := by omega
    simp [argBest, numAt, intItems, hxy] at hv
    subst hv
    rw [← e]
    exact h _ _ _ hk
theorem max_pair {prog : Program} {w : World} {A : Around} {E : Value → Shared → Prop} {s : Shared} {l : Addr} {x y : Int} {t u : Tok} {Q : Value → Shared → Prop} (hh : A.handled = none) (hl : s.heap.IsList l #[.int x t, .int y u])
    (h : ∀ tt h' tk, Keep s.heap h' → Q (.int (max x y) tt) { s with heap := h', toks := tk }) : wpAny (model prog w) A (call (.builtin "max") [.ref l]) Q E s := by
  refine max_intList (xs := #[(x, t), (y, u)]) hh (by simpa [intItems] using hl) (by simp) fun v h' tk hv hk => ?_
  by_cases hxy : y > x
  · have e : max x y = y := by omega
    simp [argBest, numAt, intItems, hxy] at hv
    subst hv
    rw [← e]
    exact h _ _ _ hk
  · have e : max x y = x := by omega
    simp [argBest, numAt, intItems, hxy] at hv
    subst hv
    rw [← e]
    exact h _ _ _ hk
section
local macro_rules | `(tactic| walk_at "call builtin:min") => `(tactic| refine Hold.on ?_)
local macro_rules | `(tactic| walk_at "call builtin:max") => `(tactic| refine Hold.on ?_)
set_option maxRecDepth 100000 in
set_option maxHeartbeats 600000 in
theorem price_con (w mean mg mb) (l1 l2 : Addr) (v1 v2 : List Value) (n1 n2 : List Int) (hi1 : IntsAre v1 n1) (hi2 : IntsAre v2 n2) (hlen1 : n1.length ≤ 4) (hlen2 : n2.length ≤ 4) (x y : Int)
    (hmv : n1.filter (fun a => !(n2.any (· == a))) ++ n2.filter (fun a => !(n1.any (· == a))) = [x, y]) :
    Con 400 w mean mg mb 83 [.ref l1, .ref l2] (fun h => h.IsList l1 v1.toArray ∧ h.IsList l2 v2.toArray) (fun v => ∃ t, v = .int (if n1.filter (fun a => n2.any (· == a) && decide (min x y < a) && decide (a < max x y)) = [] then 2 else 4) t) := by
  k_with_none
  w_top off
  have hfill : ((hd.heap_39 w.params).In {} → PySem.Challenge.rw_rl0042_01 = PySem.Challenge.rw_rl0042_01) := by (k_fill; intro _; rfl)
  clear hfill
  refine' Con.enterC (binds := [(Str.ofString "before", .ref l1), (Str.ofString "behind", .ref l2)]) ?k0 ?k1 ?k2 ?k3 ?k4 ?k5 ?k6 ?k7 ?k8 ?_
  case k1 => k_is
  case k0 => decide
  case k2 => k_is
  case k3 => exact (fun s _ => BindsTo.of_eq rfl)
  case k4 => rfl
  case k5 => rfl
  case k6 => rfl
  case k7 => exact kindsX rfl
  case k8 => decide
  intro base g outer gd env s L' cells B F N Y X T ⟨hl1, hl2⟩
  k_cells Y
  rename_i oM oB oA dM dB dA
  replace F : Fr g L' s.heap (fun _ => none) := F
  replace dM : oM.data = .cell none := dM
  replace dB : oB.data = .cell (some (.ref l2)) := dB
  replace dA : oA.data = .cell (some (.ref l1)) := dA
  (try dsimp only); (try k_lift B); (try k_fold)
  k_with_none
  k_with "eval ListComp" => refine Hold.on ?_
  k_steps
  unfold Hold
  refine comp_filter (h₀ := g) (L := L') (m := fun _ => none) (fun a => !(n2.any (· == a))) rfl rfl (by decide) rfl (by decide) rfl (by decide) ?_ (by intro _; rfl)
  k_steps
  refine ⟨_, l1, v1, n1, rfl, hl1.at fun o e => F.keep _ o e, hi1, by rw [sizeLine_eq]; omega, F, N, ?_, ?_⟩
  · intro C a t s₂ m₂ E' hC ha hn hm hk
    refine wpAny_isTrue_Compare1 ?_
    refine wpAny_Name (wpAny_loadName_local rfl rfl hn hm ?_) (by decide)
    refine wpAny_Name (wpAny_loadName_cell (c := L' + 1 + 1) rfl rfl rfl ⟨oB, hk _ _ (N.get (by k_mem)), dB⟩ ?_) (by decide)
    refine notin_list_ints (hl2.at fun o e => hk _ _ (F.keep _ o e)) hi2 ?_
    walk1
    exact ⟨rfl, Keeps.rfl'⟩
  intro D1 ys1 e1 h1 tk1 F1 N1 ne1 I1
  k_steps
  unfold Hold
  refine comp_filter (h₀ := g) (L := L') (m := fun _ => none) (fun a => !(n1.any (· == a))) rfl rfl (by decide) rfl (by decide) rfl (by decide) ?_ (by intro _; rfl)
  k_steps
  refine ⟨_, l2, v2, n2, rfl, hl2.at fun o e => F1.keep _ o e, hi2, by rw [sizeLine_eq]; omega, F1, N1, ?_, ?_⟩
  · intro C a t s₂ m₂ E' hC ha hn hm hk
    refine wpAny_isTrue_Compare1 ?_
    refine wpAny_Name (wpAny_loadName_local rfl rfl hn hm ?_) (by decide)
    refine wpAny_Name (wpAny_loadName_cell (c := L' + 1) rfl rfl rfl ⟨oA, hk _ _ (N1.get (by k_mem)), dA⟩ ?_) (by decide)
    refine notin_list_ints (hl1.at fun o e => hk _ _ (F1.keep _ o e)) hi1 ?_
    walk1
    exact ⟨rfl, Keeps.rfl'⟩
  intro D2 ys2 e2 h2 tk2 F2 N2 ne2 I2
  have hf1 := List.length_filter_le (fun a => !(n2.any (· == a))) n1
  have hf2 := List.length_filter_le (fun a => !(n1.any (· == a))) n2
  refine kmk_add_ints F2 N2 ⟨_, N2.get (by k_mem), rfl, _, rfl⟩ ⟨_, N2.get (by k_mem), rfl, _, rfl⟩ I1 I2 ?_ (by rw [sizeLine_eq]; omega)
  intro D3 us h3 F3 N3 lt3 I3
  rw [hmv] at I3
  have lt3a : @LT.lt Nat _ (L' + 1) D3 := lt3 (L' + 1, oA) (by k_mem)
  have lt3b : @LT.lt Nat _ (L' + 1 + 1) D3 := lt3 (L' + 1 + 1, oB) (by k_mem)
  have lt3c : @LT.lt Nat _ (L' + 1 + 1 + 1) D3 := lt3 (L' + 1 + 1 + 1, oM) (by k_mem)
  replace N3 : News g L' h3 [(D3, listOf us.toArray 0), (L' + 1 + 1 + 1, oM), (L' + 1 + 1, oB), (L' + 1, oA)] := cb_drop N3 (by intro p hp; simp only [List.mem_cons, List.not_mem_nil, or_false] at hp ⊢; rcases hp with h | h | h | h <;> simp [h])
  clear F N F1 N1 F2 N2 ne1 ne2 lt3 I1 I2
  dsimp only
  k_steps
  unfold Hold
  rename Fr _ _ _ _ => F4
  rename News _ _ _ _ => N4
  rename _ = Data.cell (some (Value.ref D3)) => dM'
  refine comp_filter (h₀ := g) (L := L') (m := fun _ => none) (fun a => n2.any (· == a) && decide (min x y < a) && decide (a < max x y)) rfl rfl (by decide) rfl (by decide) rfl (by decide) ?_ (by intro _; rfl)
  k_steps
  refine ⟨_, l1, v1, n1, rfl, hl1.at fun o e => F4.keep _ o e, hi1, by rw [sizeLine_eq]; omega, F4, N4, ?_, ?_⟩
  · intro C a t s₂ m₂ E' hC ha hn hm hk
    refine isTrue_and ?_
    refine wpAny_isTrue_Compare1 ?_
    refine wpAny_Name (wpAny_loadName_local rfl rfl hn hm ?_) (by decide)
    refine wpAny_Name (wpAny_loadName_cell (c := L' + 1 + 1) rfl rfl rfl ⟨oB, hk _ _ (N4.get (by k_mem)), dB⟩ ?_) (by decide)
    refine in_list_ints (hl2.at fun o e => hk _ _ (F4.keep _ o e)) hi2 ?_
    walk1
    obtain ⟨F5, N5⟩ := inComp F4 N4 hC hn hk
    obtain ⟨ux, uy, rfl⟩ : ∃ ux uy, us = [Value.int x ux, Value.int y uy] := by
      cases I3 with | cons _ ux r => cases r with | cons _ uy r => cases r; exact ⟨ux, uy, rfl⟩
    have hl5 : s₂.heap.IsList D3 #[Value.int x ux, Value.int y uy] := ⟨_, N5.get (by k_mem), rfl, _, rfl⟩
    split
    · refine isTrue_and ?_
      refine isTrue_chain ?_
      k_steps
      unfold Hold
      refine min_pair rfl hl5 fun t6 h6 tk6 k6 => ?_
      obtain ⟨F6, N6⟩ := (⟨k6.fr F5, k6.news N5⟩ : Fr g C h6 m₂ ∧ News g C h6 _)
      k_steps
      refine wpAny_Name (wpAny_loadName_local rfl rfl F6.ns hm ?_) (by decide)
      k_steps
      · unfold Hold
        refine max_pair rfl (hl5.at fun o e => k6 _ _ e) fun t7 h7 tk7 k7 => ?_
        obtain ⟨F7, N7⟩ := (⟨k7.fr F6, k7.news N6⟩ : Fr g C h7 m₂ ∧ News g C h7 _)
        have kk : Keeps s₂ { s₂ with heap := h7, toks := tk7 } := ⟨h7, tk7, rfl, fun b o e => k7 _ _ (k6 _ _ e)⟩
        k_steps
        all_goals first | exact kk | simp_all
      all_goals first | exact ⟨h6, tk6, rfl, fun b o e => k6 _ _ e⟩ | (simp_all; done) | (simp_all; omega)
    · rename_i hno
      exact ⟨by simp_all, Keeps.rfl'⟩
  intro D5 ys5 e5 h5 tk5 F5 N5 ne5 I5
  k_steps
  all_goals (refine Back.intro (s := s) (by k_asm) ⟨_, congrArg (fun x => Value.int x _) ?_⟩)
  all_goals simp_all
end
end Mine
end
section
open PySem PySem.W PyProof.Rows PySem.Calls
namespace Mine
theorem strs_drop : ∀ {vs : List Value} {ys : List Str} (n : Nat), StrsAre vs ys → StrsAre (vs.drop n) (ys.drop n)
  | _, _, 0, h => h
  | _, _, _ + 1, .nil => .nil
  | _, _, n + 1, .cons _ _ h => strs_drop n h
theorem strs_take : ∀ {vs : List Value} {ys : List Str} (n : Nat), StrsAre vs ys → StrsAre (vs.take n) (ys.take n)
  | _, _, 0, _ => .nil
  | _, _, _ + 1, .nil => .nil
  | _, _, n + 1, .cons y t h => .cons y t (strs_take n h)
section
variable {prog : Program} {w : World} {A : Around} {E : Value → Shared → Prop} {s : Shared} {h₀ : Heap} {L l : Addr} {m : Str → Option Value} {news : List (Addr × Obj)} {value slice : PySem.Expr} {vs : List Value} {ys : List Str} {Q : Value → Shared → Prop}
theorem slice_from (F : Fr h₀ L s.heap m) (N : News h₀ L s.heap news) (hl : s.heap.IsList l vs.toArray) (hi : StrsAre vs ys) (hlen : ys.length ≤ 1000) {p : Int} {tp : Tok} (h0 : 0 ≤ p)
    (h : ∀ D zs h', Fr h₀ L h' m → News h₀ L h' ((D, listOf (List.toArray zs) 0) :: news) → (∀ p ∈ news, p.1 < D) → StrsAre zs (ys.drop p.toNat) → zs.length = ys.length - p.toNat → Q (.ref D) { s with heap := h' })
    (hs : subscripted slice false (.ref l) (.ref s.heap.objs.size) = operate [.ref s.heap.objs.size, .ref l] (getItem (.ref l) (.ref s.heap.objs.size))) (ht : ∀ r, letTemporaryGo value (.ref l) r = pure ()) :
    wpAny (model prog w) A (subscriptTail value slice (.ref l) (.ref s.heap.objs.size)) Q E { s with heap := s.heap.push { cls := .type "slice", data := .fields #[.int p tp, .none, .none] } } := by
  have e := hi.length
  refine kmk_slice_lit (lo := some p) (hi := none) (zs := vs.drop p.toNat) F N hl (.int _ _) .none ?_ (fun D h' F' N' l1 => h D _ h' F' N' l1 (strs_drop _ hi) (by simp [e])) hs ht (by rw [sizeLine_eq, List.size_toArray]; omega)
  obtain ⟨k, rfl⟩ := Int.eq_ofNat_of_zero_le h0
  rw [slicePick_from']
  simp
theorem slice_all (F : Fr h₀ L s.heap m) (N : News h₀ L s.heap news) (hl : s.heap.IsList l vs.toArray) (hi : StrsAre vs ys) (hlen : ys.length ≤ 1000)
    (h : ∀ D zs h', Fr h₀ L h' m → News h₀ L h' ((D, listOf (List.toArray zs) 0) :: news) → (∀ p ∈ news, p.1 < D) → StrsAre zs ys → zs.length = ys.length → Q (.ref D) { s with heap := h' })
    (hs : subscripted slice false (.ref l) (.ref s.heap.objs.size) = operate [.ref s.heap.objs.size, .ref l] (getItem (.ref l) (.ref s.heap.objs.size))) (ht : ∀ r, letTemporaryGo value (.ref l) r = pure ()) :
    wpAny (model prog w) A (subscriptTail value slice (.ref l) (.ref s.heap.objs.size)) Q E { s with heap := s.heap.push { cls := .type "slice", data := .fields #[.none, .none, .none] } } := by
  have e := hi.length
  refine kmk_slice_lit (lo := none) (hi := none) (zs := vs) F N hl .none .none ?_ (fun D h' F' N' l1 => h D _ h' F' N' l1 hi e) hs ht (by rw [sizeLine_eq, List.size_toArray]; omega)
  rw [slicePick_all]
theorem slice_neg (F : Fr h₀ L s.heap m) (N : News h₀ L s.heap news) (hl : s.heap.IsList l vs.toArray) (hi : StrsAre vs ys) (hlen : ys.length ≤ 1000) {p : Int} {tp : Tok} (h0 : p < 0)
    (h : ∀ D zs h', Fr h₀ L h' m → News h₀ L h' ((D, listOf (List.toArray zs) 0) :: news) → (∀ p ∈ news, p.1 < D) → StrsAre zs (ys.take (ys.length - (-p).toNat)) → zs.length = ys.length - (-p).toNat → Q (.ref D) { s with heap := h' })
    (hs : subscripted slice false (.ref l) (.ref s.heap.objs.size) = operate [.ref s.heap.objs.size, .ref l] (getItem (.ref l) (.ref s.heap.objs.size))) (ht : ∀ r, letTemporaryGo value (.ref l) r = pure ()) :
    wpAny (model prog w) A (subscriptTail value slice (.ref l) (.ref s.heap.objs.size)) Q E { s with heap := s.heap.push { cls := .type "slice", data := .fields #[.none, .int p tp, .none] } } := by
  have e := hi.length
  refine kmk_slice_lit (lo := none) (hi := some p) (zs := vs.take (vs.length - (-p).toNat)) F N hl .none (.int _ _) ?_ (fun D h' F' N' l1 => h D _ h' F' N' l1 (e ▸ strs_take _ hi) (by simp [e])) hs ht (by rw [sizeLine_eq, List.size_toArray]; omega)
  obtain ⟨k, rfl⟩ : ∃ k : Nat, p = -(k : Int) := ⟨(-p).toNat, by omega⟩
  rw [slicePick_butLast _ _ (by omega)]
  simp
end
theorem truthy_yes {prog : Program} {w : World} {A : Around} {E : Value → Shared → Prop} {s : Shared} {h₀ : Heap} {L D : Addr} {news : List (Addr × Obj)} {zs : List Value} {n : Nat} {Q : Bool → Shared → Prop} (N : News h₀ L s.heap news) (hm : (D, listOf zs.toArray n) ∈ news) (h1 : 1 ≤ zs.length) (h2 : zs.length ≤ 1000) (h : Q true { s with toks := s.toks + 1 + 1 }) :
    wpAny (model prog w) A (truthy (.ref D)) Q E s := by
  refine wpAny_truthy_list (items := zs.toArray) ⟨_, N.get hm, rfl, _, rfl⟩ (by rw [List.size_toArray]; omega) ?_
  have e : (!zs.toArray.isEmpty) = true := by cases zs with
    | nil => simp at h1
    | cons _ _ => rfl
  rw [e]; exact h
theorem truthy_int_yes {prog : Program} {w : World} {A : Around} {E : Value → Shared → Prop} {s : Shared} {k : Int} {t : Tok} {Q : Bool → Shared → Prop} (h0 : k ≠ 0) (h : Q true s) : wpAny (model prog w) A (truthy (.int k t)) Q E s := by
  have e : (k != 0) = true := by simp [h0]
  exact truthy_int (by rw [e]; exact h)
theorem truthy_int_no {prog : Program} {w : World} {A : Around} {E : Value → Shared → Prop} {s : Shared} {t : Tok} {Q : Bool → Shared → Prop} (h : Q false s) : wpAny (model prog w) A (truthy (.int 0 t)) Q E s := truthy_int h
theorem lev_at {P ma T0 : List Str} (h : 1 ≤ ma.length) : (P ++ ma ++ T0).getD P.length Str.empty = ma.getD 0 Str.empty := by
  cases ma with
  | nil => simp at h
  | cons x r => simp [List.getD]
theorem lev_ne {P ma mb' T0 : List Str} (hl1 : ma.length = mb'.length) (hl2 : 1 ≤ ma.length) (hne : ma.getD 0 Str.empty ≠ mb'.getD 0 Str.empty) : P ++ ma ++ T0 ≠ P ++ mb' ++ T0 := by
  intro e
  apply hne
  rw [← lev_at (P := P) (T0 := T0) hl2, ← lev_at (P := P) (T0 := T0) (hl1 ▸ hl2), e]
theorem lev_in {P q : List Str} {p : Nat} (h : p < P.length) : (P ++ q).getD p Str.empty = P.getD p Str.empty := by
  simp [List.getD, List.getElem?_append_left h]
theorem lev_turn {P ma mb' T0 : List Str} {p : Int} (hl1 : ma.length = mb'.length) (hl2 : 1 ≤ ma.length) (hne : ma.getD 0 Str.empty ≠ mb'.getD 0 Str.empty) (h0 : 0 ≤ p) (h1 : p ≤ (P.length : Int))
    (e : ((P ++ ma ++ T0).getD p.toNat Str.empty == (P ++ mb' ++ T0).getD p.toNat Str.empty) = true) : 0 ≤ p + 1 ∧ p + 1 ≤ (P.length : Int) := by
  by_cases hp : p = (P.length : Int)
  · subst hp
    rw [Int.toNat_natCast, lev_at hl2, lev_at (hl1 ▸ hl2)] at e
    exact absurd (eq_of_beq e) hne
  · omega
theorem lev_pre {P ma mb' T0 : List Str} {p : Int} (h0 : 0 ≤ p) (h1 : p ≤ (P.length : Int))
    (e : ((P ++ ma ++ T0).getD p.toNat Str.empty == (P ++ mb' ++ T0).getD p.toNat Str.empty) = false) : p = (P.length : Int) := by
  by_cases hp : p = (P.length : Int)
  · exact hp
  · rw [List.append_assoc, List.append_assoc, lev_in (by omega), lev_in (by omega)] at e
    simp at e
theorem lev_drop {P q T0 : List Str} : (P ++ q ++ T0).drop P.length = q ++ T0 := by simp
theorem with_body {w : World} {f : Addr} (P : Str → List Stmt → Scope → Value → Prop) {name qual : Str} {params : Arguments} {body : List Stmt} {scope : Scope} {dV kV doc pm cdv ct oc : Value} {an od : Option Addr} {osl : Array (Option Value)}
    (ho : (hd.heap_39 w.params).lookup f = some ⟨oc, od, .func (fnOf name qual params body scope dV kV doc pm an cdv ct), osl⟩) (h : P qual body scope cdv) :
    ∀ (name qual : Str) (params : Arguments) (body : List Stmt) (scope : Scope) (dV kV doc pm cdv ct oc : Value) (an od : Option Addr) (osl : Array (Option Value)),
      (hd.heap_39 w.params).lookup f = some ⟨oc, od, .func (fnOf name qual params body scope dV kV doc pm an cdv ct), osl⟩ → P qual body scope cdv := by
  intro name' qual' params' body' scope' dV' kV' doc' pm' cdv' ct' oc' an' od' osl' ho'
  rw [ho] at ho'
  cases ho'
  exact h
end Mine
end
section
open PySem PySem.W PyProof.Rows PySem.Calls
namespace Mine
/-- two words that differ, in any case -/
def Dif (x y : Str) : Prop := x ≠ y ∧ Txt.lower x ≠ Txt.lower y ∧ x.length ≤ 1000 ∧ y.length ≤ 1000
theorem cost_dif (w mean mg mb) (a b : Str) (ta tb : Tok) (h : Dif a b) : Con 500 w mean mg mb 38 [.str a ta, .str b tb] (fun _ => True) (fun v => ∃ t, v = .int 2 t) := by
  have := cost_con w mean mg mb a b ta tb h.2.2.1 h.2.2.2
  simpa [h.1, h.2.1] using this
theorem cost_same (w mean mg mb) (a : Str) (ta tb : Tok) (h : a.length ≤ 1000) : Con 500 w mean mg mb 38 [.str a ta, .str a tb] (fun _ => True) (fun v => ∃ t, v = .int 0 t) := by
  have := cost_con w mean mg mb a a ta tb h h
  simpa using this
theorem list_rowK {prog : Program} {w : World} {A : Around} {E : Value → Shared → Prop} {s : Shared} {h₀ : Heap} {L : Addr} {m : Str → Option Value} {news : List (Addr × Obj)} {r : Addr} {a b c : Int} {t u v : Tok} {Q : Value → Shared → Prop} (n : Nat) (hh : A.handled = none) (F : Fr h₀ L s.heap m) (N : News h₀ L s.heap news)
    (hr : IsRange s.heap r a b c t u v) (hsmall : Builtin.Range.small a b c = true) (hn : Builtin.Range.rangeSize a b c = (n : Int)) (hlen : n ≤ 2 ^ 24)
    (h : ∀ D ys e h' tk, Fr h₀ L h' m → News h₀ L h' ((D, listOf (List.toArray ys) e) :: news) → (∀ p ∈ news, p.1 < D) → IntsAre ys (rangeInts a c n) → Q (.ref D) { s with heap := h', toks := tk }) :
    wpAny (model prog w) A (call (.type "list") [.ref r]) Q E s := by
  refine list_rangeD hh F N hr hsmall hn hlen fun h' tk ys F' N' _ hnew _ hP hc => ?_
  obtain ⟨e, N2⟩ := news_cons F' N' hnew hP
  exact h _ ys e h' tk F' N2 (fun p hp => Heap.lt_size (N p hp).1) (IntsAre.ofCarried hc)
section
variable {prog : Program} {w : World} {A : Around} {E : Value → Shared → Prop} {s : Shared} {h₀ : Heap} {L : Addr} {m : Str → Option Value} {news : List (Addr × Obj)} {r : Addr} {t u v : Tok} {Q : Value → Shared → Prop}
theorem list_row1 (hh : A.handled = none) (F : Fr h₀ L s.heap m) (N : News h₀ L s.heap news) (hr : IsRange s.heap r 2 (2 * (1 + 1)) 2 t u v)
    (h : ∀ D t e h' tk, Fr h₀ L h' m → News h₀ L h' ((D, listOf [Value.int 2 t].toArray e) :: news) → (∀ p ∈ news, p.1 < D) → Q (.ref D) { s with heap := h', toks := tk }) :
    wpAny (model prog w) A (call (.type "list") [.ref r]) Q E s := by
  refine list_rowK 1 hh F N hr (by decide) (by decide) (by decide) fun D ys e h' tk F' N' l1 I => ?_
  have I2 : IntsAre ys [2] := I
  cases I2 with | cons _ t1 q => cases q; exact h D t1 e h' tk F' N' l1
theorem list_row2 (hh : A.handled = none) (F : Fr h₀ L s.heap m) (N : News h₀ L s.heap news) (hr : IsRange s.heap r 2 (2 * (2 + 1)) 2 t u v)
    (h : ∀ D t t' e h' tk, Fr h₀ L h' m → News h₀ L h' ((D, listOf [Value.int 2 t, Value.int 4 t'].toArray e) :: news) → (∀ p ∈ news, p.1 < D) → Q (.ref D) { s with heap := h', toks := tk }) :
    wpAny (model prog w) A (call (.type "list") [.ref r]) Q E s := by
  refine list_rowK 2 hh F N hr (by decide) (by decide) (by decide) fun D ys e h' tk F' N' l1 I => ?_
  have I2 : IntsAre ys [2, 4] := I
  cases I2 with | cons _ t1 q => cases q with | cons _ t2 q => cases q; exact h D t1 t2 e h' tk F' N' l1
end
section
local macro_rules | `(tactic| walk_at "call type:list") => `(tactic| (k_dflt (refine' list_row1 ?h ?F ?N ?r ?_; (case h => rfl); (case F => k_asm); (case N => k_asm); (case r => assumption)); intro D' t' e' h' tk' F' N' l1; (try k_lt l1)))
local macro_rules | `(tactic| walk_at "call type:list") => `(tactic| (k_dflt (refine' list_row2 ?h ?F ?N ?r ?_; (case h => rfl); (case F => k_asm); (case N => k_asm); (case r => assumption)); intro D' t' t'' e' h' tk' F' N' l1; (try k_lt l1)))
local macro_rules | `(tactic| walk_at "truthy ref") => `(tactic| (k_dflt (refine truthy_yes (by k_asm) (by k_mem) (by first | decide | simp) (by first | decide | simp) ?_)))
local macro_rules | `(tactic| walk_at "call ref") => `(tactic| k_dflt (
    (first | refine' Con.use (cost_same _ _ _ _ _ _ _ ?h1) ?B ?F ?N ?X ?T ?e1 ?e2 ?d ?u ?e3 ?e4 trivial ?_ | refine' Con.use (cost_dif _ _ _ _ _ _ _ _ ?h1) ?B ?F ?N ?X ?T ?e1 ?e2 ?d ?u ?e3 ?e4 trivial ?_);
    (case e1 => rfl); (case e2 => rfl); (case e3 => rfl); (case e4 => rfl); (case B => k_asm); (case F => k_asm); (case N => k_asm); (case X => k_asm); (case T => k_asm); (case d => exact Nat.le_of_ble_eq_true rfl); (case u => exact Nat.le_of_ble_eq_true rfl); (case h1 => assumption);
    intro v9 h9 tk9 kp9 F9 N9 hv9; obtain ⟨t9, e9⟩ := hv9; subst e9; clear kp9; dsimp only; (try k_fold)))
set_option maxRecDepth 100000 in
set_option maxHeartbeats 1000000 in
theorem lev_dp1 (w : World) (mean : ExcName → Option Value) (mg mb : Str → Option Value) (x y : Str) (tx ty tm : Tok) (hd1 : Dif y x) (base g : Heap) (outer : List Env) (gd : Option (List Code)) (env : Env) (s : Shared) (L' Da Db : Addr) (u : Str → Option Value) (Q : Flow → Shared → Prop)
    (B : Below (AR 400 env outer gd) base (env :: outer) g) (X : (hd.heap_39 w.params).In g)
    (T : Top hd.view_39 (looseW hd.view_39 [Str.ofString "bisect_right", Str.ofString "COMPILER_FLAG_NAMES"]) mean mg mb g)
    (F : Fr g L' s.heap (fun v => if v = Str.ofString "a" then some (.ref Da) else if v = Str.ofString "b" then some (.ref Db) else if v = Str.ofString "max_cost" then some (.int 4 tm) else u v))
    (N : News g L' s.heap [(Db, listOf [Value.str y ty].toArray 0), (Da, listOf [Value.str x tx].toArray 0)]) (hab : @LT.lt Nat _ Da Db)
    (hQ : ∀ t h' tk' m', Fr g L' h' m' → Q (.ret (.int 2 t)) { s with heap := h', toks := tk' }) :
    ∀ (name qual : Str) (params : Arguments) (body : List Stmt) (scope : Scope) (dV kV doc pm cdv ct oc : Value) (an od : Option Addr) (osl : Array (Option Value)),
      (hd.heap_39 w.params).lookup 45 = some ⟨oc, od, .func (fnOf name qual params body scope dV kV doc pm an cdv ct), osl⟩ →
      wpAny (model PySem.Challenge.rw_rl0042_01.row.prog w) ((AR 400 env outer gd).deeper (envOf qual scope L' 45 cdv)) (execs (body.drop 9) (envOf qual scope L' 45 cdv)) Q (fun _ _ => False) s := by
  k_with_none
  w_top off
  have hfill : ((hd.heap_39 w.params).In {} → PySem.Challenge.rw_rl0042_01 = PySem.Challenge.rw_rl0042_01) := by (k_fill; intro _; rfl)
  clear hfill
  refine' with_body (fun qual body scope cdv => wpAny (model PySem.Challenge.rw_rl0042_01.row.prog w) ((AR 400 env outer gd).deeper (envOf qual scope L' 45 cdv)) (execs (body.drop 9) (envOf qual scope L' 45 cdv)) Q (fun _ _ => False) s) ?ho ?_
  case ho => k_is
  simp only [List.drop_succ_cons, List.drop_zero]
  k_with_none
  k_steps
  all_goals (refine hQ _ _ _ _ (by k_asm))
end
end Mine
end
section
open PySem PySem.W PyProof.Rows PySem.Calls
namespace Mine
theorem lev_last {ma T0 : List Str} {i : Nat} (h : i < ma.length) : (ma ++ T0).getD i Str.empty = ma.getD i Str.empty := by
  simp [List.getD, List.getElem?_append_left h]
theorem lev_tail {ma T0 : List Str} {i : Nat} (h : ma.length ≤ i) : (ma ++ T0).getD i Str.empty = T0.getD (i - ma.length) Str.empty := by
  simp [List.getD, List.getElem?_append_right h]
theorem post_turn {ma mb' T0 : List Str} {p : Int} (hl1 : ma.length = mb'.length) (hl2 : 1 ≤ ma.length) (hne2 : ma.getD (ma.length - 1) Str.empty ≠ mb'.getD (ma.length - 1) Str.empty) (h0 : -(T0.length : Int) ≤ p) (h1 : p ≤ 0)
    (e : ((ma ++ T0).getD (p - 1 + ((ma ++ T0).length : Int)).toNat Str.empty == (mb' ++ T0).getD (p - 1 + ((mb' ++ T0).length : Int)).toNat Str.empty) = true) : -(T0.length : Int) ≤ p - 1 ∧ p - 1 ≤ 0 := by
  by_cases hp : p = -(T0.length : Int)
  · subst hp
    rw [List.length_append, List.length_append, show (-(T0.length : Int) - 1 + ((ma.length + T0.length : Nat) : Int)).toNat = ma.length - 1 by omega, show (-(T0.length : Int) - 1 + ((mb'.length + T0.length : Nat) : Int)).toNat = ma.length - 1 by omega,
      lev_last (by omega), lev_last (by omega)] at e
    exact absurd (eq_of_beq e) hne2
  · omega
theorem post_end {ma mb' T0 : List Str} {p : Int} (hl1 : ma.length = mb'.length) (hl2 : 1 ≤ ma.length) (h0 : -(T0.length : Int) ≤ p) (h1 : p ≤ 0)
    (e : ((ma ++ T0).getD (p - 1 + ((ma ++ T0).length : Int)).toNat Str.empty == (mb' ++ T0).getD (p - 1 + ((mb' ++ T0).length : Int)).toNat Str.empty) = false) : p = -(T0.length : Int) := by
  by_cases hp : p = -(T0.length : Int)
  · exact hp
  · rw [List.length_append, List.length_append, lev_tail (by omega), lev_tail (by omega), hl1] at e
    simp at e
theorem post_take {ma T0 : List Str} : (ma ++ T0).take ((ma ++ T0).length - (-(-(T0.length : Int))).toNat) = ma := by
  simp
theorem fr_form {h₀ h : Heap} {L : Addr} {m : Str → Option Value} {a b c : Str} {va vb vc : Value} (F : Fr h₀ L h m) (ha : m a = some va) (hb : m b = some vb) (hc : m c = some vc) :
    Fr h₀ L h (fun v => if v = a then some va else if v = b then some vb else if v = c then some vc else m v) := by
  have e : (fun v => if v = a then some va else if v = b then some vb else if v = c then some vc else m v) = m := by
    funext v
    by_cases h1 : v = a
    · subst h1; simp [ha]
    · by_cases h2 : v = b
      · subst h2; simp [h1, hb]
      · by_cases h3 : v = c
        · subst h3; simp [h1, h2, hc]
        · simp [h1, h2, h3]
  rw [e]; exact F
theorem fr_form4 {h₀ h : Heap} {L : Addr} {m : Str → Option Value} {x a b c : Str} {vx va vb vc : Value} (F : Fr h₀ L h m) (hx : m x = some vx) (ha : m a = some va) (hb : m b = some vb) (hc : m c = some vc) :
    Fr h₀ L h (fun v => if v = x then some vx else if v = a then some va else if v = b then some vb else if v = c then some vc else m v) := by
  have e : (fun v => if v = x then some vx else if v = a then some va else if v = b then some vb else if v = c then some vc else m v) = m := by
    funext v
    by_cases h0 : v = x
    · subst h0; simp [hx]
    · by_cases h1 : v = a
      · subst h1; simp [h0, ha]
      · by_cases h2 : v = b
        · subst h2; simp [h0, h1, hb]
        · by_cases h3 : v = c
          · subst h3; simp [h0, h1, h2, hc]
          · simp [h0, h1, h2, h3]
  rw [e]; exact F
section
local macro_rules | `(tactic| walk_at "subscriptTail Name Slice ref ref") => `(tactic| (k_dflt (refine' slice_neg ?F ?N ?l ?i ?n ?z ?_ ?s ?t; (case z => omega); (case F => k_asm); (case N => k_asm); (case l => kmk_list); (case i => assumption); (case n => (simp only [List.length_append, List.length_drop, List.length_take]; omega)); (case s => with_unfolding_all rfl); (case t => kmk_pure)); intro D' zs' h' F' N' l1 hS' hZ'; (try simp only [List.length_append, List.length_drop, List.length_take] at hZ'); (try k_lt l1)))
local macro_rules | `(tactic| walk_at "subscriptTail Name Slice ref ref") => `(tactic| (k_dflt (refine' slice_all ?F ?N ?l ?i ?n ?_ ?s ?t; (case F => k_asm); (case N => k_asm); (case l => kmk_list); (case i => assumption); (case n => (simp only [List.length_append, List.length_drop, List.length_take]; omega)); (case s => with_unfolding_all rfl); (case t => kmk_pure)); intro D' zs' h' F' N' l1 hS' hZ'; (try simp only [List.length_append, List.length_drop, List.length_take] at hZ'); (try k_lt l1)))
local macro_rules | `(tactic| walk_at "truthy int") => `(tactic| (refine truthy_int_yes (by omega) ?_))
local macro_rules | `(tactic| walk_at "truthy int") => `(tactic| (refine truthy_int_no ?_))
local macro_rules | `(tactic| walk_at "truthy ref") => `(tactic| (k_dflt (refine truthy_yes (by k_asm) (by k_mem) (by omega) (by omega) ?_)))
local macro_rules | `(tactic| walk_at "subscriptTail Name BinOp ref int") => `(tactic| (k_dflt (refine' item_strs_negR ?l ?i ?a ?b ?c ?_; (case l => kmk_list); (case i => assumption); (case a => omega); (case b => (simp only [List.length_append]; omega)); (case c => omega)); intro t'))
set_option maxRecDepth 100000 in
set_option maxHeartbeats 1000000 in
theorem lev_w2 (w : World) (mean : ExcName → Option Value) (mg mb : Str → Option Value) (ma mb' T0 : List Str) (tm tp : Tok) (hT : T0.length ≤ 4) (hl1 : ma.length = mb'.length) (hl2 : 1 ≤ ma.length) (hl3 : ma.length ≤ 2)
    (hne2 : ma.getD (ma.length - 1) Str.empty ≠ mb'.getD (ma.length - 1) Str.empty) (base g : Heap) (outer : List Env) (gd : Option (List Code)) (env : Env) (s : Shared) (L' Da Db : Addr) (za zb : List Value) (u : Str → Option Value) (Q : Flow → Shared → Prop)
    (B : Below (AR 400 env outer gd) base (env :: outer) g) (X : (hd.heap_39 w.params).In g)
    (T : Top hd.view_39 (looseW hd.view_39 [Str.ofString "bisect_right", Str.ofString "COMPILER_FLAG_NAMES"]) mean mg mb g)
    (F : Fr g L' s.heap (fun v => if v = Str.ofString "post" then some (.int 0 tp) else if v = Str.ofString "a" then some (.ref Da) else if v = Str.ofString "b" then some (.ref Db) else if v = Str.ofString "max_cost" then some (.int 4 tm) else u v))
    (N : News g L' s.heap [(Db, listOf zb.toArray 0), (Da, listOf za.toArray 0)]) (hab : @LT.lt Nat _ Da Db) (ha : StrsAre za (ma ++ T0)) (hb : StrsAre zb (mb' ++ T0)) :
    ∀ (name qual : Str) (params : Arguments) (body : List Stmt) (scope : Scope) (dV kV doc pm cdv ct oc : Value) (an od : Option Addr) (osl : Array (Option Value)),
      (hd.heap_39 w.params).lookup 45 = some ⟨oc, od, .func (fnOf name qual params body scope dV kV doc pm an cdv ct), osl⟩ →
      ∀ rest : List Stmt, body.drop 6 = rest → (∀ (h : Heap) (tk : Nat) (Da Db : Addr) (za zb : List Value) (u : Str → Option Value), Fr g L' h (fun v => if v = Str.ofString "a" then some (.ref Da) else if v = Str.ofString "b" then some (.ref Db) else if v = Str.ofString "max_cost" then some (.int 4 tm) else u v) →
        News g L' h [(Db, listOf zb.toArray 0), (Da, listOf za.toArray 0)] → @LT.lt Nat _ Da Db → StrsAre za ma → StrsAre zb mb' →
        wpAny (model PySem.Challenge.rw_rl0042_01.row.prog w) ((AR 400 env outer gd).deeper (envOf qual scope L' 45 cdv)) (execs (body.drop 9) (envOf qual scope L' 45 cdv)) Q (fun _ _ => False) { s with heap := h, toks := tk }) →
      wpAny (model PySem.Challenge.rw_rl0042_01.row.prog w) ((AR 400 env outer gd).deeper (envOf qual scope L' 45 cdv)) (execs rest (envOf qual scope L' 45 cdv)) Q (fun _ _ => False) s := by
  k_with_none
  w_top off
  have hfill : ((hd.heap_39 w.params).In {} → PySem.Challenge.rw_rl0042_01 = PySem.Challenge.rw_rl0042_01) := by (k_fill; intro _; rfl)
  clear hfill
  refine' with_body (fun qual body scope cdv => ∀ rest : List Stmt, body.drop 6 = rest → (∀ (h : Heap) (tk : Nat) (Da Db : Addr) (za zb : List Value) (u : Str → Option Value), Fr g L' h (fun v => if v = Str.ofString "a" then some (.ref Da) else if v = Str.ofString "b" then some (.ref Db) else if v = Str.ofString "max_cost" then some (.int 4 tm) else u v) →
        News g L' h [(Db, listOf zb.toArray 0), (Da, listOf za.toArray 0)] → @LT.lt Nat _ Da Db → StrsAre za ma → StrsAre zb mb' →
        wpAny (model PySem.Challenge.rw_rl0042_01.row.prog w) ((AR 400 env outer gd).deeper (envOf qual scope L' 45 cdv)) (execs (body.drop 9) (envOf qual scope L' 45 cdv)) Q (fun _ _ => False) { s with heap := h, toks := tk }) →
      wpAny (model PySem.Challenge.rw_rl0042_01.row.prog w) ((AR 400 env outer gd).deeper (envOf qual scope L' 45 cdv)) (execs rest (envOf qual scope L' 45 cdv)) Q (fun _ _ => False) s) ?ho ?_
  case ho => k_is
  intro rest hrest
  subst hrest
  simp only [List.drop_succ_cons, List.drop_zero]
  intro hdp
  have hza := ha.length
  have hzb := hb.length
  simp only [List.length_append] at hza hzb
  k_with_none
  k_with "exec While BoolOp cons nil" => refine Hold.on ?_
  k_with "execs cons If cons" => refine Hold.on ?_
  k_steps
  unfold Hold
  k_with "state" => first | exact ⟨by omega, by omega⟩ | exact post_turn hl1 hl2 hne2 (by omega) (by omega) (by assumption)
  k_with "measure" => (have hT9 := post_turn (ma := ma) (mb' := mb') (T0 := T0) hl1 hl2 hne2 (by omega) (by omega) (by assumption); omega)
  k_while (fun script p => -(T0.length : Int) ≤ p ∧ p ≤ 0) (fun script p => ((T0.length : Int) + p).toNat) "post"
  rename -(T0.length : Int) ≤ _ => hI9
  rename _ ≤ (0 : Int) => hI8
  rcases Int.lt_or_eq_of_le hI8 with hneg | hzero
  · k_steps
    unfold Hold
    rename Fr _ _ _ _ => F9
    rename News _ _ _ _ => N9
    have hp9 := post_end (ma := ma) (mb' := mb') (T0 := T0) hl1 hl2 (by omega) (by omega) (by assumption)
    subst hp9
    simp only [post_take] at *
    refine hdp _ _ _ _ _ _ _ (fr_form F9 rfl rfl rfl) (cb_drop N9 (List.forall_mem_cons.mpr ⟨by k_mem, List.forall_mem_cons.mpr ⟨by k_mem, fun _ h => nomatch h⟩⟩)) (by omega) (by assumption) (by assumption)
  · subst hzero
    k_steps
    unfold Hold
    rename Fr _ _ _ _ => F9
    rename News _ _ _ _ => N9
    have hp9 := post_end (ma := ma) (mb' := mb') (T0 := T0) hl1 hl2 (by omega) (by omega) (by assumption)
    have hT0 : T0 = [] := List.length_eq_zero_iff.mp (by omega)
    subst hT0
    simp only [List.append_nil] at *
    refine hdp _ _ _ _ _ _ _ (fr_form F9 rfl rfl rfl) (cb_drop N9 (List.forall_mem_cons.mpr ⟨by k_mem, List.forall_mem_cons.mpr ⟨by k_mem, fun _ h => nomatch h⟩⟩)) (by omega) (by assumption) (by assumption)
end
end Mine
end
section
open PySem PySem.W PyProof.Rows PySem.Calls
namespace Mine
section
local macro_rules | `(tactic| walk_at "subscriptTail Name Slice ref ref") => `(tactic| (k_dflt (refine' slice_from ?F ?N ?l ?i ?n ?z ?_ ?s ?t; (case z => omega); (case F => k_asm); (case N => k_asm); (case l => kmk_list); (case i => assumption); (case n => (simp only [List.length_append, List.length_drop, List.length_take]; omega)); (case s => with_unfolding_all rfl); (case t => kmk_pure)); intro D' zs' h' F' N' l1 hS' hZ'; (try simp only [List.length_append, List.length_drop, List.length_take] at hZ'); (try k_lt l1)))
local macro_rules | `(tactic| walk_at "truthy ref") => `(tactic| (k_dflt (refine truthy_yes (by k_asm) (by k_mem) (by omega) (by omega) ?_)))
set_option maxRecDepth 100000 in
set_option maxHeartbeats 1000000 in
theorem lev_main (w : World) (mean : ExcName → Option Value) (mg mb : Str → Option Value) (la lb : Addr) (va vb : List Value) (P ma mb' T0 : List Str) (tm : Tok) (r : Int) (ha : StrsAre va (P ++ ma ++ T0)) (hb : StrsAre vb (P ++ mb' ++ T0)) (hP : P.length ≤ 4) (hT : T0.length ≤ 4) (hl1 : ma.length = mb'.length) (hl2 : 1 ≤ ma.length) (hl3 : ma.length ≤ 2)
    (hok1 : StrsOk (P ++ ma ++ T0)) (hok2 : StrsOk (P ++ mb' ++ T0)) (hne : ma.getD 0 Str.empty ≠ mb'.getD 0 Str.empty) (hne2 : ma.getD (ma.length - 1) Str.empty ≠ mb'.getD (ma.length - 1) Str.empty)
    (hdp : ∀ (base g : Heap) (outer : List Env) (gd : Option (List Code)) (env : Env) (s : Shared) (L' : Addr) (h : Heap) (tk : Nat) (Da Db : Addr) (za zb : List Value) (u : Str → Option Value)
      (name qual : Str) (params : Arguments) (body : List Stmt) (scope : Scope) (dV kV doc pm cdv ct oc : Value) (an od : Option Addr) (osl : Array (Option Value)),
      (hd.heap_39 w.params).lookup 45 = some ⟨oc, od, .func (fnOf name qual params body scope dV kV doc pm an cdv ct), osl⟩ →
      Below (AR 400 env outer gd) base (env :: outer) g → (hd.heap_39 w.params).In g → Top hd.view_39 (looseW hd.view_39 [Str.ofString "bisect_right", Str.ofString "COMPILER_FLAG_NAMES"]) mean mg mb g →
      Fr g L' h (fun v => if v = Str.ofString "a" then some (.ref Da) else if v = Str.ofString "b" then some (.ref Db) else if v = Str.ofString "max_cost" then some (.int 4 tm) else u v) →
      News g L' h [(Db, listOf zb.toArray 0), (Da, listOf za.toArray 0)] → @LT.lt Nat _ Da Db → StrsAre za ma → StrsAre zb mb' →
      wpAny (model PySem.Challenge.rw_rl0042_01.row.prog w) ((AR 400 env outer gd).deeper (envOf qual scope L' 45 cdv)) (execs (body.drop 9) (envOf qual scope L' 45 cdv))
        (fun fl s' => Back g s (fun v => ∃ t, v = .int r t) (match fl with | .ret v => v | _ => .none) s') (fun _ _ => False) { s with heap := h, toks := tk }) :
    Con 400 w mean mg mb 45 [.ref la, .ref lb, .int 4 tm] (fun h => h.IsList la va.toArray ∧ h.IsList lb vb.toArray) (fun v => ∃ t, v = .int r t) := by
  k_with_none
  w_top off
  have hfill : ((hd.heap_39 w.params).In {} → PySem.Challenge.rw_rl0042_01 = PySem.Challenge.rw_rl0042_01) := by (k_fill; intro _; rfl)
  clear hfill
  refine' Con.enter (binds := [(Str.ofString "a", .ref la), (Str.ofString "b", .ref lb), (Str.ofString "max_cost", .int 4 tm)]) ?k0 ?k1 ?k2 ?k3 ?k4 ?k5 ?k6 ?k7 ?k8 ?_
  case k1 => k_is
  case k0 => decide
  case k2 => k_is
  case k3 => exact (fun s _ => BindsTo.of_eq rfl)
  case k4 => exact locs rfl
  case k5 => rfl
  case k6 => rfl
  case k7 => rfl
  case k8 => decide
  intro base g outer gd env s L' B F N X T ⟨hla, hlb⟩
  (try dsimp only); (try k_lift B); (try k_fold)
  k_with_none
  k_with "compareOp Eq ref ref" => refine Hold.on ?_
  k_with "exec While BoolOp cons nil" => refine Hold.on ?_
  k_steps
  unfold Hold
  refine eq_strsK (hla.at fun o e => F.keep _ o e) ha (hlb.at fun o e => F.keep _ o e) hb (Nat.le_of_ble_eq_true rfl) hok1 hok2 ?_
  rw [decide_eq_false (lev_ne hl1 hl2 hne)]
  k_steps
  unfold Hold
  k_with_none
  k_with "state" => first | exact ⟨by omega, by omega⟩ | exact lev_turn hl1 hl2 hne (by assumption) (by assumption) (by assumption)
  k_with "measure" => (have hT9 := lev_turn (T0 := T0) hl1 hl2 hne (by assumption) (by assumption) (by assumption); omega)
  k_with "execs cons While cons" => refine Hold.on ?_
  k_while (fun script p => 0 ≤ p ∧ p ≤ (P.length : Int)) (fun script p => P.length - p.toNat) "pre"
  have hla1 := hla.at (h' := kH) fun o e => kFr.keep _ o e
  have hlb1 := hlb.at (h' := kH) fun o e => kFr.keep _ o e
  k_steps
  unfold Hold
  have hp9 := lev_pre (P := P) (ma := ma) (mb' := mb') (T0 := T0) (by assumption) (by assumption) (by assumption)
  subst hp9
  simp only [Int.toNat_natCast, lev_drop] at *
  rename Fr _ _ _ _ => F9
  rename News _ _ _ _ => N9
  have F8 := fr_form4 (x := Str.ofString "post") (a := Str.ofString "a") (b := Str.ofString "b") (c := Str.ofString "max_cost") F9 rfl rfl rfl rfl
  refine' lev_w2 w mean mg mb ma mb' T0 tm _ hT hl1 hl2 hl3 hne2 base g outer gd env _ L' _ _ _ _ _ _ B X T F8 ?N ?lt ?a ?b _ _ _ _ _ _ _ _ _ _ _ _ _ _ _ ?ho _ ?hr ?hd
  case ho => exact rfl
  case hr => exact rfl
  case N => exact cb_drop N9 (List.forall_mem_cons.mpr ⟨by k_mem, List.forall_mem_cons.mpr ⟨by k_mem, fun _ h => nomatch h⟩⟩)
  case lt => omega
  case a => assumption
  case b => assumption
  case hd =>
    intro h tk Da Db za zb u F8 N8 lt8 ha8 hb8
    exact hdp base g outer gd env s L' h tk Da Db za zb u _ _ _ _ _ _ _ _ _ _ _ _ _ _ _ rfl B X T F8 N8 lt8 ha8 hb8
end
end Mine
end
section
open PySem PySem.W PyProof.Rows PySem.Calls
namespace Mine
def forBody : Stmt → List Stmt
  | .For _ _ b _ _ => b
  | _ => []
/-- the next place of the row -/
def rNew (d k r ri : Int) : Int := min (min r ri + 2) (d + k)
theorem rNew_is (d k r ri : Int) : (if d + k < (if ri < r then ri else r) + 2 then d + k else (if ri < r then ri else r) + 2) = rNew d k r ri := by
  unfold rNew
  by_cases h1 : ri < r
  · rw [if_pos h1]
    by_cases h2 : d + k < ri + 2
    · rw [if_pos h2]; omega
    · rw [if_neg h2]; omega
  · rw [if_neg h1]
    by_cases h2 : d + k < r + 2
    · rw [if_pos h2]; omega
    · rw [if_neg h2]; omega
/-- the inner loop's body -/
def innerB (body : List Stmt) : List Stmt := match body[15]? with
  | some o => (match (forBody o)[3]? with | some i => forBody i | none => [])
  | none => []
theorem fr_kst {h₀ h : Heap} {L : Addr} {m : Str → Option Value} {ps : List (Str × Value)} (F : Fr h₀ L h m) (hm : ∀ p ∈ ps, m p.1 = some p.2) : Fr h₀ L h (kstB m ps) := by
  have e : kstB m ps = m := by
    funext z
    exact kstB_eq hm fun _ => rfl
  rw [e]; exact F
section
local macro_rules | `(tactic| walk_at "no such key") => `(tactic| skip)
local macro_rules | `(tactic| walk_at "exec If") => `(tactic| (refine wpAny_If ?_))
local macro_rules | `(tactic| walk_at "call ref") => `(tactic| (refine Hold.on ?_))
set_option maxRecDepth 100000 in
set_option maxHeartbeats 1000000 in
theorem lev_turn0 (w : World) (mean : ExcName → Option Value) (mg mb : Str → Option Value) (c x z : Str) (tc tx tz ti td tr tm' tm : Tok) (d r mn k r0 r1 : Int) (t0 t1 : Tok) (e0 : Nat) (base g : Heap) (outer : List Env) (gd : Option (List Code)) (env : Env) (s : Shared) (L' Da Db Dr I1 I2 : Addr) (ob o1 o2 : Obj) (Q : Flow → Shared → Prop)
    (hc : ∀ tc tx, Con 500 w mean mg mb 38 [.str c tc, .str x tx] (fun _ => True) (fun v => ∃ t, v = .int k t))
    (B : Below (AR 400 env outer gd) base (env :: outer) g) (X : (hd.heap_39 w.params).In g)
    (T : Top hd.view_39 (looseW hd.view_39 [Str.ofString "bisect_right", Str.ofString "COMPILER_FLAG_NAMES"]) mean mg mb g)
    (m : Str → Option Value) (F : Fr g L' s.heap m)
    (hm : ∀ p ∈ [(Str.ofString "index", Value.int (0 + ((0 : Nat) : Int)) ti), (Str.ofString "minimum", .int mn tm'), (Str.ofString "distance", .int d td), (Str.ofString "result", .int r tr), (Str.ofString "bchar", .str c tc), (Str.ofString "row", .ref Dr), (Str.ofString "a", .ref Da), (Str.ofString "b", .ref Db), (Str.ofString "max_cost", .int 4 tm)], m p.1 = some p.2)
    (N : News g L' s.heap [(I2, o2), (I1, o1), (Dr, listOf [Value.int r0 t0, Value.int r1 t1].toArray e0), (Db, ob), (Da, listOf [Value.str x tx, Value.str z tz].toArray 0)])
    (l1 : @LT.lt Nat _ Da Db) (l2 : @LT.lt Nat _ Db Dr) (l3 : @LT.lt Nat _ Dr I1) (l4 : @LT.lt Nat _ I1 I2)
    (rn mn' : Int) (hrn : rNew d k r r0 = rn) (hmn : min mn rn = mn')
    (hQ : ∀ h' tk' m' t1' t2' t3' tq, Fr g L' h' m' → (∀ p ∈ [(Str.ofString "minimum", Value.int (mn') t1'), (Str.ofString "distance", .int r0 t2'), (Str.ofString "result", .int rn t3'), (Str.ofString "bchar", .str c tc), (Str.ofString "row", .ref Dr), (Str.ofString "a", .ref Da), (Str.ofString "b", .ref Db), (Str.ofString "max_cost", .int 4 tm)], m' p.1 = some p.2) →
      News g L' h' [(I2, o2), (I1, o1), (Dr, listOf [Value.int rn tq, Value.int r1 t1].toArray e0), (Db, ob), (Da, listOf [Value.str x tx, Value.str z tz].toArray 0)] → Q .next { s with heap := h', toks := tk' }) :
    ∀ (name qual : Str) (params : Arguments) (body : List Stmt) (scope : Scope) (dV kV doc pm cdv ct oc : Value) (an od : Option Addr) (osl : Array (Option Value)),
      (hd.heap_39 w.params).lookup 45 = some ⟨oc, od, .func (fnOf name qual params body scope dV kV doc pm an cdv ct), osl⟩ →
      ∀ rest : List Stmt, innerB body = rest →
      wpAny (model PySem.Challenge.rw_rl0042_01.row.prog w) ((AR 400 env outer gd).deeper (envOf qual scope L' 45 cdv)) (execs rest (envOf qual scope L' 45 cdv)) Q (fun _ _ => False) s := by
  subst hrn
  subst hmn
  k_with_none
  w_top off
  have hfill : ((hd.heap_39 w.params).In {} → PySem.Challenge.rw_rl0042_01 = PySem.Challenge.rw_rl0042_01) := by (k_fill; intro _; rfl)
  clear hfill
  refine' with_body (fun qual body scope cdv => ∀ rest : List Stmt, innerB body = rest →
      wpAny (model PySem.Challenge.rw_rl0042_01.row.prog w) ((AR 400 env outer gd).deeper (envOf qual scope L' 45 cdv)) (execs rest (envOf qual scope L' 45 cdv)) Q (fun _ _ => False) s) ?ho ?_
  case ho => k_is
  intro rest hrest
  subst hrest
  replace F := fr_kst F hm
  simp only [kstB] at F
  clear hm
  simp only [innerB, forBody, List.getElem?_cons_succ, List.getElem?_cons_zero]
  k_with_none
  k_steps
  unfold Hold
  refine' Con.use (hc _ _) ?B ?F ?N ?X ?T ?e1 ?e2 ?d ?u ?e3 ?e4 trivial ?_
  (case e1 => rfl)
  (case e2 => rfl)
  (case e3 => rfl)
  (case e4 => rfl)
  (case B => k_asm)
  (case F => k_asm)
  (case N => k_asm)
  (case X => k_asm)
  (case T => k_asm)
  (case d => exact Nat.le_of_ble_eq_true rfl)
  (case u => exact Nat.le_of_ble_eq_true rfl)
  intro v9 h9 tk9 kp9 F9 N9 hv9
  obtain ⟨t9, rfl⟩ := hv9
  clear kp9
  (try k_sweep)
  k_steps
  all_goals (
    rename Fr _ _ _ _ => F9
    rename News _ _ _ _ => N9
    have eg : [r0, r1].getD (0 + ((0 : Nat) : Int)).toNat 0 = r0 := rfl
    simp only [eg, rNew_is] at *)
  · refine' hQ _ _ _ ?ta0 ?tb0 ?tc0 _ F9 ?hp0 N9
    case hp0 =>
      have em : min mn (rNew d k r r0) = rNew d k r r0 := by omega
      rw [em]
      intro p hp
      simp only [List.mem_cons, List.not_mem_nil, or_false] at hp
      rcases hp with h | h | h | h | h | h | h | h <;> subst h <;> rfl
  · refine' hQ _ _ _ ?ta1 ?tb1 ?tc1 _ F9 ?hp1 N9
    case hp1 =>
      have em : min mn (rNew d k r r0) = mn := by omega
      rw [em]
      intro p hp
      simp only [List.mem_cons, List.not_mem_nil, or_false] at hp
      rcases hp with h | h | h | h | h | h | h | h <;> subst h <;> rfl
set_option maxRecDepth 100000 in
set_option maxHeartbeats 1000000 in
theorem lev_turn1 (w : World) (mean : ExcName → Option Value) (mg mb : Str → Option Value) (c x z : Str) (tc tx tz ti td tr tm' tm : Tok) (d r mn k r0 r1 : Int) (t0 t1 : Tok) (e0 : Nat) (base g : Heap) (outer : List Env) (gd : Option (List Code)) (env : Env) (s : Shared) (L' Da Db Dr I1 I2 : Addr) (ob o1 o2 : Obj) (Q : Flow → Shared → Prop)
    (hc : ∀ tc tx, Con 500 w mean mg mb 38 [.str c tc, .str z tx] (fun _ => True) (fun v => ∃ t, v = .int k t))
    (B : Below (AR 400 env outer gd) base (env :: outer) g) (X : (hd.heap_39 w.params).In g)
    (T : Top hd.view_39 (looseW hd.view_39 [Str.ofString "bisect_right", Str.ofString "COMPILER_FLAG_NAMES"]) mean mg mb g)
    (m : Str → Option Value) (F : Fr g L' s.heap m)
    (hm : ∀ p ∈ [(Str.ofString "index", Value.int (0 + ((1 : Nat) : Int)) ti), (Str.ofString "minimum", .int mn tm'), (Str.ofString "distance", .int d td), (Str.ofString "result", .int r tr), (Str.ofString "bchar", .str c tc), (Str.ofString "row", .ref Dr), (Str.ofString "a", .ref Da), (Str.ofString "b", .ref Db), (Str.ofString "max_cost", .int 4 tm)], m p.1 = some p.2)
    (N : News g L' s.heap [(I2, o2), (I1, o1), (Dr, listOf [Value.int r0 t0, Value.int r1 t1].toArray e0), (Db, ob), (Da, listOf [Value.str x tx, Value.str z tz].toArray 0)])
    (l1 : @LT.lt Nat _ Da Db) (l2 : @LT.lt Nat _ Db Dr) (l3 : @LT.lt Nat _ Dr I1) (l4 : @LT.lt Nat _ I1 I2)
    (rn mn' : Int) (hrn : rNew d k r r1 = rn) (hmn : min mn rn = mn')
    (hQ : ∀ h' tk' m' t1' t2' t3' tq, Fr g L' h' m' → (∀ p ∈ [(Str.ofString "minimum", Value.int (mn') t1'), (Str.ofString "distance", .int r1 t2'), (Str.ofString "result", .int rn t3'), (Str.ofString "bchar", .str c tc), (Str.ofString "row", .ref Dr), (Str.ofString "a", .ref Da), (Str.ofString "b", .ref Db), (Str.ofString "max_cost", .int 4 tm)], m' p.1 = some p.2) →
      News g L' h' [(I2, o2), (I1, o1), (Dr, listOf [Value.int r0 t0, Value.int rn tq].toArray e0), (Db, ob), (Da, listOf [Value.str x tx, Value.str z tz].toArray 0)] → Q .next { s with heap := h', toks := tk' }) :
    ∀ (name qual : Str) (params : Arguments) (body : List Stmt) (scope : Scope) (dV kV doc pm cdv ct oc : Value) (an od : Option Addr) (osl : Array (Option Value)),
      (hd.heap_39 w.params).lookup 45 = some ⟨oc, od, .func (fnOf name qual params body scope dV kV doc pm an cdv ct), osl⟩ →
      ∀ rest : List Stmt, innerB body = rest →
      wpAny (model PySem.Challenge.rw_rl0042_01.row.prog w) ((AR 400 env outer gd).deeper (envOf qual scope L' 45 cdv)) (execs rest (envOf qual scope L' 45 cdv)) Q (fun _ _ => False) s := by
  subst hrn
  subst hmn
  k_with_none
  w_top off
  have hfill : ((hd.heap_39 w.params).In {} → PySem.Challenge.rw_rl0042_01 = PySem.Challenge.rw_rl0042_01) := by (k_fill; intro _; rfl)
  clear hfill
  refine' with_body (fun qual body scope cdv => ∀ rest : List Stmt, innerB body = rest →
      wpAny (model PySem.Challenge.rw_rl0042_01.row.prog w) ((AR 400 env outer gd).deeper (envOf qual scope L' 45 cdv)) (execs rest (envOf qual scope L' 45 cdv)) Q (fun _ _ => False) s) ?ho ?_
  case ho => k_is
  intro rest hrest
  subst hrest
  replace F := fr_kst F hm
  simp only [kstB] at F
  clear hm
  simp only [innerB, forBody, List.getElem?_cons_succ, List.getElem?_cons_zero]
  k_with_none
  k_steps
  unfold Hold
  refine' Con.use (hc _ _) ?B ?F ?N ?X ?T ?e1 ?e2 ?d ?u ?e3 ?e4 trivial ?_
  (case e1 => rfl)
  (case e2 => rfl)
  (case e3 => rfl)
  (case e4 => rfl)
  (case B => k_asm)
  (case F => k_asm)
  (case N => k_asm)
  (case X => k_asm)
  (case T => k_asm)
  (case d => exact Nat.le_of_ble_eq_true rfl)
  (case u => exact Nat.le_of_ble_eq_true rfl)
  intro v9 h9 tk9 kp9 F9 N9 hv9
  obtain ⟨t9, rfl⟩ := hv9
  clear kp9
  (try k_sweep)
  k_steps
  all_goals (
    rename Fr _ _ _ _ => F9
    rename News _ _ _ _ => N9
    have eg : [r0, r1].getD (0 + ((1 : Nat) : Int)).toNat 0 = r1 := rfl
    simp only [eg, rNew_is] at *)
  · refine' hQ _ _ _ ?ta2 ?tb2 ?tc2 _ F9 ?hp2 N9
    case hp2 =>
      have em : min mn (rNew d k r r1) = rNew d k r r1 := by omega
      rw [em]
      intro p hp
      simp only [List.mem_cons, List.not_mem_nil, or_false] at hp
      rcases hp with h | h | h | h | h | h | h | h <;> subst h <;> rfl
  · refine' hQ _ _ _ ?ta3 ?tb3 ?tc3 _ F9 ?hp3 N9
    case hp3 =>
      have em : min mn (rNew d k r r1) = mn := by omega
      rw [em]
      intro p hp
      simp only [List.mem_cons, List.not_mem_nil, or_false] at hp
      rcases hp with h | h | h | h | h | h | h | h <;> subst h <;> rfl
end
end Mine
end
section
open PySem PySem.W PyProof.Rows PySem.Calls
namespace Mine
section
local macro_rules | `(tactic| walk_at "call type:list") => `(tactic| (k_dflt (refine' list_row1 ?h ?F ?N ?r ?_; (case h => rfl); (case F => k_asm); (case N => k_asm); (case r => assumption)); intro D' t' e' h' tk' F' N' l1; (try k_lt l1)))
local macro_rules | `(tactic| walk_at "call type:list") => `(tactic| (k_dflt (refine' list_row2 ?h ?F ?N ?r ?_; (case h => rfl); (case F => k_asm); (case N => k_asm); (case r => assumption)); intro D' t' t'' e' h' tk' F' N' l1; (try k_lt l1)))
local macro_rules | `(tactic| walk_at "truthy ref") => `(tactic| (k_dflt (refine truthy_yes (by k_asm) (by k_mem) (by first | decide | simp) (by first | decide | simp) ?_)))
local macro_rules | `(tactic| walk_at "execs cons Assign cons") => `(tactic| (refine Hold.on ?_))
local macro_rules | `(tactic| walk_at "exec If") => `(tactic| (refine wpAny_If ?_))
set_option maxRecDepth 100000 in
set_option maxHeartbeats 1000000 in
theorem lev_dp2 (w : World) (mean : ExcName → Option Value) (mg mb : Str → Option Value) (x y z : Str) (tx ty tz tz' tm : Tok) (hd1 : Dif z x) (hd2 : z.length ≤ 1000) (hd3 : Dif y x) (hd4 : Dif y z) (base g : Heap) (outer : List Env) (gd : Option (List Code)) (env : Env) (s : Shared) (L' Da Db : Addr) (u : Str → Option Value) (Q : Flow → Shared → Prop)
    (B : Below (AR 400 env outer gd) base (env :: outer) g) (X : (hd.heap_39 w.params).In g)
    (T : Top hd.view_39 (looseW hd.view_39 [Str.ofString "bisect_right", Str.ofString "COMPILER_FLAG_NAMES"]) mean mg mb g)
    (F : Fr g L' s.heap (fun v => if v = Str.ofString "a" then some (.ref Da) else if v = Str.ofString "b" then some (.ref Db) else if v = Str.ofString "max_cost" then some (.int 4 tm) else u v))
    (N : News g L' s.heap [(Db, listOf [Value.str z tz', Value.str y ty].toArray 0), (Da, listOf [Value.str x tx, Value.str z tz].toArray 0)]) (hab : @LT.lt Nat _ Da Db)
    (hQ : ∀ t h' tk' m', Fr g L' h' m' → Q (.ret (.int 4 t)) { s with heap := h', toks := tk' }) :
    ∀ (name qual : Str) (params : Arguments) (body : List Stmt) (scope : Scope) (dV kV doc pm cdv ct oc : Value) (an od : Option Addr) (osl : Array (Option Value)),
      (hd.heap_39 w.params).lookup 45 = some ⟨oc, od, .func (fnOf name qual params body scope dV kV doc pm an cdv ct), osl⟩ →
      wpAny (model PySem.Challenge.rw_rl0042_01.row.prog w) ((AR 400 env outer gd).deeper (envOf qual scope L' 45 cdv)) (execs (body.drop 9) (envOf qual scope L' 45 cdv)) Q (fun _ _ => False) s := by
  k_with_none
  w_top off
  have hfill : ((hd.heap_39 w.params).In {} → PySem.Challenge.rw_rl0042_01 = PySem.Challenge.rw_rl0042_01) := by (k_fill; intro _; rfl)
  clear hfill
  refine' with_body (fun qual body scope cdv => wpAny (model PySem.Challenge.rw_rl0042_01.row.prog w) ((AR 400 env outer gd).deeper (envOf qual scope L' 45 cdv)) (execs (body.drop 9) (envOf qual scope L' 45 cdv)) Q (fun _ _ => False) s) ?ho ?_
  case ho => k_is
  simp only [List.drop_succ_cons, List.drop_zero]
  k_with_none
  k_steps
  unfold Hold
  walk_at "execs cons"
  k_steps
  unfold Hold
  walk_at "execs cons"
  k_steps
  unfold Hold
  walk_at "execs cons"
  k_steps
  unfold Hold
  walk_at "execs cons"
  k_steps
  unfold Hold
  walk_at "execs cons"
  k_steps
  unfold Hold
  walk_at "execs cons"
  k_steps
  unfold Hold
  refine' lev_turn0 _ _ _ _ _ _ _ _ _ _ _ _ _ _ _ _ _ _ _ _ _ _ _ _ _ _ _ _ _ _ _ _ _ _ _ _ _ _ _ _ ?hc ?B ?X ?T _ ?F ?hm ?N ?l1 ?l2 ?l3 ?l4 _ _ ?hrn ?hmn ?hQ0 _ _ _ _ _ _ _ _ _ _ _ _ _ _ _ ?ho _ ?hr
  (case ho => exact rfl); (case hr => exact rfl); (case B => k_asm); (case X => k_asm); (case T => k_asm); (case F => k_asm); (case N => k_asm); (case hm => (repeat' (first | (refine List.forall_mem_cons.mpr ⟨?_, ?_⟩) | rfl | exact fun _ h => nomatch h))); (case hc => (intro _ _; first | (refine' cost_same _ _ _ _ _ _ _ ?_; assumption) | (refine' cost_dif _ _ _ _ _ _ _ _ ?_; assumption))); (case l1 => omega); (case l2 => omega); (case l3 => omega); (case l4 => omega); (case hrn => first | (refine' Eq.trans (b := (0 : Int)) ?apx0 ?apy0; (case apx0 => decide); (case apy0 => rfl)) | (refine' Eq.trans (b := (2 : Int)) ?apx2 ?apy2; (case apx2 => decide); (case apy2 => rfl)) | (refine' Eq.trans (b := (4 : Int)) ?apx4 ?apy4; (case apx4 => decide); (case apy4 => rfl)) | (refine' Eq.trans (b := (6 : Int)) ?apx6 ?apy6; (case apx6 => decide); (case apy6 => rfl))); (case hmn => first | (refine' Eq.trans (b := (0 : Int)) ?aqx0 ?aqy0; (case aqx0 => decide); (case aqy0 => rfl)) | (refine' Eq.trans (b := (2 : Int)) ?aqx2 ?aqy2; (case aqx2 => decide); (case aqy2 => rfl)) | (refine' Eq.trans (b := (4 : Int)) ?aqx4 ?aqy4; (case aqx4 => decide); (case aqy4 => rfl)) | (refine' Eq.trans (b := (6 : Int)) ?aqx6 ?aqy6; (case aqx6 => decide); (case aqy6 => rfl))); intro h' tk' m' t1' t2' t3' tq' F' hm' N'; (replace F' := fr_kst F' hm'); (simp only [kstB] at F'); (clear hm'); (try dsimp only); (try show UnrPost _ _ _ _ _ _ _ _ _); (try k_sweep)
  k_steps
  unfold Hold
  refine' lev_turn1 _ _ _ _ _ _ _ _ _ _ _ _ _ _ _ _ _ _ _ _ _ _ _ _ _ _ _ _ _ _ _ _ _ _ _ _ _ _ _ _ ?hc ?B ?X ?T _ ?F ?hm ?N ?l1 ?l2 ?l3 ?l4 _ _ ?hrn ?hmn ?hQ1 _ _ _ _ _ _ _ _ _ _ _ _ _ _ _ ?ho _ ?hr
  (case ho => exact rfl); (case hr => exact rfl); (case B => k_asm); (case X => k_asm); (case T => k_asm); (case F => k_asm); (case N => k_asm); (case hm => (repeat' (first | (refine List.forall_mem_cons.mpr ⟨?_, ?_⟩) | rfl | exact fun _ h => nomatch h))); (case hc => (intro _ _; first | (refine' cost_same _ _ _ _ _ _ _ ?_; assumption) | (refine' cost_dif _ _ _ _ _ _ _ _ ?_; assumption))); (case l1 => omega); (case l2 => omega); (case l3 => omega); (case l4 => omega); (case hrn => first | (refine' Eq.trans (b := (0 : Int)) ?bpx0 ?bpy0; (case bpx0 => decide); (case bpy0 => rfl)) | (refine' Eq.trans (b := (2 : Int)) ?bpx2 ?bpy2; (case bpx2 => decide); (case bpy2 => rfl)) | (refine' Eq.trans (b := (4 : Int)) ?bpx4 ?bpy4; (case bpx4 => decide); (case bpy4 => rfl)) | (refine' Eq.trans (b := (6 : Int)) ?bpx6 ?bpy6; (case bpx6 => decide); (case bpy6 => rfl))); (case hmn => first | (refine' Eq.trans (b := (0 : Int)) ?bqx0 ?bqy0; (case bqx0 => decide); (case bqy0 => rfl)) | (refine' Eq.trans (b := (2 : Int)) ?bqx2 ?bqy2; (case bqx2 => decide); (case bqy2 => rfl)) | (refine' Eq.trans (b := (4 : Int)) ?bqx4 ?bqy4; (case bqx4 => decide); (case bqy4 => rfl)) | (refine' Eq.trans (b := (6 : Int)) ?bqx6 ?bqy6; (case bqx6 => decide); (case bqy6 => rfl))); intro h' tk' m' t1' t2' t3' tq' F' hm' N'; (replace F' := fr_kst F' hm'); (simp only [kstB] at F'); (clear hm'); (try dsimp only); (try show UnrPost _ _ _ _ _ _ _ _ _); (try k_sweep)
  k_steps
  unfold Hold
  walk_at "execs cons"
  k_steps
  unfold Hold
  walk_at "execs cons"
  k_steps
  unfold Hold
  walk_at "execs cons"
  k_steps
  unfold Hold
  refine' lev_turn0 _ _ _ _ _ _ _ _ _ _ _ _ _ _ _ _ _ _ _ _ _ _ _ _ _ _ _ _ _ _ _ _ _ _ _ _ _ _ _ _ ?hc ?B ?X ?T _ ?F ?hm ?N ?l1 ?l2 ?l3 ?l4 _ _ ?hrn ?hmn ?hQ2 _ _ _ _ _ _ _ _ _ _ _ _ _ _ _ ?ho _ ?hr
  (case ho => exact rfl); (case hr => exact rfl); (case B => k_asm); (case X => k_asm); (case T => k_asm); (case F => k_asm); (case N => k_asm); (case hm => (repeat' (first | (refine List.forall_mem_cons.mpr ⟨?_, ?_⟩) | rfl | exact fun _ h => nomatch h))); (case hc => (intro _ _; first | (refine' cost_same _ _ _ _ _ _ _ ?_; assumption) | (refine' cost_dif _ _ _ _ _ _ _ _ ?_; assumption))); (case l1 => omega); (case l2 => omega); (case l3 => omega); (case l4 => omega); (case hrn => first | (refine' Eq.trans (b := (0 : Int)) ?cpx0 ?cpy0; (case cpx0 => decide); (case cpy0 => rfl)) | (refine' Eq.trans (b := (2 : Int)) ?cpx2 ?cpy2; (case cpx2 => decide); (case cpy2 => rfl)) | (refine' Eq.trans (b := (4 : Int)) ?cpx4 ?cpy4; (case cpx4 => decide); (case cpy4 => rfl)) | (refine' Eq.trans (b := (6 : Int)) ?cpx6 ?cpy6; (case cpx6 => decide); (case cpy6 => rfl))); (case hmn => first | (refine' Eq.trans (b := (0 : Int)) ?cqx0 ?cqy0; (case cqx0 => decide); (case cqy0 => rfl)) | (refine' Eq.trans (b := (2 : Int)) ?cqx2 ?cqy2; (case cqx2 => decide); (case cqy2 => rfl)) | (refine' Eq.trans (b := (4 : Int)) ?cqx4 ?cqy4; (case cqx4 => decide); (case cqy4 => rfl)) | (refine' Eq.trans (b := (6 : Int)) ?cqx6 ?cqy6; (case cqx6 => decide); (case cqy6 => rfl))); intro h' tk' m' t1' t2' t3' tq' F' hm' N'; (replace F' := fr_kst F' hm'); (simp only [kstB] at F'); (clear hm'); (try dsimp only); (try show UnrPost _ _ _ _ _ _ _ _ _); (try k_sweep)
  k_steps
  unfold Hold
  refine' lev_turn1 _ _ _ _ _ _ _ _ _ _ _ _ _ _ _ _ _ _ _ _ _ _ _ _ _ _ _ _ _ _ _ _ _ _ _ _ _ _ _ _ ?hc ?B ?X ?T _ ?F ?hm ?N ?l1 ?l2 ?l3 ?l4 _ _ ?hrn ?hmn ?hQ3 _ _ _ _ _ _ _ _ _ _ _ _ _ _ _ ?ho _ ?hr
  (case ho => exact rfl); (case hr => exact rfl); (case B => k_asm); (case X => k_asm); (case T => k_asm); (case F => k_asm); (case N => k_asm); (case hm => (repeat' (first | (refine List.forall_mem_cons.mpr ⟨?_, ?_⟩) | rfl | exact fun _ h => nomatch h))); (case hc => (intro _ _; first | (refine' cost_same _ _ _ _ _ _ _ ?_; assumption) | (refine' cost_dif _ _ _ _ _ _ _ _ ?_; assumption))); (case l1 => omega); (case l2 => omega); (case l3 => omega); (case l4 => omega); (case hrn => first | (refine' Eq.trans (b := (0 : Int)) ?dpx0 ?dpy0; (case dpx0 => decide); (case dpy0 => rfl)) | (refine' Eq.trans (b := (2 : Int)) ?dpx2 ?dpy2; (case dpx2 => decide); (case dpy2 => rfl)) | (refine' Eq.trans (b := (4 : Int)) ?dpx4 ?dpy4; (case dpx4 => decide); (case dpy4 => rfl)) | (refine' Eq.trans (b := (6 : Int)) ?dpx6 ?dpy6; (case dpx6 => decide); (case dpy6 => rfl))); (case hmn => first | (refine' Eq.trans (b := (0 : Int)) ?dqx0 ?dqy0; (case dqx0 => decide); (case dqy0 => rfl)) | (refine' Eq.trans (b := (2 : Int)) ?dqx2 ?dqy2; (case dqx2 => decide); (case dqy2 => rfl)) | (refine' Eq.trans (b := (4 : Int)) ?dqx4 ?dqy4; (case dqx4 => decide); (case dqy4 => rfl)) | (refine' Eq.trans (b := (6 : Int)) ?dqx6 ?dqy6; (case dqx6 => decide); (case dqy6 => rfl))); intro h' tk' m' t1' t2' t3' tq' F' hm' N'; (replace F' := fr_kst F' hm'); (simp only [kstB] at F'); (clear hm'); (try dsimp only); (try show UnrPost _ _ _ _ _ _ _ _ _); (try k_sweep)
  k_steps
  all_goals (refine hQ _ _ _ _ (by k_asm))
end
end Mine
end
section
open PySem PySem.W PyProof.Rows PySem.Calls
namespace Mine
section
local macro_rules | `(tactic| walk_at "no such key") => `(tactic| skip)
local macro_rules | `(tactic| walk_at "call type:list") => `(tactic| (k_dflt (refine' list_row1 ?h ?F ?N ?r ?_; (case h => rfl); (case F => k_asm); (case N => k_asm); (case r => assumption)); intro D' t' e' h' tk' F' N' l1; (try k_lt l1)))
local macro_rules | `(tactic| walk_at "call type:list") => `(tactic| (k_dflt (refine' list_row2 ?h ?F ?N ?r ?_; (case h => rfl); (case F => k_asm); (case N => k_asm); (case r => assumption)); intro D' t' t'' e' h' tk' F' N' l1; (try k_lt l1)))
local macro_rules | `(tactic| walk_at "truthy ref") => `(tactic| (k_dflt (refine truthy_yes (by k_asm) (by k_mem) (by first | decide | simp) (by first | decide | simp) ?_)))
local macro_rules | `(tactic| walk_at "execs cons Assign cons") => `(tactic| (refine Hold.on ?_))
local macro_rules | `(tactic| walk_at "exec If") => `(tactic| (refine wpAny_If ?_))
set_option maxRecDepth 100000 in
set_option maxHeartbeats 1000000 in
theorem lev_dp3 (w : World) (mean : ExcName → Option Value) (mg mb : Str → Option Value) (x y z : Str) (tx ty tz tz' tm : Tok) (hd1 : Dif x z) (hd2 : Dif x y) (hd3 : z.length ≤ 1000) (hd4 : Dif z y) (base g : Heap) (outer : List Env) (gd : Option (List Code)) (env : Env) (s : Shared) (L' Da Db : Addr) (u : Str → Option Value) (Q : Flow → Shared → Prop)
    (B : Below (AR 400 env outer gd) base (env :: outer) g) (X : (hd.heap_39 w.params).In g)
    (T : Top hd.view_39 (looseW hd.view_39 [Str.ofString "bisect_right", Str.ofString "COMPILER_FLAG_NAMES"]) mean mg mb g)
    (F : Fr g L' s.heap (fun v => if v = Str.ofString "a" then some (.ref Da) else if v = Str.ofString "b" then some (.ref Db) else if v = Str.ofString "max_cost" then some (.int 4 tm) else u v))
    (N : News g L' s.heap [(Db, listOf [Value.str x tx, Value.str z tz'].toArray 0), (Da, listOf [Value.str z tz, Value.str y ty].toArray 0)]) (hab : @LT.lt Nat _ Da Db)
    (hQ : ∀ t h' tk' m', Fr g L' h' m' → Q (.ret (.int 4 t)) { s with heap := h', toks := tk' }) :
    ∀ (name qual : Str) (params : Arguments) (body : List Stmt) (scope : Scope) (dV kV doc pm cdv ct oc : Value) (an od : Option Addr) (osl : Array (Option Value)),
      (hd.heap_39 w.params).lookup 45 = some ⟨oc, od, .func (fnOf name qual params body scope dV kV doc pm an cdv ct), osl⟩ →
      wpAny (model PySem.Challenge.rw_rl0042_01.row.prog w) ((AR 400 env outer gd).deeper (envOf qual scope L' 45 cdv)) (execs (body.drop 9) (envOf qual scope L' 45 cdv)) Q (fun _ _ => False) s := by
  k_with_none
  w_top off
  have hfill : ((hd.heap_39 w.params).In {} → PySem.Challenge.rw_rl0042_01 = PySem.Challenge.rw_rl0042_01) := by (k_fill; intro _; rfl)
  clear hfill
  refine' with_body (fun qual body scope cdv => wpAny (model PySem.Challenge.rw_rl0042_01.row.prog w) ((AR 400 env outer gd).deeper (envOf qual scope L' 45 cdv)) (execs (body.drop 9) (envOf qual scope L' 45 cdv)) Q (fun _ _ => False) s) ?ho ?_
  case ho => k_is
  simp only [List.drop_succ_cons, List.drop_zero]
  k_with_none
  k_steps
  unfold Hold
  walk_at "execs cons"
  k_steps
  unfold Hold
  walk_at "execs cons"
  k_steps
  unfold Hold
  walk_at "execs cons"
  k_steps
  unfold Hold
  walk_at "execs cons"
  k_steps
  unfold Hold
  walk_at "execs cons"
  k_steps
  unfold Hold
  walk_at "execs cons"
  k_steps
  unfold Hold
  refine' lev_turn0 _ _ _ _ _ _ _ _ _ _ _ _ _ _ _ _ _ _ _ _ _ _ _ _ _ _ _ _ _ _ _ _ _ _ _ _ _ _ _ _ ?hc ?B ?X ?T _ ?F ?hm ?N ?l1 ?l2 ?l3 ?l4 _ _ ?hrn ?hmn ?hQ0 _ _ _ _ _ _ _ _ _ _ _ _ _ _ _ ?ho _ ?hr
  (case ho => exact rfl); (case hr => exact rfl); (case B => k_asm); (case X => k_asm); (case T => k_asm); (case F => k_asm); (case N => k_asm); (case hm => (repeat' (first | (refine List.forall_mem_cons.mpr ⟨?_, ?_⟩) | rfl | exact fun _ h => nomatch h))); (case hc => (intro _ _; first | (refine' cost_same _ _ _ _ _ _ _ ?_; assumption) | (refine' cost_dif _ _ _ _ _ _ _ _ ?_; assumption))); (case l1 => omega); (case l2 => omega); (case l3 => omega); (case l4 => omega); (case hrn => first | (refine' Eq.trans (b := (0 : Int)) ?apx0 ?apy0; (case apx0 => decide); (case apy0 => rfl)) | (refine' Eq.trans (b := (2 : Int)) ?apx2 ?apy2; (case apx2 => decide); (case apy2 => rfl)) | (refine' Eq.trans (b := (4 : Int)) ?apx4 ?apy4; (case apx4 => decide); (case apy4 => rfl)) | (refine' Eq.trans (b := (6 : Int)) ?apx6 ?apy6; (case apx6 => decide); (case apy6 => rfl))); (case hmn => first | (refine' Eq.trans (b := (0 : Int)) ?aqx0 ?aqy0; (case aqx0 => decide); (case aqy0 => rfl)) | (refine' Eq.trans (b := (2 : Int)) ?aqx2 ?aqy2; (case aqx2 => decide); (case aqy2 => rfl)) | (refine' Eq.trans (b := (4 : Int)) ?aqx4 ?aqy4; (case aqx4 => decide); (case aqy4 => rfl)) | (refine' Eq.trans (b := (6 : Int)) ?aqx6 ?aqy6; (case aqx6 => decide); (case aqy6 => rfl))); intro h' tk' m' t1' t2' t3' tq' F' hm' N'; (replace F' := fr_kst F' hm'); (simp only [kstB] at F'); (clear hm'); (try dsimp only); (try show UnrPost _ _ _ _ _ _ _ _ _); (try k_sweep)
  k_steps
  unfold Hold
  refine' lev_turn1 _ _ _ _ _ _ _ _ _ _ _ _ _ _ _ _ _ _ _ _ _ _ _ _ _ _ _ _ _ _ _ _ _ _ _ _ _ _ _ _ ?hc ?B ?X ?T _ ?F ?hm ?N ?l1 ?l2 ?l3 ?l4 _ _ ?hrn ?hmn ?hQ1 _ _ _ _ _ _ _ _ _ _ _ _ _ _ _ ?ho _ ?hr
  (case ho => exact rfl); (case hr => exact rfl); (case B => k_asm); (case X => k_asm); (case T => k_asm); (case F => k_asm); (case N => k_asm); (case hm => (repeat' (first | (refine List.forall_mem_cons.mpr ⟨?_, ?_⟩) | rfl | exact fun _ h => nomatch h))); (case hc => (intro _ _; first | (refine' cost_same _ _ _ _ _ _ _ ?_; assumption) | (refine' cost_dif _ _ _ _ _ _ _ _ ?_; assumption))); (case l1 => omega); (case l2 => omega); (case l3 => omega); (case l4 => omega); (case hrn => first | (refine' Eq.trans (b := (0 : Int)) ?bpx0 ?bpy0; (case bpx0 => decide); (case bpy0 => rfl)) | (refine' Eq.trans (b := (2 : Int)) ?bpx2 ?bpy2; (case bpx2 => decide); (case bpy2 => rfl)) | (refine' Eq.trans (b := (4 : Int)) ?bpx4 ?bpy4; (case bpx4 => decide); (case bpy4 => rfl)) | (refine' Eq.trans (b := (6 : Int)) ?bpx6 ?bpy6; (case bpx6 => decide); (case bpy6 => rfl))); (case hmn => first | (refine' Eq.trans (b := (0 : Int)) ?bqx0 ?bqy0; (case bqx0 => decide); (case bqy0 => rfl)) | (refine' Eq.trans (b := (2 : Int)) ?bqx2 ?bqy2; (case bqx2 => decide); (case bqy2 => rfl)) | (refine' Eq.trans (b := (4 : Int)) ?bqx4 ?bqy4; (case bqx4 => decide); (case bqy4 => rfl)) | (refine' Eq.trans (b := (6 : Int)) ?bqx6 ?bqy6; (case bqx6 => decide); (case bqy6 => rfl))); intro h' tk' m' t1' t2' t3' tq' F' hm' N'; (replace F' := fr_kst F' hm'); (simp only [kstB] at F'); (clear hm'); (try dsimp only); (try show UnrPost _ _ _ _ _ _ _ _ _); (try k_sweep)
  k_steps
  unfold Hold
  walk_at "execs cons"
  k_steps
  unfold Hold
  walk_at "execs cons"
  k_steps
  unfold Hold
  walk_at "execs cons"
  k_steps
  unfold Hold
  refine' lev_turn0 _ _ _ _ _ _ _ _ _ _ _ _ _ _ _ _ _ _ _ _ _ _ _ _ _ _ _ _ _ _ _ _ _ _ _ _ _ _ _ _ ?hc ?B ?X ?T _ ?F ?hm ?N ?l1 ?l2 ?l3 ?l4 _ _ ?hrn ?hmn ?hQ2 _ _ _ _ _ _ _ _ _ _ _ _ _ _ _ ?ho _ ?hr
  (case ho => exact rfl); (case hr => exact rfl); (case B => k_asm); (case X => k_asm); (case T => k_asm); (case F => k_asm); (case N => k_asm); (case hm => (repeat' (first | (refine List.forall_mem_cons.mpr ⟨?_, ?_⟩) | rfl | exact fun _ h => nomatch h))); (case hc => (intro _ _; first | (refine' cost_same _ _ _ _ _ _ _ ?_; assumption) | (refine' cost_dif _ _ _ _ _ _ _ _ ?_; assumption))); (case l1 => omega); (case l2 => omega); (case l3 => omega); (case l4 => omega); (case hrn => first | (refine' Eq.trans (b := (0 : Int)) ?cpx0 ?cpy0; (case cpx0 => decide); (case cpy0 => rfl)) | (refine' Eq.trans (b := (2 : Int)) ?cpx2 ?cpy2; (case cpx2 => decide); (case cpy2 => rfl)) | (refine' Eq.trans (b := (4 : Int)) ?cpx4 ?cpy4; (case cpx4 => decide); (case cpy4 => rfl)) | (refine' Eq.trans (b := (6 : Int)) ?cpx6 ?cpy6; (case cpx6 => decide); (case cpy6 => rfl))); (case hmn => first | (refine' Eq.trans (b := (0 : Int)) ?cqx0 ?cqy0; (case cqx0 => decide); (case cqy0 => rfl)) | (refine' Eq.trans (b := (2 : Int)) ?cqx2 ?cqy2; (case cqx2 => decide); (case cqy2 => rfl)) | (refine' Eq.trans (b := (4 : Int)) ?cqx4 ?cqy4; (case cqx4 => decide); (case cqy4 => rfl)) | (refine' Eq.trans (b := (6 : Int)) ?cqx6 ?cqy6; (case cqx6 => decide); (case cqy6 => rfl))); intro h' tk' m' t1' t2' t3' tq' F' hm' N'; (replace F' := fr_kst F' hm'); (simp only [kstB] at F'); (clear hm'); (try dsimp only); (try show UnrPost _ _ _ _ _ _ _ _ _); (try k_sweep)
  k_steps
  unfold Hold
  refine' lev_turn1 _ _ _ _ _ _ _ _ _ _ _ _ _ _ _ _ _ _ _ _ _ _ _ _ _ _ _ _ _ _ _ _ _ _ _ _ _ _ _ _ ?hc ?B ?X ?T _ ?F ?hm ?N ?l1 ?l2 ?l3 ?l4 _ _ ?hrn ?hmn ?hQ3 _ _ _ _ _ _ _ _ _ _ _ _ _ _ _ ?ho _ ?hr
  (case ho => exact rfl); (case hr => exact rfl); (case B => k_asm); (case X => k_asm); (case T => k_asm); (case F => k_asm); (case N => k_asm); (case hm => (repeat' (first | (refine List.forall_mem_cons.mpr ⟨?_, ?_⟩) | rfl | exact fun _ h => nomatch h))); (case hc => (intro _ _; first | (refine' cost_same _ _ _ _ _ _ _ ?_; assumption) | (refine' cost_dif _ _ _ _ _ _ _ _ ?_; assumption))); (case l1 => omega); (case l2 => omega); (case l3 => omega); (case l4 => omega); (case hrn => first | (refine' Eq.trans (b := (0 : Int)) ?dpx0 ?dpy0; (case dpx0 => decide); (case dpy0 => rfl)) | (refine' Eq.trans (b := (2 : Int)) ?dpx2 ?dpy2; (case dpx2 => decide); (case dpy2 => rfl)) | (refine' Eq.trans (b := (4 : Int)) ?dpx4 ?dpy4; (case dpx4 => decide); (case dpy4 => rfl)) | (refine' Eq.trans (b := (6 : Int)) ?dpx6 ?dpy6; (case dpx6 => decide); (case dpy6 => rfl))); (case hmn => first | (refine' Eq.trans (b := (0 : Int)) ?dqx0 ?dqy0; (case dqx0 => decide); (case dqy0 => rfl)) | (refine' Eq.trans (b := (2 : Int)) ?dqx2 ?dqy2; (case dqx2 => decide); (case dqy2 => rfl)) | (refine' Eq.trans (b := (4 : Int)) ?dqx4 ?dqy4; (case dqx4 => decide); (case dqy4 => rfl)) | (refine' Eq.trans (b := (6 : Int)) ?dqx6 ?dqy6; (case dqx6 => decide); (case dqy6 => rfl))); intro h' tk' m' t1' t2' t3' tq' F' hm' N'; (replace F' := fr_kst F' hm'); (simp only [kstB] at F'); (clear hm'); (try dsimp only); (try show UnrPost _ _ _ _ _ _ _ _ _); (try k_sweep)
  k_steps
  all_goals (refine hQ _ _ _ _ (by k_asm))
end
end Mine
end
section
open PySem PySem.W PyProof.Rows PySem.Calls
namespace Mine
theorem lev1_con (w mean mg mb) (la lb : Addr) (va vb : List Value) (P T0 : List Str) (x y : Str) (tm : Tok) (ha : StrsAre va (P ++ [x] ++ T0)) (hb : StrsAre vb (P ++ [y] ++ T0)) (hP : P.length ≤ 4) (hT : T0.length ≤ 4)
    (hok1 : StrsOk (P ++ [x] ++ T0)) (hok2 : StrsOk (P ++ [y] ++ T0)) (h1 : Dif y x) :
    Con 400 w mean mg mb 45 [.ref la, .ref lb, .int 4 tm] (fun h => h.IsList la va.toArray ∧ h.IsList lb vb.toArray) (fun v => ∃ t, v = .int 2 t) := by
  refine lev_main w mean mg mb la lb va vb P [x] [y] T0 tm 2 ha hb hP hT rfl (by simp) (by simp) hok1 hok2 (fun e => h1.1 e.symm) (fun e => h1.1 e.symm) ?_
  intro base g outer gd env s L' h tk Da Db za zb u name qual params body scope dV kV doc pm cdv ct oc an od osl ho B X T F N lt ha' hb'
  cases ha' with | cons _ tx q => cases q with | nil =>
  cases hb' with | cons _ ty q => cases q with | nil =>
  exact lev_dp1 w mean mg mb x y tx ty tm h1 base g outer gd env { s with heap := h, toks := tk } L' Da Db u _ B X T F N lt (fun t h' tk' m' F' => Back.intro (s := s) F' ⟨_, rfl⟩) _ _ _ _ _ _ _ _ _ _ _ _ _ _ _ ho
theorem lev2_con (w mean mg mb) (la lb : Addr) (va vb : List Value) (P T0 : List Str) (x y z : Str) (tm : Tok) (ha : StrsAre va (P ++ [x, z] ++ T0)) (hb : StrsAre vb (P ++ [z, y] ++ T0)) (hP : P.length ≤ 4) (hT : T0.length ≤ 4)
    (hok1 : StrsOk (P ++ [x, z] ++ T0)) (hok2 : StrsOk (P ++ [z, y] ++ T0)) (h1 : Dif z x) (h2 : Dif y x) (h3 : Dif y z) :
    Con 400 w mean mg mb 45 [.ref la, .ref lb, .int 4 tm] (fun h => h.IsList la va.toArray ∧ h.IsList lb vb.toArray) (fun v => ∃ t, v = .int 4 t) := by
  refine lev_main w mean mg mb la lb va vb P [x, z] [z, y] T0 tm 4 ha hb hP hT rfl (by simp) (by simp) hok1 hok2 (fun e => h1.1 e.symm) (fun e => h3.1 e.symm) ?_
  intro base g outer gd env s L' h tk Da Db za zb u name qual params body scope dV kV doc pm cdv ct oc an od osl ho B X T F N lt ha' hb'
  cases ha' with | cons _ tx q => cases q with | cons _ tz q => cases q with | nil =>
  cases hb' with | cons _ tz' q => cases q with | cons _ ty q => cases q with | nil =>
  exact lev_dp2 w mean mg mb x y z tx ty tz tz' tm h1 h1.2.2.1 h2 h3 base g outer gd env { s with heap := h, toks := tk } L' Da Db u _ B X T F N lt (fun t h' tk' m' F' => Back.intro (s := s) F' ⟨_, rfl⟩) _ _ _ _ _ _ _ _ _ _ _ _ _ _ _ ho
theorem lev3_con (w mean mg mb) (la lb : Addr) (va vb : List Value) (P T0 : List Str) (x y z : Str) (tm : Tok) (ha : StrsAre va (P ++ [z, y] ++ T0)) (hb : StrsAre vb (P ++ [x, z] ++ T0)) (hP : P.length ≤ 4) (hT : T0.length ≤ 4)
    (hok1 : StrsOk (P ++ [z, y] ++ T0)) (hok2 : StrsOk (P ++ [x, z] ++ T0)) (h1 : Dif x z) (h2 : Dif x y) (h3 : Dif z y) :
    Con 400 w mean mg mb 45 [.ref la, .ref lb, .int 4 tm] (fun h => h.IsList la va.toArray ∧ h.IsList lb vb.toArray) (fun v => ∃ t, v = .int 4 t) := by
  refine lev_main w mean mg mb la lb va vb P [z, y] [x, z] T0 tm 4 ha hb hP hT rfl (by simp) (by simp) hok1 hok2 (fun e => h1.1 e.symm) (fun e => h3.1 e.symm) ?_
  intro base g outer gd env s L' h tk Da Db za zb u name qual params body scope dV kV doc pm cdv ct oc an od osl ho B X T F N lt ha' hb'
  cases ha' with | cons _ tz q => cases q with | cons _ ty q => cases q with | nil =>
  cases hb' with | cons _ tx q => cases q with | cons _ tz' q => cases q with | nil =>
  exact lev_dp3 w mean mg mb x y z tx ty tz tz' tm h1 h2 h1.2.2.2 h3 base g outer gd env { s with heap := h, toks := tk } L' Da Db u _ B X T F N lt (fun t h' tk' m' F' => Back.intro (s := s) F' ⟨_, rfl⟩) _ _ _ _ _ _ _ _ _ _ _ _ _ _ _ ho
end Mine
end
section
open PySem PySem.W PyProof.Rows PySem.Calls PySem.StrLaws PySem.Builtin PySem.Builtin.Str
namespace Mine
def sep2 : Str := Str.ofString ", "
theorem sep2_list : sep2.cps.toList = [44, 32] := by decide +kernel
theorem sep2_len : sep2.length = 2 := by decide +kernel
theorem at_comma {x : Str} {k : Nat} (h : At x sep2 x.length k) : x.cps.toList[k]? = some 44 := by
  have h2 := h.2
  rw [subAt_eq, sep2_len, sep2_list] at h2
  have h3 := eq_of_beq h2
  have h4 : ((x.cps.toList.drop k).take 2)[0]? = some 44 := by rw [h3]; rfl
  simpa using h4
theorem len_list (x : Str) : x.cps.toList.length = x.length := by simp [Str.length]
theorem parts_names (x : Str) : ∀ (names : List Str) (a : Nat) (cuts : List Nat) (f : Nat), names ≠ [] → (∀ n ∈ names, 44 ∉ n.cps.toList) → x.cps.toList.drop a = (Str.join sep2 names).cps.toList → a ≤ x.length →
    ChainG x sep2 x.length a cuts f → (∀ k, f ≤ k → ¬ At x sep2 x.length k) → partsFrom x sep2.length a cuts = names
  | [], _, _, _, h, _, _, _, _, _ => absurd rfl h
  | [n], a, cuts, f, _, hc, hd, ha, hG, hn => by
    have hd' : x.cps.toList.drop a = n.cps.toList := hd
    have hno : ∀ k, a ≤ k → ¬ At x sep2 x.length k := by
      intro k hk hA
      have h1 := at_comma hA
      have h2 : (x.cps.toList.drop a)[k - a]? = some 44 := by rw [List.getElem?_drop, show a + (k - a) = k by omega]; exact h1
      rw [hd'] at h2
      exact hc n (List.mem_singleton.mpr rfl) (List.mem_of_getElem? h2)
    cases cuts with
    | cons c r => exact absurd hG.2.1 (hno c hG.1)
    | nil =>
      show [strSub x a x.length] = [n]
      congr 1
      apply Str.ext'
      apply Array.toList_inj.mp
      rw [strSub_toList, hd', List.take_of_length_le]
      rw [← hd', List.length_drop, len_list]
      exact Nat.le_refl _
  | n :: n2 :: r, a, cuts, f, _, hc, hd, ha, hG, hn => by
    have hd' : x.cps.toList.drop a = n.cps.toList ++ ([44, 32] ++ (Str.join sep2 (n2 :: r)).cps.toList) := by
      rw [hd]
      show ((n ++ sep2 ++ Str.join sep2 (n2 :: r)).cps).toList = _
      simp only [Str.cps_append, Array.toList_append, sep2_list, List.append_assoc]
    have hlen : x.length = a + n.length + 2 + (Str.join sep2 (n2 :: r)).length := by
      have := congrArg List.length hd'
      simp only [List.length_drop, List.length_append, len_list, List.length_cons, List.length_nil] at this
      omega
    have hat : ∀ j, (x.cps.toList)[a + j]? = (n.cps.toList ++ ([44, 32] ++ (Str.join sep2 (n2 :: r)).cps.toList))[j]? := by
      intro j
      rw [← hd', List.getElem?_drop]
    have hA : At x sep2 x.length (a + n.length) := by
      refine ⟨by rw [sep2_len]; omega, ?_⟩
      rw [subAt_eq, sep2_len, sep2_list, ← List.drop_drop, hd', ← len_list n, List.drop_left]
      rfl
    have hno : ∀ k, a ≤ k → k < a + n.length → ¬ At x sep2 x.length k := by
      intro k h1 h2 hk
      have h3 := at_comma hk
      have h4 := hat (k - a)
      rw [show a + (k - a) = k by omega, h3, List.getElem?_append_left (by rw [len_list]; omega)] at h4
      exact hc n (List.mem_cons_self ..) (List.mem_of_getElem? h4.symm)
    cases cuts with
    | nil =>
      have e : f = a := hG
      subst e
      exact absurd hA (hn _ (by omega))
    | cons c q =>
      obtain ⟨g1, g2, g3, g4⟩ := hG
      have ec : c = a + n.length := by
        by_cases h1 : c < a + n.length
        · exact absurd g2 (hno c g1 h1)
        · by_cases h2 : a + n.length < c
          · exact absurd hA (g3 _ (by omega) h2)
          · omega
      subst ec
      show strSub x a (a + n.length) :: partsFrom x sep2.length (a + n.length + sep2.length) q = n :: n2 :: r
      have ih := parts_names x (n2 :: r) (a + n.length + sep2.length) q f (by simp) (fun m hm => hc m (List.mem_cons_of_mem _ hm)) (by
        rw [sep2_len, Nat.add_assoc, ← List.drop_drop, hd', ← len_list n, ← List.drop_drop, List.drop_left]; rfl) (by rw [sep2_len]; omega) g4 hn
      rw [ih]
      congr 1
      apply Str.ext'
      apply Array.toList_inj.mp
      rw [strSub_toList, hd', Nat.add_sub_cancel_left, ← len_list n, List.take_left]
theorem kind_low (x : Str) : ¬ PySem.Builtin.Str.strKind x < PySem.Builtin.Str.strKind sep2 := by
  have e : PySem.Builtin.Str.strKind sep2 = PySem.Builtin.Str.strKind (Str.ofString "") := by decide +kernel
  rw [e]
  unfold PySem.Builtin.Str.strKind
  have e2 : (Str.ofString "").cps.all (· < 256) = true := by decide +kernel
  rw [if_pos e2]
  (repeat' split) <;> omega
theorem split_join {names : List Str} (h2 : 2 ≤ names.length) (hc : ∀ n ∈ names, 44 ∉ n.cps.toList) : Txt.split (Txt.join sep2 names) sep2 = names := by
  have e : Txt.join sep2 names = Str.join sep2 names := glued_eq_join _ _
  rw [e]
  obtain ⟨f, hG, hn⟩ := occ_tight (Str.join sep2 names) sep2 (by rw [sep2_len]; omega)
  have hp := parts_names (Str.join sep2 names) names 0 _ f (by intro e; rw [e] at h2; simp at h2) hc (by simp) (Nat.zero_le _) hG hn
  have hl : ¬ (Str.join sep2 names).length < sep2.length := by
    match names, h2 with
    | a :: b :: r, _ =>
      show ¬ (a ++ sep2 ++ Str.join sep2 (b :: r)).length < sep2.length
      rw [Str.length_append, Str.length_append]; omega
  unfold Txt.split
  rw [if_neg (by simp only [Bool.or_eq_true, decide_eq_true_eq]; exact fun q => q.elim hl (kind_low _))]
  split
  · rename_i he
    rw [List.isEmpty_iff.mp he] at hp
    rw [← hp] at h2
    simp [partsFrom] at h2
  · rw [partsBetween_eq]; exact hp
end Mine
end
section
namespace Mine
/-! plain: ranks and flags -/
theorem top_uniq {k r c : Nat} (hk : k ≤ 4) (hc : c ≤ 31) (h1 : ch c k ≤ r) (h2 : r < ch (c + 1) k) : topc k r = c := by
  unfold topc
  rw [countP_below (c := c + 1) (by omega)]
  · omega
  · intro i hi
    have := ch_mono (k := k) hk (i := i) (j := c) (by omega) (by omega)
    simp; omega
  · intro i h3 h4
    have := ch_mono (k := k) hk (i := c + 1) (j := i) h3 (by omega)
    simp; omega
theorem top_ex {k r : Nat} (hk : 1 ≤ k) (hk4 : k ≤ 4) : ∀ n ≤ 32, r < ch n k → ∃ c, c < n ∧ ch c k ≤ r ∧ r < ch (c + 1) k
  | 0, _, h => by rw [ch_zero hk] at h; omega
  | n + 1, hn, h => by
    by_cases h1 : r < ch n k
    · obtain ⟨c, a, b, d⟩ := top_ex hk hk4 n (by omega) h1
      exact ⟨c, by omega, b, d⟩
    · exact ⟨n, by omega, by omega, h⟩
theorem top_spec {k r n : Nat} (hk : 1 ≤ k) (hk4 : k ≤ 4) (hn : n ≤ 32) (h : r < ch n k) : topc k r < n ∧ ch (topc k r) k ≤ r ∧ r < ch (topc k r + 1) k := by
  obtain ⟨c, a, b, d⟩ := top_ex hk hk4 n hn h
  rw [top_uniq hk4 (by omega) b d]
  exact ⟨a, b, d⟩
theorem next_lt {k r n : Nat} (hk : k + 1 ≤ 4) (hn : n ≤ 32) (h : r < ch n (k + 1)) : ch (topc (k + 1) r + 1) (k + 1) - 1 - r < ch (topc (k + 1) r) k := by
  obtain ⟨a, b, d⟩ := top_spec (by omega) hk hn h
  have e : ch (topc (k + 1) r + 1) (k + 1) = ch (topc (k + 1) r) k + ch (topc (k + 1) r) (k + 1) := rfl
  omega
theorem un_below : ∀ (k : Nat), k ≤ 4 → ∀ r n, n ≤ 32 → r < ch n k → (un k r).length = k ∧ (∀ c ∈ un k r, c < n) ∧ (un k r).Pairwise (· > ·)
  | 0, _, r, n, _, _ => by
    refine ⟨rfl, ?_, ?_⟩
    · intro c hc; cases hc
    · exact List.Pairwise.nil
  | k + 1, hk, r, n, hn, h => by
    obtain ⟨a, b, d⟩ := top_spec (by omega) hk hn h
    have h1 := next_lt hk hn h
    obtain ⟨i1, i2, i3⟩ := un_below k (by omega) _ (topc (k + 1) r) (by omega) h1
    refine ⟨by rw [un, List.length_cons, i1], ?_, ?_⟩
    · intro c hc
      rcases List.mem_cons.mp hc with rfl | hc
      · exact a
      · exact Nat.lt_trans (i2 c hc) a
    · exact List.Pairwise.cons (fun c hc => i2 c hc) i3
/-- the rank of flags, from the greatest down -/
def rkD : List Nat → Int
  | [] => 0
  | c :: L => (ch (c + 1) (L.length + 1) : Int) - 1 - rkD L
theorem rkD_un : ∀ (k : Nat), k ≤ 4 → ∀ r n, n ≤ 32 → r < ch n k → rkD (un k r) = (r : Int)
  | 0, _, r, n, _, h => by
    have : ch n 0 = 1 := by cases n <;> rfl
    have : r = 0 := by omega
    subst this; rfl
  | k + 1, hk, r, n, hn, h => by
    obtain ⟨a, b, d⟩ := top_spec (by omega) hk hn h
    have h1 := next_lt hk hn h
    have ih := rkD_un k (by omega) _ (topc (k + 1) r) (by omega) h1
    have hl := (un_below k (by omega) _ (topc (k + 1) r) (by omega) h1).1
    rw [un, rkD, ih, hl]
    omega
def asc (l : List Nat) : List Int := l.reverse.map fun (c : Nat) => (c : Int)
theorem rkN_pre (l l' : List Int) : ∀ n ≤ l.length, rkN (l ++ l') n = rkN l n
  | 0, _ => rfl
  | n + 1, h => by
    rw [rkN, rkN, rkN_pre l l' n (by omega)]
    congr 3
    simp [List.getD, List.getElem?_append_left (show n < l.length by omega)]
theorem rkN_asc : ∀ l : List Nat, rkN (asc l) l.length = rkD l
  | [] => rfl
  | c :: L => by
    have e : asc (c :: L) = asc L ++ [(c : Int)] := by simp [asc]
    have hl : (asc L).length = L.length := by simp [asc]
    rw [e, List.length_cons, rkN, rkD]
    have e1 : (asc L ++ [(c : Int)]).getD L.length 0 = (c : Int) := by simp [List.getD, hl]
    have e2 := rkN_pre (asc L) [(c : Int)] L.length (by omega)
    rw [e1, e2, rkN_asc L]
    congr 3
def mskN : List Nat → Nat
  | [] => 0
  | c :: L => 2 ^ c + mskN L
theorem mskN_lt : ∀ (l : List Nat) (n : Nat), l.Pairwise (· > ·) → (∀ c ∈ l, c < n) → mskN l < 2 ^ n
  | [], n, _, _ => Nat.two_pow_pos n
  | c :: L, n, hp, hn => by
    have h1 := mskN_lt L c (List.pairwise_cons.mp hp).2 (fun d hd => (List.pairwise_cons.mp hp).1 d hd)
    have h2 : 2 ^ (c + 1) ≤ 2 ^ n := Nat.pow_le_pow_right (by omega) (hn c (List.mem_cons_self ..))
    rw [Nat.pow_succ] at h2
    rw [mskN]; omega
theorem bits_low {m c : Nat} : bitsBelow (2 ^ c + m) c = bitsBelow m c := by
  unfold bitsBelow
  apply List.filter_congr
  intro i hi
  have hi' := List.mem_range.mp hi
  rw [Nat.testBit_two_pow_add_gt hi']
theorem bits_msk : ∀ (l : List Nat) (n : Nat), l.Pairwise (· > ·) → (∀ c ∈ l, c < n) → bitsBelow (mskN l) n = l.reverse
  | [], n, _, _ => by
    have := bits_end (M := 0) (i := 0) (by simp) n (Nat.zero_le _)
    rw [mskN, this]; rfl
  | c :: L, n, hp, hn => by
    have hL := List.pairwise_cons.mp hp
    have h1 := mskN_lt L c hL.2 (fun d hd => hL.1 d hd)
    have ih := bits_msk L c hL.2 (fun d hd => hL.1 d hd)
    have h2 : (2 ^ c + mskN L) / 2 ^ (c + 1) = 0 := by
      apply Nat.div_eq_of_lt; rw [Nat.pow_succ]; omega
    have h3 : (2 ^ c + mskN L) / 2 ^ c = 1 := by
      rw [Nat.add_div_left _ (Nat.two_pow_pos c), Nat.div_eq_of_lt h1]
    rw [mskN, bits_end h2 n (hn c (List.mem_cons_self ..)), bits_on (by rw [h3]), bits_low, ih]
    simp
theorem msk_is (k r : Nat) : msk k r = (mskN (un k r) : Int) := by
  unfold msk
  generalize un k r = l
  induction l with
  | nil => rfl
  | cons c L ih =>
    rw [List.map_cons, List.sum_cons, ih, mskN]
    simp
end Mine
end
section
namespace Mine
/-- one step of the revolving door, flags from the greatest down -/
inductive Step : List Nat → List Nat → Prop
  | one (T : List Nat) (c : Nat) : (∀ t ∈ T, c + 1 < t) → Step (T ++ [c]) (T ++ [c + 1])
  | two (T : List Nat) (c p : Nat) (L : List Nat) : p < c → (∀ t ∈ T, c + 1 < t) → (∀ l ∈ L, l < p) → Step (T ++ c :: p :: L) (T ++ (c + 1) :: c :: L)
def Adj (A B : List Nat) : Prop := Step A B ∨ Step B A
theorem Step.cons {A B : List Nat} {d : Nat} (h : Step A B) (hA : ∀ a ∈ A, a < d) (hB : ∀ b ∈ B, b < d) : Step (d :: A) (d :: B) := by
  cases h with
  | one T c hT =>
    refine .one (d :: T) c ?_
    intro t ht
    rcases List.mem_cons.mp ht with rfl | ht
    · exact hB _ (by simp)
    · exact hT t ht
  | two T c p L h1 hT hL =>
    refine .two (d :: T) c p L h1 ?_ hL
    intro t ht
    rcases List.mem_cons.mp ht with rfl | ht
    · exact hB _ (by simp)
    · exact hT t ht
theorem Adj.cons {A B : List Nat} {d : Nat} (h : Adj A B) (hA : ∀ a ∈ A, a < d) (hB : ∀ b ∈ B, b < d) : Adj (d :: A) (d :: B) :=
  h.imp (fun s => s.cons hA hB) (fun s => s.cons hB hA)
theorem un_zero : ∀ k < 4, un (k + 1) 0 = k :: un k 0 := by decide +kernel
theorem un_zero_lt : ∀ k < 5, ∀ c ∈ un k 0, c < k := by decide +kernel
theorem ch_pos0 : ∀ n < 33, ∀ k < 5, 1 ≤ ch n k → k ≤ n := by decide +kernel
theorem ch_one (n : Nat) : ch n 0 = 1 := by cases n <;> rfl
theorem ch_pos1 : ∀ n < 33, ∀ k < 5, k ≤ n → 1 ≤ ch n k := by decide +kernel
theorem adj_un : ∀ k : Nat, k + 1 ≤ 4 → ∀ r n, n ≤ 32 → r + 1 < ch n (k + 1) → Adj (un (k + 1) r) (un (k + 1) (r + 1))
  | k, hk, r, n, hn, h => by
    obtain ⟨a, b, d⟩ := top_spec (by omega) hk hn (show r < ch n (k + 1) by omega)
    have hl := next_lt hk hn (show r < ch n (k + 1) by omega)
    generalize hc : topc (k + 1) r = c at a b d hl
    have e1 : ch (c + 1) (k + 1) = ch c k + ch c (k + 1) := rfl
    have hA : un (k + 1) r = c :: un k (ch (c + 1) (k + 1) - 1 - r) := by rw [un, hc]
    by_cases h1 : r + 1 < ch (c + 1) (k + 1)
    · have ht : topc (k + 1) (r + 1) = c := top_uniq hk (by omega) (by omega) h1
      have hB : un (k + 1) (r + 1) = c :: un k (ch (c + 1) (k + 1) - 1 - (r + 1)) := by rw [un, ht]
      rw [hA, hB]
      cases k with
      | zero => rw [ch_one] at hl; omega
      | succ k =>
        have e2 : ch (c + 1) (k + 1 + 1) - 1 - r = (ch (c + 1) (k + 1 + 1) - 1 - (r + 1)) + 1 := by omega
        rw [e2] at hl ⊢
        have ih := adj_un k (by omega) _ c (by omega) hl
        have u1 := un_below (k + 1) (by omega) _ c (by omega) hl
        have u2 := un_below (k + 1) (by omega) (ch (c + 1) (k + 1 + 1) - 1 - (r + 1)) c (by omega) (by omega)
        exact (Or.symm (ih.cons u2.2.1 u1.2.1))
    · have er : r + 1 = ch (c + 1) (k + 1) := by omega
      have hp : 1 ≤ ch c k := by omega
      have hck := ch_pos0 c (by omega) k (by omega) hp
      have hp2 := ch_pos1 (c + 1) (by omega) k (by omega) (by omega)
      have hcn : c + 1 < n := by
        by_cases q : c + 1 < n
        · exact q
        · have : n = c + 1 := by omega
          subst this; omega
      have e3 : ch (c + 1 + 1) (k + 1) = ch (c + 1) k + ch (c + 1) (k + 1) := rfl
      have ht : topc (k + 1) (r + 1) = c + 1 := top_uniq hk (by omega) (by omega) (by omega)
      have hB : un (k + 1) (r + 1) = (c + 1) :: un k (ch (c + 1) k - 1) := by
        rw [un, ht, e3, er]
        congr 2
        omega
      have hA2 : un (k + 1) r = c :: un k 0 := by
        rw [hA]; congr 2; omega
      rw [hA2, hB]
      cases k with
      | zero => exact .inl (.one [] c (fun _ h => nomatch h))
      | succ k =>
        have e4 : ch (c + 1) (k + 1) = ch c k + ch c (k + 1) := rfl
        have hp3 := ch_pos1 c (by omega) k (by omega) (by omega)
        have ht2 : topc (k + 1) (ch (c + 1) (k + 1) - 1) = c := top_uniq (by omega) (by omega) (by omega) (by omega)
        have hB2 : un (k + 1) (ch (c + 1) (k + 1) - 1) = c :: un k 0 := by
          rw [un, ht2]; congr 2; omega
        rw [hB2, un_zero k (by omega)]
        exact .inl (.two [] c k (un k 0) (by omega) (fun _ h => nomatch h) (un_zero_lt k (by omega)))
end Mine
end
section
open PySem PySem.W PyProof.Rows PySem.Calls
namespace Mine
theorem word_is0 : ∀ i : Nat, i < 32 → 10 ≤ i → (Str.ofString "0x" ++ Txt.item (Str.ofString "1248") ((i : Int).fmod 4)) ++ Txt.mul (Str.ofString "0") ((i : Int).fdiv 4) = nm i := by decide +kernel
theorem word_is {a : Int} (h1 : 10 ≤ a) (h2 : a < 10 + (22 : Nat)) : (Str.ofString "0x" ++ Txt.item (Str.ofString "1248") (a.fmod 4)) ++ Txt.mul (Str.ofString "0") (a.fdiv 4) = nm a.toNat := by
  have := word_is0 a.toNat (by omega) (by omega)
  rwa [Int.toNat_of_nonneg (by omega)] at this
section
local macro_rules | `(tactic| walk_at "eval ListComp") => `(tactic| refine Hold.on ?_)
set_option maxRecDepth 100000 in
set_option maxHeartbeats 1000000 in
theorem names_con (w mean mg mb) : ConN 400 w mean mg mb 64 [] (fun _ => True) (fun v objs => ∃ l vs n, v = .ref l ∧ objs = [(l, listOf vs.toArray n)] ∧ StrsAre vs ((List.range 32).map nm)) := by
  k_with_none
  w_top off
  have hfill : ((hd.heap_39 w.params).In {} → PySem.Challenge.rw_rl0042_01 = PySem.Challenge.rw_rl0042_01) := by (k_fill; intro _; rfl)
  clear hfill
  refine' ConN.enter (binds := []) ?k0 ?k1 ?k2 ?k3 ?k4 ?k5 ?k6 ?k7 ?k8 ?_
  case k1 => k_is
  case k0 => decide
  case k2 => k_is
  case k3 => exact (fun s _ => BindsTo.of_eq rfl)
  case k4 => exact locs rfl
  case k5 => rfl
  case k6 => rfl
  case k7 => rfl
  case k8 => decide
  intro base g outer gd env s L' B F N X T _
  (try dsimp only); (try k_lift B); (try k_fold)
  k_with_none
  k_steps
  unfold Hold
  rename Fr _ _ _ _ => F1
  refine comp_rmap (fun a => nm a.toNat) F1 rfl rfl (by decide) rfl (by decide) rfl ?_ (by intro _; rfl)
  k_steps
  rename Fr _ _ _ _ => F2
  rename News _ _ _ _ => N2
  rename IsRange _ _ _ _ _ _ _ _ => hR
  refine ⟨_, _, 10, 32, _, _, _, 22, rfl, hR, rfl, rfl, by rw [sizeLine_eq]; omega, F2, N2, ?_, ?_⟩
  · intro C a t s₂ m₂ E' hC ha hn hm hk
    obtain ⟨F3, N3⟩ := inComp F2 N2 hC hn hk
    have hb := mem_rangeInts ha
    have hdv : a.fdiv 4 = a / 4 := Int.fdiv_eq_ediv_of_nonneg _ (by omega)
    k_steps
    all_goals first | exact congrArg (fun x => Value.str x _) (word_is hb.1 hb.2) | exact ⟨_, _, rfl, fun _ _ e => e⟩
  · intro D ys e h' tk F3 N3 hne hS
    have hlen := hS.length
    refine add_lists (vs := _) F3 N3 ⟨_, N3.get (by k_mem), rfl, _, rfl⟩ ⟨_, N3.get (by k_mem), rfl, _, rfl⟩ ?_ ?_
    · intro h5 F5 N5
      refine BackN.intro (s := s) F5 (objs := [(_, listOf _ 0)]) (cb_drop N5 (by intro p hp; simp only [List.mem_singleton] at hp; subst hp; exact List.mem_cons_self ..)) ⟨_, _, _, rfl, rfl, ?_⟩
      have e32 : (List.range 32).map nm = (List.range 10).map nm ++ (rangeInts 10 1 22).map (fun a => nm a.toNat) := by decide +kernel
      rw [e32]
      refine strsAre_append ?_ hS
      exact .cons _ _ (.cons _ _ (.cons _ _ (.cons _ _ (.cons _ _ (.cons _ _ (.cons _ _ (.cons _ _ (.cons _ _ (.cons _ _ .nil)))))))))
    · rw [hlen, sizeLine_eq]; simp [rangeInts]
end
end Mine
end
section
open PySem PySem.W PyProof.Rows PySem.Calls
namespace Mine
/-- the triangle's inner loop's body -/
def triB (body : List Stmt) : List Stmt := match body[1]? with
  | some o => (match (forBody o)[1]? with | some i => forBody i | none => [])
  | none => []
section
local macro_rules | `(tactic| walk_at "subscriptTail Name UnaryOp ref int") => `(tactic| (refine Hold.on ?_))
local macro_rules | `(tactic| walk_at "call builtin:list.append") => `(tactic| (refine Hold.on ?_))
set_option maxRecDepth 100000 in
set_option maxHeartbeats 1000000 in
theorem tri_turn (w : World) (mean : ExcName → Option Value) (mg mb : Str → Option Value) (D : Addr) (us : List Value) (xs : List Int) (nD : Nat) (tl : List (Addr × Obj)) (m : Str → Option Value) (n : Int) (t : Tok)
    (base g : Heap) (outer : List Env) (gd : Option (List Code)) (env : Env) (s : Shared) (L' : Addr) (Q : Flow → Shared → Prop)
    (B : Below (AR 400 env outer gd) base (env :: outer) g) (X : (hd.heap_39 w.params).In g)
    (T : Top hd.view_39 (looseW hd.view_39 [Str.ofString "bisect_right", Str.ofString "COMPILER_FLAG_NAMES"]) mean mg mb g)
    (F : Fr g L' s.heap (fun y => if y = Str.ofString "number" then some (.int n t) else if y = Str.ofString "column" then some (.ref D) else m y))
    (N : News g L' s.heap ((D, listOf us.toArray nD) :: tl)) (htl : ∀ p ∈ tl, p.1 ≠ D) (hi : IntsAre us xs) (h1 : 1 ≤ xs.length) (h2 : xs.length ≤ 1000)
    (hQ : ∀ h' tk' us' n', Fr g L' h' (fun y => if y = Str.ofString "number" then some (.int n t) else if y = Str.ofString "column" then some (.ref D) else m y) → News g L' h' ((D, listOf (List.toArray us') n') :: tl) →
      IntsAre us' (xs ++ [xs.getLastD 0 + n]) → Q .next { s with heap := h', toks := tk' }) :
    ∀ (name qual : Str) (params : Arguments) (body : List Stmt) (scope : Scope) (dV kV doc pm cdv ct oc : Value) (an od : Option Addr) (osl : Array (Option Value)),
      (hd.heap_39 w.params).lookup 52 = some ⟨oc, od, .func (fnOf name qual params body scope dV kV doc pm an cdv ct), osl⟩ →
      ∀ rest : List Stmt, triB body = rest →
      wpAny (model PySem.Challenge.rw_rl0042_01.row.prog w) ((AR 400 env outer gd).deeper (envOf qual scope L' 52 cdv)) (execs rest (envOf qual scope L' 52 cdv)) Q (fun _ _ => False) s := by
  k_with_none
  w_top off
  have hfill : ((hd.heap_39 w.params).In {} → PySem.Challenge.rw_rl0042_01 = PySem.Challenge.rw_rl0042_01) := by (k_fill; intro _; rfl)
  clear hfill
  refine' with_body (fun qual body scope cdv => ∀ rest : List Stmt, triB body = rest →
      wpAny (model PySem.Challenge.rw_rl0042_01.row.prog w) ((AR 400 env outer gd).deeper (envOf qual scope L' 52 cdv)) (execs rest (envOf qual scope L' 52 cdv)) Q (fun _ _ => False) s) ?ho ?_
  case ho => k_is
  intro rest hrest
  subst hrest
  simp only [triB, forBody, List.getElem?_cons_succ, List.getElem?_cons_zero]
  k_with_none
  k_steps
  unfold Hold
  have hl : s.heap.IsList D us.toArray := ⟨_, N.get (by k_mem), rfl, _, rfl⟩
  refine item_list_ints_negR hl hi (by decide) (by omega) (by decide) ?_ (by with_unfolding_all rfl)
  intro t9
  k_steps
  unfold Hold
  refine append_K F N (.head htl) ?_ (by have := hi.length; rw [List.size_toArray, sizeLine_eq]; omega)
  intro h' F' N'
  k_steps
  refine hQ _ _ (us ++ [.int (xs.getD (-1 + (xs.length : Int)).toNat 0 + n) (s.toks + 1 + 1)]) (nD + 1) F' (by simpa using N') ?_
  have e : xs.getLastD 0 = xs.getD (-1 + (xs.length : Int)).toNat 0 := by
    rw [List.getLastD_eq_getLast?, List.getLast?_eq_getElem?, List.getD_eq_getElem?_getD]
    congr 2
    omega
  rw [e]
  exact intsAre_append hi (.cons _ _ .nil)
end
/-- the sums, one behind the other -/
def scan : List Int → List Int → List Int
  | acc, [] => acc
  | acc, x :: r => scan (acc ++ [acc.getLastD 0 + x]) r
theorem scan_snoc : ∀ (l acc : List Int) (x : Int), scan acc (l ++ [x]) = scan acc l ++ [(scan acc l).getLastD 0 + x]
  | [], _, _ => rfl
  | a :: l, acc, x => scan_snoc l _ x
theorem scan_len : ∀ (l acc : List Int), (scan acc l).length = acc.length + l.length
  | [], _ => rfl
  | a :: l, acc => by rw [scan, scan_len l]; simp; omega
def AllNe (d : Nat) : List (Addr × Obj) → Prop
  | [] => True
  | p :: r => @Ne Nat p.1 d ∧ AllNe d r
theorem AllNe.at {d : Addr} : ∀ {l : List (Addr × Obj)}, AllNe d l → ∀ p ∈ l, p.1 ≠ d := by
  intro l
  induction l with
  | nil => intro _ p hp; cases hp
  | cons a r ih =>
    intro h p hp
    rcases List.mem_cons.mp hp with e | hp
    · rw [e]; exact h.1
    · exact ih h.2 p hp
theorem ints_rep (t : Tok) : ∀ n : Nat, IntsAre (List.replicate n (Value.int 1 t)) (List.replicate n 1)
  | 0 => .nil
  | n + 1 => .cons _ _ (ints_rep t n)
theorem tri_iter (w : World) (mean : ExcName → Option Value) (mg mb : Str → Option Value) {D S : Addr} {t0 : Tok} {vs : List Value} {ns : List Int} {nD nS : Nat} {tl : List (Addr × Obj)} {m : Str → Option Value}
    {base g : Heap} {outer : List Env} {gd : Option (List Code)} {env : Env} {s : Shared} {L' : Addr} {Q : Flow → Shared → Prop}
    (B : Below (AR 400 env outer gd) base (env :: outer) g) (X : (hd.heap_39 w.params).In g)
    (T : Top hd.view_39 (looseW hd.view_39 [Str.ofString "bisect_right", Str.ofString "COMPILER_FLAG_NAMES"]) mean mg mb g)
    (F : Fr g L' s.heap (fun y => if y = Str.ofString "column" then some (.ref D) else m y))
    (N : News g L' s.heap ((D, listOf #[.int 0 t0] nD) :: (S, listOf vs.toArray nS) :: tl)) (hDS : D ≠ S) (htl : AllNe D tl) (hi : IntsAre vs ns) (hlen : ns.length ≤ 100)
    (hQ : ∀ h' tk' us n' (u : Str → Option Value), Fr g L' h' (fun y => if y = Str.ofString "number" then u y else if y = Str.ofString "column" then some (.ref D) else m y) → News g L' h' ((D, listOf (List.toArray us) n') :: (S, listOf vs.toArray nS) :: tl) →
      IntsAre us (scan [0] ns) → Q .next { s with heap := h', toks := tk' }) :
    ∀ (name qual : Str) (params : Arguments) (body : List Stmt) (scope : Scope) (dV kV doc pm cdv ct oc : Value) (an od : Option Addr) (osl : Array (Option Value)),
      (hd.heap_39 w.params).lookup 52 = some ⟨oc, od, .func (fnOf name qual params body scope dV kV doc pm an cdv ct), osl⟩ →
      ∀ rest : List Stmt, triB body = rest →
      wpAny (model PySem.Challenge.rw_rl0042_01.row.prog w) ((AR 400 env outer gd).deeper (envOf qual scope L' 52 cdv)) (pyIter (.ref S))
        (fun it s₂ => LoopAtV PySem.Challenge.rw_rl0042_01.row.prog w ((AR 400 env outer gd).deeper (envOf qual scope L' 52 cdv)) g (envOf qual scope L' 52 cdv) (Str.ofString "number") rest Q (fun _ _ => False) it s₂) (fun _ _ => False) s := by
  intro name qual params body scope dV kV doc pm cdv ct oc an od osl ho rest hrest
  refine iter_invNL (nn := nS) (fun i m₁ nx => ∃ us n', nx = (D, listOf (List.toArray us) n') :: (S, listOf vs.toArray nS) :: tl ∧ IntsAre us (scan [0] (ns.take i)) ∧ ∀ z, z ≠ Str.ofString "number" → m₁ z = (if z = Str.ofString "column" then some (.ref D) else m z)) rfl (List.mem_cons_of_mem _ (List.mem_cons_self ..)) hi F N ?_ ?_ ?_
  · exact ⟨[.int 0 t0], nD, rfl, .cons _ _ .nil, fun _ _ => rfl⟩
  · rintro i n t m₁ news₁ h tk own hn _ hoff _ ⟨us, n', rfl, hus, hm⟩ F₁ N₁
    have ef : (fun y => if y = Str.ofString "number" then some (Value.int n t) else m₁ y) = (fun y => if y = Str.ofString "number" then some (.int n t) else if y = Str.ofString "column" then some (.ref D) else m y) := by
      funext z
      by_cases hz : z = Str.ofString "number"
      · simp [hz]
      · simp only [if_neg hz]; exact hm z hz
    rw [ef] at F₁
    refine tri_turn w mean mg mb D us _ n' ((S, listOf vs.toArray nS) :: tl ++ own) m n t base g outer gd env { s with heap := h, toks := tk } L' _ B X T F₁ N₁ ?_ hus ?_ ?_ ?_ name qual params body scope dV kV doc pm cdv ct oc an od osl ho rest hrest
    · intro p hp
      rcases List.mem_append.mp hp with hp | hp
      · rcases List.mem_cons.mp hp with rfl | hp
        · exact Ne.symm hDS
        · exact htl.at p hp
      · exact hoff p hp D (by simp)
    · rw [scan_len]; simp
    · rw [scan_len]; simp; omega
    · intro h' tk' us' nn' F' N' hus'
      refine ⟨h', tk', _, _, (D, listOf us'.toArray nn') :: (S, listOf vs.toArray nS) :: tl, rfl, F', N', ?_, ?_, by simp, List.mem_cons_of_mem _ (List.mem_cons_self ..), us', nn', rfl, ?_, ?_⟩
      · intro p hp; exact List.mem_append.mpr (.inl hp)
      · intro p hp; exact List.mem_cons_of_mem _ (List.mem_append.mpr (.inr hp))
      · rw [List.take_add_one, hn]
        show IntsAre us' (scan [0] (ns.take i ++ [n]))
        rw [scan_snoc]; exact hus'
      · intro z hz; simp only [if_neg hz]
  · rintro m₁ news₁ h tk _ ⟨us, n', rfl, hus, hm⟩ F₁ N₁
    rw [List.take_length] at hus
    have ef : m₁ = (fun y => if y = Str.ofString "number" then m₁ y else if y = Str.ofString "column" then some (.ref D) else m y) := by
      funext z
      by_cases hz : z = Str.ofString "number"
      · simp [hz]
      · simp only [if_neg hz]; exact hm z hz
    rw [ef] at F₁
    exact hQ h tk us n' m₁ F₁ N₁ hus
end Mine
end
section
open PySem PySem.W PyProof.Rows PySem.Calls
namespace Mine
theorem news_swap {h₀ h : Heap} {L : Addr} {a b : Addr × Obj} {tl : List (Addr × Obj)} (N : News h₀ L h (a :: b :: tl)) : News h₀ L h (b :: a :: tl) := fun p hp => N p (by
  rcases List.mem_cons.mp hp with h | hp
  · subst h; exact List.mem_cons_of_mem _ (List.mem_cons_self ..)
  · rcases List.mem_cons.mp hp with h | hp
    · subst h; exact List.mem_cons_self ..
    · exact List.mem_cons_of_mem _ (List.mem_cons_of_mem _ hp))
theorem news_drop2 {h₀ h : Heap} {L : Addr} {a b : Addr × Obj} {tl : List (Addr × Obj)} (N : News h₀ L h (a :: b :: tl)) : News h₀ L h (a :: tl) := cb_drop N (fun p hp => by
  rcases List.mem_cons.mp hp with h | hp
  · subst h; exact List.mem_cons_self ..
  · exact List.mem_cons_of_mem _ (List.mem_cons_of_mem _ hp))
theorem news_init {h₀ h : Heap} {L : Addr} {a b c d e f x : Addr × Obj} (N : News h₀ L h [a, b, c, d, e, f, x]) : News h₀ L h [a, b, c, d, e, f] := cb_drop N (fun p hp => by
  simp only [List.mem_cons, List.not_mem_nil, or_false] at hp ⊢
  rcases hp with h | h | h | h | h | h <;> simp [h])
def TriPost (v : Value) (objs : List (Addr × Obj)) : Prop := ∃ (l c0 c1 c2 c3 c4 : Addr) (v0 v1 v2 v3 v4 : List Value) (n n0 n1 n2 n3 n4 : Nat), v = .ref l ∧
  objs = [(c4, listOf v4.toArray n4), (c3, listOf v3.toArray n3), (c2, listOf v2.toArray n2), (c1, listOf v1.toArray n1), (l, listOf [Value.ref c0, .ref c1, .ref c2, .ref c3, .ref c4].toArray n), (c0, listOf v0.toArray n0)] ∧
  IntsAre v0 (colZ 0) ∧ IntsAre v1 (colZ 1) ∧ IntsAre v2 (colZ 2) ∧ IntsAre v3 (colZ 3) ∧ IntsAre v4 (colZ 4)
section
local macro_rules | `(tactic| walk_at "exec For Name Subscript cons nil") => `(tactic| (refine Hold.on ?_))
set_option maxRecDepth 100000 in
set_option maxHeartbeats 2000000 in
theorem tri_con (w mean mg mb) : ConN 400 w mean mg mb 52 [] (fun _ => True) TriPost := by
  k_with_none
  w_top off
  have hfill : ((hd.heap_39 w.params).In {} → PySem.Challenge.rw_rl0042_01 = PySem.Challenge.rw_rl0042_01) := by (k_fill; intro _; rfl)
  clear hfill
  refine' ConN.enter (binds := []) ?k0 ?k1 ?k2 ?k3 ?k4 ?k5 ?k6 ?k7 ?k8 ?_
  case k1 => k_is
  case k0 => decide
  case k2 => k_is
  case k3 => exact (fun s _ => BindsTo.of_eq rfl)
  case k4 => exact locs rfl
  case k5 => rfl
  case k6 => rfl
  case k7 => rfl
  case k8 => decide
  intro base g outer gd env s L' B F N X T _
  (try dsimp only); (try k_lift B); (try k_fold)
  k_with_none
  k_steps
  unfold Hold
  refine For_invV g rfl rfl ?_
  k_with "pyIter ref" => refine Hold.on ?_
  k_steps
  unfold Hold
  rename Fr _ _ _ _ => F1
  rename News _ _ _ _ => N1
  refine' tri_iter w mean mg mb (ns := List.replicate 32 1) B X T F1 (news_swap N1) ?hds1 ?htl1 ?hi1 ?hlen1 ?hq1 _ _ _ _ _ _ _ _ _ _ _ _ _ _ _ ?ho1 _ ?hr1
  case ho1 => rfl
  case hr1 => rfl
  case hds1 => k_ne
  case htl1 => refine ⟨?_, ?_, ?_, ?_, trivial⟩ <;> k_ne
  case hi1 => exact ints_rep _ 32
  case hlen1 => decide
  rw [show scan [0] (List.replicate 32 1) = colZ 1 by decide +kernel]
  clear F1 N1
  intro h1 tk1 us1 n1 u1 F1 N1 I1
  have hlen1 : us1.length = 33 := by rw [I1.length]; decide
  replace N1 := news_drop2 N1
  dsimp only
  k_with_none
  k_steps
  unfold Hold
  refine For_invV g rfl rfl ?_
  k_with "pyIter ref" => refine Hold.on ?_
  k_steps
  unfold Hold
  rename Fr _ _ _ _ => F1
  rename News _ _ _ _ => N1
  refine' tri_iter w mean mg mb (ns := (colZ 1).take 32) B X T F1 (news_swap N1) ?hds2 ?htl2 ?hi2 ?hlen2 ?hq2 _ _ _ _ _ _ _ _ _ _ _ _ _ _ _ ?ho2 _ ?hr2
  case ho2 => rfl
  case hr2 => rfl
  case hds2 => k_ne
  case htl2 => refine ⟨?_, ?_, ?_, ?_, ?_, trivial⟩ <;> k_ne
  case hi2 => assumption
  case hlen2 => (rw [List.length_take]; omega)
  rw [show scan [0] ((colZ 1).take 32) = colZ 2 by decide +kernel]
  clear F1 N1
  intro h2 tk2 us2 n2 u2 F1 N1 I2
  have hlen2 : us2.length = 33 := by rw [I2.length]; decide
  replace N1 := news_drop2 N1
  dsimp only
  k_with_none
  k_steps
  unfold Hold
  refine For_invV g rfl rfl ?_
  k_with "pyIter ref" => refine Hold.on ?_
  k_steps
  unfold Hold
  rename Fr _ _ _ _ => F1
  rename News _ _ _ _ => N1
  refine' tri_iter w mean mg mb (ns := (colZ 2).take 32) B X T F1 (news_swap N1) ?hds3 ?htl3 ?hi3 ?hlen3 ?hq3 _ _ _ _ _ _ _ _ _ _ _ _ _ _ _ ?ho3 _ ?hr3
  case ho3 => rfl
  case hr3 => rfl
  case hds3 => k_ne
  case htl3 => refine ⟨?_, ?_, ?_, ?_, ?_, ?_, trivial⟩ <;> k_ne
  case hi3 => assumption
  case hlen3 => (rw [List.length_take]; omega)
  rw [show scan [0] ((colZ 2).take 32) = colZ 3 by decide +kernel]
  clear F1 N1
  intro h3 tk3 us3 n3 u3 F1 N1 I3
  have hlen3 : us3.length = 33 := by rw [I3.length]; decide
  replace N1 := news_drop2 N1
  dsimp only
  k_with_none
  k_steps
  unfold Hold
  refine For_invV g rfl rfl ?_
  k_with "pyIter ref" => refine Hold.on ?_
  k_steps
  unfold Hold
  rename Fr _ _ _ _ => F1
  rename News _ _ _ _ => N1
  refine' tri_iter w mean mg mb (ns := (colZ 3).take 32) B X T F1 (news_swap N1) ?hds4 ?htl4 ?hi4 ?hlen4 ?hq4 _ _ _ _ _ _ _ _ _ _ _ _ _ _ _ ?ho4 _ ?hr4
  case ho4 => rfl
  case hr4 => rfl
  case hds4 => k_ne
  case htl4 => refine ⟨?_, ?_, ?_, ?_, ?_, ?_, ?_, trivial⟩ <;> k_ne
  case hi4 => assumption
  case hlen4 => (rw [List.length_take]; omega)
  rw [show scan [0] ((colZ 3).take 32) = colZ 4 by decide +kernel]
  clear F1 N1
  intro h4 tk4 us4 n4 u4 F1 N1 I4
  have hlen4 : us4.length = 33 := by rw [I4.length]; decide
  replace N1 := news_drop2 N1
  dsimp only
  k_with_none
  k_steps
  rename Fr _ _ _ _ => F9
  rename News _ _ _ _ => N9
  replace N9 := news_init N9
  refine BackN.intro (s := s) F9 N9 ⟨_, _, _, _, _, _, _, _, _, _, _, _, _, _, _, _, _, rfl, rfl, ?_, I1, I2, I3, I4⟩
  rename IntsAre (List.replicate _ _).flatten _ => I0
  rw [show colZ 0 = (List.replicate (Int.toNat 33) [(1 : Int)]).flatten by decide +kernel]
  exact I0
end
end Mine
end
section
open PySem PySem.W PyProof.Rows PySem.Calls
namespace Mine
/-! plain: words and flags -/
/-- the words of flags that are given from the greatest down -/
def wordsL (l : List Nat) : List Str := l.reverse.map nm
theorem nm_nodup : ((List.range 32).map nm).Nodup := by decide +kernel
theorem low_nodup : ((List.range 32).map (fun i => Txt.lower (nm i))).Nodup := by decide +kernel
theorem inj_of {α : Type} {f : Nat → α} (h : ((List.range 32).map f).Nodup) {i j : Nat} (hi : i < 32) (hj : j < 32) (e : f i = f j) : i = j := by
  have := (List.nodup_iff_pairwise_ne.mp h)
  rw [List.pairwise_iff_getElem] at this
  by_cases h1 : i < j
  · exact absurd (by rw [List.getElem_map, List.getElem_map, List.getElem_range, List.getElem_range]; exact e) (this i j (by rw [List.length_map, List.length_range]; exact hi) (by rw [List.length_map, List.length_range]; exact hj) h1)
  · by_cases h2 : j < i
    · exact absurd (by rw [List.getElem_map, List.getElem_map, List.getElem_range, List.getElem_range]; exact e.symm) (this j i (by rw [List.length_map, List.length_range]; exact hj) (by rw [List.length_map, List.length_range]; exact hi) h2)
    · omega
theorem nm_inj {i j : Nat} (hi : i < 32) (hj : j < 32) (e : nm i = nm j) : i = j := inj_of nm_nodup hi hj e
theorem dif_nm {i j : Nat} (hi : i < 32) (hj : j < 32) (h : i ≠ j) : Dif (nm i) (nm j) :=
  ⟨fun e => h (nm_inj hi hj e), fun e => h (inj_of low_nodup hi hj e), Nat.le_trans (nm_len i) (by omega), Nat.le_trans (nm_len j) (by omega)⟩
theorem nm_comma : ∀ i < 32, 44 ∉ (nm i).cps.toList := by decide +kernel
theorem nm_ok : ∀ i < 32, PyData.strOk (nm i) = true := by decide +kernel
theorem words_len (l : List Nat) : (wordsL l).length = l.length := by simp [wordsL]
theorem words_mem {l : List Nat} {x : Str} (h : x ∈ wordsL l) : ∃ c ∈ l, nm c = x := by
  simpa [wordsL] using h
theorem words_comma {l : List Nat} (hb : ∀ c ∈ l, c < 32) : ∀ n ∈ wordsL l, 44 ∉ n.cps.toList := by
  intro n hn
  obtain ⟨c, hc, rfl⟩ := words_mem hn
  exact nm_comma c (hb c hc)
theorem words_ok {l : List Nat} (hb : ∀ c ∈ l, c < 32) : StrsOk (wordsL l) := by
  intro n hn
  obtain ⟨c, hc, rfl⟩ := words_mem hn
  exact nm_ok c (hb c hc)
theorem words_any {l : List Nat} (hb : ∀ c ∈ l, c < 32) {n : Nat} (hn : n < 32) : (wordsL l).any (· == nm n) = decide (n ∈ l) := by
  rw [Bool.eq_iff_iff]
  rw [List.any_eq_true, decide_eq_true_iff]
  constructor
  · rintro ⟨x, hx, he⟩
    obtain ⟨c, hc, rfl⟩ := words_mem hx
    have := nm_inj (hb c hc) hn (eq_of_beq he)
    subst this; exact hc
  · intro h
    exact ⟨nm n, by simp only [wordsL, List.mem_map, List.mem_reverse]; exact ⟨n, h, rfl⟩, by simp⟩
theorem range_pick {l : List Nat} (hp : l.Pairwise (· > ·)) (hb : ∀ c ∈ l, c < 32) : (List.range 32).filter (fun n => decide (n ∈ l)) = l.reverse := by
  rw [← bits_msk l 32 hp hb]
  unfold bitsBelow
  apply List.filter_congr
  intro n hn
  have hm : n ∈ bitsBelow (mskN l) 32 ↔ n ∈ l := by rw [bits_msk l 32 hp hb]; simp
  unfold bitsBelow at hm
  rw [List.mem_filter] at hm
  by_cases h : n ∈ l
  · simp only [h, decide_true]; exact (hm.mpr h).2.symm
  · simp only [h, decide_false]
    have : ¬ (mskN l).testBit n = true := fun e => h (hm.mp ⟨hn, e⟩)
    simpa using this
theorem rangeInts32 : rangeInts 0 1 32 = (List.range 32).map fun (n : Nat) => (n : Int) := by decide +kernel
theorem flags_pick {l : List Nat} (hp : l.Pairwise (· > ·)) (hb : ∀ c ∈ l, c < 32) : (rangeInts 0 1 32).filter (fun a => (wordsL l).any (· == nm a.toNat)) = asc l := by
  rw [rangeInts32, List.filter_map]
  unfold asc
  rw [← range_pick hp hb]
  congr 1
  apply List.filter_congr
  intro n hn
  simp only [Function.comp, Int.toNat_natCast]
  exact words_any hb (List.mem_range.mp hn)
theorem asc_words (l : List Nat) : (asc l).map (fun a => nm a.toNat) = wordsL l := by
  simp [asc, wordsL, List.map_map, Function.comp_def]
theorem asc_len (l : List Nat) : (asc l).length = l.length := by simp [asc]
theorem asc_at {l : List Nat} (hb : ∀ c ∈ l, c < 32) : ∀ i < (asc l).length, 0 ≤ (asc l).getD i 0 ∧ (asc l).getD i 0 ≤ 31 := by
  intro i hi
  rw [asc_len] at hi
  have hl : i < l.reverse.length := by simpa using hi
  have e : (asc l).getD i 0 = ((l.reverse[i] : Nat) : Int) := by
    simp only [asc, List.getD_eq_getElem?_getD, List.getElem?_map, List.getElem?_eq_getElem hl]
    rfl
  have h1 := hb (l.reverse[i]) (List.mem_reverse.mp (List.getElem_mem hl))
  rw [e]; omega
end Mine
end
section
open PySem PySem.W PyProof.Rows PySem.Calls
namespace Mine
theorem any_mem (l : List Int) (a : Int) : l.any (· == a) = decide (a ∈ l) := by
  rw [Bool.eq_iff_iff, List.any_eq_true, decide_eq_true_iff]
  constructor
  · rintro ⟨x, hx, he⟩
    rw [← eq_of_beq he]; exact hx
  · intro h; exact ⟨a, h, by simp⟩
theorem filt {P M1 M2 S : List Int} (h : ∀ x ∈ M1, x ∉ P ∧ x ∉ S) : (P ++ M1 ++ S).filter (fun a => !((P ++ M2 ++ S).any (· == a))) = M1.filter (fun a => !(M2.any (· == a))) := by
  simp only [any_mem]
  rw [List.filter_append, List.filter_append]
  have h1 : P.filter (fun a => !decide (a ∈ P ++ M2 ++ S)) = [] := by
    rw [List.filter_eq_nil_iff]; intro a ha; simp [ha]
  have h2 : S.filter (fun a => !decide (a ∈ P ++ M2 ++ S)) = [] := by
    rw [List.filter_eq_nil_iff]; intro a ha; simp [ha]
  rw [h1, h2, List.nil_append, List.append_nil]
  apply List.filter_congr
  intro a ha
  have := h a ha
  simp [this.1, this.2]
theorem asc_app (l l' : List Nat) : asc (l ++ l') = asc l' ++ asc l := by simp [asc]
theorem asc_mem {l : List Nat} {x : Int} (h : x ∈ asc l) : ∃ c ∈ l, (c : Int) = x := by
  simpa [asc] using h
theorem words_app (l l' : List Nat) : wordsL (l ++ l') = wordsL l' ++ wordsL l := by simp [wordsL]
def LevC (A B : List Nat) (c : Int) : Prop := ∀ (w mean mg mb) (la lb : Addr) (va vb : List Value) (tm : Tok), StrsAre va (wordsL A) → StrsAre vb (wordsL B) →
  Con 400 w mean mg mb 45 [.ref la, .ref lb, .int 4 tm] (fun h => h.IsList la va.toArray ∧ h.IsList lb vb.toArray) (fun v => ∃ t, v = .int c t)
def PriceC (A B : List Nat) (c : Int) : Prop := ∀ (w mean mg mb) (l1 l2 : Addr) (v1 v2 : List Value), IntsAre v1 (asc A) → IntsAre v2 (asc B) →
  Con 400 w mean mg mb 83 [.ref l1, .ref l2] (fun h => h.IsList l1 v1.toArray ∧ h.IsList l2 v2.toArray) (fun v => ∃ t, v = .int c t)
/-- the price, when one goes and one comes -/
theorem price_of {A B : List Nat} {P M1 M2 S : List Int} {x y c : Int} (hA : A.length ≤ 4) (hB : B.length ≤ 4) (eA : asc A = P ++ M1 ++ S) (eB : asc B = P ++ M2 ++ S)
    (h1 : ∀ x ∈ M1, x ∉ P ∧ x ∉ S) (h2 : ∀ x ∈ M2, x ∉ P ∧ x ∉ S) (hx : M1.filter (fun a => !(M2.any (· == a))) = [x]) (hy : M2.filter (fun a => !(M1.any (· == a))) = [y])
    (hc : (if (asc A).filter (fun a => (asc B).any (· == a) && decide (min x y < a) && decide (a < max x y)) = [] then 2 else 4) = c) : PriceC A B c := by
  intro w mean mg mb l1 l2 v1 v2 hi1 hi2
  have hm : (asc A).filter (fun a => !((asc B).any (· == a))) ++ (asc B).filter (fun a => !((asc A).any (· == a))) = [x, y] := by
    rw [eA, eB, filt h1, filt h2, hx, hy]; rfl
  have := price_con w mean mg mb l1 l2 v1 v2 (asc A) (asc B) hi1 hi2 (by rw [asc_len]; exact hA) (by rw [asc_len]; exact hB) x y hm
  rw [hc] at this
  exact this
theorem cost_one {T : List Nat} {c : Nat} (hT : ∀ t ∈ T, c + 1 < t) (hl : (T ++ [c]).length ≤ 4) (hb : ∀ t ∈ T ++ [c + 1], t < 32) :
    (LevC (T ++ [c]) (T ++ [c + 1]) 2 ∧ LevC (T ++ [c + 1]) (T ++ [c]) 2) ∧ PriceC (T ++ [c]) (T ++ [c + 1]) 2 ∧ PriceC (T ++ [c + 1]) (T ++ [c]) 2 := by
  have hc : c + 1 < 32 := hb (c + 1) (by simp)
  have hTb : ∀ t ∈ T, t < 32 := fun t ht => hb t (by simp [ht])
  have ok1 : StrsOk ([] ++ [nm c] ++ wordsL T) := by
    have := words_ok (l := T ++ [c]) (by intro x hx; rcases List.mem_append.mp hx with h | h; exact hTb x h; simp at h; omega)
    rw [words_app] at this; exact this
  have ok2 : StrsOk ([] ++ [nm (c + 1)] ++ wordsL T) := by
    have := words_ok (l := T ++ [c + 1]) hb
    rw [words_app] at this; exact this
  have hlT : (wordsL T).length ≤ 4 := by rw [words_len]; simp at hl; omega
  have hl2 : (T ++ [c + 1]).length ≤ 4 := by simpa using hl
  have n1 : ∀ x ∈ asc T, (c : Int) + 1 < x := by
    intro x hx
    obtain ⟨t, ht, rfl⟩ := asc_mem hx
    have := hT t ht; omega
  have eA : asc (T ++ [c]) = [] ++ [(c : Int)] ++ asc T := by rw [asc_app]; rfl
  have eB : asc (T ++ [c + 1]) = [] ++ [(c : Int) + 1] ++ asc T := by rw [asc_app]; rfl
  have q1 : ∀ x ∈ [(c : Int)], x ∉ ([] : List Int) ∧ x ∉ asc T := by
    intro x hx
    refine ⟨by simp, fun h => ?_⟩
    have := n1 x h; simp at hx; omega
  have q2 : ∀ x ∈ [(c : Int) + 1], x ∉ ([] : List Int) ∧ x ∉ asc T := by
    intro x hx
    refine ⟨by simp, fun h => ?_⟩
    have := n1 x h; simp at hx; omega
  have ne1 : ¬ ((c : Int) + 1 = (c : Int)) := by omega
  have ne2 : ¬ ((c : Int) = (c : Int) + 1) := by omega
  refine ⟨⟨?_, ?_⟩, ?_, ?_⟩
  · intro w mean mg mb la lb va vb tm ha hb'
    rw [words_app] at ha hb'
    exact lev1_con w mean mg mb la lb va vb [] (wordsL T) (nm c) (nm (c + 1)) tm ha hb' (by simp) hlT ok1 ok2 (dif_nm hc (by omega) (by omega))
  · intro w mean mg mb la lb va vb tm ha hb'
    rw [words_app] at ha hb'
    exact lev1_con w mean mg mb la lb va vb [] (wordsL T) (nm (c + 1)) (nm c) tm ha hb' (by simp) hlT ok2 ok1 (dif_nm (by omega) hc (by omega))
  · refine price_of hl hl2 eA eB q1 q2 (x := c) (y := c + 1) (by simp [ne1, ne2]) (by simp [ne1, ne2]) ?_
    rw [if_pos]
    rw [List.filter_eq_nil_iff]
    intro a ha
    rw [eA] at ha
    simp only [Bool.and_eq_true, decide_eq_true_eq]
    rintro ⟨⟨_, h1⟩, h2⟩
    rcases List.mem_append.mp ha with h | h
    · simp at h; omega
    · have := n1 a h; omega
  · refine price_of hl2 hl eB eA q2 q1 (x := c + 1) (y := c) (by simp [ne1, ne2]) (by simp [ne1, ne2]) ?_
    rw [if_pos]
    rw [List.filter_eq_nil_iff]
    intro a ha
    rw [eB] at ha
    simp only [Bool.and_eq_true, decide_eq_true_eq]
    rintro ⟨⟨_, h1⟩, h2⟩
    rcases List.mem_append.mp ha with h | h
    · simp at h; omega
    · have := n1 a h; omega
theorem cost_two {T L : List Nat} {c p : Nat} (hpc : p < c) (hT : ∀ t ∈ T, c + 1 < t) (hL : ∀ l ∈ L, l < p) (hl : (T ++ c :: p :: L).length ≤ 4) (hb : ∀ t ∈ T ++ (c + 1) :: c :: L, t < 32) :
    (LevC (T ++ c :: p :: L) (T ++ (c + 1) :: c :: L) 4 ∧ LevC (T ++ (c + 1) :: c :: L) (T ++ c :: p :: L) 4) ∧ PriceC (T ++ c :: p :: L) (T ++ (c + 1) :: c :: L) 4 ∧ PriceC (T ++ (c + 1) :: c :: L) (T ++ c :: p :: L) 4 := by
  have hc : c + 1 < 32 := hb (c + 1) (by simp)
  have hTb : ∀ t ∈ T, t < 32 := fun t ht => hb t (by simp [ht])
  have wA : wordsL (T ++ c :: p :: L) = wordsL L ++ [nm p, nm c] ++ wordsL T := by simp [wordsL]
  have wB : wordsL (T ++ (c + 1) :: c :: L) = wordsL L ++ [nm c, nm (c + 1)] ++ wordsL T := by simp [wordsL]
  have ok1 : StrsOk (wordsL L ++ [nm p, nm c] ++ wordsL T) := by
    rw [← wA]
    apply words_ok
    intro x hx
    rcases List.mem_append.mp hx with h | h
    · exact hTb x h
    · simp only [List.mem_cons] at h
      rcases h with h | h | h
      · omega
      · omega
      · have := hL x h; omega
  have ok2 : StrsOk (wordsL L ++ [nm c, nm (c + 1)] ++ wordsL T) := by
    rw [← wB]; exact words_ok hb
  have hlT : (wordsL T).length ≤ 4 := by rw [words_len]; simp at hl; omega
  have hlL : (wordsL L).length ≤ 4 := by rw [words_len]; simp at hl; omega
  have hl2 : (T ++ (c + 1) :: c :: L).length ≤ 4 := by simpa using hl
  have n1 : ∀ x ∈ asc T, (c : Int) + 1 < x := by
    intro x hx
    obtain ⟨t, ht, rfl⟩ := asc_mem hx
    have := hT t ht; omega
  have n2 : ∀ x ∈ asc L, x < (p : Int) := by
    intro x hx
    obtain ⟨t, ht, rfl⟩ := asc_mem hx
    have := hL t ht; omega
  have eA : asc (T ++ c :: p :: L) = asc L ++ [(p : Int), (c : Int)] ++ asc T := by simp [asc]
  have eB : asc (T ++ (c + 1) :: c :: L) = asc L ++ [(c : Int), (c : Int) + 1] ++ asc T := by simp [asc]
  have q1 : ∀ x ∈ [(p : Int), (c : Int)], x ∉ asc L ∧ x ∉ asc T := by
    intro x hx
    simp only [List.mem_cons, List.not_mem_nil, or_false] at hx
    refine ⟨fun h => ?_, fun h => ?_⟩
    · have := n2 x h; omega
    · have := n1 x h; omega
  have q2 : ∀ x ∈ [(c : Int), (c : Int) + 1], x ∉ asc L ∧ x ∉ asc T := by
    intro x hx
    simp only [List.mem_cons, List.not_mem_nil, or_false] at hx
    refine ⟨fun h => ?_, fun h => ?_⟩
    · have := n2 x h; omega
    · have := n1 x h; omega
  have f1 : [(p : Int), (c : Int)].filter (fun a => !([(c : Int), (c : Int) + 1].any (· == a))) = [(p : Int)] := by
    have e1 : ((c : Int) == (p : Int)) = false := by simp; omega
    have e2 : ((c : Int) + 1 == (p : Int)) = false := by simp; omega
    simp only [List.filter, List.any_cons, List.any_nil, e1, e2, beq_self_eq_true, Bool.true_or, Bool.or_self, Bool.not_false, Bool.not_true]
  have f2 : [(c : Int), (c : Int) + 1].filter (fun a => !([(p : Int), (c : Int)].any (· == a))) = [(c : Int) + 1] := by
    have e1 : ((p : Int) == (c : Int)) = false := by simp; omega
    have e2 : ((p : Int) == (c : Int) + 1) = false := by simp; omega
    have e3 : ((c : Int) == (c : Int) + 1) = false := by simp; omega
    simp only [List.filter, List.any_cons, List.any_nil, e1, e2, e3, beq_self_eq_true, Bool.false_or, Bool.or_self, Bool.or_false, Bool.true_or, Bool.not_false, Bool.not_true]
  refine ⟨⟨?_, ?_⟩, ?_, ?_⟩
  · intro w mean mg mb la lb va vb tm ha hb'
    rw [wA] at ha
    rw [wB] at hb'
    exact lev2_con w mean mg mb la lb va vb (wordsL L) (wordsL T) (nm p) (nm (c + 1)) (nm c) tm ha hb' hlL hlT ok1 ok2 (dif_nm (by omega) (by omega) (by omega)) (dif_nm (by omega) (by omega) (by omega)) (dif_nm (by omega) (by omega) (by omega))
  · intro w mean mg mb la lb va vb tm ha hb'
    rw [wB] at ha
    rw [wA] at hb'
    exact lev3_con w mean mg mb la lb va vb (wordsL L) (wordsL T) (nm p) (nm (c + 1)) (nm c) tm ha hb' hlL hlT ok2 ok1 (dif_nm (by omega) (by omega) (by omega)) (dif_nm (by omega) (by omega) (by omega)) (dif_nm (by omega) (by omega) (by omega))
  · refine price_of hl hl2 eA eB q1 q2 f1 f2 ?_
    rw [if_neg]
    intro h
    have hm := List.filter_eq_nil_iff.mp h (c : Int) (by rw [eA]; simp)
    apply hm
    simp only [any_mem, eB, Bool.and_eq_true, decide_eq_true_eq]
    exact ⟨⟨by simp, by omega⟩, by omega⟩
  · refine price_of hl2 hl eB eA q2 q1 f2 f1 ?_
    rw [if_neg]
    intro h
    have hm := List.filter_eq_nil_iff.mp h (c : Int) (by rw [eB]; simp)
    apply hm
    simp only [any_mem, eA, Bool.and_eq_true, decide_eq_true_eq]
    exact ⟨⟨by simp, by omega⟩, by omega⟩
theorem adj_cost {A B : List Nat} (h : Adj A B) (hA : A.length ≤ 4) (hB : B.length ≤ 4) (bA : ∀ c ∈ A, c < 32) (bB : ∀ c ∈ B, c < 32) : ∃ c, LevC A B c ∧ PriceC A B c := by
  rcases h with h | h
  · cases h with
    | one T c hT => exact ⟨2, (cost_one hT hA bB).1.1, (cost_one hT hA bB).2.1⟩
    | two T c p L h1 hT hL => exact ⟨4, (cost_two h1 hT hL hA bB).1.1, (cost_two h1 hT hL hA bB).2.1⟩
  · cases h with
    | one T c hT => exact ⟨2, (cost_one hT hB bA).1.2, (cost_one hT hB bA).2.2⟩
    | two T c p L h1 hT hL => exact ⟨4, (cost_two h1 hT hL hB bA).1.2, (cost_two h1 hT hL hB bA).2.2⟩
end Mine
end
section
open PySem PySem.W PyProof.Rows PySem.Calls
namespace Mine
/-- the law's first loop's body -/
def lawB (body : List Stmt) : List Stmt := match body[7]? with
  | some o => forBody o
  | none => []
theorem mem4 {α : Type} {a b c d x : α} {tl : List α} (h : x ∈ tl) : x ∈ a :: b :: c :: d :: tl := .tail _ (.tail _ (.tail _ (.tail _ h)))
theorem pref_facts {k r : Nat} (hk1 : 2 ≤ k) (hk2 : k ≤ 4) (hr : r < ch 32 k) : (un k r).length = k ∧ (∀ c ∈ un k r, c < 32) ∧ (un k r).Pairwise (· > ·) ∧ mskN (un k r) < 2 ^ 32 ∧ mskN (un k r) ≠ 0 := by
  obtain ⟨a, b, c⟩ := un_below k hk2 r 32 (by omega) hr
  refine ⟨a, b, c, mskN_lt _ 32 c b, ?_⟩
  cases hu : un k r with
  | nil => rw [hu] at a; simp at a; omega
  | cons x l =>
    rw [mskN]
    have := Nat.two_pow_pos x
    omega
theorem join_len : ∀ l : List Str, (∀ x ∈ l, x.length ≤ 18) → (Str.join sep2 l).length ≤ 20 * l.length
  | [], _ => by simp [Str.join]; decide
  | [a], h => by
    have := h a (by simp)
    show a.length ≤ _
    simp; omega
  | a :: b :: l, h => by
    have h1 := h a (by simp)
    have h2 := join_len (b :: l) (fun x hx => h x (List.mem_cons_of_mem _ hx))
    show (a ++ sep2 ++ Str.join sep2 (b :: l)).length ≤ _
    rw [Str.length_append, Str.length_append, sep2_len]
    simp only [List.length_cons] at h2 ⊢
    omega
theorem strs_get : ∀ {vs : List Value} {ys : List Str} {i : Nat} {y : Str}, StrsAre vs ys → ys[i]? = some y → ∃ t, vs[i]? = some (.str y t)
  | _, _, _, _, .nil, h => by simp at h
  | _, _, 0, _, .cons y t _, h => by
    simp at h; subst h; exact ⟨t, rfl⟩
  | _, _, i + 1, _, .cons _ _ r, h => by
    simp at h; simpa using strs_get r h
theorem nm_at {ws : List Value} (hws : StrsAre ws ((List.range 32).map nm)) {a : Int} (h0 : 0 ≤ a) (h1 : a < 32) : ∃ t, ws.toArray[a.toNat]? = some (.str (nm a.toNat) t) := by
  obtain ⟨t, ht⟩ := strs_get (i := a.toNat) (y := nm a.toNat) hws (by rw [List.getElem?_map, List.getElem?_range (by omega)]; rfl)
  exact ⟨t, by simpa using ht⟩
section
local macro_rules | `(tactic| walk_at "call ref") => `(tactic| (refine Hold.on ?_))
local macro_rules | `(tactic| walk_at "eval ListComp") => `(tactic| (refine Hold.on ?_))
local macro_rules | `(tactic| walk_at "exec Assign cons ListComp") => `(tactic| (refine Hold.on ?_))
local macro_rules | `(tactic| walk_at "subscriptTail Name Name ref int") => `(tactic| (refine Hold.on ?_))
local macro_rules | `(tactic| walk_at "compareOp In str ref") => `(tactic| (refine Hold.on ?_))
local macro_rules | `(tactic| walk_at "compareOp NotEq ref ref") => `(tactic| (refine Hold.on ?_))
local macro_rules | `(tactic| walk_at "call builtin:list.append") => `(tactic| (refine Hold.on ?_))
set_option maxRecDepth 100000 in
set_option maxHeartbeats 1000000 in
theorem law_turn (w : World) (mean : ExcName → Option Value) (mg mb : Str → Option Value) (fa : Addr) (cd : Value) (k r : Nat) (C R Ch Nm : Addr) (cs : Nat → Addr) (vv : Nat → List Value) (rs cs0 : List Value) (nr nc : Nat) (ws : List Value) (tl : List (Addr × Obj)) (m : Str → Option Value) (tr tk0 : Tok)
    (g : Heap) (s : Shared) (L' : Addr) (oN oW : Obj) (q : Option Value) (Q : Flow → Shared → Prop)
    (hk1 : 2 ≤ k) (hk2 : k ≤ 4) (hr : r < ch 32 k)
    (B : Below callerA g [] g) (X : (hd.heap_39 w.params).In g)
    (T : Top hd.view_39 (looseW hd.view_39 [Str.ofString "bisect_right", Str.ofString "COMPILER_FLAG_NAMES"]) mean mg mb g)
    (F : Fr g L' s.heap (fun y => if y = Str.ofString "rank" then some (.int r tr) else if y = Str.ofString "columns" then some (.ref C) else if y = Str.ofString "size" then some (.int k tk0) else if y = Str.ofString "rows" then some (.ref R) else if y = Str.ofString "choices" then some (.ref Ch) else m y))
    (hrs : rs.length ≤ 10) (hcs0 : cs0.length ≤ 10)
    (N : News g L' s.heap ((L' + 1 + 1, oW) :: (R, listOf rs.toArray nr) :: (Ch, listOf cs0.toArray nc) :: (L' + 1, oN) :: tl))
    (l1 : @LT.lt Nat _ (L' + 1 + 1) R) (l2 : @LT.lt Nat _ R Ch) (htl : ∀ p ∈ tl, p.1 ≠ L' + 1 + 1 ∧ p.1 ≠ R ∧ p.1 ≠ Ch)
    (hW : oW.data = .cell q) (hN : oN.data = .cell (some (.ref Nm)))
    (colv : List Value) (nC nN : Nat) (hC : (C, listOf colv.toArray nC) ∈ tl) (hcs : ∀ i ≤ 4, ∃ n, (cs i, listOf (vv i).toArray n) ∈ tl) (hcv : ∀ i ≤ 4, colv[i]? = some (.ref (cs i))) (hvv : ∀ i ≤ 4, IntsAre (vv i) (colZ i))
    (hNm : (Nm, listOf ws.toArray nN) ∈ tl) (hws : StrsAre ws ((List.range 32).map nm))
    (hQ : ∀ h' tk' W D wv fv nD oW', Fr g L' h' (fun y => if y = Str.ofString "flags" then some (.ref D) else if y = Str.ofString "rank" then some (.int r tr) else if y = Str.ofString "columns" then some (.ref C) else if y = Str.ofString "size" then some (.int k tk0) else if y = Str.ofString "rows" then some (.ref R) else if y = Str.ofString "choices" then some (.ref Ch) else m y) →
      News g L' h' ((L' + 1 + 1, oW') :: (R, listOf (rs ++ [Value.ref W]).toArray (nr + 1)) :: (Ch, listOf (cs0 ++ [Value.ref D]).toArray (nc + 1)) :: (L' + 1, oN) :: (D, listOf (List.toArray fv) nD) :: (W, listOf (List.toArray wv) 0) :: tl) →
      oW'.data = .cell (some (.ref W)) → StrsAre wv (wordsL (un k r)) → IntsAre fv (asc (un k r)) → (∀ p ∈ (D, listOf (List.toArray fv) nD) :: (W, listOf (List.toArray wv) 0) :: tl, p.1 ≠ L' + 1 + 1 ∧ p.1 ≠ R ∧ p.1 ≠ Ch) → (∀ p ∈ tl, p.1 ≠ W ∧ p.1 ≠ D) → Q .next { s with heap := h', toks := tk' }) :
    ∀ (name qual : Str) (params : Arguments) (body : List Stmt) (scope : Scope) (dV kV doc pm cdv ct oc : Value) (an od : Option Addr) (osl : Array (Option Value)),
      (hd.heap_39 w.params).lookup 88 = some ⟨oc, od, .func (fnOf name qual params body scope dV kV doc pm an cdv ct), osl⟩ →
      ∀ rest : List Stmt, lawB body = rest →
      wpAny (model PySem.Challenge.rw_rl0042_01.row.prog w) (callerA.deeper (envOfC qual scope L' fa cd)) (execs rest (envOfC qual scope L' fa cd)) Q (fun _ _ => False) s := by
  k_with_none
  w_top off
  have hfill : ((hd.heap_39 w.params).In {} → PySem.Challenge.rw_rl0042_01 = PySem.Challenge.rw_rl0042_01) := by (k_fill; intro _; rfl)
  clear hfill
  refine' with_body (fun qual body scope cdv => ∀ rest : List Stmt, lawB body = rest →
      wpAny (model PySem.Challenge.rw_rl0042_01.row.prog w) (callerA.deeper (envOfC qual scope L' fa cd)) (execs rest (envOfC qual scope L' fa cd)) Q (fun _ _ => False) s) ?ho ?_
  case ho => k_is
  intro rest hrest
  subst hrest
  simp only [lawB, forBody, List.getElem?_cons_succ, List.getElem?_cons_zero]
  k_with_none
  k_steps
  unfold Hold
  obtain ⟨u1, u2, u3, u4, u5⟩ := pref_facts hk1 hk2 hr
  refine' Con.use (chosen_con w mean mg mb C cs colv vv k _ r _ hk1 hk2 hcv hvv hr) ?B ?F ?N ?X ?T ?e1 ?e2 ?d ?u ?e3 ?e4 ?hp ?_
  (case e1 => rfl)
  (case e2 => rfl)
  (case e3 => rfl)
  (case e4 => rfl)
  (case B => k_asm)
  (case F => k_asm)
  (case N => k_asm)
  (case X => k_asm)
  (case T => k_asm)
  (case d => exact Nat.le_of_ble_eq_true rfl)
  (case u => exact Nat.le_of_ble_eq_true rfl)
  (case hp => exact ⟨⟨_, N.get (mem4 hC), rfl, _, rfl⟩, fun i hi => (hcs i hi).elim fun n hn => ⟨_, N.get (mem4 hn), rfl, _, rfl⟩⟩)
  intro v1 h1 tk1 kp1 F1 N1 hv1
  obtain ⟨t1, rfl⟩ := hv1
  rw [msk_is]
  clear F N kp1
  try dsimp only
  k_steps
  unfold Hold
  refine' Con.use (pretty_con w mean mg mb (mskN (un k r)) _ u4 u5) ?B2 ?F2 ?N2 ?X2 ?T2 ?e12 ?e22 ?d2 ?uu2 ?e32 ?e42 trivial ?_
  (case e12 => rfl)
  (case e22 => rfl)
  (case e32 => rfl)
  (case e42 => rfl)
  (case B2 => k_asm)
  (case F2 => k_asm)
  (case N2 => k_asm)
  (case X2 => k_asm)
  (case T2 => k_asm)
  (case d2 => exact Nat.le_of_ble_eq_true rfl)
  (case uu2 => exact Nat.le_of_ble_eq_true rfl)
  intro v2 h2 tk2 kp2 F2 N2 hv2
  obtain ⟨t2, rfl⟩ := hv2
  rw [bits_msk _ 32 u3 u2]
  clear F1 N1 kp2
  try dsimp only
  k_steps
  refine splitN1A F2 N2 (by decide) ?_ ?_
  rotate_left
  · show (Txt.join sep2 _).length + 2 ≤ _
    rw [show Txt.join sep2 _ = Str.join sep2 _ from PySem.StrLaws.glued_eq_join _ _]
    have := join_len (wordsL (un k r)) (by intro x hx; obtain ⟨c, _, rfl⟩ := words_mem hx; exact nm_len c)
    rw [words_len, u1] at this
    rw [sizeLine_eq]
    show (Str.join sep2 (wordsL (un k r))).length + 2 ≤ _
    omega
  intro lw h3 tk3 e3 S3 _ _ F3 N3
  replace e3 := e3.trans (show Txt.split (Txt.join sep2 (wordsL (un k r))) sep2 = _ from split_join (by rw [words_len]; omega) (words_comma u2))
  rw [e3] at S3
  have ltW : ∀ p ∈ ((L' + 1 + 1, oW) :: (R, listOf rs.toArray nr) :: (Ch, listOf cs0.toArray nc) :: (L' + 1, oN) :: tl), p.1 < h2.objs.size := fun p hp => Heap.lt_size (N2 p hp).1
  replace N3 : News g L' h3 ((h2.objs.size, listOf (strValues lw).toArray 0) :: (L' + 1 + 1, oW) :: (R, listOf rs.toArray nr) :: (Ch, listOf cs0.toArray nc) :: (L' + 1, oN) :: tl) := N3
  dsimp only
  generalize h2.objs.size = W at *
  generalize strValues lw = wv at *
  clear F2 N2
  have hWne : W ≠ L' + 1 + 1 := Nat.ne_of_gt (ltW _ (List.mem_cons_self ..))
  refine storeX_C F3 N3 rfl (.tail hWne (.head ?_)) hW ?_ rfl rfl
  · intro p hp
    simp only [List.mem_cons] at hp
    rcases hp with h | h | h | h
    · rw [h]; exact Nat.ne_of_gt l1
    · rw [h]; exact Nat.ne_of_gt (Nat.lt_trans l1 l2)
    · rw [h]; exact Nat.ne_of_lt (Nat.lt_succ_self _)
    · exact (htl p h).1
  intro h4 o4 F4 N4 d4
  clear F3 N3
  try dsimp only
  k_steps
  unfold Hold
  refine assign_rfilter (fun a => (wordsL (un k r)).any (· == nm a.toNat)) F4 rfl rfl rfl rfl (by decide) rfl (by decide) rfl (by decide) rfl rfl ?_ (by intro _; rfl)
  k_steps
  rename Fr _ _ _ _ => F5
  rename News _ _ _ _ => N5
  rename IsRange _ _ _ _ _ _ _ _ => hR5
  refine ⟨_, _, 0, 32, _, _, _, 32, rfl, hR5, rfl, rfl, by rw [sizeLine_eq]; omega, F5, N5, ?_, ?_⟩
  · intro D a t s₂ m₂ E' hC' ha hn hm hk
    obtain ⟨F6, N6⟩ := inComp F5 N5 hC' hn hk
    have hb := mem_rangeInts ha
    obtain ⟨t7, h7⟩ := nm_at hws hb.1 (by omega)
    k_steps
    unfold Hold
    refine item_listR (items := ws.toArray) (x := .str (nm a.toNat) t7) ⟨_, N6.get (.tail _ (mem4 hNm)), rfl, _, rfl⟩ hb.1 (by omega) h7 ?_ (by with_unfolding_all rfl)
    k_steps
    unfold Hold
    refine in_list_strs ⟨_, N6.get (.head _), rfl, _, rfl⟩ S3 ?_
    k_steps
    all_goals first | exact ⟨rfl, Keeps.rfl'⟩ | exact ⟨_, _, rfl, fun _ _ e => e⟩
  · intro D ys e h6 tk6 F6 N6 hne6 I6
    rw [flags_pick u3 u2] at I6
    try dsimp only
    k_steps
    unfold Hold
    have hyl : ys.length = k := by rw [I6.length, asc_len, u1]
    refine comp_lmap (fun a => nm a.toNat) F6 rfl rfl (by decide) rfl (by decide) rfl ?_ (by intro _; rfl)
    k_steps
    rename Fr _ _ _ _ => F7
    rename News _ _ _ _ => N7
    refine ⟨_, D, ys, asc (un k r), rfl, ⟨_, N7.get (.head _), rfl, _, rfl⟩, I6, by rw [asc_len, u1, sizeLine_eq]; omega, F7, N7, ?_, ?_⟩
    · intro D2 a t s₂ m₂ E' hC' ha hn hm hk
      obtain ⟨F8, N8⟩ := inComp F7 N7 hC' hn hk
      obtain ⟨c8, hc8, ea8⟩ := asc_mem ha
      have hb8 := u2 c8 hc8
      obtain ⟨t7, h7⟩ := nm_at hws (a := a) (by omega) (by omega)
      k_steps
      unfold Hold
      refine item_listR (items := ws.toArray) (x := .str (nm a.toNat) t7) ⟨_, N8.get (.tail _ (.tail _ (mem4 hNm))), rfl, _, rfl⟩ (by omega) (by omega) h7 ?_ (by with_unfolding_all rfl)
      exact ⟨⟨_, rfl⟩, Keeps.rfl'⟩
    · intro D2 ys2 e2 h8 tk8 F8 N8 hne8 I8
      rw [asc_words] at I8
      try dsimp only
      k_steps
      unfold Hold
      refine ne_strsK (ys := wordsL (un k r)) (zs := wordsL (un k r)) ⟨_, N8.get (.head _), rfl, _, rfl⟩ I8 ⟨_, N8.get (.tail _ (.tail _ (.head _))), rfl, _, rfl⟩ S3 (Nat.le_of_ble_eq_true rfl) (words_ok u2) (words_ok u2) ?_
      rw [decide_eq_true rfl]
      k_steps
      unfold Hold
      refine' Con.use (rank_con w mean mg mb D ys (asc (un k r)) I6 (by rw [asc_len, u1]; exact hk2) (asc_at u2)) ?B3 ?F3 ?N3 ?X3 ?T3 ?e13 ?e23 ?d3 ?uu3 ?e33 ?e43 ?hp3 ?_
      (case e13 => rfl)
      (case e23 => rfl)
      (case e33 => rfl)
      (case e43 => rfl)
      (case B3 => k_asm)
      (case F3 => k_asm)
      (case N3 => k_asm)
      (case X3 => k_asm)
      (case T3 => k_asm)
      (case d3 => exact Nat.le_of_ble_eq_true rfl)
      (case uu3 => exact Nat.le_of_ble_eq_true rfl)
      (case hp3 => exact ⟨_, N8.get (.tail _ (.head _)), rfl, _, rfl⟩)
      intro v9 h9 tk9 kp9 F9 N9 hv9
      obtain ⟨t9, rfl⟩ := hv9
      rw [asc_len, rkN_asc, rkD_un k hk2 r 32 (by omega) hr]
      clear F8 N8 F7 N7 kp9
      try dsimp only
      k_steps
      · exact absurd rfl (by assumption)
      unfold Hold
      rename Fr _ _ _ _ => F10
      rename News _ _ _ _ => N10
      have nD1 : L' + 1 + 1 ≠ D := hne6 _ (.tail _ (.head _))
      have nD2 : R ≠ D := hne6 _ (.tail _ (.tail _ (.head _)))
      have nD3 : Ch ≠ D := hne6 _ (.tail _ (.tail _ (.tail _ (.head _))))
      have nW2 : R ≠ W := Nat.ne_of_lt (ltW _ (.tail _ (.head _)))
      have nW3 : Ch ≠ W := Nat.ne_of_lt (ltW _ (.tail _ (.tail _ (.head _))))
      have nR1 : L' + 1 + 1 ≠ R := Nat.ne_of_lt l1
      have nR2 : L' + 1 ≠ R := Nat.ne_of_lt (Nat.lt_trans (Nat.lt_succ_self _) l1)
      have nR3 : Ch ≠ R := Nat.ne_of_gt l2
      have nC1 : L' + 1 + 1 ≠ Ch := Nat.ne_of_lt (Nat.lt_trans l1 l2)
      have nC2 : L' + 1 ≠ Ch := Nat.ne_of_lt (Nat.lt_trans (Nat.lt_succ_self _) (Nat.lt_trans l1 l2))
      replace N10 : News g L' h9 ((L' + 1 + 1, o4) :: (R, listOf rs.toArray nr) :: (Ch, listOf cs0.toArray nc) :: (L' + 1, oN) :: (D, listOf ys.toArray e) :: (W, listOf wv.toArray 0) :: tl) := cb_drop N10 (fun p hp => by
        simp only [List.mem_cons] at hp ⊢
        rcases hp with h | h | h | h | h | h | h
        · exact .inr (.inr (.inr (.inl h)))
        · exact .inr (.inr (.inr (.inr (.inl h))))
        · exact .inr (.inr (.inr (.inr (.inr (.inl h)))))
        · exact .inr (.inr (.inr (.inr (.inr (.inr (.inl h))))))
        · exact .inr (.inl h)
        · exact .inr (.inr (.inl h))
        · exact .inr (.inr (.inr (.inr (.inr (.inr (.inr h)))))))
      refine append_K F10 N10 (.tail nR1 (.head ?_)) ?_ ?_
      · intro p hp
        simp only [List.mem_cons] at hp
        rcases hp with h | h | h | h | h
        · rw [h]; exact nR3
        · rw [h]; exact nR2
        · rw [h]; exact Ne.symm nD2
        · rw [h]; exact Ne.symm nW2
        · exact (htl p h).2.1
      · intro h11 F11 N11
        clear F10 N10
        try dsimp only
        k_steps
        unfold Hold
        rename Fr _ _ _ _ => F12
        rename News _ _ _ _ => N12
        refine append_K F12 N12 (.tail nC1 (.tail (Ne.symm nR3) (.head ?_))) ?_ ?_
        · intro p hp
          simp only [List.mem_cons] at hp
          rcases hp with h | h | h | h
          · rw [h]; exact nC2
          · rw [h]; exact Ne.symm nD3
          · rw [h]; exact Ne.symm nW3
          · exact (htl p h).2.2
        · intro h13 F13 N13
          clear F12 N12
          try dsimp only
          k_steps
          refine hQ _ _ W D wv ys e o4 F13 ?_ d4 S3 I6 ?_ (fun p hp => ⟨Nat.ne_of_lt (ltW _ (mem4 hp)), hne6 _ (.tail _ (mem4 hp))⟩)
          · simpa using N13
          · intro p hp
            simp only [List.mem_cons] at hp
            rcases hp with h | h | h
            · rw [h]; exact ⟨Ne.symm nD1, Ne.symm nD2, Ne.symm nD3⟩
            · rw [h]; exact ⟨hWne, Ne.symm nW2, Ne.symm nW3⟩
            · exact htl p h
        · rw [List.size_toArray, sizeLine_eq]; omega
      · rw [List.size_toArray, sizeLine_eq]; omega
end
end Mine
end
section
open PySem PySem.W PyProof.Rows PySem.Calls
namespace Mine
/-- what a turn of the first loop makes: the words' list, the flags' list -/
abbrev Made : Type := Addr × List Value × Addr × List Value × Nat
def Made.W (x : Made) : Addr := x.1
def Made.wv (x : Made) : List Value := x.2.1
def Made.D (x : Made) : Addr := x.2.2.1
def Made.fv (x : Made) : List Value := x.2.2.2.1
def Made.nD (x : Made) : Nat := x.2.2.2.2
def Made.Good (tl : List (Addr × Obj)) (k r : Nat) (x : Made) : Prop :=
  (x.W, listOf x.wv.toArray 0) ∈ tl ∧ StrsAre x.wv (wordsL (un k r)) ∧ (x.D, listOf x.fv.toArray x.nD) ∈ tl ∧ IntsAre x.fv (asc (un k r))
theorem Made.Good.more {tl tl' : List (Addr × Obj)} {k r : Nat} {x : Made} (h : x.Good tl k r) (hs : ∀ p ∈ tl, p ∈ tl') : x.Good tl' k r := ⟨hs _ h.1, h.2.1, hs _ h.2.2.1, h.2.2.2⟩
def lawNames (C R Ch : Addr) (k : Nat) (tk0 : Tok) : List (Str × Value) := [(Str.ofString "columns", .ref C), (Str.ofString "size", .int k tk0), (Str.ofString "rows", .ref R), (Str.ofString "choices", .ref Ch)]
/-- what stands between two turns of the first loop -/
def LJ (L' C R Ch : Addr) (k f : Nat) (tk0 : Tok) (oN : Obj) (tl : List (Addr × Obj)) (i : Nat) (m : Str → Option Value) (nx : List (Addr × Obj)) : Prop :=
  ∃ (items : List Made) (oW : Obj) (q : Option Value) (tl' : List (Addr × Obj)), items.length = i ∧ (∀ p ∈ lawNames C R Ch k tk0, m p.1 = some p.2) ∧ oW.data = .cell q ∧
    nx = (L' + 1 + 1, oW) :: (R, listOf (items.map fun x => Value.ref x.W).toArray i) :: (Ch, listOf (items.map fun x => Value.ref x.D).toArray i) :: (L' + 1, oN) :: tl' ∧
    (∀ p ∈ tl, p ∈ tl') ∧ (∀ p ∈ tl', p.1 ≠ L' + 1 + 1 ∧ p.1 ≠ R ∧ p.1 ≠ Ch) ∧ (∀ j (x : Made), items[j]? = some x → x.Good tl' k (f + j))
theorem range4 (f : Int) : Builtin.Range.rangeSize f (f + 4) 1 = ((4 : Nat) : Int) := by
  simp [Builtin.Range.rangeSize]
  omega
theorem range_small {f : Nat} (h : f ≤ 40000) : Builtin.Range.small (f : Int) ((f : Int) + 4) 1 = true := by
  unfold Builtin.Range.small
  rw [range4]
  simp [Builtin.Range.rangeFitsLong]
  omega
theorem law_for1 (w : World) (mean : ExcName → Option Value) (mg mb : Str → Option Value) (fa : Addr) (cd : Value) (k f : Nat) (C R Ch Nm : Addr) (cs : Nat → Addr) (vv : Nat → List Value) (ws : List Value) (tl : List (Addr × Obj)) (m₀ : Str → Option Value) (tk0 : Tok)
    (g : Heap) (s : Shared) (L' : Addr) (oN oW : Obj) (q : Option Value) (Q : Flow → Shared → Prop) (rg : Addr) (t0 u0 v0 : Tok)
    (hk1 : 2 ≤ k) (hk2 : k ≤ 4) (hf : f + 3 < ch 32 k)
    (B : Below callerA g [] g) (X : (hd.heap_39 w.params).In g)
    (T : Top hd.view_39 (looseW hd.view_39 [Str.ofString "bisect_right", Str.ofString "COMPILER_FLAG_NAMES"]) mean mg mb g)
    (hR : IsRange s.heap rg (f : Int) ((f : Int) + 4) 1 t0 u0 v0)
    (F : Fr g L' s.heap m₀) (hm0 : ∀ p ∈ lawNames C R Ch k tk0, m₀ p.1 = some p.2)
    (N : News g L' s.heap ((L' + 1 + 1, oW) :: (R, listOf #[] 0) :: (Ch, listOf #[] 0) :: (L' + 1, oN) :: tl))
    (l1 : @LT.lt Nat _ (L' + 1 + 1) R) (l2 : @LT.lt Nat _ R Ch) (htl : ∀ p ∈ tl, p.1 ≠ L' + 1 + 1 ∧ p.1 ≠ R ∧ p.1 ≠ Ch)
    (hW : oW.data = .cell q) (hN : oN.data = .cell (some (.ref Nm)))
    (colv : List Value) (nC nN : Nat) (hC : (C, listOf colv.toArray nC) ∈ tl) (hcs : ∀ i ≤ 4, ∃ n, (cs i, listOf (vv i).toArray n) ∈ tl) (hcv : ∀ i ≤ 4, colv[i]? = some (.ref (cs i))) (hvv : ∀ i ≤ 4, IntsAre (vv i) (colZ i))
    (hNm : (Nm, listOf ws.toArray nN) ∈ tl) (hws : StrsAre ws ((List.range 32).map nm))
    (hQ : ∀ h' tk' m' nx, Fr g L' h' m' → News g L' h' nx → LJ L' C R Ch k f tk0 oN tl 4 m' nx → Q .next { s with heap := h', toks := tk' }) :
    ∀ (name qual : Str) (params : Arguments) (body : List Stmt) (scope : Scope) (dV kV doc pm cdv ct oc : Value) (an od : Option Addr) (osl : Array (Option Value)),
      (hd.heap_39 w.params).lookup 88 = some ⟨oc, od, .func (fnOf name qual params body scope dV kV doc pm an cdv ct), osl⟩ →
      (envOfC qual scope L' fa cd).kindOf (Str.ofString "rank") = some .local → scope.kind = .function →
      ∀ rest : List Stmt, lawB body = rest → ∀ px : Pos,
      wpAny (model PySem.Challenge.rw_rl0042_01.row.prog w) (callerA.deeper (envOfC qual scope L' fa cd)) (pyIter (.ref rg))
        (fun it s₂ => codeAny (model PySem.Challenge.rw_rl0042_01.row.prog w) (callerA.deeper (envOfC qual scope L' fa cd)) (.forLoop (.Name (Str.ofString "rank") px) it rest [] (envOfC qual scope L' fa cd))
          (fun r s' => match r with | .ok f => Q f s' | .error e => cameBackBy (model PySem.Challenge.rw_rl0042_01.row.prog w) (callerA.deeper (envOfC qual scope L' fa cd)) (envOfC qual scope L' fa cd) (fun _ _ => False) e s') s₂) (fun _ _ => False) s := by
  intro name qual params body scope dV kV doc pm cdv ct oc an od osl ho hx hsk rest hrest px
  have hlm := ch_le (x := 32) (k := k) (by omega) hk2
  refine iter_else (n := 4) (LJ L' C R Ch k f tk0 oN tl) rfl hR ?_ (range4 _) F N hx ?_ ?_ ?_ ?_
  · exact range_small (by omega)
  · show ((scope.kind == .class) || ((scope.kind == .module) && _)) = false
    rw [hsk]; rfl
  · exact ⟨[], oW, q, tl, rfl, hm0, hW, by simp, fun _ h => h, htl, fun j x h => by simp at h⟩
  · rintro it i t m₁ news₁ h tk hlt hi hne ⟨items, oW1, q1, tl1, hlen, hm1, hW1, rfl, hsub, htl1, hgood⟩ F1 N1
    have hitW : it ≠ L' + 1 + 1 := Ne.symm (hne _ (.head _))
    have hitR : it ≠ R := Ne.symm (hne _ (.tail _ (.head _)))
    have hitC : it ≠ Ch := Ne.symm (hne _ (.tail _ (.tail _ (.head _))))
    have hrank : f + i < ch 32 k := by omega
    have F2 : Fr g L' h (fun y => if y = Str.ofString "rank" then some (.int ((f + i : Nat) : Int) t) else if y = Str.ofString "columns" then some (.ref C) else if y = Str.ofString "size" then some (.int k tk0) else if y = Str.ofString "rows" then some (.ref R) else if y = Str.ofString "choices" then some (.ref Ch) else m₁ y) := by
      have := fr_kst (ps := lawNames C R Ch k tk0) (m := m₁) (h₀ := g) (L := L') (h := h)
      have e : (fun y => if y = Str.ofString "rank" then some (Value.int ((f + i : Nat) : Int) t) else if y = Str.ofString "columns" then some (.ref C) else if y = Str.ofString "size" then some (.int k tk0) else if y = Str.ofString "rows" then some (.ref R) else if y = Str.ofString "choices" then some (.ref Ch) else m₁ y) = (fun y => if y = Str.ofString "rank" then some (Value.int ((f : Int) + (i : Int)) t) else m₁ y) := by
        funext y
        by_cases h1 : y = Str.ofString "rank"
        · simp [h1]
        · simp only [if_neg h1]
          by_cases h2 : y = Str.ofString "columns"
          · rw [if_pos h2, h2]; exact (hm1 (Str.ofString "columns", .ref C) (by simp [lawNames])).symm
          · rw [if_neg h2]
            by_cases h3 : y = Str.ofString "size"
            · rw [if_pos h3, h3]; exact (hm1 (Str.ofString "size", .int k tk0) (by simp [lawNames])).symm
            · rw [if_neg h3]
              by_cases h4 : y = Str.ofString "rows"
              · rw [if_pos h4, h4]; exact (hm1 (Str.ofString "rows", .ref R) (by simp [lawNames])).symm
              · rw [if_neg h4]
                by_cases h5 : y = Str.ofString "choices"
                · rw [if_pos h5, h5]; exact (hm1 (Str.ofString "choices", .ref Ch) (by simp [lawNames])).symm
                · rw [if_neg h5]
      rw [e]; exact F1
    have N2 : News g L' h ((L' + 1 + 1, oW1) :: (R, listOf (items.map fun x => Value.ref x.W).toArray i) :: (Ch, listOf (items.map fun x => Value.ref x.D).toArray i) :: (L' + 1, oN) :: (it, itR ((f : Int) + ((i + 1 : Nat) : Int)) (((4 : Nat) : Int) - ((i + 1 : Nat) : Int))) :: tl1) := cb_drop N1 (fun p hp => by
      simp only [List.mem_cons] at hp ⊢
      rcases hp with h | h | h | h | h | h
      · exact .inr (.inl h)
      · exact .inr (.inr (.inl h))
      · exact .inr (.inr (.inr (.inl h)))
      · exact .inr (.inr (.inr (.inr (.inl h))))
      · exact .inl h
      · exact .inr (.inr (.inr (.inr (.inr h)))))
    refine law_turn w mean mg mb fa cd k (f + i) C R Ch Nm cs vv _ _ i i ws _ m₁ t tk0 g { s with heap := h, toks := tk } L' oN oW1 q1 _ hk1 hk2 hrank B X T F2 (by rw [List.length_map]; omega) (by rw [List.length_map]; omega) N2 l1 l2 ?_ hW1 hN colv nC nN (.tail _ (hsub _ hC)) (fun i hi => (hcs i hi).imp fun n hn => .tail _ (hsub _ hn)) hcv hvv (.tail _ (hsub _ hNm)) hws ?_ name qual params body scope dV kV doc pm cdv ct oc an od osl ho rest hrest
    · intro p hp
      rcases List.mem_cons.mp hp with h | h
      · rw [h]; exact ⟨hitW, hitR, hitC⟩
      · exact htl1 p h
    · intro h' tk' W D wv fv nD oW' F3 N3 hW3 S3 I3 ht3 hwd
      refine ElsePost.next (news' := (L' + 1 + 1, oW') :: (R, listOf (items.map (fun x => Value.ref x.W) ++ [Value.ref W]).toArray (i + 1)) :: (Ch, listOf (items.map (fun x => Value.ref x.D) ++ [Value.ref D]).toArray (i + 1)) :: (L' + 1, oN) :: (D, listOf fv.toArray nD) :: (W, listOf wv.toArray 0) :: tl1) F3 (cb_drop N3 (fun p hp => ?_)) ?_ ?_
      · simp only [List.mem_cons] at hp ⊢
        rcases hp with h | h | h | h | h | h | h | h
        · exact .inr (.inr (.inr (.inr (.inr (.inr (.inl h))))))
        · exact .inl h
        · exact .inr (.inl h)
        · exact .inr (.inr (.inl h))
        · exact .inr (.inr (.inr (.inl h)))
        · exact .inr (.inr (.inr (.inr (.inl h))))
        · exact .inr (.inr (.inr (.inr (.inr (.inl h)))))
        · exact .inr (.inr (.inr (.inr (.inr (.inr (.inr h))))))
      · intro p hp
        simp only [List.mem_cons] at hp
        rcases hp with h | h | h | h | h | h | h
        · rw [h]; exact Ne.symm hitW
        · rw [h]; exact Ne.symm hitR
        · rw [h]; exact Ne.symm hitC
        · rw [h]; exact hne _ (.tail _ (.tail _ (.tail _ (.head _))))
        · rw [h]; exact Ne.symm (hwd _ (.head _)).2
        · rw [h]; exact Ne.symm (hwd _ (.head _)).1
        · exact hne _ (.tail _ (.tail _ (.tail _ (.tail _ h))))
      · refine ⟨items ++ [⟨W, wv, D, fv, nD⟩], oW', some (.ref W), (D, listOf fv.toArray nD) :: (W, listOf wv.toArray 0) :: tl1, by simp [hlen], ?_, hW3, by simp [Made.W, Made.D], fun p hp => .tail _ (.tail _ (hsub p hp)), ?_, ?_⟩
        · intro p hp
          simp only [lawNames, List.mem_cons, List.not_mem_nil, or_false] at hp
          rcases hp with h | h | h | h <;> subst h <;> rfl
        · intro p hp
          rcases List.mem_cons.mp hp with h | hp
          · rw [h]; exact ht3 _ (.head _)
          · rcases List.mem_cons.mp hp with h | hp
            · rw [h]; exact ht3 _ (.tail _ (.head _))
            · exact htl1 p hp
        · intro j x hj
          by_cases hji : j < i
          · rw [List.getElem?_append_left (by omega)] at hj
            exact (hgood j x hj).more fun p hp => .tail _ (.tail _ hp)
          · have hj1 : j < (items ++ [(⟨W, wv, D, fv, nD⟩ : Made)]).length := by
              by_cases q : j < (items ++ [(⟨W, wv, D, fv, nD⟩ : Made)]).length
              · exact q
              · rw [List.getElem?_eq_none (by omega)] at hj; cases hj
            rw [List.length_append] at hj1
            simp only [List.length_cons, List.length_nil] at hj1
            have e : j = i := by omega
            subst e
            rw [List.getElem?_append_right (by omega), hlen, Nat.sub_self] at hj
            have hx2 : x = ⟨W, wv, D, fv, nD⟩ := (Option.some.inj hj).symm
            subst hx2
            exact ⟨.tail _ (.head _), S3, .head _, I3⟩
  · intro m₁ news₁ h tk hj F1 N1
    k_steps
    exact hQ h tk m₁ news₁ F1 N1 hj
end Mine
end
section
open PySem PySem.W PyProof.Rows PySem.Calls
namespace Mine
/-- the law's second loop's body -/
def lawB2 (body : List Stmt) : List Stmt := match body[8]? with
  | some o => forBody o
  | none => []
theorem ranks_cost {k r : Nat} (hk1 : 2 ≤ k) (hk2 : k ≤ 4) (hr : r + 1 < ch 32 k) : ∃ c, LevC (un k r) (un k (r + 1)) c ∧ PriceC (un k r) (un k (r + 1)) c := by
  obtain ⟨j, rfl⟩ : ∃ j, k = j + 1 := ⟨k - 1, by omega⟩
  obtain ⟨a1, a2, _⟩ := un_below (j + 1) hk2 r 32 (by omega) (by omega)
  obtain ⟨b1, b2, _⟩ := un_below (j + 1) hk2 (r + 1) 32 (by omega) hr
  exact adj_cost (adj_un j hk2 r 32 (by omega) hr) (by omega) (by omega) a2 b2
section
local macro_rules | `(tactic| walk_at "call ref") => `(tactic| (refine Hold.on ?_))
local macro_rules | `(tactic| walk_at "subscriptTail Name Name ref int") => `(tactic| (refine Hold.on ?_))
local macro_rules | `(tactic| walk_at "subscriptTail Name BinOp ref int") => `(tactic| (refine Hold.on ?_))
set_option maxRecDepth 100000 in
set_option maxHeartbeats 1000000 in
theorem law_turn2 (w : World) (mean : ExcName → Option Value) (mg mb : Str → Option Value) (fa : Addr) (cd : Value) (k r i : Nat) (R Ch : Addr) (rv cv : List Value) (nR nC : Nat) (x y : Made) (news : List (Addr × Obj)) (m : Str → Option Value) (ti : Tok)
    (g : Heap) (s : Shared) (L' : Addr) (Q : Flow → Shared → Prop)
    (hk1 : 2 ≤ k) (hk2 : k ≤ 4) (hr : r + 1 < ch 32 k) (hi : i < 3)
    (B : Below callerA g [] g) (X : (hd.heap_39 w.params).In g)
    (T : Top hd.view_39 (looseW hd.view_39 [Str.ofString "bisect_right", Str.ofString "COMPILER_FLAG_NAMES"]) mean mg mb g)
    (F : Fr g L' s.heap (fun z => if z = Str.ofString "step" then some (.int (0 + (i : Int)) ti) else if z = Str.ofString "rows" then some (.ref R) else if z = Str.ofString "choices" then some (.ref Ch) else m z))
    (N : News g L' s.heap news) (hR : (R, listOf rv.toArray nR) ∈ news) (hC : (Ch, listOf cv.toArray nC) ∈ news)
    (hr0 : rv[i]? = some (.ref x.W)) (hr1 : rv[i + 1]? = some (.ref y.W)) (hc0 : cv[i]? = some (.ref x.D)) (hc1 : cv[i + 1]? = some (.ref y.D))
    (hx : x.Good news k r) (hy : y.Good news k (r + 1))
    (hQ : ∀ h' tk', Fr g L' h' (fun z => if z = Str.ofString "step" then some (.int (0 + (i : Int)) ti) else if z = Str.ofString "rows" then some (.ref R) else if z = Str.ofString "choices" then some (.ref Ch) else m z) → News g L' h' news → Q .next { s with heap := h', toks := tk' }) :
    ∀ (name qual : Str) (params : Arguments) (body : List Stmt) (scope : Scope) (dV kV doc pm cdv ct oc : Value) (an od : Option Addr) (osl : Array (Option Value)),
      (hd.heap_39 w.params).lookup 88 = some ⟨oc, od, .func (fnOf name qual params body scope dV kV doc pm an cdv ct), osl⟩ →
      ∀ rest : List Stmt, lawB2 body = rest →
      wpAny (model PySem.Challenge.rw_rl0042_01.row.prog w) (callerA.deeper (envOfC qual scope L' fa cd)) (execs rest (envOfC qual scope L' fa cd)) Q (fun _ _ => False) s := by
  k_with_none
  w_top off
  have hfill : ((hd.heap_39 w.params).In {} → PySem.Challenge.rw_rl0042_01 = PySem.Challenge.rw_rl0042_01) := by (k_fill; intro _; rfl)
  clear hfill
  refine' with_body (fun qual body scope cdv => ∀ rest : List Stmt, lawB2 body = rest →
      wpAny (model PySem.Challenge.rw_rl0042_01.row.prog w) (callerA.deeper (envOfC qual scope L' fa cd)) (execs rest (envOfC qual scope L' fa cd)) Q (fun _ _ => False) s) ?ho ?_
  case ho => k_is
  intro rest hrest
  subst hrest
  simp only [lawB2, forBody, List.getElem?_cons_succ, List.getElem?_cons_zero]
  obtain ⟨c, hlev, hprice⟩ := ranks_cost hk1 hk2 hr
  have ei : (0 + (i : Int)).toNat = i := by omega
  have ei1 : (0 + (i : Int) + 1).toNat = i + 1 := by omega
  k_with_none
  k_steps
  unfold Hold
  refine item_listR (items := rv.toArray) (x := .ref x.W) ⟨_, N.get hR, rfl, _, rfl⟩ (by omega) (by omega) (by rw [ei]; simpa using hr0) ?_ (by with_unfolding_all rfl)
  k_steps
  unfold Hold
  refine item_listR (items := rv.toArray) (x := .ref y.W) ⟨_, N.get hR, rfl, _, rfl⟩ (by omega) (by omega) (by rw [ei1]; simpa using hr1) ?_ (by with_unfolding_all rfl)
  k_steps
  unfold Hold
  refine' Con.use (hlev w mean mg mb x.W y.W x.wv y.wv _ hx.2.1 hy.2.1) ?B1 ?F1 ?N1 ?X1 ?T1 ?e11 ?e21 ?d1 ?uu1 ?e31 ?e41 ?hp1 ?_
  (case e11 => rfl)
  (case e21 => rfl)
  (case e31 => rfl)
  (case e41 => rfl)
  (case B1 => k_asm)
  (case F1 => k_asm)
  (case N1 => k_asm)
  (case X1 => k_asm)
  (case T1 => k_asm)
  (case d1 => exact Nat.le_of_ble_eq_true rfl)
  (case uu1 => exact Nat.le_of_ble_eq_true rfl)
  (case hp1 => exact ⟨⟨_, N.get hx.1, rfl, _, rfl⟩, ⟨_, N.get hy.1, rfl, _, rfl⟩⟩)
  intro v1 h1 tk1 kp1 F1 N1 hv1
  obtain ⟨t1, rfl⟩ := hv1
  clear kp1 F N
  try dsimp only
  k_steps
  unfold Hold
  refine item_listR (items := cv.toArray) (x := .ref x.D) ⟨_, N1.get hC, rfl, _, rfl⟩ (by omega) (by omega) (by rw [ei]; simpa using hc0) ?_ (by with_unfolding_all rfl)
  k_steps
  unfold Hold
  refine item_listR (items := cv.toArray) (x := .ref y.D) ⟨_, N1.get hC, rfl, _, rfl⟩ (by omega) (by omega) (by rw [ei1]; simpa using hc1) ?_ (by with_unfolding_all rfl)
  k_steps
  unfold Hold
  refine' Con.use (hprice w mean mg mb x.D y.D x.fv y.fv hx.2.2.2 hy.2.2.2) ?B2 ?F2 ?N2 ?X2 ?T2 ?e12 ?e22 ?d2 ?uu2 ?e32 ?e42 ?hp2 ?_
  (case e12 => rfl)
  (case e22 => rfl)
  (case e32 => rfl)
  (case e42 => rfl)
  (case B2 => k_asm)
  (case F2 => k_asm)
  (case N2 => k_asm)
  (case X2 => k_asm)
  (case T2 => k_asm)
  (case d2 => exact Nat.le_of_ble_eq_true rfl)
  (case uu2 => exact Nat.le_of_ble_eq_true rfl)
  (case hp2 => exact ⟨⟨_, N1.get hx.2.2.1, rfl, _, rfl⟩, ⟨_, N1.get hy.2.2.1, rfl, _, rfl⟩⟩)
  intro v2 h2 tk2 kp2 F2 N2 hv2
  obtain ⟨t2, rfl⟩ := hv2
  clear kp2 F1 N1
  try dsimp only
  k_steps
  all_goals first | exact absurd rfl (by assumption) | exact hQ _ _ F2 N2
end
end Mine
end
section
open PySem PySem.W PyProof.Rows PySem.Calls
namespace Mine
theorem made_at {α : Type} (f : Made → α) {items : List Made} {i : Nat} {x : Made} (h : items[i]? = some x) : (items.map f)[i]? = some (f x) := by
  rw [List.getElem?_map, h]; rfl
theorem law_for2 (w : World) (mean : ExcName → Option Value) (mg mb : Str → Option Value) (fa : Addr) (cd : Value) (k f : Nat) (C R Ch : Addr) (tl nx : List (Addr × Obj)) (m₀ : Str → Option Value) (tk0 : Tok)
    (g : Heap) (s : Shared) (L' : Addr) (oN : Obj) (Q : Flow → Shared → Prop) (rg : Addr) (t0 u0 v0 : Tok)
    (hk1 : 2 ≤ k) (hk2 : k ≤ 4) (hf : f + 3 < ch 32 k)
    (B : Below callerA g [] g) (X : (hd.heap_39 w.params).In g)
    (T : Top hd.view_39 (looseW hd.view_39 [Str.ofString "bisect_right", Str.ofString "COMPILER_FLAG_NAMES"]) mean mg mb g)
    (hR : IsRange s.heap rg 0 3 1 t0 u0 v0)
    (F : Fr g L' s.heap m₀) (N : News g L' s.heap nx) (hL : LJ L' C R Ch k f tk0 oN tl 4 m₀ nx)
    (hQ : ∀ h' tk' m', Fr g L' h' m' → News g L' h' nx → Q .next { s with heap := h', toks := tk' }) :
    ∀ (name qual : Str) (params : Arguments) (body : List Stmt) (scope : Scope) (dV kV doc pm cdv ct oc : Value) (an od : Option Addr) (osl : Array (Option Value)),
      (hd.heap_39 w.params).lookup 88 = some ⟨oc, od, .func (fnOf name qual params body scope dV kV doc pm an cdv ct), osl⟩ →
      (envOfC qual scope L' fa cd).kindOf (Str.ofString "step") = some .local → scope.kind = .function →
      ∀ rest : List Stmt, lawB2 body = rest → ∀ px : Pos,
      wpAny (model PySem.Challenge.rw_rl0042_01.row.prog w) (callerA.deeper (envOfC qual scope L' fa cd)) (pyIter (.ref rg))
        (fun it s₂ => codeAny (model PySem.Challenge.rw_rl0042_01.row.prog w) (callerA.deeper (envOfC qual scope L' fa cd)) (.forLoop (.Name (Str.ofString "step") px) it rest [] (envOfC qual scope L' fa cd))
          (fun r s' => match r with | .ok f => Q f s' | .error e => cameBackBy (model PySem.Challenge.rw_rl0042_01.row.prog w) (callerA.deeper (envOfC qual scope L' fa cd)) (envOfC qual scope L' fa cd) (fun _ _ => False) e s') s₂) (fun _ _ => False) s := by
  intro name qual params body scope dV kV doc pm cdv ct oc an od osl ho hx hsk rest hrest px
  obtain ⟨items, oW, q, tl', hlen, hm, hW, rfl, hsub, htl, hgood⟩ := hL
  refine iter_else (n := 3) (fun i m nx' => nx' = (L' + 1 + 1, oW) :: (R, listOf (items.map fun x => Value.ref x.W).toArray 4) :: (Ch, listOf (items.map fun x => Value.ref x.D).toArray 4) :: (L' + 1, oN) :: tl' ∧ m (Str.ofString "rows") = some (.ref R) ∧ m (Str.ofString "choices") = some (.ref Ch)) rfl hR rfl rfl F N hx ?_ ?_ ?_ ?_
  · show ((scope.kind == .class) || ((scope.kind == .module) && _)) = false
    rw [hsk]; rfl
  · exact ⟨rfl, hm (Str.ofString "rows", .ref R) (by simp [lawNames]), hm (Str.ofString "choices", .ref Ch) (by simp [lawNames])⟩
  · rintro it i t m₁ news₁ h tk hlt hi hne ⟨rfl, hm1, hm2⟩ F1 N1
    have hx0 : items[i]? = some items[i] := List.getElem?_eq_getElem (by omega)
    have hy0 : items[i + 1]? = some items[i + 1] := List.getElem?_eq_getElem (by omega)
    have gx := (hgood i _ hx0).more (tl' := (it, itR (0 + ((i + 1 : Nat) : Int)) (((3 : Nat) : Int) - ((i + 1 : Nat) : Int))) :: (L' + 1 + 1, oW) :: (R, listOf (items.map fun x => Value.ref x.W).toArray 4) :: (Ch, listOf (items.map fun x => Value.ref x.D).toArray 4) :: (L' + 1, oN) :: tl') fun p hp => .tail _ (mem4 hp)
    have gy := (hgood (i + 1) _ hy0).more (tl' := (it, itR (0 + ((i + 1 : Nat) : Int)) (((3 : Nat) : Int) - ((i + 1 : Nat) : Int))) :: (L' + 1 + 1, oW) :: (R, listOf (items.map fun x => Value.ref x.W).toArray 4) :: (Ch, listOf (items.map fun x => Value.ref x.D).toArray 4) :: (L' + 1, oN) :: tl') fun p hp => .tail _ (mem4 hp)
    have F2 : Fr g L' h (fun z => if z = Str.ofString "step" then some (.int (0 + (i : Int)) t) else if z = Str.ofString "rows" then some (.ref R) else if z = Str.ofString "choices" then some (.ref Ch) else m₁ z) := by
      have e : (fun z => if z = Str.ofString "step" then some (Value.int (0 + (i : Int)) t) else if z = Str.ofString "rows" then some (.ref R) else if z = Str.ofString "choices" then some (.ref Ch) else m₁ z) = (fun z => if z = Str.ofString "step" then some (Value.int (0 + (i : Int)) t) else m₁ z) := by
        funext z
        by_cases h1 : z = Str.ofString "step"
        · simp [h1]
        · simp only [if_neg h1]
          by_cases h4 : z = Str.ofString "rows"
          · rw [if_pos h4, h4]; exact hm1.symm
          · rw [if_neg h4]
            by_cases h5 : z = Str.ofString "choices"
            · rw [if_pos h5, h5]; exact hm2.symm
            · rw [if_neg h5]
      rw [e]; exact F1
    refine law_turn2 w mean mg mb fa cd k (f + i) i R Ch _ _ 4 4 _ _ _ m₁ t g { s with heap := h, toks := tk } L' _ hk1 hk2 (by omega) hi B X T F2 N1 (.tail _ (.tail _ (.head _))) (.tail _ (.tail _ (.tail _ (.head _)))) (made_at _ hx0) (made_at _ hy0) (made_at _ hx0) (made_at _ hy0) gx gy ?_ name qual params body scope dV kV doc pm cdv ct oc an od osl ho rest hrest
    intro h' tk' F3 N3
    exact ElsePost.next F3 N3 hne ⟨rfl, rfl, rfl⟩
  · rintro m₁ news₁ h tk ⟨rfl, _, _⟩ F1 N1
    k_steps
    exact hQ h tk m₁ F1 N1
end Mine
end
section
open PySem PySem.W PyProof.Rows PySem.Calls
namespace Mine
theorem sizes (tot : Int) : ∃ k : Nat, 2 + tot.fmod 3 = (k : Int) ∧ 2 ≤ k ∧ k ≤ 4 := by
  have h1 := Int.fmod_nonneg_of_pos tot (b := 3) (by omega)
  have h2 := Int.fmod_lt_of_pos tot (b := 3) (by omega)
  exact ⟨(2 + tot.fmod 3).toNat, by omega, by omega, by omega⟩
theorem ch_many {k : Nat} (h1 : 2 ≤ k) (h2 : k ≤ 4) : 496 ≤ ch 32 k := by
  have : ∀ k < 5, 2 ≤ k → 496 ≤ ch 32 k := by decide +kernel
  exact this k (by omega) h1
theorem firsts (x : Int) {k : Nat} (h1 : 2 ≤ k) (h2 : k ≤ 4) : ∃ f : Nat, x.fmod ((ch 32 k : Int) - 3) = (f : Int) ∧ f + 3 < ch 32 k := by
  have hm := ch_many h1 h2
  have a := Int.fmod_nonneg_of_pos x (b := (ch 32 k : Int) - 3) (by omega)
  have b := Int.fmod_lt_of_pos x (b := (ch 32 k : Int) - 3) (by omega)
  exact ⟨(x.fmod ((ch 32 k : Int) - 3)).toNat, by omega, by omega⟩
theorem allLt_ne {d : Addr} : ∀ {l : List (Addr × Obj)}, AllLt d l → ∀ p ∈ l, p.1 ≠ d := by
  intro l
  induction l with
  | nil => intro _ p hp; cases hp
  | cons a r ih =>
    intro h p hp
    rcases List.mem_cons.mp hp with e | hp
    · rw [e]; exact Nat.ne_of_lt h.1
    · exact ih h.2 p hp
/-- the law's end -/
def LawDone (g : Heap) (s : Shared) (L' : Addr) (fl : Flow) (s' : Shared) : Prop := fl = .ret (.bool true) ∧ ∃ h' tk' m', Fr g L' h' m' ∧ s' = { s with heap := h', toks := tk' }
theorem four {P : Nat → Prop} (h0 : P 0) (h1 : P 1) (h2 : P 2) (h3 : P 3) (h4 : P 4) : ∀ i ≤ 4, P i := by
  intro i hi
  match i, hi with
  | 0, _ => exact h0
  | 1, _ => exact h1
  | 2, _ => exact h2
  | 3, _ => exact h3
  | 4, _ => exact h4
  | i + 5, h => omega
section
local macro_rules | `(tactic| walk_at "subscriptTail Name Name ref int") => `(tactic| (refine Hold.on ?_))
local macro_rules | `(tactic| walk_at "subscriptTail Subscript Constant ref int") => `(tactic| (refine Hold.on ?_))
local macro_rules | `(tactic| walk_at "exec For Name Call cons nil") => `(tactic| (refine Hold.on ?_))
local macro_rules | `(tactic| walk_at "pyIter ref") => `(tactic| (refine Hold.on ?_))
local macro_rules | `(tactic| walk_at "call ref") => `(tactic| (refine Hold.on ?_))
set_option maxRecDepth 100000 in
set_option maxHeartbeats 2000000 in
theorem law_body (w : World) (mean : ExcName → Option Value) (mg mb : Str → Option Value) (fa : Addr) (cd : Value) (l : Addr) (vs : List Value) (ns : List Int)
    (g : Heap) (s : Shared) (L' : Addr) (oN oW : Obj)
    (B : Below callerA g [] g) (X : (hd.heap_39 w.params).In g)
    (T : Top hd.view_39 (looseW hd.view_39 [Str.ofString "bisect_right", Str.ofString "COMPILER_FLAG_NAMES"]) mean mg mb g)
    (hl : g.IsList l vs.toArray) (hi : IntsAre vs ns) (hlen : ns.length ≤ 63)
    (F : Fr g L' s.heap (fun y => if y = Str.ofString "script" then some (.ref l) else none))
    (N : News g L' s.heap [(L' + 1 + 1, oW), (L' + 1, oN)])
    (hW : oW.data = .cell none) (hN : oN.data = .cell none) :
    ∀ (name qual : Str) (params : Arguments) (body : List Stmt) (scope : Scope) (dV kV doc pm cdv ct oc : Value) (an od : Option Addr) (osl : Array (Option Value)),
      (hd.heap_39 w.params).lookup 88 = some ⟨oc, od, .func (fnOf name qual params body scope dV kV doc pm an cdv ct), osl⟩ →
      wpAny (model PySem.Challenge.rw_rl0042_01.row.prog w) (callerA.deeper (envOfC qual scope L' fa cd)) (execs body (envOfC qual scope L' fa cd))
        (LawDone g s L') (fun _ _ => False) s := by
  k_with_none
  w_top off
  have hfill : ((hd.heap_39 w.params).In {} → PySem.Challenge.rw_rl0042_01 = PySem.Challenge.rw_rl0042_01) := by (k_fill; intro _; rfl)
  clear hfill
  refine' with_body (fun qual body scope cdv => 
      wpAny (model PySem.Challenge.rw_rl0042_01.row.prog w) (callerA.deeper (envOfC qual scope L' fa cd)) (execs body (envOfC qual scope L' fa cd))
        (LawDone g s L') (fun _ _ => False) s) ?ho ?_
  case ho => k_is
  k_with_none
  try k_fold
  k_steps
  unfold Hold
  refine' ConN.use (tri_con w mean mg mb) ?B1 ?F1 ?N1 ?X1 ?T1 ?e11 ?e21 ?d1 ?uu1 ?e31 ?e41 trivial ?_
  (case e11 => rfl)
  (case e21 => rfl)
  (case e31 => rfl)
  (case e41 => rfl)
  (case B1 => k_asm)
  (case F1 => k_asm)
  (case N1 => k_asm)
  (case X1 => k_asm)
  (case T1 => k_asm)
  (case d1 => exact Nat.le_of_ble_eq_true rfl)
  (case uu1 => exact Nat.le_of_ble_eq_true rfl)
  intro v1 h1 tk1 objs kp1 F1 N1 hd1 hv1
  obtain ⟨C, c0, c1, c2, c3, c4, v0, w1, w2, w3, w4, nC, n0, n1, n2, n3, n4, rfl, rfl, I0, I1, I2, I3, I4⟩ := hv1
  clear kp1
  obtain ⟨cs, hcs⟩ : ∃ cs : Nat → Addr, cs = fun i => [c0, c1, c2, c3, c4].getD i 0 := ⟨_, rfl⟩
  obtain ⟨vv, hvv⟩ : ∃ vv : Nat → List Value, vv = fun i => [v0, w1, w2, w3, w4].getD i [] := ⟨_, rfl⟩
  have hcv : ∀ i ≤ 4, [Value.ref c0, .ref c1, .ref c2, .ref c3, .ref c4][i]? = some (.ref (cs i)) := by
    rw [hcs]; exact four rfl rfl rfl rfl rfl
  have hci : ∀ i ≤ 4, IntsAre (vv i) (colZ i) := by
    rw [hvv]; exact four I0 I1 I2 I3 I4
  have hcl : ∀ i ≤ 4, ∃ n, (cs i, listOf (vv i).toArray n) ∈ [(c4, listOf w4.toArray n4), (c3, listOf w3.toArray n3), (c2, listOf w2.toArray n2), (c1, listOf w1.toArray n1), (C, listOf [Value.ref c0, .ref c1, .ref c2, .ref c3, .ref c4].toArray nC), (c0, listOf v0.toArray n0)] := by
    rw [hcs, hvv]
    exact four ⟨n0, by k_mem⟩ ⟨n1, by k_mem⟩ ⟨n2, by k_mem⟩ ⟨n3, by k_mem⟩ ⟨n4, by k_mem⟩
  have nw : ∀ p ∈ [(c4, listOf w4.toArray n4), (c3, listOf w3.toArray n3), (c2, listOf w2.toArray n2), (c1, listOf w1.toArray n1), (C, listOf [Value.ref c0, .ref c1, .ref c2, .ref c3, .ref c4].toArray nC), (c0, listOf v0.toArray n0)], p.1 ≠ L' + 1 + 1 ∧ p.1 ≠ L' + 1 := fun p hp => ⟨hd1 p hp (L' + 1 + 1, oW) (by k_mem), hd1 p hp (L' + 1, oN) (by k_mem)⟩
  replace N1 : News g L' h1 ((L' + 1 + 1, oW) :: (L' + 1, oN) :: [(c4, listOf w4.toArray n4), (c3, listOf w3.toArray n3), (c2, listOf w2.toArray n2), (c1, listOf w1.toArray n1), (C, listOf [Value.ref c0, .ref c1, .ref c2, .ref c3, .ref c4].toArray nC), (c0, listOf v0.toArray n0)]) := cb_drop N1 (fun p hp => by
    rcases List.mem_cons.mp hp with h | hp
    · rw [h]; exact List.mem_append.mpr (.inr (by k_mem))
    · rcases List.mem_cons.mp hp with h | hp
      · rw [h]; exact List.mem_append.mpr (.inr (by k_mem))
      · exact List.mem_append.mpr (.inl hp))
  generalize htl1 : [(c4, listOf w4.toArray n4), (c3, listOf w3.toArray n3), (c2, listOf w2.toArray n2), (c1, listOf w1.toArray n1), (C, listOf [Value.ref c0, .ref c1, .ref c2, .ref c3, .ref c4].toArray nC), (c0, listOf v0.toArray n0)] = tl1 at *
  have hC : (C, listOf [Value.ref c0, .ref c1, .ref c2, .ref c3, .ref c4].toArray nC) ∈ tl1 := htl1 ▸ (by k_mem)
  obtain ⟨k, hk, hk1, hk2⟩ := sizes (16 + (List.map (fun k' => k'.fmod (10 ^ Int.toNat 6)) (List.take 60 ns)).sum)
  rw [hk] at F1
  generalize 16 + (List.map (fun k' => k'.fmod (10 ^ Int.toNat 6)) (List.take 60 ns)).sum = tot at F1
  try dsimp only
  k_steps
  unfold Hold
  rename Fr _ _ _ _ => F2
  rename News _ _ _ _ => N2
  refine item_listR (items := [Value.ref c0, .ref c1, .ref c2, .ref c3, .ref c4].toArray) (x := .ref (cs k)) ⟨_, N2.get (.tail _ (.tail _ hC)), rfl, _, rfl⟩ (by omega) (by omega) (by rw [Int.toNat_natCast]; simpa using hcv k hk2) ?_ (by with_unfolding_all rfl)
  k_steps
  try unfold Hold
  obtain ⟨nk, hnk⟩ := hcl k hk2
  refine item_list_intsR (ns := colZ k) ⟨_, N2.get (.tail _ (.tail _ hnk)), rfl, _, rfl⟩ (hci k hk2) (by decide) (by rw [colZ_len]; decide) (by decide) ?_ (by with_unfolding_all rfl)
  rw [show ((32 : Int).toNat) = 32 from rfl, colZ_at (by omega)]
  intro t5
  have hm := ch_many hk1 hk2
  have hm1 : ¬ ((ch 32 k : Int) - 3 = 0) := by omega
  have hm2 : 0 < (ch 32 k : Int) - 3 := by omega
  k_steps
  unfold Hold
  rename Fr _ _ _ _ => F3
  rename News _ _ _ _ => N3
  obtain ⟨f, hf, hf3⟩ := firsts (tot.fdiv 3) hk1 hk2
  rw [hf] at F3
  dsimp only at F3
  refine' ConN.use (names_con w mean mg mb) ?B2 ?F2 ?N2 ?X2 ?T2 ?e12 ?e22 ?d2 ?uu2 ?e32 ?e42 trivial ?_
  (case e12 => rfl)
  (case e22 => rfl)
  (case e32 => rfl)
  (case e42 => rfl)
  (case B2 => k_asm)
  (case F2 => k_asm)
  (case N2 => k_asm)
  (case X2 => k_asm)
  (case T2 => k_asm)
  (case d2 => exact Nat.le_of_ble_eq_true rfl)
  (case uu2 => exact Nat.le_of_ble_eq_true rfl)
  intro v2 h2 tk2 objs2 kp2 F4 N4 hd4 hv2
  obtain ⟨Nm, nms, nN, rfl, rfl, hnms⟩ := hv2
  clear kp2 F3 N3
  have nm1 : Nm ≠ L' + 1 := hd4 _ (List.mem_singleton.mpr rfl) _ (.tail _ (.head _))
  have nm2 : Nm ≠ L' + 1 + 1 := hd4 _ (List.mem_singleton.mpr rfl) _ (.head _)
  replace N4 : News g L' h2 ((L' + 1 + 1, oW) :: (L' + 1, oN) :: (Nm, listOf nms.toArray nN) :: tl1) := cb_drop N4 (fun p hp => by
    simp only [List.mem_cons, List.mem_append, List.not_mem_nil, or_false] at hp ⊢
    rcases hp with h | h | h | h
    · exact .inr (.inl h)
    · exact .inr (.inr (.inl h))
    · exact .inl h
    · exact .inr (.inr (.inr h)))
  try dsimp only
  refine storeX_C F4 N4 rfl (.tail (Nat.ne_of_gt (Nat.lt_succ_self (L' + 1))) (.head ?_)) hN ?_ rfl rfl
  · intro p hp
    rcases List.mem_cons.mp hp with h | h
    · rw [h]; exact nm1
    · exact (nw p h).2
  intro h5 oN5 F5 N5 hN5
  clear F4 N4
  try dsimp only
  k_steps
  unfold Hold
  refine wpAny_For ?_
  k_steps
  unfold Hold
  rename Fr _ _ _ _ => F6
  rename News _ _ _ _ => N6
  rename IsRange _ _ _ _ _ _ _ _ => hR6
  rename _ ∧ _ ∧ _ ∧ _ ∧ AllLt _ _ => lC
  rename _ ∧ _ ∧ _ ∧ AllLt _ _ => lR
  obtain ⟨a1, a2, a3, a4⟩ := lR
  obtain ⟨b1, b2, b3, b4, b5⟩ := lC
  refine' law_for1 w mean mg mb fa cd k f C _ _ Nm cs vv nms ((Nm, listOf nms.toArray nN) :: tl1) _ _ g _ L' oN5 oW none _ _ _ _ _ hk1 hk2 hf3 B X T hR6 F6 ?hm1 (cb_drop N6 ?hn1) a1 b1 ?ht1 hW hN5 [Value.ref c0, .ref c1, .ref c2, .ref c3, .ref c4] nC nN (.tail _ hC) (fun i hi => (hcl i hi).imp fun n hn => .tail _ hn) hcv hci (.head _) hnms ?hq1 _ _ _ _ _ _ _ _ _ _ _ _ _ _ _ ?ho1 rfl rfl _ ?hr1 _
  case ho1 => exact rfl
  case hr1 => exact rfl
  case hm1 =>
    unfold lawNames
    repeat' (first | (refine List.forall_mem_cons.mpr ⟨?_, ?_⟩) | rfl | exact fun _ h => nomatch h)
  case hn1 =>
    intro p hp
    simp only [List.mem_cons] at hp ⊢
    rcases hp with h | h | h | h | h | h
    · exact .inr (.inr (.inl h))
    · exact .inr (.inl h)
    · exact .inl h
    · exact .inr (.inr (.inr (.inl h)))
    · exact .inr (.inr (.inr (.inr (.inl h))))
    · exact .inr (.inr (.inr (.inr (.inr h))))
  case ht1 =>
    intro p hp
    rcases List.mem_cons.mp hp with h | h
    · rw [h]; exact ⟨nm2, Nat.ne_of_lt a3, Nat.ne_of_lt b4⟩
    · exact ⟨(nw p h).1, allLt_ne a4 p h, allLt_ne b5 p h⟩
  case hq1 =>
    intro h7 tk7 m7 nx7 F7 N7 hL7
    try dsimp only
    k_steps
    unfold Hold
    refine wpAny_For ?_
    k_steps
    unfold Hold
    rename Fr _ _ _ _ => F8
    rename News _ _ _ _ => N8
    rename IsRange _ _ _ _ _ _ _ _ => hR8
    refine' law_for2 w mean mg mb fa cd k f C _ _ _ _ _ _ g _ L' oN5 _ _ _ _ _ hk1 hk2 hf3 B X T hR8 F8 N8 hL7 ?hq2 _ _ _ _ _ _ _ _ _ _ _ _ _ _ _ ?ho2 rfl rfl _ ?hr2 _
    case ho2 => exact rfl
    case hr2 => exact rfl
    case hq2 =>
      intro h9 tk9 m9 F9 N9
      try dsimp only
      k_steps
      exact ⟨rfl, _, _, _, F9, rfl⟩
end
end Mine
end
section
open PySem PySem.W PyProof.Rows PySem.Calls
namespace Mine
set_option maxRecDepth 100000 in
set_option maxHeartbeats 2000000 in
theorem lawx : PySem.Challenge.rw_rl0042_01.Holds := hd (by
  k_go0
  rename Top _ _ _ _ _ _ => T1
  rename Frag.In _ _ => X1
  rename IntsAre _ _ => hI
  rename Heap.IsList _ _ _ => hL
  rename Fr _ _ _ _ => F1
  rename News _ _ _ _ => N1
  rename ¬ _ => hlen
  rename _ = Data.cell _ => dW
  rename_i dN _
  refine' wpAny_mono (law_body _ _ _ _ _ _ _ _ _ _ _ _ _ _ (below_caller _) X1 T1 hL hI ?hl F1 N1 ?hw ?hn _ _ _ _ _ _ _ _ _ _ _ _ _ _ _ ?ho) ?hq ?he
  case ho => exact rfl
  case hl => omega
  case hw => first | exact dN | exact dW
  case hn => first | exact dW | exact dN
  case he => exact fun _ _ h => h.elim
  case hq =>
    rintro fl s' ⟨rfl, h', tk', m', F9, rfl⟩
    refine goodW_bool F9 (by assumption) (raisesW_false ?_) ?_
    · wrow_none_raised
    · wrow_post)
end Mine
end
theorem PySem.Challenge.cw_rl0042_01_holds : PySem.Challenge.rw_rl0042_01.Holds := by
  exact Mine.lawx
