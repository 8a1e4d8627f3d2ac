import PyProof.Rows.All
import Wide.All
import OpenK.AllK
import Wide.FinOn
import PySem.Challenge.RW_mr0072_01
open PySem PySem.W PyProof.Rows PySem.Spec PySem.Calls
set_option Elab.async false
-- part HD
namespace Mine
set_option maxRecDepth 100000
set_option maxHeartbeats 8000000
open_top hd for PySem.Challenge.rw_mr0072_01
end Mine
-- part C0
namespace Mine
set_option maxRecDepth 100000
abbrev Led := List (Addr × Obj)
abbrev Keeps (h h' : Heap) : Prop := ∀ b o, h.get? b = some o → h'.get? b = some o
/-- what a call has made: there now, not there before -/
def Fresh (h h' : Heap) (tl : Led) : Prop := ∀ p ∈ tl, h'.get? p.1 = some p.2 ∧ h.get? p.1 = none
abbrev TopAt (mean : ExcName → Option Value) (mg mb : Str → Option Value) (h : Heap) : Prop := Top hd.view_39 (looseW hd.view_39 []) mean mg mb h
abbrev Ar (dp un : Nat) (gd : Option (List Code)) (env : Env) (outer : List Env) : Around := { handled := none, depth := dp, frames := some (env :: outer), guards := gd, units := un }
/-- the contract of a def: it changes nothing that stood, and hands back what P says -/
def Spec (w : World) (f : Addr) (k c : Nat) (pre : Heap → Prop) (vs : List Value) (P : Value → Led → Prop) : Prop :=
  ∀ (mean : ExcName → Option Value) (mg mb : Str → Option Value) (dp un : Nat) (gd : Option (List Code)) (env : Env) (outer : List Env) (A₀ : Around) (base h₀ : Heap) (L : Addr) (m : Str → Option Value) (s : Shared) (Q E : Value → Shared → Prop),
    Below A₀ base outer h₀ → Fr h₀ L s.heap m → (hd.heap_39 w.params).In h₀ → TopAt mean mg mb h₀ →
    env.frame = some L → env.scope.kind = .function → pre s.heap →
    dp + k < recursionLimit → un + c < cLine →
    (∀ (r : Value) (tl : Led) (h' : Heap) (tk' : Nat), Keeps s.heap h' → Fresh s.heap h' tl → P r tl → Q r { s with heap := h', toks := tk' }) →
    wpAny (model Challenge.rw_mr0072_01.row.prog w) (Ar dp un gd env outer) (call (.ref f) vs) Q E s

section
variable {w : World} {mean : ExcName → Option Value} {mg mb : Str → Option Value} {A A₀ : Around} {env : Env} {outer : List Env} {base h₀ : Heap} {L : Addr} {m : Str → Option Value} {s : Shared} {K : Frag} {prog : Program}
theorem frKeeps {h h' : Heap} (F : Fr h₀ L h m) (k : Keeps h h') : Fr h₀ L h' m := F.kept k
theorem newsKeeps {h h' : Heap} {news tl : Led} (F : Fr h₀ L h m) (N : News h₀ L h news) (k : Keeps h h') (fr : Fresh h h' tl) : News h₀ L h' (tl ++ news) := by
  intro p hp
  rcases List.mem_append.mp hp with hp | hp
  · refine ⟨(fr p hp).1, fun e => ?_, ?_⟩
    · obtain ⟨oL, a1, a2, hL, a3⟩ := F.ns
      have := (fr p hp).2
      rw [e, hL] at this
      cases this
    · cases q : h₀.get? p.1 with
      | none => rfl
      | some o =>
        have := F.keep _ _ q
        rw [(fr p hp).2] at this
        cases this
  · exact ⟨k _ _ (N p hp).1, (N p hp).2.1, (N p hp).2.2⟩
/-- a contract used where the walk stands at the call -/
theorem Spec.use {f : Addr} {k c : Nat} {pre : Heap → Prop} {vs : List Value} {P : Value → Led → Prop} {news : Led} {Q E : Value → Shared → Prop}
    (S : Spec w f k c pre vs P) (B : Below A₀ base outer h₀) (F : Fr h₀ L s.heap m) (X : (hd.heap_39 w.params).In h₀) (T : TopAt mean mg mb h₀) (N : News h₀ L s.heap news)
    (hh : A.handled = none) (hA : A.frames = some (env :: outer)) (hf : env.frame = some L) (hk : env.scope.kind = .function) (hp : pre s.heap)
    (hd : A.depth + k < recursionLimit) (hu : A.units + c < cLine)
    (ret : ∀ (r : Value) (tl : Led) (h' : Heap) (tk' : Nat), Keeps s.heap h' → Fr h₀ L h' m → News h₀ L h' (tl ++ news) → P r tl → Q r { s with heap := h', toks := tk' }) :
    wpAny (model Challenge.rw_mr0072_01.row.prog w) A (call (.ref f) vs) Q E s :=
  have e : A = Ar A.depth A.units A.guards env outer := by cases A; cases hh; cases hA; rfl
  e ▸ S mean mg mb A.depth A.units A.guards env outer A₀ base h₀ L m s Q E B F X T hf hk hp hd hu fun r tl h' tk' kp fr pr => ret r tl h' tk' kp (frKeeps F kp) (newsKeeps F N kp fr) pr
/-- into a def without cells -/
theorem enter {p : Program} {loose : List Str} {R : Result → Shared → Prop} {name qual : Str} {params : Arguments} {body : List Stmt} {scope : Scope} {dV kV doc pm cdv ct oc : Value} {an od : Option Addr} {osl : Array (Option Value)} {f : Addr} {args : Args} {binds : List (Str × Value)}
    (B : Below A₀ base outer h₀) (F : Fr h₀ L s.heap m) (X₀ : K.In h₀) (T : Top p loose mean mg mb h₀) (hA : A.frames = some (env :: outer)) (hf : env.frame = some L) (hke : env.scope.kind = .function)
    (ho : K.lookup f = some ⟨oc, od, .func (fnOf name qual params body scope dV kV doc pm an cdv ct), osl⟩) (hcd : codeIn K cdv qual = true) (hroom : A.depth < recursionLimit)
    (hbind : BindsTo s (fnOf name qual params body scope dV kV doc pm an cdv ct) args binds) (hloc : ∀ y ∈ binds, scope.names.lookup y.1 = some .local)
    (h : ∀ L' h₁, Keeps s.heap h₁ → Fr s.heap L' h₁ (fun y => binds.reverse.lookup y) → News s.heap L' h₁ [] → Below A base (env :: outer) s.heap → K.In s.heap → Top p loose mean mg mb s.heap →
      wpAny (model prog w) (A.deeper (envOf qual scope L' f cdv)) (execs body (envOf qual scope L' f cdv))
        (fun fl s' => R (.ok (.ret (match fl with | .ret v => v | _ => .none))) s')
        (fun e s' => wpAny (model prog w) (A.deeper (envOf qual scope L' f cdv)) (leaving (envOf qual scope L' f cdv) e) (fun _ s'' => R (.error e) s'') (fun e' s'' => R (.error e') s'') s')
        { s with heap := h₁, toks := s.toks + binds.length })
    (hco : scope.isCoroutine = false) (hgen : scope.isGenerator = false) (hk : scope.kind = .function)
    (hcell : ∀ x ∈ scope.names, x.2 ≠ .cell) : codeAny (model prog w) A (.call (.ref f) args) R s := by
  have B₁ := pushX B F hf hke
  refine codeAny_call_def (fd := fnX name qual params body scope [] dV kV doc pm an cdv ct) (body := body) (binds := binds) hroom ((X₀.keeps F.keep) _ _ ho) rfl (T.nolimit.keeps F.keep) (codeRec_of (X₀.keeps F.keep) hcd) rfl hbind hcell hloc (fun h₁ hns hk₁ => ?_) hco hgen hk
  exact h s.heap.objs.size h₁ hk₁ ⟨hns, hk₁, Nat.le_refl _⟩ News.nil ⟨hA, B₁.stays, B₁.frames⟩ (X₀.keeps F.keep) (T.keeps F.keep)
/-- into a def with cells -/
theorem enterC {p : Program} {loose : List Str} {R : Result → Shared → Prop} {name qual : Str} {params : Arguments} {body : List Stmt} {scope : Scope} {dV kV doc pm cdv ct oc : Value} {an od : Option Addr} {osl : Array (Option Value)} {f : Addr} {args : Args} {binds : List (Str × Value)}
    (B : Below A₀ base outer h₀) (F : Fr h₀ L s.heap m) (X₀ : K.In h₀) (T : Top p loose mean mg mb h₀) (hA : A.frames = some (env :: outer)) (hf : env.frame = some L) (hke : env.scope.kind = .function)
    (ho : K.lookup f = some ⟨oc, od, .func (fnOf name qual params body scope dV kV doc pm an cdv ct), osl⟩) (hcd : codeIn K cdv qual = true) (hroom : A.depth < recursionLimit)
    (hbind : BindsTo s (fnOf name qual params body scope dV kV doc pm an cdv ct) args binds) (hkind : (binds.all fun y => scope.names.lookup y.1 == some .local || scope.names.lookup y.1 == some .cell) = true)
    (hnd : ((cellsFrom 0 scope.names []).map (·.1)).Nodup)
    (h : ∀ L' h₁ tk cells, Keeps s.heap h₁ → Fr s.heap L' h₁ (bindL (envOfC qual scope L' f cdv).kindOf binds fun _ => none) → News s.heap L' h₁ cells →
      CellsAre (bindC (envOfC qual scope L' f cdv).kindOf binds fun _ => none) (cellsFrom (L' + 1) scope.names []) cells → Below A base (env :: outer) s.heap → K.In s.heap → Top p loose mean mg mb s.heap →
      wpAny (model prog w) (A.deeper (envOfC qual scope L' f cdv)) (execs body (envOfC qual scope L' f cdv))
        (fun fl s' => R (.ok (.ret (match fl with | .ret v => v | _ => .none))) s')
        (fun e s' => wpAny (model prog w) (A.deeper (envOfC qual scope L' f cdv)) (leaving (envOfC qual scope L' f cdv) e) (fun _ s'' => R (.error e) s'') (fun e' s'' => R (.error e') s'') s')
        { s with heap := h₁, toks := tk })
    (hco : scope.isCoroutine = false) (hgen : scope.isGenerator = false) (hk : scope.kind = .function) : codeAny (model prog w) A (.call (.ref f) args) R s := by
  have B₁ := pushX B F hf hke
  refine codeAny_call_function hroom ((X₀.keeps F.keep) _ _ ho) (fd := fnX name qual params body scope [] dV kV doc pm an cdv ct) rfl hco hgen rfl (codeRec_of (X₀.keeps F.keep) hcd) (hbind _ _ _ _ ?_)
  refine wpAny_newFunctionEnv_cells hk (kindsX hkind _) fun env' he s' x => ?_
  subst he
  refine ⟨(T.nolimit.keeps F.keep).keeps x.toInCall.keep, codeAny_func ?_⟩
  obtain ⟨h₁, tk, rfl, _⟩ := x.done
  have hk₁ := x.toInCall.keep
  obtain ⟨cells, NC, Y⟩ := Cl.news (h₀ := s.heap) (Nat.le_refl _) fun n c hm => ⟨x.cell n c (lookup_of_mem_nodup (cellsFrom_names scope.names 0 (s.heap.objs.size + 1) [] [] rfl ▸ hnd) hm), x.above n c hm⟩
  exact h s.heap.objs.size h₁ tk cells hk₁ ⟨x.toInCall.ns, hk₁, Nat.le_refl _⟩ NC Y ⟨hA, B₁.stays, B₁.frames⟩ (X₀.keeps F.keep) (T.keeps F.keep)
end
end Mine
-- part L0
namespace Mine
set_option maxRecDepth 100000
section
variable {prog : Program} {w : World} {A : Around} {E : Value → Shared → Prop} {s : Shared} {env : Env} {h₀ : Heap} {x : Str} {px : Pos} {body : List Stmt} {Q : Flow → Shared → Prop} {L : Addr}
/-- what a turn leaves: the frame, the ledger (the iterator at its head) and the word -/
def TurnEnd (h₀ : Heap) (L : Addr) (s : Shared) (I : Addr) (o : Obj) (J : (Str → Option Value) → Led → Prop) (Q : Flow → Shared → Prop) (f : Flow) (s₃ : Shared) : Prop :=
  match f with
  | .next | .cont => ∃ h' tk m' news', s₃ = { s with heap := h', toks := tk } ∧ Fr h₀ L h' m' ∧ News h₀ L h' ((I, o) :: news') ∧ J m' news'
  | .brk => Q .next s₃
  | .ret v => Q (.ret v) s₃
theorem TurnEnd.next {I : Addr} {o : Obj} {J : (Str → Option Value) → Led → Prop} {h' : Heap} {tk : Nat} {m' : Str → Option Value} {news' : Led}
    (F : Fr h₀ L h' m') (N : News h₀ L h' ((I, o) :: news')) (hj : J m' news') : TurnEnd h₀ L s I o J Q .next { s with heap := h', toks := tk } := ⟨h', tk, m', news', rfl, F, N, hj⟩
theorem loop_led {I : Addr} {fp : List Addr} {n : Nat} {P : Nat → Value → Prop} {St : Nat → Heap → Prop} (Oi : Nat → Obj → Prop) (Kp : Heap → Prop) (J : Nat → (Str → Option Value) → Led → Prop)
    {m : Str → Option Value} {news : Led} {o₀ : Obj} {R : Result → Shared → Prop}
    (W : Walks prog w A I fp [I] n P St) (hL : env.locals = L)
    (hto : ∀ i h, St i h → ∃ o, h.get? I = some o ∧ Oi i o) (hfrom : ∀ i h o, h.get? I = some o → Oi i o → Kp h → St i h)
    (hkp : ∀ i m₁ news₁ h, J i m₁ news₁ → News h₀ L h news₁ → Kp h) (hoff : ∀ i m₁ news₁, J i m₁ news₁ → ∀ p ∈ news₁, p.1 ≠ I)
    (hx : env.kindOf x = some .local) (hp : (env.scope.kind == .class || (env.scope.kind == .module && env.locals != env.globals)) = false)
    (F : Fr h₀ L s.heap m) (N : News h₀ L s.heap ((I, o₀) :: news)) (h0 : Oi 0 o₀) (hj : J 0 m news)
    (turn : ∀ i v m₁ news₁ o h tk E', i < n → P i v → J i m₁ news₁ → Fr h₀ L h (fun y => if y = x then some v else m₁ y) → News h₀ L h ((I, o) :: news₁) →
      wpAny (model prog w) A (execs body env) (TurnEnd h₀ L s I o (J (i + 1)) (fun f s' => R (.ok f) s')) E' { s with heap := h, toks := tk })
    (done : ∀ m₁ news₁ h tk, J n m₁ news₁ → Fr h₀ L h m₁ → News h₀ L h news₁ → R (.ok .next) { s with heap := h, toks := tk }) :
    codeAny (model prog w) A (.forLoop (.Name x px) (.ref I) body [] env) R s := by
  subst hL
  refine codeAny_forLoop (fun k s' => ∃ i h tk m₁ news₁ o, s' = { s with heap := h, toks := tk } ∧ k = n + 1 - i ∧ i ≤ n ∧ Oi i o ∧ Fr h₀ env.locals h m₁ ∧ News h₀ env.locals h ((I, o) :: news₁) ∧ J i m₁ news₁) ?_ (n + 1)
    ⟨0, s.heap, s.toks, m, news, o₀, rfl, rfl, Nat.zero_le _, h0, F, N, hj⟩
  rintro k s' ⟨i, h, tk, m₁, news₁, o, rfl, rfl, hi, hO, F₁, N₁, hJ⟩
  have N₁' : News h₀ env.locals h news₁ := fun p hp => N₁ p (.tail _ hp)
  have hst : St i h := hfrom i h o (N₁ _ (.head _)).1 hO (hkp i m₁ news₁ h hJ N₁')
  have hIL : I ≠ env.locals := (N₁ _ (.head _)).2.1
  have hI0 : h₀.get? I = none := (N₁ _ (.head _)).2.2
  have keepF : ∀ h', (∀ b o, b ∉ [I] → h.get? b = some o → h'.get? b = some o) → Fr h₀ env.locals h' m₁ := by
    intro h' hk
    obtain ⟨oL, a1, a2, hL, a3⟩ := F₁.ns
    refine ⟨⟨oL, a1, a2, hk _ _ (by simp only [List.mem_singleton]; exact Ne.symm hIL) hL, a3⟩, fun b ob e => hk b ob ?_ (F₁.keep b ob e), F₁.above⟩
    simp only [List.mem_singleton]
    intro q
    rw [q, hI0] at e
    cases e
  have keepN : ∀ h', (∀ b o, b ∉ [I] → h.get? b = some o → h'.get? b = some o) → News h₀ env.locals h' news₁ := fun h' hk p hp =>
    ⟨hk _ _ (by simp only [List.mem_singleton]; exact hoff i m₁ news₁ hJ p hp) (N₁' p hp).1, (N₁' p hp).2⟩
  rcases Nat.lt_or_ge i n with hlt | hge
  · refine W.item i _ _ _ hlt hst fun v h' tk' hP hst' hk => ?_
    obtain ⟨o', ho', hO'⟩ := hto _ _ hst'
    have F₂ := keepF h' hk
    have N₂ : News h₀ env.locals h' ((I, o') :: news₁) := fun p hp => by
      rcases List.mem_cons.mp hp with rfl | hp
      · exact ⟨ho', hIL, hI0⟩
      · exact keepN h' hk p hp
    refine wpAny_assign_Name (wpAny_storeName_local hx F₂.ns (fun h'' hn hs => ?_) hp)
    refine wpAny_mono (turn i v m₁ news₁ o' h'' _ _ hlt hP hJ (F₂.set hn hs) (N₂.set hs)) (fun f s₃ h₃ => ?_) fun _ _ e => e
    have fin : (∃ h' tk m' news', s₃ = { s with heap := h', toks := tk } ∧ Fr h₀ env.locals h' m' ∧ News h₀ env.locals h' ((I, o') :: news') ∧ J (i + 1) m' news') →
        ∃ m, m < n + 1 - i ∧ ∃ i h tk m₁ news₁ o, s₃ = { s with heap := h, toks := tk } ∧ m = n + 1 - i ∧ i ≤ n ∧ Oi i o ∧ Fr h₀ env.locals h m₁ ∧ News h₀ env.locals h ((I, o) :: news₁) ∧ J i m₁ news₁ := by
      rintro ⟨h5, tk5, m5, news5, e5, F5, N5, J5⟩
      exact ⟨n + 1 - (i + 1), by omega, i + 1, h5, tk5, m5, news5, o', e5, rfl, hlt, hO', F5, N5, J5⟩
    cases f with
    | next => exact fin h₃
    | cont => exact fin h₃
    | brk => exact h₃
    | ret v => exact h₃
  · have hin : i = n := Nat.le_antisymm hi hge
    subst hin
    refine W.done _ _ _ hst fun h' tk' hk => wpAny_execs_nil ?_
    exact done m₁ news₁ h' tk' hJ (keepF h' hk) (keepN h' hk)
/-- a for over a list of the ledger -/
theorem for_list {l : Addr} {items : Array Value} {ep : Nat} (J : Nat → (Str → Option Value) → Led → Prop) {m : Str → Option Value} {news : Led} {R : Result → Shared → Prop}
    (hh : A.handled = none) (F : Fr h₀ L s.heap m) (N : News h₀ L s.heap news) (hL : env.locals = L)
    (hmem : ∀ i m₁ news₁, J i m₁ news₁ → (l, W.listOf items ep) ∈ news₁) (hoff : ∀ i m₁ news₁, J i m₁ news₁ → ∀ p ∈ news₁, p.1 < s.heap.objs.size)
    (hx : env.kindOf x = some .local) (hp : (env.scope.kind == .class || (env.scope.kind == .module && env.locals != env.globals)) = false)
    (hj : J 0 m news)
    (turn : ∀ i v m₁ news₁ o h tk E', items[i]? = some v → J i m₁ news₁ → Fr h₀ L h (fun y => if y = x then some v else m₁ y) → News h₀ L h ((s.heap.objs.size, o) :: news₁) →
      wpAny (model prog w) A (execs body env) (TurnEnd h₀ L s s.heap.objs.size o (J (i + 1)) (fun f s' => R (.ok f) s')) E' { s with heap := h, toks := tk })
    (done : ∀ m₁ news₁ h tk, J items.size m₁ news₁ → Fr h₀ L h m₁ → News h₀ L h news₁ → R (.ok .next) { s with heap := h, toks := tk }) :
    wpAny (model prog w) A (pyIter (.ref l)) (fun it s₂ => codeAny (model prog w) A (.forLoop (.Name x px) it body [] env) R s₂) E s := by
  have hl := N.get (hmem 0 m news hj)
  have hls : s.heap.IsList l items := ⟨_, hl, rfl, _, rfl⟩
  have hne : l ≠ s.heap.objs.size := Nat.ne_of_lt (Heap.lt_size hl)
  refine wpAny_pyIter_list hls ?_
  refine loop_led (s := { s with heap := _ }) (Oi := fun i o => o.cls = .type "list_iterator" ∧ o.data = .fields #[.ref l, .int i 0]) (Kp := fun h => h.IsList l items) J
    (W := Walks.list hh s.heap.objs.size l hne items) hL ?_ ?_ ?_ ?_ hx hp (F.push _) (N.push F _) ⟨rfl, rfl⟩ hj ?_ ?_
  · rintro i h ⟨⟨o, ho, h1, h2⟩, _⟩
    exact ⟨o, ho, h1, h2⟩
  · rintro i h o ho ⟨h1, h2⟩ hk
    exact ⟨⟨o, ho, h1, h2⟩, hk⟩
  · intro i m₁ news₁ h hJ N₁
    exact ⟨_, N₁.get (hmem i m₁ news₁ hJ), rfl, _, rfl⟩
  · intro i m₁ news₁ hJ p hp
    exact Nat.ne_of_lt (hoff i m₁ news₁ hJ p hp)
  · intro i v m₁ news₁ o h tk E' _ hP hJ F₁ N₁
    exact turn i v m₁ news₁ o h tk E' hP hJ F₁ N₁
  · intro m₁ news₁ h tk hJ F₁ N₁
    exact done m₁ news₁ h tk hJ F₁ N₁
/-- a for over a range object of the ledger -/
theorem for_range {r : Addr} {a b c : Int} {t u v : Tok} {n : Nat} (J : Nat → (Str → Option Value) → Led → Prop) {m : Str → Option Value} {news : Led} {R : Result → Shared → Prop}
    (hh : A.handled = none) (F : Fr h₀ L s.heap m) (N : News h₀ L s.heap news) (hL : env.locals = L)
    (hr : IsRange s.heap r a b c t u v) (hsmall : Builtin.Range.small a b c = true) (hn : Builtin.Range.rangeSize a b c = (n : Int))
    (hoff : ∀ i m₁ news₁, J i m₁ news₁ → ∀ p ∈ news₁, p.1 < s.heap.objs.size)
    (hx : env.kindOf x = some .local) (hp : (env.scope.kind == .class || (env.scope.kind == .module && env.locals != env.globals)) = false)
    (hj : J 0 m news)
    (turn : ∀ i tk' m₁ news₁ o h tk E', i < n → J i m₁ news₁ → Fr h₀ L h (fun y => if y = x then some (.int (a + (i : Nat) * c) tk') else m₁ y) → News h₀ L h ((s.heap.objs.size, o) :: news₁) →
      wpAny (model prog w) A (execs body env) (TurnEnd h₀ L s s.heap.objs.size o (J (i + 1)) (fun f s' => R (.ok f) s')) E' { s with heap := h, toks := tk })
    (done : ∀ m₁ news₁ h tk, J n m₁ news₁ → Fr h₀ L h m₁ → News h₀ L h news₁ → R (.ok .next) { s with heap := h, toks := tk }) :
    wpAny (model prog w) A (pyIter (.ref r)) (fun it s₂ => codeAny (model prog w) A (.forLoop (.Name x px) it body [] env) R s₂) E s := by
  refine wpAny_pyIter_range hr hsmall ?_
  refine loop_led (s := { s with heap := _ }) (Oi := fun i o => o = { cls := .type "range_iterator", data := .fields #[rawInt (a + (i : Nat) * c), rawInt ((n : Int) - (i : Nat)), rawInt c] }) (Kp := fun _ => True) J
    (W := Walks.range hh s.heap.objs.size a c n) hL ?_ ?_ ?_ ?_ hx hp (F.push _) (N.push F _) ?_ hj ?_ ?_
  · intro i h hs
    exact ⟨_, hs, rfl⟩
  · rintro i h o ho rfl _
    exact ho
  · intros; trivial
  · intro i m₁ news₁ hJ p hp
    exact Nat.ne_of_lt (hoff i m₁ news₁ hJ p hp)
  · simp [hn]
  · rintro i v m₁ news₁ o h tk E' hlt ⟨tk', rfl⟩ hJ F₁ N₁
    exact turn i tk' m₁ news₁ o h tk E' hlt hJ F₁ N₁
  · intro m₁ news₁ h tk hJ F₁ N₁
    exact done m₁ news₁ h tk hJ F₁ N₁
end
/-- a frame's name, said out loud -/
theorem frAs {h₀ h : Heap} {L : Addr} {m : Str → Option Value} {x : Str} {v : Value} (F : Fr h₀ L h m) (hm : m x = some v) : Fr h₀ L h (fun y => if y = x then some v else m y) := by
  have e : (fun y => if y = x then some v else m y) = m := by
    funext y
    by_cases q : y = x
    · rw [if_pos q, q, hm]
    · rw [if_neg q]
  rw [e]; exact F
theorem asEq {m : Str → Option Value} {x : Str} {v : Value} (hm : m x = some v) : (fun y => if y = x then some v else m y) = m := by
  funext y
  by_cases q : y = x
  · rw [if_pos q, q, hm]
  · rw [if_neg q]
theorem frAs2 {h₀ h : Heap} {L : Addr} {m : Str → Option Value} {x1 x2 : Str} {v1 v2 : Value} (F : Fr h₀ L h m) (h1 : m x1 = some v1) (h2 : m x2 = some v2) :
    Fr h₀ L h (fun y => if y = x1 then some v1 else if y = x2 then some v2 else m y) := by
  have e : (fun y => if y = x1 then some v1 else if y = x2 then some v2 else m y) = m := by
    have e2 := asEq h2
    show (fun y => if y = x1 then some v1 else (fun y => if y = x2 then some v2 else m y) y) = m
    rw [e2]; exact asEq h1
  rw [e]; exact F
theorem frAs3 {h₀ h : Heap} {L : Addr} {m : Str → Option Value} {x1 x2 x3 : Str} {v1 v2 v3 : Value} (F : Fr h₀ L h m) (h1 : m x1 = some v1) (h2 : m x2 = some v2) (h3 : m x3 = some v3) :
    Fr h₀ L h (fun y => if y = x1 then some v1 else if y = x2 then some v2 else if y = x3 then some v3 else m y) := by
  have e : (fun y => if y = x3 then some v3 else m y) = m := asEq h3
  have F2 := frAs2 (F) h1 h2
  have e4 : (fun y => if y = x1 then some v1 else if y = x2 then some v2 else if y = x3 then some v3 else m y) = (fun y => if y = x1 then some v1 else if y = x2 then some v2 else m y) := by
    show (fun y => if y = x1 then some v1 else if y = x2 then some v2 else (fun y => if y = x3 then some v3 else m y) y) = _
    rw [e]
  rw [e4]; exact F2
theorem frAs4 {h₀ h : Heap} {L : Addr} {m : Str → Option Value} {x1 x2 x3 x4 : Str} {v1 v2 v3 v4 : Value} (F : Fr h₀ L h m) (h1 : m x1 = some v1) (h2 : m x2 = some v2) (h3 : m x3 = some v3) (h4 : m x4 = some v4) :
    Fr h₀ L h (fun y => if y = x1 then some v1 else if y = x2 then some v2 else if y = x3 then some v3 else if y = x4 then some v4 else m y) := by
  have e : (fun y => if y = x4 then some v4 else m y) = m := asEq h4
  have F2 := frAs3 F h1 h2 h3
  have e4 : (fun y => if y = x1 then some v1 else if y = x2 then some v2 else if y = x3 then some v3 else if y = x4 then some v4 else m y) = (fun y => if y = x1 then some v1 else if y = x2 then some v2 else if y = x3 then some v3 else m y) := by
    show (fun y => if y = x1 then some v1 else if y = x2 then some v2 else if y = x3 then some v3 else (fun y => if y = x4 then some v4 else m y) y) = _
    rw [e]
  rw [e4]; exact F2
theorem newsMore {h₀ h : Heap} {L D : Addr} {m : Str → Option Value} {o : Obj} {news : Led} (F : Fr h₀ L h m) (N : News h₀ L h news) (ho : h.get? D = some o) (hf : h₀.get? D = none) (hne : D ≠ L := by first | assumption | omega) : News h₀ L h ((D, o) :: news) := by
  intro p hp
  rcases List.mem_cons.mp hp with rfl | hp
  · exact ⟨ho, hne, hf⟩
  · exact N p hp
theorem newsSub {h₀ h : Heap} {L : Addr} {news news' : Led} (N : News h₀ L h news') (hs : ∀ p ∈ news, p ∈ news') : News h₀ L h news := fun p hp => N p (hs p hp)
end Mine
-- part R0
namespace Mine
open PySem.Builtin PySem.Builtin.Str
set_option maxRecDepth 100000
/-- x.find(y, i, j) -/
def find4 (x y : Str) (i j : Int) : Int := match occurrences x y (fromIndex x.length i) (min (fromIndex x.length j) x.length) 1 with | k :: _ => (k : Int) | [] => -1
theorem gives_find4 (x y : Str) (i j : Int) (t u v v' : Tok) : Gives («str.find» ⟨[.str x t, .str y u, .int i v, .int j v'], []⟩) (.int (find4 x y i j)) := by
  show Gives (match occurrences x y (fromIndex x.length i) (min (fromIndex x.length j) x.length) 1 with | k :: _ => retInt k | [] => (do rule "str.find.not-found"; retInt (-1))) _
  unfold find4
  cases occurrences x y (fromIndex x.length i) (min (fromIndex x.length j) x.length) 1 with
  | nil => exact .rule (.of_eq rfl)
  | cons k _ => exact .of_eq rfl
section
variable {prog : Program} {w : World} {A : Around} {E : Value → Shared → Prop} {s : Shared}
theorem call_find4 {x y : Str} {i j : Int} {t u v v' : Tok} {Q : Value → Shared → Prop} (hq : Q (.int (find4 x y i j) s.toks) { s with toks := s.toks + 1 }) :
    wpAny (model prog w) A (call (.builtin "str.find") [.str x t, .str y u, .int i v, .int j v']) Q E s :=
  call_gives F.slot_str_find (typeIs_str _ _ _) F.entry_str_find (F.args_str_find_4 _ _ _ _) (gives_find4 x y i j t u v v') hq
end
end Mine
-- part P0
namespace Mine
open PySem.Builtin PySem.Builtin.Str
set_option maxRecDepth 100000
/-- the three dots -/
def dots : Str := Str.ofString "..."
def mLoop (t : Str) (b : Int) : List Str → Int → Bool
  | [], _ => true
  | w :: ws, a => if find4 t w a b < 0 then false else mLoop t b ws (find4 t w a b + (w.length : Int))
def mEnd (t : Str) (a : Int) (ws : List Str) : Bool :=
  if (ws.getLastD Str.empty).length = 0 then (if (t.length : Int) < a then false else mLoop t t.length ws a)
  else if Txt.endswith t (ws.getLastD Str.empty) = true then
    (if (t.length : Int) - ((ws.getLastD Str.empty).length : Int) < a then false else mLoop t ((t.length : Int) - ((ws.getLastD Str.empty).length : Int)) ws.dropLast a)
  else false
def mStart (t : Str) (ws : List Str) : Bool :=
  if (ws.headD Str.empty).length = 0 then mEnd t 0 ws
  else if Txt.startswith t (ws.headD Str.empty) = true then mEnd t ((ws.headD Str.empty).length : Int) ws.tail else false
/-- what _ellipsis_match yields -/
def matchS (p t : Str) : Bool := if (occurrences p dots 0 p.length 1).isEmpty = true then p == t else mStart t (Txt.split p dots)
theorem mStart_empty {t y : Str} {l : List Str} (h : y.length = 0) : mStart t (y :: l) = mEnd t 0 (y :: l) := by
  unfold mStart
  rw [if_pos (show ((y :: l).headD Str.empty).length = 0 from h)]
theorem mStart_yes {t y : Str} {l : List Str} (h : y.length ≠ 0) (hs : Txt.startswith t y = true) : mStart t (y :: l) = mEnd t (y.length : Int) l := by
  unfold mStart
  rw [if_neg (show ¬ ((y :: l).headD Str.empty).length = 0 from h), if_pos (show Txt.startswith t ((y :: l).headD Str.empty) = true from hs)]
  rfl
theorem mStart_no {t y : Str} {l : List Str} (h : y.length ≠ 0) (hs : Txt.startswith t y = false) : mStart t (y :: l) = false := by
  unfold mStart
  rw [if_neg (show ¬ ((y :: l).headD Str.empty).length = 0 from h), if_neg (show ¬ Txt.startswith t ((y :: l).headD Str.empty) = true from by show ¬ Txt.startswith t y = true; rw [hs]; decide)]
theorem last_snoc (l : List Str) (y : Str) : (l ++ [y]).getLastD Str.empty = y := by simp
theorem mEnd_empty {t y : Str} {a : Int} {l : List Str} (h : y.length = 0) : mEnd t a (l ++ [y]) = if (t.length : Int) < a then false else mLoop t t.length (l ++ [y]) a := by
  unfold mEnd
  rw [last_snoc, if_pos h]
theorem mEnd_yes {t y : Str} {a : Int} {l : List Str} (h : y.length ≠ 0) (hs : Txt.endswith t y = true) : mEnd t a (l ++ [y]) = if (t.length : Int) - (y.length : Int) < a then false else mLoop t ((t.length : Int) - (y.length : Int)) l a := by
  unfold mEnd
  rw [last_snoc, if_neg h, if_pos hs]
  simp
theorem mEnd_no {t y : Str} {a : Int} {l : List Str} (h : y.length ≠ 0) (hs : Txt.endswith t y = false) : mEnd t a (l ++ [y]) = false := by
  unfold mEnd
  rw [last_snoc, if_neg h, if_neg (by rw [hs]; decide)]
theorem join_part_le (sep : Str) : ∀ (l : List Str), ∀ y ∈ l, y.length ≤ (Str.join sep l).length
  | [], y, h => nomatch h
  | [x], y, h => by
    rcases List.mem_cons.mp h with rfl | h
    · exact Nat.le_refl _
    · exact nomatch h
  | x :: z :: r, y, h => by
    have e : Str.join sep (x :: z :: r) = x ++ sep ++ Str.join sep (z :: r) := rfl
    rw [e, Str.length_append, Str.length_append]
    rcases List.mem_cons.mp h with rfl | h
    · omega
    · have := join_part_le sep (z :: r) y h
      omega
theorem split_part_le (p : Str) : ∀ y ∈ Txt.split p dots, y.length ≤ p.length := fun y hy => by
  have := join_part_le dots _ y hy
  rwa [StrLaws.join_split] at this
open StrLaws in
theorem split_cuts (p : Str) (h : (occurrences p dots 0 p.length 1).isEmpty = false) : ∃ c r f, Txt.split p dots = partsFrom p 3 0 (c :: r) ∧ ChainG p dots p.length 0 (c :: r) f ∧ ∀ k, f ≤ k → ¬ At p dots p.length k := by
  have h1 : dots.length = 3 := by decide +kernel
  have hk : Builtin.Str.strKind dots = 1 := by decide +kernel
  obtain ⟨i, hi, hs⟩ := (found_iff p dots).mp (by rw [h]; rfl)
  obtain ⟨f, hG, hn⟩ := occ_tight p dots (by omega)
  unfold Txt.split
  have c1 : ¬ (p.length < dots.length || Builtin.Str.strKind p < Builtin.Str.strKind dots) = true := by
    have k2 : 1 ≤ Builtin.Str.strKind p := by
      unfold Builtin.Str.strKind
      split
      · exact Nat.le_refl _
      · split <;> omega
    rw [hk, Bool.or_eq_true, decide_eq_true_eq, decide_eq_true_eq]
    omega
  rw [if_neg c1]
  cases hc : occurrences p dots 0 p.length (p.length + 1) with
  | nil =>
    rw [hc] at hG
    have ef : f = 0 := hG
    subst ef
    exact absurd ⟨hi, hs⟩ (hn i (Nat.zero_le _))
  | cons c r =>
    rw [hc] at hG
    refine ⟨c, r, f, ?_, hG, hn⟩
    rw [if_neg (by simp), partsBetween_eq, h1]
theorem split_two (p : Str) (h : (occurrences p dots 0 p.length 1).isEmpty = false) : 2 ≤ (Txt.split p dots).length := by
  obtain ⟨c, r, f, e, _, _⟩ := split_cuts p h
  obtain ⟨q, l, e2⟩ := StrLaws.partsFrom_ne p 3 (c + 3) r
  rw [e]
  show 2 ≤ (strSub p 0 c :: StrLaws.partsFrom p 3 (c + 3) r).length
  rw [e2]
  simp
end Mine
-- part M1
namespace Mine
set_option maxRecDepth 100000
set_option maxHeartbeats 1000000
local macro_rules | `(tactic| walk_at "mine in") => `(tactic| (refine' enter ?k1 ?k2 ?k3 ?k5 ?kA ?kF ?kK ?k6 ?k7 ?k8 ?k9 ?kB ?_ ?c2 ?c3 ?c4 ?c5; (case kA => exact rfl); (case kF => assumption); (case kK => assumption); (case k1 => k_asm); (case k2 => k_asm); (case k3 => k_asm); (case k5 => k_asm); (case k6 => k_is); (case k7 => k_is); (case k8 => ktr_room); (case k9 => exact BindsTo.of_eq rfl); (case c5 => decide); (case kB => exact locs rfl); (case c2 => exact rfl); (case c3 => exact rfl); (case c4 => exact rfl); k_whole))
local macro_rules | `(tactic| walk_at "mine inC") => `(tactic| (refine' enterC ?k1 ?k2 ?k3 ?k5 ?kA ?kF ?kK ?k6 ?k7 ?k8 ?k9 ?kB ?kD ?_ ?c2 ?c3 ?c4; (case kA => exact rfl); (case kF => assumption); (case kK => assumption); (case k1 => k_asm); (case k2 => k_asm); (case k3 => k_asm); (case k5 => k_asm); (case k6 => k_is); (case k7 => k_is); (case k8 => ktr_room); (case k9 => exact BindsTo.of_eq rfl); (case kB => exact rfl); (case kD => decide +kernel); (case c2 => exact rfl); (case c3 => exact rfl); (case c4 => exact rfl); k_whole))
local macro_rules | `(tactic| walk_at "mine guard") => `(tactic| ((fail_if_success (with_reducible show wpAny _ _ (exec (Stmt.While _ _ _ _) _) _ _ _)); (fail_if_success (with_reducible show wpAny _ _ (exec (Stmt.For _ _ _ _ _) _) _ _ _))))
local macro_rules | `(tactic| walk_at "mine guardI") => `(tactic| ((fail_if_success (with_reducible show wpAny _ _ (exec (Stmt.If _ _ _ _) _) _ _ _)); (fail_if_success (with_reducible show wpAny _ _ (exec (Stmt.While _ _ _ _) _) _ _ _)); (fail_if_success (with_reducible show wpAny _ _ (exec (Stmt.For _ _ _ _ _) _) _ _ _))))
local macro_rules | `(tactic| walk_at "mine steps") => `(tactic| repeat' (first | (k_unfold; (try dsimp only)) | (walk_at "mine guard"; walk1) | (dsimp only; walk_at "mine guard"; walk1)))
local macro_rules | `(tactic| walk_at "mine stepsI") => `(tactic| repeat' (first | (k_unfold; (try dsimp only)) | (walk_at "mine guardI"; walk1) | (dsimp only; walk_at "mine guardI"; walk1)))
local macro_rules | `(tactic| walk_at "mine stepsC") => `(tactic| repeat' (first | (k_unfold; (try dsimp only)) | ((fail_if_success (with_reducible show wpAny _ _ (exec (Stmt.Assign _ (Expr.ListComp _ _ _ _) _) _) _ _ _)); walk_at "mine guard"; walk1) | (dsimp only; (fail_if_success (with_reducible show wpAny _ _ (exec (Stmt.Assign _ (Expr.ListComp _ _ _ _) _) _) _ _ _)); walk_at "mine guard"; walk1)))
set_option pp.deepTerms false
set_option pp.deepTerms.threshold 5
local macro_rules | `(tactic| walk_at "call builtin:str.find") => `(tactic| refine call_find4 ?_)
local macro_rules | `(tactic| walk_at "subscriptTail") => `(tactic| ((with_reducible show wpAny _ _ (subscriptTail _ (Expr.UnaryOp _ _ _) (Value.ref _) (Value.int _ _)) _ _ _); refine item_strsTneg (News.isList (by assumption) (by k_mem)) (by decide) (by (simp only [List.length_append, List.length_cons, List.length_nil]); omega) (by decide) ?_; intro y' t' hy'))
/-- behind the second if of match -/
def MidB (s : Shared) (L D : Addr) (t : Str) (t2 : Tok) (R : Bool) (f : Flow) (s' : Shared) : Prop :=
  ∃ h tk, s' = { s with heap := h, toks := tk } ∧
   ((f = .ret (.bool false) ∧ R = false ∧ Keeps s.heap h) ∨
    (f = .next ∧ ∃ (m : Str → Option Value) (a b : Int) (ta : Tok) (tb : Tok) (l : List (Str × Tok)) (ep : Nat),
      Fr s.heap L h m ∧ News s.heap L h [(D, W.listOf (strValues l).toArray ep)] ∧ l.length ≤ 1003 ∧ (∀ y ∈ l, y.1.length ≤ 1000) ∧
      m (Str.ofString "ws") = some (.ref D) ∧ m (Str.ofString "startpos") = some (.int a ta) ∧ m (Str.ofString "endpos") = some (.int b tb) ∧ m (Str.ofString "got") = some (.str t t2) ∧
      R = (if b < a then false else mLoop t b (l.map (·.1)) a)))
/-- between two turns of the loop of match -/
def MatchJ (D : Addr) (t : Str) (t2 : Tok) (R : Bool) (b : Int) (l : List (Str × Tok)) (ep : Nat) (i : Nat) (m : Str → Option Value) (news : Led) : Prop :=
  news = [(D, W.listOf (strValues l).toArray ep)] ∧ ∃ (a : Int) (ta tb : Tok), m (Str.ofString "startpos") = some (.int a ta) ∧ m (Str.ofString "endpos") = some (.int b tb) ∧ m (Str.ofString "got") = some (.str t t2) ∧
    R = mLoop t b ((l.drop i).map (·.1)) a
/-- behind the first if of match -/
def MidA (s : Shared) (L D : Addr) (t : Str) (t2 : Tok) (R : Bool) (f : Flow) (s' : Shared) : Prop :=
  ∃ h tk, s' = { s with heap := h, toks := tk } ∧
   ((f = .ret (.bool false) ∧ R = false ∧ Keeps s.heap h) ∨
    (f = .next ∧ ∃ (m : Str → Option Value) (a : Int) (ta : Tok) (tb : Tok) (l : List (Str × Tok)) (ep : Nat),
      Fr s.heap L h m ∧ News s.heap L h [(D, W.listOf (strValues l).toArray ep)] ∧ 0 ≤ a ∧ a ≤ 1000 ∧ 1 ≤ l.length ∧ l.length ≤ 1003 ∧ (∀ y ∈ l, y.1.length ≤ 1000) ∧
      m (Str.ofString "ws") = some (.ref D) ∧ m (Str.ofString "startpos") = some (.int a ta) ∧ m (Str.ofString "endpos") = some (.int (t.length : Int) tb) ∧ m (Str.ofString "got") = some (.str t t2) ∧
      R = mEnd t a (l.map (·.1))))
theorem match_spec (w : World) (p t : Str) (t1 t2 : Tok) (hpl : p.length ≤ 1000) (htl : t.length ≤ 1000) :
    Spec w 21 1 20 (fun _ => True) [.str p t1, .str t t2] (fun r tl => r = .bool (matchS p t) ∧ tl = []) := by
  unfold Spec
  w_top off
  k_fill
  intro mean mg mb dp un gd env outer A₀ base h₀ L m s Q E B F X T hf hk hp hd hu hret
  refine wpAny_call ?_
  k_dflt (walk_at "mine in")
  intro L1 h1 KP F1 N1 B1 X1 T1
  try dsimp only
  try k_fold
  walk_at "mine stepsI"
  walk1
  walk_at "mine stepsI"
  · -- no dots
    rename (Builtin.Str.occurrences _ _ _ _ _).isEmpty = true => hocc
    refine hret _ [] _ _ (Fr.keep F1) (fun _ hp => nomatch hp) ⟨?_, rfl⟩
    have hocc' : (Builtin.Str.occurrences p dots 0 p.length 1).isEmpty = true := hocc
    show Value.bool (p == t) = _
    unfold matchS
    rw [if_pos hocc']
  · -- dots
    rename (Builtin.Str.occurrences _ _ _ _ _).isEmpty = false => hocc
    rename List (Str × Tok) => l
    rename List.map _ _ = Txt.split _ _ => hlk
    rename Fr _ _ _ _ => F5
    rename News _ _ _ _ => N5
    rename ∀ a, a ∈ _ → Str.length a ≤ _ => hlen
    rename (List.map _ _)[_]? = some _ => hy
    rename 2 ≤ (_ : Int) => h2l
    have hR : matchS p t = mStart t (l.map (·.1)) := by
      rw [hlk]
      unfold matchS
      have hocc' : ¬ (Builtin.Str.occurrences p dots 0 p.length 1).isEmpty = true := by
        show ¬ (Builtin.Str.occurrences p (Str.ofString "...") 0 p.length 1).isEmpty = true
        rw [hocc]; decide
      rw [if_neg hocc']
      rfl
    have hl3 : l.length ≤ 1003 := by
      have h5 := congrArg List.length hlk
      have h6 := (fact_split p (Str.ofString "...")).2
      rw [List.length_map] at h5
      omega
    have hlen2 : ∀ y ∈ l, y.1.length ≤ 1000 := fun y hy => Nat.le_trans (hlen _ (List.mem_map_of_mem hy)) hpl
    clear hlk hocc
    replace N5 := newsSub (news := [(h1.objs.size, W.listOf (strValues l).toArray 0)]) N5 (by intro p hp; exact .tail _ hp)
    rcases l with _ | ⟨⟨y0, ty0⟩, l⟩
    · simp at h2l
    have hyy : y0 = _ := Option.some.inj hy
    subst hyy
    clear hy
    have hy0 : y0.length ≤ 1000 := hlen2 (y0, ty0) (.head _)
    refine wpAny_mono (Q := MidA s L1 h1.objs.size t t2 (matchS p t)) ?_ ?_ (fun _ _ e => e)
    · walk1
      walk_at "mine steps"
      · -- the text starts with it
        rename Txt.startswith _ _ = true => hsw
        rename Fr _ _ _ _ => F6
        rename News _ _ _ _ => N6
        rename (_ : Int) ≠ 0 => hne
        refine delItem_head (k := 0) F6 N6 (fun p hp => nomatch hp) (by decide) ?_ ?_ (hsz := ?_)
        · show seqIndex? 0 (strValues ((y0, ty0) :: l)).toArray.size = some 0
          simp [seqIndex?, strValues]
        · intro h7 F7 N7
          walk_at "mine steps"
          refine ⟨_, _, rfl, .inr ⟨rfl, _, (y0.length : Int), _, _, l, 1, F7, N7, ?_, ?_, ?_, ?_, ?_, rfl, rfl, rfl, rfl, ?_⟩⟩
          · omega
          · omega
          · simp only [List.length_cons] at h2l; omega
          · simp only [List.length_cons] at hl3; omega
          · exact fun y hy => hlen2 y (.tail _ hy)
          · rw [hR]; exact mStart_yes (y := y0) (by omega) hsw
        · show (strValues ((y0, ty0) :: l)).toArray.size ≤ sizeLine
          rw [sizeLine_eq]
          simp only [strValues, List.size_toArray, List.length_map] at hl3 ⊢
          omega
      · -- it does not
        rename Txt.startswith _ _ = false => hsw
        rename (_ : Int) ≠ 0 => hne
        show MidA _ _ _ _ _ _ _ _
        refine ⟨_, _, rfl, .inl ⟨rfl, ?_, Fr.keep F5⟩⟩
        rw [hR]; exact mStart_no (y := y0) (by omega) hsw
      · -- empty
        rename (_ : Int) = 0 => hne
        refine ⟨_, _, rfl, .inr ⟨rfl, _, 0, _, _, (y0, ty0) :: l, 0, F5, N5, ?_, ?_, ?_, ?_, ?_, rfl, rfl, rfl, rfl, ?_⟩⟩
        · omega
        · omega
        · simp
        · exact hl3
        · exact hlen2
        · rw [hR]; exact mStart_empty (y := y0) (by omega)
    · clear F5 N5 hR hlen hlen2 hl3 h2l
      rintro f s' ⟨h, tk, rfl, ⟨rfl, hRf, kp⟩ | ⟨rfl, m5, a, ta, tb, l5, ep, F5, N5, ha0, ha1, hl1, hl2, hls, hws, hsp, hep, hgot, hRR⟩⟩
      · exact hret _ [] _ _ kp (fun _ hp => nomatch hp) ⟨by rw [hRf], rfl⟩
      · dsimp only
        replace F5 := frAs4 F5 hws hsp hep hgot
        obtain ⟨l6, ⟨yl, tyl⟩, rfl⟩ : ∃ l6 y, l5 = l6 ++ [y] := by
          rcases List.eq_nil_or_concat l5 with e | ⟨a, b, e⟩
          · rw [e] at hl1; simp at hl1
          · exact ⟨a, b, by rw [e, List.concat_eq_append]⟩
        walk_at "mine stepsI"
        rename (List.map _ _)[_]? = some _ => hy
        rename Fr _ _ _ _ => F6
        rename News _ _ _ _ => N6
        have hyy : some yl = _ := (show (List.map (fun x => x.1) (l6 ++ [(yl, tyl)]))[((-1 : Int) + ((l6 ++ [(yl, tyl)]).length : Int)).toNat]? = some yl from by
          have e : ((-1 : Int) + ((l6 ++ [(yl, tyl)]).length : Int)).toNat = l6.length := by simp only [List.length_append, List.length_cons, List.length_nil]; omega
          rw [e]; simp).symm.trans hy
        have hyy := Option.some.inj hyy
        subst hyy
        clear hy hws hsp hep hgot
        have hyl : yl.length ≤ 1000 := hls (yl, tyl) (by simp)
        rw [List.map_append] at hRR
        refine wpAny_mono (Q := MidB s L1 h1.objs.size t t2 (matchS p t)) ?_ ?_ (fun _ _ e => e)
        · walk1
          walk_at "mine steps"
          · -- the text ends with it
            rename Txt.endswith _ _ = true => hew
            rename Fr _ _ _ _ => F7
            rename News _ _ _ _ => N7
            rename (_ : Int) ≠ 0 => hne
            refine delItem_head (k := l6.length) F7 N7 (fun p hp => nomatch hp) (by decide) ?_ ?_ (hsz := ?_)
            · simp [seqIndex?, strValues]
              omega
            · intro h8 F8 N8
              have eL : ((strValues (l6 ++ [(yl, tyl)])).toArray.toList.eraseIdx l6.length).toArray = (strValues l6).toArray := by
                simp [strValues, List.eraseIdx_append_of_length_le]
              rw [eL] at N8
              walk_at "mine steps"
              refine ⟨_, _, rfl, .inr ⟨rfl, _, a, (t.length : Int) - (yl.length : Int), _, _, l6, _, F8, N8, ?_, ?_, rfl, rfl, rfl, rfl, ?_⟩⟩
              · simp only [List.length_append, List.length_cons] at hl2; omega
              · exact fun y hy => hls y (List.mem_append_left _ hy)
              · rw [hRR]; exact mEnd_yes (y := yl) (by omega) hew
            · simp only [strValues, List.size_toArray, List.length_map] at hl2 ⊢
              rw [sizeLine_eq]
              omega
          · rename Txt.endswith _ _ = false => hew
            rename (_ : Int) ≠ 0 => hne
            show MidB _ _ _ _ _ _ _ _
            refine ⟨_, _, rfl, .inl ⟨rfl, ?_, Fr.keep F6⟩⟩
            rw [hRR]; exact mEnd_no (y := yl) (by omega) hew
          · rename (_ : Int) = 0 => hne
            refine ⟨_, _, rfl, .inr ⟨rfl, _, a, (t.length : Int), _, _, l6 ++ [(yl, tyl)], _, F6, N6, ?_, ?_, rfl, rfl, rfl, rfl, ?_⟩⟩
            · exact hl2
            · exact hls
            · rw [hRR, List.map_append]; exact mEnd_empty (y := yl) (by omega)
        · clear F6 N6 hRR hls hl2 hl1
          rintro f s' ⟨h, tk, rfl, ⟨rfl, hRf, kp⟩ | ⟨rfl, m5, a, b, ta, tb, l5, ep, F5, N5, hl2, hls, hws, hsp, hep, hgot, hRR⟩⟩
          · exact hret _ [] _ _ kp (fun _ hp => nomatch hp) ⟨by rw [hRf], rfl⟩
          · dsimp only
            replace F5 := frAs4 F5 hws hsp hep hgot
            walk_at "mine steps"
            · rename _ < _ => hlt
              refine hret _ [] _ _ (Fr.keep F5) (fun _ hp => nomatch hp) ⟨?_, rfl⟩
              rw [hRR, if_pos hlt]
            · rename ¬ _ < _ => hlt
              rw [if_neg hlt] at hRR
              refine wpAny_For ?_
              walk1
              refine for_list (L := L1) (items := (strValues l5).toArray) (ep := ep) (MatchJ h1.objs.size t t2 (matchS p t) b l5 ep) rfl F5 N5 rfl ?_ ?_ rfl rfl ?_ ?_ ?_
              · rintro i m₁ news₁ ⟨rfl, _⟩
                exact .head _
              · rintro i m₁ news₁ ⟨rfl, _⟩ p hp
                rcases List.mem_cons.mp hp with rfl | hp
                · exact Heap.lt_size (N5.get (.head _))
                · exact nomatch hp
              · exact ⟨rfl, a, _, _, rfl, rfl, rfl, hRR⟩
              · clear hRR
                rintro i v m₁ news₁ o h9 tk9 E' hv ⟨rfl, a9, ta9, tb9, hsp9, hep9, hgot9, hR9⟩ F9 N9
                have hv' : (strValues l5)[i]? = some v := by simpa using hv
                unfold strValues at hv'
                rw [List.getElem?_map] at hv'
                obtain ⟨⟨y9, ty9⟩, hy9, rfl⟩ := Option.map_eq_some_iff.mp hv'
                have hy9l : y9.length ≤ 1000 := hls _ (List.mem_of_getElem? hy9)
                have hdrop : l5.drop i = (y9, ty9) :: l5.drop (i + 1) := by
                  rw [List.drop_eq_getElem_cons (List.getElem?_eq_some_iff.mp hy9).1, (List.getElem?_eq_some_iff.mp hy9).2]
                rw [hdrop] at hR9
                dsimp only at F9 ⊢
                have F10 := frAs4 (x1 := Str.ofString "w") F9 (if_pos rfl) ((if_neg (by decide)).trans hsp9) ((if_neg (by decide)).trans hep9) ((if_neg (by decide)).trans hgot9)
                clear F9
                walk_at "mine steps"
                · rename find4 _ _ _ _ < 0 => hlt0
                  rename Fr _ _ _ _ => F11
                  refine hret _ [] _ _ (Fr.keep F11) (fun _ hp => nomatch hp) ⟨?_, rfl⟩
                  rw [hR9]
                  show _ = Value.bool (mLoop t b (y9 :: _) a9)
                  unfold mLoop
                  rw [if_pos hlt0]
                · rename ¬ find4 _ _ _ _ < 0 => hlt0
                  rename Fr _ _ _ _ => F11
                  rename News _ _ _ _ => N11
                  refine TurnEnd.next F11 N11 ⟨rfl, _, _, _, rfl, rfl, rfl, ?_⟩
                  rw [hR9]
                  show mLoop t b (y9 :: _) a9 = _
                  conv => lhs; unfold mLoop
                  rw [if_neg hlt0]
              · rintro m₁ news₁ h9 tk9 ⟨rfl, a9, ta9, tb9, hsp9, hep9, hgot9, hR9⟩ F9 N9
                dsimp only
                walk_at "mine steps"
                refine hret _ [] _ _ (Fr.keep F9) (fun _ hp => nomatch hp) ⟨?_, rfl⟩
                rw [hR9]
                have e : (strValues l5).toArray.size = l5.length := by simp [strValues]
                rw [e, List.drop_length]
                rfl
  · -- the assertion
    exfalso
    rename (Builtin.Str.occurrences _ _ _ _ _).isEmpty = false => hocc
    rename ¬ 2 ≤ (_ : Int) => h2l
    rename List.map _ _ = Txt.split _ _ => hlk
    have h5 := congrArg List.length hlk
    rw [List.length_map] at h5
    have := split_two p hocc
    have : (Txt.split p dots).length = (Txt.split p (Str.ofString "...")).length := rfl
    omega
end Mine
-- part PF
namespace Mine
open PySem.Builtin PySem.Builtin.Str
set_option maxRecDepth 100000
/-- a pattern's signs, three dots at once as none -/
def toks : List Nat → List (Option Nat)
  | [] => []
  | a :: r => match a, r with
    | 46, 46 :: 46 :: r' => none :: toks r'
    | a, r => some a :: toks r
theorem toks_nil : toks [] = [] := by unfold toks; rfl
theorem toks_dots (r : List Nat) : toks (46 :: 46 :: 46 :: r) = none :: toks r := by
  rw [toks]
theorem toks_sign (a : Nat) (r : List Nat) (h : (a :: r).take 3 ≠ [46, 46, 46]) : toks (a :: r) = some a :: toks r := by
  rw [toks]
  intro r' e1 e2
  subst e1 e2
  exact h rfl
/-- all places of the text at which the beginning can end -/
def fitGo (t : List Nat) : List (Option Nat) → List Nat → List Nat
  | [], ps => ps
  | none :: r, ps => fitGo t r (match ps with | [] => [] | a :: _ => List.range' a (t.length + 1 - a))
  | some c :: r, ps => fitGo t r ((ps.filter fun j => decide (t[j]? = some c)).map (· + 1))
def fitsS (p t : Str) : Bool := decide (t.length ∈ fitGo t.cps.toList (toks p.cps.toList) [0])
def nums (ns : List Nat) : List Int := ns.map Int.ofNat
theorem range_size (a b : Nat) (h : a ≤ b) : Builtin.Range.rangeSize (a : Int) ((b : Int) + 1) 1 = ((b + 1 - a : Nat) : Int) := by
  unfold Builtin.Range.rangeSize
  rw [if_pos (by decide), if_pos (by omega), Int.ediv_one]
  omega
theorem range_small (a b : Nat) (ha : a ≤ b) (hb : b ≤ 1000) : Builtin.Range.small (a : Int) ((b : Int) + 1) 1 = true := by
  unfold Builtin.Range.small
  rw [range_size a b ha]
  have f : ∀ x : Int, 0 ≤ x → x ≤ 2000 → Builtin.Range.rangeFitsLong x = true := by
    intro x h0 h1
    unfold Builtin.Range.rangeFitsLong
    simp only [Bool.and_eq_true, decide_eq_true_eq]
    omega
  rw [f _ (by omega) (by omega), f _ (by omega) (by omega), f _ (by omega) (by omega), f _ (by omega) (by omega), if_pos (by decide), f _ (by omega) (by omega)]
  simp
theorem range_nums (a n : Nat) : rangeInts (a : Int) 1 n = nums (List.range' a n) := by
  unfold rangeInts nums
  rw [List.range'_eq_map_range, List.map_map]
  apply List.map_congr_left
  intro i _
  simp
theorem fit_dots (t : List Nat) (p : List Nat) (k a : Nat) (r : List Nat) (h : (p.drop k).take 3 = [46, 46, 46]) :
    k + 3 ≤ p.length ∧ fitGo t (toks (p.drop k)) (a :: r) = fitGo t (toks (p.drop (k + 3))) (List.range' a (t.length + 1 - a)) ∧ fitGo t (toks (p.drop k)) [] = fitGo t (toks (p.drop (k + 3))) [] := by
  have hl := congrArg List.length h
  simp only [List.length_take, List.length_drop, List.length_cons, List.length_nil] at hl
  have e : p.drop k = 46 :: 46 :: 46 :: p.drop (k + 3) := by
    have h2 := List.take_append_drop 3 (p.drop k)
    rw [h, List.drop_drop] at h2
    rw [← h2]; rfl
  refine ⟨by omega, ?_, ?_⟩
  · rw [e, toks_dots]; rfl
  · rw [e, toks_dots]; rfl
theorem fit_sign (t : List Nat) (p : List Nat) (k c : Nat) (ps : List Nat) (hc : p[k]? = some c) (h : (p.drop k).take 3 ≠ [46, 46, 46]) :
    fitGo t (toks (p.drop k)) ps = fitGo t (toks (p.drop (k + 1))) ((ps.filter fun j => decide (t[j]? = some c)).map (· + 1)) := by
  have e : p.drop k = c :: p.drop (k + 1) := by
    rw [List.drop_eq_getElem_cons (List.getElem?_eq_some_iff.mp hc).1, (List.getElem?_eq_some_iff.mp hc).2]
  rw [e] at h ⊢
  rw [toks_sign _ _ h]; rfl
theorem fit_nil (t : List Nat) (c : Nat) : (([] : List Nat).filter fun j => decide (t[j]? = some c)).map (· + 1) = [] := rfl
theorem pick_range (x : Array Nat) : ∀ (c a : Nat), a + c ≤ x.size → ((List.range c).map fun (k : Nat) => ((a : Int) + 1 * (k : Int)).toNat).filterMap (x[·]?) = (x.toList.drop a).take c
  | 0, a, _ => by simp
  | c + 1, a, h => by
    rw [List.range_succ, List.map_append, List.filterMap_append, pick_range x c a (by omega)]
    have hlt : a + c < x.toList.length := by simp; omega
    have e : ((a : Int) + 1 * (c : Int)).toNat = a + c := by omega
    simp only [List.map_cons, List.map_nil, List.filterMap_cons, List.filterMap_nil, e]
    have e2 : x[a + c]? = some x.toList[a + c] := by
      rw [← Array.getElem?_toList]; exact List.getElem?_eq_getElem hlt
    rw [e2]
    have e3 : (x.toList.drop a).take (c + 1) = (x.toList.drop a).take c ++ [x.toList[a + c]] := by
      rw [List.take_add_one, List.getElem?_drop, List.getElem?_eq_getElem hlt]
      rfl
    rw [e3]
theorem slice_list (x : Str) (i j : Nat) : (Txt.slice x (some (i : Int)) (some (j : Int))).cps.toList = (x.cps.toList.drop i).take (j - i) := by
  have hs : x.cps.toList.length = x.length := by simp [Str.length]
  have key : (strSliceIndices (some (i : Int)) (some (j : Int)) 1 x.length) = (List.range (min j x.length - min i x.length)).map fun (k : Nat) => (((min i x.length : Nat) : Int) + 1 * (k : Int)).toNat := by
    unfold strSliceIndices sliceRange
    simp only [show (1 : Int) > 0 by decide, if_true]
    rw [if_neg (show ¬ (i : Int) < 0 by omega), if_neg (show ¬ (j : Int) < 0 by omega)]
    have e1 : max 0 (min (i : Int) (x.length : Int)) = ((min i x.length : Nat) : Int) := by omega
    have e2 : max 0 (min (j : Int) (x.length : Int)) = ((min j x.length : Nat) : Int) := by omega
    rw [e1, e2]
    split
    · have e3 : ((((min j x.length : Nat) : Int) - ((min i x.length : Nat) : Int) + 1 - 1) / 1).toNat = min j x.length - min i x.length := by
        rw [Int.ediv_one]; omega
      rw [e3]
    · have e3 : min j x.length - min i x.length = 0 := by omega
      rw [e3]; rfl
  have pick : ((strSliceIndices (some (i : Int)) (some (j : Int)) 1 x.length).filterMap (x.cps[·]?)) = (x.cps.toList.drop i).take (j - i) := by
    rw [key, pick_range x.cps _ _ (by show _ ≤ x.length; omega)]
    by_cases hi : i ≤ x.length
    · rw [Nat.min_eq_left hi]
      by_cases hj : j ≤ x.length
      · rw [Nat.min_eq_left hj]
      · rw [Nat.min_eq_right (by omega)]
        rw [List.take_of_length_le (by simp [hs]), List.take_of_length_le (by simp [hs]; omega)]
    · rw [List.drop_eq_nil_of_le (by omega : x.cps.toList.length ≤ i), List.drop_eq_nil_of_le (by omega)]
      simp
  unfold Txt.slice
  split
  · rename_i hc
    have hc' : (strSliceIndices (some (i : Int)) (some (j : Int)) 1 x.length).length = x.length := by simpa using hc
    rw [key] at hc'
    simp only [List.length_map, List.length_range] at hc'
    by_cases hx : x.length = 0
    · have : x.cps.toList = [] := List.eq_nil_of_length_eq_zero (by omega)
      rw [this]; simp
    · have hi : i = 0 := by omega
      subst hi
      rw [List.drop_zero, List.take_of_length_le (by omega)]
  · rw [← pick]
theorem slice_dots (x : Str) (k : Nat) : ((Txt.slice x (some (k : Int)) (some ((k : Int) + 3)) == Str.ofString "...") = true) ↔ (x.cps.toList.drop k).take 3 = [46, 46, 46] := by
  have e : ((k : Int) + 3) = ((k + 3 : Nat) : Int) := by omega
  rw [e, beq_iff_eq]
  have h := slice_list x k (k + 3)
  have e3 : k + 3 - k = 3 := by omega
  rw [e3] at h
  have ed : (Str.ofString "...").cps.toList = [46, 46, 46] := by decide +kernel
  constructor
  · intro q
    rw [← h, q, ed]
  · intro q
    rw [q] at h
    exact Str.ext' (Array.toList_inj.mp (h.trans ed.symm))
theorem slice_sign (x y : Str) (j : Nat) (k : Nat) (c : Nat) (hc : y.cps.toList[k]? = some c) : (Txt.slice x (some (j : Int)) (some ((j : Int) + 1)) == Txt.item y (k : Int)) = decide (x.cps.toList[j]? = some c) := by
  have e : ((j : Int) + 1) = ((j + 1 : Nat) : Int) := by omega
  have h := slice_list x j (j + 1)
  have e3 : j + 1 - j = 1 := by omega
  rw [e3] at h
  have hk : k < y.length := by
    have := (List.getElem?_eq_some_iff.mp hc).1
    simpa [Str.length] using this
  have ei : Txt.item y (k : Int) = ⟨#[c]⟩ := by
    unfold Txt.item Txt.charAt
    have : seqIndex? (k : Int) y.length = some k := by
      unfold seqIndex?
      rw [if_neg (show ¬ (k : Int) < 0 by omega), if_pos (by simp; omega)]
      simp
    rw [this]
    have hc2 : y.cps[k]? = some c := by rw [← Array.getElem?_toList]; exact hc
    simp [hc2]
  rw [e, ei]
  rw [Bool.eq_iff_iff, beq_iff_eq, decide_eq_true_eq]
  constructor
  · intro q
    rw [q] at h
    cases hx : x.cps.toList[j]? with
    | none =>
      rw [List.drop_eq_nil_of_le (by simpa using hx)] at h
      simp at h
    | some d =>
      rw [List.drop_eq_getElem_cons (List.getElem?_eq_some_iff.mp hx).1, (List.getElem?_eq_some_iff.mp hx).2] at h
      simp at h
      rw [h]
  · intro q
    rw [List.drop_eq_getElem_cons (List.getElem?_eq_some_iff.mp q).1, (List.getElem?_eq_some_iff.mp q).2] at h
    exact Str.ext' (Array.toList_inj.mp (by rw [h]; simp))
/-- ints and what the comprehension makes of them -/
theorem ints_paired (q : Nat → Bool) (pv : Value → Bool) (hq : ∀ (j : Nat) (tk : Tok), pv (.int (j : Int) tk) = q j) : ∀ (vs : List Value) (ns : List Nat) (ys : List Value), IntsAre vs (nums ns) →
    Paired (fun v y => ∀ i ti, v = .int i ti → ∃ tk, y = .int (i + 1) tk) (vs.filter pv) ys → IntsAre ys (nums ((ns.filter q).map (· + 1)))
  | [], [], ys, _, hp => by
    cases hp; exact .nil
  | [], n :: ns, ys, h, _ => by cases h
  | v :: vs, [], ys, h, _ => by cases h
  | v :: vs, n :: ns, ys, h, hp => by
    have h' : IntsAre (v :: vs) ((n : Int) :: nums ns) := h
    cases h' with
    | cons _ tk hr =>
      have ih := ints_paired q pv hq vs ns
      rw [List.filter_cons, hq n tk] at hp
      rw [List.filter_cons]
      cases hqn : q n with
      | false =>
        rw [hqn] at hp
        simp only [Bool.false_eq_true, if_false] at hp ⊢
        exact ih ys hr hp
      | true =>
        rw [hqn] at hp
        simp only [if_true] at hp ⊢
        cases hp with
        | cons h1 h2 =>
          obtain ⟨tk', rfl⟩ := h1 _ _ rfl
          exact .cons ((n : Int) + 1) tk' (ih _ hr h2)
theorem any_nums (ns : List Nat) (n : Nat) : ((nums ns).any fun x => x == (n : Int)) = decide (n ∈ ns) := by
  rw [Bool.eq_iff_iff, List.any_eq_true, decide_eq_true_eq]
  unfold nums
  constructor
  · rintro ⟨x, hx, he⟩
    obtain ⟨y, hy, rfl⟩ := List.mem_map.mp hx
    have : Int.ofNat y = (n : Int) := by simpa using he
    have : y = n := Int.ofNat.inj this
    exact this ▸ hy
  · intro h
    exact ⟨_, List.mem_map_of_mem h, by simp⟩
end Mine
-- part F2
namespace Mine
set_option maxRecDepth 100000
set_option maxHeartbeats 1000000
local macro_rules | `(tactic| walk_at "mine in") => `(tactic| (refine' enter ?k1 ?k2 ?k3 ?k5 ?kA ?kF ?kK ?k6 ?k7 ?k8 ?k9 ?kB ?_ ?c2 ?c3 ?c4 ?c5; (case kA => exact rfl); (case kF => assumption); (case kK => assumption); (case k1 => k_asm); (case k2 => k_asm); (case k3 => k_asm); (case k5 => k_asm); (case k6 => k_is); (case k7 => k_is); (case k8 => ktr_room); (case k9 => exact BindsTo.of_eq rfl); (case c5 => decide); (case kB => exact locs rfl); (case c2 => exact rfl); (case c3 => exact rfl); (case c4 => exact rfl); k_whole))
local macro_rules | `(tactic| walk_at "mine inC") => `(tactic| (refine' enterC ?k1 ?k2 ?k3 ?k5 ?kA ?kF ?kK ?k6 ?k7 ?k8 ?k9 ?kB ?kD ?_ ?c2 ?c3 ?c4; (case kA => exact rfl); (case kF => assumption); (case kK => assumption); (case k1 => k_asm); (case k2 => k_asm); (case k3 => k_asm); (case k5 => k_asm); (case k6 => k_is); (case k7 => k_is); (case k8 => ktr_room); (case k9 => exact BindsTo.of_eq rfl); (case kB => exact rfl); (case kD => decide +kernel); (case c2 => exact rfl); (case c3 => exact rfl); (case c4 => exact rfl); k_whole))
local macro_rules | `(tactic| walk_at "mine guard") => `(tactic| ((fail_if_success (with_reducible show wpAny _ _ (exec (Stmt.While _ _ _ _) _) _ _ _)); (fail_if_success (with_reducible show wpAny _ _ (exec (Stmt.For _ _ _ _ _) _) _ _ _))))
local macro_rules | `(tactic| walk_at "mine guardI") => `(tactic| ((fail_if_success (with_reducible show wpAny _ _ (exec (Stmt.If _ _ _ _) _) _ _ _)); (fail_if_success (with_reducible show wpAny _ _ (exec (Stmt.While _ _ _ _) _) _ _ _)); (fail_if_success (with_reducible show wpAny _ _ (exec (Stmt.For _ _ _ _ _) _) _ _ _))))
local macro_rules | `(tactic| walk_at "mine steps") => `(tactic| repeat' (first | (k_unfold; (try dsimp only)) | (walk_at "mine guard"; walk1) | (dsimp only; walk_at "mine guard"; walk1)))
local macro_rules | `(tactic| walk_at "mine stepsI") => `(tactic| repeat' (first | (k_unfold; (try dsimp only)) | (walk_at "mine guardI"; walk1) | (dsimp only; walk_at "mine guardI"; walk1)))
local macro_rules | `(tactic| walk_at "mine stepsC") => `(tactic| repeat' (first | (k_unfold; (try dsimp only)) | ((fail_if_success (with_reducible show wpAny _ _ (exec (Stmt.Assign _ (Expr.ListComp _ _ _ _) _) _) _ _ _)); walk_at "mine guard"; walk1) | (dsimp only; (fail_if_success (with_reducible show wpAny _ _ (exec (Stmt.Assign _ (Expr.ListComp _ _ _ _) _) _) _ _ _)); walk_at "mine guard"; walk1)))
set_option pp.deepTerms false
set_option pp.deepTerms.threshold 5
section
variable {prog : Program} {w : World} {A : Around} {E : Value → Shared → Prop} {s : Shared} {h₀ : Heap} {L : Addr} {news : Led}
theorem truthy_nil {l : Addr} {ep : Nat} {Q : Bool → Shared → Prop} (N : News h₀ L s.heap news) (hm : (l, W.listOf ([] : List Value).toArray ep) ∈ news) (h : Q false { s with toks := s.toks + 1 + 1 }) : wpAny (model prog w) A (truthy (.ref l)) Q E s :=
  wpAny_truthy_list (items := ([] : List Value).toArray) ⟨_, N.get hm, rfl, _, rfl⟩ (by decide) h
theorem truthy_cons {l : Addr} {ep : Nat} {v : Value} {vs : List Value} {Q : Bool → Shared → Prop} (N : News h₀ L s.heap news) (hm : (l, W.listOf (v :: vs).toArray ep) ∈ news) (hl : (v :: vs).length ≤ 1001) (h : Q true { s with toks := s.toks + 1 + 1 }) : wpAny (model prog w) A (truthy (.ref l)) Q E s :=
  wpAny_truthy_list (items := (v :: vs).toArray) ⟨_, N.get hm, rfl, _, rfl⟩ (by rw [List.size_toArray]; omega) h
end
local macro_rules | `(tactic| walk_at "truthy ref") => `(tactic| first | (refine truthy_nil (by assumption) (by k_mem) ?_) | (refine truthy_cons (by assumption) (by k_mem) (by assumption) ?_))
/-- between two turns of the loop of fits -/
def FitsJ (L : Nat) (p t : Str) (t1 t2 : Tok) (n : Nat) (m : Str → Option Value) (news : Led) : Prop :=
  ∃ (l : Nat) (ns : List Nat) (k : Nat) (kt : Tok) (vs : List Value) (o1 o2 o3 : Obj) (ep : Nat),
    news = [(l, W.listOf vs.toArray ep), (L+1+1+1, o1), (L+1+1, o2), (L+1, o3)] ∧ (l ≠ L + 1 + 1 + 1 ∧ l ≠ L + 1 + 1 ∧ l ≠ L + 1) ∧
    o1.data = .cell (some (.int (k : Int) kt)) ∧ o2.data = .cell (some (.str t t2)) ∧ o3.data = .cell (some (.str p t1)) ∧
    m (Str.ofString "places") = some (.ref l) ∧ IntsAre vs (nums ns) ∧ (∀ x ∈ ns, x ≤ t.length) ∧ ns.length ≤ t.length + 1 ∧ k ≤ p.length ∧ n = p.length - k ∧
    fitGo t.cps.toList (toks (p.cps.toList.drop k)) ns = fitGo t.cps.toList (toks p.cps.toList) [0]
theorem fits_next {g h : Heap} {L l : Nat} {old : Addr × Obj} {m : Str → Option Value} {s : Shared} {Q : Flow → Shared → Prop} {n tk : Nat} {p t : Str} {t1 t2 kt : Tok} {ns : List Nat} {k : Nat} {vs : List Value} {o1 o2 o3 : Obj} {ep : Nat}
    (F : Fr g L h m) (N : News g L h [(l, W.listOf vs.toArray ep), old, (L+1+1+1, o1), (L+1+1, o2), (L+1, o3)]) (hl : l ≠ L + 1 + 1 + 1 ∧ l ≠ L + 1 + 1 ∧ l ≠ L + 1)
    (d1 : o1.data = .cell (some (.int (k : Int) kt))) (d2 : o2.data = .cell (some (.str t t2))) (d3 : o3.data = .cell (some (.str p t1)))
    (hm : m (Str.ofString "places") = some (.ref l)) (hi : IntsAre vs (nums ns)) (hb : ∀ x ∈ ns, x ≤ t.length) (hlen : ns.length ≤ t.length + 1) (hk : k ≤ p.length) (hn : p.length - k < n)
    (hI : fitGo t.cps.toList (toks (p.cps.toList.drop k)) ns = fitGo t.cps.toList (toks p.cps.toList) [0]) :
    WhileStep2 g L s (FitsJ L p t t1 t2) Q n .next { s with heap := h, toks := tk } := by
  refine ⟨h, tk, m, [(l, W.listOf vs.toArray ep), (L+1+1+1, o1), (L+1+1, o2), (L+1, o3)], p.length - k, rfl, F, newsSub N ?_, hn, ⟨l, ns, k, kt, vs, o1, o2, o3, ep, rfl, hl, d1, d2, d3, hm, hi, hb, hlen, hk, rfl, hI⟩⟩
  intro q hq
  simp only [List.mem_cons, List.not_mem_nil, or_false] at hq ⊢
  rcases hq with rfl | rfl | rfl | rfl <;> simp
theorem fits_spec (w : World) (p t : Str) (t1 t2 : Tok) (hpl : p.length ≤ 1000) (htl : t.length ≤ 1000) :
    Spec w 68 1 20 (fun _ => True) [.str p t1, .str t t2] (fun r tl => r = .bool (fitsS p t) ∧ tl = []) := by
  unfold Spec
  w_top off
  k_fill
  intro mean mg mb dp un gd env outer A₀ base h₀ L m s Q E B F X T hf hk hp hd hu hret
  refine wpAny_call ?_
  k_dflt (walk_at "mine inC")
  intro L1 h1 tk1 cells1 KP F1 N1 Y1 B1 X1 T1
  k_cells Y1
  try dsimp only
  try k_fold
  walk_at "mine steps"
  rename Fr _ _ _ _ => F2
  rename News _ _ _ _ => N2
  refine While_inv2 (FitsJ L1 p t t1 t2) (n₀ := p.length) F2 N2 ?_ ?_
  · rename _ = Data.cell (some (Value.int 0 _)) => d9
    refine ⟨_, [0], 0, _, [.int 0 tk1], _, _, _, _, rfl, ?_, d9, ?_, ?_, rfl, .cons _ _ .nil, ?_, ?_, ?_, rfl, rfl⟩
    · omega
    · assumption
    · assumption
    · intro x hx; simp at hx; omega
    · simp
    · omega
  · clear F2 N2
    rintro n m1 news1 h1 tk1 F1 N1 ⟨l, ns, k, kt, vs, o1, o2, o3, ep, rfl, hl, d1, d2, d3, hm, hints, hb, hlen, hk2, hn, hI⟩
    replace F1 := frAs F1 hm
    have hvl : vs.length ≤ 1001 := by
      have := hints.length
      simp only [nums, List.length_map] at this
      omega
    rcases vs with _ | ⟨v, vs⟩
    · have hns : ns = [] := by
        cases ns with
        | nil => rfl
        | cons a r => cases hints
      subst hns
      walk_at "mine steps"
      · rename (_ == Str.ofString "...") = true => hdots
        rename Fr _ _ _ _ => F5
        rename News _ _ _ _ => N5
        rename _ = Data.cell (some (Value.int _ _)) => d5
        have hd3 := (slice_dots p k).mp hdots
        have hfd := fit_dots t.cps.toList p.cps.toList k 0 [] hd3
        have hpl2 : p.cps.toList.length = p.length := by simp [Str.length]
        refine fits_next (k := k + 3) (ns := []) (vs := []) F5 N5 (by omega) d5 d2 d3 rfl .nil (fun x hx => nomatch hx) (by simp) (by omega) (by omega) ?_
        rw [← hI, hfd.2.2]
      · rename (_ == Str.ofString "...") = false => hdots
        rename Fr _ _ _ _ => F5
        rename News _ _ _ _ => N5
        rename _ = Data.cell (some (Value.int _ _)) => d5
        have hpl2 : p.cps.toList.length = p.length := by simp [Str.length]
        obtain ⟨c, hc⟩ : ∃ c, p.cps.toList[k]? = some c := ⟨p.cps.toList[k]'(by omega), List.getElem?_eq_getElem _⟩
        have hfs := fit_sign t.cps.toList p.cps.toList k c [] hc (fun q => by rw [(slice_dots p k).mpr q] at hdots; cases hdots)
        refine fits_next (k := k + 1) (ns := []) (vs := []) F5 N5 (by omega) d5 d2 d3 rfl .nil (fun x hx => nomatch hx) (by simp) (by omega) (by omega) ?_
        rw [← hI, hfs]; rfl
      · refine hret _ [] _ _ (Fr.keep F1) (fun _ hp => nomatch hp) ⟨?_, rfl⟩
        have hpl2 : p.cps.toList.length = p.length := by simp [Str.length]
        have hkk : k = p.length := by omega
        subst hkk
        rw [← hpl2, List.drop_length, toks_nil] at hI
        unfold fitsS
        rw [← hI]
        rfl
    · obtain ⟨n0, ns, rfl⟩ : ∃ a r, ns = a :: r := by
        cases ns with
        | nil => cases hints
        | cons a r => exact ⟨a, r, rfl⟩
      obtain ⟨v0, rfl⟩ : ∃ tk, v = .int (n0 : Int) tk := by cases hints; exact ⟨_, rfl⟩
      have hpl2 : p.cps.toList.length = p.length := by simp [Str.length]
      have htl2 : t.cps.toList.length = t.length := by simp [Str.length]
      walk_at "mine stepsC"
      · -- list(range(..))
        rename IsRange _ _ _ _ _ _ _ _ => hr
        rename Fr _ _ _ _ => F5
        rename News _ _ _ _ => N5
        rename (_ == Str.ofString "...") = true => hdots
        have hn0 : n0 ≤ t.length := hb n0 (.head _)
        have hd3 := (slice_dots p k).mp hdots
        have hfd := fit_dots t.cps.toList p.cps.toList k n0 ns hd3
        refine list_rangeD (n := t.length + 1 - n0) rfl F5 N5 hr (range_small n0 t.length hn0 htl) (range_size n0 t.length hn0) (by omega) ?_
        intro h7 tk7 ys F7 N7 kp7 hfree hl7 hpl7 hc7
        obtain ⟨⟨ep7, hp7⟩, hoff7⟩ := hpl7
        have N8 := newsMore F7 N7 hp7 hfree (hne := Nat.ne_of_gt F5.ns.lt)
        have hof1 := hoff7 (L1+1+1+1, o1) (by simp)
        have hof2 := hoff7 (L1+1+1, o2) (by simp)
        have hof3 := hoff7 (L1+1, o3) (by simp)
        have hi7 := IntsAre.ofCarried hc7
        rw [range_nums] at hi7
        have hlt7 := Heap.lt_size (N5.get (.head _))
        clear hl7 hc7
        walk_at "mine steps"
        rename Fr _ _ _ _ => F9
        rename News _ _ _ _ => N9
        rename _ = Data.cell (some (Value.int _ _)) => d9
        refine fits_next (k := k + 3) F9 N9 ⟨hof1.symm, hof2.symm, hof3.symm⟩ d9 d2 d3 rfl hi7 ?_ ?_ ?_ ?_ ?_
        · intro x hx
          have := List.mem_range'_1.mp hx
          omega
        · simp only [List.length_range']; omega
        · omega
        · omega
        · rw [← hI, hfd.2.1, htl2]
      · -- the comprehension
        rename (_ == Str.ofString "...") = false => hdots
        rename Fr _ _ _ _ => F5
        rename News _ _ _ _ => N5
        rename Heap => H5
        have hkp : k < p.length := by omega
        obtain ⟨c, hc⟩ : ∃ c, p.cps.toList[k]? = some c := ⟨p.cps.toList[k]'(by omega), List.getElem?_eq_getElem _⟩
        have hfs := fit_sign t.cps.toList p.cps.toList k c (n0 :: ns) hc (fun q => by rw [(slice_dots p k).mpr q] at hdots; cases hdots)
        refine wpAny_Assign_ListComp_free (p := fun v => match v with | .int i _ => decide (t.cps.toList[i.toNat]? = some c) | _ => false) (F := fun v y => ∀ i ti, v = .int i ti → ∃ tk, y = .int (i + 1) tk)
          (by with_unfolding_all rfl) (by with_unfolding_all rfl) (by decide) (by rfl) (by decide) (by rfl) (by rfl) (by rfl) ?_
        walk1
        have gl := N5.get (List.Mem.head _)
        have g1 := N5.get (.tail _ (.head _))
        have g2 := N5.get (.tail _ (.tail _ (.head _)))
        have g3 := N5.get (.tail _ (.tail _ (.tail _ (.head _))))
        have item : ∀ (i : Nat) (v : Value), (Value.int (n0 : Int) v0 :: vs).toArray[i]? = some v → ∃ (j : Nat) (tj : Tok), v = .int (j : Int) tj := by
          intro i v hv
          have hv' : (Value.int (n0 : Int) v0 :: vs)[i]? = some v := by simpa using hv
          have hi2 : i < (n0 :: ns).length := by
            have h5 := hints.length
            simp only [nums, List.length_map] at h5
            have h6 := (List.getElem?_eq_some_iff.mp hv').1
            omega
          have hi3 : (nums (n0 :: ns))[i]? = some (((n0 :: ns)[i] : Nat) : Int) := by
            unfold nums
            rw [List.getElem?_map, List.getElem?_eq_getElem hi2]; rfl
          obtain ⟨tj, hg⟩ := hints.get i _ hi3
          rw [hv'] at hg
          exact ⟨_, tj, Option.some.inj hg⟩
        refine wpAny_pyIter_list (items := (Value.int (n0 : Int) v0 :: vs).toArray) ⟨_, gl, rfl, _, rfl⟩ ?_
        refine ⟨_, _, _, _, _, _, _, rfl, Walks.list rfl _ l (Nat.ne_of_lt (Heap.lt_size gl)) (Value.int (n0 : Int) v0 :: vs).toArray, ?_, ⟨⟨_, Heap.get?_push_size _ rfl, rfl, rfl⟩, ⟨_, Heap.get?_push_of_some _ gl, rfl, _, rfl⟩⟩, ?_, ?_, (F5.push _).ns, ⟨?_, ?_⟩, ?_⟩
        · rw [sizeLine_eq, List.size_toArray]; omega
        · intro b hb
          simp only [List.mem_cons, List.not_mem_nil, or_false] at hb
          have := Heap.lt_size gl
          rw [Heap.size_push]
          rcases hb with rfl | rfl
          · exact Nat.lt_succ_self _
          · exact Nat.lt_succ_of_lt this
        · intro hb
          simp only [List.mem_cons, List.not_mem_nil, or_false] at hb
          have := F5.ns.lt
          exact absurd (hb : L1 = _) (Nat.ne_of_lt this)
        · intro C i v s₃ m₃ E' hC hP hns hmv hkeep htk
          obtain ⟨j, tj, rfl⟩ := item i v hP
          have q1 := hkeep _ _ (by simp only [List.mem_singleton]; exact Nat.ne_of_lt (Heap.lt_size g1)) (Heap.get?_push_of_some _ g1)
          have q2 := hkeep _ _ (by simp only [List.mem_singleton]; exact Nat.ne_of_lt (Heap.lt_size g2)) (Heap.get?_push_of_some _ g2)
          have q3 := hkeep _ _ (by simp only [List.mem_singleton]; exact Nat.ne_of_lt (Heap.lt_size g3)) (Heap.get?_push_of_some _ g3)
          refine wpAny_tests_one ?_
          refine wpAny_isTrue_Compare1 ?_
          refine wpAny_Subscript_str_slice ?_
          refine wpAny_Name (wpAny_loadName_cell (by rfl) (by rfl) (by rfl) ⟨o2, q2, d2⟩ ?_)
          refine evalPart_some_step (wpAny_Name (wpAny_loadName_local (by rfl) (by rfl) hns hmv ?_))
          refine evalPart_some_step (wpAny_BinOp (wpAny_Name (wpAny_loadName_local (by rfl) (by rfl) hns hmv (wpAny_Constant_int (add_int ?_)))))
          refine ⟨t, t2, some (_, _), some (_, _), rfl, rfl, rfl, post_val_or_str ⟨Nat.le_trans (Txt.slice_le t _ _) (by rw [sizeLine_eq]; omega), fun t' k' => ?_⟩⟩
          refine Subscript_ (wpAny_Name (wpAny_loadName_cell (by rfl) (by rfl) (by rfl) ⟨o3, Heap.get?_push_of_some _ q3, d3⟩ (wpAny_Name (wpAny_loadName_cell (by rfl) (by rfl) (by rfl) ⟨o1, Heap.get?_push_of_some _ q1, d1⟩ ?_))))
          refine item_str (fitsSsize_of (N := 9223372036854775808) (by omega) (by omega) (Int.le_refl _)) (by omega) (by omega) ?_
          intro _
          refine eq_str (wpAny_truthy_bool ⟨?_, ?_⟩)
          · exact slice_sign t p j k c hc
          · exact ⟨_, _, rfl, fun b o e => Heap.get?_push_of_some _ e⟩
        · intro C i v s₃ m₃ E' hC hP hpv hns hmv hkeep htk
          obtain ⟨j, tj, rfl⟩ := item i v hP
          refine wpAny_BinOp (wpAny_Name (wpAny_loadName_local (by rfl) (by rfl) hns hmv (wpAny_Constant_int (add_int ⟨?_, ?_⟩))))
          · rintro i' ti' e
            cases e
            exact ⟨_, rfl⟩
          · exact ⟨_, _, rfl, fun b o e => e⟩
        · intro D h' tk' ys vs' hD hlD hplD hlen' hP hF hns hkeep
          obtain ⟨epD, hoD⟩ := hplD
          have old : ∀ b o, b ≠ L1 → b ∉ [H5.objs.size] → H5.get? b = some o → h'.get? b = some o := fun b o hb hb2 e => hkeep b o hb hb2 (Heap.get?_push_of_some _ e)
          have notI : ∀ b o, H5.get? b = some o → b ∉ [H5.objs.size] := fun b o e => by simp only [List.mem_singleton]; exact Nat.ne_of_lt (Heap.lt_size e)
          have fresh : ∀ b o, H5.get? b = some o → b ≠ D := fun b o e q => by
            have e2 := Heap.get?_push_of_some { cls := .type "list_iterator", data := .fields #[.ref l, .int 0 0] } e
            rw [q] at e2
            have hD2 := hD
            rw [e2] at hD2
            cases hD2
          have F8 : Fr s.heap L1 h' _ := ⟨hns, fun b o e => old b o (Nat.ne_of_lt (Nat.lt_of_lt_of_le (Heap.lt_size e) F5.above)) (notI b o (F5.keep b o e)) (F5.keep b o e), F5.above⟩
          have N8 : News s.heap L1 h' [(l, W.listOf (Value.int (n0 : Int) v0 :: vs).toArray ep), (L1+1+1+1, o1), (L1+1+1, o2), (L1+1, o3)] := fun q hq => ⟨old _ _ (N5 q hq).2.1 (notI _ _ (N5 q hq).1) (N5 q hq).1, (N5 q hq).2⟩
          have hDL : D ≠ L1 := by
            obtain ⟨oL, _, _, hL, _⟩ := F5.ns
            exact (fresh _ _ hL).symm
          have hD0 : s.heap.get? D = none := by
            cases q : s.heap.get? D with
            | none => rfl
            | some o => exact absurd rfl (fresh _ _ (F5.keep _ _ q))
          have N9 := newsMore F8 N8 hoD hD0 (hne := hDL)
          have hvs' : vs' = Value.int (n0 : Int) v0 :: vs := by
            apply List.ext_getElem?
            intro j
            cases q : vs'[j]? with
            | some v =>
              have := hP j v q
              simpa using this.symm
            | none =>
              have : vs'.length ≤ j := by simpa using q
              rw [hlen'] at this
              simp only [List.size_toArray] at this
              exact (List.getElem?_eq_none this).symm
          rw [hvs'] at hF
          have hi8 := ints_paired (fun j => decide (t.cps.toList[j]? = some c)) _ (fun j tk => rfl) _ (n0 :: ns) ys.toList hints hF
          have hof1 := fresh _ _ g1
          have hof2 := fresh _ _ g2
          have hof3 := fresh _ _ g3
          clear hF hvs' hkeep hns hlD F5 N5 old notI
          dsimp only
          walk_at "mine steps"
          rename Fr _ _ _ _ => F10
          rename News _ _ _ _ => N10
          rename _ = Data.cell (some (Value.int _ _)) => d10
          refine fits_next (k := k + 1) (vs := ys.toList) F10 N10 ⟨hof1.symm, hof2.symm, hof3.symm⟩ d10 d2 d3 rfl hi8 ?_ ?_ ?_ ?_ ?_
          · intro x hx
            obtain ⟨j, hj, rfl⟩ := List.mem_map.mp hx
            have h5 := of_decide_eq_true (List.mem_filter.mp hj).2
            have h6 := (List.getElem?_eq_some_iff.mp h5).1
            omega
          · rw [List.length_map]
            exact Nat.le_trans (List.length_filter_le _ _) hlen
          · omega
          · omega
          · rw [← hI, hfs]
      · refine hret _ [] _ _ (Fr.keep F1) (fun _ hp => nomatch hp) ⟨?_, rfl⟩
        have hkk : k = p.length := by omega
        subst hkk
        rw [← hpl2, List.drop_length, toks_nil] at hI
        rw [any_nums]
        unfold fitsS
        rw [← hI]
        rfl
end Mine
-- part T3
namespace Mine
set_option maxRecDepth 100000
set_option maxHeartbeats 1000000
local macro_rules | `(tactic| walk_at "mine in") => `(tactic| (refine' enter ?k1 ?k2 ?k3 ?k5 ?kA ?kF ?kK ?k6 ?k7 ?k8 ?k9 ?kB ?_ ?c2 ?c3 ?c4 ?c5; (case kA => exact rfl); (case kF => assumption); (case kK => assumption); (case k1 => k_asm); (case k2 => k_asm); (case k3 => k_asm); (case k5 => k_asm); (case k6 => k_is); (case k7 => k_is); (case k8 => ktr_room); (case k9 => exact BindsTo.of_eq rfl); (case c5 => decide); (case kB => exact locs rfl); (case c2 => exact rfl); (case c3 => exact rfl); (case c4 => exact rfl); k_whole))
local macro_rules | `(tactic| walk_at "mine inC") => `(tactic| (refine' enterC ?k1 ?k2 ?k3 ?k5 ?kA ?kF ?kK ?k6 ?k7 ?k8 ?k9 ?kB ?kD ?_ ?c2 ?c3 ?c4; (case kA => exact rfl); (case kF => assumption); (case kK => assumption); (case k1 => k_asm); (case k2 => k_asm); (case k3 => k_asm); (case k5 => k_asm); (case k6 => k_is); (case k7 => k_is); (case k8 => ktr_room); (case k9 => exact BindsTo.of_eq rfl); (case kB => exact rfl); (case kD => decide +kernel); (case c2 => exact rfl); (case c3 => exact rfl); (case c4 => exact rfl); k_whole))
local macro_rules | `(tactic| walk_at "mine guard") => `(tactic| ((fail_if_success (with_reducible show wpAny _ _ (exec (Stmt.While _ _ _ _) _) _ _ _)); (fail_if_success (with_reducible show wpAny _ _ (exec (Stmt.For _ _ _ _ _) _) _ _ _))))
local macro_rules | `(tactic| walk_at "mine guardI") => `(tactic| ((fail_if_success (with_reducible show wpAny _ _ (exec (Stmt.If _ _ _ _) _) _ _ _)); (fail_if_success (with_reducible show wpAny _ _ (exec (Stmt.While _ _ _ _) _) _ _ _)); (fail_if_success (with_reducible show wpAny _ _ (exec (Stmt.For _ _ _ _ _) _) _ _ _))))
local macro_rules | `(tactic| walk_at "mine steps") => `(tactic| repeat' (first | (k_unfold; (try dsimp only)) | (walk_at "mine guard"; walk1) | (dsimp only; walk_at "mine guard"; walk1)))
local macro_rules | `(tactic| walk_at "mine stepsI") => `(tactic| repeat' (first | (k_unfold; (try dsimp only)) | (walk_at "mine guardI"; walk1) | (dsimp only; walk_at "mine guardI"; walk1)))
local macro_rules | `(tactic| walk_at "mine stepsC") => `(tactic| repeat' (first | (k_unfold; (try dsimp only)) | ((fail_if_success (with_reducible show wpAny _ _ (exec (Stmt.Assign _ (Expr.ListComp _ _ _ _) _) _) _ _ _)); walk_at "mine guard"; walk1) | (dsimp only; (fail_if_success (with_reducible show wpAny _ _ (exec (Stmt.Assign _ (Expr.ListComp _ _ _ _) _) _) _ _ _)); walk_at "mine guard"; walk1)))
set_option pp.deepTerms false
set_option pp.deepTerms.threshold 5
abbrev tupO (vs : List Value) : Obj := { cls := .type "tuple", data := .seq vs.toArray }
theorem strIs {x y : Str} {t : Tok} (e : x = y) : ∃ n, Value.str x t = Value.str y n := ⟨t, by rw [e]⟩
theorem freshOf {g h : Heap} {L : Addr} {tl : Led} (N : News g L h tl) : Fresh g h tl := fun p hp => ⟨(N p hp).1, (N p hp).2.2⟩
/-- a function of the law, or a pattern: kind, file, line, name -/
structure One where
  kind : Str
  file : Str
  line : Int
  name : Str
def OneObj (o : One) (ob : Obj) : Prop := ∃ k1 k2 k3 k4, ob = tupO [.str o.kind k1, .str o.file k2, .int o.line k3, .str o.name k4]
def OneAt (o : One) (a : Addr) (h : Heap) : Prop := ∃ ob, h.get? a = some ob ∧ OneObj o ob
def One.Ok (o : One) : Prop := o.file.length ≤ 100 ∧ o.name.length ≤ 100 ∧ o.line.natAbs < 10 ^ 14
def tripleName (o : One) : Str := if o.kind == Str.ofString "braces" then Str.ofString "<" ++ o.name ++ Str.ofString ">" else o.name
def intS (i : Int) : Str := Str.ofString (toString i)
def textS (o : One) : Str :=
  if o.kind == Str.ofString "row" then o.file ++ Str.ofString ":" ++ intS o.line ++ Str.ofString "(" ++ o.name ++ Str.ofString ")"
  else if o.kind == Str.ofString "braces" then Str.ofString "{" ++ o.name ++ Str.ofString "}" else o.name
theorem triple_spec (w : World) (a : Addr) (o : One) (ho : o.Ok) :
    Spec w 56 1 20 (OneAt o a) [.ref a]
      (fun r tl => ∃ b n1 n2 n3, r = .ref b ∧ tl = [(b, tupO [.str o.file n1, .int o.line n2, .str (tripleName o) n3])]) := by
  obtain ⟨kind, file, line, name⟩ := o
  obtain ⟨hfl, hnl, hll⟩ := ho
  dsimp only at hfl hnl hll
  unfold Spec
  w_top off
  k_fill
  rintro mean mg mb dp un gd env outer A₀ base h₀ L m s Q E B F X T hf hk ⟨ob, hob, k1, k2, k3, k4, rfl⟩ hd hu hret
  dsimp only at hob
  have hT : IsTup s.heap a [.str kind k1, .str file k2, .int line k3, .str name k4].toArray := ⟨_, hob, rfl, _, rfl⟩
  refine wpAny_call ?_
  k_dflt (walk_at "mine in")
  intro L1 h1 KP F1 N1 B1 X1 T1
  try dsimp only
  try k_fold
  walk_at "mine steps"
  · rename Fr _ _ _ _ => F9
    rename News _ _ _ _ => N9
    rename (_ == Str.ofString "braces") = true => hb
    have hx : tripleName ⟨kind, file, line, name⟩ = Str.ofString "<" ++ name ++ Str.ofString ">" := by unfold tripleName; rw [if_pos hb]
    simp only [hx] at hret
    exact hret _ _ _ _ (Fr.keep F9) (freshOf N9) ⟨_, _, _, _, rfl, rfl⟩
  · rename Fr _ _ _ _ => F9
    rename News _ _ _ _ => N9
    rename (_ == Str.ofString "braces") = false => hb
    have hx : tripleName ⟨kind, file, line, name⟩ = name := by unfold tripleName; rw [if_neg (by show ¬ (kind == Str.ofString "braces") = true; rw [hb]; decide)]
    simp only [hx] at hret
    exact hret _ _ _ _ (Fr.keep F9) (freshOf N9) ⟨_, _, _, _, rfl, rfl⟩
theorem text_spec (w : World) (a : Addr) (o : One) (ho : o.Ok) :
    Spec w 63 1 20 (OneAt o a) [.ref a] (fun r tl => (∃ n, r = .str (textS o) n) ∧ tl = []) := by
  obtain ⟨kind, file, line, name⟩ := o
  obtain ⟨hfl, hnl, hll⟩ := ho
  dsimp only at hfl hnl hll
  unfold Spec
  w_top off
  k_fill
  rintro mean mg mb dp un gd env outer A₀ base h₀ L m s Q E B F X T hf hk ⟨ob, hob, k1, k2, k3, k4, rfl⟩ hd hu hret
  dsimp only at hob
  have hT : IsTup s.heap a [.str kind k1, .str file k2, .int line k3, .str name k4].toArray := ⟨_, hob, rfl, _, rfl⟩
  refine wpAny_call ?_
  k_dflt (walk_at "mine in")
  intro L1 h1 KP F1 N1 B1 X1 T1
  try dsimp only
  try k_fold
  walk_at "mine steps"
  · rename Fr _ _ _ _ => F9
    rename (_ == Str.ofString "row") = true => hb
    refine hret _ [] _ _ (Fr.keep F9) (fun _ hp => nomatch hp) ⟨strIs ?_, rfl⟩
    unfold textS
    rw [if_pos hb]
    rfl
  · rename Fr _ _ _ _ => F9
    rename (_ == Str.ofString "row") = false => hb
    rename (_ == Str.ofString "braces") = true => hb2
    refine hret _ [] _ _ (Fr.keep F9) (fun _ hp => nomatch hp) ⟨strIs ?_, rfl⟩
    unfold textS
    rw [if_neg (by show ¬ (kind == Str.ofString "row") = true; rw [hb]; decide), if_pos hb2]
  · rename Fr _ _ _ _ => F9
    rename (_ == Str.ofString "row") = false => hb
    rename (_ == Str.ofString "braces") = false => hb2
    refine hret _ [] _ _ (Fr.keep F9) (fun _ hp => nomatch hp) ⟨strIs ?_, rfl⟩
    unfold textS
    rw [if_neg (by show ¬ (kind == Str.ofString "row") = true; rw [hb]; decide), if_neg (by show ¬ (kind == Str.ofString "braces") = true; rw [hb2]; decide)]
end Mine
-- part G3
namespace Mine
set_option maxRecDepth 100000
set_option maxHeartbeats 1000000
local macro_rules | `(tactic| walk_at "mine in") => `(tactic| (refine' enter ?k1 ?k2 ?k3 ?k5 ?kA ?kF ?kK ?k6 ?k7 ?k8 ?k9 ?kB ?_ ?c2 ?c3 ?c4 ?c5; (case kA => exact rfl); (case kF => assumption); (case kK => assumption); (case k1 => k_asm); (case k2 => k_asm); (case k3 => k_asm); (case k5 => k_asm); (case k6 => k_is); (case k7 => k_is); (case k8 => ktr_room); (case k9 => exact BindsTo.of_eq rfl); (case c5 => decide); (case kB => exact locs rfl); (case c2 => exact rfl); (case c3 => exact rfl); (case c4 => exact rfl); k_whole))
local macro_rules | `(tactic| walk_at "mine inC") => `(tactic| (refine' enterC ?k1 ?k2 ?k3 ?k5 ?kA ?kF ?kK ?k6 ?k7 ?k8 ?k9 ?kB ?kD ?_ ?c2 ?c3 ?c4; (case kA => exact rfl); (case kF => assumption); (case kK => assumption); (case k1 => k_asm); (case k2 => k_asm); (case k3 => k_asm); (case k5 => k_asm); (case k6 => k_is); (case k7 => k_is); (case k8 => ktr_room); (case k9 => exact BindsTo.of_eq rfl); (case kB => exact rfl); (case kD => decide +kernel); (case c2 => exact rfl); (case c3 => exact rfl); (case c4 => exact rfl); k_whole))
local macro_rules | `(tactic| walk_at "mine guard") => `(tactic| ((fail_if_success (with_reducible show wpAny _ _ (exec (Stmt.While _ _ _ _) _) _ _ _)); (fail_if_success (with_reducible show wpAny _ _ (exec (Stmt.For _ _ _ _ _) _) _ _ _))))
local macro_rules | `(tactic| walk_at "mine guardI") => `(tactic| ((fail_if_success (with_reducible show wpAny _ _ (exec (Stmt.If _ _ _ _) _) _ _ _)); (fail_if_success (with_reducible show wpAny _ _ (exec (Stmt.While _ _ _ _) _) _ _ _)); (fail_if_success (with_reducible show wpAny _ _ (exec (Stmt.For _ _ _ _ _) _) _ _ _))))
local macro_rules | `(tactic| walk_at "mine steps") => `(tactic| repeat' (first | (k_unfold; (try dsimp only)) | (walk_at "mine guard"; walk1) | (dsimp only; walk_at "mine guard"; walk1)))
local macro_rules | `(tactic| walk_at "mine stepsI") => `(tactic| repeat' (first | (k_unfold; (try dsimp only)) | (walk_at "mine guardI"; walk1) | (dsimp only; walk_at "mine guardI"; walk1)))
local macro_rules | `(tactic| walk_at "mine stepsC") => `(tactic| repeat' (first | (k_unfold; (try dsimp only)) | ((fail_if_success (with_reducible show wpAny _ _ (exec (Stmt.Assign _ (Expr.ListComp _ _ _ _) _) _) _ _ _)); walk_at "mine guard"; walk1) | (dsimp only; (fail_if_success (with_reducible show wpAny _ _ (exec (Stmt.Assign _ (Expr.ListComp _ _ _ _) _) _) _ _ _)); walk_at "mine guard"; walk1)))
set_option pp.deepTerms false
set_option pp.deepTerms.threshold 5
theorem ofString_app (a b : String) : Str.ofString (a ++ b) = Str.ofString a ++ Str.ofString b := by
  rw [Str.ofString_eq_toList, Str.ofString_eq_toList, Str.ofString_eq_toList]
  show _ = Str.mk _
  simp
theorem nat_text (m : Nat) (h : m < 10 ^ 14) : (Str.ofString (toString ((m : Nat) : Int))).length ≤ 14 := toString_length_le (by omega) (by decide) (by exact_mod_cast h)
theorem neg_text (m : Nat) : Str.ofString (toString (-((m + 1 : Nat) : Int))) = Str.ofString "-" ++ Str.ofString (toString (((m + 1 : Nat)) : Int)) := by
  rw [← ofString_app]
  rfl
theorem int_text_le (n : Int) (h : n.natAbs < 10 ^ 14) : (Str.ofString (toString n)).length ≤ 15 := by
  by_cases hn : 0 ≤ n
  · have := nat_text n.natAbs h
    rw [Int.natAbs_of_nonneg hn] at this
    omega
  · obtain ⟨m, rfl⟩ : ∃ m : Nat, n = -((m + 1 : Nat) : Int) := ⟨n.natAbs - 1, by omega⟩
    rw [neg_text, Str.length_append]
    have := nat_text (m + 1) (by omega)
    have e : (Str.ofString "-").length = 1 := by decide +kernel
    omega
open PySem.Builtin PySem.Builtin.Str in
theorem int_textS (c : Percent) (h1 : c.alt = false) (h2 : c.type = 100) (h3 : c.prec = none) (n : Int) :
    (⟨(percentInt c (decide (n < 0)) (Str.ofString (toString ((n.natAbs : Nat) : Int))).cps.toList).toArray⟩ : Str) = Str.ofString (toString n) := by
  by_cases hn : 0 ≤ n
  · rw [KPc.int_text c h1 (.inl h2) h3 hn, Int.natAbs_of_nonneg hn]
  · obtain ⟨m, rfl⟩ : ∃ m : Nat, n = -((m + 1 : Nat) : Int) := ⟨n.natAbs - 1, by omega⟩
    rw [neg_text]
    have e : (-((m + 1 : Nat) : Int)).natAbs = m + 1 := by omega
    rw [e]
    unfold percentInt
    have hneg : decide (-((m + 1 : Nat) : Int) < 0) = true := decide_eq_true (by omega)
    rw [hneg]
    simp only [h1, h2, h3]
    apply Str.ext'
    show _ = (Str.ofString "-").cps ++ _
    have e2 : (Str.ofString "-").cps = #[45] := by decide +kernel
    rw [e2]
    simp
open PySem.Builtin PySem.Builtin.Str in
theorem after_intS {M : Model} {A : Around} {E : Value → Shared → Prop} {s : Shared} {l : List Nat} {p : List Value} {r : List Nat}
    {f : Nat → List Value × Writer × List Nat → Sem (ForInStep (List Value × Writer × List Nat))} {Q : List Value × Writer × List Nat → Shared → Prop}
    {w : Writer} {T : Str} {N : Nat} {o : Option Value} {c : Percent} {n : Int} (g : KPc.Good w T N) (h1 : c.alt = false) (h2 : c.type = 100) (h3 : c.prec = none) (hm : n.natAbs < 10 ^ 14) (ho : o = none)
    (h : ∀ w', KPc.Good w' (T ++ Str.ofString (toString n)) (N + 15) → wpAny M A (forIn l (p, w', r) f) Q E s) :
    wpAny M A (forIn l (p, w.add ⟨(percentInt c (decide (n < 0)) (Str.ofString (toString ((n.natAbs : Nat) : Int))).cps.toList).toArray⟩ o, r) f) Q E s := by
  rw [int_textS c h1 h2 h3 n]
  exact h _ (KPc.good_mono (KPc.good_add g (KPc.obj_none ho)) (Nat.add_le_add_left (int_text_le n hm) _))
local macro_rules | `(tactic| walk_at "mine piece") => `(tactic| first
  | (refine KPc.after_add0 (by kpc_g) (by kpc_text) (by kpc_obj) ?_; intro _ _)
  | (refine KPc.after_add (by kpc_g) (by kpc_text) (by kpc_obj) ?_; intro _ _)
  | (refine after_intS (by kpc_g) rfl rfl rfl (by assumption) (by kpc_none) ?_; intro _ _)
  | (refine KPc.after_str0 (K := 102) (by kpc_g) (by assumption) (by kpc_obj) ?_; intro _ _)
  | (refine KPc.after_str (K := 102) (by kpc_g) (by assumption) (by kpc_obj) ?_; intro _ _))
local macro_rules | `(tactic| walk_at "mine conv") => `(tactic| first
  | (kpc_ofStr; refine wpAny_bind ?_; kpc_if; refine wpAny_of_eq (KPc.strOf_str _ _) ?_; refine wpAny_bind (wpAny_of_eq (a := some _) rfl ?_))
  | (refine wpAny_bind (wpAny_of_eq (a := _) rfl ?_); (repeat kpc_if); (try (
      refine wpAny_bind (wpAny_mkInt ?_);
      refine wpAny_bind (call_gives F.slot_int_repr (typeIs_int _ _ _) F.entry_int_repr (F.args_int_repr_1 _) (gives_int_repr _ _ (KPt.hd2 (by assumption))) ⟨int_text_fits (KPt.hd2 (by assumption)), ?_⟩);
      refine wpAny_bind (wpAny_of_eq (a := some _) rfl ?_))))
  | (refine wpAny_bind (wpAny_of_eq (KPc.strOf_str _ _) ?_); refine wpAny_bind (wpAny_of_eq (a := some _) rfl ?_)))
local macro_rules | `(tactic| walk_at "mine turns") => `(tactic| (refine KPc.turn ?_; kpc_check; (repeat kpc_if); first
  | (refine wpAny_pure ?_; walk_at "mine piece"; walk_at "mine turns")
  | (refine wpAny_bind ?_; refine wpAny_holding ?_; (repeat kpc_if); walk_at "mine conv"; refine wpAny_pure ?_; refine wpAny_pure ?_; walk_at "mine piece"; walk_at "mine turns")
  | kpc_close))
def fmtS : Str := ⟨#[37, 115, 58, 37, 100, 40, 37, 115, 41]⟩
open PySem.Builtin PySem.Builtin.Str in
set_option maxHeartbeats 4000000 in
theorem meets_fmt (file nm : Str) (line : Int) (t k1 k2 k3 : Tok) (b : Addr) (hf : file.length ≤ 102) (hn : nm.length ≤ 102) (hl : line.natAbs < 10 ^ 14) (hlog : line.natAbs.log2 < 1920) :
    Meets («str.__mod__» ⟨[.str ⟨#[37, 115, 58, 37, 100, 40, 37, 115, 41]⟩ t, .ref b], []⟩) (fun _ R s => IsTup s.heap b #[.str file k1, .int line k2, .str nm k3] ∧
      ∀ t' k, R (.ok (.ret (.str (file ++ Str.ofString ":" ++ Str.ofString (toString line) ++ Str.ofString "(" ++ nm ++ Str.ofString ")") t'))) { s with toks := k }) := by
  apply KPt.meets_tup
  intro _ _ _ _ _ _ kptH _
  obtain ⟨kptO, kptG, kptC, kptN, kptD⟩ := kptH
  rw [KPt.entry_is_r]
  unfold Builtin.Str.percentFormat
  refine wpAny_bind (wpAny_isInstance (T := "tuple") ⟨kptO, kptG, kptC⟩ KPt.sub_tt ?_)
  refine wpAny_bind (KPt.asStr_ref kptG kptD ?_)
  refine wpAny_bind (KPt.fills_ref ⟨kptO, kptG, kptC⟩ ?_)
  intro _
  kpc_if
  refine wpAny_bind (wpAny_seqItems kptG kptD ?_)
  refine wpAny_bind (wpAny_pure ?_)
  refine wpAny_bind ?_
  rw [KPc.range_list]
  refine KPc.start ?_
  intro _ _
  walk_at "mine turns"
theorem mod_fmt {prog : Program} {w : World} {A : Around} {E : Value → Shared → Prop} {s : Shared} {file nm : Str} {line : Int} {t k1 k2 k3 : Tok} {b : Addr} {h₀ : Heap} {L : Addr} {m : Str → Option Value} {Q : Value → Shared → Prop}
    (F0 : Fr h₀ L s.heap m) (ht0 : IsTup h₀ b [.str file k1, .int line k2, .str nm k3].toArray) (hf : file.length ≤ 102) (hn : nm.length ≤ 102) (hl : line.natAbs < 10 ^ 14)
    (h : ∀ t' k, Q (.str (file ++ Str.ofString ":" ++ Str.ofString (toString line) ++ Str.ofString "(" ++ nm ++ Str.ofString ")") t') { s with toks := k }) :
    wpAny (model prog w) A (binaryOp .Mod (.str (Str.ofString "%s:%d(%s)") t) (.ref b)) Q E s := by
  have ht := ht0.keeps F0.keep
  have hX : Str.ofString "%s:%d(%s)" = ⟨#[37, 115, 58, 37, 100, 40, 37, 115, 41]⟩ := by decide +kernel
  rw [hX]
  have hT : s.TypeIs (.ref b) "tuple" := by
    obtain ⟨o, ho, hc, _⟩ := ht
    exact ⟨o, ho, hc⟩
  have hlog : line.natAbs.log2 < 1920 := shown (N := 10 ^ 14) (by omega) (by omega) (by decide)
  exact KPt.bin_left (T := "str") (U := "tuple") (op := .Mod) (by decide) (typeIs_str s _ t) hT F.fills_str_mod KPt.fills_tuple F.slot_str_mod
    (call_meets F.slot_str_mod (typeIs_str s _ t) F.entry_str_mod (F.args_str_mod_2 _ _) (meets_fmt file nm line t k1 k2 k3 b hf hn hl hlog) ⟨ht, fun t' k => ⟨(fun e => nomatch e), h t' k⟩⟩)
section
variable {prog : Program} {w : World} {A : Around} {E : Value → Shared → Prop} {s : Shared}
theorem getItem_to2 {t sl : Addr} {x y z : Value} {u : Tok} {Q : Value → Shared → Prop} (ht : IsTup s.heap t #[x, y, z]) (hs : s.heap.IsSliceOf sl .none (.int 2 u) .none)
    (h : Q (.ref s.heap.objs.size) { s with heap := s.heap.push { cls := .type "tuple", data := .seq #[x, y] } }) : wpAny (model prog w) A (getItem (.ref t) (.ref sl)) Q E s := by
  have hsz : sizeOk (.seq #[x, y]) := by
    show (2 : Nat) ≤ sizeLine
    decide
  obtain ⟨os, hos, hcs, hds⟩ := id hs
  have hTs : s.TypeIs (.ref sl) "slice" := ⟨os, hos, hcs⟩
  unfold getItem
  try with_reducible refine wpAny_holding ?_
  first | refine wpAny_bind (wpAny_pure ?_) | skip
  refine wpAny_bind (wpAny_sequenceKey ht.typeIs (by decide) ?_)
  refine wpAny_bind (wpAny_callSpecial?_slot (name := Str.ofString "__getitem__") ht.typeIs slot_tuple_getitem
    (wpAny_call_entry slot_tuple_getitem ht.typeIs entry_tuple_getitem ?_ (args_tuple_getitem _ _)))
  show wpAny _ _ (Builtin.Tuple.tupleItemsOf (.ref t) >>= _) _ _ s
  refine wpAny_bind (tupleItemsOf_ ht ?_)
  refine wpAny_bind (wpAny_typeOf hTs ?_)
  rw [if_pos (by decide)]
  have key : ∀ (Q : Int × Int × Nat → Shared → Prop) (E : Value → Shared → Prop), Q ((0 : Int), 1, 2) s → wpAny (model prog w) A.in1 (Builtin.Slice.sliceApplied (.ref sl) (pure ((#[x, y, z] : Array Value).size : Int))) Q E s := by
    intro Q E h
    unfold Builtin.Slice.sliceApplied Builtin.Slice.sliceFields
    refine wpAny_bind (wpAny_bind (wpAny_field hos hds (x := .none) rfl (wpAny_bind (wpAny_field hos hds (x := .int 2 u) rfl (wpAny_bind (wpAny_field hos hds (x := .none) rfl (wpAny_pure ?_)))))))
    refine wpAny_bind (slicePart_none ?_)
    show wpAny _ _ (if ((1 : Int) == 0) = true then _ else _) _ _ s
    rw [if_neg (by decide)]
    refine wpAny_bind (slicePart_none (wpAny_bind (slicePart_int (wpAny_bind (wpAny_pure ?_)))))
    exact wpAny_pure h
  refine wpAny_bind (key _ _ ?_)
  first
    | exact wpAny_bind (m := Builtin.Tuple.tupleExact _) (wpAny_newObj_type (wpAny_pure ⟨_, rfl, wpAny_pure h⟩) hsz)
    | exact wpAny_bind (m := Builtin.Tuple.tupleExact _) (wpAny_newObj_type (wpAny_bind (wpAny_pure (wpAny_pure ⟨_, rfl, wpAny_pure h⟩))) hsz)
    | exact wpAny_bind (wpAny_bind (m := Builtin.Tuple.tupleExact _) (wpAny_newObj_type (wpAny_pure (wpAny_pure ⟨_, rfl, wpAny_pure h⟩)) hsz))
    | exact wpAny_bind (wpAny_bind (m := Builtin.Tuple.tupleExact _) (wpAny_newObj_type (wpAny_pure ⟨_, rfl, wpAny_pure h⟩) hsz))
theorem eq_pair {a b : Addr} {f g : Str} {i j : Int} {t1 t2 t3 t4 : Tok} {Q : Value → Shared → Prop} (ha : s.heap.get? a = some (tupO [.str f t1, .int i t2])) (hb : s.heap.get? b = some (tupO [.str g t3, .int j t4])) (hu : A.units < cLine)
    (h : Q (.bool (f == g && i == j)) s) : wpAny (model prog w) A (compareOp .Eq (.ref a) (.ref b)) Q E s := by
  refine SeqAt.eq_tupleAt (items := #[.str f t1, .int i t2]) (items2 := #[.str g t3, .int j t4]) (e := fun k => if k = 0 then f == g else i == j) ⟨_, ha, rfl, _, rfl⟩ ⟨_, hb, rfl, _, rfl⟩ hu ?_ ?_
  · intro k h1 h2
    have hk : k = 0 ∨ k = 1 := by
      have : k < 2 := h1
      omega
    rcases hk with rfl | rfl
    · exact SeqAt.EqAt.str_str f t1 g t3
    · exact SeqAt.EqAt.int_int i t2 j t4
  · have e : ((List.range (min (#[Value.str f t1, Value.int i t2] : Array Value).size (#[Value.str g t3, Value.int j t4] : Array Value).size)).all (fun k => if k = 0 then f == g else i == j) && (#[Value.str f t1, Value.int i t2] : Array Value).size == (#[Value.str g t3, Value.int j t4] : Array Value).size) = (f == g && i == j) := by
      simp [List.range_succ]
    rw [e]
    exact h
theorem tail_to2 {h₀ : Heap} {L : Addr} {m : Str → Option Value} {news : Led} {value slice : Expr} {t : Addr} {x y z : Value} {u : Tok} {Q : Value → Shared → Prop} (F : Fr h₀ L s.heap m) (N : News h₀ L s.heap news) (ht : IsTup h₀ t #[x, y, z])
    (h : ∀ D h', Fr h₀ L h' m → News h₀ L h' ((D, tupO [x, y]) :: news) → (∀ p ∈ news, p.1 < D) → Q (.ref D) { s with heap := h' })
    (hs : subscripted slice false (.ref t) (.ref s.heap.objs.size) = operate [.ref s.heap.objs.size, .ref t] (getItem (.ref t) (.ref s.heap.objs.size)) := by with_unfolding_all rfl) :
    wpAny (model prog w) A (subscriptTail value slice (.ref t) (.ref s.heap.objs.size)) Q E { s with heap := s.heap.push { cls := .type "slice", data := .fields #[.none, .int 2 u, .none] } } := by
  have ht2 : IsTup (s.heap.push { cls := .type "slice", data := .fields #[.none, .int 2 u, .none] }) t #[x, y, z] := (ht.keeps F.keep).keeps fun b o e => Heap.get?_push_of_some _ e
  refine tail_any ht2.typeIs slot_tuple_getitem.lookup (getItem_to2 ht2 ⟨_, Heap.get?_push_size _ rfl, rfl, rfl⟩ ?_) hs
  have F2 := F.push { cls := .type "slice", data := .fields #[.none, .int 2 u, .none] }
  have N2 : News h₀ L (s.heap.push { cls := .type "slice", data := .fields #[.none, .int 2 u, .none] }) news := fun p hp => ⟨Heap.get?_push_of_some _ (N p hp).1, (N p hp).2⟩
  exact h _ _ (F2.push _) (N2.push F2 _) (fun p hp => Heap.lt_size (N2 p hp).1)
end
local macro_rules | `(tactic| walk_at "subscriptTail Name Slice") => `(tactic| ((with_reducible show wpAny _ _ (subscriptTail _ (Expr.Slice none (some _) none _) (Value.ref _) (Value.ref _)) _ _ _); refine tail_to2 (s := ⟨_, _, _, _, _⟩) (by assumption) (by assumption) (by assumption) ?_; intro D' h' F' N' l1; k_lt l1))
theorem units_ok {dp un : Nat} {gd : Option (List Code)} {env e : Env} {outer : List Env} {c : Nat} (h : un + c < cLine) (hc : 3 ≤ c) : ((Ar dp un gd env outer).deeper e).units < cLine := by
  show un + 3 < cLine
  omega
local macro_rules | `(tactic| walk_at "mine units") => `(tactic| exact units_ok (by assumption) (by decide))
local macro_rules | `(tactic| walk_at "compareOp Eq ref ref") => `(tactic| ((with_reducible show wpAny _ _ (compareOp CmpOp.Eq (Value.ref _) (Value.ref _)) _ _ _); refine eq_pair (News.get (by assumption) (by k_mem)) (News.get (by assumption) (by k_mem)) (by walk_at "mine units") ?_))
local macro_rules | `(tactic| walk_at "binaryOp Mod str ref") => `(tactic| (refine mod_fmt (by assumption) (by assumption) (by omega) (by assumption) (by assumption) ?_; intro _ _))
def fssS (file : Str) (line : Int) (nm : Str) : Str :=
  if (file == Str.ofString "~" && line == 0) = true then
    (if (Txt.startswith nm (Str.ofString "<") && Txt.endswith nm (Str.ofString ">")) = true then Str.ofString "{" ++ Txt.slice nm (some 1) (some (-1)) ++ Str.ofString "}" else nm)
  else file ++ Str.ofString ":" ++ intS line ++ Str.ofString "(" ++ nm ++ Str.ofString ")"
theorem fss_spec (w : World) (a : Addr) (file nm : Str) (line : Int) (hfl : file.length ≤ 100) (hnl : nm.length ≤ 102) (hll : line.natAbs < 10 ^ 14) :
    Spec w 28 1 400 (fun h => ∃ n1 n2 n3, h.get? a = some (tupO [.str file n1, .int line n2, .str nm n3])) [.ref a] (fun r tl => (∃ n, r = .str (fssS file line nm) n) ∧ tl = []) := by
  unfold Spec
  w_top off
  k_fill
  rintro mean mg mb dp un gd env outer A₀ base h₀ L m s Q E B F X T hf hk ⟨k1, k2, k3, hob⟩ hd hu hret
  have hT : IsTup s.heap a [.str file k1, .int line k2, .str nm k3].toArray := ⟨_, hob, rfl, _, rfl⟩
  refine wpAny_call ?_
  k_dflt (walk_at "mine in")
  intro L1 h1 KP F1 N1 B1 X1 T1
  try dsimp only
  try k_fold
  walk_at "mine steps"
  all_goals (rename (_ == Str.ofString "~" && _) = _ => hc1; rename Fr _ _ _ _ => F9; refine hret _ [] _ _ (Fr.keep F9) (fun _ hp => nomatch hp) ⟨strIs ?_, rfl⟩; unfold fssS; rw [hc1])
  · rename Txt.startswith _ _ = true => hs1
    rename Txt.endswith _ _ = true => hs2
    rw [hs1, hs2]
    rfl
  · rename Txt.startswith _ _ = true => hs1
    rename Txt.endswith _ _ = false => hs2
    rw [hs1, hs2]
    rfl
  · rename Txt.startswith _ _ = false => hs1
    rw [hs1]
    rfl
  · rfl
end Mine
-- part D3
namespace Mine
set_option maxRecDepth 100000
set_option maxHeartbeats 1000000
local macro_rules | `(tactic| walk_at "mine in") => `(tactic| (refine' enter ?k1 ?k2 ?k3 ?k5 ?kA ?kF ?kK ?k6 ?k7 ?k8 ?k9 ?kB ?_ ?c2 ?c3 ?c4 ?c5; (case kA => exact rfl); (case kF => assumption); (case kK => assumption); (case k1 => k_asm); (case k2 => k_asm); (case k3 => k_asm); (case k5 => k_asm); (case k6 => k_is); (case k7 => k_is); (case k8 => ktr_room); (case k9 => exact BindsTo.of_eq rfl); (case c5 => decide); (case kB => exact locs rfl); (case c2 => exact rfl); (case c3 => exact rfl); (case c4 => exact rfl); k_whole))
local macro_rules | `(tactic| walk_at "mine inC") => `(tactic| (refine' enterC ?k1 ?k2 ?k3 ?k5 ?kA ?kF ?kK ?k6 ?k7 ?k8 ?k9 ?kB ?kD ?_ ?c2 ?c3 ?c4; (case kA => exact rfl); (case kF => assumption); (case kK => assumption); (case k1 => k_asm); (case k2 => k_asm); (case k3 => k_asm); (case k5 => k_asm); (case k6 => k_is); (case k7 => k_is); (case k8 => ktr_room); (case k9 => exact BindsTo.of_eq rfl); (case kB => exact rfl); (case kD => decide +kernel); (case c2 => exact rfl); (case c3 => exact rfl); (case c4 => exact rfl); k_whole))
local macro_rules | `(tactic| walk_at "mine guard") => `(tactic| ((fail_if_success (with_reducible show wpAny _ _ (exec (Stmt.While _ _ _ _) _) _ _ _)); (fail_if_success (with_reducible show wpAny _ _ (exec (Stmt.For _ _ _ _ _) _) _ _ _))))
local macro_rules | `(tactic| walk_at "mine guardI") => `(tactic| ((fail_if_success (with_reducible show wpAny _ _ (exec (Stmt.If _ _ _ _) _) _ _ _)); (fail_if_success (with_reducible show wpAny _ _ (exec (Stmt.While _ _ _ _) _) _ _ _)); (fail_if_success (with_reducible show wpAny _ _ (exec (Stmt.For _ _ _ _ _) _) _ _ _))))
local macro_rules | `(tactic| walk_at "mine steps") => `(tactic| repeat' (first | (k_unfold; (try dsimp only)) | (walk_at "mine guard"; walk1) | (dsimp only; walk_at "mine guard"; walk1)))
local macro_rules | `(tactic| walk_at "mine stepsI") => `(tactic| repeat' (first | (k_unfold; (try dsimp only)) | (walk_at "mine guardI"; walk1) | (dsimp only; walk_at "mine guardI"; walk1)))
local macro_rules | `(tactic| walk_at "mine stepsC") => `(tactic| repeat' (first | (k_unfold; (try dsimp only)) | ((fail_if_success (with_reducible show wpAny _ _ (exec (Stmt.Assign _ (Expr.ListComp _ _ _ _) _) _) _ _ _)); walk_at "mine guard"; walk1) | (dsimp only; (fail_if_success (with_reducible show wpAny _ _ (exec (Stmt.Assign _ (Expr.ListComp _ _ _ _) _) _) _ _ _)); walk_at "mine guard"; walk1)))
set_option pp.deepTerms false
set_option pp.deepTerms.threshold 5
def dueS (p o : One) : Bool :=
  if (p.kind == Str.ofString "lone") = true then fitsS p.name (textS o)
  else ((p.kind == o.kind && p.line == o.line) && fitsS p.file o.file) && fitsS p.name o.name
theorem text_le (o : One) (ho : o.Ok) : (textS o).length ≤ 400 := by
  obtain ⟨h1, h2, h3⟩ := ho
  have h4 := int_text_le o.line h3
  have e1 : (Str.ofString ":").length = 1 := by decide +kernel
  have e2 : (Str.ofString "(").length = 1 := by decide +kernel
  have e3 : (Str.ofString ")").length = 1 := by decide +kernel
  have e4 : (Str.ofString "{").length = 1 := by decide +kernel
  have e5 : (Str.ofString "}").length = 1 := by decide +kernel
  unfold textS intS
  split
  · simp only [Str.length_append]; omega
  · split
    · simp only [Str.length_append]; omega
    · omega
theorem oneKeeps {o : One} {a : Addr} {h h' : Heap} (x : OneAt o a h) (k : ∀ b o, h.get? b = some o → h'.get? b = some o) : OneAt o a h' := let ⟨ob, h1, h2⟩ := x; ⟨ob, k _ _ h1, h2⟩
theorem room_ok {dp un : Nat} {gd : Option (List Code)} {env e : Env} {outer : List Env} {c k : Nat} (h : dp + c < recursionLimit) (hc : k + 1 ≤ c) : ((Ar dp un gd env outer).deeper e).depth + k < recursionLimit := by
  show dp + 1 + k < recursionLimit
  omega
theorem units_ok2 {dp un : Nat} {gd : Option (List Code)} {env e : Env} {outer : List Env} {c k : Nat} (h : un + c < cLine) (hc : k + 3 ≤ c) : ((Ar dp un gd env outer).deeper e).units + k < cLine := by
  show un + 3 + k < cLine
  omega
theorem due_spec (w : World) (a b : Addr) (p o : One) (hpo : p.Ok) (hoo : o.Ok) :
    Spec w 75 3 100 (fun h => OneAt p a h ∧ OneAt o b h) [.ref a, .ref b] (fun r tl => r = .bool (dueS p o) ∧ tl = []) := by
  have htx := text_le o hoo
  have hpo' := hpo
  have hoo' := hoo
  obtain ⟨hpf, hpn, hpl⟩ := hpo'
  obtain ⟨hof, hon, hol⟩ := hoo'
  unfold Spec
  w_top off
  k_fill
  rintro mean mg mb dp un gd env outer A₀ base h₀ L m s Q E B F X T hf hk ⟨hp1, hp2⟩ hd hu hret
  obtain ⟨ob, hob, k1, k2, k3, k4, rfl⟩ := id hp1
  obtain ⟨ob2, hob2, j1, j2, j3, j4, rfl⟩ := id hp2
  have hT : IsTup s.heap a [.str p.kind k1, .str p.file k2, .int p.line k3, .str p.name k4].toArray := ⟨_, hob, rfl, _, rfl⟩
  have hT2 : IsTup s.heap b [.str o.kind j1, .str o.file j2, .int o.line j3, .str o.name j4].toArray := ⟨_, hob2, rfl, _, rfl⟩
  refine wpAny_call ?_
  k_dflt (walk_at "mine in")
  intro L1 h1 KP F1 N1 B1 X1 T1
  try dsimp only
  try k_fold
  walk_at "mine steps"
  · rename (_ == Str.ofString "lone") = true => hc
    refine Spec.use (text_spec w b o hoo) B1 F1 X1 T1 N1 rfl rfl rfl rfl (oneKeeps hp2 (Fr.keep F1)) (room_ok hd (by decide)) (units_ok2 hu (by decide)) ?_
    rintro r' tl' h' tk' kp' F' N' ⟨⟨n', rfl⟩, rfl⟩
    dsimp only
    walk_at "mine steps"
    refine Spec.use (fits_spec w p.name (textS o) _ _ (by omega) (by omega)) B1 F' X1 T1 N' rfl rfl rfl rfl True.intro (room_ok hd (by decide)) (units_ok2 hu (by decide)) ?_
    rintro r2 tl2 h2 tk2 kp2 F2 N2 ⟨rfl, rfl⟩
    dsimp only
    walk_at "mine steps"
    refine hret _ [] _ _ (Fr.keep F2) (fun _ hp => nomatch hp) ⟨?_, rfl⟩
    unfold dueS
    rw [if_pos hc]
  · rename (_ == Str.ofString "lone") = false => hc
    rename (_ == _) = true => hc2
    rename p.line = _ => hc3
    rename Fr _ _ _ _ => F9
    rename News _ _ _ _ => N9
    refine Spec.use (fits_spec w p.file o.file _ _ (by omega) (by omega)) B1 F9 X1 T1 N9 rfl rfl rfl rfl True.intro (room_ok hd (by decide)) (units_ok2 hu (by decide)) ?_
    rintro r2 tl2 h2 tk2 kp2 F2 N2 ⟨rfl, rfl⟩
    dsimp only
    cases hfit : fitsS p.file o.file with
    | false =>
      walk_at "mine steps"
      refine hret _ [] _ _ (Fr.keep F2) (fun _ hp => nomatch hp) ⟨?_, rfl⟩
      unfold dueS
      rw [if_neg (by rw [hc]; decide), hfit, Bool.and_false, Bool.false_and]
    | true =>
      walk_at "mine steps"
      refine Spec.use (fits_spec w p.name o.name _ _ (by omega) (by omega)) B1 F2 X1 T1 N2 rfl rfl rfl rfl True.intro (room_ok hd (by decide)) (units_ok2 hu (by decide)) ?_
      rintro r3 tl3 h3 tk3 kp3 F3 N3 ⟨rfl, rfl⟩
      dsimp only
      walk_at "mine steps"
      refine hret _ [] _ _ (Fr.keep F3) (fun _ hp => nomatch hp) ⟨?_, rfl⟩
      unfold dueS
      rw [if_neg (by rw [hc]; decide), hfit, hc2, hc3]
      simp
  · rename (_ == Str.ofString "lone") = false => hc
    rename p.line ≠ _ => hc3
    rename Fr _ _ _ _ => F9
    refine hret _ [] _ _ (Fr.keep F9) (fun _ hp => nomatch hp) ⟨?_, rfl⟩
    have h5 : (p.line == o.line) = false := by rw [beq_eq_false_iff_ne]; exact hc3
    unfold dueS
    rw [if_neg (by rw [hc]; decide), h5]
    simp
  · rename (_ == Str.ofString "lone") = false => hc
    rename (p.kind == o.kind) = false => hc2
    rename Fr _ _ _ _ => F9
    refine hret _ [] _ _ (Fr.keep F9) (fun _ hp => nomatch hp) ⟨?_, rfl⟩
    unfold dueS
    rw [if_neg (by rw [hc]; decide), hc2]
    simp
end Mine
-- part S3
namespace Mine
set_option maxRecDepth 100000
set_option maxHeartbeats 1000000
local macro_rules | `(tactic| walk_at "mine in") => `(tactic| (refine' enter ?k1 ?k2 ?k3 ?k5 ?kA ?kF ?kK ?k6 ?k7 ?k8 ?k9 ?kB ?_ ?c2 ?c3 ?c4 ?c5; (case kA => exact rfl); (case kF => assumption); (case kK => assumption); (case k1 => k_asm); (case k2 => k_asm); (case k3 => k_asm); (case k5 => k_asm); (case k6 => k_is); (case k7 => k_is); (case k8 => ktr_room); (case k9 => exact BindsTo.of_eq rfl); (case c5 => decide); (case kB => exact locs rfl); (case c2 => exact rfl); (case c3 => exact rfl); (case c4 => exact rfl); k_whole))
local macro_rules | `(tactic| walk_at "mine inC") => `(tactic| (refine' enterC ?k1 ?k2 ?k3 ?k5 ?kA ?kF ?kK ?k6 ?k7 ?k8 ?k9 ?kB ?kD ?_ ?c2 ?c3 ?c4; (case kA => exact rfl); (case kF => assumption); (case kK => assumption); (case k1 => k_asm); (case k2 => k_asm); (case k3 => k_asm); (case k5 => k_asm); (case k6 => k_is); (case k7 => k_is); (case k8 => ktr_room); (case k9 => exact BindsTo.of_eq rfl); (case kB => exact rfl); (case kD => decide +kernel); (case c2 => exact rfl); (case c3 => exact rfl); (case c4 => exact rfl); k_whole))
local macro_rules | `(tactic| walk_at "mine guard") => `(tactic| ((fail_if_success (with_reducible show wpAny _ _ (exec (Stmt.While _ _ _ _) _) _ _ _)); (fail_if_success (with_reducible show wpAny _ _ (exec (Stmt.For _ _ _ _ _) _) _ _ _))))
local macro_rules | `(tactic| walk_at "mine guardI") => `(tactic| ((fail_if_success (with_reducible show wpAny _ _ (exec (Stmt.If _ _ _ _) _) _ _ _)); (fail_if_success (with_reducible show wpAny _ _ (exec (Stmt.While _ _ _ _) _) _ _ _)); (fail_if_success (with_reducible show wpAny _ _ (exec (Stmt.For _ _ _ _ _) _) _ _ _))))
local macro_rules | `(tactic| walk_at "mine steps") => `(tactic| repeat' (first | (k_unfold; (try dsimp only)) | (walk_at "mine guard"; walk1) | (dsimp only; walk_at "mine guard"; walk1)))
local macro_rules | `(tactic| walk_at "mine stepsI") => `(tactic| repeat' (first | (k_unfold; (try dsimp only)) | (walk_at "mine guardI"; walk1) | (dsimp only; walk_at "mine guardI"; walk1)))
local macro_rules | `(tactic| walk_at "mine stepsC") => `(tactic| repeat' (first | (k_unfold; (try dsimp only)) | ((fail_if_success (with_reducible show wpAny _ _ (exec (Stmt.Assign _ (Expr.ListComp _ _ _ _) _) _) _ _ _)); walk_at "mine guard"; walk1) | (dsimp only; (fail_if_success (with_reducible show wpAny _ _ (exec (Stmt.Assign _ (Expr.ListComp _ _ _ _) _) _) _ _ _)); walk_at "mine guard"; walk1)))
set_option pp.deepTerms false
set_option pp.deepTerms.threshold 5
def sixL (file : Str) (line : Int) (name : Str) (odd : Bool) : List One :=
  [⟨Str.ofString "row", file, line, name⟩, ⟨Str.ofString "row", Str.ofString "~", (if line < 0 then -line else line) + 1, Str.ofString "<" ++ name ++ Str.ofString ">"⟩, ⟨Str.ofString "row", file, 0, Str.ofString "<" ++ name ++ Str.ofString ">"⟩,
   ⟨Str.ofString "braces", Str.ofString "~", 0, name⟩, ⟨Str.ofString "lone", Str.ofString "~", 0, name⟩, ⟨Str.ofString "lone", Str.ofString "~", 0, if odd = true then name ++ Str.ofString ">" else Str.ofString "<" ++ name⟩]
def OnesAt (tl : Led) (ads : List Addr) (ones : List One) : Prop := Paired (fun a o => ∃ ob, (a, ob) ∈ tl ∧ OneObj o ob) ads ones
def SixP (ones : List One) (r : Value) (tl : Led) : Prop := ∃ l ads ep, r = .ref l ∧ (l, W.listOf (ads.map Value.ref).toArray ep) ∈ tl ∧ OnesAt tl ads ones
theorem six_close {l D1 D2 D3 D4 D5 D6 : Addr} {o1 o2 o3 o4 o5 o6 : Obj} {x1 x2 x3 x4 x5 x6 : One} (h1 : OneObj x1 o1) (h2 : OneObj x2 o2) (h3 : OneObj x3 o3) (h4 : OneObj x4 o4) (h5 : OneObj x5 o5) (h6 : OneObj x6 o6) :
    SixP [x1, x2, x3, x4, x5, x6] (.ref l) [(l, W.listOf #[.ref D1, .ref D2, .ref D3, .ref D4, .ref D5, .ref D6] 0), (D6, o6), (D5, o5), (D4, o4), (D3, o3), (D2, o2), (D1, o1)] := by
  refine ⟨l, [D1, D2, D3, D4, D5, D6], 0, rfl, .head _, ?_⟩
  exact .cons ⟨o1, by simp, h1⟩ (.cons ⟨o2, by simp, h2⟩ (.cons ⟨o3, by simp, h3⟩ (.cons ⟨o4, by simp, h4⟩ (.cons ⟨o5, by simp, h5⟩ (.cons ⟨o6, by simp, h6⟩ .nil)))))
theorem six_spec (w : World) (file name : Str) (line : Int) (odd : Bool) (t1 t2 t3 : Tok) (hfl : file.length ≤ 90) (hnl : name.length ≤ 90) (hll : line.natAbs < 10 ^ 14) :
    Spec w 42 1 100 (fun _ => True) [.str file t1, .int line t2, .str name t3, .bool odd] (SixP (sixL file line name odd)) := by
  unfold Spec
  w_top off
  k_fill
  rintro mean mg mb dp un gd env outer A₀ base h₀ L m s Q E B F X T hf hk _ hd hu hret
  refine wpAny_call ?_
  k_dflt (walk_at "mine in")
  intro L1 h1 KP F1 N1 B1 X1 T1
  try dsimp only
  try k_fold
  walk_at "mine steps"
  · rename odd = true => ho
    rename Fr _ _ _ _ => F9
    rename News _ _ _ _ => N9
    subst ho
    exact hret _ _ _ _ (Fr.keep F9) (freshOf N9) (six_close ⟨_, _, _, _, rfl⟩ ⟨_, _, _, _, rfl⟩ ⟨_, _, _, _, rfl⟩ ⟨_, _, _, _, rfl⟩ ⟨_, _, _, _, rfl⟩ ⟨_, _, _, _, rfl⟩)
  · rename odd = false => ho
    rename Fr _ _ _ _ => F9
    rename News _ _ _ _ => N9
    subst ho
    exact hret _ _ _ _ (Fr.keep F9) (freshOf N9) (six_close ⟨_, _, _, _, rfl⟩ ⟨_, _, _, _, rfl⟩ ⟨_, _, _, _, rfl⟩ ⟨_, _, _, _, rfl⟩ ⟨_, _, _, _, rfl⟩ ⟨_, _, _, _, rfl⟩)
end Mine
-- part Q3
namespace Mine
set_option maxRecDepth 100000
set_option maxHeartbeats 1000000
local macro_rules | `(tactic| walk_at "mine in") => `(tactic| (refine' enter ?k1 ?k2 ?k3 ?k5 ?kA ?kF ?kK ?k6 ?k7 ?k8 ?k9 ?kB ?_ ?c2 ?c3 ?c4 ?c5; (case kA => exact rfl); (case kF => assumption); (case kK => assumption); (case k1 => k_asm); (case k2 => k_asm); (case k3 => k_asm); (case k5 => k_asm); (case k6 => k_is); (case k7 => k_is); (case k8 => ktr_room); (case k9 => exact BindsTo.of_eq rfl); (case c5 => decide); (case kB => exact locs rfl); (case c2 => exact rfl); (case c3 => exact rfl); (case c4 => exact rfl); k_whole))
local macro_rules | `(tactic| walk_at "mine inC") => `(tactic| (refine' enterC ?k1 ?k2 ?k3 ?k5 ?kA ?kF ?kK ?k6 ?k7 ?k8 ?k9 ?kB ?kD ?_ ?c2 ?c3 ?c4; (case kA => exact rfl); (case kF => assumption); (case kK => assumption); (case k1 => k_asm); (case k2 => k_asm); (case k3 => k_asm); (case k5 => k_asm); (case k6 => k_is); (case k7 => k_is); (case k8 => ktr_room); (case k9 => exact BindsTo.of_eq rfl); (case kB => exact rfl); (case kD => decide +kernel); (case c2 => exact rfl); (case c3 => exact rfl); (case c4 => exact rfl); k_whole))
local macro_rules | `(tactic| walk_at "mine guard") => `(tactic| ((fail_if_success (with_reducible show wpAny _ _ (exec (Stmt.While _ _ _ _) _) _ _ _)); (fail_if_success (with_reducible show wpAny _ _ (exec (Stmt.For _ _ _ _ _) _) _ _ _))))
local macro_rules | `(tactic| walk_at "mine guardI") => `(tactic| ((fail_if_success (with_reducible show wpAny _ _ (exec (Stmt.If _ _ _ _) _) _ _ _)); (fail_if_success (with_reducible show wpAny _ _ (exec (Stmt.While _ _ _ _) _) _ _ _)); (fail_if_success (with_reducible show wpAny _ _ (exec (Stmt.For _ _ _ _ _) _) _ _ _))))
local macro_rules | `(tactic| walk_at "mine steps") => `(tactic| repeat' (first | (k_unfold; (try dsimp only)) | (walk_at "mine guard"; walk1) | (dsimp only; walk_at "mine guard"; walk1)))
local macro_rules | `(tactic| walk_at "mine stepsI") => `(tactic| repeat' (first | (k_unfold; (try dsimp only)) | (walk_at "mine guardI"; walk1) | (dsimp only; walk_at "mine guardI"; walk1)))
local macro_rules | `(tactic| walk_at "mine stepsC") => `(tactic| repeat' (first | (k_unfold; (try dsimp only)) | ((fail_if_success (with_reducible show wpAny _ _ (exec (Stmt.Assign _ (Expr.ListComp _ _ _ _) _) _) _ _ _)); walk_at "mine guard"; walk1) | (dsimp only; (fail_if_success (with_reducible show wpAny _ _ (exec (Stmt.Assign _ (Expr.ListComp _ _ _ _) _) _) _ _ _)); walk_at "mine guard"; walk1)))
set_option pp.deepTerms false
set_option pp.deepTerms.threshold 5
/-- a sign that the law's pieces hold -/
def okSign (c : Nat) : Bool := c == 97 || c == 98 || c == 46 || c == 47 || (decide (192 ≤ c) && decide (c < 5192))
def okText (x : Str) : Prop := ∀ c ∈ x.cps.toList, okSign c = true
def PairObj (ob : Obj) : Prop := ∃ x y n1 n2, ob = tupO [.str x n1, .str y n2] ∧ okText x ∧ okText y ∧ x.length ≤ 3 ∧ y.length ≤ 3
theorem okLit (x : Str) (n : Nat) (h : (x.cps.toList.all okSign && decide (x.length ≤ n)) = true) : okText x ∧ x.length ≤ n := by
  rw [Bool.and_eq_true, decide_eq_true_eq, List.all_eq_true] at h
  exact h
theorem okOne (c : Nat) (h1 : 192 ≤ c) (h2 : c < 5192) : okText ⟨#[c]⟩ ∧ (⟨#[c]⟩ : Str).length ≤ 3 := by
  refine ⟨?_, by show 1 ≤ 3; decide⟩
  intro d hd
  have : d = c := by simpa using hd
  subst this
  unfold okSign
  simp [h1, h2]
theorem okText_append {x y : Str} (hx : okText x) (hy : okText y) : okText (x ++ y) := by
  intro c hc
  have e : (x ++ y).cps.toList = x.cps.toList ++ y.cps.toList := by
    show (x.cps ++ y.cps).toList = _
    simp
  rw [e] at hc
  rcases List.mem_append.mp hc with h | h
  · exact hx c h
  · exact hy c h
theorem okOneA (c : Nat) (h1 : 192 ≤ c) (h2 : c < 5192) : okText (⟨#[c]⟩ ++ Str.ofString "a") ∧ ((⟨#[c]⟩ : Str) ++ Str.ofString "a").length ≤ 3 := by
  refine ⟨okText_append (okOne c h1 h2).1 (okLit (Str.ofString "a") 1 (by decide +kernel)).1, ?_⟩
  rw [Str.length_append]
  have e : (Str.ofString "a").length = 1 := by decide +kernel
  have e2 : (⟨#[c]⟩ : Str).length = 1 := rfl
  omega
theorem pairObj {x y : Str} {n1 n2 : Tok} (hx : okText x ∧ x.length ≤ 3) (hy : okText y ∧ y.length ≤ 3) : PairObj (tupO [.str x n1, .str y n2]) := ⟨x, y, n1, n2, rfl, hx.1, hy.1, hx.2, hy.2⟩
section
variable {prog : Program} {w : World} {A : Around} {E : Value → Shared → Prop} {s : Shared} {h₀ : Heap} {L : Addr} {news : Led}
theorem item_led {value slice : Expr} {l : Addr} {items : Array Value} {ep : Nat} {k : Int} {u : Tok} {Q : Value → Shared → Prop} (N : News h₀ L s.heap news) (hm : (l, W.listOf items ep) ∈ news) (h0 : 0 ≤ k) (hk : k < (items.size : Int)) (hfit : k < 2 ^ 63)
    (h : ∀ v, items[k.toNat]? = some v → Q v s)
    (hs : subscripted slice false (.ref l) (.int k u) = operate [.ref l, .int k u] (getItem (.ref l) (.int k u)) := by with_unfolding_all rfl) :
    wpAny (model prog w) A (subscriptTail value slice (.ref l) (.int k u)) Q E s := by
  have hl : s.heap.IsList l items := ⟨_, N.get hm, rfl, _, rfl⟩
  have hlt : k.toNat < items.size := by omega
  have e : items[k.toNat]? = some items[k.toNat] := by simp [hlt]
  exact tail_any hl.typeIs slot_list_getitem.lookup (wpAny_getItem_list (x := items[k.toNat]) hl h0 hfit e (h _ e)) hs
end
def PairRef (news : Led) (v : Value) : Prop := ∃ b ob, v = .ref b ∧ (b, ob) ∈ news ∧ PairObj ob
local macro_rules | `(tactic| walk_at "subscriptTail") => `(tactic| ((with_reducible show wpAny _ _ (subscriptTail _ (Expr.BinOp _ _ _ _) (Value.ref _) (Value.int _ _)) _ _ _); refine item_led (by assumption) (by k_mem) (fmod_lo _ (by decide)) (show _ < ((20 : Nat) : Int) from fmod_hi _ (by decide)) (Int.lt_of_lt_of_le (fmod_hi _ (by decide)) (by decide)) ?_; intro v' hv'))
def ledOf {h₀ h : Heap} {L : Addr} {news : Led} (_ : News h₀ L h news) : Led := news
theorem pair_spec (w : World) (d : Int) (t1 : Tok) :
    Spec w 35 1 100 (fun _ => True) [.int d t1] (fun r tl => ∃ b ob, r = .ref b ∧ tl = [(b, ob)] ∧ PairObj ob) := by
  unfold Spec
  w_top off
  k_fill
  rintro mean mg mb dp un gd env outer A₀ base h₀ L m s Q E B F X T hf hk _ hd hu hret
  refine wpAny_call ?_
  k_dflt (walk_at "mine in")
  intro L1 h1 KP F1 N1 B1 X1 T1
  try dsimp only
  try k_fold
  walk_at "mine steps"
  rename Fr _ _ _ _ => F9
  rename News _ _ _ _ => N9
  rename Value => v9
  rename _ = some _ => hv9
  have hlo := fmod_lo (n := 5000) (d.fdiv 40) (by decide)
  have hhi := fmod_hi (n := 5000) (d.fdiv 40) (by decide)
  have key : PairRef (ledOf N9) v9 := by
    have hm := Array.mem_of_getElem? hv9
    dsimp only [ledOf]
    clear hv9 N9 F9
    simp only [List.mem_toArray, List.mem_cons, List.not_mem_nil, or_false] at hm
    rcases hm with rfl | rfl | rfl | rfl | rfl | rfl | rfl | rfl | rfl | rfl | rfl | rfl | rfl | rfl | rfl | rfl | rfl | rfl | rfl | rfl
    all_goals refine ⟨_, _, rfl, by k_mem, pairObj ?_ ?_⟩
    all_goals first
      | exact okLit _ _ (by decide +kernel)
      | exact okOne _ (by omega) (by omega)
      | exact okOneA _ (by omega) (by omega)
  obtain ⟨b, ob, rfl, hm, hpo⟩ := key
  refine hret _ [(b, ob)] _ _ (Fr.keep F9) ?_ ⟨b, ob, rfl, rfl, hpo⟩
  intro q hq
  rw [List.mem_singleton.mp hq]
  exact ⟨(N9 _ hm).1, (N9 _ hm).2.2⟩
end Mine
-- part E0
namespace Mine
set_option maxRecDepth 100000
section
variable {prog : Program} {w : World} {A : Around} {E : Value → Shared → Prop} {s : Shared} {env : Env} {h₀ : Heap} {body : List Stmt} {L : Addr}
/-- what a turn of such a loop leaves -/
def EnumEnd (h₀ : Heap) (L : Addr) (s : Shared) (e it : Addr) (oe oi : Obj) (J : (Str → Option Value) → Led → Prop) (f : Flow) (s₃ : Shared) : Prop :=
  f = .next ∧ ∃ h' tk m' news', s₃ = { s with heap := h', toks := tk } ∧ Fr h₀ L h' m' ∧ News h₀ L h' ((e, oe) :: (it, oi) :: news') ∧ J m' news'
/-- a for over an enumerate of a list of the ledger -/
theorem for_enum {xi xv : Str} {pi pv pt : Pos} {x1 : Nat} {e it l : Addr} {items : Array Value} {ep : Nat} (J : Nat → (Str → Option Value) → Led → Prop) {m : Str → Option Value} {news : Led} {R : Result → Shared → Prop} {o₀ : Obj}
    (hh : A.handled = none) (hL : env.locals = L) (hxi : env.kindOf xi = some .local) (hxv : env.kindOf xv = some .local)
    (hp : (env.scope.kind == .class || (env.scope.kind == .module && env.locals != env.globals)) = false)
    (hei : e ≠ it) (hmem : ∀ i m₁ news₁, J i m₁ news₁ → (l, W.listOf items ep) ∈ news₁) (hoff : ∀ i m₁ news₁, J i m₁ news₁ → ∀ p ∈ news₁, p.1 ≠ e ∧ p.1 ≠ it)
    (F : Fr h₀ L s.heap m) (N : News h₀ L s.heap ((e, { cls := .type "enumerate", data := .fields #[.none, .bool false, .ref it, rawInt 0, .none, .none] }) :: (it, o₀) :: news)) (hit : s.heap.IsListIter it l 0) (hj : J 0 m news)
    (turn : ∀ i v tk' m₁ news₁ oe oi h tk E', items[i]? = some v → J i m₁ news₁ → Fr h₀ L h (fun y => if y = xv then some v else if y = xi then some (.int (i : Nat) tk') else m₁ y) → News h₀ L h ((e, oe) :: (it, oi) :: news₁) →
      wpAny (model prog w) A (execs body env) (EnumEnd h₀ L s e it oe oi (J (i + 1))) E' { s with heap := h, toks := tk })
    (done : ∀ m₁ news₁ h tk, J items.size m₁ news₁ → Fr h₀ L h m₁ → News h₀ L h news₁ → R (.ok .next) { s with heap := h, toks := tk }) :
    codeAny (model prog w) A (.forLoop (.Tuple [.Name xi pi, .Name xv pv] x1 pt) (.ref e) body [] env) R s := by
  subst hL
  refine codeAny_forLoop_any
    (fun k s' => ∃ h' tk m' news' i old oi, s' = { s with heap := h', toks := tk } ∧ IsEnum h' e it ((i : Nat) : Int) old ∧ h'.IsListIter it l i ∧ Fr h₀ env.locals h' m' ∧
      News h₀ env.locals h' ((e, { cls := .type "enumerate", data := .fields #[.none, .bool false, .ref it, rawInt ((i : Nat) : Int), .none, old] }) :: (it, oi) :: news') ∧ J i m' news' ∧ i ≤ items.size ∧ k = items.size + 1 - i) ?_ (items.size + 1)
    ⟨s.heap, s.toks, m, news, 0, .none, o₀, rfl, N.get (.head _), hit, F, N, hj, Nat.zero_le _, rfl⟩
  rintro k s' ⟨H, tk, m', news', i, old, oi, rfl, he', hit', F', N', hJ, hi, rfl⟩
  have NJ : News h₀ env.locals H news' := fun p hp => N' p (.tail _ (.tail _ hp))
  have hl' : H.IsList l items := ⟨_, NJ.get (hmem i m' news' hJ), rfl, _, rfl⟩
  have heL : e ≠ env.locals := (N' _ (.head _)).2.1
  have hiL : it ≠ env.locals := (N' _ (.tail _ (.head _))).2.1
  have he0 : h₀.get? e = none := (N' _ (.head _)).2.2
  have hi0 : h₀.get? it = none := (N' _ (.tail _ (.head _))).2.2
  cases hv : items[i]? with
  | none =>
    have hsz : i = items.size := Nat.le_antisymm hi (by simpa using hv)
    refine wpAny_pyNext_enum_end hh he' hit' hl' hv fun h₁ he₁ => wpAny_execs_nil ?_
    subst hsz
    have ext : ∀ b o, b ≠ it → H.get? b = some o → h₁.get? b = some o := fun b o hb x => he₁ b o hb x
    refine done m' news' h₁ tk hJ ⟨?_, fun b o x => ext b o (fun q => by rw [q, hi0] at x; cases x) (F'.keep b o x), F'.above⟩ (fun p hp => ⟨ext _ _ (hoff _ _ _ hJ p hp).2 (NJ p hp).1, (NJ p hp).2⟩)
    obtain ⟨oL, a1, a2, hL, a3⟩ := F'.ns
    exact ⟨oL, a1, a2, ext _ _ (Ne.symm hiL) hL, a3⟩
  | some v =>
    have hlt : i < items.size := (Array.getElem?_eq_some_iff.mp hv).1
    have heH : e < H.objs.size := Heap.lt_size he'
    have hLH : env.locals < H.objs.size := F'.ns.lt
    obtain ⟨oi', hoi', hoi2⟩ := id hit'
    have hiH : it < H.objs.size := Heap.lt_size hoi'
    refine wpAny_pyNext_enum_item he' hit' hl' hv hei fun h₁ heo hit₁ ht₁ hz₁ hk₁ => ?_
    refine wpAny_letOwnedTupleGo_enum heo fun h₂ he₂ hs₂ => ?_
    replace hs₂ : Heap.SameBut e h₁ h₂ := hs₂
    have ht₂ : h₂.IsTuple H.objs.size #[.int i tk, v] := ⟨_, (hs₂.2 _ (Nat.ne_of_gt heH)).trans ht₁, rfl, _, rfl⟩
    have hz₂ : h₂.objs.size = H.objs.size + 1 := hs₂.1.trans hz₁
    refine wpAny_assign_Tuple hh ht₂ rfl rfl fun h₃ hx₃ => ?_
    replace hx₃ : Heap.ExtBut h₂.objs.size h₂ h₃ := hx₃
    have old₃ : ∀ b o, b < H.objs.size → h₂.get? b = some o → h₃.get? b = some o := fun b o hb x => hx₃ b o (by rw [hz₂]; exact Nat.ne_of_lt (Nat.lt_succ_of_lt hb)) x
    have all₃ : ∀ b o, b ≠ e → b ≠ it → H.get? b = some o → h₃.get? b = some o := fun b o hbe hbi x => old₃ b o (Heap.lt_size x) (hs₂.extBut b o hbe (hk₁ b o hbe hbi x))
    have F₃ : Fr h₀ env.locals h₃ m' := by
      refine ⟨?_, fun b o x => all₃ b o (fun q => by rw [q, he0] at x; cases x) (fun q => by rw [q, hi0] at x; cases x) (F'.keep b o x), F'.above⟩
      obtain ⟨oL, a1, a2, hL, a3⟩ := F'.ns
      exact ⟨oL, a1, a2, all₃ _ _ (Ne.symm heL) (Ne.symm hiL) hL, a3⟩
    have hit₂ : h₂.IsListIter it l (i + 1) := hit₁.extBut hs₂.extBut (Ne.symm hei)
    obtain ⟨oi₃, hoi₃, hoi₄⟩ := id hit₂
    have N₃ : News h₀ env.locals h₃ ((e, { cls := .type "enumerate", data := .fields #[.none, .bool false, .ref it, rawInt ((i : Int) + 1), .none, v] }) :: (it, oi₃) :: news') := by
      intro p hp
      rcases List.mem_cons.mp hp with rfl | hp
      · exact ⟨old₃ _ _ heH he₂, heL, he0⟩
      rcases List.mem_cons.mp hp with rfl | hp
      · exact ⟨old₃ _ _ hiH hoi₃, hiL, hi0⟩
      · exact ⟨all₃ _ _ (hoff _ _ _ hJ p hp).1 (hoff _ _ _ hJ p hp).2 (NJ p hp).1, (NJ p hp).2⟩
    show wpAny _ A (do holding [v] (assign (.Name xi pi) env (.int i tk)); do holding [] (assign (.Name xv pv) env v); pure ()) _ _ _
    refine wpAny_bind (wpAny_holding (wpAny_assign_Name (wpAny_storeName_local hxi F₃.ns (fun h₄ hn₄ hs₄ => ?_) hp)))
    replace hs₄ : Heap.SameBut env.locals h₃ h₄ := hs₄
    have F₄ := F₃.set hn₄ hs₄
    refine wpAny_bind (wpAny_holding (wpAny_assign_Name (wpAny_storeName_local hxv F₄.ns (fun h₅ hn₅ hs₅ => wpAny_pure ?_) hp)))
    replace hs₅ : Heap.SameBut env.locals h₄ h₅ := hs₅
    refine wpAny_mono (turn i v tk m' news' _ _ h₅ _ _ hv hJ (F₄.set hn₅ hs₅) ((N₃.set hs₄).set hs₅)) (fun f s₃ h₆ => ?_) fun _ _ x => x
    obtain ⟨rfl, h₆, tk₆, m₆, news₆, rfl, F₆, N₆, hJ₆⟩ := h₆
    have ecast : ((i + 1 : Nat) : Int) = (i : Int) + 1 := by push_cast; rfl
    refine ⟨items.size + 1 - (i + 1), by omega, h₆, tk₆, m₆, news₆, i + 1, v, oi₃, rfl, ?_, ⟨oi₃, N₆.get (.tail _ (.head _)), hoi₄⟩, F₆, ?_, hJ₆, hlt, rfl⟩
    · rw [ecast]; exact N₆.get (.head _)
    · rw [ecast]; exact N₆
end
end Mine
-- part V3
namespace Mine
set_option maxRecDepth 100000
set_option maxHeartbeats 1000000
local macro_rules | `(tactic| walk_at "mine in") => `(tactic| (refine' enter ?k1 ?k2 ?k3 ?k5 ?kA ?kF ?kK ?k6 ?k7 ?k8 ?k9 ?kB ?_ ?c2 ?c3 ?c4 ?c5; (case kA => exact rfl); (case kF => assumption); (case kK => assumption); (case k1 => k_asm); (case k2 => k_asm); (case k3 => k_asm); (case k5 => k_asm); (case k6 => k_is); (case k7 => k_is); (case k8 => ktr_room); (case k9 => exact BindsTo.of_eq rfl); (case c5 => decide); (case kB => exact locs rfl); (case c2 => exact rfl); (case c3 => exact rfl); (case c4 => exact rfl); k_whole))
local macro_rules | `(tactic| walk_at "mine inC") => `(tactic| (refine' enterC ?k1 ?k2 ?k3 ?k5 ?kA ?kF ?kK ?k6 ?k7 ?k8 ?k9 ?kB ?kD ?_ ?c2 ?c3 ?c4; (case kA => exact rfl); (case kF => assumption); (case kK => assumption); (case k1 => k_asm); (case k2 => k_asm); (case k3 => k_asm); (case k5 => k_asm); (case k6 => k_is); (case k7 => k_is); (case k8 => ktr_room); (case k9 => exact BindsTo.of_eq rfl); (case kB => exact rfl); (case kD => decide +kernel); (case c2 => exact rfl); (case c3 => exact rfl); (case c4 => exact rfl); k_whole))
local macro_rules | `(tactic| walk_at "mine guard") => `(tactic| ((fail_if_success (with_reducible show wpAny _ _ (exec (Stmt.While _ _ _ _) _) _ _ _)); (fail_if_success (with_reducible show wpAny _ _ (exec (Stmt.For _ _ _ _ _) _) _ _ _))))
local macro_rules | `(tactic| walk_at "mine guardI") => `(tactic| ((fail_if_success (with_reducible show wpAny _ _ (exec (Stmt.If _ _ _ _) _) _ _ _)); (fail_if_success (with_reducible show wpAny _ _ (exec (Stmt.While _ _ _ _) _) _ _ _)); (fail_if_success (with_reducible show wpAny _ _ (exec (Stmt.For _ _ _ _ _) _) _ _ _))))
local macro_rules | `(tactic| walk_at "mine steps") => `(tactic| repeat' (first | (k_unfold; (try dsimp only)) | (walk_at "mine guard"; walk1) | (dsimp only; walk_at "mine guard"; walk1)))
local macro_rules | `(tactic| walk_at "mine stepsI") => `(tactic| repeat' (first | (k_unfold; (try dsimp only)) | (walk_at "mine guardI"; walk1) | (dsimp only; walk_at "mine guardI"; walk1)))
local macro_rules | `(tactic| walk_at "mine stepsC") => `(tactic| repeat' (first | (k_unfold; (try dsimp only)) | ((fail_if_success (with_reducible show wpAny _ _ (exec (Stmt.Assign _ (Expr.ListComp _ _ _ _) _) _) _ _ _)); walk_at "mine guard"; walk1) | (dsimp only; (fail_if_success (with_reducible show wpAny _ _ (exec (Stmt.Assign _ (Expr.ListComp _ _ _ _) _) _) _ _ _)); walk_at "mine guard"; walk1)))
set_option pp.deepTerms false
set_option pp.deepTerms.threshold 5
section
variable {prog : Program} {w : World} {A : Around} {E : Value → Shared → Prop} {s : Shared} {h₀ : Heap} {L D : Addr} {m : Str → Option Value} {news news' : Led} {its its' : Array Value} {n : Nat} {k : Int} {t u : Tok}
theorem set_led {v : Value} {Q : Unit → Shared → Prop} (F : Fr h₀ L s.heap m) (N : News h₀ L s.heap news) (U : Upd D (W.listOf its n) (W.listOf its' n) news news') (he : its.setIfInBounds k.toNat v = its') (h0 : 0 ≤ k) (h1 : k < (its.size : Int)) (hfit : k < 2 ^ 63)
    (h : ∀ h', Fr h₀ L h' m → News h₀ L h' news' → Q () { s with heap := h' }) :
    wpAny (model prog w) A (setItem (.ref D) (.int k t) v) Q E s := by
  obtain ⟨pre, post, rfl, rfl, a, b⟩ := U.split
  have z := N (D, W.listOf its n) (List.mem_append.mpr (.inr (.head _)))
  refine ki_setAt z.1 h0 hfit h1 (h _ (F.change (Heap.SameBut.update ..) z.2.1 z.2.2) (ki_turn _ N a b ?_ ?_))
  · exact he
  · subst he; simp
theorem get_led {v : Value} {Q : Value → Shared → Prop} (N : News h₀ L s.heap news) (hm : (D, W.listOf its n) ∈ news) (h0 : 0 ≤ k) (hfit : k < 2 ^ 63) (hx : its[k.toNat]? = some v) (h : Q v s) : wpAny (model prog w) A (getItem (.ref D) (.int k t)) Q E s :=
  wpAny_getItem_list ⟨_, N.get hm, rfl, _, rfl⟩ h0 hfit hx h
end
def SidesP (r : Value) (tl : Led) : Prop :=
  ∃ (T l1 l2 : Addr) (ads1 ads2 : List Addr) (ep1 ep2 : Nat) (f1 n1 f2 n2 : Str) (line third : Int) (odd : Bool),
    r = .ref T ∧ (T, tupO [.ref l1, .ref l2]) ∈ tl ∧ (l1, W.listOf (ads1.map Value.ref).toArray ep1) ∈ tl ∧ (l2, W.listOf (ads2.map Value.ref).toArray ep2) ∈ tl ∧
    OnesAt tl ads1 (sixL f1 line n1 odd) ∧ OnesAt tl ads2 (sixL f2 third n2 odd) ∧
    okText f1 ∧ okText n1 ∧ okText f2 ∧ okText n2 ∧ f1.length ≤ 30 ∧ n1.length ≤ 30 ∧ f2.length ≤ 30 ∧ n2.length ≤ 30 ∧ line.natAbs < 10 ^ 13 ∧ third.natAbs < 10 ^ 13
theorem OnesAt.mono {tl tl' : Led} {ads : List Addr} {ones : List One} (h : OnesAt tl ads ones) (hs : ∀ p ∈ tl, p ∈ tl') : OnesAt tl' ads ones := by
  unfold OnesAt at h ⊢
  induction h with
  | nil => exact .nil
  | cons h1 _ ih =>
    obtain ⟨ob, hm, ho⟩ := h1
    exact .cons ⟨ob, hs _ hm, ho⟩ ih
/-- between two turns of the loop of sides -/
def SidesJ (a lw le : Addr) (items : Array Value) (i : Nat) (m : Str → Option Value) (news : Led) : Prop :=
  ∃ (x0 x1 x2 x3 : Str) (k0 k1 k2 k3 : Tok) (ep : Nat), news = [(le, W.listOf items 0), (lw, W.listOf #[.str x0 k0, .str x1 k1, .str x2 k2, .str x3 k3] ep)] ∧
    m (Str.ofString "words") = some (.ref lw) ∧ m (Str.ofString "script") = some (.ref a) ∧ okText x0 ∧ okText x1 ∧ okText x2 ∧ okText x3 ∧
    x0.length ≤ 3 * i ∧ x1.length ≤ 3 * i ∧ x2.length ≤ 3 * i ∧ x3.length ≤ 3 * i
theorem sides_spec (w : World) (a : Addr) (vs : List Value) (ns : List Int) (hi : IntsAre vs ns) (hlen : ns.length ≤ 63) :
    Spec w 49 3 400 (fun h => h.IsList a vs.toArray) [.ref a] SidesP := by
  unfold Spec
  w_top off
  k_fill
  rintro mean mg mb dp un gd env outer A₀ base h₀ L m s Q E B F X T hf hk hp hd hu hret
  refine wpAny_call ?_
  k_dflt (walk_at "mine in")
  intro L1 h1 KP F1 N1 B1 X1 T1
  try dsimp only
  try k_fold
  walk_at "mine steps"
  refine wpAny_For ?_
  walk_at "mine steps"
  rename_i lw hA1 hA2 hA3 le H2 F2 N2 hlw
  obtain ⟨items, k0, k1, k2, k3, N2', hsz, hint⟩ : ∃ (items : Array Value) (k0 k1 k2 k3 : Tok), News s.heap L1 H2 [(le, W.listOf items 0), (lw, W.listOf #[.str (Str.ofString "") k0, .str (Str.ofString "") k1, .str (Str.ofString "") k2, .str (Str.ofString "") k3] 0)] ∧ items.size = 10 ∧ (∀ v ∈ items, ∃ c tc, v = .int c tc) := by
    refine ⟨_, _, _, _, _, N2, rfl, ?_⟩
    intro v hm
    simp only [List.mem_toArray, List.mem_cons, List.not_mem_nil, or_false] at hm
    rcases hm with rfl | rfl | rfl | rfl | rfl | rfl | rfl | rfl | rfl | rfl <;> exact ⟨_, _, rfl⟩
  clear N2
  have N2 := N2'
  clear N2'
  have g1 := N2.get (.head _)
  have g2 := N2.get (.tail _ (.head _))
  have hl1 := Heap.lt_size g1
  have hl2 := Heap.lt_size g2
  refine call_enumerate_1 g1 ?_
  intro h5 he5 hit5 hz5 hk5
  refine wpAny_pyIter_enum he5 ?_
  obtain ⟨oi5, hoi5, hoi6⟩ := id hit5
  have F5 := frKeeps F2 hk5
  have none5 : ∀ b, H2.objs.size ≤ b → H2.get? b = none := fun b hb => by
    cases q : H2.get? b with
    | none => rfl
    | some o => exact absurd (Heap.lt_size q) (Nat.not_lt.mpr hb)
  have N5 := newsKeeps (tl := [(H2.objs.size + 1, { cls := .type "enumerate", data := .fields #[.none, .bool false, .ref H2.objs.size, rawInt 0, .none, .none] }), (H2.objs.size, oi5)]) F2 N2 hk5 (by
    intro p hp
    simp only [List.mem_cons, List.not_mem_nil, or_false] at hp
    rcases hp with rfl | rfl
    · exact ⟨he5, none5 _ (Nat.le_succ _)⟩
    · exact ⟨hoi5, none5 _ (Nat.le_refl _)⟩)
  refine for_enum (L := L1) (ep := 0) (items := items) (SidesJ a lw le items) rfl rfl rfl rfl rfl ?_ ?_ ?_ F5 N5 hit5 ?_ ?_ ?_
  · exact Nat.succ_ne_self _
  · rintro i m₁ news₁ ⟨x0, x1, x2, x3, k0, k1, k2, k3, ep, rfl, _⟩
    exact .head _
  · rintro i m₁ news₁ ⟨x0, x1, x2, x3, k0, k1, k2, k3, ep, rfl, _⟩ p hp
    simp only [List.mem_cons, List.not_mem_nil, or_false] at hp
    rcases hp with rfl | rfl
    · exact ⟨Nat.ne_of_lt (Nat.lt_succ_of_lt hl1), Nat.ne_of_lt hl1⟩
    · exact ⟨Nat.ne_of_lt (Nat.lt_succ_of_lt hl2), Nat.ne_of_lt hl2⟩
  · refine ⟨_, _, _, _, _, _, _, _, 0, rfl, rfl, rfl, ?_, ?_, ?_, ?_, ?_, ?_, ?_, ?_⟩
    all_goals first | exact (okLit _ 0 (by decide +kernel)).1 | exact (okLit _ 0 (by decide +kernel)).2
  · rintro i v tk' m₁ news₁ oe oi h tk E' hv ⟨x0, x1, x2, x3, k0, k1, k2, k3, ep, rfl, hmw, hms, ho0, ho1, ho2, ho3, hl0, hl1', hl2', hl3⟩ F6 N6
    have hi10 : i < 10 := hsz ▸ (Array.getElem?_eq_some_iff.mp hv).1
    obtain ⟨own, town, rfl⟩ : ∃ c tc, v = .int c tc := hint v (Array.mem_of_getElem? hv)
    have F7 := frAs4 (x1 := Str.ofString "own") (x2 := Str.ofString "place") (x3 := Str.ofString "words") (x4 := Str.ofString "script") (v3 := .ref lw) (v4 := .ref a) F6 (if_pos rfl) (by rw [if_neg (by decide), if_pos rfl]) (by rw [if_neg (by decide), if_neg (by decide)]; exact hmw) (by rw [if_neg (by decide), if_neg (by decide)]; exact hms)
    clear F6 hv
    have hla : s.heap.IsList a vs.toArray := hp
    walk_at "mine steps"
    rename Fr _ _ _ _ => F8
    rename News _ _ _ _ => N8
    have g8 := N8.get (.head _)
    refine LSm.sum_ints (vs := (slicePick vs.toArray (some (i : Int)) none (some 10)).toList) F8 N8 rfl ⟨_, g8, rfl, _, rfl⟩ (hi.pick _ _ _) ?_
    intro h9 tk9 t9 F9 N9
    generalize (pickNums ns (some (i : Int)) none (some 10)).sum = S
    dsimp only
    walk_at "mine steps"
    rename Fr _ _ _ _ => F10
    rename News _ _ _ _ => N10
    have hclo := fmod_lo (n := 2) ((own + S).fdiv 20) (by decide)
    have hchi := fmod_hi (n := 2) ((own + S).fdiv 20) (by decide)
    generalize ((own + S).fdiv 20).fmod 2 = c at *
    replace N10 := newsSub (news := [(H2.objs.size + 1, oe), (H2.objs.size, oi), (le, W.listOf items 0), (lw, W.listOf #[.str x0 k0, .str x1 k1, .str x2 k2, .str x3 k3] ep)]) N10 (by intro p hp; exact .tail _ hp)
    refine Spec.use (pair_spec w (own + S) _) B1 F10 X1 T1 N10 rfl rfl rfl rfl True.intro (room_ok hd (by decide)) (units_ok2 hu (by decide)) ?_
    rintro r' tl' h11 tk11 kp11 F11 N11 ⟨b11, ob11, rfl, rfl, ⟨px, py, n1, n2, rfl, okx, oky, lx, ly⟩⟩
    dsimp only [List.cons_append, List.nil_append] at N11
    have hcc : c = 0 ∨ c = 1 := by omega
    have hx0 : x0.length ≤ 100 := by omega
    have hx1 : x1.length ≤ 100 := by omega
    have hx2 : x2.length ≤ 100 := by omega
    have hx3 : x3.length ≤ 100 := by omega
    clear F10 N10
    have hne1 : H2.objs.size + 1 ≠ lw := Nat.ne_of_gt (Nat.lt_succ_of_lt hl2)
    have hne2 : H2.objs.size ≠ lw := Nat.ne_of_gt hl2
    have hne3 : le ≠ lw := Nat.ne_of_gt hlw
    rcases hcc with rfl | rfl
    · dsimp only
      walk_at "mine steps"
      refine get_led (v := .str x0 k0) (by assumption) (by k_mem) (by decide) (by decide) rfl ?_
      walk_at "mine steps"
      rename_i u1 tk12 hl12
      rename Fr _ _ _ _ => F12
      rename News _ _ _ _ => N12
      refine set_led (its' := #[.str (x0 ++ px) u1, .str x1 k1, .str x2 k2, .str x3 k3]) F12 (newsSub (news := [(lw, W.listOf #[.str x0 k0, .str x1 k1, .str x2 k2, .str x3 k3] ep), (H2.objs.size + 1, oe), (H2.objs.size, oi), (le, W.listOf items 0)]) N12 ?_) (Upd.head ?_) rfl (by decide) (show _ < ((4 : Nat) : Int) by decide) (by decide) ?_
      · intro q hq
        simp only [List.mem_cons, List.not_mem_nil, or_false] at hq ⊢
        rcases hq with rfl | rfl | rfl | rfl <;> simp
      · intro q hq
        simp only [List.mem_cons, List.not_mem_nil, or_false] at hq
        rcases hq with rfl | rfl | rfl
        · exact hne1
        · exact hne2
        · exact hne3
      intro h13 F13 N13
      clear F12 N12
      dsimp only
      walk_at "mine steps"

      rename_i u2 tk14 hl14 h15 F15 N15
      refine ⟨rfl, _, _, _, [(le, W.listOf items 0), (lw, W.listOf #[.str (x0 ++ px) u1, .str x1 k1, .str (x2 ++ py) u2, .str x3 k3] ep)], rfl, F15, newsSub N15 ?_, ⟨_, _, _, _, _, _, _, _, ep, rfl, rfl, rfl, ?_, ?_, ?_, ?_, ?_, ?_, ?_, ?_⟩⟩
      · intro q hq
        simp only [List.mem_cons, List.not_mem_nil, or_false] at hq ⊢
        rcases hq with rfl | rfl | rfl | rfl <;> simp
      all_goals first
        | assumption
        | exact okText_append (by assumption) (by assumption)
        | (rw [Str.length_append]; omega)
        | omega
    · dsimp only
      walk_at "mine steps"
      refine get_led (v := .str x1 k1) (by assumption) (by k_mem) (by decide) (by decide) rfl ?_
      walk_at "mine steps"
      rename_i u1 tk12 hl12
      rename Fr _ _ _ _ => F12
      rename News _ _ _ _ => N12
      refine set_led (its' := #[.str x0 k0, .str (x1 ++ px) u1, .str x2 k2, .str x3 k3]) F12 (newsSub (news := [(lw, W.listOf #[.str x0 k0, .str x1 k1, .str x2 k2, .str x3 k3] ep), (H2.objs.size + 1, oe), (H2.objs.size, oi), (le, W.listOf items 0)]) N12 ?_) (Upd.head ?_) rfl (by decide) (show _ < ((4 : Nat) : Int) by decide) (by decide) ?_
      · intro q hq
        simp only [List.mem_cons, List.not_mem_nil, or_false] at hq ⊢
        rcases hq with rfl | rfl | rfl | rfl <;> simp
      · intro q hq
        simp only [List.mem_cons, List.not_mem_nil, or_false] at hq
        rcases hq with rfl | rfl | rfl
        · exact hne1
        · exact hne2
        · exact hne3
      intro h13 F13 N13
      clear F12 N12
      dsimp only
      walk_at "mine steps"

      rename_i u2 tk14 hl14 h15 F15 N15
      refine ⟨rfl, _, _, _, [(le, W.listOf items 0), (lw, W.listOf #[.str x0 k0, .str (x1 ++ px) u1, .str x2 k2, .str (x3 ++ py) u2] ep)], rfl, F15, newsSub N15 ?_, ⟨_, _, _, _, _, _, _, _, ep, rfl, rfl, rfl, ?_, ?_, ?_, ?_, ?_, ?_, ?_, ?_⟩⟩
      · intro q hq
        simp only [List.mem_cons, List.not_mem_nil, or_false] at hq ⊢
        rcases hq with rfl | rfl | rfl | rfl <;> simp
      all_goals first
        | assumption
        | exact okText_append (by assumption) (by assumption)
        | (rw [Str.length_append]; omega)
        | omega
  · rintro m₁ news₁ h tk ⟨x0, x1, x2, x3, k0, k1, k2, k3, ep, rfl, hmw, hms, ho0, ho1, ho2, ho3, hl0, hl1', hl2', hl3⟩ F6 N6
    rw [hsz] at hl0 hl1' hl2' hl3
    have F7 := frAs2 (x1 := Str.ofString "words") (x2 := Str.ofString "script") F6 hmw hms
    clear F6
    have hla : s.heap.IsList a vs.toArray := hp
    dsimp only
    have hXlo := fmod_lo (n := 10 ^ Int.toNat 12) (ns.sum.fdiv 3) (by decide)
    have hXhi : (ns.sum.fdiv 3).fmod (10 ^ Int.toNat 12) < 1000000000000 := fmod_hi (n := 10 ^ Int.toNat 12) (ns.sum.fdiv 3) (by decide)
    walk_at "mine steps"
    all_goals (
      rename Fr _ _ _ _ => F8
      rename News _ _ _ _ => N8
      refine Spec.use (six_spec w x0 x1 _ _ _ _ _ (by omega) (by omega) ?hll) B1 F8 X1 T1 N8 rfl rfl rfl rfl True.intro (room_ok hd (by decide)) (units_ok2 hu (by decide)) ?_
      case hll => clear F8 N8; show Int.natAbs _ < 100000000000000; omega
      rintro r1 tl1 h9 tk9 kp9 F9 N9 ⟨l1, ads1, ep1, rfl, hmem1, hones1⟩
      replace N9 := newsSub (news := (lw, W.listOf #[.str x0 k0, .str x1 k1, .str x2 k2, .str x3 k3] ep) :: tl1) N9 (by
        intro q hq
        rcases List.mem_cons.mp hq with rfl | hq
        · exact List.mem_append_right _ (by simp)
        · exact List.mem_append_left _ hq)
      dsimp only
      walk_at "mine steps"
      refine Spec.use (six_spec w x2 x3 _ _ _ _ _ (by omega) (by omega) ?hll2) B1 F9 X1 T1 N9 rfl rfl rfl rfl True.intro (room_ok hd (by decide)) (units_ok2 hu (by decide)) ?_
      case hll2 => clear F9 N9 F8 N8; show Int.natAbs _ < 100000000000000; omega
      rintro r2 tl2 h10 tk10 kp10 F10 N10 ⟨l2, ads2, ep2, rfl, hmem2, hones2⟩
      clear F9 N9 F8 N8
      dsimp only
      walk_at "mine steps")
    all_goals (
      rename Fr _ _ _ _ => F11
      rename News _ _ _ _ => N11
      have sub2 : ∀ p ∈ tl2, p ∈ ledOf N11 := fun p hp => List.mem_cons_of_mem _ (List.mem_append_left _ hp)
      have sub1 : ∀ p ∈ tl1, p ∈ ledOf N11 := fun p hp => List.mem_cons_of_mem _ (List.mem_append_right _ (List.mem_cons_of_mem _ hp))
      refine hret _ (ledOf N11) _ _ (Fr.keep F11) (freshOf N11) ⟨_, l1, l2, ads1, ads2, ep1, ep2, x0, x1, x2, x3, _, _, _, rfl, List.Mem.head _, sub1 _ hmem1, sub2 _ hmem2, hones1.mono sub1, hones2.mono sub2, ho0, ho1, ho2, ho3, by omega, by omega, by omega, by omega, ?_, ?_⟩
      · clear sub1 sub2 F11 N11; show Int.natAbs _ < 10000000000000; omega
      · clear sub1 sub2 F11 N11; show Int.natAbs _ < 10000000000000; omega)
end Mine
-- part PA
namespace Mine
open PySem.Builtin PySem.Builtin.Str
set_option maxRecDepth 100000
/-- a pattern's marks and a text that fits them: a sign its own, three dots anything -/
inductive Wild : List (Option Nat) → List Nat → Prop
  | nil : Wild [] []
  | sign (c : Nat) {r : List (Option Nat)} {t : List Nat} : Wild r t → Wild (some c :: r) (c :: t)
  | dots (u : List Nat) {r : List (Option Nat)} {t : List Nat} : Wild r t → Wild (none :: r) (u ++ t)
theorem wild_nil {t : List Nat} : Wild [] t ↔ t = [] := ⟨fun h => by cases h; rfl, fun h => h ▸ .nil⟩
theorem wild_sign {c : Nat} {r : List (Option Nat)} {t : List Nat} : Wild (some c :: r) t ↔ ∃ t', t = c :: t' ∧ Wild r t' :=
  ⟨fun h => by cases h with | sign _ h => exact ⟨_, rfl, h⟩, fun ⟨t', e, h⟩ => e ▸ .sign c h⟩
theorem wild_dots {r : List (Option Nat)} {t : List Nat} : Wild (none :: r) t ↔ ∃ u t', t = u ++ t' ∧ Wild r t' := by
  constructor
  · intro h
    generalize e : (none :: r : List (Option Nat)) = x at h
    cases h with
    | nil => cases e
    | sign => cases e
    | dots u h => cases e; exact ⟨u, _, rfl, h⟩
  · rintro ⟨u, t', rfl, h⟩
    exact .dots u h
theorem wild_append : ∀ (x y : List (Option Nat)) (t : List Nat), Wild (x ++ y) t ↔ ∃ t1 t2, t = t1 ++ t2 ∧ Wild x t1 ∧ Wild y t2
  | [], y, t => by
    constructor
    · intro h; exact ⟨[], t, rfl, .nil, h⟩
    · rintro ⟨t1, t2, rfl, h1, h2⟩
      cases h1; exact h2
  | some c :: x, y, t => by
    rw [List.cons_append, wild_sign]
    constructor
    · rintro ⟨t', rfl, h⟩
      obtain ⟨t1, t2, rfl, h1, h2⟩ := (wild_append x y t').mp h
      exact ⟨c :: t1, t2, rfl, .sign c h1, h2⟩
    · rintro ⟨t1, t2, rfl, h1, h2⟩
      obtain ⟨t', e5, h5⟩ := wild_sign.mp h1
      subst e5
      exact ⟨t' ++ t2, rfl, (wild_append x y _).mpr ⟨t', t2, rfl, h5, h2⟩⟩
  | none :: x, y, t => by
    rw [List.cons_append, wild_dots]
    constructor
    · rintro ⟨u, t', rfl, h⟩
      obtain ⟨t1, t2, rfl, h1, h2⟩ := (wild_append x y t').mp h
      exact ⟨u ++ t1, t2, by rw [List.append_assoc], .dots u h1, h2⟩
    · rintro ⟨t1, t2, rfl, h1, h2⟩
      obtain ⟨u, t', e5, h5⟩ := wild_dots.mp h1
      subst e5
      exact ⟨u, t' ++ t2, by rw [List.append_assoc], (wild_append x y _).mpr ⟨t', t2, rfl, h5, h2⟩⟩
theorem wild_signs : ∀ (w t : List Nat), Wild (w.map some) t ↔ t = w
  | [], t => wild_nil
  | c :: w, t => by
    rw [List.map_cons, wild_sign]
    constructor
    · rintro ⟨t', rfl, h⟩
      rw [(wild_signs w t').mp h]
    · rintro rfl
      exact ⟨w, rfl, (wild_signs w w).mpr rfl⟩
theorem wild_more {r : List (Option Nat)} {t : List Nat} (u : List Nat) (h : Wild (none :: r) t) : Wild (none :: r) (u ++ t) := by
  obtain ⟨v, t', e5, h5⟩ := wild_dots.mp h
  subst e5
  rw [← List.append_assoc]
  exact .dots _ h5
/-- a sign that the text holds once parts pattern and text -/
theorem wild_sep {c : Nat} {x y : List (Option Nat)} {a b : List Nat} (ha : c ∉ a) (hb : c ∉ b) : Wild (x ++ some c :: y) (a ++ c :: b) ↔ Wild x a ∧ Wild y b := by
  rw [wild_append]
  constructor
  · rintro ⟨t1, t2, e, h1, h2⟩
    obtain ⟨t3, e5, h5⟩ := wild_sign.mp h2
    subst e5
    have key : ∀ (a t1 : List Nat), c ∉ a → a ++ c :: b = t1 ++ c :: t3 → a = t1 ∧ b = t3 := by
      intro a
      induction a with
      | nil =>
        intro t1 _ e
        cases t1 with
        | nil => simp at e; exact ⟨rfl, e⟩
        | cons d t1 =>
          simp at e
          exact absurd (e.2 ▸ List.mem_append_right _ (.head _)) hb
      | cons d a ih =>
        intro t1 hn e
        cases t1 with
        | nil =>
          simp at e
          exact absurd (e.1 ▸ .head _) hn
        | cons d' t1 =>
          simp at e
          obtain ⟨e1, e2⟩ := ih t1 (fun q => hn (.tail _ q)) e.2
          exact ⟨by rw [e.1, e1], e2⟩
    obtain ⟨e1, e2⟩ := key a t1 ha e
    subst e1 e2
    exact ⟨h1, h5⟩
  · rintro ⟨h1, h2⟩
    exact ⟨a, c :: b, rfl, h1, .sign c h2⟩
theorem wild_nosep {c : Nat} {x y : List (Option Nat)} {t : List Nat} (ht : c ∉ t) : ¬ Wild (x ++ some c :: y) t := by
  intro h
  obtain ⟨t1, t2, rfl, _, h2⟩ := (wild_append _ _ _).mp h
  obtain ⟨t3, e5, _⟩ := wild_sign.mp h2
  subst e5
  exact ht (List.mem_append_right _ (.head _))
theorem toks_sep (c : Nat) (hc : c ≠ 46) (y : List Nat) : ∀ (n : Nat) (x : List Nat), x.length ≤ n → toks (x ++ c :: y) = toks x ++ some c :: toks y
  | n, [], _ => by
    rw [List.nil_append, toks_nil, List.nil_append]
    exact toks_sign _ _ (by simp [hc])
  | 0, a :: x, h => by simp at h
  | n + 1, a :: x, h => by
    by_cases q : (a :: x).take 3 = [46, 46, 46]
    · obtain ⟨x', rfl, e1⟩ : ∃ x', x = 46 :: 46 :: x' ∧ a = 46 := by
        cases x with
        | nil => simp at q
        | cons b x =>
          cases x with
          | nil => simp at q
          | cons d x =>
            simp at q
            exact ⟨x, by rw [q.2.1, q.2.2], q.1⟩
      subst e1
      rw [List.cons_append, List.cons_append, List.cons_append, toks_dots, toks_dots, toks_sep c hc y n x' (by simp at h; omega)]
      rfl
    · rw [toks_sign a x q, List.cons_append, toks_sign a (x ++ c :: y), toks_sep c hc y n x (by simp at h; omega)]
      · rfl
      · intro e
        apply q
        cases x with
        | nil => simp at e; exact absurd e.2.1 hc
        | cons b x =>
          cases x with
          | nil => simp at e; exact absurd e.2.2 hc
          | cons d x => simpa using e
theorem toks_app (c : Nat) (hc : c ≠ 46) (x y : List Nat) : toks (x ++ c :: y) = toks x ++ some c :: toks y := toks_sep c hc y x.length x (Nat.le_refl _)
theorem toks_plain : ∀ (x : List Nat), 46 ∉ x → toks x = x.map some
  | [], _ => toks_nil
  | a :: x, h => by
    rw [toks_sign a x, toks_plain x (fun q => h (.tail _ q))]
    · rfl
    · intro e
      apply h
      cases x with
      | nil => simp at e
      | cons b x => simp at e; rw [e.1]; exact .head _
/-- the places' road tells just that -/
theorem fit_iff (t : List Nat) : ∀ (r : List (Option Nat)) (ps : List Nat), (∀ x ∈ ps, x ≤ t.length) → ps.Pairwise (· < ·) → (t.length ∈ fitGo t r ps ↔ ∃ j ∈ ps, Wild r (t.drop j))
  | [], ps, hb, _ => by
    show t.length ∈ ps ↔ _
    constructor
    · intro h; exact ⟨_, h, by rw [List.drop_length]; exact .nil⟩
    · rintro ⟨j, hj, h⟩
      have e := wild_nil.mp h
      have := hb j hj
      have h5 := List.drop_eq_nil_iff.mp e
      have : j = t.length := by omega
      exact this ▸ hj
  | none :: r, [], hb, hs => by
    show t.length ∈ fitGo t r [] ↔ _
    rw [fit_iff t r [] hb hs]
    simp
  | none :: r, a :: ps, hb, hs => by
    show t.length ∈ fitGo t r (List.range' a (t.length + 1 - a)) ↔ _
    have ha := hb a (.head _)
    rw [fit_iff t r _ (fun x hx => by have := List.mem_range'_1.mp hx; omega) (List.pairwise_lt_range')]
    constructor
    · rintro ⟨k, hk, h⟩
      have hk' := List.mem_range'_1.mp hk
      refine ⟨a, .head _, wild_dots.mpr ⟨(t.drop a).take (k - a), t.drop k, ?_, h⟩⟩
      have e : t.drop k = (t.drop a).drop (k - a) := by rw [List.drop_drop]; congr 1; omega
      rw [e, List.take_append_drop]
    · rintro ⟨j, hj, h⟩
      obtain ⟨u, t', e, h⟩ := wild_dots.mp h
      have hj2 := hb j hj
      have haj : a ≤ j := by
        rcases List.mem_cons.mp hj with rfl | hj
        · exact Nat.le_refl _
        · exact Nat.le_of_lt ((List.pairwise_cons.mp hs).1 j hj)
      have hl := congrArg List.length e
      simp only [List.length_drop, List.length_append] at hl
      refine ⟨j + u.length, List.mem_range'_1.mpr ⟨by omega, by omega⟩, ?_⟩
      have e2 : t.drop (j + u.length) = t' := by
        rw [← List.drop_drop, e, List.drop_left]
      rw [e2]; exact h
  | some c :: r, ps, hb, hs => by
    show t.length ∈ fitGo t r ((ps.filter fun j => decide (t[j]? = some c)).map (· + 1)) ↔ _
    have hget : ∀ j, t[j]? = some c → t.drop j = c :: t.drop (j + 1) := fun j h => by
      rw [List.drop_eq_getElem_cons (List.getElem?_eq_some_iff.mp h).1, (List.getElem?_eq_some_iff.mp h).2]
    rw [fit_iff t r]
    · constructor
      · rintro ⟨k, hk, h⟩
        obtain ⟨j, hj, rfl⟩ := List.mem_map.mp hk
        have hj2 := List.mem_filter.mp hj
        have hc := of_decide_eq_true hj2.2
        exact ⟨j, hj2.1, by rw [hget j hc]; exact .sign c h⟩
      · rintro ⟨j, hj, h⟩
        obtain ⟨t', e, h⟩ := wild_sign.mp h
        have hc : t[j]? = some c := by
          have : (t.drop j)[0]? = some c := by rw [e]; rfl
          rw [List.getElem?_drop] at this
          simpa using this
        refine ⟨j + 1, List.mem_map_of_mem (List.mem_filter.mpr ⟨hj, decide_eq_true hc⟩), ?_⟩
        rw [hget j hc] at e
        rw [List.cons.inj e |>.2]
        exact h
    · intro x hx
      obtain ⟨j, hj, rfl⟩ := List.mem_map.mp hx
      have h5 := of_decide_eq_true (List.mem_filter.mp hj).2
      have h6 := (List.getElem?_eq_some_iff.mp h5).1
      omega
    · exact List.Pairwise.map _ (fun a b h => by omega) (hs.filter _)
theorem fits_iff (p t : Str) : fitsS p t = true ↔ Wild (toks p.cps.toList) t.cps.toList := by
  unfold fitsS
  have e : t.length = t.cps.toList.length := by simp [Str.length]
  rw [decide_eq_true_eq, e, fit_iff _ _ [0] (fun x hx => by simp at hx; omega) (by simp)]
  simp
end Mine
-- part PB
namespace Mine
open PySem.Builtin PySem.Builtin.Str
set_option maxRecDepth 100000
theorem at_dots (p : Str) (k : Nat) : StrLaws.At p dots p.length k ↔ (p.cps.toList.drop k).take 3 = [46, 46, 46] := by
  have h1 : dots.length = 3 := by decide +kernel
  have h2 : dots.cps.toList = [46, 46, 46] := by decide +kernel
  have hs : p.cps.toList.length = p.length := by simp [Str.length]
  unfold StrLaws.At
  rw [StrLaws.subAt_eq, h1, h2, beq_iff_eq]
  constructor
  · exact fun h => h.2
  · intro h
    refine ⟨?_, h⟩
    have hl := congrArg List.length h
    simp only [List.length_take, List.length_drop, List.length_cons, List.length_nil] at hl
    omega
theorem toks_run (P : List Nat) : ∀ (n a : Nat), (∀ k, a ≤ k → k < a + n → ¬ (P.drop k).take 3 = [46, 46, 46]) → a + n ≤ P.length → toks (P.drop a) = ((P.drop a).take n).map some ++ toks (P.drop (a + n))
  | 0, a, _, _ => by simp
  | n + 1, a, h, hl => by
    have e : P.drop a = P[a]'(by omega) :: P.drop (a + 1) := List.drop_eq_getElem_cons (by omega)
    have h0 := h a (Nat.le_refl _) (by omega)
    have e2 : a + (n + 1) = a + 1 + n := by omega
    rw [e] at h0
    rw [e, toks_sign _ _ h0, toks_run P n (a + 1) (fun k h1 h2 => h k (by omega) (by omega)) (by omega), e2]
    rfl
/-- the words behind the first, each behind its dots -/
def tailT : List Str → List (Option Nat)
  | [] => []
  | w :: r => none :: (w.cps.toList.map some ++ tailT r)
def midT : List Str → List (Option Nat)
  | [] => [none]
  | w :: r => none :: (w.cps.toList.map some ++ midT r)
theorem tail_mid (y : Str) : ∀ (l : List Str), tailT (l ++ [y]) = midT l ++ y.cps.toList.map some
  | [] => by simp [tailT, midT]
  | w :: l => by
    show none :: (w.cps.toList.map some ++ tailT (l ++ [y])) = none :: (w.cps.toList.map some ++ midT l) ++ _
    rw [tail_mid y l]
    simp
theorem toks_parts (p : Str) : ∀ (cuts : List Nat) (a f : Nat), a ≤ p.length → StrLaws.ChainG p dots p.length a cuts f → (∀ k, f ≤ k → ¬ StrLaws.At p dots p.length k) → ∃ w r, StrLaws.partsFrom p 3 a cuts = w :: r ∧ r.length = cuts.length ∧ toks (p.cps.toList.drop a) = w.cps.toList.map some ++ tailT r
  | [], a, f, ha, hG, hn => by
    have hs : p.cps.toList.length = p.length := by simp [Str.length]
    have ef : f = a := hG
    subst ef
    refine ⟨_, _, rfl, rfl, ?_⟩
    rw [StrLaws.strSub_toList, toks_run _ (p.length - f) f (fun k h1 _ h3 => hn k h1 ((at_dots p k).mpr h3)) (by omega)]
    have e : f + (p.length - f) = p.cps.toList.length := by omega
    rw [e, List.drop_length, toks_nil]
    rfl
  | c :: r, a, f, ha, hG, hn => by
    have hs : p.cps.toList.length = p.length := by simp [Str.length]
    have h1 : dots.length = 3 := by decide +kernel
    obtain ⟨hac, hA, hno, hG2⟩ := hG
    rw [h1] at hG2
    have hA1 := hA.1
    rw [h1] at hA1
    obtain ⟨w2, r2, e2, e3, e4⟩ := toks_parts p r (c + 3) f (by omega) hG2 hn
    refine ⟨strSub p a c, w2 :: r2, ?_, by simp [e3], ?_⟩
    · show strSub p a c :: StrLaws.partsFrom p 3 (c + 3) r = _
      rw [e2]
    · rw [StrLaws.strSub_toList, toks_run _ (c - a) a (fun k h1 h2 h3 => hno k h1 (by omega) ((at_dots p k).mpr h3)) (by omega)]
      have e : a + (c - a) = c := by omega
      rw [e]
      have h5 := (at_dots p c).mp hA
      have e5 : p.cps.toList.drop c = 46 :: 46 :: 46 :: p.cps.toList.drop (c + 3) := by
        have h6 := List.take_append_drop 3 (p.cps.toList.drop c)
        rw [h5, List.drop_drop] at h6
        rw [← h6]; rfl
      rw [e5, toks_dots, e4]
      rfl
theorem toks_none (p : Str) (h : (occurrences p dots 0 p.length 1).isEmpty = true) : toks p.cps.toList = p.cps.toList.map some := by
  have hs : p.cps.toList.length = p.length := by simp [Str.length]
  have hn : ∀ k, ¬ StrLaws.At p dots p.length k := fun k hk => by
    have := (StrLaws.found_iff p dots).mpr ⟨k, hk.1, hk.2⟩
    rw [h] at this
    exact absurd this (by decide)
  have e := toks_run p.cps.toList p.length 0 (fun k _ _ h3 => hn k ((at_dots p k).mpr h3)) (by omega)
  rw [List.drop_zero, List.take_of_length_le (by omega), List.drop_eq_nil_of_le (by omega), toks_nil, List.append_nil] at e
  exact e
def seg (T : List Nat) (a b : Nat) : List Nat := (T.drop a).take (b - a)
theorem seg_len (T : List Nat) (a b : Nat) (h : b ≤ T.length) : (seg T a b).length = b - a := by
  unfold seg
  simp
  omega
theorem seg_cat (T : List Nat) {a c b : Nat} (h1 : a ≤ c) (h2 : c ≤ b) : seg T a b = seg T a c ++ seg T c b := by
  unfold seg
  have e : T.drop c = (T.drop a).drop (c - a) := by rw [List.drop_drop]; congr 1; omega
  have e2 : b - a = (c - a) + (b - c) := by omega
  rw [e, e2, List.take_add]
theorem seg_app (T : List Nat) {a b : Nat} {u v : List Nat} (hb : b ≤ T.length) (hab : a ≤ b) (e : seg T a b = u ++ v) : a + u.length ≤ b ∧ seg T a (a + u.length) = u ∧ seg T (a + u.length) b = v := by
  have hl := congrArg List.length e
  rw [seg_len T a b hb, List.length_append] at hl
  have h1 : a + u.length ≤ b := by omega
  rw [seg_cat T (show a ≤ a + u.length by omega) h1] at e
  have h2 := List.append_inj e (by rw [seg_len T _ _ (by omega)]; omega)
  exact ⟨h1, h2.1, h2.2⟩
theorem seg_to (T : List Nat) (a : Nat) : seg T a T.length = T.drop a := List.take_of_length_le (by simp)
theorem at_seg (t w : Str) (b i : Nat) : StrLaws.At t w b i ↔ i + w.length ≤ b ∧ seg t.cps.toList i (i + w.length) = w.cps.toList := by
  unfold StrLaws.At seg
  rw [StrLaws.subAt_eq, beq_iff_eq, Nat.add_sub_cancel_left]
theorem find_cases (t w : Str) (a b : Nat) (hb : b ≤ t.length) : (find4 t w a b = -1 ∧ ∀ i : Nat, a ≤ i → ¬ StrLaws.At t w b i) ∨ ∃ i : Nat, find4 t w a b = (i : Int) ∧ a ≤ i ∧ StrLaws.At t w b i ∧ ∀ k : Nat, a ≤ k → k < i → ¬ StrLaws.At t w b k := by
  have e1 : fromIndex t.length (a : Int) = a := by unfold fromIndex; rw [if_neg (by omega)]; omega
  have e2 : min (fromIndex t.length (b : Int)) t.length = b := by unfold fromIndex; rw [if_neg (by omega)]; omega
  unfold find4
  rw [e1, e2, StrLaws.occ_eq]
  rcases StrLaws.occ_first t w b 1 (Nat.le_refl 1) (List.range' a (b + 1 - a)) a (fun i hi => (List.mem_range'_1.mp hi).1) with ⟨h0, hn⟩ | ⟨pre, i, post, e, h0, hA, hn⟩
  · left
    rw [h0]
    refine ⟨rfl, fun i hi hA => hn i (List.mem_range'_1.mpr ⟨hi, ?_⟩) hA⟩
    have := hA.1
    omega
  · right
    obtain ⟨h5, h6⟩ := StrLaws.range'_split_from e
    refine ⟨i, ?_, h5, hA, fun k h1 h2 => hn k (h6 k h1 h2)⟩
    have h7 : (forIn (List.range' a (b + 1 - a)) ((#[] : Array Nat), a) (StrLaws.occBody t w b 1)).run.fst.toList[0]? = some i := by
      rw [Array.getElem?_toList]; exact h0
    generalize (forIn (List.range' a (b + 1 - a)) ((#[] : Array Nat), a) (StrLaws.occBody t w b 1)).run.fst.toList = l at h7
    cases l with
    | nil => simp at h7
    | cons x l => simp at h7; rw [h7]
theorem mid_more (ws : List Str) {s : List Nat} (u : List Nat) (h : Wild (midT ws) s) : Wild (midT ws) (u ++ s) := by
  cases ws with
  | nil => exact wild_more u h
  | cons w ws => exact wild_more u h
theorem loop_iff (t : Str) (b : Nat) (hb : b ≤ t.length) : ∀ (ws : List Str) (a : Nat), a ≤ b → (mLoop t b ws a = true ↔ Wild (midT ws) (seg t.cps.toList a b))
  | [], a, _ => by
    refine ⟨fun _ => ?_, fun _ => rfl⟩
    have h := Wild.dots (seg t.cps.toList a b) .nil
    rw [List.append_nil] at h
    exact h
  | w :: ws, a, ha => by
    have hs : t.cps.toList.length = t.length := by simp [Str.length]
    have hw : w.cps.toList.length = w.length := by simp [Str.length]
    have step : Wild (midT (w :: ws)) (seg t.cps.toList a b) ↔ ∃ u v, seg t.cps.toList a b = u ++ (w.cps.toList ++ v) ∧ Wild (midT ws) v := by
      show Wild (none :: (w.cps.toList.map some ++ midT ws)) _ ↔ _
      rw [wild_dots]
      constructor
      · rintro ⟨u, t', e, h⟩
        obtain ⟨t1, t2, e2, h1, h2⟩ := (wild_append _ _ _).mp h
        rw [wild_signs] at h1
        subst h1
        exact ⟨u, t2, by rw [e, e2], h2⟩
      · rintro ⟨u, v, e, h⟩
        exact ⟨u, _, e, (wild_append _ _ _).mpr ⟨_, v, rfl, (wild_signs _ _).mpr rfl, h⟩⟩
    rw [step]
    have cut : ∀ u v, seg t.cps.toList a b = u ++ (w.cps.toList ++ v) → StrLaws.At t w b (a + u.length) ∧ seg t.cps.toList (a + u.length + w.length) b = v := by
      intro u v e
      obtain ⟨h1, _, h3⟩ := seg_app _ (by omega) ha e
      obtain ⟨h4, h5, h6⟩ := seg_app _ (by omega) h1 h3
      rw [hw] at h4 h5 h6
      exact ⟨(at_seg t w b _).mpr ⟨h4, h5⟩, h6⟩
    show (if find4 t w a b < 0 then false else mLoop t b ws (find4 t w a b + (w.length : Int))) = true ↔ _
    rcases find_cases t w a b hb with ⟨e, hn⟩ | ⟨i, e, hi, hA, hn⟩
    · rw [e, if_pos (by decide)]
      refine ⟨fun h => absurd h (by decide), ?_⟩
      rintro ⟨u, v, e5, _⟩
      exact absurd (cut u v e5).1 (hn _ (by omega))
    · have hA' := (at_seg t w b i).mp hA
      rw [e, if_neg (by omega), show (i : Int) + (w.length : Int) = ((i + w.length : Nat) : Int) by omega, loop_iff t b hb ws (i + w.length) hA'.1]
      constructor
      · intro h
        refine ⟨seg t.cps.toList a i, _, ?_, h⟩
        rw [seg_cat _ hi (show i ≤ b by omega), seg_cat _ (show i ≤ i + w.length by omega) hA'.1, hA'.2]
      · rintro ⟨u, v, e5, h5⟩
        obtain ⟨h6, h7⟩ := cut u v e5
        have h8 : i ≤ a + u.length := Nat.le_of_not_lt fun q => hn _ (by omega) q h6
        have h9 := h6.1
        rw [seg_cat _ (show i + w.length ≤ a + u.length + w.length by omega) h9, h7]
        exact mid_more ws _ h5
theorem mid_last (y : Str) (hy : y.cps.toList = []) : ∀ (l : List Str) (s : List Nat), Wild (midT (l ++ [y])) s ↔ Wild (midT l) s
  | [], s => by
    show Wild (none :: (y.cps.toList.map some ++ [none])) s ↔ Wild [none] s
    rw [hy]
    constructor
    · intro _
      have h := Wild.dots s .nil
      rwa [List.append_nil] at h
    · intro h
      exact .dots [] h
  | w :: l, s => by
    show Wild (none :: (w.cps.toList.map some ++ midT (l ++ [y]))) s ↔ Wild (none :: (w.cps.toList.map some ++ midT l)) s
    rw [wild_dots, wild_dots]
    have key : ∀ x, Wild (w.cps.toList.map some ++ midT (l ++ [y])) x ↔ Wild (w.cps.toList.map some ++ midT l) x := by
      intro x
      rw [wild_append, wild_append]
      simp only [mid_last y hy l]
    simp only [key]
theorem end_iff (t y : Str) (l : List Str) (a : Nat) : mEnd t a (l ++ [y]) = true ↔ a ≤ t.length ∧ ∃ u, t.cps.toList.drop a = u ++ y.cps.toList ∧ Wild (midT l) u := by
  have hs : t.cps.toList.length = t.length := by simp [Str.length]
  have hy : y.cps.toList.length = y.length := by simp [Str.length]
  by_cases h0 : y.length = 0
  · have hy0 : y.cps.toList = [] := List.eq_nil_of_length_eq_zero (by omega)
    rw [mEnd_empty h0]
    by_cases ha : (t.length : Int) < a
    · rw [if_pos ha]
      refine ⟨fun h => absurd h (by decide), fun h => ?_⟩
      have := h.1
      omega
    · rw [if_neg ha, loop_iff t t.length (Nat.le_refl _) _ a (by omega), mid_last y hy0, ← hs, seg_to, hy0]
      constructor
      · intro h; exact ⟨by omega, _, (List.append_nil _).symm, h⟩
      · rintro ⟨_, u, e, h⟩
        rw [List.append_nil] at e
        rw [e]; exact h
  · have hend : Txt.endswith t y = true ↔ y.length ≤ t.length ∧ t.cps.toList.drop (t.length - y.length) = y.cps.toList := by
      unfold Txt.endswith
      rw [Bool.and_eq_true, decide_eq_true_eq, StrLaws.subAt_eq, beq_iff_eq]
      constructor
      · rintro ⟨h1, h2⟩
        rw [List.take_of_length_le (by rw [List.length_drop]; omega)] at h2
        exact ⟨by omega, h2⟩
      · rintro ⟨h1, h2⟩
        refine ⟨by omega, ?_⟩
        rw [List.take_of_length_le (by rw [List.length_drop]; omega)]
        exact h2
    have need : ∀ u, a ≤ t.length → t.cps.toList.drop a = u ++ y.cps.toList → y.length + a ≤ t.length ∧ t.cps.toList.drop (t.length - y.length) = y.cps.toList ∧ seg t.cps.toList a (t.length - y.length) = u := by
      intro u ha e
      have hl := congrArg List.length e
      rw [List.length_drop, List.length_append] at hl
      rw [← seg_to] at e
      obtain ⟨h1, h2, h3⟩ := seg_app _ (Nat.le_refl _) (by omega) e
      have e3 : a + u.length = t.length - y.length := by omega
      rw [e3] at h2 h3
      rw [seg_to] at h3
      exact ⟨by omega, h3, h2⟩
    cases he : Txt.endswith t y with
    | false =>
      rw [mEnd_no h0 he]
      refine ⟨fun h => absurd h (by decide), ?_⟩
      rintro ⟨ha, u, e, _⟩
      obtain ⟨h1, h2, _⟩ := need u ha e
      rw [hend.mpr ⟨by omega, h2⟩] at he
      exact absurd he (by decide)
    | true =>
      rw [mEnd_yes h0 he]
      obtain ⟨h1, h2⟩ := hend.mp he
      by_cases ha : (t.length : Int) - (y.length : Int) < a
      · rw [if_pos ha]
        refine ⟨fun h => absurd h (by decide), ?_⟩
        rintro ⟨ha2, u, e, _⟩
        have := (need u ha2 e).1
        omega
      · rw [if_neg ha, show (t.length : Int) - (y.length : Int) = ((t.length - y.length : Nat) : Int) by omega, loop_iff t _ (by omega) _ a (by omega)]
        constructor
        · intro h
          refine ⟨by omega, _, ?_, h⟩
          rw [← seg_to, seg_cat t.cps.toList (show a ≤ t.length - y.length by omega) (by omega), seg_to, h2]
        · rintro ⟨ha2, u, e, h⟩
          rw [(need u ha2 e).2.2]; exact h
theorem start_iff (t x y : Str) (l : List Str) : mStart t (x :: (l ++ [y])) = true ↔ ∃ u, t.cps.toList = x.cps.toList ++ (u ++ y.cps.toList) ∧ Wild (midT l) u := by
  have hs : t.cps.toList.length = t.length := by simp [Str.length]
  have hx : x.cps.toList.length = x.length := by simp [Str.length]
  by_cases h0 : x.length = 0
  · have hx0 : x.cps.toList = [] := List.eq_nil_of_length_eq_zero (by omega)
    rw [mStart_empty h0]
    have e := end_iff t y (x :: l) 0
    rw [List.cons_append] at e
    rw [show (0 : Int) = ((0 : Nat) : Int) from rfl, e, hx0]
    have key : ∀ u, Wild (midT (x :: l)) u ↔ Wild (midT l) u := by
      intro u
      show Wild (none :: (x.cps.toList.map some ++ midT l)) u ↔ _
      rw [hx0, wild_dots]
      constructor
      · rintro ⟨v, t', rfl, h⟩
        exact mid_more l v h
      · intro h
        exact ⟨[], u, rfl, h⟩
    simp only [key, List.drop_zero, List.nil_append]
    exact ⟨fun h => h.2, fun h => ⟨Nat.zero_le _, h⟩⟩
  · have hst : Txt.startswith t x = true ↔ t.cps.toList.take x.length = x.cps.toList := by
      unfold Txt.startswith
      rw [Bool.and_eq_true, decide_eq_true_eq, StrLaws.subAt_eq, beq_iff_eq, List.drop_zero]
      constructor
      · exact fun h => h.2
      · intro h
        refine ⟨?_, h⟩
        have := congrArg List.length h
        rw [List.length_take] at this
        omega
    cases he : Txt.startswith t x with
    | false =>
      rw [mStart_no h0 he]
      refine ⟨fun h => absurd h (by decide), ?_⟩
      rintro ⟨u, e, _⟩
      have : Txt.startswith t x = true := hst.mpr (by rw [e, ← hx, List.take_left])
      rw [this] at he
      exact absurd he (by decide)
    | true =>
      rw [mStart_yes h0 he, end_iff]
      have h1 := hst.mp he
      have h2 := List.take_append_drop x.length t.cps.toList
      rw [h1] at h2
      have h3 : x.length ≤ t.length := by
        have := congrArg List.length h1
        rw [List.length_take] at this
        omega
      constructor
      · rintro ⟨_, u, e, h⟩
        exact ⟨u, by rw [← e, h2], h⟩
      · rintro ⟨u, e, h⟩
        refine ⟨h3, u, ?_, h⟩
        rw [e, ← hx, List.drop_left]
theorem match_iff (p t : Str) : matchS p t = true ↔ Wild (toks p.cps.toList) t.cps.toList := by
  unfold matchS
  cases h : (occurrences p dots 0 p.length 1).isEmpty with
  | true =>
    rw [if_pos rfl, toks_none p h, wild_signs, beq_iff_eq]
    constructor
    · intro e; rw [e]
    · intro e; exact (Str.ext' (Array.toList_inj.mp e)).symm
  | false =>
    rw [if_neg (by decide)]
    obtain ⟨c, r, f, e, hG, hn⟩ := split_cuts p h
    obtain ⟨x, l, e2, e3, e4⟩ := toks_parts p (c :: r) 0 f (Nat.zero_le _) hG hn
    rw [e, e2]
    rw [List.drop_zero] at e4
    have hne : l ≠ [] := by
      intro q
      rw [q] at e3
      simp at e3
    obtain ⟨l', y, rfl⟩ : ∃ l' y, l = l' ++ [y] := ⟨l.dropLast, l.getLast hne, (List.dropLast_concat_getLast hne).symm⟩
    rw [start_iff, e4, tail_mid, wild_append]
    constructor
    · rintro ⟨u, e5, h5⟩
      exact ⟨_, _, e5, (wild_signs _ _).mpr rfl, (wild_append _ _ _).mpr ⟨u, _, rfl, h5, (wild_signs _ _).mpr rfl⟩⟩
    · rintro ⟨t1, t2, e5, h5, h6⟩
      obtain ⟨t3, t4, e6, h7, h8⟩ := (wild_append _ _ _).mp h6
      rw [wild_signs] at h5 h8
      subst h5 h8
      exact ⟨t3, by rw [e5, e6], h7⟩
/-- the greedy road and the road of all places agree -/
theorem match_fits (p t : Str) : matchS p t = fitsS p t := by
  rw [Bool.eq_iff_iff, match_iff, fits_iff]
end Mine
-- part PG
namespace Mine
open PySem.Builtin PySem.Builtin.Str
set_option maxRecDepth 100000
def OneGood (o : One) : Prop := o.Ok ∧ fssS o.file o.line (tripleName o) = textS o ∧ (tripleName o).length ≤ 102
theorem starts_iff (x y : Str) : Txt.startswith x y = true ↔ ∃ u, x.cps.toList = y.cps.toList ++ u := by
  have hx : x.cps.toList.length = x.length := by simp [Str.length]
  have hy : y.cps.toList.length = y.length := by simp [Str.length]
  unfold Txt.startswith
  rw [Bool.and_eq_true, decide_eq_true_eq, StrLaws.subAt_eq, beq_iff_eq, List.drop_zero]
  constructor
  · rintro ⟨_, h⟩
    refine ⟨x.cps.toList.drop y.length, ?_⟩
    rw [← h, List.take_append_drop]
  · rintro ⟨u, e⟩
    have hl := congrArg List.length e
    rw [List.length_append] at hl
    refine ⟨by omega, ?_⟩
    rw [e, ← hy, List.take_left]
theorem ends_iff (x y : Str) : Txt.endswith x y = true ↔ ∃ u, x.cps.toList = u ++ y.cps.toList := by
  have hx : x.cps.toList.length = x.length := by simp [Str.length]
  have hy : y.cps.toList.length = y.length := by simp [Str.length]
  unfold Txt.endswith
  rw [Bool.and_eq_true, decide_eq_true_eq, StrLaws.subAt_eq, beq_iff_eq]
  constructor
  · rintro ⟨h1, h⟩
    rw [List.take_of_length_le (by rw [List.length_drop]; omega)] at h
    refine ⟨x.cps.toList.take (x.length - y.length), ?_⟩
    rw [← h, List.take_append_drop]
  · rintro ⟨u, e⟩
    have hl := congrArg List.length e
    rw [List.length_append] at hl
    refine ⟨by omega, ?_⟩
    have e2 : x.length - y.length = u.length := by omega
    rw [e2, e, List.drop_left, ← hy, List.take_length]
theorem cat_list (x y : Str) : (x ++ y).cps.toList = x.cps.toList ++ y.cps.toList := by
  show (x.cps ++ y.cps).toList = _
  simp
theorem lt_list : (Str.ofString "<").cps.toList = [60] := by decide +kernel
theorem gt_list : (Str.ofString ">").cps.toList = [62] := by decide +kernel
theorem ob_list : (Str.ofString "{").cps.toList = [123] := by decide +kernel
theorem cb_list : (Str.ofString "}").cps.toList = [125] := by decide +kernel
theorem op_list : (Str.ofString "(").cps.toList = [40] := by decide +kernel
theorem cp_list : (Str.ofString ")").cps.toList = [41] := by decide +kernel
theorem co_list : (Str.ofString ":").cps.toList = [58] := by decide +kernel
theorem ti_list : (Str.ofString "~").cps.toList = [126] := by decide +kernel
theorem str_ext {x y : Str} (h : x.cps.toList = y.cps.toList) : x = y := Str.ext' (Array.toList_inj.mp h)
theorem slice_in (n : Str) : Txt.slice (Str.ofString "<" ++ n ++ Str.ofString ">") (some 1) (some (-1)) = n := by
  have hn : n.cps.toList.length = n.length := by simp [Str.length]
  have hl : (Str.ofString "<" ++ n ++ Str.ofString ">").length = n.length + 2 := by
    rw [Str.length_append, Str.length_append]
    have e1 : (Str.ofString "<").length = 1 := by decide +kernel
    have e2 : (Str.ofString ">").length = 1 := by decide +kernel
    omega
  have e : Txt.slice (Str.ofString "<" ++ n ++ Str.ofString ">") (some 1) (some (-1)) = Txt.slice (Str.ofString "<" ++ n ++ Str.ofString ">") (some ((1 : Nat) : Int)) (some ((n.length + 1 : Nat) : Int)) := by
    unfold Txt.slice
    rw [StrLaws.sliceIdx_neg_hi (some 1) (j := -1) _ (by decide) (by rw [hl]; omega)]
    have e3 : (-1 : Int) + ((Str.ofString "<" ++ n ++ Str.ofString ">").length : Int) = ((n.length + 1 : Nat) : Int) := by rw [hl]; omega
    rw [e3]
    rfl
  rw [e]
  apply str_ext
  rw [slice_list, cat_list, cat_list, lt_list, gt_list, List.append_assoc, List.singleton_append, List.drop_one, List.tail_cons, Nat.add_sub_cancel, ← hn, List.take_left]
theorem ok_no {x : Str} (h : okText x) {c : Nat} (hc : okSign c = false) : c ∉ x.cps.toList := fun q => by
  rw [h c q] at hc
  exact absurd hc (by decide)
theorem k_rb : (Str.ofString "row" == Str.ofString "braces") = false := by decide +kernel
theorem k_rr : (Str.ofString "row" == Str.ofString "row") = true := by decide +kernel
theorem k_rl : (Str.ofString "row" == Str.ofString "lone") = false := by decide +kernel
theorem k_br : (Str.ofString "braces" == Str.ofString "row") = false := by decide +kernel
theorem k_bb : (Str.ofString "braces" == Str.ofString "braces") = true := by decide +kernel
theorem k_bl : (Str.ofString "braces" == Str.ofString "lone") = false := by decide +kernel
theorem k_lr : (Str.ofString "lone" == Str.ofString "row") = false := by decide +kernel
theorem k_lb : (Str.ofString "lone" == Str.ofString "braces") = false := by decide +kernel
theorem k_ll : (Str.ofString "lone" == Str.ofString "lone") = true := by decide +kernel
theorem row_good {file name : Str} {line : Int} (h1 : file.length ≤ 100) (h2 : name.length ≤ 100) (h3 : line.natAbs < 10 ^ 14) (h : (file == Str.ofString "~" && line == 0) = false) : OneGood ⟨Str.ofString "row", file, line, name⟩ := by
  refine ⟨⟨h1, h2, h3⟩, ?_, ?_⟩
  · unfold fssS tripleName textS
    dsimp only
    rw [k_rb, k_rr, h]
    rfl
  · unfold tripleName
    dsimp only
    rw [k_rb]
    show name.length ≤ 102
    omega
theorem lone_good {name : Str} (h2 : name.length ≤ 100) (h : (Txt.startswith name (Str.ofString "<") && Txt.endswith name (Str.ofString ">")) = false) : OneGood ⟨Str.ofString "lone", Str.ofString "~", 0, name⟩ := by
  have e1 : (Str.ofString "~").length = 1 := by decide +kernel
  refine ⟨⟨by show (Str.ofString "~").length ≤ 100; omega, h2, by show (0 : Int).natAbs < _; decide⟩, ?_, ?_⟩
  · unfold fssS tripleName textS
    dsimp only
    rw [k_lb, k_lr, if_pos (show (Str.ofString "~" == Str.ofString "~" && (0 : Int) == 0) = true by decide +kernel)]
    show (if (Txt.startswith name (Str.ofString "<") && Txt.endswith name (Str.ofString ">")) = true then _ else name) = name
    rw [h]
    rfl
  · unfold tripleName
    dsimp only
    rw [k_lb]
    show name.length ≤ 102
    omega
theorem braces_good {name : Str} (h2 : name.length ≤ 100) : OneGood ⟨Str.ofString "braces", Str.ofString "~", 0, name⟩ := by
  have e1 : (Str.ofString "~").length = 1 := by decide +kernel
  refine ⟨⟨by show (Str.ofString "~").length ≤ 100; omega, h2, by show (0 : Int).natAbs < _; decide⟩, ?_, ?_⟩
  · unfold fssS tripleName textS
    dsimp only
    rw [k_bb, k_br, if_pos (show (Str.ofString "~" == Str.ofString "~" && (0 : Int) == 0) = true by decide +kernel)]
    have h5 : Txt.startswith (Str.ofString "<" ++ name ++ Str.ofString ">") (Str.ofString "<") = true := (starts_iff _ _).mpr ⟨name.cps.toList ++ [62], by rw [cat_list, cat_list, lt_list, gt_list, List.append_assoc]⟩
    have h6 : Txt.endswith (Str.ofString "<" ++ name ++ Str.ofString ">") (Str.ofString ">") = true := (ends_iff _ _).mpr ⟨_, cat_list _ _⟩
    show (if (Txt.startswith (Str.ofString "<" ++ name ++ Str.ofString ">") (Str.ofString "<") && Txt.endswith (Str.ofString "<" ++ name ++ Str.ofString ">") (Str.ofString ">")) = true then Str.ofString "{" ++ Txt.slice (Str.ofString "<" ++ name ++ Str.ofString ">") (some 1) (some (-1)) ++ Str.ofString "}" else _) = Str.ofString "{" ++ name ++ Str.ofString "}"
    rw [h5, h6, if_pos (by rfl), slice_in]
  · unfold tripleName
    dsimp only
    rw [k_bb]
    show (Str.ofString "<" ++ name ++ Str.ofString ">").length ≤ 102
    rw [Str.length_append, Str.length_append]
    have e1 : (Str.ofString "<").length = 1 := by decide +kernel
    have e2 : (Str.ofString ">").length = 1 := by decide +kernel
    omega
theorem six_good (f n : Str) (line : Int) (odd : Bool) (of : okText f) (on : okText n) (lf : f.length ≤ 30) (ln : n.length ≤ 30) (hl : line.natAbs < 10 ^ 13) : ∀ o ∈ sixL f line n odd, OneGood o := by
  have e1 : (Str.ofString "<").length = 1 := by decide +kernel
  have e2 : (Str.ofString ">").length = 1 := by decide +kernel
  have e3 : (Str.ofString "~").length = 1 := by decide +kernel
  have hf : (f == Str.ofString "~") = false := by
    cases hq : f == Str.ofString "~" with
    | false => rfl
    | true =>
      have h5 : (126 : Nat) ∉ f.cps.toList := ok_no of (by decide)
      rw [beq_iff_eq.mp hq, ti_list] at h5
      exact absurd (.head _) h5
  have hln : (Str.ofString "<" ++ n ++ Str.ofString ">").length ≤ 100 := by
    rw [Str.length_append, Str.length_append]; omega
  have hlt : (60 : Nat) ∉ n.cps.toList := ok_no on (by decide)
  have hgt : (62 : Nat) ∉ n.cps.toList := ok_no on (by decide)
  have c1 : 10 ^ 13 < 10 ^ 14 := by decide
  intro o ho
  unfold sixL at ho
  simp only [List.mem_cons, List.not_mem_nil, or_false] at ho
  rcases ho with rfl | rfl | rfl | rfl | rfl | rfl
  · exact row_good (by omega) (by omega) (by omega) (by rw [hf]; rfl)
  · refine row_good (by omega) hln ?_ ?_
    · split <;> omega
    · have : (((if line < 0 then -line else line) + 1 : Int) == 0) = false := by
        rw [beq_eq_false_iff_ne]
        split <;> omega
      rw [this, Bool.and_false]
  · exact row_good (by omega) hln (by decide) (by rw [hf]; rfl)
  · exact braces_good (by omega)
  · refine lone_good (by omega) ?_
    have : Txt.startswith n (Str.ofString "<") = false := by
      rw [Bool.eq_false_iff]
      intro q
      obtain ⟨u, e⟩ := (starts_iff _ _).mp q
      rw [lt_list] at e
      exact hlt (e ▸ .head _)
    rw [this, Bool.false_and]
  · cases odd with
    | true =>
      refine lone_good (by rw [if_pos rfl, Str.length_append]; omega) ?_
      rw [if_pos rfl]
      have : Txt.startswith (n ++ Str.ofString ">") (Str.ofString "<") = false := by
        rw [Bool.eq_false_iff]
        intro q
        obtain ⟨u, e⟩ := (starts_iff _ _).mp q
        rw [lt_list, cat_list, gt_list] at e
        have h5 : (60 : Nat) ∈ n.cps.toList ++ [62] := e ▸ .head _
        rcases List.mem_append.mp h5 with h5 | h5
        · exact hlt h5
        · simp at h5
      rw [this, Bool.false_and]
    | false =>
      refine lone_good (by rw [if_neg (by decide), Str.length_append]; omega) ?_
      rw [if_neg (by decide)]
      have : Txt.endswith (Str.ofString "<" ++ n) (Str.ofString ">") = false := by
        rw [Bool.eq_false_iff]
        intro q
        obtain ⟨u, e⟩ := (ends_iff _ _).mp q
        rw [cat_list, lt_list, gt_list] at e
        have h5 : (62 : Nat) ∈ 60 :: n.cps.toList := by
          have : (62 : Nat) ∈ u ++ [62] := List.mem_append_right _ (.head _)
          rw [← e] at this
          exact this
        rcases List.mem_cons.mp h5 with h5 | h5
        · exact absurd h5 (by decide)
        · exact hgt h5
      rw [this, Bool.and_false]
/-- the signs that no word holds -/
def wordSign (c : Nat) : Prop := c ≠ 58 ∧ c ≠ 40 ∧ c ≠ 41 ∧ c ≠ 123 ∧ c ≠ 125
def Word (x : Str) : Prop := ∀ c ∈ x.cps.toList, wordSign c
def Shape (o : One) : Prop := Word o.file ∧ Word o.name ∧ (o.kind = Str.ofString "row" ∨ (o.kind = Str.ofString "braces" ∧ o.file = Str.ofString "~" ∧ o.line = 0) ∨ o.kind = Str.ofString "lone")
theorem word_ok {x : Str} (h : okText x) : Word x := fun c hc => by
  have h1 := h c hc
  unfold wordSign
  refine ⟨?_, ?_, ?_, ?_, ?_⟩ <;> (intro q; subst q; exact absurd h1 (by decide))
theorem word_app {x y : Str} (hx : Word x) (hy : Word y) : Word (x ++ y) := fun c hc => by
  rw [cat_list] at hc
  rcases List.mem_append.mp hc with h | h
  · exact hx c h
  · exact hy c h
theorem word_lt : Word (Str.ofString "<") := fun c hc => by
  rw [lt_list] at hc
  rw [List.mem_singleton.mp hc]; unfold wordSign; decide
theorem word_gt : Word (Str.ofString ">") := fun c hc => by
  rw [gt_list] at hc
  rw [List.mem_singleton.mp hc]; unfold wordSign; decide
theorem word_ti : Word (Str.ofString "~") := fun c hc => by
  rw [ti_list] at hc
  rw [List.mem_singleton.mp hc]; unfold wordSign; decide
theorem nat_sign (m : Nat) : ∀ c ∈ (Str.ofString (toString ((m : Nat) : Int))).cps.toList, 48 ≤ c ∧ c ≤ 57 := by
  intro c hc
  rw [KIN.signs_num] at hc
  obtain ⟨d, hd, rfl⟩ := List.mem_map.mp hc
  have := Nat.isDigit_of_mem_toDigits (by decide) (by decide) hd
  simp only [Char.isDigit, Bool.and_eq_true, decide_eq_true_eq] at this
  exact this
theorem int_sign (i : Int) : ∀ c ∈ (intS i).cps.toList, c = 45 ∨ (48 ≤ c ∧ c ≤ 57) := by
  intro c hc
  unfold intS at hc
  by_cases hn : 0 ≤ i
  · obtain ⟨m, rfl⟩ := Int.eq_ofNat_of_zero_le hn
    exact .inr (nat_sign m c hc)
  · obtain ⟨m, rfl⟩ : ∃ m : Nat, i = -((m + 1 : Nat) : Int) := ⟨i.natAbs - 1, by omega⟩
    rw [neg_text, cat_list] at hc
    rcases List.mem_append.mp hc with h | h
    · have e : (Str.ofString "-").cps.toList = [45] := by decide +kernel
      rw [e] at h
      exact .inl (List.mem_singleton.mp h)
    · exact .inr (nat_sign (m + 1) c h)
theorem nat_inj {m k : Nat} (h : (Str.ofString (toString ((m : Nat) : Int))).cps.toList = (Str.ofString (toString ((k : Nat) : Int))).cps.toList) : m = k := by
  rw [KIN.signs_num, KIN.signs_num] at h
  have := congrArg PySem.NumText.digitsVal h
  rwa [KIN.val_back, KIN.val_back] at this
theorem int_inj {i j : Int} (h : (intS i).cps.toList = (intS j).cps.toList) : i = j := by
  have e : (Str.ofString "-").cps.toList = [45] := by decide +kernel
  have no : ∀ m : Nat, (45 : Nat) ∉ (Str.ofString (toString ((m : Nat) : Int))).cps.toList := fun m q => by
    have := nat_sign m _ q
    omega
  unfold intS at h
  by_cases hi : 0 ≤ i
  · obtain ⟨m, rfl⟩ := Int.eq_ofNat_of_zero_le hi
    by_cases hj : 0 ≤ j
    · obtain ⟨k, rfl⟩ := Int.eq_ofNat_of_zero_le hj
      rw [nat_inj h]
    · obtain ⟨k, rfl⟩ : ∃ m : Nat, j = -((m + 1 : Nat) : Int) := ⟨j.natAbs - 1, by omega⟩
      rw [neg_text, cat_list, e] at h
      exact absurd (h ▸ .head _) (no m)
  · obtain ⟨m, rfl⟩ : ∃ m : Nat, i = -((m + 1 : Nat) : Int) := ⟨i.natAbs - 1, by omega⟩
    by_cases hj : 0 ≤ j
    · obtain ⟨k, rfl⟩ := Int.eq_ofNat_of_zero_le hj
      rw [neg_text, cat_list, e] at h
      exact absurd (h ▸ .head _) (no k)
    · obtain ⟨k, rfl⟩ : ∃ m : Nat, j = -((m + 1 : Nat) : Int) := ⟨j.natAbs - 1, by omega⟩
      rw [neg_text, neg_text, cat_list, cat_list, e] at h
      have h5 := nat_inj (List.cons.inj h).2
      rw [h5]
theorem row_list (file name : Str) (line : Int) : (file ++ Str.ofString ":" ++ intS line ++ Str.ofString "(" ++ name ++ Str.ofString ")").cps.toList = file.cps.toList ++ 58 :: ((intS line).cps.toList ++ 40 :: (name.cps.toList ++ 41 :: [])) := by
  simp only [cat_list, co_list, op_list, cp_list, List.append_assoc, List.cons_append, List.nil_append]
theorem braces_list (name : Str) : (Str.ofString "{" ++ name ++ Str.ofString "}").cps.toList = [] ++ 123 :: (name.cps.toList ++ 125 :: []) := by
  simp only [cat_list, ob_list, cb_list, List.cons_append, List.nil_append]
theorem text_row {o : One} (h : o.kind = Str.ofString "row") : (textS o).cps.toList = o.file.cps.toList ++ 58 :: ((intS o.line).cps.toList ++ 40 :: (o.name.cps.toList ++ 41 :: [])) := by
  unfold textS
  rw [h, k_rr, if_pos rfl, row_list]
theorem text_braces {o : One} (h : o.kind = Str.ofString "braces") : (textS o).cps.toList = [] ++ 123 :: (o.name.cps.toList ++ 125 :: []) := by
  unfold textS
  rw [h, k_br, k_bb, if_neg (by decide), if_pos rfl, braces_list]
theorem text_lone {o : One} (h : o.kind = Str.ofString "lone") : textS o = o.name := by
  unfold textS
  rw [h, k_lr, k_lb, if_neg (by decide), if_neg (by decide)]
theorem shape_law (p o : One) (hp : Shape p) (ho : Shape o) : matchS (textS p) (textS o) = dueS p o := by
  rw [match_fits]
  obtain ⟨pf, pn, pk⟩ := hp
  obtain ⟨of, on, ok⟩ := ho
  have n58 : ∀ x : Str, Word x → (58 : Nat) ∉ x.cps.toList := fun x h q => (h _ q).1 rfl
  have n40 : ∀ x : Str, Word x → (40 : Nat) ∉ x.cps.toList := fun x h q => (h _ q).2.1 rfl
  have n41 : ∀ x : Str, Word x → (41 : Nat) ∉ x.cps.toList := fun x h q => (h _ q).2.2.1 rfl
  have n123 : ∀ x : Str, Word x → (123 : Nat) ∉ x.cps.toList := fun x h q => (h _ q).2.2.2.1 rfl
  have n125 : ∀ x : Str, Word x → (125 : Nat) ∉ x.cps.toList := fun x h q => (h _ q).2.2.2.2 rfl
  have i : ∀ (l : Int) (c : Nat), c = 58 ∨ c = 40 ∨ c = 41 ∨ c = 123 ∨ c = 125 ∨ c = 46 → c ∉ (intS l).cps.toList := fun l c hc q => by
    have := int_sign l c q
    omega
  rcases pk with pk | ⟨pk, pf2, pl2⟩ | pk
  · -- a row's pattern
    have ep : toks (textS p).cps.toList = toks p.file.cps.toList ++ some 58 :: ((intS p.line).cps.toList.map some ++ some 40 :: (toks p.name.cps.toList ++ some 41 :: [])) := by
      rw [text_row pk, toks_app 58 (by decide), toks_app 40 (by decide), toks_app 41 (by decide), toks_nil, toks_plain _ (i p.line 46 (by omega))]
    rw [Bool.eq_iff_iff, fits_iff, ep]
    unfold dueS
    rw [pk, k_rl, if_neg (by decide)]
    rcases ok with ok | ⟨ok, _, _⟩ | ok
    · rw [text_row ok, ok, k_rr, wild_sep (n58 _ of), wild_sep (i _ 40 (by omega)), wild_sep (n41 _ on) (by simp), wild_signs, Bool.and_eq_true, Bool.and_eq_true, Bool.and_eq_true, fits_iff, fits_iff, beq_iff_eq]
      · constructor
        · rintro ⟨h1, h2, h3, _⟩
          exact ⟨⟨⟨rfl, (int_inj h2).symm⟩, h1⟩, h3⟩
        · rintro ⟨⟨⟨_, h2⟩, h1⟩, h3⟩
          exact ⟨h1, by rw [h2], h3, .nil⟩
      · intro q
        rcases List.mem_append.mp q with q | q
        · exact n40 _ on q
        · simp at q
      · intro q
        rcases List.mem_append.mp q with q | q
        · exact i _ 58 (by omega) q
        · rcases List.mem_cons.mp q with q | q
          · exact absurd q (by decide)
          · rcases List.mem_append.mp q with q | q
            · exact n58 _ on q
            · simp at q
    · rw [ok, k_rb]
      refine ⟨fun h => absurd h (wild_nosep ?_), fun h => absurd h (by simp)⟩
      rw [text_braces ok]
      intro q
      rcases List.mem_cons.mp q with q | q
      · exact absurd q (by decide)
      · rcases List.mem_append.mp q with q | q
        · exact n58 _ on q
        · simp at q
    · rw [ok, k_rl]
      refine ⟨fun h => absurd h (wild_nosep ?_), fun h => absurd h (by simp)⟩
      rw [text_lone ok]
      exact n58 _ on
  · have ep : toks (textS p).cps.toList = [] ++ some 123 :: (toks p.name.cps.toList ++ some 125 :: []) := by
      rw [text_braces pk, toks_app 123 (by decide), toks_app 125 (by decide), toks_nil]
    rw [Bool.eq_iff_iff, fits_iff, ep]
    unfold dueS
    rw [pk, k_bl, if_neg (by decide)]
    rcases ok with ok | ⟨ok, of2, ol2⟩ | ok
    · rw [ok, k_br]
      refine ⟨fun h => absurd h (wild_nosep ?_), fun h => absurd h (by simp)⟩
      rw [text_row ok]
      intro q
      rcases List.mem_append.mp q with q | q
      · exact n123 _ of q
      · rcases List.mem_cons.mp q with q | q
        · exact absurd q (by decide)
        · rcases List.mem_append.mp q with q | q
          · exact i _ 123 (by omega) q
          · rcases List.mem_cons.mp q with q | q
            · exact absurd q (by decide)
            · rcases List.mem_append.mp q with q | q
              · exact n123 _ on q
              · simp at q
    · have ff : fitsS (Str.ofString "~") (Str.ofString "~") = true := by decide +kernel
      rw [text_braces ok, ok, k_bb, pf2, of2, pl2, ol2, ff, wild_sep (by simp), wild_sep (n125 _ on) (by simp)]
      · have e0 : ((true && (0 : Int) == 0) && true && fitsS p.name o.name) = fitsS p.name o.name := by simp
        rw [e0, fits_iff]
        exact ⟨fun h => h.2.1, fun h => ⟨.nil, h, .nil⟩⟩
      · intro q
        rcases List.mem_append.mp q with q | q
        · exact n123 _ on q
        · simp at q
    · rw [ok, k_bl]
      refine ⟨fun h => absurd h (wild_nosep ?_), fun h => absurd h (by simp)⟩
      rw [text_lone ok]
      exact n123 _ on
  · unfold dueS
    rw [pk, k_ll, if_pos rfl, text_lone pk]
theorem six_shape (f n : Str) (line : Int) (odd : Bool) (of : okText f) (on : okText n) : ∀ o ∈ sixL f line n odd, Shape o := by
  have w1 := word_ok of
  have w2 := word_ok on
  have w3 := word_app (word_app word_lt w2) word_gt
  intro o ho
  unfold sixL at ho
  simp only [List.mem_cons, List.not_mem_nil, or_false] at ho
  rcases ho with rfl | rfl | rfl | rfl | rfl | rfl
  · exact ⟨w1, w2, .inl rfl⟩
  · exact ⟨word_ti, w3, .inl rfl⟩
  · exact ⟨w1, w3, .inl rfl⟩
  · exact ⟨word_ti, w2, .inr (.inl ⟨rfl, rfl, rfl⟩)⟩
  · exact ⟨word_ti, w2, .inr (.inr rfl)⟩
  · refine ⟨word_ti, ?_, .inr (.inr rfl)⟩
    cases odd with
    | true => exact word_app w2 word_gt
    | false => exact word_app word_lt w2
theorem six_law (f1 n1 f2 n2 : Str) (line third : Int) (odd : Bool) (of1 : okText f1) (on1 : okText n1) (of2 : okText f2) (on2 : okText n2) :
    ∀ p ∈ sixL f1 line n1 odd, ∀ o ∈ sixL f2 third n2 odd, matchS (textS p) (textS o) = dueS p o :=
  fun p hp o ho => shape_law p o (six_shape f1 n1 line odd of1 on1 p hp) (six_shape f2 n2 third odd of2 on2 o ho)
end Mine
-- part W3
namespace Mine
set_option maxRecDepth 100000
set_option maxHeartbeats 1000000
local macro_rules | `(tactic| walk_at "mine in") => `(tactic| (refine' enter ?k1 ?k2 ?k3 ?k5 ?kA ?kF ?kK ?k6 ?k7 ?k8 ?k9 ?kB ?_ ?c2 ?c3 ?c4 ?c5; (case kA => exact rfl); (case kF => assumption); (case kK => assumption); (case k1 => k_asm); (case k2 => k_asm); (case k3 => k_asm); (case k5 => k_asm); (case k6 => k_is); (case k7 => k_is); (case k8 => ktr_room); (case k9 => exact BindsTo.of_eq rfl); (case c5 => decide); (case kB => exact locs rfl); (case c2 => exact rfl); (case c3 => exact rfl); (case c4 => exact rfl); k_whole))
local macro_rules | `(tactic| walk_at "mine inC") => `(tactic| (refine' enterC ?k1 ?k2 ?k3 ?k5 ?kA ?kF ?kK ?k6 ?k7 ?k8 ?k9 ?kB ?kD ?_ ?c2 ?c3 ?c4; (case kA => exact rfl); (case kF => assumption); (case kK => assumption); (case k1 => k_asm); (case k2 => k_asm); (case k3 => k_asm); (case k5 => k_asm); (case k6 => k_is); (case k7 => k_is); (case k8 => ktr_room); (case k9 => exact BindsTo.of_eq rfl); (case kB => exact rfl); (case kD => decide +kernel); (case c2 => exact rfl); (case c3 => exact rfl); (case c4 => exact rfl); k_whole))
local macro_rules | `(tactic| walk_at "mine guard") => `(tactic| ((fail_if_success (with_reducible show wpAny _ _ (exec (Stmt.While _ _ _ _) _) _ _ _)); (fail_if_success (with_reducible show wpAny _ _ (exec (Stmt.For _ _ _ _ _) _) _ _ _))))
local macro_rules | `(tactic| walk_at "mine guardI") => `(tactic| ((fail_if_success (with_reducible show wpAny _ _ (exec (Stmt.If _ _ _ _) _) _ _ _)); (fail_if_success (with_reducible show wpAny _ _ (exec (Stmt.While _ _ _ _) _) _ _ _)); (fail_if_success (with_reducible show wpAny _ _ (exec (Stmt.For _ _ _ _ _) _) _ _ _))))
local macro_rules | `(tactic| walk_at "mine steps") => `(tactic| repeat' (first | (k_unfold; (try dsimp only)) | (walk_at "mine guard"; walk1) | (dsimp only; walk_at "mine guard"; walk1)))
local macro_rules | `(tactic| walk_at "mine stepsI") => `(tactic| repeat' (first | (k_unfold; (try dsimp only)) | (walk_at "mine guardI"; walk1) | (dsimp only; walk_at "mine guardI"; walk1)))
local macro_rules | `(tactic| walk_at "mine stepsC") => `(tactic| repeat' (first | (k_unfold; (try dsimp only)) | ((fail_if_success (with_reducible show wpAny _ _ (exec (Stmt.Assign _ (Expr.ListComp _ _ _ _) _) _) _ _ _)); walk_at "mine guard"; walk1) | (dsimp only; (fail_if_success (with_reducible show wpAny _ _ (exec (Stmt.Assign _ (Expr.ListComp _ _ _ _) _) _) _ _ _)); walk_at "mine guard"; walk1)))
local macro_rules | `(tactic| walk_at "mine guardL") => `(tactic| ((fail_if_success (with_reducible show wpAny _ _ (call (Value.ref _) _ _) _ _ _)); (fail_if_success (with_reducible show wpAny _ _ (exec (Stmt.Assign _ (Expr.ListComp _ _ _ _) _) _) _ _ _)); (fail_if_success (with_reducible show wpAny _ _ (eval (Expr.ListComp _ _ _ _) _) _ _ _)); (fail_if_success (with_reducible show wpAny _ _ (exec (Stmt.For _ _ _ _ _) _) _ _ _))))
local macro_rules | `(tactic| walk_at "mine stepsL") => `(tactic| repeat' (first | (k_unfold; (try dsimp only)) | (walk_at "mine guardL"; walk1) | (dsimp only; walk_at "mine guardL"; walk1)))
set_option pp.deepTerms false
set_option pp.deepTerms.threshold 5
theorem room_law (env : Env) : (callerA.deeper env).depth + 4 < recursionLimit := by
  show 1 + claimMargin + 1 + 4 < recursionLimit
  decide
theorem units_law (env : Env) : (callerA.deeper env).units + 500 < cLine := by
  show 4 + 3 + 500 < cLine
  decide
theorem room_law1 (env : Env) : (callerA.deeper env).depth + 1 < recursionLimit := by have := room_law env; omega
theorem room_law3 (env : Env) : (callerA.deeper env).depth + 3 < recursionLimit := by have := room_law env; omega
theorem units_law1 (env : Env) {c : Nat} (h : c ≤ 500 := by decide) : (callerA.deeper env).units + c < cLine := by have := units_law env; omega
theorem oneUniq {o o' : One} {a : Addr} {h : Heap} (x : OneAt o a h) (y : OneAt o' a h) : o = o' := by
  obtain ⟨ob, h1, k1, k2, k3, k4, rfl⟩ := x
  obtain ⟨ob', h2, j1, j2, j3, j4, rfl⟩ := y
  rw [h1] at h2
  obtain ⟨a1, a2, a3, a4⟩ := o
  obtain ⟨b1, b2, b3, b4⟩ := o'
  simp at h2
  obtain ⟨⟨e1, _⟩, ⟨e2, _⟩, ⟨e3, _⟩, ⟨e4, _⟩⟩ := h2
  subst e1 e2 e3 e4
  rfl
theorem glob_name {prog : Program} {w : World} {A : Around} {E : Value → Shared → Prop} {s : Shared} {h₀ : Heap} {L : Addr} {m mg mb : Str → Option Value} {mean : ExcName → Option Value} {K : Frag} {env : Env} {x : Str} {pos : Pos} {v : Value} {Q : Value → Shared → Prop}
    (F : Fr h₀ L s.heap m) (X : K.In h₀) (T : TopAt mean mg mb h₀) (e : nsIn K mainGlobals x = some (some v)) (hk : env.scope.kind = .function) (hx : env.kindOf x = some .globalImplicit) (hg : env.globals = mainGlobals) (h : Q v s)
    (hd : (x == ("__debug__" : Str)) = false := by decide) : wpAny (model prog w) A (eval (.Name x pos) env) Q E s :=
  Name_function_global hk hx (loadGlobal_global (hg ▸ T.g.keeps F.keep) (mg_of X T.g e) h) hd
theorem ones_get {tl : Led} : ∀ {ads : List Addr} {ones : List One}, OnesAt tl ads ones → ∀ {i : Nat} {a : Addr}, ads[i]? = some a → ∃ o, ones[i]? = some o ∧ ∃ ob, (a, ob) ∈ tl ∧ OneObj o ob
  | [], _, _, i, a, h => by simp at h
  | b :: ads, ones, hp, i, a, h => by
    have hp' : Paired _ (b :: ads) ones := hp
    cases hp' with
    | cons h1 h2 =>
      cases i with
      | zero =>
        have : b = a := by simpa using h
        subst this
        exact ⟨_, rfl, h1⟩
      | succ i =>
        obtain ⟨o, ho, hr⟩ := ones_get (ads := ads) h2 (i := i) (a := a) (by simpa using h)
        exact ⟨o, by simpa using ho, hr⟩
theorem paired_append {α β : Type} {R : α → β → Prop} : ∀ {a1 a2 : List α} {b1 b2 : List β}, Paired R a1 b1 → Paired R a2 b2 → Paired R (a1 ++ a2) (b1 ++ b2)
  | _, _, _, _, .nil, h => h
  | _, _, _, _, .cons h1 t, h => .cons h1 (paired_append t h)
theorem after_comp {g H h7 : Heap} {L D : Addr} {oI o : Obj} {m m' : Str → Option Value} {news : Led} (F : Fr g L H m) (N : News g L H news) (hD : (H.push oI).get? D = none) (hns : h7.Ns L m')
    (hk : ∀ b o, b ≠ L → b ∉ [H.objs.size] → (H.push oI).get? b = some o → h7.get? b = some o) (hoD : h7.get? D = some o) : Fr g L h7 m' ∧ News g L h7 ((D, o) :: news) := by
  have notI : ∀ b o, H.get? b = some o → b ∉ [H.objs.size] := fun b o e => by simp only [List.mem_singleton]; exact Nat.ne_of_lt (Heap.lt_size e)
  have old : ∀ b o, b ≠ L → H.get? b = some o → h7.get? b = some o := fun b o hb e => hk b o hb (notI b o e) (Heap.get?_push_of_some _ e)
  have fresh : ∀ b o, H.get? b = some o → b ≠ D := fun b o e q => by
    have e2 := Heap.get?_push_of_some oI e
    rw [q, hD] at e2
    cases e2
  have F8 : Fr g L h7 m' := ⟨hns, fun b o e => old b o (Nat.ne_of_lt (Nat.lt_of_lt_of_le (Heap.lt_size e) F.above)) (F.keep b o e), F.above⟩
  refine ⟨F8, newsMore F8 (fun q hq => ⟨old _ _ (N q hq).2.1 (N q hq).1, (N q hq).2⟩) hoD ?_ (hne := ?_)⟩
  · cases q : g.get? D with
    | none => rfl
    | some o => exact absurd rfl (fresh _ _ (F.keep _ _ q))
  · obtain ⟨oL, _, _, hL, _⟩ := F.ns
    exact (fresh _ _ hL).symm
theorem after_comp2 {g H h7 : Heap} {L D : Addr} {oI o : Obj} {m : Str → Option Value} {news : Led} (F : Fr g L H m) (N : News g L H news) (hD : (H.push oI).get? D = none)
    (hk : ∀ b o, b ∉ [H.objs.size] → (H.push oI).get? b = some o → h7.get? b = some o) (hoD : h7.get? D = some o) : Fr g L h7 m ∧ News g L h7 ((D, o) :: news) := by
  refine after_comp F N hD ?_ (fun b o _ => hk b o) hoD
  obtain ⟨oL, a1, a2, hL, a3⟩ := F.ns
  exact ⟨oL, a1, a2, hk _ _ (by simp only [List.mem_singleton]; exact Nat.ne_of_lt (Heap.lt_size hL)) (Heap.get?_push_of_some _ hL), a3⟩
theorem texts_of {H : Heap} : ∀ {ads : List Addr} {ones : List One} {ys : List Value}, Paired (fun a o => OneAt o a H) ads ones →
    Paired (fun v y => ∀ a o, v = .ref a → OneAt o a H → ∃ tk, y = .str (textS o) tk) (ads.map Value.ref) ys → Paired (fun y o => ∃ tk, y = .str (textS o) tk) ys ones
  | [], _, _, h1, h2 => by cases h1; cases h2; exact .nil
  | a :: ads, _, _, h1, h2 => by
    cases h1 with
    | cons x1 t1 =>
      cases h2 with
      | cons x2 t2 => exact .cons (x2 _ _ rfl x1) (texts_of t1 t2)
theorem paired_imp {α β : Type} {R S : α → β → Prop} (h : ∀ a b, R a b → S a b) : ∀ {l₁ : List α} {l₂ : List β}, Paired R l₁ l₂ → Paired S l₁ l₂
  | _, _, .nil => .nil
  | _, _, .cons x t => .cons (h _ _ x) (paired_imp h t)
theorem paired_get {α β : Type} {R : α → β → Prop} : ∀ {l₁ : List α} {l₂ : List β}, Paired R l₁ l₂ → ∀ (i : Nat) (b : β), l₂[i]? = some b → ∃ a, l₁[i]? = some a ∧ R a b
  | _, _, .nil, i, b, h => by simp at h
  | _, _, .cons x t, 0, b, h => by simp at h; subst h; exact ⟨_, rfl, x⟩
  | _, _, .cons x t, i + 1, b, h => by
    obtain ⟨a, ha, hr⟩ := paired_get t i b (by simpa using h)
    exact ⟨a, by simpa using ha, hr⟩
theorem same_items {items vs : List Value} (hl : vs.length = items.toArray.size) (hP : ∀ (j : Nat) (v : Value), vs[j]? = some v → items.toArray[j]? = some v) : vs = items := by
  apply List.ext_getElem?
  intro j
  cases q : vs[j]? with
  | some v =>
    have := hP j v q
    simpa using this.symm
  | none =>
    have h5 : vs.length ≤ j := by simpa using q
    rw [hl, List.size_toArray] at h5
    exact (List.getElem?_eq_none h5).symm
/-- two lists of the same texts -/
theorem ne_texts {prog : Program} {w : World} {A : Around} {E : Value → Shared → Prop} {s : Shared} {l b : Addr} {xs ys : Array Value} {ones : List One} {Q : Value → Shared → Prop} (hl : s.heap.IsList l xs) (hb : s.heap.IsList b ys) (hu : A.units < cLine)
    (h1 : Paired (fun y o => ∃ tk, y = .str (textS o) tk) xs.toList ones) (h2 : Paired (fun y o => ∃ tk, y = .str (textS o) tk) ys.toList ones) (h : Q (.bool false) s) :
    wpAny (model prog w) A (compareOp .NotEq (.ref l) (.ref b)) Q E s := by
  refine cmp_ofNotEq ?_
  have hs1 : xs.size = ones.length := by have := h1.length; simpa using this
  have hs2 : ys.size = ones.length := by have := h2.length; simpa using this
  have key := SeqAt.RcNeAt.lists (A := A) (e := fun _ => true) hl hb (hs1.trans hs2.symm) hu (fun j k1 k2 => by
    have k3 : j < ones.length := hs1 ▸ k1
    obtain ⟨a, ha, t1, e1⟩ := paired_get h1 j ones[j] (by simp [k3])
    obtain ⟨a', ha', t2, e2⟩ := paired_get h2 j ones[j] (by simp [k3])
    have q1 : xs[j] = .str (textS ones[j]) t1 := by
      have h5 : xs.toList[j]? = some xs[j] := by simp [k1]
      rw [ha] at h5
      rw [← Option.some.inj h5, e1]
    have q2 : ys[j] = .str (textS ones[j]) t2 := by
      have h5 : ys.toList[j]? = some ys[j] := by simp [k2]
      rw [ha'] at h5
      rw [← Option.some.inj h5, e2]
    rw [q1, q2]
    have := SeqAt.EqAt.str_str (A := A.in1) (s := s) (textS ones[j]) t1 (textS ones[j]) t2
    rw [beq_self_eq_true] at this
    exact this)
  refine key prog w E Q ?_
  have e : (!(List.range xs.size).all fun _ => true) = false := by simp
  rw [e]
  exact h
theorem item_at {prog : Program} {w : World} {A : Around} {E : Value → Shared → Prop} {s : Shared} {h₀ : Heap} {L : Addr} {news : Led} {value slice : Expr} {l : Addr} {items : Array Value} {ep : Nat} {k : Int} {u : Tok} {v : Value} {Q : Value → Shared → Prop} (N : News h₀ L s.heap news) (hm : (l, W.listOf items ep) ∈ news) (h0 : 0 ≤ k) (hfit : k < 2 ^ 63)
    (hx : items[k.toNat]? = some v) (h : Q v s)
    (hs : subscripted slice false (.ref l) (.int k u) = operate [.ref l, .int k u] (getItem (.ref l) (.int k u)) := by with_unfolding_all rfl) :
    wpAny (model prog w) A (subscriptTail value slice (.ref l) (.int k u)) Q E s :=
  tail_any (Heap.IsList.typeIs ⟨_, N.get hm, rfl, _, rfl⟩) slot_list_getitem.lookup (wpAny_getItem_list ⟨_, N.get hm, rfl, _, rfl⟩ h0 hfit hx h) hs
local macro_rules | `(tactic| walk_at "subscriptTail") => `(tactic| ((with_reducible show wpAny _ _ (subscriptTail _ (Expr.BinOp _ _ _ _) (Value.ref _) (Value.int _ _)) _ _ _); refine item_at (by assumption) (by k_mem) (by assumption) (by assumption) (by assumption) ?_))
theorem div_nat (i : Nat) : (i : Int).fdiv 6 = ((i / 6 : Nat) : Int) := by
  rw [Int.fdiv_eq_ediv_of_nonneg _ (by decide)]
  omega
theorem mod_nat (i : Nat) : (i : Int).fmod 6 = ((i % 6 : Nat) : Int) := by
  rw [Int.fmod_eq_emod_of_nonneg _ (by decide)]
  omega
theorem paired_get1 {α β : Type} {R : α → β → Prop} : ∀ {l₁ : List α} {l₂ : List β}, Paired R l₁ l₂ → ∀ (i : Nat) (b : β), l₂[i]? = some b → ∃ a, l₁[i]? = some a ∧ R a b := fun h i b hb => paired_get h i b hb
/-- between two turns of the law's loop -/
def LawJ (D l1 l2 : Addr) (N : Led) (_ : Nat) (m : Str → Option Value) (news : Led) : Prop :=
  news = N ∧ m (Str.ofString "texts") = some (.ref D) ∧ m (Str.ofString "patterns") = some (.ref l1) ∧ m (Str.ofString "others") = some (.ref l2)
theorem law_walk : PySem.Challenge.rw_mr0072_01.Holds := by
  w_top off
  refine hd ?_
  k_go0
  all_goals try k_fold
  rename Below _ _ _ _ => B0
  rename Fr _ _ _ _ => F0
  rename News _ _ _ _ => N0
  rename Frag.In _ _ => X0
  rename Top _ _ _ _ _ _ => T0
  rename IntsAre _ _ => hI
  rename Heap.IsList _ _ _ => hL
  rename World => w
  rename ¬ _ => hcond
  walk_at "mine stepsL"
  refine Spec.use (sides_spec w _ _ _ hI (by omega)) B0 F0 X0 T0 N0 rfl rfl rfl rfl (hL.at fun o e => F0.keep _ o e) (room_law3 _) (units_law1 _) ?_
  rintro r tl h1 tk1 kp1 F1 N1 ⟨T, l1, l2, ads1, ads2, ep1, ep2, f1, n1, f2, n2, line, third, odd, rfl, hmT, hm1, hm2, hon1, hon2, of1, on1, of2, on2, lf1, ln1, lf2, ln2, hline, hthird⟩
  have N2 := newsSub (news := (T, tupO [.ref l1, .ref l2]) :: (l1, W.listOf (ads1.map Value.ref).toArray ep1) :: (l2, W.listOf (ads2.map Value.ref).toArray ep2) :: tl) N1 (by
    intro q hq
    rcases List.mem_cons.mp hq with rfl | hq
    · exact List.mem_append_left _ hmT
    rcases List.mem_cons.mp hq with rfl | hq
    · exact List.mem_append_left _ hm1
    rcases List.mem_cons.mp hq with rfl | hq
    · exact List.mem_append_left _ hm2
    · exact List.mem_append_left _ hq)
  clear N1 N0 F0
  dsimp only
  walk_at "mine stepsL"
  rename Fr _ _ _ _ => F3
  rename News _ _ _ _ => N3
  rename Heap => H3
  refine wpAny_Assign_ListComp_free (cl := []) (p := fun _ => true) (F := fun v y => ∀ a o, v = .ref a → OneAt o a H3 → ∃ tk, y = .str (textS o) tk) (by with_unfolding_all rfl) (by with_unfolding_all rfl) (by decide) (by rfl) (by decide) (by rfl) (by rfl) (by rfl) ?_
  walk_at "mine stepsL"
  have hlen1 : ads1.length = 6 := by have := hon1.length; exact this
  have hlen2 : ads2.length = 6 := by have := hon2.length; exact this
  refine add_lists (vs := ads1.map Value.ref) (ws := ads2.map Value.ref) F3 N3 (N3.isList (.tail _ (.head _))) (N3.isList (.tail _ (.tail _ (.head _)))) ?_ (hsz := by rw [sizeLine_eq, List.length_map, List.length_map]; omega)
  intro h4 F4 N4
  have gl := N4.get (List.Mem.head _)
  have item : ∀ (i : Nat) (v : Value), (ads1.map Value.ref ++ ads2.map Value.ref).toArray[i]? = some v → ∃ (a : Addr) (o : One), v = .ref a ∧ OneGood o ∧ OneAt o a H3 ∧ OneAt o a h4 := by
    intro i v hv
    have hv' : (ads1 ++ ads2)[i]?.map Value.ref = some v := by
      rw [← List.getElem?_map, List.map_append]; simpa using hv
    obtain ⟨a, ha, rfl⟩ := Option.map_eq_some_iff.mp hv'
    obtain ⟨o, ho, ob, hm, hob⟩ := ones_get (paired_append hon1 hon2) ha
    refine ⟨a, o, rfl, ?_, ⟨ob, N3.get (.tail _ (.tail _ (.tail _ hm))), hob⟩, ⟨ob, N4.get (.tail _ (.tail _ (.tail _ (.tail _ hm)))), hob⟩⟩
    rcases List.mem_append.mp (List.mem_of_getElem? ho) with h | h
    · exact six_good f1 n1 line odd of1 on1 lf1 ln1 hline o h
    · exact six_good f2 n2 third odd of2 on2 lf2 ln2 hthird o h
  refine wpAny_pyIter_list (items := (ads1.map Value.ref ++ ads2.map Value.ref).toArray) ⟨_, gl, rfl, _, rfl⟩ ?_
  refine ⟨_, _, _, _, _, _, _, rfl, Walks.list rfl _ _ (Nat.ne_of_lt (Heap.lt_size gl)) (ads1.map Value.ref ++ ads2.map Value.ref).toArray, ?_, ⟨⟨_, Heap.get?_push_size _ rfl, rfl, rfl⟩, ⟨_, Heap.get?_push_of_some _ gl, rfl, _, rfl⟩⟩, ?_, ?_, (F4.push _).ns, ⟨?_, ?_⟩, ?_⟩
  · rw [sizeLine_eq, List.size_toArray, List.length_append, List.length_map, List.length_map]; omega
  · intro b hb
    simp only [List.mem_cons, List.not_mem_nil, or_false] at hb
    have := Heap.lt_size gl
    rw [Heap.size_push]
    rcases hb with rfl | rfl
    · exact Nat.lt_succ_self _
    · exact Nat.lt_succ_of_lt this
  · intro hb
    simp only [List.mem_cons, List.not_mem_nil, or_false] at hb
    exact absurd hb (Nat.ne_of_lt F4.ns.lt)
  · intro C i v s₃ m₃ E' hC hP hns hmv hkeep htk
    exact wpAny_tests_nil ⟨rfl, _, _, rfl, fun b o e => e⟩
  · intro C i v s₃ m₃ E' hC hP hpv hns hmv hkeep htk
    obtain ⟨a, o, rfl, hgood, hone, hone4⟩ := item i v hP
    have keep4 : Keeps h4 s₃.heap := fun b o e => hkeep b o (by simp only [List.mem_singleton]; exact Nat.ne_of_lt (Heap.lt_size e)) (Heap.get?_push_of_some _ e)
    have F5 := frKeeps F4 keep4
    have N5 := newsKeeps (tl := []) F4 N4 keep4 (fun _ hp => nomatch hp)
    have hone3 : OneAt o a s₃.heap := oneKeeps hone4 keep4
    refine Call_ ?_
    refine glob_name (v := .ref 28) F5 X0 T0 (by rfl) (by rfl) (by rfl) (by rfl) ?_
    walk1
    walk1
    refine Call_ ?_
    refine glob_name (v := .ref 56) F5 X0 T0 (by rfl) (by rfl) (by rfl) (by rfl) ?_
    walk1
    walk1
    refine wpAny_Name (wpAny_loadName_local (by rfl) (by rfl) hns hmv ?_)
    walk_at "mine stepsL"
    refine Spec.use (triple_spec w a o hgood.1) B0 F5 X0 T0 N5 rfl rfl rfl rfl hone3 (room_law1 _) (units_law1 _) ?_
    rintro r5 tl5 h5 tk5 kp5 F6 N6 ⟨b5, q1, q2, q3, rfl, rfl⟩
    try dsimp only
    walk_at "mine stepsL"
    refine Spec.use (fss_spec w b5 o.file (tripleName o) o.line hgood.1.1 hgood.2.2 hgood.1.2.2) B0 F6 X0 T0 N6 rfl rfl rfl rfl ⟨q1, q2, q3, N6.get (.head _)⟩ (room_law1 _) (units_law1 _) ?_
    rintro r6 tl6 h6 tk6 kp6 F7 N7 ⟨⟨n6, rfl⟩, rfl⟩
    refine ⟨?_, _, _, rfl, fun b o e => kp6 _ _ (kp5 _ _ e)⟩
    rintro a' o' e ho'
    cases e
    rw [oneUniq ho' hone]
    exact strIs hgood.2.1
  · intro D h7 tk7 ys vs7 hD hlD hplD hlen7 hP7 hF7 hns7 hkeep7
    obtain ⟨epD, hoD⟩ := hplD
    obtain ⟨F8, N8⟩ := after_comp F4 N4 hD hns7 hkeep7 hoD
    have hones3 : Paired (fun a o => OneAt o a H3) (ads1 ++ ads2) (sixL f1 line n1 odd ++ sixL f2 third n2 odd) := by
      refine paired_imp ?_ (paired_append hon1 hon2)
      rintro a o ⟨ob, hm, hob⟩
      exact ⟨ob, N3.get (.tail _ (.tail _ (.tail _ hm))), hob⟩
    have ht1 : Paired (fun y o => ∃ tk, y = .str (textS o) tk) ys.toList (sixL f1 line n1 odd ++ sixL f2 third n2 odd) := by
      have e := same_items hlen7 hP7
      rw [e, List.filter_eq_self.mpr (fun _ _ => rfl)] at hF7
      rw [← List.map_append] at hF7
      exact texts_of hones3 hF7
    clear hF7 hkeep7 hns7 hP7
    replace N8 := newsSub (news := (D, W.listOf ys epD) :: (l1, W.listOf (ads1.map Value.ref).toArray ep1) :: (l2, W.listOf (ads2.map Value.ref).toArray ep2) :: tl) N8 (by
      intro q hq
      rcases List.mem_cons.mp hq with rfl | hq
      · exact .head _
      · exact .tail _ (.tail _ (.tail _ hq)))
    dsimp only
    walk_at "mine stepsL"
    refine wpAny_ListComp_free (cl := []) (p := fun _ => true) (F := fun v y => ∀ a o, v = .ref a → OneAt o a H3 → ∃ tk, y = .str (textS o) tk) (by with_unfolding_all rfl) (by decide) (by rfl) (by decide) (by rfl) ?_
    walk1
    walk1
    walk1
    have kp38 : ∀ a o, OneAt o a H3 → (∃ ob, (a, ob) ∈ tl ∧ OneObj o ob) → OneAt o a h7 := fun a o _ ⟨ob, hm, hob⟩ => ⟨ob, N8.get (.tail _ (.tail _ (.tail _ hm))), hob⟩
    refine add_lists (vs := ads1.map Value.ref) (ws := ads2.map Value.ref) F8 N8 (N8.isList (.tail _ (.head _))) (N8.isList (.tail _ (.tail _ (.head _)))) ?_ (by rw [sizeLine_eq, List.length_map, List.length_map]; omega)
    intro h9 F9 N9
    have gl9 := N9.get (List.Mem.head _)
    have item9 : ∀ (i : Nat) (v : Value), (ads1.map Value.ref ++ ads2.map Value.ref).toArray[i]? = some v → ∃ (a : Addr) (o : One), v = .ref a ∧ OneGood o ∧ OneAt o a h9 ∧ OneAt o a H3 := by
      intro i v hv
      have hv' : (ads1 ++ ads2)[i]?.map Value.ref = some v := by
        rw [← List.getElem?_map, List.map_append]; simpa using hv
      obtain ⟨a, ha, rfl⟩ := Option.map_eq_some_iff.mp hv'
      obtain ⟨o, ho, ob, hm, hob⟩ := ones_get (paired_append hon1 hon2) ha
      refine ⟨a, o, rfl, ?_, ⟨ob, N9.get (.tail _ (.tail _ (.tail _ (.tail _ hm)))), hob⟩, ⟨ob, N3.get (.tail _ (.tail _ (.tail _ hm))), hob⟩⟩
      rcases List.mem_append.mp (List.mem_of_getElem? ho) with h | h
      · exact six_good f1 n1 line odd of1 on1 lf1 ln1 hline o h
      · exact six_good f2 n2 third odd of2 on2 lf2 ln2 hthird o h
    refine wpAny_pyIter_list (items := (ads1.map Value.ref ++ ads2.map Value.ref).toArray) ⟨_, gl9, rfl, _, rfl⟩ ?_
    refine ⟨_, _, _, _, _, _, rfl, Walks.list rfl _ _ (Nat.ne_of_lt (Heap.lt_size gl9)) (ads1.map Value.ref ++ ads2.map Value.ref).toArray, ?_, ⟨⟨_, Heap.get?_push_size _ rfl, rfl, rfl⟩, ⟨_, Heap.get?_push_of_some _ gl9, rfl, _, rfl⟩⟩, ?_, ⟨?_, ?_⟩, ?_⟩
    · rw [sizeLine_eq, List.size_toArray, List.length_append, List.length_map, List.length_map]; omega
    · intro b hb
      simp only [List.mem_cons, List.not_mem_nil, or_false] at hb
      have := Heap.lt_size gl9
      rw [Heap.size_push]
      rcases hb with rfl | rfl
      · exact Nat.lt_succ_self _
      · exact Nat.lt_succ_of_lt this
    · intro C i v s₃ m₃ E' hC hP hns hmv hkeep htk
      exact wpAny_tests_nil ⟨rfl, _, _, rfl, fun b o e => e⟩
    · intro C i v s₃ m₃ E' hC hP hpv hns hmv hkeep htk
      obtain ⟨a, o, rfl, hgood, hone, hone0⟩ := item9 i v hP
      have keep9 : Keeps h9 s₃.heap := fun b o e => hkeep b o (by simp only [List.mem_singleton]; exact Nat.ne_of_lt (Heap.lt_size e)) (Heap.get?_push_of_some _ e)
      have F10 := frKeeps F9 keep9
      have N10 := newsKeeps (tl := []) F9 N9 keep9 (fun _ hp => nomatch hp)
      have hone3 : OneAt o a s₃.heap := oneKeeps hone keep9
      refine Call_ ?_
      refine glob_name (v := .ref 63) F10 X0 T0 (by rfl) (by rfl) (by rfl) (by rfl) ?_
      walk1
      walk1
      refine wpAny_Name (wpAny_loadName_local (by rfl) (by rfl) hns hmv ?_)
      walk_at "mine stepsL"
      refine Spec.use (text_spec w a o hgood.1) B0 F10 X0 T0 N10 rfl rfl rfl rfl hone3 (room_law1 _) (units_law1 _) ?_
      rintro r5 tl5 h5 tk5 kp5 F6 N6 ⟨⟨n6, rfl⟩, rfl⟩
      refine ⟨?_, _, _, rfl, fun b o e => kp5 _ _ e⟩
      rintro a' o' e ho'
      cases e
      rw [oneUniq ho' hone0]
      exact ⟨_, rfl⟩
    · intro D2 h11 tk11 ys2 vs11 hD2 hlD2 hplD2 hlen11 hP11 hF11 hkeep11
      obtain ⟨epD2, hoD2⟩ := hplD2
      obtain ⟨F12, N12⟩ := after_comp2 F9 N9 hD2 hkeep11 hoD2
      have ht2 : Paired (fun y o => ∃ tk, y = .str (textS o) tk) ys2.toList (sixL f1 line n1 odd ++ sixL f2 third n2 odd) := by
        have e := same_items hlen11 hP11
        rw [e, List.filter_eq_self.mpr (fun _ _ => rfl)] at hF11
        rw [← List.map_append] at hF11
        exact texts_of hones3 hF11
      clear hF11 hkeep11 hP11 item9 kp38
      refine ne_texts (N12.isList (.tail _ (.tail _ (.head _)))) (N12.isList (.head _)) (by have := units_law (default : Env); exact Nat.lt_of_le_of_lt (Nat.le_add_right _ 500) (units_law _)) ht1 ht2 ?_
      replace N12 := newsSub (news := (D, W.listOf ys epD) :: (l1, W.listOf (ads1.map Value.ref).toArray ep1) :: (l2, W.listOf (ads2.map Value.ref).toArray ep2) :: tl) N12 (by
        intro q hq
        exact .tail _ (.tail _ hq))
      dsimp only
      walk_at "mine stepsL"
      clear hD2 hlD2 hlen11 hoD2 ht2 N9 F9 gl9 N8 F8 hlD
      refine wpAny_For ?_
      walk_at "mine stepsL"
      rename IsRange _ _ _ _ _ _ _ _ => hr
      rename Fr _ _ _ _ => F13
      rename News _ _ _ _ => N13
      refine for_range (n := 36) (LawJ D l1 l2 (ledOf N13)) rfl F13 N13 rfl hr (by decide) (by decide) ?_ (by rfl) (by rfl) ⟨rfl, rfl, rfl, rfl⟩ ?_ ?_
      · rintro i m₁ news₁ ⟨rfl, _⟩ p hp
        exact Heap.lt_size (N13 p hp).1
      · rintro i tk' m₁ news₁ o h tk E' hi ⟨rfl, hmt, hmp, hmo⟩ F14 N14
        have e0 : (0 + ((i : Nat) : Int) * 1) = (i : Int) := by omega
        rw [e0] at F14
        have F15 := frAs4 (x1 := Str.ofString "place") (x2 := Str.ofString "texts") (x3 := Str.ofString "patterns") (x4 := Str.ofString "others") (v2 := .ref D) (v3 := .ref l1) (v4 := .ref l2) F14 (if_pos rfl) (by rw [if_neg (by decide)]; exact hmt) (by rw [if_neg (by decide)]; exact hmp) (by rw [if_neg (by decide)]; exact hmo)
        have hi1 : i / 6 < 6 := by omega
        have hi2 : i % 6 < 6 := by omega
        have len1 : (sixL f1 line n1 odd).length = 6 := rfl
        have len2 : (sixL f2 third n2 odd).length = 6 := rfl
        obtain ⟨p, hp⟩ : ∃ p, (sixL f1 line n1 odd)[i / 6]? = some p := ⟨_, List.getElem?_eq_getElem (by omega)⟩
        obtain ⟨q, hq⟩ : ∃ q, (sixL f2 third n2 odd)[i % 6]? = some q := ⟨_, List.getElem?_eq_getElem (by omega)⟩
        have hpg := six_good f1 n1 line odd of1 on1 lf1 ln1 hline p (List.mem_of_getElem? hp)
        have hqg := six_good f2 n2 third odd of2 on2 lf2 ln2 hthird q (List.mem_of_getElem? hq)
        have hlaw := six_law f1 n1 f2 n2 line third odd of1 on1 of2 on2 p (List.mem_of_getElem? hp) q (List.mem_of_getElem? hq)
        have hb1 := text_le p hpg.1
        have hb2 := text_le q hqg.1
        have d0 : 0 ≤ (i : Int).fdiv 6 := by rw [div_nat]; omega
        have d1 : (i : Int).fdiv 6 < 2 ^ 63 := by rw [div_nat]; omega
        have e1 : 0 ≤ (i : Int).fmod 6 := by rw [mod_nat]; omega
        have e2 : (i : Int).fmod 6 < 2 ^ 63 := by rw [mod_nat]; omega
        have e3 : 0 ≤ 6 + (i : Int).fmod 6 := by omega
        have e4 : 6 + (i : Int).fmod 6 < 2 ^ 63 := by rw [mod_nat]; omega
        obtain ⟨v1, hv1, t1, rfl⟩ := paired_get ht1 (i / 6) p (by rw [List.getElem?_append_left (by omega)]; exact hp)
        obtain ⟨v2, hv2, t2, rfl⟩ := paired_get ht1 (6 + i % 6) q (by rw [List.getElem?_append_right (by omega), len1, Nat.add_sub_cancel_left]; exact hq)
        have g1 : ys[((i : Int).fdiv 6).toNat]? = some (.str (textS p) t1) := by rw [div_nat, Int.toNat_natCast, ← Array.getElem?_toList]; exact hv1
        have g2 : ys[(6 + (i : Int).fmod 6).toNat]? = some (.str (textS q) t2) := by
          have : (6 + (i : Int).fmod 6).toNat = 6 + i % 6 := by rw [mod_nat]; omega
          rw [this, ← Array.getElem?_toList]; exact hv2
        obtain ⟨a1, ha1, ob1, hm1', hob1⟩ := paired_get hon1 (i / 6) p hp
        obtain ⟨a2, ha2, ob2, hm2', hob2⟩ := paired_get hon2 (i % 6) q hq
        have g3 : (ads1.map Value.ref).toArray[((i : Int).fdiv 6).toNat]? = some (.ref a1) := by
          rw [div_nat, Int.toNat_natCast]; simp [ha1]
        have g4 : (ads2.map Value.ref).toArray[((i : Int).fmod 6).toNat]? = some (.ref a2) := by
          rw [mod_nat, Int.toNat_natCast]; simp [ha2]
        clear F14
        walk_at "mine stepsL"
        refine Spec.use (match_spec w (textS p) (textS q) _ _ (by omega) (by omega)) B0 F15 X0 T0 N14 rfl rfl rfl rfl True.intro (room_law1 _) (units_law1 _) ?_
        rintro r16 tl16 h16 tk16 kp16 F16 N16 ⟨rfl, rfl⟩
        rw [hlaw]
        try dsimp only
        walk_at "mine stepsL"
        rename Fr _ _ _ _ => F17
        rename News _ _ _ _ => N17
        have hone1 : OneAt p a1 _ := ⟨ob1, N17.get (.tail _ (.tail _ (.tail _ (.tail _ hm1')))), hob1⟩
        have hone2 : OneAt q a2 _ := ⟨ob2, N17.get (.tail _ (.tail _ (.tail _ (.tail _ hm2')))), hob2⟩
        refine Spec.use (due_spec w a1 a2 p q hpg.1 hqg.1) B0 F17 X0 T0 N17 rfl rfl rfl rfl ⟨hone1, hone2⟩ (room_law3 _) (units_law1 _) ?_
        rintro r18 tl18 h18 tk18 kp18 F18 N18 ⟨rfl, rfl⟩
        generalize dueS p q = bb
        cases bb
        · try dsimp only
          walk_at "mine stepsL"
          exact TurnEnd.next F18 N18 ⟨rfl, rfl, rfl, rfl⟩
        · try dsimp only
          walk_at "mine stepsL"
          exact TurnEnd.next F18 N18 ⟨rfl, rfl, rfl, rfl⟩
      · rintro m₁ news₁ h tk ⟨rfl, hmt, hmp, hmo⟩ F14 N14
        dsimp only
        walk_at "mine stepsL"
        dsimp only
        k_steps
        all_goals trace_state
end Mine
theorem PySem.Challenge.cw_mr0072_01_holds : PySem.Challenge.rw_mr0072_01.Holds := by
  exact Mine.law_walk
