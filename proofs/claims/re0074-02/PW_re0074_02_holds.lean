import PyProof.Rows.All
import Wide.All
import OpenK.AllK
import Wide.FinOn
import PySem.Challenge.RW_re0074_02
open PySem PySem.W PyProof.Rows
set_option Elab.async false
set_option linter.unusedVariables false
set_option linter.unusedSimpArgs false
set_option maxRecDepth 100000
set_option maxHeartbeats 8000000
namespace Mine
open PySem PySem.W PyProof.Rows PySem.Calls PySem.Spec

abbrev Led := List (Addr × Obj)

/-- at a frozen call's end: what of the old ledger the call was not handed stands as it stood -/
def OutZ (news lit : Led) (R : Result → Shared → Prop) (r : Result) (s' : Shared) : Prop :=
  (∀ p ∈ news, p ∉ lit → s'.heap.get? p.1 = some p.2) → R r s'

theorem sub_cons {a : Addr × Obj} {l t : List (Addr × Obj)} (h : a ∈ t) (k : ∀ x ∈ l, x ∈ t) : ∀ x ∈ a :: l, x ∈ t := List.forall_mem_cons.mpr ⟨h, k⟩
theorem news_join {h₀ h h' : Heap} {L : Addr} {all lit tl news : Led} (kN : News h₀ L h' all) (hl : ∀ p ∈ lit, p ∈ all) (ht : ∀ p ∈ tl, p ∈ all)
    (hz : ∀ p ∈ news, p ∉ lit → h'.get? p.1 = some p.2) (N : News h₀ L h news) : News h₀ L h' (tl ++ news) := by
  intro p hp
  rcases List.mem_append.mp hp with hp | hp
  · exact kN p (ht p hp)
  · by_cases hn : p ∈ lit
    · exact kN p (hl p hn)
    · exact ⟨hz p hp hn, (N p hp).2⟩

theorem news_back {h₀ h h' : Heap} {L : Addr} {hd lit tl news : Led} (kN : News h₀ L h' (hd ++ (lit ++ tl))) (hz : ∀ p ∈ news, p ∉ lit → h'.get? p.1 = some p.2) (N : News h₀ L h news) :
    News h₀ L h' (hd ++ (tl ++ news)) := by
  rw [← List.append_assoc]
  refine news_join kN (fun p hp => ?_) (fun p hp => ?_) hz N
  · exact List.mem_append_right _ (List.mem_append_left _ hp)
  · rcases List.mem_append.mp hp with hp | hp
    · exact List.mem_append_left _ hp
    · exact List.mem_append_right _ (List.mem_append_right _ hp)
theorem news_cons {h₀ h h' : Heap} {L : Addr} {hd : Addr × Obj} {lit rest news : Led} (kN : News h₀ L h' (hd :: rest)) (hl : ∀ p ∈ lit, p ∈ rest) (hz : ∀ p ∈ news, p ∉ lit → h'.get? p.1 = some p.2) (N : News h₀ L h news) :
    News h₀ L h' (hd :: news) :=
  news_join (tl := [hd]) kN (fun p hp => List.mem_cons_of_mem _ (hl p hp)) (List.forall_mem_cons.mpr ⟨List.mem_cons_self, List.forall_mem_nil _⟩) hz N
theorem sub_back {lit tl news : Led} (hs : ∀ p ∈ lit, p ∈ news) : ∀ p ∈ lit ++ tl, p ∈ tl ++ news := fun p hp =>
  (List.mem_append.mp hp).elim (fun h => List.mem_append_right _ (hs p h)) fun h => List.mem_append_left _ h

theorem not_in_addrs {h : Heap} {lit : Led} {p : Addr × Obj} (hl : ∀ q ∈ lit, h.get? q.1 = some q.2) (hp : h.get? p.1 = some p.2) (hn : p ∉ lit) : p.1 ∉ lit.map (·.1) := by
  intro z
  obtain ⟨q, hq, e⟩ := List.mem_map.mp z
  have h1 := hl q hq
  rw [e, hp] at h1
  have h2 : p.2 = q.2 := Option.some.inj h1
  exact hn (by
    have : p = q := by
      exact Prod.ext e.symm h2
    rw [this]; exact hq)

section
variable {prog : Program} {w : World} {A₀ A : Around} {s : Shared} {base h₀ : Heap} {outer : List Env} {L : Addr} {m mg mb : Str → Option Value} {env : Env} {news lit : Led} {K : Frag}
  {p : Program} {loose : List Str} {mean : ExcName → Option Value}
  {R : Result → Shared → Prop} {name qual : Str} {params : Arguments} {body : List Stmt} {scope : Scope} {dV kV doc pm cdv ct oc : Value} {an od : Option Addr} {osl : Array (Option Value)} {f : Addr} {args : Args} {binds : List (Str × Value)}

theorem enterZ (B : Below A₀ base outer h₀) (F : Fr h₀ L s.heap m) (X₀ : K.In h₀) (N : News h₀ L s.heap news) (T : Top p loose mean mg mb h₀) (hsub : ∀ q ∈ lit, q ∈ news)
    (hA : A.frames = some (env :: outer)) (hf : env.frame = some L) (hke : env.scope.kind = .function)
    (ho : K.lookup f = some ⟨oc, od, .func (fnOf name qual params body scope dV kV doc pm an cdv ct), osl⟩) (hcd : codeIn K cdv qual = true) (hroom : A.depth < recursionLimit)
    (hbind : BindsTo s (fnOf name qual params body scope dV kV doc pm an cdv ct) args binds) (hloc : ∀ y ∈ binds, scope.names.lookup y.1 = some .local)
    (h : ∀ g L' h₁, Fr g L' h₁ (fun y => binds.reverse.lookup y) → News g L' h₁ lit → Below A base (env :: outer) g → K.In g → Top p loose mean mg mb g → (∀ q ∈ lit, q.1 < L') →
      wpAny (model prog w) (A.deeper (envOf qual scope L' f cdv)) (execs body (envOf qual scope L' f cdv))
        (fun fl s' => LeaveK h₀ L m g (OutZ news lit R) (match fl with | .ret v => v | _ => .none) s')
        (fun e s' => wpAny (model prog w) (A.deeper (envOf qual scope L' f cdv)) (leaving (envOf qual scope L' f cdv) e) (fun _ s'' => R (.error e) s'') (fun e' s'' => R (.error e') s'') s')
        { s with heap := h₁, toks := s.toks + binds.length })
    (hco : scope.isCoroutine = false) (hgen : scope.isGenerator = false) (hk : scope.kind = .function)
    (hcell : ∀ x ∈ scope.names, x.2 ≠ .cell) : codeAny (model prog w) A (.call (.ref f) args) R s := by
  have N₀ : News h₀ L s.heap lit := fun q hq => N q (hsub q hq)
  obtain ⟨FG, BG, st, lv⟩ := groundX (R := OutZ news lit R) B F N₀ hA hf hke
  refine codeAny_call_def (fd := fnOf name qual params body scope dV kV doc pm an cdv ct) (body := body) (binds := binds) hroom ((X₀.keeps F.keep) _ _ ho) rfl (T.nolimit.keeps F.keep) (codeRec_of (X₀.keeps F.keep) hcd) rfl hbind hcell hloc (fun h₁ hns hk₁ => ?_) hco hgen hk
  refine wpAny_mono (h _ s.heap.objs.size h₁ ⟨hns, fun b o e => hk₁ b o (of_hideAll _ e), Nat.le_of_eq (hideAll_size _ _)⟩
    (fun q hq => ⟨hk₁ _ _ (N₀ q hq).1, Nat.ne_of_lt (Heap.lt_size (N₀ q hq).1), hideAll_none _ (List.mem_map_of_mem hq)⟩) BG (X₀.keeps st) (T.keeps st) (fun q hq => Heap.lt_size (N₀ q hq).1)) (fun fl s' hl => ?_) fun _ _ y => y
  have hkeep : ∀ b o, (hideAll s.heap (lit.map (·.1))).get? b = some o → s'.heap.get? b = some o := by
    obtain ⟨L', m', news', F', _⟩ := hl
    exact F'.keep
  exact lv _ _ hl fun q hq hn => hkeep _ _ (hideAll_get _ (N q hq).1 (not_in_addrs (fun q hq => (N₀ q hq).1) (N q hq).1 hn))

theorem enterZC (B : Below A₀ base outer h₀) (F : Fr h₀ L s.heap m) (X₀ : K.In h₀) (N : News h₀ L s.heap news) (T : Top p loose mean mg mb h₀) (hsub : ∀ q ∈ lit, q ∈ news)
    (hA : A.frames = some (env :: outer)) (hf : env.frame = some L) (hke : env.scope.kind = .function)
    (ho : K.lookup f = some ⟨oc, od, .func (fnOf name qual params body scope dV kV doc pm an cdv ct), osl⟩) (hcd : codeIn K cdv qual = true) (hroom : A.depth < recursionLimit)
    (hbind : BindsTo s (fnOf name qual params body scope dV kV doc pm an cdv ct) args binds) (hkind : (binds.all fun y => scope.names.lookup y.1 == some .local || scope.names.lookup y.1 == some .cell) = true)
    (hnd : ((cellsFrom 0 scope.names []).map (·.1)).Nodup)
    (h : ∀ g L' h₁ tk cells, Fr g L' h₁ (bindL (envOfC qual scope L' f cdv).kindOf binds fun _ => none) → News g L' h₁ (cells ++ lit) →
      CellsAre (bindC (envOfC qual scope L' f cdv).kindOf binds fun _ => none) (cellsFrom (L' + 1) scope.names []) cells → Below A base (env :: outer) g → K.In g → Top p loose mean mg mb g → (∀ q ∈ lit, q.1 < L') →
      wpAny (model prog w) (A.deeper (envOfC qual scope L' f cdv)) (execs body (envOfC qual scope L' f cdv))
        (fun fl s' => LeaveK h₀ L m g (OutZ news lit R) (match fl with | .ret v => v | _ => .none) s')
        (fun e s' => wpAny (model prog w) (A.deeper (envOfC qual scope L' f cdv)) (leaving (envOfC qual scope L' f cdv) e) (fun _ s'' => R (.error e) s'') (fun e' s'' => R (.error e') s'') s')
        { s with heap := h₁, toks := tk })
    (hco : scope.isCoroutine = false) (hgen : scope.isGenerator = false) (hk : scope.kind = .function) : codeAny (model prog w) A (.call (.ref f) args) R s := by
  have N₀ : News h₀ L s.heap lit := fun q hq => N q (hsub q hq)
  obtain ⟨FG, BG, st, lv⟩ := groundX (R := OutZ news lit R) B F N₀ hA hf hke
  refine codeAny_call_function hroom ((X₀.keeps F.keep) _ _ ho) rfl hco hgen rfl (codeRec_of (X₀.keeps F.keep) hcd) (hbind _ _ _ _ ?_)
  refine wpAny_newFunctionEnv_cells hk (kindsX hkind _) fun env' he s' x => ?_
  subst he
  refine ⟨(T.nolimit.keeps F.keep).keeps x.toInCall.keep, codeAny_func ?_⟩
  obtain ⟨h₁, tk, rfl, _⟩ := x.done
  have hk₁ := x.toInCall.keep
  obtain ⟨cells, NC, Y⟩ := Cl.news (h₀ := s.heap) (Nat.le_refl _) fun n c hm => ⟨x.cell n c (lookup_of_mem_nodup (cellsFrom_names scope.names 0 (s.heap.objs.size + 1) [] [] rfl ▸ hnd) hm), x.above n c hm⟩
  refine wpAny_mono (h _ s.heap.objs.size h₁ tk cells ⟨x.toInCall.ns, fun b o e => hk₁ b o (of_hideAll _ e), Nat.le_of_eq (hideAll_size _ _)⟩ (fun q hq => ?_) Y BG (X₀.keeps st) (T.keeps st) (fun q hq => Heap.lt_size (N₀ q hq).1)) (fun fl s' hl => ?_) fun _ _ y => y
  · rcases List.mem_append.mp hq with hq | hq
    · refine ⟨(NC q hq).1, (NC q hq).2.1, ?_⟩
      cases z : (hideAll s.heap (lit.map (·.1))).get? q.1 with
      | none => rfl
      | some o => have := of_hideAll _ z; rw [(NC q hq).2.2] at this; cases this
    · exact ⟨hk₁ _ _ (N₀ q hq).1, Nat.ne_of_lt (Heap.lt_size (N₀ q hq).1), hideAll_none _ (List.mem_map_of_mem hq)⟩
  · have hkeep : ∀ b o, (hideAll s.heap (lit.map (·.1))).get? b = some o → s'.heap.get? b = some o := by
      obtain ⟨L', m', news', F', _⟩ := hl
      exact F'.keep
    exact lv _ _ hl fun q hq hn => hkeep _ _ (hideAll_get _ (N q hq).1 (not_in_addrs (fun q hq => (N₀ q hq).1) (N q hq).1 hn))

theorem item_tupI {E : Value → Shared → Prop} {value slice : Expr} {l : Addr} {vs : List Value} {c : List Int} {k : Int} {u : Tok} {Q : Value → Shared → Prop} (ht : IsTup s.heap l vs.toArray) (hI : IntsAre vs c) (h0 : 0 ≤ k) (hk : k < c.length)
    (hfit : k < 2 ^ 63) (h : ∀ t, Q (.int (c.getD k.toNat 0) t) s)
    (hs : subscripted slice false (.ref l) (.int k u) = operate [.ref l, .int k u] (getItem (.ref l) (.int k u)) := by with_unfolding_all rfl) :
    wpAny (model prog w) A (subscriptTail value slice (.ref l) (.int k u)) Q E s := by
  have hlen := hI.length
  obtain ⟨n, rfl⟩ : ∃ n : Nat, k = n := ⟨k.toNat, by omega⟩
  have hn : n < c.length := by omega
  obtain ⟨t, ht'⟩ := IntsAre.get hI (i := n) (n := c[n]) (by simp [hn])
  refine item_tupleT ht (j := n) (x := .int (c.getD n 0) t) (by omega) hfit ?_ ?_ (by simpa using h t) hs
  · have h1 : ¬ ((n : Int) < 0) := by omega
    have h2 : n < vs.length := by omega
    simp [seqIndex?, h1, h2]
  · simpa [List.getD_eq_getElem?_getD, hn] using ht'

theorem mulOk_div {k ts b : Int} (h0 : 0 ≤ k) (h1 : k < 100000) (ht : 1 ≤ ts) : IntMulOk (k.fdiv ts) b := by
  refine .of_left (intBits_le_64 ?_ ?_)
  all_goals
    have h2 : 0 ≤ k.fdiv ts := Int.fdiv_nonneg h0 (by omega)
    have h3 : k.fdiv ts ≤ k := by
      rw [Int.fdiv_eq_ediv_of_nonneg _ (by omega)]
      exact Int.ediv_le_self _ h0
    omega
end

/-- a turn's end of a loop over an iterator at I; the ledger and the names that count are told by st -/
def TEnd {σ : Type} (h₀ : Heap) (L I : Addr) (io : Obj) (Led : σ → Led) (ps : σ → List (Str × Value)) (Inv : σ → Prop) (s₁ : Shared) (Q : Flow → Shared → Prop) (f : Flow) (s₂ : Shared) : Prop :=
  match f with
  | .ret v => Q (.ret v) s₂
  | .brk => Q .next s₂
  | _ => ∃ h' tk' m' st', s₂ = { s₁ with heap := h', toks := tk' } ∧ Fr h₀ L h' m' ∧ News h₀ L h' ((I, io) :: Led st') ∧ (∀ p ∈ Led st', p.1 ≠ I) ∧ (∀ p ∈ ps st', m' p.1 = some p.2) ∧ Inv st'

theorem TEnd.next {σ : Type} {h₀ : Heap} {L I : Addr} {io : Obj} {Led : σ → Led} {ps : σ → List (Str × Value)} {Inv : σ → Prop} {s₁ : Shared} {Q : Flow → Shared → Prop} {h' : Heap} {tk' : Nat} {m' : Str → Option Value} {all : List (Addr × Obj)} (st' : σ)
    (F : Fr h₀ L h' m') (N : News h₀ L h' all) (hs : ∀ p ∈ (I, io) :: Led st', p ∈ all) (hne : ∀ p ∈ Led st', p.1 ≠ I) (hps : ∀ p ∈ ps st', m' p.1 = some p.2) (hi : Inv st') :
    TEnd h₀ L I io Led ps Inv s₁ Q .next { s₁ with heap := h', toks := tk' } := ⟨h', tk', m', st', rfl, F, fun p hp => N p (hs p hp), hne, hps, hi⟩

theorem ne_of_cls {h₀ h : Heap} {L I : Addr} {io : Obj} {all : List (Addr × Obj)} {c : Value} {p : Addr × Obj} (N : News h₀ L h all) (hI : (I, io) ∈ all) (hp : p ∈ all) (hc : io.cls = c) (hn : p.2.cls ≠ c) : p.1 ≠ I := by
  intro e
  have h1 := (N _ hI).1
  have h2 := (N _ hp).1
  rw [e] at h2
  rw [h1] at h2
  have h3 : io = p.2 := Option.some.inj h2
  exact hn (h3 ▸ hc)

theorem ne_news {h₀ h : Heap} {L : Addr} {all : List (Addr × Obj)} {a b : Addr} {o o' : Obj} (N : News h₀ L h all) (ha : (a, o) ∈ all) (hb : (b, o') ∈ all) (hn : o.cls ≠ o'.cls) : @Ne Nat a b := by
  intro e
  have h1 := (N _ ha).1
  have h2 := (N _ hb).1
  have e' : a = b := e
  subst e'
  rw [h1] at h2
  exact hn (congrArg Obj.cls (Option.some.inj h2))

/-- a tree that the walk is to leave alone -/
def Hold (p : Prop) : Prop := p
theorem Hold.stop {p : Prop} (h : Hold p) : p := h
theorem Hold.go {p : Prop} (h : p) : Hold p := h

theorem off1_ne {D a : Addr} {o : Obj} : ∀ {l : List (Addr × Obj)}, LCg.Off1 D l → (a, o) ∈ l → @Ne Nat a D
  | [], _, h => nomatch h
  | _ :: _, x, h => by
    rcases List.mem_cons.mp h with rfl | h
    · exact x.1
    · exact off1_ne x.2 h
theorem fmod_bnd {x n : Int} (h : 0 < n) : 0 ≤ x.fmod n ∧ x.fmod n < n := ⟨Int.fmod_nonneg_of_pos _ h, Int.fmod_lt_of_pos _ h⟩
theorem type_ne {a b : String} (h : a ≠ b) : Value.type a ≠ Value.type b := fun e => h (by injection e)

theorem fr_kstB {h₀ h : Heap} {L : Addr} {m₁ : Str → Option Value} {ps : List (Str × Value)} (hps : ∀ p ∈ ps, m₁ p.1 = some p.2) (F : Fr h₀ L h m₁) : Fr h₀ L h (kstB m₁ ps) := by
  have e : kstB m₁ ps = m₁ := funext fun z => kstB_eq hps fun _ => rfl
  rw [e]; exact F
theorem fr_kstBx {h₀ h : Heap} {L : Addr} {x : Str} {v : Value} {m₁ : Str → Option Value} {ps : List (Str × Value)} (hps : ∀ p ∈ ps, m₁ p.1 = some p.2) (F : Fr h₀ L h (fun y => if y = x then some v else m₁ y)) : Fr h₀ L h (fun y => if y = x then some v else kstB m₁ ps y) := by
  have e : kstB m₁ ps = m₁ := funext fun z => kstB_eq hps fun _ => rfl
  rw [e]; exact F

section
variable {prog : Program} {w : World} {A : Around} {E : Value → Shared → Prop} {s : Shared} {env : Env} {h₀ : Heap} {x : Str} {body : List Stmt} {Q : Flow → Shared → Prop} {m₀ : Str → Option Value}

theorem loopS {σ : Type} {I : Addr} {n : Nat} {P : Nat → Value → Prop} {St : Nat → Heap → Prop} {cls : Value} (W : Walks prog w A I [I] [I] n P St) (hSt : ∀ i h, St i h → ∃ o, h.get? I = some o ∧ o.cls = cls)
    (hIL : env.locals ≠ I) (hI₀ : h₀.get? I = none) (Led : σ → Led) (ps : σ → List (Str × Value)) (Inv : Nat → σ → Prop) (st₀ : σ) (hst : St 0 s.heap) (F : Fr h₀ env.locals s.heap m₀) (N : News h₀ env.locals s.heap (Led st₀))
    (hne : ∀ p ∈ Led st₀, p.1 ≠ I) (hps : ∀ p ∈ ps st₀, m₀ p.1 = some p.2) (h0 : Inv 0 st₀)
    (turn : ∀ i v st u h tk io, i < n → P i v → Inv i st → io.cls = cls → (∀ p ∈ Led st, p.1 ≠ I) → Fr h₀ env.locals h (fun y => if y = x then some v else kstB u (ps st) y) → News h₀ env.locals h ((I, io) :: Led st) →
      wpAny (model prog w) A (execs body env) (TEnd h₀ env.locals I io Led ps (Inv (i + 1)) { s with heap := h, toks := tk } Q) E { s with heap := h, toks := tk })
    (done : ∀ st u h tk, Inv n st → Fr h₀ env.locals h (kstB u (ps st)) → News h₀ env.locals h (Led st) → Q .next { s with heap := h, toks := tk }) :
    LoopAtV prog w A h₀ env x body Q E (.ref I) s := by
  refine ⟨I, [I], [I], n, P, St, m₀, Led st₀, fun i m nx => ∃ st, nx = Led st ∧ (∀ p ∈ ps st, m p.1 = some p.2) ∧ Inv i st, rfl, W, ?_, ?_, ?_, hst, F, N, ⟨st₀, rfl, hps, h0⟩, ?_, ?_⟩
  · intro hm; exact hIL (List.mem_singleton.mp hm)
  · intro b hb; rw [List.mem_singleton.mp hb]; exact hI₀
  · intro p hp hm; exact hne p hp (List.mem_singleton.mp hm)
  · rintro i v m₁ news₁ s₁ own ⟨h, tk, rfl⟩ hin hP ⟨st, rfl, hps', hInv⟩ hoff hown hownh hfull hst' F₁ N₁
    obtain ⟨io, hio, hcls⟩ := hSt _ _ hst'
    have hmem : (I, io) ∈ own := hfull I (List.mem_singleton.mpr rfl) hI₀ io hio
    have hoff' : ∀ p ∈ Led st, p.1 ≠ I := fun p hp e => hoff p hp (List.mem_singleton.mpr e)
    have N₂ : News h₀ env.locals h ((I, io) :: Led st) := fun p hp => by
      rcases List.mem_cons.mp hp with rfl | hp
      · exact N₁ _ (List.mem_append_left _ hmem)
      · exact N₁ _ (List.mem_append_right _ hp)
    refine wpAny_mono (turn i v st m₁ h tk io hin hP hInv hcls hoff' (fr_kstBx hps' F₁) N₂) (fun f s₂ t => ?_) fun _ _ e => e
    have fin : (∃ h' tk' m' st', s₂ = { ({ s with heap := h, toks := tk } : Shared) with heap := h', toks := tk' } ∧ Fr h₀ env.locals h' m' ∧ News h₀ env.locals h' ((I, io) :: Led st') ∧ (∀ p ∈ Led st', p.1 ≠ I) ∧ (∀ p ∈ ps st', m' p.1 = some p.2) ∧ Inv (i + 1) st') →
        LoopStepU h₀ env.locals [I] own (fun m nx => ∃ st, nx = Led st ∧ (∀ p ∈ ps st, m p.1 = some p.2) ∧ Inv (i + 1) st) { s with heap := h, toks := tk } .next s₂ := by
      rintro ⟨h', tk', m', st', rfl, F', N', hne', hps'', hi'⟩
      refine ⟨rfl, h', tk', m', Led st', rfl, F', fun p hp => ?_, fun p hp hm => hne' p hp (List.mem_singleton.mp hm), st', rfl, hps'', hi'⟩
      rcases List.mem_append.mp hp with hp | hp
      · have e1 : p.1 = I := List.mem_singleton.mp (hown p hp)
        have e2 : p.2 = io := by
          have := hownh p hp
          rw [e1] at this
          exact Option.some.inj (this.symm.trans hio)
        have e3 : p = (I, io) := Prod.ext e1 e2
        rw [e3]; exact N' _ List.mem_cons_self
      · exact N' _ (List.mem_cons_of_mem _ hp)
    cases f with
    | ret v => exact .ret t
    | brk => exact .brk t
    | next => exact .next (fin t)
    | cont => exact .cont (fin t)
  · rintro h' tk m' news' F' N' _ ⟨st, rfl, hps', hi⟩
    exact done st m' h' tk hi (fr_kstB hps' F') N'

theorem text_loop {σ : Type} {xt : Str} {tx : Tok} (ha : xt.cps.all (· < 128) = true) (hh : A.handled = none) (Led : σ → Led) (ps : σ → List (Str × Value)) (Inv : Nat → σ → Prop) (st₀ : σ)
    (F : Fr h₀ env.locals s.heap m₀) (N : News h₀ env.locals s.heap (Led st₀)) (hps : ∀ p ∈ ps st₀, m₀ p.1 = some p.2) (h0 : Inv 0 st₀)
    (turn : ∀ (I : Addr) i (c : Nat) t st u h tk io, xt.cps[i]? = some c → Inv i st → io.cls = .type "str_ascii_iterator" → (∀ p ∈ Led st, p.1 ≠ I) → Fr h₀ env.locals h (fun y => if y = x then some (.str ⟨#[c]⟩ t) else kstB u (ps st) y) → News h₀ env.locals h ((I, io) :: Led st) →
      wpAny (model prog w) A (execs body env) (TEnd h₀ env.locals I io Led ps (Inv (i + 1)) { s with heap := h, toks := tk } Q) E { s with heap := h, toks := tk })
    (done : ∀ st u h tk, Inv xt.cps.size st → Fr h₀ env.locals h (kstB u (ps st)) → News h₀ env.locals h (Led st) → Q .next { s with heap := h, toks := tk }) :
    wpAny (model prog w) A (pyIter (.str xt tx)) (fun it s₂ => LoopAtV prog w A h₀ env x body Q E it s₂) E s := by
  refine wpAny_pyIter_ascii ha ?_
  refine loopS (Walks.strAscii hh s.heap.objs.size xt tx) (cls := .type "str_ascii_iterator") (fun i h st => ?_) (Nat.ne_of_lt F.ns.lt) (next_is_new F) Led ps Inv st₀ ⟨_, Heap.get?_push_size _ rfl, rfl, rfl⟩ (F.push _)
    (fun p hp => ⟨Heap.get?_push_of_some _ (N p hp).1, (N p hp).2⟩) (fun p hp => Nat.ne_of_lt (Heap.lt_size (N p hp).1)) hps h0 ?_ done
  · obtain ⟨o, ho, hc, _⟩ := st
    exact ⟨o, ho, hc⟩
  · rintro i v st u h tk io hi ⟨c, t, hc, rfl⟩ hInv hcls hne F' N'
    exact turn _ i c t st u h tk io hc hInv hcls hne F' N'

theorem range_loop {σ : Type} {r : Addr} {a₀ b₀ : Int} {t₀ u₀ v₀ : Tok} {n : Nat} (hr : IsRange s.heap r a₀ b₀ 1 t₀ u₀ v₀) (hsmall : Builtin.Range.small a₀ b₀ 1 = true) (hn : Builtin.Range.rangeSize a₀ b₀ 1 = (n : Int)) (hh : A.handled = none) (Led : σ → Led) (ps : σ → List (Str × Value)) (Inv : Nat → σ → Prop) (st₀ : σ)
    (F : Fr h₀ env.locals s.heap m₀) (N : News h₀ env.locals s.heap (Led st₀)) (hps : ∀ p ∈ ps st₀, m₀ p.1 = some p.2) (h0 : Inv 0 st₀)
    (turn : ∀ (I : Addr) (i : Nat) t st u h tk io, i < n → Inv i st → io.cls = .type "range_iterator" → (∀ p ∈ Led st, p.1 ≠ I) → Fr h₀ env.locals h (fun y => if y = x then some (.int (a₀ + i) t) else kstB u (ps st) y) → News h₀ env.locals h ((I, io) :: Led st) →
      wpAny (model prog w) A (execs body env) (TEnd h₀ env.locals I io Led ps (Inv (i + 1)) { s with heap := h, toks := tk } Q) E { s with heap := h, toks := tk })
    (done : ∀ st u h tk, Inv n st → Fr h₀ env.locals h (kstB u (ps st)) → News h₀ env.locals h (Led st) → Q .next { s with heap := h, toks := tk }) :
    wpAny (model prog w) A (pyIter (.ref r)) (fun it s₂ => LoopAtV prog w A h₀ env x body Q E it s₂) E s := by
  refine wpAny_pyIter_range hr hsmall ?_
  refine loopS (LCg.range_walks hh a₀ n) (cls := .type "range_iterator") (fun i h st => ⟨_, st, rfl⟩) (Nat.ne_of_lt F.ns.lt) (next_is_new F) Led ps Inv st₀ (by show IsRangeIter _ _ _ _ _; rw [hn]; simpa using Heap.get?_push_size _ rfl) (F.push _)
    (fun p hp => ⟨Heap.get?_push_of_some _ (N p hp).1, (N p hp).2⟩) (fun p hp => Nat.ne_of_lt (Heap.lt_size (N p hp).1)) hps h0 ?_ done
  rintro i v st u h tk io hi ⟨t, rfl⟩ hInv hcls hne F' N'
  exact turn _ i t st u h tk io hi hInv hcls hne F' N'
end

section
open LCg LCt
variable {prog : Program} {w : World} {A : Around} {E : Value → Shared → Prop} {s : Shared} {h₀ : Heap} {L : Addr} {m : Str → Option Value} {env : Env}

theorem compEnd_mono {s₁ : Shared} {I C D : Addr} {oI oC oD : Obj} {S : Led → Prop} {rest rest' : Value → Led → Prop} {y : Value} {s₂ : Shared} (h : CompEnd h₀ L m s₁ I oI C oC D oD S rest y s₂) (hr : ∀ nx, rest y nx → rest' y nx) :
    CompEnd h₀ L m s₁ I oI C oC D oD S rest' y s₂ := by
  obtain ⟨h', tk, nx, e, F, N, o, hS, r⟩ := h
  exact ⟨h', tk, nx, e, F, N, o, hS, hr nx r⟩

theorem comp_ind {elt : Expr} {x : Str} {scope : Scope} {cl : List (Str × Addr)} {S : Led → Prop} {P : Nat → Value → Prop} {Fin : List Value → Led → Prop} {n : Nat} (Inv : Nat → List Value → Led → Prop)
    (turn : ∀ i ys nx v I oI C oC D m₂ h tk (E' : Value → Shared → Prop), i < n → Inv i ys nx → P i v → NsObj oC m₂ → m₂ x = some v → Fr h₀ L h m → News h₀ L h ((I, oI) :: (C, oC) :: (D, lst ys) :: nx) → Off3 I C D nx → ((@Ne Nat I C) ∧ (@Ne Nat I D) ∧ (@Ne Nat C D)) →
      wpAny (model prog w) A (eval elt (compEnvC scope cl C env)) (CompEnd h₀ L m { s with heap := h, toks := tk } I oI C oC D (lst ys) S (fun y nx' => Inv (i + 1) (ys ++ [y]) nx')) E' { s with heap := h, toks := tk })
    (fin : ∀ ys nx, Inv n ys nx → Fin ys nx) : ∀ k i ys nx, i + k = n → Inv i ys nx → CompRest prog w A h₀ L m env elt x scope cl s S P Fin k i ys nx := by
  intro k
  induction k with
  | zero => intro i ys nx e h; exact fin ys nx (by have : i = n := by omega
                                                   exact this ▸ h)
  | succ k ih =>
    intro i ys nx e h
    refine CompRest.succ ?_
    intro v I oI C oC D m₂ hp tk E' hP hC hx F N off ne
    refine wpAny_mono (turn i ys nx v I oI C oC D m₂ hp tk E' (by omega) h hP hC hx F N off ne) (fun y s' hq => ?_) fun _ _ e => e
    exact compEnd_mono hq fun nx' hr => ih (i + 1) (ys ++ [y]) nx' (by omega) hr

theorem compT_ind {ct elt : Expr} {x : Str} {scope : Scope} {cl : List (Str × Addr)} {S : Led → Prop} {P : Nat → Value → Prop} {Fin : List Value → Led → Prop} {n : Nat} (Inv : Nat → List Value → Led → Prop)
    (turn : ∀ i ys nx v I oI C oC D m₂ h tk (E' : Value → Shared → Prop), i < n → Inv i ys nx → P i v → NsObj oC m₂ → m₂ x = some v → Fr h₀ L h m → News h₀ L h ((I, oI) :: (C, oC) :: (D, lst ys) :: nx) → Off3 I C D nx → ((@Ne Nat I C) ∧ (@Ne Nat I D) ∧ (@Ne Nat C D)) →
      wpAny (model prog w) A (isTrue ct (compEnvC scope cl C env) (eval ct (compEnvC scope cl C env))) (fun ok s' => if ok = true then
        wpAny (model prog w) A (eval elt (compEnvC scope cl C env)) (CompEnd h₀ L m { s with heap := h, toks := tk } I oI C oC D (lst ys) S (fun y nx' => Inv (i + 1) (ys ++ [y]) nx')) E' s'
        else CompEnd h₀ L m { s with heap := h, toks := tk } I oI C oC D (lst ys) S (fun _ nx' => Inv (i + 1) ys nx') Value.none s') E' { s with heap := h, toks := tk })
    (fin : ∀ ys nx, Inv n ys nx → Fin ys nx) : ∀ k i ys nx, i + k = n → Inv i ys nx → CompRestT prog w A h₀ L m env ct elt x scope cl s S P Fin k i ys nx := by
  intro k
  induction k with
  | zero => intro i ys nx e h; exact fin ys nx (by have : i = n := by omega
                                                   exact this ▸ h)
  | succ k ih =>
    intro i ys nx e h
    refine CompRestT.succ ?_
    intro v I oI C oC D m₂ hp tk E' hP hC hx F N off ne
    refine wpAny_mono (turn i ys nx v I oI C oC D m₂ hp tk E' (by omega) h hP hC hx F N off ne) (fun ok s' hq => ?_) fun _ _ e => e
    cases ok with
    | true =>
      simp only [if_true] at hq ⊢
      exact wpAny_mono hq (fun y s'' hq' => compEnd_mono hq' fun nx' hr => ih (i + 1) (ys ++ [y]) nx' (by omega) hr) fun _ _ e => e
    | false =>
      simp only [Bool.false_eq_true, if_false] at hq ⊢
      exact compEnd_mono hq fun nx' hr => ih (i + 1) ys nx' (by omega) hr
end

theorem ints_exist : ∀ {vs : List Value}, (∀ v ∈ vs, ∃ n t, v = Value.int n t) → ∃ ms, IntsAre vs ms
  | [], _ => ⟨[], .nil⟩
  | v :: vs, h => by
    obtain ⟨n, t, rfl⟩ := h v (by simp)
    obtain ⟨ms, hm⟩ := ints_exist (vs := vs) fun u hu => h u (by simp [hu])
    exact ⟨n :: ms, .cons n t hm⟩
theorem pick_ints {vs : List Value} {ns : List Int} (hi : IntsAre vs ns) (lo hi' st : Option Int) : ∃ ms, IntsAre (slicePick vs.toArray lo hi' st).toList ms ∧ ms.length ≤ ns.length := by
  obtain ⟨ms, hm⟩ := ints_exist (vs := (slicePick vs.toArray lo hi' st).toList) fun v hv => by
    unfold slicePick at hv
    simp only [List.mem_filterMap] at hv
    obtain ⟨j, _, hj⟩ := hv
    obtain ⟨n, t, e, _⟩ := hi.at j v (by simpa using hj)
    exact ⟨n, t, e⟩
  refine ⟨ms, hm, ?_⟩
  have h1 := slicePick_size_le vs.toArray lo hi' st
  have h2 := hm.length
  have h3 := hi.length
  simp only [Array.length_toList, List.size_toArray] at h1 h2
  omega
theorem slice3_ints {prog : Program} {w : World} {A : Around} {E : Value → Shared → Prop} {s : Shared} {h₀ : Heap} {L l : Addr} {m : Str → Option Value} {news : List (Addr × Obj)} {value slice : PySem.Expr} {vs : List Value} {ns : List Int} {vl vu vk : Value} {lo hi st : Option Int} {ops : List Value} {Q : Value → Shared → Prop}
    (F : Fr h₀ L s.heap m) (N : News h₀ L s.heap news) (hl : s.heap.IsList l vs.toArray) (pl : IsPart vl lo) (pu : IsPart vu hi) (pk : IsPart vk st) (h0 : st ≠ some 0) (hi' : IntsAre vs ns)
    (h : ∀ D us ms h', Fr h₀ L h' m → News h₀ L h' ((D, W.listOf us.toArray 0) :: news) → (∀ p ∈ news, p.1 < D) → IntsAre us ms → ms.length ≤ ns.length → Q (.ref D) { s with heap := h' })
    (hs : subscripted slice false (.ref l) (.ref s.heap.objs.size) = operate ops (getItem (.ref l) (.ref s.heap.objs.size))) (ht : ∀ r, letTemporaryGo value (.ref l) r = pure ()) (hz : ns.length ≤ sizeLine) :
    wpAny (model prog w) A (subscriptTail value slice (.ref l) (.ref s.heap.objs.size)) Q E { s with heap := s.heap.push { cls := .type "slice", data := .fields #[vl, vu, vk] } } := by
  obtain ⟨ms, hm, hlen⟩ := pick_ints hi' lo hi st
  exact kmk_slice3_lit F N hl pl pu pk h0 rfl (fun D h' F' N' l1 => h D _ ms h' F' N' l1 hm hlen) hs ht (by rw [List.size_toArray, hi'.length]; exact hz)
theorem hideQ {α : Type} {M : Model} {A : Around} {t : Sem α} {Q : α → Shared → Prop} {E : Value → Shared → Prop} {s : Shared} (h : ∀ K : α → Shared → Prop, (∀ v s', Q v s' → K v s') → wpAny M A t K E s) : wpAny M A t Q E s := h Q fun _ _ h => h
theorem ints4 {us : List Value} {a b c d : Int} (h : IntsAre us [a, b, c, d]) : ∃ t1 t2 t3 t4, us = [.int a t1, .int b t2, .int c t3, .int d t4] := by
  cases h with | cons _ _ h => cases h with | cons _ _ h => cases h with | cons _ _ h => cases h with | cons _ _ h => cases h; exact ⟨_, _, _, _, rfl⟩
theorem ints3 {us : List Value} {a b c : Int} (h : IntsAre us [a, b, c]) : ∃ t1 t2 t3, us = [.int a t1, .int b t2, .int c t3] := by
  cases h with | cons _ _ h => cases h with | cons _ _ h => cases h with | cons _ _ h => cases h; exact ⟨_, _, _, rfl⟩
theorem map_cut {h₀ h : Heap} {L : Addr} {m : Str → Option Value} (ps : List (Str × Value)) {P : Prop} (F : Fr h₀ L h m) (hps : ∀ p ∈ ps, m p.1 = some p.2) (k : ∀ u, Fr h₀ L h (kstB u ps) → P) : P := k m (fr_kstB hps F)
theorem toks_cut {α : Type} {M : Model} {A : Around} {t : Sem α} {Q : α → Shared → Prop} {E : Value → Shared → Prop} {s : Shared} {h : Heap} {n : Nat} (k : ∀ n', wpAny M A t Q E { s with heap := h, toks := n' }) : wpAny M A t Q E { s with heap := h, toks := n } := k n
end Mine
namespace Mine
open_top hd for PySem.Challenge.rw_re0074_02
theorem fillLaw : hd.heap_39 = hd.heap_39 ∧ PySem.Challenge.rw_re0074_02 = PySem.Challenge.rw_re0074_02 := by
  w_top off
  k_fill
  exact ⟨rfl, rfl⟩
local macro_rules | `(tactic| walk_at "call builtin:len") => `(tactic| (k_here; (with_reducible show wpAny _ _ (call (Value.builtin "len") [Value.ref _]) _ _ _); k_dflt (refine' PyProof.Rows.len_tuple ?k1 ?k2 ?_; (case k1 => exact News.isTup (by k_asm) (by k_mem)); (case k2 => ((simp only [List.size_toArray]); omega)))))
local macro_rules | `(tactic| walk_at "subscriptTail Name Name ref int") => `(tactic| (k_here; k_dflt (refine' item_tupI ?k1 ?k2 ?k3 ?k4 ?k5 ?_; (case k1 => exact News.isTup (by k_asm) (by k_mem)); (case k2 => assumption); (case k3 => omega); (case k4 => omega); (case k5 => omega)); intro t9'))
local macro_rules | `(tactic| walk_at "binaryOp Mult int int") => `(tactic| (k_here; (with_reducible show wpAny _ _ (binaryOp Operator.Mult (Value.int (Int.fdiv _ _) _) (Value.int _ _)) _ _ _); refine PyProof.Rows.mul_int (hm := mulOk_div (by omega) (by omega) (by omega)) ?_))
local macro_rules | `(tactic| k_ne) => `(tactic| first | ((refine neN ?_); (try dsimp only); first | assumption | (refine Ne.symm ?_; assumption)) | ((refine neN ?_); (try dsimp only); first | exact off1_ne (by assumption) (by k_mem) | exact Ne.symm (off1_ne (by assumption) (by k_mem))) | (refine neN ?_; (try dsimp only); omega) | ((try dsimp only); exact ne_news (by assumption) (by k_mem) (by k_mem) (by first | exact type_ne (by decide) | (intro hh; cases hh))))
local macro_rules | `(tactic| lcg_off) => `(tactic| assumption)
local macro_rules | `(tactic| walk_at "FinE") => `(tactic| ((unfold LCg.FinE); intro D' h' tk' F' N' o1'; (try simp only [List.nil_append, List.cons_append] at N'); (try dsimp only)))
local macro_rules | `(tactic| walk_at "FinA") => `(tactic| ((unfold LCg.FinA); intro D' h' tk' F' N' o1'; (try simp only [List.nil_append, List.cons_append] at N'); (try dsimp only)))
section
variable {w : World} {mean : ExcName → Option Value} {mg mb : Str → Option Value} {dp un : Nat} {gd : Option (List Code)} {cn : Str} {cs : Scope} {a : Addr} {ccd : Value} {cl : List (Str × Addr)} {outer : List Env} {A₀ : Around} {base h₀ : Heap} {L : Addr} {m : Str → Option Value} {s : Shared} {Q E : Value → Shared → Prop} {news : List (Addr × Obj)}
@[irreducible] def isb (i : Int) : Bool := if i = 0 then false else Builtin.bitAnd i (i - 1) == 0

theorem isb_spec {i : Int} {t : Tok} (B : Below A₀ base outer h₀) (F : Fr h₀ L s.heap m) (X : (hd.heap_39 w.params).In h₀) (N : News h₀ L s.heap news) (T : Top hd.view_39 (looseW hd.view_39 [Str.ofString "Whitespace"]) mean mg mb h₀) (hk : cs.kind = .function) (hdp : dp + 1 < recursionLimit) (hun : un + 8 < cLine)
    (hret : ∀ (t : Tok) h' tk', Fr h₀ L h' m → News h₀ L h' news → Q (.bool (isb i)) {s with heap := h', toks := tk'}) :
    wpAny (model PySem.Challenge.rw_re0074_02.row.prog w) (ktrTop dp un gd cn cs L a ccd cl outer) (call (.ref 28) [.int i t]) Q E s := by
  refine wpAny_call ?_
  k_dflt (refine' enterZ (lit := []) ?k1 ?k2 ?k3 ?k4 ?k5 ?ksub ?kA ?kF ?kK ?k6 ?k7 ?k8 ?k9 ?kB ?_ ?c2 ?c3 ?c4 ?c5; (case kA => exact rfl); (case kF => exact rfl); (case kK => first | assumption | exact rfl); (case k1 => k_asm); (case k2 => k_asm); (case k3 => k_asm); (case k4 => k_asm); (case k5 => k_asm); (case ksub => (first | exact List.forall_mem_nil _ | (repeat (refine sub_cons (by assumption) ?_)); exact List.forall_mem_nil _)); (case k6 => k_is); (case k7 => k_is); (case k8 => ktr_room); (case k9 => exact BindsTo.of_eq rfl); (case c5 => decide); (case kB => exact locs rfl); (case c2 => exact rfl); (case c3 => exact rfl); (case c4 => exact rfl); k_whole; intro g' L' h' F' N' B' X' T' l0; (try k_lt l0); (try dsimp only); (try k_fold))
  k_steps
  · unfold OutZ; intro hz; dsimp only
    exact cb_retB hret (by unfold isb; rw [if_pos (by assumption)]) (by k_asm) (news_join (by k_asm) (List.forall_mem_nil _) (tl := []) (List.forall_mem_nil _) hz N)
  · unfold OutZ; intro hz; dsimp only
    exact cb_retB hret (by unfold isb; rw [if_neg (by assumption)]) (by k_asm) (news_join (by k_asm) (List.forall_mem_nil _) (tl := []) (List.forall_mem_nil _) hz N)

@[irreducible] def hbit (i : Int) : Int := (Builtin.Int.intBits i : Int) - 1

theorem hb_spec {i : Int} {t : Tok} (B : Below A₀ base outer h₀) (F : Fr h₀ L s.heap m) (X : (hd.heap_39 w.params).In h₀) (N : News h₀ L s.heap news) (T : Top hd.view_39 (looseW hd.view_39 [Str.ofString "Whitespace"]) mean mg mb h₀) (hk : cs.kind = .function) (hdp : dp + 1 < recursionLimit) (hun : un + 8 < cLine)
    (hret : ∀ (t : Tok) h' tk', Fr h₀ L h' m → News h₀ L h' news → Q (.int (hbit i) t) {s with heap := h', toks := tk'}) :
    wpAny (model PySem.Challenge.rw_re0074_02.row.prog w) (ktrTop dp un gd cn cs L a ccd cl outer) (call (.ref 35) [.int i t]) Q E s := by
  refine wpAny_call ?_
  k_dflt (refine' enterZ (lit := []) ?k1 ?k2 ?k3 ?k4 ?k5 ?ksub ?kA ?kF ?kK ?k6 ?k7 ?k8 ?k9 ?kB ?_ ?c2 ?c3 ?c4 ?c5; (case kA => exact rfl); (case kF => exact rfl); (case kK => first | assumption | exact rfl); (case k1 => k_asm); (case k2 => k_asm); (case k3 => k_asm); (case k4 => k_asm); (case k5 => k_asm); (case ksub => (first | exact List.forall_mem_nil _ | (repeat (refine sub_cons (by assumption) ?_)); exact List.forall_mem_nil _)); (case k6 => k_is); (case k7 => k_is); (case k8 => ktr_room); (case k9 => exact BindsTo.of_eq rfl); (case c5 => decide); (case kB => exact locs rfl); (case c2 => exact rfl); (case c3 => exact rfl); (case c4 => exact rfl); k_whole; intro g' L' h' F' N' B' X' T' l0; (try k_lt l0); (try dsimp only); (try k_fold))
  k_steps
  unfold OutZ; intro hz; dsimp only
  exact cb_retI hret (by unfold hbit; rfl) (by k_asm) (news_join (by k_asm) (List.forall_mem_nil _) (tl := []) (List.forall_mem_nil _) hz N)
end
section
variable {w : World} {mean : ExcName → Option Value} {mg mb : Str → Option Value} {dp un : Nat} {gd : Option (List Code)} {cn : Str} {cs : Scope} {a : Addr} {ccd : Value} {cl : List (Str × Addr)} {outer : List Env} {A₀ : Around} {base h₀ : Heap} {L : Addr} {m : Str → Option Value} {s : Shared} {Q E : Value → Shared → Prop} {news : List (Addr × Obj)}
abbrev leadDict (w : World) (ws : Str) (c : List Int) (n nt : Int) (tn : Addr) (k1 k2 k3 k4 k5 t1 t2 t3 : Tok) : Obj :=
  dictOf [⟨PyData.keyHash w.params (Str.ofString "raw"), .str (Str.ofString "raw") k1, .str ws t1⟩,
      ⟨PyData.keyHash w.params (Str.ofString "n"), .str (Str.ofString "n") k2, .int n t2⟩,
      ⟨PyData.keyHash w.params (Str.ofString "nt"), .str (Str.ofString "nt") k3, .int nt t3⟩,
      ⟨PyData.keyHash w.params (Str.ofString "norm"), .str (Str.ofString "norm") k4, .ref tn⟩,
      ⟨PyData.keyHash w.params (Str.ofString "is_simple"), .str (Str.ofString "is_simple") k5, .bool (decide ((c.length : Int) ≤ 1))⟩] 5
abbrev tupO (l : List Value) (e : Nat) : Obj := { cls := .type "tuple", data := .seq l.toArray e }
/-- the ledger bears at x a lead whose counts are c -/
def LeadIn (w : World) (news : List (Addr × Obj)) (x : Addr) (c : List Int) (n nt : Int) : Prop :=
  ∃ (dx tn tc : Addr) (ws : Str) (vs : List Value) (k1 k2 k3 k4 k5 t1 t2 t3 t4 : Tok) (e1 e2 : Nat),
    (x, instObj 97 dx) ∈ news ∧ (dx, leadDict w ws c n nt tn k1 k2 k3 k4 k5 t1 t2 t3) ∈ news ∧
    (tn, tupO [.ref tc, .int 0 t4] e1) ∈ news ∧ (tc, tupO vs e2) ∈ news ∧ IntsAre vs c

theorem LeadIn.mk {w : World} {news : List (Addr × Obj)} {x dx tn tc : Addr} {ws : Str} {vs : List Value} {c : List Int} {n nt : Int} {k1 k2 k3 k4 k5 t1 t2 t3 t4 : Tok} {e1 e2 : Nat} (m1 : (x, instObj 97 dx) ∈ news) (m2 : (dx, leadDict w ws c n nt tn k1 k2 k3 k4 k5 t1 t2 t3) ∈ news)
    (m3 : (tn, tupO [.ref tc, .int 0 t4] e1) ∈ news) (m4 : (tc, tupO vs e2) ∈ news) (hI : IntsAre vs c) : LeadIn w news x c n nt :=
  ⟨dx, tn, tc, ws, vs, k1, k2, k3, k4, k5, t1, t2, t3, t4, e1, e2, m1, m2, m3, m4, hI⟩
theorem LeadIn.out {w : World} {news : List (Addr × Obj)} {x : Addr} {c : List Int} {n nt : Int} {P : Prop} (h : LeadIn w news x c n nt) (k : ∀ (dx tn tc : Addr) (ws : Str) (vs : List Value) (k1 k2 k3 k4 k5 t1 t2 t3 t4 : Tok) (e1 e2 : Nat),
    (x, instObj 97 dx) ∈ news → (dx, leadDict w ws c n nt tn k1 k2 k3 k4 k5 t1 t2 t3) ∈ news → (tn, tupO [.ref tc, .int 0 t4] e1) ∈ news → (tc, tupO vs e2) ∈ news → IntsAre vs c → P) : P := by
  obtain ⟨dx, tn, tc, ws, vs, k1, k2, k3, k4, k5, t1, t2, t3, t4, e1, e2, m1, m2, m3, m4, hI⟩ := h
  exact k dx tn tc ws vs k1 k2 k3 k4 k5 t1 t2 t3 t4 e1 e2 m1 m2 m3 m4 hI
theorem LeadIn.mono {w : World} {news news' : List (Addr × Obj)} {x : Addr} {c : List Int} {n nt : Int} (h : LeadIn w news x c n nt) (hs : ∀ p ∈ news, p ∈ news') : LeadIn w news' x c n nt := by
  obtain ⟨dx, tn, tc, ws, vs, k1, k2, k3, k4, k5, t1, t2, t3, t4, e1, e2, m1, m2, m3, m4, hI⟩ := h
  exact ⟨dx, tn, tc, ws, vs, k1, k2, k3, k4, k5, t1, t2, t3, t4, e1, e2, hs _ m1, hs _ m2, hs _ m3, hs _ m4, hI⟩

@[irreducible] def longP (c : List Int) : Int := if (0 : Int) > (c.length : Int) - 1 then 0 else (c.length : Int) - 1

theorem long_spec {x : Addr} {c : List Int} {n nt : Int} (B : Below A₀ base outer h₀) (F : Fr h₀ L s.heap m) (X : (hd.heap_39 w.params).In h₀) (N : News h₀ L s.heap news) (T : Top hd.view_39 (looseW hd.view_39 [Str.ofString "Whitespace"]) mean mg mb h₀) (hk : cs.kind = .function) (hdp : dp + 1 < recursionLimit) (hun : un + 8 < cLine)
    (hl : LeadIn w news x c n nt) (hc : c.length < 1000)
    (hret : ∀ t h' tk', Fr h₀ L h' m → News h₀ L h' news → Q (.int (longP c) t) {s with heap := h', toks := tk'}) :
    wpAny (model PySem.Challenge.rw_re0074_02.row.prog w) (ktrTop dp un gd cn cs L a ccd cl outer) (call (.ref 59) [.ref x]) Q E s := by
  refine hl.out ?_
  intro dx tn tc ws vs k1 k2 k3 k4 k5 t1 t2 t3 t4 e1 e2 m1 m2 m3 m4 hI
  have hlen := IntsAre.length hI
  refine wpAny_call ?_
  k_dflt (refine' enterZ (lit := [(x, instObj 97 dx), (dx, leadDict w ws c n nt tn k1 k2 k3 k4 k5 t1 t2 t3), (tn, tupO [.ref tc, .int 0 t4] e1), (tc, tupO vs e2)]) ?k1 ?k2 ?k3 ?k4 ?k5 ?ksub ?kA ?kF ?kK ?k6 ?k7 ?k8 ?k9 ?kB ?_ ?c2 ?c3 ?c4 ?c5; (case kA => exact rfl); (case kF => exact rfl); (case kK => first | assumption | exact rfl); (case k1 => k_asm); (case k2 => k_asm); (case k3 => k_asm); (case k4 => k_asm); (case k5 => k_asm); (case ksub => (first | exact List.forall_mem_nil _ | (repeat (refine sub_cons (by assumption) ?_)); exact List.forall_mem_nil _)); (case k6 => k_is); (case k7 => k_is); (case k8 => ktr_room); (case k9 => exact BindsTo.of_eq rfl); (case c5 => decide); (case kB => exact locs rfl); (case c2 => exact rfl); (case c3 => exact rfl); (case c4 => exact rfl); k_whole; intro g' L' h' F' N' B' X' T' l0; (try k_lt l0); (try dsimp only); (try k_fold))
  k_steps
  unfold OutZ; intro hz; dsimp only
  exact cb_retI hret (by unfold longP; simp only [List.size_toArray, hlen]) (by k_asm) (news_join (by k_asm) (fun _ h => h) (tl := []) (List.forall_mem_nil _) hz N)

def ilsum (c : List Int) (ts : Int) (pre : List Int) : Int := (pre.map fun i => Int.fdiv i ts * c.getD i.toNat 0).sum
theorem ilsum_snoc {c : List Int} {ts il : Int} {pre : List Int} {k : Int} (h : il = ilsum c ts pre) : il + Int.fdiv k ts * c.getD k.toNat 0 = ilsum c ts (pre ++ [k]) := by
  subst h; simp [ilsum]
/-- indent_level -/
@[irreducible] def ilP (c : List Int) (nt ts : Int) : Int := 0 + ts * (ilsum c ts (rangeKs ts ((c.length : Int) - ts).toNat) + nt)

theorem il_spec {x : Addr} {c : List Int} {n nt ts : Int} {tt : Tok} (B : Below A₀ base outer h₀) (F : Fr h₀ L s.heap m) (X : (hd.heap_39 w.params).In h₀) (N : News h₀ L s.heap news) (T : Top hd.view_39 (looseW hd.view_39 [Str.ofString "Whitespace"]) mean mg mb h₀) (hk : cs.kind = .function) (hdp : dp + 1 < recursionLimit) (hun : un + 8 < cLine)
    (hl : LeadIn w news x c n nt) (hc : c.length < 1000) (hts : 1 ≤ ts) (hts2 : ts < 1000)
    (hret : ∀ t h' tk', Fr h₀ L h' m → News h₀ L h' news → Q (.int (ilP c nt ts) t) {s with heap := h', toks := tk'}) :
    wpAny (model PySem.Challenge.rw_re0074_02.row.prog w) (ktrTop dp un gd cn cs L a ccd cl outer) (call (.ref 66) [.ref x, .int ts tt]) Q E s := by
  refine hl.out ?_
  intro dx tn tc ws vs k1 k2 k3 k4 k5 t1 t2 t3 t4 e1 e2 m1 m2 m3 m4 hI
  have hlen := IntsAre.length hI
  refine wpAny_call ?_
  k_dflt (refine' enterZ (lit := [(x, instObj 97 dx), (dx, leadDict w ws c n nt tn k1 k2 k3 k4 k5 t1 t2 t3), (tn, tupO [.ref tc, .int 0 t4] e1), (tc, tupO vs e2)]) ?k1 ?k2 ?k3 ?k4 ?k5 ?ksub ?kA ?kF ?kK ?k6 ?k7 ?k8 ?k9 ?kB ?_ ?c2 ?c3 ?c4 ?c5; (case kA => exact rfl); (case kF => exact rfl); (case kK => first | assumption | exact rfl); (case k1 => k_asm); (case k2 => k_asm); (case k3 => k_asm); (case k4 => k_asm); (case k5 => k_asm); (case ksub => (first | exact List.forall_mem_nil _ | (repeat (refine sub_cons (by assumption) ?_)); exact List.forall_mem_nil _)); (case k6 => k_is); (case k7 => k_is); (case k8 => ktr_room); (case k9 => exact BindsTo.of_eq rfl); (case c5 => decide); (case kB => exact locs rfl); (case c2 => exact rfl); (case c3 => exact rfl); (case c4 => exact rfl); k_whole; intro g' L' h' F' N' B' X' T' l0; (try k_lt l0); (try dsimp only); (try k_fold))
  refine hideQ ?_
  intro K hK
  k_with "pyIter ref" => k_state (fun pre il => il = ilsum c ts pre) "il"
  k_with "state" => first | exact ilsum_snoc (by assumption) | (simp only [ilsum, List.map_nil, List.sum_nil]; done)
  k_steps
  refine hK _ _ ?_
  k_steps
  unfold OutZ; intro hz; dsimp only
  exact cb_retI hret (by unfold ilP; rw [kInv]) (by k_asm) (news_join (by k_asm) (fun _ h => h) (tl := []) (List.forall_mem_nil _) hz N)
end
local macro_rules | `(tactic| walk_at "call ref") => `(tactic| (k_here; (try dsimp only [List.cons_append, List.nil_append, List.append_nil]); first | ((with_reducible show wpAny _ _ (call (Value.ref 66) _) _ _ _); k_dflt (refine' il_spec (by k_asm) (by k_asm) (by k_asm) (by k_asm) (by k_asm) (by first | assumption | exact rfl) (by ktr_room) (by ktr_units) (LeadIn.mk (by k_mem) (by k_mem) (by k_mem) (by k_mem) (by assumption)) (by assumption) (by omega) (by omega) ?_); intros; (try dsimp only)) | ((with_reducible show wpAny _ _ (call (Value.ref 59) _) _ _ _); k_dflt (refine' long_spec (by k_asm) (by k_asm) (by k_asm) (by k_asm) (by k_asm) (by first | assumption | exact rfl) (by ktr_room) (by ktr_units) (LeadIn.mk (by k_mem) (by k_mem) (by k_mem) (by k_mem) (by assumption)) (by first | assumption | omega) ?_); intros; (try dsimp only))))
local macro_rules | `(tactic| walk_at "call ref") => `(tactic| (k_here; (try dsimp only [List.cons_append, List.nil_append, List.append_nil]); first | ((with_reducible show wpAny _ _ (call (Value.ref 28) _) _ _ _); k_dflt (refine' isb_spec (by k_asm) (by k_asm) (by k_asm) (by k_asm) (by k_asm) (by first | assumption | exact rfl) (by ktr_room) (by ktr_units)  ?_); intros; (try dsimp only)) | ((with_reducible show wpAny _ _ (call (Value.ref 35) _) _ _ _); k_dflt (refine' hb_spec (by k_asm) (by k_asm) (by k_asm) (by k_asm) (by k_asm) (by first | assumption | exact rfl) (by ktr_room) (by ktr_units)  ?_); intros; (try dsimp only))))
section
variable {w : World} {mean : ExcName → Option Value} {mg mb : Str → Option Value} {dp un : Nat} {gd : Option (List Code)} {cn : Str} {cs : Scope} {a : Addr} {ccd : Value} {cl : List (Str × Addr)} {outer : List Env} {A₀ : Around} {base h₀ : Heap} {L : Addr} {m : Str → Option Value} {s : Shared} {Q E : Value → Shared → Prop} {news : List (Addr × Obj)}
structure WS where
  ca : Addr
  vs : List Value
  k : Nat
  c : List Int
  b : Int
  n : Int
  nt : Int
  tb : Tok
  tn : Tok
  tt : Tok
  sS : Tok
  sT : Tok
/-- one run of b blanks and its tab more -/
@[irreducible] def incAt (c : List Int) (b : Int) : List Int :=
  if b ≥ (c.length : Int) then (c ++ List.replicate (b - c.length + 1).toNat 0).set b.toNat ((c ++ List.replicate (b - c.length + 1).toNat 0).getD b.toNat 0 + 1) else c.set b.toNat (c.getD b.toNat 0 + 1)
def wsStep (st : List Int × Int × Int × Int) (code : Nat) : List Int × Int × Int × Int :=
  if code = 32 then (st.1, st.2.1 + 1, st.2.2.1 + 1, st.2.2.2) else (incAt st.1 st.2.1, 0, st.2.2.1 + 1, st.2.2.2 + 1)
def WSInv (ws : Str) (i : Nat) (st : WS) : Prop :=
  IntsAre st.vs st.c ∧ (ws.cps.toList.take i).foldl wsStep ([], 0, 0, 0) = (st.c, st.b, st.n, st.nt) ∧ 0 ≤ st.b ∧ st.b ≤ i ∧ st.c.length ≤ i ∧ i ≤ ws.cps.size

theorem take_succ_code {ws : Str} {i code : Nat} (hcode : ws.cps[i]? = some code) : ws.cps.toList.take (i + 1) = ws.cps.toList.take i ++ [code] := by
  rw [List.take_add_one]
  have : ws.cps.toList[i]? = some code := by simpa using hcode
  rw [this]; rfl
theorem size_of_code {ws : Str} {i code : Nat} (hcode : ws.cps[i]? = some code) : i + 1 ≤ ws.cps.size := (Array.getElem?_eq_some_iff.mp hcode).1
theorem ws_blank {ws : Str} {i : Nat} {ca : Addr} {vs : List Value} {k : Nat} {c : List Int} {b n nt : Int} {t1 t2 t3 t4 t5 : Tok} (hI : IntsAre vs c) (hfold : (ws.cps.toList.take i).foldl wsStep ([], 0, 0, 0) = (c, b, n, nt)) (hb0 : 0 ≤ b) (hbi : b ≤ i) (hci : c.length ≤ i)
    (hcode : ws.cps[i]? = some 32) : WSInv ws (i + 1) ⟨ca, vs, k, c, b + 1, n + 1, nt, t1, t2, t3, t4, t5⟩ := by
  refine ⟨hI, ?_, ?_, ?_, ?_, size_of_code hcode⟩
  · rw [take_succ_code hcode, List.foldl_append, hfold]; rfl
  · dsimp only; omega
  · dsimp only; omega
  · dsimp only; omega
theorem incAt_length {c : List Int} {b : Int} (h : 0 ≤ b) : (incAt c b).length = max c.length (b.toNat + 1) := by
  unfold incAt
  split
  · rw [List.length_set, List.length_append, List.length_replicate]; omega
  · rw [List.length_set]; omega
theorem ws_tab {ws : Str} {i : Nat} {ca : Addr} {vs : List Value} {k : Nat} {c : List Int} {b n nt : Int} {t1 t2 t3 t4 t5 : Tok} (hI : IntsAre vs (incAt c b)) (hfold : (ws.cps.toList.take i).foldl wsStep ([], 0, 0, 0) = (c, b, n, nt)) (hb0 : 0 ≤ b) (hbi : b ≤ i) (hci : c.length ≤ i)
    (hcode : ws.cps[i]? = some 9) : WSInv ws (i + 1) ⟨ca, vs, k, incAt c b, 0, n + 1, nt + 1, t1, t2, t3, t4, t5⟩ := by
  refine ⟨hI, ?_, ?_, ?_, ?_, size_of_code hcode⟩
  · rw [take_succ_code hcode, List.foldl_append, hfold]; rfl
  · exact Int.le_refl _
  · dsimp only; omega
  · dsimp only; rw [incAt_length hb0]; omega
theorem flat_rep (k : Nat) : (List.replicate k [(0 : Int)]).flatten = List.replicate k 0 := by
  induction k with
  | zero => rfl
  | succ k ih => rw [List.replicate_succ, List.flatten_cons, ih, List.replicate_succ]; rfl
theorem incAt_long {vs : List Value} {c : List Int} {b : Int} (h : (c.length : Int) ≤ b) (hI : IntsAre vs ((c ++ (List.replicate (b - c.length + 1).toNat [(0 : Int)]).flatten).set b.toNat ((c ++ (List.replicate (b - c.length + 1).toNat [(0 : Int)]).flatten).getD b.toNat 0 + 1))) : IntsAre vs (incAt c b) := by
  unfold incAt
  rw [if_pos h]
  rw [flat_rep] at hI
  exact hI
theorem incAt_short {vs : List Value} {c : List Int} {b : Int} (h : ¬ (c.length : Int) ≤ b) (hI : IntsAre vs (c.set b.toNat (c.getD b.toNat 0 + 1))) : IntsAre vs (incAt c b) := by
  unfold incAt
  rw [if_neg h]
  exact hI

theorem make_spec {ws : Str} {t : Tok} (B : Below A₀ base outer h₀) (F : Fr h₀ L s.heap m) (X : (hd.heap_39 w.params).In h₀) (N : News h₀ L s.heap news) (T : Top hd.view_39 (looseW hd.view_39 [Str.ofString "Whitespace"]) mean mg mb h₀) (hk : cs.kind = .function) (hdp : dp + 4 < recursionLimit) (hun : un + 20 < cLine)
    (hcodes : ∀ code ∈ ws.cps.toList, code = 32 ∨ code = 9) (hws : ws.cps.size < 1000)
    {c₀ : List Int} {n₀ nt₀ : Int} (hfin : ws.cps.toList.foldl wsStep ([], 0, 0, 0) = (c₀, 0, n₀, nt₀))
    (hret : ∀ x dx tn tc vs k1 k2 k3 k4 k5 t1 t2 t3 t4 e1 e2 h' tk', Fr h₀ L h' m → News h₀ L h' ((x, instObj 97 dx) :: (dx, leadDict w ws c₀ n₀ nt₀ tn k1 k2 k3 k4 k5 t1 t2 t3) :: (tn, tupO [.ref tc, .int 0 t4] e1) :: (tc, tupO vs e2) :: news) → IntsAre vs c₀ → c₀.length ≤ ws.cps.size → Q (.ref x) {s with heap := h', toks := tk'}) :
    wpAny (model PySem.Challenge.rw_re0074_02.row.prog w) (ktrTop dp un gd cn cs L a ccd cl outer) (call (.ref 97) [.str ws t]) Q E s := by
  have hascii : ws.cps.all (· < 128) = true := by
    rw [← Array.all_toList, List.all_eq_true]
    intro c hc
    rcases hcodes c hc with rfl | rfl <;> rfl
  k_with_none
  k_dflt (refine' call_cls ?k1 ?k2 ?k3 ?k4 ?k5 ?k6 ?_; (case k1 => k_asm); (case k2 => k_asm); (case k3 => k_asm); (case k4 => k_is); (case k5 => k_is); (case k6 => k_is); k_whole)
  intro x dx h1 F1 N1 l1 l2
  k_lt2 l2
  have m1 : (x, instObj 97 dx) ∈ (x, instObj 97 dx) :: (dx, dictOf [] 0) :: news := by k_mem
  have m2 : (dx, dictOf [] 0) ∈ (x, instObj 97 dx) :: (dx, dictOf [] 0) :: news := by k_mem
  k_dflt (refine' enterZ (lit := [(x, instObj 97 dx), (dx, dictOf [] 0)]) ?k1 ?k2 ?k3 ?k4 ?k5 ?ksub ?kA ?kF ?kK ?k6 ?k7 ?k8 ?k9 ?kB ?_ ?c2 ?c3 ?c4 ?c5; (case kA => exact rfl); (case kF => exact rfl); (case kK => first | assumption | exact rfl); (case k1 => k_asm); (case k2 => k_asm); (case k3 => k_asm); (case k4 => k_asm); (case k5 => k_asm); (case ksub => (first | exact List.forall_mem_nil _ | (repeat (refine sub_cons (by assumption) ?_)); exact List.forall_mem_nil _)); (case k6 => k_is); (case k7 => k_is); (case k8 => ktr_room); (case k9 => exact BindsTo.of_eq rfl); (case c5 => decide); (case kB => exact locs rfl); (case c2 => exact rfl); (case c3 => exact rfl); (case c4 => exact rfl); k_whole; intro g' L' h' F' N' B' X' T' l0; (try k_lt l0); (try dsimp only); (try k_fold))
  k_steps
  rename News g' L' _ _ => hN
  obtain ⟨kt, hN1⟩ : ∃ kt, News g' L' _ [(_, W.listOf ([] : List Value).toArray 0), (x, instObj 97 dx), (dx, dictOf [⟨PyData.keyHash w.params (Str.ofString "raw"), .str (Str.ofString "raw") kt, .str ws t⟩] 1)] :=
    ⟨_, fun p hp => hN p (by revert p; refine List.forall_mem_cons.mpr ⟨by k_mem, List.forall_mem_cons.mpr ⟨by k_mem, sub_cons (by k_mem) (List.forall_mem_nil _)⟩⟩)⟩
  clear hN
  refine' text_loop (σ := WS) hascii rfl (fun st => [(st.ca, W.listOf st.vs.toArray st.k), (x, instObj 97 dx), (dx, dictOf [⟨PyData.keyHash w.params (Str.ofString "raw"), .str (Str.ofString "raw") kt, .str ws t⟩] 1)])
    (fun st => [(Str.ofString "count", .ref st.ca), (Str.ofString "b", .int st.b st.tb), (Str.ofString "n", .int st.n st.tn), (Str.ofString "nt", .int st.nt st.tt), (Str.ofString "self", .ref x), (Str.ofString "S", .str (Str.ofString " ") st.sS), (Str.ofString "T", .str (Str.ofString "\t") st.sT)])
    (fun i st => WSInv ws i st ∧ @LT.lt Nat _ x st.ca ∧ @LT.lt Nat _ dx st.ca) ⟨_, [], 0, [], 0, 0, 0, _, _, _, _, _⟩ (by k_asm) hN1 ?hps ⟨⟨.nil, rfl, Int.le_refl _, Int.le_refl _, Nat.le_refl _, Nat.zero_le _⟩, (by dsimp only; omega), (by dsimp only; omega)⟩ ?turn ?done
  case hps => kst_all
  case turn =>
    intro I i code tc st u h tk io hcode hinv hcls hne F2 N2
    have hI : IntsAre st.vs st.c := hinv.1.1
    have hfold : (ws.cps.toList.take i).foldl wsStep ([], 0, 0, 0) = (st.c, st.b, st.n, st.nt) := hinv.1.2.1
    have hb0 : 0 ≤ st.b := hinv.1.2.2.1
    have hbi : st.b ≤ i := hinv.1.2.2.2.1
    have hci : st.c.length ≤ i := hinv.1.2.2.2.2.1
    have his : i ≤ ws.cps.size := hinv.1.2.2.2.2.2
    have hx1 : @LT.lt Nat _ x st.ca := hinv.2.1
    have hx2 : @LT.lt Nat _ dx st.ca := hinv.2.2
    clear hinv
    (try dsimp only at hne F2 N2)
    have hca : @Ne Nat st.ca I := hne (st.ca, W.listOf st.vs.toArray st.k) (by k_mem)
    have hxI : @Ne Nat x I := hne (x, instObj 97 dx) (by k_mem)
    have hdI : @Ne Nat dx I := hne (dx, dictOf [⟨PyData.keyHash w.params (Str.ofString "raw"), .str (Str.ofString "raw") kt, .str ws t⟩] 1) (by k_mem)
    have hlen := IntsAre.length hI
    refine hideQ ?_
    intro K hK
    rcases hcodes code (by simpa using Array.mem_of_getElem? hcode) with rfl | rfl
    · k_steps
      refine hK _ _ ?_
      refine' TEnd.next (⟨_, _, _, st.c, st.b + 1, st.n + 1, st.nt, _, _, _, _, _⟩ : WS) (by k_asm) (by k_asm) ?h1 ?h2 ?h3 ?h4
      case h1 => dsimp only; (repeat (refine sub_cons (by k_mem) ?_)); exact List.forall_mem_nil _
      case h2 => dsimp only; (repeat (refine List.forall_mem_cons.mpr ⟨by k_ne, ?_⟩)); exact List.forall_mem_nil _
      case h3 => kst_all
      case h4 => exact ⟨ws_blank hI hfold hb0 hbi hci hcode, hx1, hx2⟩
    · k_steps
      · refine hK _ _ ?_
        refine' TEnd.next (⟨_, _, _, incAt st.c st.b, 0, st.n + 1, st.nt + 1, _, _, _, _, _⟩ : WS) (by k_asm) (by k_asm) ?h1 ?h2 ?h3 ?h4
        case h1 => dsimp only; (repeat (refine sub_cons (by k_mem) ?_)); exact List.forall_mem_nil _
        case h2 => dsimp only; (repeat (refine List.forall_mem_cons.mpr ⟨by k_ne, ?_⟩)); exact List.forall_mem_nil _
        case h3 => kst_all
        case h4 =>
          refine ⟨ws_tab (incAt_long (by assumption) (by assumption)) hfold hb0 hbi hci hcode, ?_, ?_⟩ <;> dsimp only <;> omega
      · refine hK _ _ ?_
        refine' TEnd.next (⟨_, _, _, incAt st.c st.b, 0, st.n + 1, st.nt + 1, _, _, _, _, _⟩ : WS) (by k_asm) (by k_asm) ?h1 ?h2 ?h3 ?h4
        case h1 => dsimp only; (repeat (refine sub_cons (by k_mem) ?_)); exact List.forall_mem_nil _
        case h2 => dsimp only; (repeat (refine List.forall_mem_cons.mpr ⟨by k_ne, ?_⟩)); exact List.forall_mem_nil _
        case h3 => kst_all
        case h4 =>
          refine ⟨ws_tab (incAt_short (by assumption) (by assumption)) hfold hb0 hbi hci hcode, ?_, ?_⟩ <;> dsimp only <;> omega
  case done =>
    rintro ⟨ca, vs, k, c, b, n, nt, tb, tn, tt, sS, sT⟩ u h tk ⟨⟨hI, hfold, hb0, hbi, hci, his⟩, hx1, hx2⟩ F2 N2
    dsimp only at hI hfold hb0 hbi hci F2 N2 hx1 hx2
    have hlen := IntsAre.length hI
    have hwhole : ws.cps.toList.take ws.cps.size = ws.cps.toList := List.take_of_length_le (by simp)
    rw [hwhole, hfin] at hfold
    obtain ⟨ec, hfold⟩ := Prod.mk.inj hfold
    obtain ⟨eb, hfold⟩ := Prod.mk.inj hfold
    obtain ⟨en, ent⟩ := Prod.mk.inj hfold
    subst ec eb en ent
    k_steps
    unfold OutZ; intro hz
    refine ⟨rfl, ?_⟩
    dsimp only
    rename News h₀ L _ (_ :: _ :: _ :: _ :: _) => hN
    refine' hret _ _ _ _ _ _ _ _ _ _ _ _ _ _ _ _ _ _ (by k_asm) (news_join (all := _) (lit := []) (tl := [_, _, _, _]) hN (List.forall_mem_nil _) ?hm (fun p hp _ => hz p (List.mem_cons_of_mem _ (List.mem_cons_of_mem _ hp)) ?hq) N) hI hci
    case hm => (repeat (refine sub_cons (by k_mem) ?_)); exact List.forall_mem_nil _
    case hq =>
      intro hm
      have hlt := l1 p hp
      rcases List.mem_cons.mp hm with rfl | hm
      · exact absurd hlt (by dsimp only; exact Nat.not_lt.mpr (Nat.le_of_lt l2))
      · rw [List.mem_singleton.mp hm] at hlt
        exact Nat.lt_irrefl _ hlt
end
section
variable {w : World} {mean : ExcName → Option Value} {mg mb : Str → Option Value} {dp un : Nat} {gd : Option (List Code)} {cn : Str} {cs : Scope} {a : Addr} {ccd : Value} {cl : List (Str × Addr)} {outer : List Env} {A₀ : Around} {base h₀ : Heap} {L : Addr} {m : Str → Option Value} {s : Shared} {Q E : Value → Shared → Prop} {news : List (Addr × Obj)}
/-- the text of one run: r blanks and a tab -/
def runT (r : Int) : Str := Txt.mul (Str.ofString " ") r ++ Str.ofString "\t"
def runsT (rs : List Int) : Str := Txt.join (Str.ofString "") (rs.map runT)
@[irreducible] def runsC (rs : List Int) : List Nat := (rs.map fun r => List.replicate r.toNat 32 ++ [9]).flatten
theorem runT_codes (r : Int) : (runT r).cps.toList = List.replicate r.toNat 32 ++ [9] := by
  unfold runT
  rw [PySem.Str.cps_append, Array.toList_append]
  have e1 : Str.ofString " " = ⟨#[32]⟩ := by decide +kernel
  have e2 : (Str.ofString "\t").cps.toList = [9] := by decide +kernel
  rw [e1, mul_one_list, e2]
@[irreducible] def countsP (rs : List Int) : List Int := rs.foldl incAt []
@[irreducible] def lenP (rs : List Int) : Int := (rs.map fun r => r + 1).sum
theorem fold_blanks (c : List Int) (b n nt : Int) (k : Nat) : (List.replicate k 32).foldl wsStep (c, b, n, nt) = (c, b + k, n + k, nt) := by
  induction k generalizing b n with
  | zero => simp
  | succ k ih =>
    rw [List.replicate_succ, List.foldl_cons]
    have : wsStep (c, b, n, nt) 32 = (c, b + 1, n + 1, nt) := rfl
    rw [this, ih]
    have e1 : b + 1 + (k : Int) = b + ((k + 1 : Nat) : Int) := by omega
    have e2 : n + 1 + (k : Int) = n + ((k + 1 : Nat) : Int) := by omega
    rw [e1, e2]
theorem fold_runs (rs : List Int) (hr : ∀ r ∈ rs, 0 ≤ r) (c : List Int) (n nt : Int) : (runsC rs).foldl wsStep (c, 0, n, nt) = (rs.foldl incAt c, 0, n + lenP rs, nt + rs.length) := by
  induction rs generalizing c n nt with
  | nil => simp [runsC, lenP]
  | cons r rs ih =>
    have h1 : runsC (r :: rs) = List.replicate r.toNat 32 ++ ([9] ++ runsC rs) := by simp [runsC]
    rw [h1, List.foldl_append, fold_blanks, List.foldl_append]
    have h2 : ([9] : List Nat).foldl wsStep (c, 0 + (r.toNat : Int), n + (r.toNat : Int), nt) = (incAt c (0 + (r.toNat : Int)), 0, n + (r.toNat : Int) + 1, nt + 1) := rfl
    have h3 : (0 : Int) + (r.toNat : Int) = r := by have := hr r (by simp); omega
    have h4 : (r.toNat : Int) = r := by have := hr r (by simp); omega
    rw [h2, ih (fun r' h => hr r' (by simp [h])), h3, h4]
    simp only [lenP, List.map_cons, List.sum_cons, List.length_cons, List.foldl_cons]
    refine Prod.ext rfl (Prod.ext rfl (Prod.ext ?_ ?_)) <;> dsimp only <;> omega
theorem join_empty : ∀ ys : List Str, (Str.join (Str.ofString "") ys).cps.toList = (ys.map fun y => y.cps.toList).flatten
  | [] => rfl
  | [x] => by simp [Str.join]
  | x :: y :: r => by
    have e : (Str.ofString "").cps.toList = [] := by decide +kernel
    have h : Str.join (Str.ofString "") (x :: y :: r) = x ++ Str.ofString "" ++ Str.join (Str.ofString "") (y :: r) := rfl
    rw [h, PySem.Str.cps_append, PySem.Str.cps_append, Array.toList_append, Array.toList_append, e, join_empty (y :: r)]
    simp
theorem runsT_codes (rs : List Int) : (runsT rs).cps.toList = runsC rs := by
  have h : runsT rs = Str.join (Str.ofString "") (rs.map runT) := by
    unfold runsT
    have := join_plain_closes (Str.ofString "") (rs.map runT)
    exact eq_of_beq this
  rw [h, join_empty, List.map_map]
  unfold runsC
  congr 1
  exact List.map_congr_left fun r _ => runT_codes r
theorem runsC_mem {rs : List Int} {code : Nat} (h : code ∈ runsC rs) : code = 32 ∨ code = 9 := by
  unfold runsC at h
  obtain ⟨l, hl, hc⟩ := List.mem_flatten.mp h
  obtain ⟨r, _, rfl⟩ := List.mem_map.mp hl
  rcases List.mem_append.mp hc with hc | hc
  · exact .inl (List.eq_of_mem_replicate hc)
  · exact .inr (List.mem_singleton.mp hc)
theorem runsC_length {rs : List Int} {b : Nat} (h : ∀ r ∈ rs, r < b) : (runsC rs).length ≤ rs.length * (b + 1) := by
  induction rs with
  | nil => simp [runsC]
  | cons r rs ih =>
    have h1 : runsC (r :: rs) = List.replicate r.toNat 32 ++ ([9] ++ runsC rs) := by simp [runsC]
    have h2 := ih fun r' h' => h r' (by simp [h'])
    have h3 := h r (by simp)
    rw [h1]
    simp only [List.length_append, List.length_replicate, List.length_cons, List.length_nil, Nat.succ_mul]
    omega
theorem runsT_size {rs : List Int} {b : Nat} (h : ∀ r ∈ rs, r < b) : (runsT rs).cps.size ≤ rs.length * (b + 1) := by
  have := runsC_length h
  rw [← runsT_codes] at this
  simpa using this
theorem runT_len {r : Int} {b : Nat} (h : r < b) : (runT r).length ≤ b + 1 := by
  have h1 : (runT r).length = (runT r).cps.toList.length := by simp [PySem.Str.length]
  rw [h1, runT_codes]
  simp
  omega
theorem runs_weight {rs : List Int} {b : Nat} (h : ∀ r ∈ rs, r < b) : ((rs.map runT).map (·.length)).sum + (rs.map runT).length ≤ rs.length * (b + 2) := by
  induction rs with
  | nil => simp
  | cons r rs ih =>
    have h2 := ih fun r' h' => h r' (by simp [h'])
    have h3 := runT_len (h r (by simp))
    simp only [List.map_cons, List.sum_cons, List.length_cons, Nat.succ_mul, List.length_map] at *
    omega
theorem fold_runs0 {rs : List Int} (hr : ∀ r ∈ rs, 0 ≤ r) {nt : Int} (hnt : (rs.length : Int) = nt) : (runsT rs).cps.toList.foldl wsStep ([], 0, 0, 0) = (countsP rs, 0, lenP rs, nt) := by
  rw [runsT_codes, fold_runs rs hr, Int.zero_add, Int.zero_add, hnt]; unfold countsP; rfl
end
section
variable {w : World} {mean : ExcName → Option Value} {mg mb : Str → Option Value} {dp un : Nat} {gd : Option (List Code)} {cn : Str} {cs : Scope} {a : Addr} {ccd : Value} {cl : List (Str × Addr)} {outer : List Env} {A₀ : Around} {base h₀ : Heap} {L : Addr} {m : Str → Option Value} {s : Shared} {Q E : Value → Shared → Prop} {news : List (Addr × Obj)}
@[irreducible] def lessP (c : List Int) (n nt : Int) (d : List Int) (n2 nt2 : Int) : Bool :=
  if n ≥ n2 then false else if (c.length : Int) ≤ 1 ∧ (d.length : Int) ≤ 1 then decide (nt ≤ nt2)
  else (rangeKs 2 ((if longP d > longP c then longP d else longP c) + 1 + 1 - 2).toNat).all fun ts => decide (ilP c nt ts < ilP d nt2 ts)
theorem less_no {c d : List Int} {n nt n2 nt2 : Int} (h : n2 ≤ n) : lessP c n nt d n2 nt2 = false := by
  unfold lessP; rw [if_pos h]
theorem less_simple {c d : List Int} {n nt n2 nt2 : Int} (h : ¬ n2 ≤ n) (h1 : (c.length : Int) ≤ 1) (h2 : (d.length : Int) ≤ 1) : lessP c n nt d n2 nt2 = decide (nt ≤ nt2) := by
  unfold lessP; rw [if_neg h, if_pos ⟨h1, h2⟩]
theorem less_ret {c d : List Int} {n nt n2 nt2 kN : Int} {j : Nat} (h : ¬ n2 ≤ n) (h1 : ¬ ((c.length : Int) ≤ 1 ∧ (d.length : Int) ≤ 1)) (e : kN = 2 + (j : Int)) (hj : j < ((if longP d > longP c then longP d else longP c) + 1 + 1 - 2).toNat) (hk : ilP d nt2 kN ≤ ilP c nt kN) : lessP c n nt d n2 nt2 = false := by
  unfold lessP; rw [if_neg h, if_neg h1, List.all_eq_false]
  refine ⟨kN, ?_, by simp; omega⟩
  unfold rangeKs
  exact List.mem_map.mpr ⟨j, by simpa using hj, e.symm⟩
theorem less_all {c d : List Int} {n nt n2 nt2 : Int} (h : ¬ n2 ≤ n) (h1 : ¬ ((c.length : Int) ≤ 1 ∧ (d.length : Int) ≤ 1)) (hk : ∀ t, t ∈ rangeKs 2 ((if longP d > longP c then longP d else longP c) + 1 + 1 - 2).toNat → ilP c nt t < ilP d nt2 t) : lessP c n nt d n2 nt2 = true := by
  unfold lessP; rw [if_neg h, if_neg h1, List.all_eq_true]
  exact fun t ht => decide_eq_true (hk t ht)
theorem less_spec {x y : Addr} {c d : List Int} {n nt n2 nt2 : Int} (B : Below A₀ base outer h₀) (F : Fr h₀ L s.heap m) (X : (hd.heap_39 w.params).In h₀) (N : News h₀ L s.heap news) (T : Top hd.view_39 (looseW hd.view_39 [Str.ofString "Whitespace"]) mean mg mb h₀) (hk : cs.kind = .function) (hdp : dp + 2 < recursionLimit) (hun : un + 20 < cLine)
    (hl : LeadIn w news x c n nt) (hl2 : LeadIn w news y d n2 nt2) (hc : c.length < 301) (hd : d.length < 301)
    (hret : ∀ (t : Tok) h' tk', Fr h₀ L h' m → News h₀ L h' news → Q (.bool (lessP c n nt d n2 nt2)) {s with heap := h', toks := tk'}) :
    wpAny (model PySem.Challenge.rw_re0074_02.row.prog w) (ktrTop dp un gd cn cs L a ccd cl outer) (call (.ref 87) [.ref x, .ref y]) Q E s := by
  refine hl.out ?_
  intro dx tn tc ws vs k1 k2 k3 k4 k5 t1 t2 t3 t4 e1 e2 m1 m2 m3 m4 hI
  refine hl2.out ?_
  intro dy un1 uc ws' us k1' k2' k3' k4' k5' t1' t2' t3' t4' e1' e2' m1' m2' m3' m4' hI'
  have hlen := IntsAre.length hI
  have hlen' := IntsAre.length hI'
  have hc' : c.length < 1000 := by omega
  have hb1 : 0 ≤ longP c ∧ longP c < 301 := by unfold longP; split <;> omega
  have hb2 : 0 ≤ longP d ∧ longP d < 301 := by unfold longP; split <;> omega
  have hd' : d.length < 1000 := by omega
  refine wpAny_call ?_
  k_dflt (refine' enterZ (lit := [(x, instObj 97 dx), (dx, leadDict w ws c n nt tn k1 k2 k3 k4 k5 t1 t2 t3), (tn, tupO [.ref tc, .int 0 t4] e1), (tc, tupO vs e2), (y, instObj 97 dy), (dy, leadDict w ws' d n2 nt2 un1 k1' k2' k3' k4' k5' t1' t2' t3'), (un1, tupO [.ref uc, .int 0 t4'] e1'), (uc, tupO us e2')]) ?k1 ?k2 ?k3 ?k4 ?k5 ?ksub ?kA ?kF ?kK ?k6 ?k7 ?k8 ?k9 ?kB ?_ ?c2 ?c3 ?c4 ?c5; (case kA => exact rfl); (case kF => exact rfl); (case kK => first | assumption | exact rfl); (case k1 => k_asm); (case k2 => k_asm); (case k3 => k_asm); (case k4 => k_asm); (case k5 => k_asm); (case ksub => (first | exact List.forall_mem_nil _ | (repeat (refine sub_cons (by assumption) ?_)); exact List.forall_mem_nil _)); (case k6 => k_is); (case k7 => k_is); (case k8 => ktr_room); (case k9 => exact BindsTo.of_eq rfl); (case c5 => decide); (case kB => exact locs rfl); (case c2 => exact rfl); (case c3 => exact rfl); (case c4 => exact rfl); k_whole; intro g' L' h' F' N' B' X' T' l0; (try k_lt l0); (try dsimp only); (try k_fold))
  k_with_none
  k_with "pyIter ref" => k_search (fun pre => ∀ t ∈ pre, ilP c nt t < ilP d nt2 t)
  refine hideQ ?_
  intro K hK
  k_steps
  all_goals refine hK _ _ ?_
  all_goals k_steps
  all_goals unfold OutZ; intro hz; dsimp only
  all_goals refine cb_retB hret (Eq.symm ?_) (by k_asm) (news_join (by k_asm) (by (repeat (refine sub_cons (by k_mem) ?_)); exact List.forall_mem_nil _) (tl := []) (List.forall_mem_nil _) hz N)
  · exact less_no (by assumption)
  · exact less_simple (by assumption) (by assumption) (by assumption)
  · exact less_ret (by assumption) (by omega) (by assumption) (by assumption) (by assumption)
  · exact less_all (by assumption) (by omega) (by assumption)
  · exact less_ret (by assumption) (by omega) (by assumption) (by assumption) (by assumption)
  · exact less_all (by assumption) (by omega) (by assumption)
end
section
variable {w : World} {mean : ExcName → Option Value} {mg mb : Str → Option Value} {dp un : Nat} {gd : Option (List Code)} {cn : Str} {cs : Scope} {a : Addr} {ccd : Value} {cl : List (Str × Addr)} {outer : List Env} {A₀ : Around} {base h₀ : Heap} {L : Addr} {m : Str → Option Value} {s : Shared} {Q E : Value → Shared → Prop} {news : List (Addr × Obj)}
theorem kqd_intsIn {nx : List (Addr × Obj)} {vs : List Value} {c : List Int} (h : IntsAre vs c) : DatAll nx vs (c.map Dat.int) := by
  induction h with
  | nil => exact .nil
  | cons n t _ ih => exact .cons (.int n t) ih
def normD (c : List Int) : Dat := .tuple [.tuple (c.map Dat.int), .int 0]
theorem normD_ok (c : List Int) : kqdOk 9 (normD c) = true := by
  simp [normD, kqdOk]
theorem normD_inj {c d : List Int} : normD c = normD d ↔ c = d := by
  unfold normD
  constructor
  · intro h
    injection h with h
    injection h with h _
    injection h with h
    exact (List.map_inj_right fun a b h => by injection h).mp h
  · rintro rfl; rfl
open Classical in
theorem norm_eq {prog : Program} {A : Around} {p q : Addr} {n₁ n₂ : List (Addr × Obj)} {c d : List Int} (N : News h₀ L s.heap news) (Da : DatIn news (.ref p) (normD c)) (Db : DatIn news (.ref q) (normD d)) (hu : A.units + 64 < cLine)
    (h : Q (.bool (decide (c = d))) s) : wpAny (model prog w) A (compareOp .Eq (.ref p) (.ref q)) Q E s := by
  obtain ⟨as, ra⟩ := kqd_in N 9 Da (normD_ok c)
  obtain ⟨bs, rb⟩ := kqd_in N 9 Db (normD_ok d)
  have la := kqd_lay 9 _ (normD_ok c)
  have lb := kqd_lay 9 _ (normD_ok d)
  have e : PyData.eqv (kqdP (normD c)) (kqdP (normD d)) = decide (c = d) := by
    have q := kqd_eqv 9 _ _ 9 (normD_ok c) (normD_ok d)
    rw [normD_inj] at q
    by_cases hq : c = d
    · rw [decide_eq_true hq]; exact q.mpr hq
    · rw [decide_eq_false hq]; exact Bool.eq_false_iff.mpr fun x => hq (q.mp x)
  refine eq_dataH ra rb ?_ ?_ hu (by rw [e]; exact h)
  · unfold SeqAt.shaped; rw [la.1, Bool.true_and]; exact decide_eq_true (Nat.le_trans la.2 (by decide))
  · unfold SeqAt.shaped; rw [lb.1, Bool.true_and]; exact decide_eq_true (Nat.le_trans lb.2 (by decide))
open Classical in
theorem equal_spec {x y : Addr} {c d : List Int} {n nt n2 nt2 : Int} (B : Below A₀ base outer h₀) (F : Fr h₀ L s.heap m) (X : (hd.heap_39 w.params).In h₀) (N : News h₀ L s.heap news) (T : Top hd.view_39 (looseW hd.view_39 [Str.ofString "Whitespace"]) mean mg mb h₀) (hk : cs.kind = .function) (hdp : dp + 2 < recursionLimit) (hun : un + 100 < cLine)
    (hl : LeadIn w news x c n nt) (hl2 : LeadIn w news y d n2 nt2)
    (hret : ∀ (t : Tok) h' tk', Fr h₀ L h' m → News h₀ L h' news → Q (.bool (decide (c = d))) {s with heap := h', toks := tk'}) :
    wpAny (model PySem.Challenge.rw_re0074_02.row.prog w) (ktrTop dp un gd cn cs L a ccd cl outer) (call (.ref 73) [.ref x, .ref y]) Q E s := by
  k_with_none
  refine hl.out ?_
  intro dx tn tc ws vs k1 k2 k3 k4 k5 t1 t2 t3 t4 e1 e2 m1 m2 m3 m4 hI
  refine hl2.out ?_
  intro dy un1 uc ws' us k1' k2' k3' k4' k5' t1' t2' t3' t4' e1' e2' m1' m2' m3' m4' hI'
  refine wpAny_call ?_
  k_dflt (refine' enterZ (lit := [(x, instObj 97 dx), (dx, leadDict w ws c n nt tn k1 k2 k3 k4 k5 t1 t2 t3), (tn, tupO [.ref tc, .int 0 t4] e1), (tc, tupO vs e2), (y, instObj 97 dy), (dy, leadDict w ws' d n2 nt2 un1 k1' k2' k3' k4' k5' t1' t2' t3'), (un1, tupO [.ref uc, .int 0 t4'] e1'), (uc, tupO us e2')]) ?k1 ?k2 ?k3 ?k4 ?k5 ?ksub ?kA ?kF ?kK ?k6 ?k7 ?k8 ?k9 ?kB ?_ ?c2 ?c3 ?c4 ?c5; (case kA => exact rfl); (case kF => exact rfl); (case kK => first | assumption | exact rfl); (case k1 => k_asm); (case k2 => k_asm); (case k3 => k_asm); (case k4 => k_asm); (case k5 => k_asm); (case ksub => (first | exact List.forall_mem_nil _ | (repeat (refine sub_cons (by assumption) ?_)); exact List.forall_mem_nil _)); (case k6 => k_is); (case k7 => k_is); (case k8 => ktr_room); (case k9 => exact BindsTo.of_eq rfl); (case c5 => decide); (case kB => exact locs rfl); (case c2 => exact rfl); (case c3 => exact rfl); (case c4 => exact rfl); k_whole; intro g' L' h' F' N' B' X' T' l0; (try k_lt l0); (try dsimp only); (try k_fold))
  k_steps
  refine norm_eq (n₁ := news) (n₂ := news) (c := c) (d := d) (by k_asm) (.tuple (by k_mem) (.cons (.tuple (by k_mem) (kqd_intsIn hI)) (.cons (.int _ _) .nil))) (.tuple (by k_mem) (.cons (.tuple (by k_mem) (kqd_intsIn hI')) (.cons (.int _ _) .nil))) (by ke_room) ?_
  k_steps
  unfold OutZ; intro hz; dsimp only
  exact cb_retB hret rfl (by k_asm) (news_join (by k_asm) (fun _ h => h) (tl := []) (List.forall_mem_nil _) hz N)
end
section
variable {w : World} {mean : ExcName → Option Value} {mg mb : Str → Option Value} {dp un : Nat} {gd : Option (List Code)} {cn : Str} {cs : Scope} {a : Addr} {ccd : Value} {cl : List (Str × Addr)} {outer : List Env} {A₀ : Around} {base h₀ : Heap} {L : Addr} {m : Str → Option Value} {s : Shared} {Q E : Value → Shared → Prop} {news : List (Addr × Obj)}
@[irreducible] def oddL (c : List Int) (nt : Int) (szs : List Int) : List Int := szs.filter fun z => Int.fmod (Int.fdiv (ilP c nt z) z - nt) 2 == 1
@[irreducible] def oddP (c : List Int) (nt : Int) (szs : List Int) : Int := (oddL c nt szs).sum
theorem oddL_one {ys : List Value} {c : List Int} {nt z : Int} {szs : List Int} {i : Nat} {tz : Tok} (h : IntsAre ys (oddL c nt (szs.take i))) (hz : szs[i]? = some z) (hp : Int.fmod (Int.fdiv (ilP c nt z) z - nt) 2 = 1) : IntsAre (ys ++ [.int z tz]) (oddL c nt (szs.take (i + 1))) := by
  have e : oddL c nt (szs.take (i + 1)) = oddL c nt (szs.take i) ++ [z] := by
    rw [List.take_add_one, hz]
    simp [oddL, List.filter_append, hp]
  rw [e]
  exact h.append (.cons z tz .nil)
theorem oddL_no {ys : List Value} {c : List Int} {nt z : Int} {szs : List Int} {i : Nat} (h : IntsAre ys (oddL c nt (szs.take i))) (hz : szs[i]? = some z) (hp : Int.fmod (Int.fdiv (ilP c nt z) z - nt) 2 ≠ 1) : IntsAre ys (oddL c nt (szs.take (i + 1))) := by
  have e : oddL c nt (szs.take (i + 1)) = oddL c nt (szs.take i) := by
    rw [List.take_add_one, hz]
    simp [oddL, List.filter_append, hp]
  rw [e]
  exact h
theorem oddL_length (c : List Int) (nt : Int) (szs : List Int) : (oddL c nt szs).length ≤ szs.length := by
  unfold oddL; exact List.length_filter_le _ _

theorem odd_spec {x sa : Addr} {c : List Int} {n nt : Int} {zs : List Value} {szs : List Int} {kk : Nat} (B : Below A₀ base outer h₀) (F : Fr h₀ L s.heap m) (X : (hd.heap_39 w.params).In h₀) (N : News h₀ L s.heap news) (T : Top hd.view_39 (looseW hd.view_39 [Str.ofString "Whitespace"]) mean mg mb h₀) (hk : cs.kind = .function) (hdp : dp + 6 < recursionLimit) (hun : un + 40 < cLine)
    (hm : (sa, W.listOf zs.toArray kk) ∈ news) (hzs : IntsAre zs szs) (hszb : ∀ z ∈ szs, 1 ≤ z ∧ z < 1000) (hszl : szs.length < 100) (hl : LeadIn w news x c n nt) (hc : c.length < 1000)
    (hret : ∀ t h' tk', Fr h₀ L h' m → News h₀ L h' news → Q (.int (oddP c nt szs) t) {s with heap := h', toks := tk'}) :
    wpAny (model PySem.Challenge.rw_re0074_02.row.prog w) (ktrTop dp un gd cn cs L a ccd cl outer) (call (.ref 111) [.ref x, .ref sa]) Q E s := by
  k_with_none
  refine hl.out ?_
  intro dx tn tc ws vs k1 k2 k3 k4 k5 u1 u2 u3 u4 e1 e2 m1 m2 m3 m4 hI
  refine wpAny_call ?_
  k_dflt (refine' enterZC (lit := [(sa, W.listOf zs.toArray kk), (x, instObj 97 dx), (dx, leadDict w ws c n nt tn k1 k2 k3 k4 k5 u1 u2 u3), (tn, tupO [.ref tc, .int 0 u4] e1), (tc, tupO vs e2)]) ?k1 ?k2 ?k3 ?k4 ?k5 ?ksub ?kA ?kF ?kK ?k6 ?k7 ?k8 ?k9 ?kB ?kD ?_ ?c2 ?c3 ?c4; (case kA => exact rfl); (case kF => exact rfl); (case kK => first | assumption | exact rfl); (case k1 => k_asm); (case k2 => k_asm); (case k3 => k_asm); (case k4 => k_asm); (case k5 => k_asm); (case ksub => (first | exact List.forall_mem_nil _ | (repeat (refine sub_cons (by assumption) ?_)); exact List.forall_mem_nil _)); (case k6 => k_is); (case k7 => k_is); (case k8 => ktr_room); (case k9 => exact BindsTo.of_eq rfl); (case kB => exact rfl); (case kD => decide +kernel); (case c2 => exact rfl); (case c3 => exact rfl); (case c4 => exact rfl); k_whole; intro g' L' h' tk' cells' F' N' Y' B' X' T' l0; (try k_lt l0); have hY := CellsAre.one Y'; obtain ⟨oc1, hE', dc1⟩ := hY; subst hE'; clear Y'; (try simp only [List.cons_append, List.nil_append] at N'); (try dsimp only); (try k_fold))
  have hzl := IntsAre.length hzs
  refine hideQ ?_
  intro K hK
  iterate 6 (first | walk1 | (dsimp only; walk1))
  k_dflt (refine LCt.ListComp_T (F₀ := by k_asm) (by rfl) (by decide) (by rfl) (by decide) (by rfl) ?_)
  walk1
  k_dflt (refine LCt.CompSrcT.ledger (by rfl) (by k_asm) (by k_asm) (by k_mem) (by simp only [List.size_toArray, sizeLine_eq]; omega) ?_)
  intro g2
  refine compT_ind (fun i ys nx => nx = [(L' + 1, oc1), (sa, W.listOf zs.toArray kk), (x, instObj 97 dx), (dx, leadDict w ws c n nt tn k1 k2 k3 k4 k5 u1 u2 u3), (tn, tupO [.ref tc, .int 0 u4] e1), (tc, tupO vs e2)] ∧ IntsAre ys (oddL c nt (szs.take i))) ?_ ?_ _ 0 [] _ (Nat.zero_add _) ⟨rfl, by unfold oddL; exact .nil⟩
  · rintro i ys nx v I oI C oC D m₂ h tk E' hi ⟨rfl, hys⟩ hv hC hx F2 N2 off ne
    obtain ⟨z, tz, rfl, hz⟩ := hzs.at i v (by simpa using hv)
    have hzb := hszb z (List.mem_of_getElem? hz)
    clear ne
    have hil : c.length < 1000 := hc
    refine hideQ ?_
    intro K1 hK1
    k_steps
    all_goals refine hK1 _ _ ?_
    all_goals k_steps
    · exact oddL_one hys hz (by assumption)
    · exact oddL_no hys hz (by assumption)
  · rintro ys nx ⟨rfl, hys⟩
    have hall : szs.take zs.toArray.size = szs := List.take_of_length_le (by simp [hzl])
    rw [hall] at hys
    have hyl := IntsAre.length hys
    have hol := oddL_length c nt szs
    k_steps
    refine hK _ _ ?_
    k_steps
    unfold OutZ; intro hz; dsimp only
    exact cb_retI hret (by unfold oddP; rfl) (by k_asm) (news_join (by k_asm) (by (repeat (refine sub_cons (by k_mem) ?_)); exact List.forall_mem_nil _) (tl := []) (List.forall_mem_nil _) hz N)
end
section
variable {w : World} {mean : ExcName → Option Value} {mg mb : Str → Option Value} {dp un : Nat} {gd : Option (List Code)} {cn : Str} {cs : Scope} {a : Addr} {ccd : Value} {cl : List (Str × Addr)} {outer : List Env} {A₀ : Around} {base h₀ : Heap} {L : Addr} {m : Str → Option Value} {s : Shared} {Q E : Value → Shared → Prop} {news : List (Addr × Obj)}
def HoldC : Prop := True
end
local macro_rules | `(tactic| walk_at "eval ListComp") => `(tactic| ((first | ((have : HoldC := by assumption); clear this) | fail "no hold"); refine Hold.stop ?_))
local macro_rules | `(tactic| walk_at "exec Assign cons ListComp") => `(tactic| ((first | ((have : HoldC := by assumption); clear this) | fail "no hold"); refine Hold.stop ?_))
section
variable {w : World} {mean : ExcName → Option Value} {mg mb : Str → Option Value} {dp un : Nat} {gd : Option (List Code)} {cn : Str} {cs : Scope} {a : Addr} {ccd : Value} {cl : List (Str × Addr)} {outer : List Env} {A₀ : Around} {base h₀ : Heap} {L : Addr} {m : Str → Option Value} {s : Shared} {Q E : Value → Shared → Prop} {news : List (Addr × Obj)}
/-- the places, round, from b on -/
def rotP (b : Int) (i : Nat) : List Int := (List.range i).map fun (k : Nat) => Int.fmod (b + (0 + (k : Int))) 16
theorem rotP_one {ys : List Value} {b : Int} {i : Nat} {v : Int} {t : Tok} (h : IntsAre ys (rotP b i)) (hv : v = Int.fmod (b + (0 + (i : Int))) 16) : IntsAre (ys ++ [.int v t]) (rotP b (i + 1)) := by
  have e : rotP b (i + 1) = rotP b i ++ [Int.fmod (b + (0 + (i : Int))) 16] := by simp [rotP, List.range_succ]
  rw [e, hv]
  exact h.append (.cons _ t .nil)
theorem rotP_length (b : Int) (i : Nat) : (rotP b i).length = i := by simp [rotP]
theorem rotP_bnd {b : Int} {i : Nat} {v : Int} (h : v ∈ rotP b i) : 0 ≤ v ∧ v < 16 := by
  unfold rotP at h
  obtain ⟨k, _, rfl⟩ := List.mem_map.mp h
  exact fmod_bnd (by decide)
/-- the set places among ps -/
def setP (fl : List Int) (ps : List Int) : List Int := ps.filter fun p => decide (fl.getD p.toNat 0 = 1)
def strsL (rs : List Int) : List Value → Prop := fun ys => StrsAre ys (rs.map runT)
theorem setP_length (fl ps : List Int) : (setP fl ps).length ≤ ps.length := List.length_filter_le _ _
theorem setP_one {ys : List Value} {fl ps : List Int} {i : Nat} {z : Int} {y : Str} {t : Tok} (h : StrsAre ys ((setP fl (ps.take i)).map runT)) (hz : ps[i]? = some z) (hp : fl.getD z.toNat 0 = 1) (hy : y = runT z) : StrsAre (ys ++ [.str y t]) ((setP fl (ps.take (i + 1))).map runT) := by
  have e : setP fl (ps.take (i + 1)) = setP fl (ps.take i) ++ [z] := by
    rw [List.take_add_one, hz]
    unfold setP
    rw [List.filter_append]
    congr 1
    simp only [Option.toList_some, List.filter_cons, List.filter_nil, hp, decide_true, if_true]
  rw [e, List.map_append, hy]
  exact h.append' (.cons _ t .nil)
theorem setP_no {ys : List Value} {fl ps : List Int} {i : Nat} {z : Int} (h : StrsAre ys ((setP fl (ps.take i)).map runT)) (hz : ps[i]? = some z) (hp : ¬ fl.getD z.toNat 0 = 1) : StrsAre ys ((setP fl (ps.take (i + 1))).map runT) := by
  have e : setP fl (ps.take (i + 1)) = setP fl (ps.take i) := by
    rw [List.take_add_one, hz]
    unfold setP
    rw [List.filter_append]
    simp only [Option.toList_some, List.filter_cons, List.filter_nil, hp, decide_false, Bool.false_eq_true, if_false, List.append_nil]
  rw [e]; exact h
@[irreducible] def runsO (fl : List Int) (b : Int) : List Int := setP fl (rotP b 16)
theorem runsO_bnd {fl : List Int} {b r : Int} (h : r ∈ runsO fl b) : 0 ≤ r ∧ r < 16 := by
  unfold runsO setP at h
  exact rotP_bnd (List.mem_filter.mp h).1
theorem runsO_length (fl : List Int) (b : Int) : (runsO fl b).length ≤ 16 := by
  have := setP_length fl (rotP b 16)
  rw [rotP_length] at this
  unfold runsO; exact this
structure LT where
  ws : Str
  c : List Int
  n : Int
  k1 : Tok
  k2 : Tok
  k3 : Tok
  k4 : Tok
  k5 : Tok
  t1 : Tok
  t2 : Tok
  t3 : Tok
abbrev LD (w : World) (tn : Addr) (nt : Int) (d : LT) : Obj := leadDict w d.ws d.c d.n nt tn d.k1 d.k2 d.k3 d.k4 d.k5 d.t1 d.t2 d.t3
@[irreducible] def LeadO (w : World) (x dx tn tc : Addr) (d : LT) (o3 o4 : Obj) (c : List Int) (n nt : Int) : Prop := ∀ news', (x, instObj 97 dx) ∈ news' → (dx, LD w tn nt d) ∈ news' → (tn, o3) ∈ news' → (tc, o4) ∈ news' → LeadIn w news' x c n nt
theorem LeadO.of {w : World} {x dx tn tc : Addr} {ws : Str} {vs : List Value} {c : List Int} {n nt : Int} {k1 k2 k3 k4 k5 t1 t2 t3 t4 : Tok} {e1 e2 : Nat} (hI : IntsAre vs c) : LeadO w x dx tn tc ⟨ws, c, n, k1, k2, k3, k4, k5, t1, t2, t3⟩ (tupO [.ref tc, .int 0 t4] e1) (tupO vs e2) c n nt := by
  unfold LeadO
  exact fun _ m1 m2 m3 m4 => LeadIn.mk m1 m2 m3 m4 hI
theorem LeadO.use {w : World} {news : List (Addr × Obj)} {x dx tn tc : Addr} {d : LT} {o3 o4 : Obj} {c : List Int} {n nt : Int} (h : LeadO w x dx tn tc d o3 o4 c n nt) (m1 : (x, instObj 97 dx) ∈ news) (m2 : (dx, LD w tn nt d) ∈ news) (m3 : (tn, o3) ∈ news) (m4 : (tc, o4) ∈ news) : LeadIn w news x c n nt := by
  unfold LeadO at h
  exact h _ m1 m2 m3 m4
theorem lead_spec {la : Addr} {zs : List Value} {fl : List Int} {b : Int} {tb : Tok} {kk : Nat} (B : Below A₀ base outer h₀) (F : Fr h₀ L s.heap m) (X : (hd.heap_39 w.params).In h₀) (N : News h₀ L s.heap news) (T : Top hd.view_39 (looseW hd.view_39 [Str.ofString "Whitespace"]) mean mg mb h₀) (hk : cs.kind = .function) (hdp : dp + 6 < recursionLimit) (hun : un + 40 < cLine)
    (hm : (la, W.listOf zs.toArray kk) ∈ news) (hzs : IntsAre zs fl) (hfl : fl.length = 16) (hb : 0 ≤ b ∧ b < 16)
    (hret : ∀ x dx tn tc d vs t4 e1 e2 h' tk', Fr h₀ L h' m → News h₀ L h' ((x, instObj 97 dx) :: (dx, LD w tn (runsO fl b).length d) :: (tn, tupO [.ref tc, .int 0 t4] e1) :: (tc, tupO vs e2) :: news) → LeadO w x dx tn tc d (tupO [.ref tc, .int 0 t4] e1) (tupO vs e2) (countsP (runsO fl b)) (lenP (runsO fl b)) (runsO fl b).length → (countsP (runsO fl b)).length ≤ 300 → Q (.ref x) {s with heap := h', toks := tk'}) :
    wpAny (model PySem.Challenge.rw_re0074_02.row.prog w) (ktrTop dp un gd cn cs L a ccd cl outer) (call (.ref 106) [.ref la, .int b tb]) Q E s := by
  k_with_none
  refine wpAny_call ?_
  k_dflt (refine' enterZC (lit := [(la, W.listOf zs.toArray kk)]) ?k1 ?k2 ?k3 ?k4 ?k5 ?ksub ?kA ?kF ?kK ?k6 ?k7 ?k8 ?k9 ?kB ?kD ?_ ?c2 ?c3 ?c4; (case kA => exact rfl); (case kF => exact rfl); (case kK => first | assumption | exact rfl); (case k1 => k_asm); (case k2 => k_asm); (case k3 => k_asm); (case k4 => k_asm); (case k5 => k_asm); (case ksub => (first | exact List.forall_mem_nil _ | (repeat (refine sub_cons (by assumption) ?_)); exact List.forall_mem_nil _)); (case k6 => k_is); (case k7 => k_is); (case k8 => ktr_room); (case k9 => exact BindsTo.of_eq rfl); (case kB => exact rfl); (case kD => decide +kernel); (case c2 => exact rfl); (case c3 => exact rfl); (case c4 => exact rfl); k_whole; intro g' L' h' tk' cells' F' N' Y' B' X' T' l0; (try k_lt l0); have hY := CellsAre.two Y'; obtain ⟨oc1, oc2, hE', dc1, dc2⟩ := hY; subst hE'; clear Y'; (try simp only [List.cons_append, List.nil_append] at N'); (try dsimp only); (try k_fold))
  refine hideQ ?_
  intro K hK
  have hcm : HoldC := trivial
  k_steps
  refine Hold.go ?_
  k_dflt (refine LCg.Assign_ListComp_U (F₀ := by k_asm) (by rfl) (by with_unfolding_all rfl) (by rfl) (by decide) (by rfl) (by decide) (by rfl) (by rfl) (by rfl) ?_)
  iterate 7 (first | walk1 | (dsimp only; walk1))
  k_dflt (refine LCg.CompSrc.range (n := 16) (by rfl) (by k_asm) (by k_asm) (by assumption) (by decide) (by decide) (by decide) ?_)
  intro g2
  refine comp_ind (fun i ys nx => nx = _ ∧ IntsAre ys (rotP b i)) ?_ ?_ _ 0 [] _ (Nat.zero_add _) ⟨rfl, .nil⟩
  · rintro i ys nx v I oI C oC D m₂ h tk E' hi ⟨rfl, hys⟩ ⟨tv, rfl⟩ hC hx F2 N2 off ne
    clear ne
    refine hideQ ?_
    intro K1 hK1
    k_steps
    refine hK1 _ _ ?_
    k_steps
    exact rotP_one hys rfl
  · rintro ys nx ⟨rfl, hys⟩
    have hyl := IntsAre.length hys
    rw [rotP_length] at hyl
    have hcm : HoldC := trivial
    k_steps
    refine Hold.go ?_
    k_dflt (refine LCt.ListComp_T (F₀ := by k_asm) (by rfl) (by decide) (by rfl) (by decide) (by rfl) ?_)
    walk1
    k_dflt (refine LCt.CompSrcT.ledger (by rfl) (by k_asm) (by k_asm) (by k_mem) (by simp only [List.size_toArray, sizeLine_eq]; omega) ?_)
    intro g2
    refine compT_ind (fun i us nx => nx = _ ∧ StrsAre us ((setP fl ((rotP b 16).take i)).map runT)) ?_ ?_ _ 0 [] _ (Nat.zero_add _) ⟨rfl, .nil⟩
    · rintro i us nx v I' oI' C' oC' D' m₂ h5 tk5 E5 hi ⟨rfl, hus⟩ hv hC hx F5 N5 off ne
      clear ne
      obtain ⟨z, tz, rfl, hz⟩ := hys.at i v (by simpa using hv)
      have hzb := rotP_bnd (List.mem_of_getElem? hz)
      refine hideQ ?_
      intro K1 hK1
      k_steps
      all_goals refine hK1 _ _ ?_
      all_goals k_steps
      · exact setP_one hus hz (by assumption) rfl
      · exact setP_no hus hz (by assumption)
    · rintro us nx ⟨rfl, hus⟩
      rw [List.take_of_length_le (by simp only [List.size_toArray, rotP_length, hyl]; omega)] at hus
      rw [show setP fl (rotP b 16) = runsO fl b by unfold runsO; rfl] at hus
      have hall : ∀ r ∈ runsO fl b, r < ((16 : Nat) : Int) := fun r h => (runsO_bnd h).2
      have hall0 : ∀ r ∈ runsO fl b, 0 ≤ r := fun r h => (runsO_bnd h).1
      have hrl := runsO_length fl b
      have hsz : (runsT (runsO fl b)).cps.size ≤ 272 := Nat.le_trans (runsT_size hall) (by omega)
      have hul := StrsAre.length hus
      rw [List.length_map] at hul
      k_steps
      refine join_listW (News.isList (by k_asm) (by k_mem)) hus (by decide) (Nat.le_trans (runs_weight hall) (by omega)) ?_
      intro t' k'
      k_steps
      (try dsimp only [List.cons_append, List.nil_append, List.append_nil])
      refine make_spec (ws := runsT (runsO fl b)) (by k_asm) (by k_asm) (by k_asm) (by k_asm) (by k_asm) rfl (by ktr_room) (by ktr_units) (fun code hc => runsC_mem (by rwa [runsT_codes] at hc)) (by omega) (fold_runs0 hall0 (nt := (runsO fl b).length) rfl) ?_
      intro x dx tn tc vs k1 k2 k3 k4 k5 u1 u2 u3 u4 e1 e2 h9 tk9 F9 N9 hI hcl
      dsimp only
      k_steps
      refine hK _ _ ?_
      k_steps
      unfold OutZ; intro hz; dsimp only
      rename News _ _ _ (_ :: _ :: _ :: _ :: _) => hN
      refine hret x dx tn tc ⟨_, _, _, k1, k2, k3, k4, k5, u1, u2, u3⟩ vs u4 e1 e2 _ _ (by k_asm) (news_join (tl := [(x, instObj 97 dx), (dx, leadDict w (runsT (runsO fl b)) (countsP (runsO fl b)) (lenP (runsO fl b)) (runsO fl b).length tn k1 k2 k3 k4 k5 u1 u2 u3), (tn, tupO [.ref tc, .int 0 u4] e1), (tc, tupO vs e2)]) hN ?_ ?_ hz N) (LeadO.of hI) (by omega)
      · exact sub_cons (by k_mem) (List.forall_mem_nil _)
      · (repeat (refine sub_cons (by k_mem) ?_)); exact List.forall_mem_nil _
end
section
variable {w : World} {mean : ExcName → Option Value} {mg mb : Str → Option Value} {dp un : Nat} {gd : Option (List Code)} {cn : Str} {cs : Scope} {a : Addr} {ccd : Value} {cl : List (Str × Addr)} {outer : List Env} {A₀ : Around} {base h₀ : Heap} {L : Addr} {m : Str → Option Value} {s : Shared} {Q E : Value → Shared → Prop} {news : List (Addr × Obj)}
def flipF (fl sl : List Int) (p : Nat) : Int := if (sl.any fun x => x == (p : Int)) = true then 1 - fl.getD p 0 else fl.getD p 0
def flipP (fl sl : List Int) (i : Nat) : List Int := (List.range i).map (flipF fl sl)
theorem flipP_one {ys : List Value} {fl sl : List Int} {i : Nat} {v : Int} {t : Tok} (h : IntsAre ys (flipP fl sl i)) (hv : v = flipF fl sl i) : IntsAre (ys ++ [.int v t]) (flipP fl sl (i + 1)) := by
  have e : flipP fl sl (i + 1) = flipP fl sl i ++ [flipF fl sl i] := by simp [flipP, List.range_succ]
  rw [e, hv]
  exact h.append (.cons _ t .nil)
theorem flip_yes {fl sl : List Int} {i : Nat} (h : (sl.any fun x => x == 0 + (i : Int)) = true) : 1 - fl.getD (0 + (i : Int)).toNat 0 = flipF fl sl i := by
  rw [show (0 : Int) + (i : Int) = i by omega] at *
  unfold flipF; rw [if_pos h]; rfl
theorem flip_no {fl sl : List Int} {i : Nat} (h : (sl.any fun x => x == 0 + (i : Int)) = false) : fl.getD (0 + (i : Int)).toNat 0 = flipF fl sl i := by
  rw [show (0 : Int) + (i : Int) = i by omega] at *
  unfold flipF; rw [if_neg (by rw [h]; decide)]; rfl
theorem flipP_len (fl sl : List Int) (i : Nat) : (flipP fl sl i).length = i := by simp [flipP]
theorem slips_spec {fa sa : Addr} {zs us : List Value} {fl sl : List Int} {kk k2 : Nat} (B : Below A₀ base outer h₀) (F : Fr h₀ L s.heap m) (X : (hd.heap_39 w.params).In h₀) (N : News h₀ L s.heap news) (T : Top hd.view_39 (looseW hd.view_39 [Str.ofString "Whitespace"]) mean mg mb h₀) (hk : cs.kind = .function) (hdp : dp + 6 < recursionLimit) (hun : un + 40 < cLine)
    (hm : (fa, W.listOf zs.toArray kk) ∈ news) (hm2 : (sa, W.listOf us.toArray k2) ∈ news) (hzs : IntsAre zs fl) (hus : IntsAre us sl) (hfl : fl.length = 16) (hsl : sl.length ≤ 16)
    (hret : ∀ ra ys h' tk', Fr h₀ L h' m → News h₀ L h' ((ra, LCg.lst ys) :: news) → IntsAre ys (flipP fl sl 16) → Q (.ref ra) {s with heap := h', toks := tk'}) :
    wpAny (model PySem.Challenge.rw_re0074_02.row.prog w) (ktrTop dp un gd cn cs L a ccd cl outer) (call (.ref 121) [.ref fa, .ref sa]) Q E s := by
  k_with_none
  refine wpAny_call ?_
  k_dflt (refine' enterZC (lit := [(fa, W.listOf zs.toArray kk), (sa, W.listOf us.toArray k2)]) ?k1 ?k2 ?k3 ?k4 ?k5 ?ksub ?kA ?kF ?kK ?k6 ?k7 ?k8 ?k9 ?kB ?kD ?_ ?c2 ?c3 ?c4; (case kA => exact rfl); (case kF => exact rfl); (case kK => first | assumption | exact rfl); (case k1 => k_asm); (case k2 => k_asm); (case k3 => k_asm); (case k4 => k_asm); (case k5 => k_asm); (case ksub => (first | exact List.forall_mem_nil _ | (repeat (refine sub_cons (by assumption) ?_)); exact List.forall_mem_nil _)); (case k6 => k_is); (case k7 => k_is); (case k8 => ktr_room); (case k9 => exact BindsTo.of_eq rfl); (case kB => exact rfl); (case kD => decide +kernel); (case c2 => exact rfl); (case c3 => exact rfl); (case c4 => exact rfl); k_whole; intro g' L' h' tk' cells' F' N' Y' B' X' T' l0; (try k_lt l0); have hY := CellsAre.two Y'; obtain ⟨oc1, oc2, hE', dc1, dc2⟩ := hY; subst hE'; clear Y'; (try simp only [List.cons_append, List.nil_append] at N'); (try dsimp only); (try k_fold))
  refine hideQ ?_
  intro K hK
  have hcm : HoldC := trivial
  k_steps
  refine Hold.go ?_
  k_dflt (refine LCg.ListComp_U (F₀ := by k_asm) (by rfl) (by decide) (by rfl) (by decide) (by rfl) ?_)
  iterate 7 (first | walk1 | (dsimp only; walk1))
  k_dflt (refine LCg.CompSrc.range (n := 16) (by rfl) (by k_asm) (by k_asm) (by assumption) (by decide) (by decide) (by decide) ?_)
  intro g2
  refine comp_ind (fun i ys nx => nx = _ ∧ IntsAre ys (flipP fl sl i)) ?_ ?_ _ 0 [] _ (Nat.zero_add _) ⟨rfl, .nil⟩
  · rintro i ys nx v I oI C oC D m₂ h tk E' hi ⟨rfl, hys⟩ ⟨tv, rfl⟩ hC hx F2 N2 off ne
    clear ne
    refine hideQ ?_
    intro K1 hK1
    k_steps
    all_goals refine hK1 _ _ ?_
    all_goals k_steps
    · exact flipP_one hys (flip_yes (by assumption))
    · exact flipP_one hys (flip_no (by assumption))
  · rintro ys nx ⟨rfl, hys⟩
    k_steps
    refine hK _ _ ?_
    k_steps
    unfold OutZ; intro hz; dsimp only
    exact hret _ _ _ _ (by k_asm) (news_cons (by k_asm) (by (repeat (refine sub_cons (by k_mem) ?_)); exact List.forall_mem_nil _) hz N) hys
end
section
variable {w : World} {mean : ExcName → Option Value} {mg mb : Str → Option Value} {dp un : Nat} {gd : Option (List Code)} {cn : Str} {cs : Scope} {a : Addr} {ccd : Value} {cl : List (Str × Addr)} {outer : List Env} {A₀ : Around} {base h₀ : Heap} {L : Addr} {m : Str → Option Value} {s : Shared} {Q E : Value → Shared → Prop} {news : List (Addr × Obj)}
theorem news_sub {h₀ h : Heap} {L : Addr} {all small : List (Addr × Obj)} (N : News h₀ L h all) (hs : ∀ p ∈ small, p ∈ all) : News h₀ L h small := fun p hp => N p (hs p hp)
def GoOn : Prop := True
def MidV (h₀ : Heap) (L : Addr) (x : Str) (v : Value) (m : Str → Option Value) (news : List (Addr × Obj)) (s : Shared) (fl : Flow) (s' : Shared) : Prop :=
  fl = .next ∧ ∃ h' tk', s' = { s with heap := h', toks := tk' } ∧ Fr h₀ L h' (fun y => if y = x then some v else m y) ∧ News h₀ L h' news
def MidP (h₀ : Heap) (L : Addr) (R : Int → Int → Prop) (m : Str → Option Value) (news : List (Addr × Obj)) (s : Shared) (fl : Flow) (s' : Shared) : Prop :=
  fl = .next ∧ ∃ h' tk' p l u1 u2, s' = { s with heap := h', toks := tk' } ∧ Fr h₀ L h' (fun y => if y = Str.ofString "left" then some (.int l u2) else if y = Str.ofString "place" then some (.int p u1) else m y) ∧ News h₀ L h' news ∧ R p l
theorem MidV.mk {x : Str} {v v' : Value} {h' : Heap} {tk' : Nat} {all : List (Addr × Obj)} (F : Fr h₀ L h' (fun y => if y = x then some v' else m y)) (e : v' = v) (N : News h₀ L h' all) (hs : ∀ p ∈ news, p ∈ all) :
    MidV h₀ L x v m news s .next { s with heap := h', toks := tk' } :=
  ⟨rfl, h', tk', rfl, e ▸ F, fun p hp => N p (hs p hp)⟩
theorem MidP.mk {R : Int → Int → Prop} {p l : Int} {u1 u2 : Tok} {h' : Heap} {tk' : Nat} {all : List (Addr × Obj)} (F : Fr h₀ L h' (fun y => if y = Str.ofString "left" then some (.int l u2) else if y = Str.ofString "place" then some (.int p u1) else m y)) (N : News h₀ L h' all) (hs : ∀ p ∈ news, p ∈ all) (hr : R p l) :
    MidP h₀ L R m news s .next { s with heap := h', toks := tk' } :=
  ⟨rfl, h', tk', p, l, u1, u2, rfl, F, fun p hp => N p (hs p hp), hr⟩
section
variable {prog : Program} {A : Around} {t : Sem Flow}
theorem assign_mid {QF : Flow → Shared → Prop} (x : Str) (v : Value) (F : Fr h₀ L s.heap m) (N : News h₀ L s.heap news)
    (main : wpAny (model prog w) A t (MidV h₀ L x v m news s) E s)
    (rest : ∀ h' tk', Fr h₀ L h' (fun y => if y = x then some v else m y) → News h₀ L h' news → QF .next { s with heap := h', toks := tk' }) : wpAny (model prog w) A t QF E s := by
  refine wpAny_mono main (fun fl s' h => ?_) fun _ _ h => h
  obtain ⟨rfl, h', tk', rfl, F', N'⟩ := h
  exact rest h' tk' F' N'
theorem pair_mid {QF : Flow → Shared → Prop} (R : Int → Int → Prop) (F : Fr h₀ L s.heap m) (N : News h₀ L s.heap news)
    (main : wpAny (model prog w) A t (MidP h₀ L R m news s) E s)
    (rest : ∀ h' tk' p l u1 u2, R p l → Fr h₀ L h' (fun y => if y = Str.ofString "left" then some (.int l u2) else if y = Str.ofString "place" then some (.int p u1) else m y) → News h₀ L h' news → QF .next { s with heap := h', toks := tk' }) : wpAny (model prog w) A t QF E s := by
  refine wpAny_mono main (fun fl s' h => ?_) fun _ _ h => h
  obtain ⟨rfl, h', tk', p, l, u1, u2, rfl, F', N', hr⟩ := h
  exact rest h' tk' p l u1 u2 hr F' N'
end
theorem ne_cellL {h : Heap} {all : List (Addr × Obj)} {a b : Addr} {o o' : Obj} {v : Option Value} (N : News h₀ L h all) (ha : (a, o) ∈ all) (hb : (b, o') ∈ all) (hd : o.data = Data.cell v) (hn : o'.data ≠ Data.cell v) : @Ne Nat a b := by
  intro e
  have h1 := (N _ ha).1
  have h2 := (N _ hb).1
  have e' : a = b := e
  subst e'
  rw [h1] at h2
  have h3 : o = o' := Option.some.inj h2
  exact hn (h3 ▸ hd)
theorem ne_cellR {h : Heap} {all : List (Addr × Obj)} {a b : Addr} {o o' : Obj} {v : Option Value} (N : News h₀ L h all) (ha : (a, o) ∈ all) (hb : (b, o') ∈ all) (hd : o.data = Data.cell v) (hn : o'.data ≠ Data.cell v) : @Ne Nat b a :=
  Ne.symm (ne_cellL N ha hb hd hn)
theorem off1_of {D : Addr} : ∀ {l : List (Addr × Obj)}, (∀ p ∈ l, p.1 ≠ D) → LCg.Off1 D l
  | [], _ => trivial
  | p :: _, h => ⟨h p (.head _), off1_of fun q hq => h q (.tail _ hq)⟩
def MidA (h₀ : Heap) (L : Addr) (R : Int → Int → Int → Prop) (m : Str → Option Value) (led : Obj → List (Addr × Obj)) (s : Shared) (fl : Flow) (s' : Shared) : Prop :=
  fl = .next ∧ ∃ h' tk' D oa y1 y2 y3 t1 t2 t3 k, s' = { s with heap := h', toks := tk' } ∧ Fr h₀ L h' m ∧ News h₀ L h' ((D, W.listOf [Value.int y1 t1, Value.int y2 t2, Value.int y3 t3].toArray k) :: led oa) ∧ oa.data = Data.cell (some (.ref D)) ∧ R y1 y2 y3
theorem MidA.mk {R : Int → Int → Int → Prop} {led : Obj → List (Addr × Obj)} {h' : Heap} {tk' k : Nat} {D : Addr} {oa : Obj} {y1 y2 y3 : Int} {t1 t2 t3 : Tok} {all : List (Addr × Obj)} (F : Fr h₀ L h' m) (N : News h₀ L h' all) (hd : oa.data = Data.cell (some (.ref D)))
    (hs : ∀ p ∈ (D, W.listOf [Value.int y1 t1, Value.int y2 t2, Value.int y3 t3].toArray k) :: led oa, p ∈ all) (hr : R y1 y2 y3) : MidA h₀ L R m led s .next { s with heap := h', toks := tk' } :=
  ⟨rfl, h', tk', D, oa, y1, y2, y3, t1, t2, t3, k, rfl, F, fun p hp => N p (hs p hp), hd, hr⟩
theorem after_mid {prog : Program} {A : Around} {t : Sem Flow} {QF : Flow → Shared → Prop} {oa₀ : Obj} (R : Int → Int → Int → Prop) (led : Obj → List (Addr × Obj)) (F : Fr h₀ L s.heap m) (N : News h₀ L s.heap (led oa₀))
    (main : wpAny (model prog w) A t (MidA h₀ L R m led s) E s)
    (rest : ∀ h' tk' D oa y1 y2 y3 t1 t2 t3 k, R y1 y2 y3 → oa.data = Data.cell (some (.ref D)) → Fr h₀ L h' m → News h₀ L h' ((D, W.listOf [Value.int y1 t1, Value.int y2 t2, Value.int y3 t3].toArray k) :: led oa) → QF .next { s with heap := h', toks := tk' }) : wpAny (model prog w) A t QF E s := by
  refine wpAny_mono main (fun fl s' h => ?_) fun _ _ h => h
  obtain ⟨rfl, h', tk', D, oa, y1, y2, y3, t1, t2, t3, k, rfl, F', N', hd, hr⟩ := h
  exact rest h' tk' D oa y1 y2 y3 t1 t2 t3 k hr hd F' N'
end
local macro_rules | `(tactic| walk_at "call ref") => `(tactic| (k_here; (try dsimp only [List.cons_append, List.nil_append, List.append_nil]); first | ((with_reducible show wpAny _ _ (call (Value.ref 106) _) _ _ _); k_dflt (refine' lead_spec (by k_asm) (by k_asm) (by k_asm) (by k_asm) (by k_asm) (by first | assumption | exact rfl) (by ktr_room) (by ktr_units) (by k_mem) (by assumption) (by first | assumption | exact flipP_len _ _ _) (by first | exact fmod_bnd (by decide) | assumption | decide) ?_); intros; (try dsimp only)) | ((with_reducible show wpAny _ _ (call (Value.ref 111) _) _ _ _); k_dflt (refine' odd_spec (by k_asm) (by k_asm) (by k_asm) (by k_asm) (by k_asm) (by first | assumption | exact rfl) (by ktr_room) (by ktr_units) (by k_mem) (by assumption) (by decide) (by decide) (LeadO.use (by assumption) (by k_mem) (by k_mem) (by k_mem) (by k_mem)) (by omega) ?_); intros; (try dsimp only))))
local macro_rules | `(tactic| walk_at "pyIter ref") => `(tactic| ((fail_if_success (have : GoOn := by assumption)); refine Hold.stop ?_))
local macro_rules | `(tactic| k_ne) => `(tactic| ((try dsimp only); first | exact ne_cellL (by assumption) (by k_mem) (by k_mem) (by assumption) (by intro hh; cases hh) | exact ne_cellR (by assumption) (by k_mem) (by k_mem) (by assumption) (by intro hh; cases hh) | exact off1_ne (by assumption) (by k_mem) | exact Ne.symm (off1_ne (by assumption) (by k_mem)) | fail "no"))
section
variable {w : World} {mean : ExcName → Option Value} {mg mb : Str → Option Value} {dp un : Nat} {gd : Option (List Code)} {cn : Str} {cs : Scope} {a : Addr} {ccd : Value} {cl : List (Str × Addr)} {outer : List Env} {A₀ : Around} {base h₀ : Heap} {L : Addr} {m : Str → Option Value} {s : Shared} {Q E : Value → Shared → Prop} {news : List (Addr × Obj)}
def baseF (msg : List Int) (p : Int) : Int := if isb p = true then 0 else msg.getD (p - hbit p - 2).toNat 0
def baseP (msg : List Int) (i : Nat) : List Int := 0 :: (List.range i).map fun (k : Nat) => baseF msg (1 + (k : Int))
theorem baseP_one {ys : List Value} {msg : List Int} {i : Nat} {v : Int} {t : Tok} (h : IntsAre ys (baseP msg i)) (hv : v = baseF msg (1 + (i : Int))) : IntsAre (ys ++ [.int v t]) (baseP msg (i + 1)) := by
  have e : baseP msg (i + 1) = baseP msg i ++ [baseF msg (1 + (i : Int))] := by simp [baseP, List.range_succ]
  rw [e, hv]
  exact h.append (.cons _ t .nil)
theorem baseP_len (msg : List Int) (i : Nat) : (baseP msg i).length = i + 1 := by simp [baseP]
theorem idx_all : ((List.range 15).all fun i => isb (1 + (i : Int)) || (decide (0 ≤ 1 + (i : Int) - hbit (1 + (i : Int)) - 2) && decide (1 + (i : Int) - hbit (1 + (i : Int)) - 2 < 11))) = true := by decide +kernel
theorem idx_is {i : Nat} (hi : i < 15) (h : isb (1 + (i : Int)) = false) : 0 ≤ 1 + (i : Int) - hbit (1 + (i : Int)) - 2 ∧ 1 + (i : Int) - hbit (1 + (i : Int)) - 2 < 11 := by
  have := List.all_eq_true.mp idx_all i (by simpa using hi)
  rw [h] at this
  simpa using this
theorem base_yes {msg : List Int} {p : Int} (h : isb p = true) : 0 = baseF msg p := by unfold baseF; rw [if_pos h]
theorem base_no {msg : List Int} {p : Int} (h : isb p = false) : msg.getD (p - hbit p - 2).toNat 0 = baseF msg p := by unfold baseF; rw [if_neg (by rw [h]; decide)]
def parF (fl : List Int) (odd : Int) (p : Nat) : Int := if (([1, 2, 4, 8] : List Int).any fun x => x == (p : Int)) = true ∧ Int.fmod (Int.fdiv odd p) 2 = 1 then 1 else fl.getD p 0
def parP (fl : List Int) (odd : Int) (i : Nat) : List Int := (List.range i).map (parF fl odd)
theorem parP_one {ys : List Value} {fl : List Int} {odd : Int} {i : Nat} {v : Int} {t : Tok} (h : IntsAre ys (parP fl odd i)) (hv : v = parF fl odd i) : IntsAre (ys ++ [.int v t]) (parP fl odd (i + 1)) := by
  have e : parP fl odd (i + 1) = parP fl odd i ++ [parF fl odd i] := by simp [parP, List.range_succ]
  rw [e, hv]
  exact h.append (.cons _ t .nil)
theorem parP_len (fl : List Int) (odd : Int) (i : Nat) : (parP fl odd i).length = i := by simp [parP]
theorem par_zero {i : Nat} (h : (([1, 2, 4, 8] : List Int).any fun x => x == 0 + (i : Int)) = true) (h0 : 0 + (i : Int) = 0) : False := by
  rw [h0] at h; exact absurd h (by decide)
theorem par_yes {fl : List Int} {odd : Int} {i : Nat} (h : (([1, 2, 4, 8] : List Int).any fun x => x == 0 + (i : Int)) = true) (h1 : Int.fmod (Int.fdiv odd (0 + (i : Int))) 2 = 1) : 1 = parF fl odd i := by
  rw [show (0 : Int) + (i : Int) = i by omega] at *
  unfold parF; rw [if_pos ⟨h, h1⟩]
theorem par_no {fl : List Int} {odd : Int} {i : Nat} (h1 : Int.fmod (Int.fdiv odd (0 + (i : Int))) 2 ≠ 1) : fl.getD (0 + (i : Int)).toNat 0 = parF fl odd i := by
  rw [show (0 : Int) + (i : Int) = i by omega] at *
  unfold parF; rw [if_neg (fun h => h1 h.2)]; rfl
theorem par_out {fl : List Int} {odd : Int} {i : Nat} (h : (([1, 2, 4, 8] : List Int).any fun x => x == 0 + (i : Int)) = false) : fl.getD (0 + (i : Int)).toNat 0 = parF fl odd i := by
  rw [show (0 : Int) + (i : Int) = i by omega] at *
  unfold parF; rw [if_neg (fun hh => by rw [h] at hh; exact absurd hh.1 (by decide))]; rfl
@[irreducible] def fixP (msg : List Int) : List Int := parP (baseP msg 15) (oddP (countsP (runsO (baseP msg 15) 0)) ↑(runsO (baseP msg 15) 0).length [1, 2, 4, 8]) 16
@[irreducible] def sentP (msg : List Int) : List Int := [Int.fmod ((runsO (fixP msg) 0).length : Int) 2] ++ (fixP msg).drop 1
theorem sent_spec {ma sa : Addr} {zs : List Value} {msg : List Int} {s1 s2 s3 s4 : Tok} {kk k2 : Nat} (B : Below A₀ base outer h₀) (F : Fr h₀ L s.heap m) (X : (hd.heap_39 w.params).In h₀) (N : News h₀ L s.heap news) (T : Top hd.view_39 (looseW hd.view_39 [Str.ofString "Whitespace"]) mean mg mb h₀) (hk : cs.kind = .function) (hdp : dp + 8 < recursionLimit) (hun : un + 60 < cLine)
    (hm : (ma, W.listOf zs.toArray kk) ∈ news) (hm2 : (sa, W.listOf [Value.int 1 s1, Value.int 2 s2, Value.int 4 s3, Value.int 8 s4].toArray k2) ∈ news) (hzs : IntsAre zs msg) (hfl : msg.length = 11)
    (hret : ∀ ra ys k h' tk', Fr h₀ L h' m → News h₀ L h' ((ra, W.listOf ys.toArray k) :: news) → IntsAre ys (sentP msg) → Q (.ref ra) {s with heap := h', toks := tk'}) :
    wpAny (model PySem.Challenge.rw_re0074_02.row.prog w) (ktrTop dp un gd cn cs L a ccd cl outer) (call (.ref 116) [.ref ma, .ref sa]) Q E s := by
  k_with_none
  refine wpAny_call ?_
  k_dflt (refine' enterZC (lit := [(ma, W.listOf zs.toArray kk), (sa, W.listOf [Value.int 1 s1, Value.int 2 s2, Value.int 4 s3, Value.int 8 s4].toArray k2)]) ?k1 ?k2 ?k3 ?k4 ?k5 ?ksub ?kA ?kF ?kK ?k6 ?k7 ?k8 ?k9 ?kB ?kD ?_ ?c2 ?c3 ?c4; (case kA => exact rfl); (case kF => exact rfl); (case kK => first | assumption | exact rfl); (case k1 => k_asm); (case k2 => k_asm); (case k3 => k_asm); (case k4 => k_asm); (case k5 => k_asm); (case ksub => (first | exact List.forall_mem_nil _ | (repeat (refine sub_cons (by assumption) ?_)); exact List.forall_mem_nil _)); (case k6 => k_is); (case k7 => k_is); (case k8 => ktr_room); (case k9 => exact BindsTo.of_eq rfl); (case kB => exact rfl); (case kD => decide +kernel); (case c2 => exact rfl); (case c3 => exact rfl); (case c4 => exact rfl); k_whole; intro g' L' h' tk' cells' F' N' Y' B' X' T' l0; (try k_lt l0); have hY := CellsAre.three Y'; obtain ⟨oc1, oc2, oc3, hE', dc1, dc2, dc3⟩ := hY; subst hE'; clear Y'; (try simp only [List.cons_append, List.nil_append] at N'); (try dsimp only); (try k_fold))
  refine hideQ ?_
  intro K hK
  have hcm : HoldC := trivial
  iterate 20 (first | walk1 | (dsimp only; walk1))
  refine' range_loop (σ := List Value × Nat) (n := 15) (by assumption) (by decide) (by decide) rfl
    (fun g => [(_, W.listOf g.1.toArray g.2), (L' + 1 + 1 + 1, _), (L' + 1 + 1, _), (L' + 1, _), (ma, W.listOf zs.toArray kk), (sa, W.listOf [Value.int 1 s1, Value.int 2 s2, Value.int 4 s3, Value.int 8 s4].toArray k2)])
    (fun g => [(Str.ofString "message", .ref ma)])
    (fun i g => IntsAre g.1 (baseP msg i))
    ⟨[Value.int 0 _], 0⟩
    (by k_asm) (news_sub (by k_asm) ?zs) ?zp ?zi ?zt ?zd
  case zs => (try dsimp only); (repeat (refine sub_cons (by k_mem) ?_)); exact List.forall_mem_nil _
  case zp => kst_all
  case zi => exact .cons _ _ .nil
  case zt =>
    rintro I i ti ⟨us, ku⟩ u h tk io hi hIs hcls hne F2 N2
    dsimp only at hIs F2 N2
    have hoff := off1_of hne
    dsimp only at hoff
    clear hne
    have hul := IntsAre.length hIs
    rw [baseP_len] at hul
    refine hideQ ?_
    intro K1 hK1
    iterate 23 (first | walk1 | (dsimp only; walk1))
    · iterate 4 (first | walk1 | (dsimp only; walk1))
      rename News _ _ _ ((_, _) :: (_, W.listOf (Array.push _ _) _) :: _) => N3
      rw [List.push_toArray] at N3
      refine hK1 _ _ ?_
      refine' TEnd.next ⟨us ++ [_], _⟩ (by k_asm) N3 ?h1 ?h2 ?h3 ?h4
      case h3 => kst_all
      case h1 => (try dsimp only); (repeat (refine sub_cons (by k_mem) ?_)); exact List.forall_mem_nil _
      case h2 => (try dsimp only); (repeat (refine List.forall_mem_cons.mpr ⟨by first | exact ne_of_cls (by assumption) (by k_mem) (by k_mem) hcls (by first | exact type_ne (by decide) | (intro hh; cases hh)) | k_ne, ?_⟩)); exact List.forall_mem_nil _
      case h4 => exact baseP_one hIs (base_yes (by assumption))
    · have hix := idx_is hi (by assumption)
      iterate 21 (first | walk1 | (dsimp only; walk1))
      rename News _ _ _ ((_, _) :: (_, W.listOf (Array.push _ _) _) :: _) => N3
      rw [List.push_toArray] at N3
      refine hK1 _ _ ?_
      refine' TEnd.next ⟨us ++ [_], _⟩ (by k_asm) N3 ?h1 ?h2 ?h3 ?h4
      case h3 => kst_all
      case h1 => (try dsimp only); (repeat (refine sub_cons (by k_mem) ?_)); exact List.forall_mem_nil _
      case h2 => (try dsimp only); (repeat (refine List.forall_mem_cons.mpr ⟨by first | exact ne_of_cls (by assumption) (by k_mem) (by k_mem) hcls (by first | exact type_ne (by decide) | (intro hh; cases hh)) | k_ne, ?_⟩)); exact List.forall_mem_nil _
      case h4 => exact baseP_one hIs (base_no (by assumption))
  case zd =>
    rintro ⟨us, ku⟩ u h tk hIs F2 N2
    dsimp only at hIs F2 N2
    have hul := IntsAre.length hIs
    have hbl := baseP_len msg 15
    have hI8 : IntsAre [Value.int 1 s1, Value.int 2 s2, Value.int 4 s3, Value.int 8 s4] [1, 2, 4, 8] := .cons _ _ (.cons _ _ (.cons _ _ (.cons _ _ .nil)))
    rw [baseP_len] at hul
    iterate 21 (first | walk1 | (dsimp only; walk1))
    iterate 4 (first | walk1 | (dsimp only; walk1))
    refine Hold.go ?_
    refine wpAny_Assign_Name ?_
    k_dflt (refine LCg.ListComp_U (F₀ := by k_asm) (by rfl) (by decide) (by rfl) (by decide) (by rfl) ?_)
    iterate 7 (first | walk1 | (dsimp only; walk1))
    k_dflt (refine LCg.CompSrc.range (n := 16) (by rfl) (by k_asm) (by k_asm) (by assumption) (by decide) (by decide) (by decide) ?_)
    intro g2
    refine comp_ind (fun i ys nx => nx = _ ∧ IntsAre ys (parP (baseP msg 15) (oddP (countsP (runsO (baseP msg 15) 0)) ↑(runsO (baseP msg 15) 0).length [1, 2, 4, 8]) i)) ?_ ?_ _ 0 [] _ (Nat.zero_add _) ⟨rfl, .nil⟩
    · rintro i ys nx v I oI C oC D m₂ h tk E' hi ⟨rfl, hys⟩ ⟨tv, rfl⟩ hC hx F3 N3 off ne
      clear ne
      refine hideQ ?_
      intro K1 hK1
      k_steps
      · exact (par_zero (by assumption) (by assumption)).elim
      all_goals refine hK1 _ _ ?_
      all_goals k_steps
      · exact parP_one hys (par_yes (by assumption) (by assumption))
      · exact parP_one hys (par_no (by assumption))
      · exact parP_one hys (par_out (by assumption))
    · rintro ys nx ⟨rfl, hys⟩
      have hyl := IntsAre.length hys
      have hpl := parP_len (baseP msg 15) (oddP (countsP (runsO (baseP msg 15) 0)) ↑(runsO (baseP msg 15) 0).length [1, 2, 4, 8]) 16
      rw [hpl] at hyl
      k_steps
      refine hK _ _ ?_
      k_steps
      unfold OutZ; intro hz; dsimp only
      exact hret _ _ _ _ _ (by k_asm) (news_cons (by k_asm) (by (repeat (refine sub_cons (by k_mem) ?_)); exact List.forall_mem_nil _) hz N) (by unfold sentP fixP; assumption)
end
section
variable {w : World} {mean : ExcName → Option Value} {mg mb : Str → Option Value} {dp un : Nat} {gd : Option (List Code)} {cn : Str} {cs : Scope} {a : Addr} {ccd : Value} {cl : List (Str × Addr)} {outer : List Env} {A₀ : Around} {base h₀ : Heap} {L : Addr} {m : Str → Option Value} {s : Shared} {Q E : Value → Shared → Prop} {news : List (Addr × Obj)}
/-- the slips: none, the first, both -/
def Sl (r fi se : Int) (sl : List Int) : Prop := (0 ≤ fi ∧ fi < 16) ∧ (0 ≤ se ∧ se < 16) ∧ fi ≠ se ∧ (r = 0 ∧ sl = [] ∨ r = 1 ∧ sl = [fi] ∨ r = 2 ∧ sl = [fi, se])
theorem Sl.of {tot : Int} {sl : List Int} (h : List.take (Int.fmod tot 3).toNat [Int.fmod (Int.fdiv tot 3) 16, Int.fmod (Int.fmod (Int.fdiv tot 3) 16 + 1 + Int.fmod (Int.fdiv tot 48) 15) 16] = sl) :
    Sl (Int.fmod tot 3) (Int.fmod (Int.fdiv tot 3) 16) (Int.fmod (Int.fmod (Int.fdiv tot 3) 16 + 1 + Int.fmod (Int.fdiv tot 48) 15) 16) sl := by
  have hb := fmod_bnd (x := tot) (n := 3) (by decide)
  have h1 := fmod_bnd (x := Int.fdiv tot 3) (n := 16) (by decide)
  have h2 := fmod_bnd (x := Int.fdiv tot 48) (n := 15) (by decide)
  have h3 := fmod_bnd (x := Int.fmod (Int.fdiv tot 3) 16 + 1 + Int.fmod (Int.fdiv tot 48) 15) (n := 16) (by decide)
  refine ⟨h1, h3, ?_, ?_⟩
  · generalize Int.fmod (Int.fdiv tot 3) 16 = a at *
    generalize Int.fmod (Int.fdiv tot 48) 15 = b at *
    rw [Int.fmod_eq_emod_of_nonneg _ (by decide)]
    omega
  · have : Int.fmod tot 3 = 0 ∨ Int.fmod tot 3 = 1 ∨ Int.fmod tot 3 = 2 := by omega
    rcases this with e | e | e
    · exact .inl ⟨e, by rw [← h, e]; rfl⟩
    · exact .inr (.inl ⟨e, by rw [← h, e]; rfl⟩)
    · exact .inr (.inr ⟨e, by rw [← h, e]; rfl⟩)
def SynF (msg sl : List Int) (r fi se b : Int) : Prop :=
    (r = 0 → [Int.fmod ((runsO (flipP (sentP msg) sl 16) b).length : Int) 2, oddP (countsP (runsO (flipP (sentP msg) sl 16) b)) ((runsO (flipP (sentP msg) sl 16) b).length : Int) [1, 2, 4, 8]] = [0, 0]) ∧
    (r = 1 → [Int.fmod ((runsO (flipP (sentP msg) sl 16) b).length : Int) 2, oddP (countsP (runsO (flipP (sentP msg) sl 16) b)) ((runsO (flipP (sentP msg) sl 16) b).length : Int) [1, 2, 4, 8]] = [1, fi]) ∧
    (r = 2 → [Int.fmod ((runsO (flipP (sentP msg) sl 16) b).length : Int) 2, oddP (countsP (runsO (flipP (sentP msg) sl 16) b)) ((runsO (flipP (sentP msg) sl 16) b).length : Int) [1, 2, 4, 8]] = [0, Builtin.bitXor fi se])
def setV (v : Int) (fl ps : List Int) : List Int := ps.filter fun p => decide (fl.getD p.toNat 0 = v)
theorem setV_one {ys : List Value} {v : Int} {fl ps : List Int} {i : Nat} {z : Int} {t : Tok} (h : IntsAre ys (setV v fl (ps.take i))) (hz : ps[i]? = some z) (hp : fl.getD z.toNat 0 = v) : IntsAre (ys ++ [.int z t]) (setV v fl (ps.take (i + 1))) := by
  have e : setV v fl (ps.take (i + 1)) = setV v fl (ps.take i) ++ [z] := by
    rw [List.take_add_one, hz]
    unfold setV
    rw [List.filter_append]
    congr 1
    simp only [Option.toList_some, List.filter_cons, List.filter_nil, hp, decide_true, if_true]
  rw [e]
  exact h.append (.cons _ t .nil)
theorem setV_no {ys : List Value} {v : Int} {fl ps : List Int} {i : Nat} {z : Int} (h : IntsAre ys (setV v fl (ps.take i))) (hz : ps[i]? = some z) (hp : ¬ fl.getD z.toNat 0 = v) : IntsAre ys (setV v fl (ps.take (i + 1))) := by
  have e : setV v fl (ps.take (i + 1)) = setV v fl (ps.take i) := by
    rw [List.take_add_one, hz]
    unfold setV
    rw [List.filter_append]
    simp only [Option.toList_some, List.filter_cons, List.filter_nil, hp, decide_false, Bool.false_eq_true, if_false, List.append_nil]
  rw [e]; exact h
theorem Sl.bnd {r fi se : Int} {sl : List Int} (h : Sl r fi se sl) : ∀ p ∈ sl, 0 ≤ p ∧ p < 16 := by
  obtain ⟨h1, h2, _, h4⟩ := h
  intro p hp
  rcases h4 with ⟨_, rfl⟩ | ⟨_, rfl⟩ | ⟨_, rfl⟩
  · exact (List.not_mem_nil hp).elim
  · rw [List.mem_singleton.mp hp]; exact h1
  · rcases List.mem_cons.mp hp with rfl | hp
    · exact h1
    · rw [List.mem_singleton.mp hp]; exact h2
theorem Sl.len {r fi se : Int} {sl : List Int} (h : Sl r fi se sl) : sl.length ≤ 2 := by
  obtain ⟨_, _, _, h4⟩ := h
  rcases h4 with ⟨_, rfl⟩ | ⟨_, rfl⟩ | ⟨_, rfl⟩ <;> simp
/-- less, of two rows of flags -/
def lessF (fl gl : List Int) (b b' : Int) : Bool := lessP (countsP (runsO fl b)) (lenP (runsO fl b)) ((runsO fl b).length : Int) (countsP (runsO gl b')) (lenP (runsO gl b')) ((runsO gl b').length : Int)
theorem lessno {b : Bool} {sl : List Int} {d : Decidable (sl = [])} (h : @decide (sl = []) d = true) (e : b = false) (r : (b != !@decide (sl = []) d) = true) : False := by rw [h, e] at r; exact absurd r (by decide)
theorem lessyes {b : Bool} {xs : List Int} {d : Decidable (xs = [])} (e : b = @decide (xs = []) d) (r : (b != @decide (xs = []) d) = true) : False := by rw [e] at r; simp at r
def MendI (nt od : Int) (mm : List Int) : Prop := mm = if Int.fmod nt 2 = 1 then [od] else []
theorem MendI.yes {nt od : Int} (h : Int.fmod nt 2 = 1) : MendI nt od [od] := by unfold MendI; rw [if_pos h]
theorem MendI.no {nt od : Int} (h : ¬ Int.fmod nt 2 = 1) : MendI nt od [] := by unfold MendI; rw [if_neg h]
theorem MendI.len {nt od : Int} {mm : List Int} (h : MendI nt od mm) : mm.length ≤ 16 := by unfold MendI at h; rw [h]; split <;> simp
def outF (fl : List Int) (i : Nat) : List Int := ((List.range i).filter fun (k : Nat) => isb (1 + (k : Int)) == false).map fun (k : Nat) => fl.getD (1 + (k : Int)).toNat 0
theorem outF_one {ys : List Value} {fl : List Int} {i : Nat} {v : Int} {t : Tok} (h : IntsAre ys (outF fl i)) (hp : isb (1 + (i : Int)) = false) (hv : v = fl.getD (1 + (i : Int)).toNat 0) : IntsAre (ys ++ [.int v t]) (outF fl (i + 1)) := by
  have e : outF fl (i + 1) = outF fl i ++ [fl.getD (1 + (i : Int)).toNat 0] := by
    unfold outF
    rw [List.range_succ, List.filter_append, List.map_append]
    congr 1
    simp only [List.filter_cons, List.filter_nil, hp, beq_self_eq_true, if_true, List.map_cons, List.map_nil]
  rw [e, hv]
  exact h.append (.cons _ t .nil)
theorem outF_no {ys : List Value} {fl : List Int} {i : Nat} (h : IntsAre ys (outF fl i)) (hp : isb (1 + (i : Int)) = true) : IntsAre ys (outF fl (i + 1)) := by
  have e : outF fl (i + 1) = outF fl i := by
    unfold outF
    rw [List.range_succ, List.filter_append, List.map_append]
    simp [hp]
  rw [e]; exact h
theorem outF_len (fl : List Int) (i : Nat) : (outF fl i).length ≤ i := by
  unfold outF
  rw [List.length_map]
  exact Nat.le_trans (List.length_filter_le _ _) (by simp)
theorem eqno {P : Prop} {d : Decidable P} {r : Int} {d2 : Decidable (r < 2)} (e : @decide P d = @decide (r < 2) d2) (h : (@decide P d != @decide (r < 2) d2) = true) : False := by rw [e] at h; simp at h
end
section
variable {w : World} {mean : ExcName → Option Value} {mg mb : Str → Option Value} {dp un : Nat} {gd : Option (List Code)} {cn : Str} {cs : Scope} {a : Addr} {ccd : Value} {cl : List (Str × Addr)} {outer : List Env} {A₀ : Around} {base h₀ : Heap} {L : Addr} {m : Str → Option Value} {s : Shared} {Q E : Value → Shared → Prop} {news : List (Addr × Obj)}
/-- the weighted sum of a list -/
def wsum (f : Nat → Int) : List Int → Int
  | [] => 0
  | x :: xs => f 0 * x + wsum (fun i => f (i + 1)) xs
theorem wsum_append (f : Nat → Int) (c d : List Int) : wsum f (c ++ d) = wsum f c + wsum (fun i => f (i + c.length)) d := by
  induction c generalizing f with
  | nil => simp [wsum]
  | cons x c ih =>
    simp only [List.cons_append, wsum, ih, List.length_cons]
    have e : (fun i => f (i + c.length + 1)) = fun i => f (i + (c.length + 1)) := rfl
    rw [e]; omega
theorem wsum_zero (f : Nat → Int) (n : Nat) : wsum f (List.replicate n 0) = 0 := by
  induction n generalizing f with
  | zero => rfl
  | succ n ih => simp [List.replicate_succ, wsum, ih]
theorem wsum_set (f : Nat → Int) (c : List Int) (i : Nat) (v : Int) (h : i < c.length) : wsum f (c.set i v) = wsum f c + f i * (v - c.getD i 0) := by
  induction c generalizing f i with
  | nil => simp at h
  | cons x c ih =>
    cases i with
    | zero =>
      simp only [List.set_cons_zero, wsum, List.getD_cons_zero, Int.mul_sub]
      omega
    | succ i =>
      have h' : i < c.length := by simpa using h
      simp only [List.set_cons_succ, wsum, List.getD_cons_succ]
      rw [ih (fun i => f (i + 1)) i h']
      omega
theorem wsum_incAt (f : Nat → Int) (c : List Int) {b : Int} (hb : 0 ≤ b) : wsum f (incAt c b) = wsum f c + f b.toNat := by
  unfold incAt
  split
  · rename_i h
    rw [wsum_set _ _ _ _ (by rw [List.length_append, List.length_replicate]; omega), wsum_append, wsum_zero]
    have : ∀ z : Int, z + 1 - z = 1 := fun z => by omega
    rw [this, Int.mul_one, Int.add_zero]
  · rename_i h
    rw [wsum_set _ _ _ _ (by omega)]
    have : ∀ z : Int, z + 1 - z = 1 := fun z => by omega
    rw [this, Int.mul_one]
theorem wsum_fold (f : Nat → Int) (rs : List Int) (hr : ∀ r ∈ rs, 0 ≤ r) (c : List Int) : wsum f (rs.foldl incAt c) = wsum f c + (rs.map fun r => f r.toNat).sum := by
  induction rs generalizing c with
  | nil => simp
  | cons r rs ih =>
    rw [List.foldl_cons, ih (fun r' h => hr r' (by simp [h])), wsum_incAt f c (hr r (by simp)), List.map_cons, List.sum_cons]
    omega
theorem wsum_counts (f : Nat → Int) {rs : List Int} (hr : ∀ r ∈ rs, 0 ≤ r) : wsum f (countsP rs) = (rs.map fun r => f r.toNat).sum := by
  unfold countsP
  rw [wsum_fold f rs hr]
  simp [wsum]
theorem wsum_range (f : Nat → Int) (c : List Int) : wsum f c = ((List.range c.length).map fun i => f i * c.getD i 0).sum := by
  induction c generalizing f with
  | nil => rfl
  | cons x c ih =>
    rw [wsum, ih, List.length_cons, List.range_succ_eq_map, List.map_cons, List.sum_cons, List.map_map]
    rfl
theorem sum_skip (g : Nat → Int) (m n : Nat) (h : ∀ i, i < m → g i = 0) : ((List.range n).map g).sum = ((List.range (n - m)).map fun k => g (m + k)).sum := by
  have zero : ∀ k, k ≤ m → ((List.range k).map g).sum = 0 := by
    intro k hk
    induction k with
    | zero => rfl
    | succ k ih =>
      rw [List.range_succ, List.map_append, List.sum_append, ih (by omega)]
      simp [h k (by omega)]
  by_cases hmn : m ≤ n
  · obtain ⟨d, rfl⟩ : ∃ d, n = m + d := ⟨n - m, by omega⟩
    rw [List.range_add, List.map_append, List.sum_append, zero m (Nat.le_refl _), Int.zero_add, List.map_map, Nat.add_sub_cancel_left]
    rfl
  · rw [zero n (by omega)]
    have : n - m = 0 := by omega
    rw [this]; rfl
theorem ilsum_counts {rs : List Int} (hr : ∀ r ∈ rs, 0 ≤ r) {ts : Int} (hts : 1 ≤ ts) :
    ilsum (countsP rs) ts (rangeKs ts (((countsP rs).length : Int) - ts).toNat) = (rs.map fun r => Int.fdiv r ts).sum := by
  have e1 : (rs.map fun r => Int.fdiv r ts) = rs.map fun r => (fun i : Nat => Int.fdiv (i : Int) ts) r.toNat := List.map_congr_left fun r h => by
    have := hr r h
    show Int.fdiv r ts = Int.fdiv (r.toNat : Int) ts
    rw [Int.toNat_of_nonneg this]
  rw [e1, ← wsum_counts (fun i : Nat => Int.fdiv (i : Int) ts) hr, wsum_range, sum_skip _ ts.toNat]
  · unfold ilsum rangeKs
    rw [List.map_map]
    have e2 : (((countsP rs).length : Int) - ts).toNat = (countsP rs).length - ts.toNat := by omega
    rw [e2]
    congr 1
    refine List.map_congr_left fun k _ => ?_
    show Int.fdiv (ts + (k : Int)) ts * (countsP rs).getD (ts + (k : Int)).toNat 0 = Int.fdiv ((ts.toNat + k : Nat) : Int) ts * (countsP rs).getD (ts.toNat + k) 0
    have e3 : (ts + (k : Int)).toNat = ts.toNat + k := by omega
    have e4 : ((ts.toNat + k : Nat) : Int) = ts + k := by omega
    rw [e3, e4]
  · intro i hi
    have h0 : Int.fdiv (i : Int) ts = 0 := by
      rw [Int.fdiv_eq_ediv_of_nonneg _ (by omega)]
      exact Int.ediv_eq_zero_of_lt (by omega) (by omega)
    rw [h0, Int.zero_mul]
theorem il_counts {rs : List Int} (hr : ∀ r ∈ rs, 0 ≤ r) {nt ts : Int} (hts : 1 ≤ ts) : ilP (countsP rs) nt ts = ts * ((rs.map fun r => Int.fdiv r ts).sum + nt) := by
  unfold ilP
  rw [ilsum_counts hr hts, Int.zero_add]
theorem counts_len (rs : List Int) (hr : ∀ r ∈ rs, 0 ≤ r) (c : List Int) : (rs.foldl incAt c).length = rs.foldl (fun n r => max n (r.toNat + 1)) c.length := by
  induction rs generalizing c with
  | nil => rfl
  | cons r rs ih => rw [List.foldl_cons, ih (fun r' h => hr r' (by simp [h])), incAt_length (hr r (by simp)), List.foldl_cons]
theorem countsP_length {rs : List Int} (hr : ∀ r ∈ rs, 0 ≤ r) : (countsP rs).length = rs.foldl (fun n r => max n (r.toNat + 1)) 0 := by
  unfold countsP
  exact counts_len rs hr []
end
section
variable {w : World} {mean : ExcName → Option Value} {mg mb : Str → Option Value} {dp un : Nat} {gd : Option (List Code)} {cn : Str} {cs : Scope} {a : Addr} {ccd : Value} {cl : List (Str × Addr)} {outer : List Env} {A₀ : Around} {base h₀ : Heap} {L : Addr} {m : Str → Option Value} {s : Shared} {Q E : Value → Shared → Prop} {news : List (Addr × Obj)}
theorem wsum_ind (c : List Int) (i : Nat) : wsum (fun j => if j = i then 1 else 0) c = c.getD i 0 := by
  induction c generalizing i with
  | nil => rfl
  | cons x c ih =>
    cases i with
    | zero =>
      have e : (fun j : Nat => if j + 1 = 0 then (1 : Int) else 0) = fun _ => 0 := by funext j; simp
      have z : ∀ c : List Int, wsum (fun _ => 0) c = 0 := by
        intro c
        induction c with
        | nil => rfl
        | cons x c ih => simp [wsum, ih]
      simp only [wsum, e, z, List.getD_cons_zero]
      simp
    | succ i =>
      have e : (fun j : Nat => if j + 1 = i + 1 then (1 : Int) else 0) = fun j => if j = i then 1 else 0 := by funext j; simp
      simp only [wsum, e, ih, List.getD_cons_succ]
      simp
theorem counts_ext {xs ys : List Int} (hx : ∀ r ∈ xs, 0 ≤ r) (hy : ∀ r ∈ ys, 0 ≤ r) (hl : xs.foldl (fun n r => max n (r.toNat + 1)) 0 = ys.foldl (fun n r => max n (r.toNat + 1)) 0)
    (h : ∀ i : Nat, (xs.map fun r => if r.toNat = i then (1 : Int) else 0).sum = (ys.map fun r => if r.toNat = i then (1 : Int) else 0).sum) : countsP xs = countsP ys := by
  have hlen : (countsP xs).length = (countsP ys).length := by rw [countsP_length hx, countsP_length hy, hl]
  refine List.ext_getElem hlen fun i h1 h2 => ?_
  have e1 := wsum_ind (countsP xs) i
  have e2 := wsum_ind (countsP ys) i
  rw [wsum_counts _ hx] at e1
  rw [wsum_counts _ hy] at e2
  rw [List.getD_eq_getElem?_getD, List.getElem?_eq_getElem h1, Option.getD_some] at e1
  rw [List.getD_eq_getElem?_getD, List.getElem?_eq_getElem h2, Option.getD_some] at e2
  rw [← e1, ← e2]
  exact h i
theorem foldl_le (xs : List Int) (n N : Nat) : xs.foldl (fun n r => max n (r.toNat + 1)) n ≤ N ↔ n ≤ N ∧ ∀ r ∈ xs, r.toNat + 1 ≤ N := by
  induction xs generalizing n with
  | nil => simp
  | cons x xs ih =>
    rw [List.foldl_cons, ih, Nat.max_le]
    simp only [List.mem_cons, forall_eq_or_imp]
    exact and_assoc
theorem counts_perm {xs ys : List Int} (h : xs.Perm ys) (hx : ∀ r ∈ xs, 0 ≤ r) : countsP xs = countsP ys := by
  have hy : ∀ r ∈ ys, 0 ≤ r := fun r hr => hx r (h.mem_iff.mpr hr)
  refine counts_ext hx hy ?_ fun i => ?_
  · refine Nat.le_antisymm ((foldl_le _ _ _).mpr ⟨Nat.zero_le _, fun r hr => ?_⟩) ((foldl_le _ _ _).mpr ⟨Nat.zero_le _, fun r hr => ?_⟩)
    · exact ((foldl_le ys 0 _).mp (Nat.le_refl _)).2 r (h.mem_iff.mp hr)
    · exact ((foldl_le xs 0 _).mp (Nat.le_refl _)).2 r (h.mem_iff.mpr hr)
  · have hm := h.map fun r : Int => if r.toNat = i then (1 : Int) else 0
    unfold List.sum
    refine hm.foldr_eq' (fun x _ y _ z => ?_) 0
    omega
theorem sum_perm {l l' : List Int} (h : l.Perm l') : l.sum = l'.sum := by
  unfold List.sum
  refine h.foldr_eq' (fun x _ y _ z => ?_) 0
  omega
/-- a row of sixteen flags -/
def Flags (fl : List Int) : Prop := fl.length = 16 ∧ ∀ p : Nat, fl.getD p 0 = 0 ∨ fl.getD p 0 = 1
def sumN (fl : List Int) (f : Nat → Int) (n : Nat) : Int := ((List.range n).map fun (p : Nat) => fl.getD p 0 * f p).sum
theorem sumN_succ (fl : List Int) (f : Nat → Int) (n : Nat) : sumN fl f (n + 1) = sumN fl f n + fl.getD n 0 * f n := by
  unfold sumN
  rw [List.range_succ, List.map_append, List.sum_append]
  simp
theorem rot_all : ((List.range 16).all fun (b : Nat) => (rotP (b : Int) 16).isPerm ((List.range 16).map fun (p : Nat) => (p : Int))) = true := by decide +kernel
theorem rot_perm {b : Int} (hb : 0 ≤ b ∧ b < 16) : (rotP b 16).Perm ((List.range 16).map fun (p : Nat) => (p : Int)) := by
  obtain ⟨n, rfl⟩ : ∃ n : Nat, b = n := ⟨b.toNat, by omega⟩
  exact List.isPerm_iff.mp (List.all_eq_true.mp rot_all n (by simp; omega))
theorem runs_perm {fl : List Int} {b b' : Int} (hb : 0 ≤ b ∧ b < 16) (hb' : 0 ≤ b' ∧ b' < 16) : (runsO fl b).Perm (runsO fl b') := by
  unfold runsO setP
  exact ((rot_perm hb).trans (rot_perm hb').symm).filter _
theorem filt_sum {fl : List Int} (hf : Flags fl) (f : Nat → Int) (n : Nat) : ((setP fl ((List.range n).map fun (p : Nat) => (p : Int))).map fun r => f r.toNat).sum = sumN fl f n := by
  induction n with
  | zero => rfl
  | succ n ih =>
    rw [sumN_succ, ← ih, List.range_succ, List.map_append]
    unfold setP
    rw [List.filter_append, List.map_append, List.sum_append]
    congr 1
    simp only [List.map_cons, List.map_nil, List.filter_cons, List.filter_nil, Int.toNat_natCast]
    rcases hf.2 n with h | h <;> simp only [h, decide_true, if_true, List.map_cons, List.map_nil, List.sum_cons, List.sum_nil, Int.toNat_natCast] <;> simp
theorem runs_sum {fl : List Int} {b : Int} (hf : Flags fl) (hb : 0 ≤ b ∧ b < 16) (f : Nat → Int) : ((runsO fl b).map fun r => f r.toNat).sum = sumN fl f 16 := by
  rw [← filt_sum hf f 16]
  refine sum_perm (List.Perm.map _ ?_)
  unfold runsO setP
  exact (rot_perm hb).filter _
theorem runs_pos {fl : List Int} {b : Int} : ∀ r ∈ runsO fl b, 0 ≤ r := fun r h => (runsO_bnd h).1
theorem runs_len {fl : List Int} {b : Int} (hf : Flags fl) (hb : 0 ≤ b ∧ b < 16) : ((runsO fl b).length : Int) = sumN fl (fun _ => 1) 16 := by
  rw [← runs_sum hf hb]
  induction runsO fl b with
  | nil => rfl
  | cons x xs ih => simp only [List.length_cons, List.map_cons, List.sum_cons]; omega
theorem runs_lenP {fl : List Int} {b : Int} (hf : Flags fl) (hb : 0 ≤ b ∧ b < 16) : lenP (runsO fl b) = sumN fl (fun p => (p : Int) + 1) 16 := by
  rw [← runs_sum hf hb]
  unfold lenP
  congr 1
  refine List.map_congr_left fun r h => ?_
  have := runs_pos r h
  omega
theorem runs_il {fl : List Int} {b ts : Int} (hf : Flags fl) (hb : 0 ≤ b ∧ b < 16) (hts : 1 ≤ ts) : ilP (countsP (runsO fl b)) ((runsO fl b).length : Int) ts = ts * (sumN fl (fun p => Int.fdiv (p : Int) ts) 16 + sumN fl (fun _ => 1) 16) := by
  have e : ((runsO fl b).map fun r => Int.fdiv r ts) = (runsO fl b).map fun r => (fun p : Nat => Int.fdiv (p : Int) ts) r.toNat := List.map_congr_left fun r h => by
    have := runs_pos r h
    show Int.fdiv r ts = Int.fdiv (r.toNat : Int) ts
    rw [Int.toNat_of_nonneg this]
  rw [il_counts runs_pos hts, runs_len hf hb, e, runs_sum hf hb (fun p : Nat => Int.fdiv (p : Int) ts)]
theorem counts_same {fl : List Int} {b b' : Int} (hb : 0 ≤ b ∧ b < 16) (hb' : 0 ≤ b' ∧ b' < 16) : countsP (runsO fl b) = countsP (runsO fl b') := counts_perm (runs_perm hb hb') runs_pos
theorem counts_sum {fl gl : List Int} {b b' : Int} (hf : Flags fl) (hg : Flags gl) (hb : 0 ≤ b ∧ b < 16) (hb' : 0 ≤ b' ∧ b' < 16) (h : countsP (runsO fl b) = countsP (runsO gl b')) (f : Nat → Int) : sumN fl f 16 = sumN gl f 16 := by
  rw [← runs_sum hf hb, ← runs_sum hg hb', ← wsum_counts f runs_pos, ← wsum_counts f runs_pos, h]
/-- which sizes are odd, by the sums -/
def oddOf (q0 q1 q2 q3 : Int) : Int := (if Int.fmod q0 2 = 1 then 1 else 0) + (if Int.fmod q1 2 = 1 then 2 else 0) + (if Int.fmod q2 2 = 1 then 4 else 0) + (if Int.fmod q3 2 = 1 then 8 else 0)
def halfN (k : Nat) (p : Nat) : Int := ((p / 2 ^ k : Nat) : Int)
theorem odd_is {fl : List Int} {b : Int} (hf : Flags fl) (hb : 0 ≤ b ∧ b < 16) : oddP (countsP (runsO fl b)) ((runsO fl b).length : Int) [1, 2, 4, 8] = oddOf (sumN fl (halfN 0) 16) (sumN fl (halfN 1) 16) (sumN fl (halfN 2) 16) (sumN fl (halfN 3) 16) := by
  have key : ∀ (z : Int) (k : Nat), 1 ≤ z → z = ((2 ^ k : Nat) : Int) → Int.fdiv (ilP (countsP (runsO fl b)) ((runsO fl b).length : Int) z) z - ((runsO fl b).length : Int) = sumN fl (halfN k) 16 := by
    intro z k hz he
    rw [runs_il hf hb hz, Int.mul_comm, Int.fdiv_eq_ediv_of_nonneg _ (by omega), Int.mul_ediv_cancel _ (by omega), runs_len hf hb]
    have : (fun p : Nat => Int.fdiv (p : Int) z) = halfN k := funext fun p => by
      unfold halfN
      rw [he, Int.fdiv_eq_ediv_of_nonneg _ (by omega)]; rfl
    rw [this]; omega
  have k0 := key 1 0 (by decide) (by decide)
  have k1 := key 2 1 (by decide) (by decide)
  have k2 := key 4 2 (by decide) (by decide)
  have k3 := key 8 3 (by decide) (by decide)
  unfold oddP oddL oddOf
  simp only [List.filter_cons, List.filter_nil, k0, k1, k2, k3, beq_iff_eq]
  by_cases h0 : Int.fmod (sumN fl (halfN 0) 16) 2 = 1 <;> by_cases h1 : Int.fmod (sumN fl (halfN 1) 16) 2 = 1 <;> by_cases h2 : Int.fmod (sumN fl (halfN 2) 16) 2 = 1 <;> by_cases h3 : Int.fmod (sumN fl (halfN 3) 16) 2 = 1 <;> simp [h0, h1, h2, h3]
/-! the slips -/
theorem getD_flip {fl sl : List Int} {p : Nat} (hp : p < 16) : (flipP fl sl 16).getD p 0 = flipF fl sl p := by
  unfold flipP
  rw [List.getD_eq_getElem?_getD, List.getElem?_map, List.getElem?_range hp]; rfl
theorem flags_flip {fl sl : List Int} (hf : Flags fl) : Flags (flipP fl sl 16) := by
  refine ⟨flipP_len _ _ _, fun p => ?_⟩
  by_cases hp : p < 16
  · rw [getD_flip hp]
    unfold flipF
    rcases hf.2 p with h | h <;> rw [h] <;> split <;> simp
  · left
    rw [List.getD_eq_getElem?_getD, List.getElem?_eq_none (by rw [flipP_len]; omega)]; rfl
theorem sumN_diff {fl gl : List Int} (g d : Nat → Int) (n : Nat) (h : ∀ p, p < n → gl.getD p 0 = fl.getD p 0 + d p) : sumN gl g n = sumN fl g n + ((List.range n).map fun p => d p * g p).sum := by
  induction n with
  | zero => rfl
  | succ n ih =>
    rw [sumN_succ, sumN_succ, ih fun p hp => h p (by omega), List.range_succ, List.map_append, List.sum_append, h n (by omega), Int.add_mul]
    simp only [List.map_cons, List.map_nil, List.sum_cons, List.sum_nil]
    omega
theorem sum_one (a n : Nat) (v : Nat → Int) : ((List.range n).map fun p => if p = a then v p else 0).sum = if a < n then v a else 0 := by
  induction n with
  | zero => rfl
  | succ n ih =>
    rw [List.range_succ, List.map_append, List.sum_append, ih]
    simp only [List.map_cons, List.map_nil, List.sum_cons, List.sum_nil]
    by_cases h1 : a < n
    · rw [if_pos h1, if_neg (by omega), if_pos (by omega)]; omega
    · by_cases h2 : n = a
      · rw [if_neg h1, if_pos h2, if_pos (by omega), h2]; omega
      · rw [if_neg h1, if_neg h2, if_neg (by omega)]; rfl
/-- what one slip adds -/
def sgn (fl : List Int) (a : Nat) : Int := 1 - 2 * fl.getD a 0
theorem flip0 {fl : List Int} {f : Nat → Int} : sumN (flipP fl [] 16) f 16 = sumN fl f 16 := by
  rw [sumN_diff (fl := fl) f (fun _ => 0) 16]
  · have : (fun p : Nat => (0 : Int) * f p) = fun _ => 0 := funext fun p => Int.zero_mul _
    rw [this]
    have : ∀ n : Nat, ((List.range n).map fun _ => (0 : Int)).sum = 0 := fun n => by
      induction n with
      | zero => rfl
      | succ n ih => rw [List.range_succ, List.map_append, List.sum_append, ih]; rfl
    rw [this]; omega
  · intro p hp
    rw [getD_flip hp]
    unfold flipF
    rw [if_neg (by simp)]; omega
theorem flip1 {fl : List Int} {a : Nat} (ha : a < 16) {f : Nat → Int} : sumN (flipP fl [(a : Int)] 16) f 16 = sumN fl f 16 + sgn fl a * f a := by
  rw [sumN_diff (fl := fl) f (fun p => if p = a then sgn fl a else 0) 16]
  · have : (fun p : Nat => (if p = a then sgn fl a else 0) * f p) = fun p => if p = a then sgn fl a * f p else 0 := funext fun p => by split <;> simp
    rw [this, sum_one a 16 fun p => sgn fl a * f p, if_pos ha]
  · intro p hp
    rw [getD_flip hp]
    unfold flipF sgn
    by_cases h : p = a
    · subst h; rw [if_pos (by simp), if_pos rfl]; omega
    · rw [if_neg (by simp; omega), if_neg h]; omega
theorem flip2 {fl : List Int} {a c : Nat} (ha : a < 16) (hc : c < 16) (hne : a ≠ c) {f : Nat → Int} : sumN (flipP fl [(a : Int), (c : Int)] 16) f 16 = sumN fl f 16 + sgn fl a * f a + sgn fl c * f c := by
  rw [sumN_diff (fl := fl) f (fun p => (if p = a then sgn fl a else 0) + (if p = c then sgn fl c else 0)) 16]
  · have add : ∀ (u v : Nat → Int) (n : Nat), ((List.range n).map fun p => u p + v p).sum = ((List.range n).map u).sum + ((List.range n).map v).sum := fun u v n => by
      induction n with
      | zero => rfl
      | succ n ih =>
        rw [List.range_succ, List.map_append, List.map_append, List.map_append, List.sum_append, List.sum_append, List.sum_append, ih]
        simp only [List.map_cons, List.map_nil, List.sum_cons, List.sum_nil]
        omega
    have : (fun p : Nat => ((if p = a then sgn fl a else 0) + (if p = c then sgn fl c else 0)) * f p) = fun p => (if p = a then sgn fl a * f p else 0) + (if p = c then sgn fl c * f p else 0) := funext fun p => by
      rw [Int.add_mul]
      congr 1 <;> split <;> simp
    rw [this, add, sum_one a 16 fun p => sgn fl a * f p, if_pos ha, sum_one c 16 fun p => sgn fl c * f p, if_pos hc]
    omega
  · intro p hp
    rw [getD_flip hp]
    unfold flipF sgn
    by_cases h : p = a
    · subst h; rw [if_pos (by simp), if_pos rfl, if_neg hne]; omega
    · by_cases h2 : p = c
      · subst h2; rw [if_pos (by simp), if_neg h, if_pos rfl]; omega
      · rw [if_neg (by simp; omega), if_neg h, if_neg h2]; omega
theorem sgn_cases {fl : List Int} (hf : Flags fl) (a : Nat) : (fl.getD a 0 = 0 ∧ sgn fl a = 1) ∨ (fl.getD a 0 = 1 ∧ sgn fl a = -1) := by
  unfold sgn
  rcases hf.2 a with h | h <;> rw [h]
  · left; exact ⟨rfl, rfl⟩
  · right; exact ⟨rfl, rfl⟩
/-! what is sent -/
theorem sumN16 (a0 a1 a2 a3 a4 a5 a6 a7 a8 a9 a10 a11 a12 a13 a14 a15 : Int) (f : Nat → Int) : sumN [a0, a1, a2, a3, a4, a5, a6, a7, a8, a9, a10, a11, a12, a13, a14, a15] f 16 =
    a0 * f 0 + a1 * f 1 + a2 * f 2 + a3 * f 3 + a4 * f 4 + a5 * f 5 + a6 * f 6 + a7 * f 7 + a8 * f 8 + a9 * f 9 + a10 * f 10 + a11 * f 11 + a12 * f 12 + a13 * f 13 + a14 * f 14 + a15 * f 15 := by
  simp only [sumN_succ, show sumN [a0, a1, a2, a3, a4, a5, a6, a7, a8, a9, a10, a11, a12, a13, a14, a15] f 0 = 0 from rfl, List.getD_cons_zero, List.getD_cons_succ, Int.zero_add]
theorem base_is (m0 m1 m2 m3 m4 m5 m6 m7 m8 m9 m10 : Int) : baseP [m0, m1, m2, m3, m4, m5, m6, m7, m8, m9, m10] 15 = [0, 0, 0, m0, 0, m1, m2, m3, 0, m4, m5, m6, m7, m8, m9, m10] := by
  with_unfolding_all rfl
theorem par_is (b0 b1 b2 b3 b4 b5 b6 b7 b8 b9 b10 b11 b12 b13 b14 b15 odd : Int) : parP [b0, b1, b2, b3, b4, b5, b6, b7, b8, b9, b10, b11, b12, b13, b14, b15] odd 16 =
    [b0, if Int.fmod (Int.fdiv odd 1) 2 = 1 then 1 else b1, if Int.fmod (Int.fdiv odd 2) 2 = 1 then 1 else b2, b3, if Int.fmod (Int.fdiv odd 4) 2 = 1 then 1 else b4, b5, b6, b7, if Int.fmod (Int.fdiv odd 8) 2 = 1 then 1 else b8, b9, b10, b11, b12, b13, b14, b15] := by
  have e : List.range 16 = [0, 1, 2, 3, 4, 5, 6, 7, 8, 9, 10, 11, 12, 13, 14, 15] := by decide
  have hin : ∀ (p : Nat) (d : Int) (fl : List Int), (([1, 2, 4, 8] : List Int).any fun x => x == (p : Int)) = true → parF fl odd p = if Int.fmod (Int.fdiv odd (p : Int)) 2 = 1 then 1 else fl.getD p 0 := fun p d fl h => by
    unfold parF
    by_cases h1 : Int.fmod (Int.fdiv odd (p : Int)) 2 = 1
    · rw [if_pos ⟨h, h1⟩, if_pos h1]
    · rw [if_neg (fun x => h1 x.2), if_neg h1]
  have hout : ∀ (p : Nat) (fl : List Int), (([1, 2, 4, 8] : List Int).any fun x => x == (p : Int)) = false → parF fl odd p = fl.getD p 0 := fun p fl h => by
    unfold parF
    rw [if_neg (fun x => by rw [h] at x; exact absurd x.1 (by decide))]
  unfold parP
  rw [e]
  simp only [List.map_cons, List.map_nil]
  rw [hout 0 _ (by decide), hin 1 0 _ (by decide), hin 2 0 _ (by decide), hout 3 _ (by decide), hin 4 0 _ (by decide), hout 5 _ (by decide), hout 6 _ (by decide), hout 7 _ (by decide), hin 8 0 _ (by decide),
    hout 9 _ (by decide), hout 10 _ (by decide), hout 11 _ (by decide), hout 12 _ (by decide), hout 13 _ (by decide), hout 14 _ (by decide), hout 15 _ (by decide)]
  rfl
/-- the bits of oddOf -/
theorem odd_bits (q0 q1 q2 q3 : Int) : (if Int.fmod (Int.fdiv (oddOf q0 q1 q2 q3) 1) 2 = 1 then (1 : Int) else 0) = Int.fmod q0 2 ∧ (if Int.fmod (Int.fdiv (oddOf q0 q1 q2 q3) 2) 2 = 1 then (1 : Int) else 0) = Int.fmod q1 2 ∧
    (if Int.fmod (Int.fdiv (oddOf q0 q1 q2 q3) 4) 2 = 1 then (1 : Int) else 0) = Int.fmod q2 2 ∧ (if Int.fmod (Int.fdiv (oddOf q0 q1 q2 q3) 8) 2 = 1 then (1 : Int) else 0) = Int.fmod q3 2 := by
  have two : ∀ q : Int, Int.fmod q 2 = 0 ∨ Int.fmod q 2 = 1 := fun q => by have := fmod_bnd (x := q) (n := 2) (by decide); omega
  unfold oddOf
  rcases two q0 with h0 | h0 <;> rcases two q1 with h1 | h1 <;> rcases two q2 with h2 | h2 <;> rcases two q3 with h3 | h3 <;> rw [h0, h1, h2, h3] <;> decide
theorem zero_flags : Flags [0, 0, 0, 0, 0, 0, 0, 0, 0, 0, 0, 0, 0, 0, 0, 0] := ⟨rfl, fun p => by
  left
  by_cases hp : p < 16
  · have : p = 0 ∨ p = 1 ∨ p = 2 ∨ p = 3 ∨ p = 4 ∨ p = 5 ∨ p = 6 ∨ p = 7 ∨ p = 8 ∨ p = 9 ∨ p = 10 ∨ p = 11 ∨ p = 12 ∨ p = 13 ∨ p = 14 ∨ p = 15 := by omega
    rcases this with rfl | rfl | rfl | rfl | rfl | rfl | rfl | rfl | rfl | rfl | rfl | rfl | rfl | rfl | rfl | rfl <;> rfl
  · rw [List.getD_eq_getElem?_getD, List.getElem?_eq_none (by simp; omega)]; rfl⟩
theorem flags_of {l : List Int} (hl : l.length = 16) (h : ∀ x ∈ l, x = 0 ∨ x = 1) : Flags l := ⟨hl, fun p => by
  by_cases hp : p < l.length
  · rw [List.getD_eq_getElem?_getD, List.getElem?_eq_getElem hp, Option.getD_some]
    exact h _ (List.getElem_mem hp)
  · left
    rw [List.getD_eq_getElem?_getD, List.getElem?_eq_none (by omega)]; rfl⟩
theorem list11 {msg : List Int} (h : msg.length = 11) : ∃ m0 m1 m2 m3 m4 m5 m6 m7 m8 m9 m10, msg = [m0, m1, m2, m3, m4, m5, m6, m7, m8, m9, m10] := by
  match msg, h with
  | [a, b, c, d, e, f, g, h, i, j, k], _ => exact ⟨a, b, c, d, e, f, g, h, i, j, k, rfl⟩
def par2 (q : Int) : Int := Int.fmod q 2
/-- what is sent: its flags, its parities, its message -/
theorem sent_is {msg : List Int} (hm : msg.length = 11) (hmb : ∀ x ∈ msg, 0 ≤ x ∧ x < 2) : Flags (sentP msg) ∧ (∀ k, k < 4 → Int.fmod (sumN (sentP msg) (halfN k) 16) 2 = 0) ∧ Int.fmod (sumN (sentP msg) (fun _ => 1) 16) 2 = 0 ∧ outF (sentP msg) 15 = msg := by
  obtain ⟨m0, m1, m2, m3, m4, m5, m6, m7, m8, m9, m10, rfl⟩ := list11 hm
  have hb : ∀ x ∈ [m0, m1, m2, m3, m4, m5, m6, m7, m8, m9, m10], x = 0 ∨ x = 1 := fun x hx => by have := hmb x hx; omega
  have hbase : Flags [0, 0, 0, m0, 0, m1, m2, m3, 0, m4, m5, m6, m7, m8, m9, m10] := flags_of rfl fun x hx => by
    simp only [List.mem_cons, List.not_mem_nil, or_false] at hx hb
    rcases hx with rfl | rfl | rfl | rfl | rfl | rfl | rfl | rfl | rfl | rfl | rfl | rfl | rfl | rfl | rfl | rfl <;> first | exact .inl rfl | exact hb _ (by simp)
  have hfm : ∀ q : Int, Int.fmod q 2 = q % 2 := fun q => Int.fmod_eq_emod_of_nonneg _ (by decide)
  have hfix : fixP [m0, m1, m2, m3, m4, m5, m6, m7, m8, m9, m10] = [0, Int.fmod (sumN [0, 0, 0, m0, 0, m1, m2, m3, 0, m4, m5, m6, m7, m8, m9, m10] (halfN 0) 16) 2, Int.fmod (sumN [0, 0, 0, m0, 0, m1, m2, m3, 0, m4, m5, m6, m7, m8, m9, m10] (halfN 1) 16) 2, m0, Int.fmod (sumN [0, 0, 0, m0, 0, m1, m2, m3, 0, m4, m5, m6, m7, m8, m9, m10] (halfN 2) 16) 2, m1, m2, m3, Int.fmod (sumN [0, 0, 0, m0, 0, m1, m2, m3, 0, m4, m5, m6, m7, m8, m9, m10] (halfN 3) 16) 2, m4, m5, m6, m7, m8, m9, m10] := by
    unfold fixP
    rw [base_is, odd_is hbase (by decide), par_is]
    obtain ⟨e0, e1, e2, e3⟩ := odd_bits (sumN [0, 0, 0, m0, 0, m1, m2, m3, 0, m4, m5, m6, m7, m8, m9, m10] (halfN 0) 16) (sumN [0, 0, 0, m0, 0, m1, m2, m3, 0, m4, m5, m6, m7, m8, m9, m10] (halfN 1) 16) (sumN [0, 0, 0, m0, 0, m1, m2, m3, 0, m4, m5, m6, m7, m8, m9, m10] (halfN 2) 16) (sumN [0, 0, 0, m0, 0, m1, m2, m3, 0, m4, m5, m6, m7, m8, m9, m10] (halfN 3) 16)
    rw [e0, e1, e2, e3]
  have two : ∀ q : Int, Int.fmod q 2 = 0 ∨ Int.fmod q 2 = 1 := fun q => by have := fmod_bnd (x := q) (n := 2) (by decide); omega
  have q0 : sumN [0, 0, 0, m0, 0, m1, m2, m3, 0, m4, m5, m6, m7, m8, m9, m10] (halfN 0) 16 = 0 * 0 + 0 * 1 + 0 * 2 + m0 * 3 + 0 * 4 + m1 * 5 + m2 * 6 + m3 * 7 + 0 * 8 + m4 * 9 + m5 * 10 + m6 * 11 + m7 * 12 + m8 * 13 + m9 * 14 + m10 * 15 := by
    rw [sumN16]; rfl
  have q1 : sumN [0, 0, 0, m0, 0, m1, m2, m3, 0, m4, m5, m6, m7, m8, m9, m10] (halfN 1) 16 = 0 * 0 + 0 * 0 + 0 * 1 + m0 * 1 + 0 * 2 + m1 * 2 + m2 * 3 + m3 * 3 + 0 * 4 + m4 * 4 + m5 * 5 + m6 * 5 + m7 * 6 + m8 * 6 + m9 * 7 + m10 * 7 := by
    rw [sumN16]; rfl
  have q2 : sumN [0, 0, 0, m0, 0, m1, m2, m3, 0, m4, m5, m6, m7, m8, m9, m10] (halfN 2) 16 = 0 * 0 + 0 * 0 + 0 * 0 + m0 * 0 + 0 * 1 + m1 * 1 + m2 * 1 + m3 * 1 + 0 * 2 + m4 * 2 + m5 * 2 + m6 * 2 + m7 * 3 + m8 * 3 + m9 * 3 + m10 * 3 := by
    rw [sumN16]; rfl
  have q3 : sumN [0, 0, 0, m0, 0, m1, m2, m3, 0, m4, m5, m6, m7, m8, m9, m10] (halfN 3) 16 = 0 * 0 + 0 * 0 + 0 * 0 + m0 * 0 + 0 * 0 + m1 * 0 + m2 * 0 + m3 * 0 + 0 * 1 + m4 * 1 + m5 * 1 + m6 * 1 + m7 * 1 + m8 * 1 + m9 * 1 + m10 * 1 := by
    rw [sumN16]; rfl
  have r0 := two (sumN [0, 0, 0, m0, 0, m1, m2, m3, 0, m4, m5, m6, m7, m8, m9, m10] (halfN 0) 16)
  have r1 := two (sumN [0, 0, 0, m0, 0, m1, m2, m3, 0, m4, m5, m6, m7, m8, m9, m10] (halfN 1) 16)
  have r2 := two (sumN [0, 0, 0, m0, 0, m1, m2, m3, 0, m4, m5, m6, m7, m8, m9, m10] (halfN 2) 16)
  have r3 := two (sumN [0, 0, 0, m0, 0, m1, m2, m3, 0, m4, m5, m6, m7, m8, m9, m10] (halfN 3) 16)
  have o0 := hfm (sumN [0, 0, 0, m0, 0, m1, m2, m3, 0, m4, m5, m6, m7, m8, m9, m10] (halfN 0) 16)
  have o1 := hfm (sumN [0, 0, 0, m0, 0, m1, m2, m3, 0, m4, m5, m6, m7, m8, m9, m10] (halfN 1) 16)
  have o2 := hfm (sumN [0, 0, 0, m0, 0, m1, m2, m3, 0, m4, m5, m6, m7, m8, m9, m10] (halfN 2) 16)
  have o3 := hfm (sumN [0, 0, 0, m0, 0, m1, m2, m3, 0, m4, m5, m6, m7, m8, m9, m10] (halfN 3) 16)
  generalize Int.fmod (sumN [0, 0, 0, m0, 0, m1, m2, m3, 0, m4, m5, m6, m7, m8, m9, m10] (halfN 0) 16) 2 = p0 at *
  generalize Int.fmod (sumN [0, 0, 0, m0, 0, m1, m2, m3, 0, m4, m5, m6, m7, m8, m9, m10] (halfN 1) 16) 2 = p1 at *
  generalize Int.fmod (sumN [0, 0, 0, m0, 0, m1, m2, m3, 0, m4, m5, m6, m7, m8, m9, m10] (halfN 2) 16) 2 = p2 at *
  generalize Int.fmod (sumN [0, 0, 0, m0, 0, m1, m2, m3, 0, m4, m5, m6, m7, m8, m9, m10] (halfN 3) 16) 2 = p3 at *
  rw [q0] at o0
  rw [q1] at o1
  rw [q2] at o2
  rw [q3] at o3
  have hff : Flags [0, p0, p1, m0, p2, m1, m2, m3, p3, m4, m5, m6, m7, m8, m9, m10] := flags_of rfl fun x hx => by
    simp only [List.mem_cons, List.not_mem_nil, or_false] at hx hb
    rcases hx with rfl | rfl | rfl | rfl | rfl | rfl | rfl | rfl | rfl | rfl | rfl | rfl | rfl | rfl | rfl | rfl <;> first | exact .inl rfl | assumption | exact hb _ (by simp)
  obtain ⟨e, he⟩ : ∃ e, e = Int.fmod (sumN [0, p0, p1, m0, p2, m1, m2, m3, p3, m4, m5, m6, m7, m8, m9, m10] (fun _ => 1) 16) 2 := ⟨_, rfl⟩
  have hs : sentP [m0, m1, m2, m3, m4, m5, m6, m7, m8, m9, m10] = [e, p0, p1, m0, p2, m1, m2, m3, p3, m4, m5, m6, m7, m8, m9, m10] := by
    unfold sentP
    rw [hfix, runs_len hff (by decide), ← he]; rfl
  have re : e = 0 ∨ e = 1 := he ▸ two _
  rw [hfm, sumN16] at he
  rw [hs]
  refine ⟨flags_of rfl fun x hx => ?_, fun k hk => ?_, ?_, ?_⟩
  · simp only [List.mem_cons, List.not_mem_nil, or_false] at hx hb
    rcases hx with rfl | rfl | rfl | rfl | rfl | rfl | rfl | rfl | rfl | rfl | rfl | rfl | rfl | rfl | rfl | rfl <;> first | assumption | exact hb _ (by simp)
  · rw [hfm, sumN16]
    have : k = 0 ∨ k = 1 ∨ k = 2 ∨ k = 3 := by omega
    clear hfix hff hs hb hbase hmb hm two hfm q0 q1 q2 q3
    rcases this with rfl | rfl | rfl | rfl
    · show (e * 0 + p0 * 1 + p1 * 2 + m0 * 3 + p2 * 4 + m1 * 5 + m2 * 6 + m3 * 7 + p3 * 8 + m4 * 9 + m5 * 10 + m6 * 11 + m7 * 12 + m8 * 13 + m9 * 14 + m10 * 15) % 2 = 0
      omega
    · show (e * 0 + p0 * 0 + p1 * 1 + m0 * 1 + p2 * 2 + m1 * 2 + m2 * 3 + m3 * 3 + p3 * 4 + m4 * 4 + m5 * 5 + m6 * 5 + m7 * 6 + m8 * 6 + m9 * 7 + m10 * 7) % 2 = 0
      omega
    · show (e * 0 + p0 * 0 + p1 * 0 + m0 * 0 + p2 * 1 + m1 * 1 + m2 * 1 + m3 * 1 + p3 * 2 + m4 * 2 + m5 * 2 + m6 * 2 + m7 * 3 + m8 * 3 + m9 * 3 + m10 * 3) % 2 = 0
      omega
    · show (e * 0 + p0 * 0 + p1 * 0 + m0 * 0 + p2 * 0 + m1 * 0 + m2 * 0 + m3 * 0 + p3 * 1 + m4 * 1 + m5 * 1 + m6 * 1 + m7 * 1 + m8 * 1 + m9 * 1 + m10 * 1) % 2 = 0
      omega
  · rw [hfm, sumN16]
    clear hfix hff hs hb hbase hmb hm two hfm q0 q1 q2 q3
    omega
  · with_unfolding_all rfl
/-! nt and the odd sizes tell all -/
theorem par_one {q s x : Int} (hq : Int.fmod q 2 = 0) (hs : s = 1 ∨ s = -1) : Int.fmod (q + s * x) 2 = Int.fmod x 2 := by
  rw [Int.fmod_eq_emod_of_nonneg _ (by decide)] at *
  rcases hs with rfl | rfl
  · rw [Int.one_mul]; rw [Int.fmod_eq_emod_of_nonneg _ (by decide)]; omega
  · rw [Int.neg_mul, Int.one_mul]; rw [Int.fmod_eq_emod_of_nonneg _ (by decide)]; omega
theorem par_two {q s x s' y : Int} (hq : Int.fmod q 2 = 0) (hs : s = 1 ∨ s = -1) (hs' : s' = 1 ∨ s' = -1) : Int.fmod (q + s * x + s' * y) 2 = Int.fmod (x + y) 2 := by
  have e : ∀ z : Int, Int.fmod z 2 = z % 2 := fun z => Int.fmod_eq_emod_of_nonneg _ (by decide)
  rw [e] at *
  rw [e]
  rcases hs with rfl | rfl <;> rcases hs' with rfl | rfl <;> simp only [Int.one_mul, Int.neg_mul] <;> omega
theorem odd_par {q0 q1 q2 q3 x0 x1 x2 x3 : Int} (h0 : Int.fmod q0 2 = Int.fmod x0 2) (h1 : Int.fmod q1 2 = Int.fmod x1 2) (h2 : Int.fmod q2 2 = Int.fmod x2 2) (h3 : Int.fmod q3 2 = Int.fmod x3 2) : oddOf q0 q1 q2 q3 = oddOf x0 x1 x2 x3 := by
  unfold oddOf; rw [h0, h1, h2, h3]
theorem odd_all1 : ((List.range 16).all fun (a : Nat) => oddOf (halfN 0 a) (halfN 1 a) (halfN 2 a) (halfN 3 a) == (a : Int)) = true := by decide +kernel
theorem odd_all2 : ((List.range 16).all fun (a : Nat) => (List.range 16).all fun (c : Nat) => oddOf (halfN 0 a + halfN 0 c) (halfN 1 a + halfN 1 c) (halfN 2 a + halfN 2 c) (halfN 3 a + halfN 3 c) == Builtin.bitXor (a : Int) (c : Int)) = true := by decide +kernel
theorem odd_one {a : Nat} (ha : a < 16) : oddOf (halfN 0 a) (halfN 1 a) (halfN 2 a) (halfN 3 a) = a := eq_of_beq (List.all_eq_true.mp odd_all1 a (by simpa using ha))
theorem odd_two {a c : Nat} (ha : a < 16) (hc : c < 16) : oddOf (halfN 0 a + halfN 0 c) (halfN 1 a + halfN 1 c) (halfN 2 a + halfN 2 c) (halfN 3 a + halfN 3 c) = Builtin.bitXor (a : Int) c := eq_of_beq (List.all_eq_true.mp (List.all_eq_true.mp odd_all2 a (by simpa using ha)) c (by simpa using hc))
theorem sgn_one {fl : List Int} (hf : Flags fl) (a : Nat) : sgn fl a = 1 ∨ sgn fl a = -1 := by
  rcases sgn_cases hf a with h | h
  · exact .inl h.2
  · exact .inr h.2
theorem syn_gen {msg sl : List Int} {r fi se b : Int} (hm : msg.length = 11) (hmb : ∀ x ∈ msg, 0 ≤ x ∧ x < 2) (hb : 0 ≤ b ∧ b < 16) (hS : Sl r fi se sl) : SynF msg sl r fi se b := by
  obtain ⟨hF, hk, hn, -⟩ := sent_is hm hmb
  obtain ⟨hfi, hse, hne, hr⟩ := hS
  obtain ⟨a, rfl⟩ : ∃ a : Nat, fi = a := ⟨fi.toNat, by omega⟩
  obtain ⟨c, rfl⟩ : ∃ a : Nat, se = a := ⟨se.toNat, by omega⟩
  have ha : a < 16 := by omega
  have hc : c < 16 := by omega
  have hac : a ≠ c := fun h => hne (by rw [h])
  unfold SynF
  rw [runs_len (flags_flip hF) hb, ← runs_len (flags_flip hF) hb, odd_is (flags_flip hF) hb, runs_len (flags_flip hF) hb]
  have k0 := hk 0 (by decide)
  have k1 := hk 1 (by decide)
  have k2 := hk 2 (by decide)
  have k3 := hk 3 (by decide)
  rcases hr with ⟨rfl, rfl⟩ | ⟨rfl, rfl⟩ | ⟨rfl, rfl⟩
  · refine ⟨fun _ => ?_, fun h => absurd h (by decide), fun h => absurd h (by decide)⟩
    rw [flip0, flip0, flip0, flip0, flip0, hn, odd_par (x0 := 0) (x1 := 0) (x2 := 0) (x3 := 0) k0 k1 k2 k3]; rfl
  · refine ⟨fun h => absurd h (by decide), fun _ => ?_, fun h => absurd h (by decide)⟩
    rw [flip1 ha, flip1 ha, flip1 ha, flip1 ha, flip1 ha, par_one hn (sgn_one hF a), odd_par (par_one k0 (sgn_one hF a)) (par_one k1 (sgn_one hF a)) (par_one k2 (sgn_one hF a)) (par_one k3 (sgn_one hF a)), odd_one ha]; rfl
  · refine ⟨fun h => absurd h (by decide), fun h => absurd h (by decide), fun _ => ?_⟩
    rw [flip2 ha hc hac, flip2 ha hc hac, flip2 ha hc hac, flip2 ha hc hac, flip2 ha hc hac, par_two hn (sgn_one hF a) (sgn_one hF c), odd_par (par_two k0 (sgn_one hF a) (sgn_one hF c)) (par_two k1 (sgn_one hF a) (sgn_one hF c)) (par_two k2 (sgn_one hF a) (sgn_one hF c)) (par_two k3 (sgn_one hF a) (sgn_one hF c)), odd_two ha hc]; rfl
/-! mended -/
theorem ext16 {A B : List Int} (hA : A.length = 16) (hB : B.length = 16) (h : ∀ p, p < 16 → A.getD p 0 = B.getD p 0) : A = B := by
  refine List.ext_getElem (by rw [hA, hB]) fun p h1 h2 => ?_
  have := h p (by omega)
  rw [List.getD_eq_getElem?_getD, List.getD_eq_getElem?_getD, List.getElem?_eq_getElem h1, List.getElem?_eq_getElem h2] at this
  exact this
theorem flipF_not {fl sl : List Int} {p : Nat} (h : ∀ x ∈ sl, x ≠ (p : Int)) : flipF fl sl p = fl.getD p 0 := by
  unfold flipF
  rw [if_neg]
  intro hh
  obtain ⟨x, hx, he⟩ := List.any_eq_true.mp hh
  exact h x hx (eq_of_beq he)
theorem flipF_in {fl sl : List Int} {p : Nat} (h : (p : Int) ∈ sl) : flipF fl sl p = 1 - fl.getD p 0 := by
  unfold flipF
  rw [if_pos (List.any_eq_true.mpr ⟨_, h, by simp⟩)]
theorem sum_ind {fl : List Int} {a : Nat} (ha : a < 16) : sumN fl (fun p => if p = a then 1 else 0) 16 = fl.getD a 0 := by
  have e : (fun p : Nat => fl.getD p 0 * (if p = a then 1 else 0)) = fun p => if p = a then fl.getD p 0 else 0 := funext fun p => by split <;> simp
  unfold sumN
  rw [e, sum_one a 16 fun p => fl.getD p 0, if_pos ha]
theorem mend_is {msg sl mm : List Int} {r fi se b : Int} (hm : msg.length = 11) (hmb : ∀ x ∈ msg, 0 ≤ x ∧ x < 2) (hb : 0 ≤ b ∧ b < 16) (hS : Sl r fi se sl)
    (hM : MendI ((runsO (flipP (sentP msg) sl 16) b).length : Int) (oddP (countsP (runsO (flipP (sentP msg) sl 16) b)) ((runsO (flipP (sentP msg) sl 16) b).length : Int) [1, 2, 4, 8]) mm) :
    (r < 2 → flipP (flipP (sentP msg) sl 16) mm 16 = sentP msg) ∧ (r = 2 → mm = []) := by
  have hsyn := syn_gen hm hmb hb hS
  obtain ⟨hF, -⟩ := sent_is hm hmb
  unfold SynF at hsyn
  unfold MendI at hM
  obtain ⟨hfi, hse, hne, hr⟩ := hS
  rcases hr with ⟨rfl, rfl⟩ | ⟨rfl, rfl⟩ | ⟨rfl, rfl⟩
  · refine ⟨fun _ => ?_, fun h => absurd h (by decide)⟩
    have h := hsyn.1 rfl
    injection h with h1 h2
    rw [h1, if_neg (by decide)] at hM
    subst hM
    refine ext16 (flipP_len _ _ _) hF.1 fun p hp => ?_
    rw [getD_flip hp, flipF_not (by simp), getD_flip hp, flipF_not (by simp)]
  · refine ⟨fun _ => ?_, fun h => absurd h (by decide)⟩
    have h := hsyn.2.1 rfl
    injection h with h1 h2
    injection h2 with h2 _
    rw [h1, h2, if_pos rfl] at hM
    subst hM
    refine ext16 (flipP_len _ _ _) hF.1 fun p hp => ?_
    rw [getD_flip hp]
    by_cases e : fi = (p : Int)
    · rw [flipF_in (by rw [e]; simp), getD_flip hp, flipF_in (by rw [e]; simp)]; omega
    · rw [flipF_not (by simpa using e), getD_flip hp, flipF_not (by simpa using e)]
  · refine ⟨fun h => absurd h (by decide), fun _ => ?_⟩
    have h := hsyn.2.2 rfl
    injection h with h1 h2
    rw [h1, if_neg (by decide)] at hM
    exact hM
theorem eq_gen {msg sl mm : List Int} {r fi se b : Int} {d1 : Decidable (countsP (runsO (sentP msg) 0) = countsP (runsO (flipP (flipP (sentP msg) sl 16) mm 16) b))} {d2 : Decidable (r < 2)} (hm : msg.length = 11) (hmb : ∀ x ∈ msg, 0 ≤ x ∧ x < 2) (hb : 0 ≤ b ∧ b < 16) (hS : Sl r fi se sl)
    (hM : MendI ((runsO (flipP (sentP msg) sl 16) b).length : Int) (oddP (countsP (runsO (flipP (sentP msg) sl 16) b)) ((runsO (flipP (sentP msg) sl 16) b).length : Int) [1, 2, 4, 8]) mm) :
    @decide (countsP (runsO (sentP msg) 0) = countsP (runsO (flipP (flipP (sentP msg) sl 16) mm 16) b)) d1 = @decide (r < 2) d2 := by
  obtain ⟨h1, h2⟩ := mend_is hm hmb hb hS hM
  obtain ⟨hF, -⟩ := sent_is hm hmb
  have hrr : r = 0 ∨ r = 1 ∨ r = 2 := by
    obtain ⟨-, -, -, h⟩ := hS
    rcases h with ⟨h, -⟩ | ⟨h, -⟩ | ⟨h, -⟩
    · exact .inl h
    · exact .inr (.inl h)
    · exact .inr (.inr h)
  by_cases hr : r < 2
  · rw [decide_eq_true hr]
    refine decide_eq_true ?_
    rw [h1 hr]
    exact counts_same (by decide) hb
  · rw [decide_eq_false hr]
    refine decide_eq_false fun e => ?_
    have hr2 : r = 2 := by omega
    have hmm := h2 hr2
    subst hmm
    obtain ⟨hfi, hse, hne, hr'⟩ := hS
    have hsl : sl = [fi, se] := by
      rcases hr' with ⟨h, -⟩ | ⟨h, -⟩ | ⟨-, h⟩
      · omega
      · omega
      · exact h
    subst hsl
    obtain ⟨a, rfl⟩ : ∃ a : Nat, fi = a := ⟨fi.toNat, by omega⟩
    have ha : a < 16 := by omega
    have hs := counts_sum hF (flags_flip (flags_flip hF)) (by decide) hb e fun p => if p = a then 1 else 0
    rw [sum_ind ha, sum_ind ha, getD_flip ha, flipF_not (by simp), getD_flip ha, flipF_in (by simp)] at hs
    omega
theorem out_gen {msg sl mm : List Int} {r fi se b : Int} (hm : msg.length = 11) (hmb : ∀ x ∈ msg, 0 ≤ x ∧ x < 2) (hb : 0 ≤ b ∧ b < 16) (hS : Sl r fi se sl) (hr : r ≠ 2)
    (hM : MendI ((runsO (flipP (sentP msg) sl 16) b).length : Int) (oddP (countsP (runsO (flipP (sentP msg) sl 16) b)) ((runsO (flipP (sentP msg) sl 16) b).length : Int) [1, 2, 4, 8]) mm) :
    outF (flipP (flipP (sentP msg) sl 16) mm 16) 15 = msg := by
  have hr2 : r < 2 := by
    obtain ⟨-, -, -, h⟩ := hS
    rcases h with ⟨h, -⟩ | ⟨h, -⟩ | ⟨h, -⟩ <;> omega
  rw [(mend_is hm hmb hb hS hM).1 hr2]
  exact (sent_is hm hmb).2.2.2
/-! less -/
theorem mem_runs {fl : List Int} {b : Int} {p : Nat} (hb : 0 ≤ b ∧ b < 16) (hp : p < 16) (h : fl.getD p 0 = 1) : (p : Int) ∈ runsO fl b := by
  unfold runsO setP
  refine List.mem_filter.mpr ⟨(rot_perm hb).mem_iff.mpr (List.mem_map.mpr ⟨p, by simpa using hp, rfl⟩), ?_⟩
  simpa using h
theorem len_runs {fl : List Int} {b : Int} {p : Nat} (hb : 0 ≤ b ∧ b < 16) (hp : p < 16) (h : fl.getD p 0 = 1) : p + 1 ≤ (countsP (runsO fl b)).length := by
  rw [countsP_length runs_pos]
  exact ((foldl_le (runsO fl b) 0 _).mp (Nat.le_refl _)).2 _ (mem_runs hb hp h)
theorem less_dn {A B : List Int} {b b' : Int} (hA : Flags A) (hB : Flags B) (hb : 0 ≤ b ∧ b < 16) (hb' : 0 ≤ b' ∧ b' < 16) (h : sumN B (fun p => (p : Int) + 1) 16 ≤ sumN A (fun p => (p : Int) + 1) 16) : lessF A B b b' = false := by
  unfold lessF lessP
  rw [runs_lenP hA hb, runs_lenP hB hb', if_pos h]
theorem less_up {A B : List Int} {b b' : Int} (hA : Flags A) (hB : Flags B) (hb : 0 ≤ b ∧ b < 16) (hb' : 0 ≤ b' ∧ b' < 16) (h : sumN A (fun p => (p : Int) + 1) 16 < sumN B (fun p => (p : Int) + 1) 16) (h1 : sumN A (fun _ => 1) 16 ≤ sumN B (fun _ => 1) 16)
    (h2 : ∀ ts : Int, 1 ≤ ts → sumN A (fun p => Int.fdiv (p : Int) ts) 16 + sumN A (fun _ => 1) 16 < sumN B (fun p => Int.fdiv (p : Int) ts) 16 + sumN B (fun _ => 1) 16) : lessF A B b b' = true := by
  unfold lessF lessP
  rw [runs_lenP hA hb, runs_lenP hB hb', if_neg (by omega)]
  split
  · rw [runs_len hA hb, runs_len hB hb']
    exact decide_eq_true h1
  · rw [List.all_eq_true]
    intro ts hts
    have hp : 1 ≤ ts := by
      unfold rangeKs at hts
      obtain ⟨k, _, rfl⟩ := List.mem_map.mp hts
      omega
    rw [runs_il hA hb hp, runs_il hB hb' hp]
    exact decide_eq_true (Int.mul_lt_mul_of_pos_left (h2 ts hp) (by omega))
theorem fdiv_small {p q : Nat} (h : q ≤ p) : Int.fdiv (q : Int) ((p : Int) + 1) = 0 := by
  rw [Int.fdiv_eq_ediv_of_nonneg _ (by omega)]
  exact Int.ediv_eq_zero_of_lt (by omega) (by omega)
theorem less_mix {A B : List Int} {b b' : Int} {p q : Nat} (hA : Flags A) (hB : Flags B) (hb : 0 ≤ b ∧ b < 16) (hb' : 0 ≤ b' ∧ b' < 16) (hp : p < 16) (hpB : B.getD p 0 = 1) (hne : p ≠ q) (h : ∀ f : Nat → Int, sumN B f 16 = sumN A f 16 + f p - f q) : lessF A B b b' = false := by
  have hn := h fun p => (p : Int) + 1
  (try dsimp only at hn)
  by_cases hpq : p < q
  · exact less_dn hA hB hb hb' (by omega)
  · have hl := len_runs hb' hp hpB
    unfold lessF lessP
    split
    · rfl
    · rw [if_neg (by omega), List.all_eq_false]
      refine ⟨(p : Int) + 1, ?_, ?_⟩
      · unfold rangeKs
        refine List.mem_map.mpr ⟨p - 1, ?_, by omega⟩
        rw [List.mem_range]
        have hd : (p : Int) ≤ longP (countsP (runsO B b')) := by unfold longP; split <;> omega
        split <;> omega
      · rw [runs_il hA hb (by omega), runs_il hB hb' (by omega), h, h (fun _ => 1), fdiv_small (Nat.le_refl p), fdiv_small (by omega : q ≤ p)]
        simp
theorem fdiv_pos {p : Nat} {ts : Int} (h : 1 ≤ ts) : 0 ≤ Int.fdiv (p : Int) ts := by
  rw [Int.fdiv_eq_ediv_of_nonneg _ (by omega)]
  exact Int.ediv_nonneg (by omega) (by omega)
theorem less_up1 {A B : List Int} {b b' : Int} {p : Nat} (hA : Flags A) (hB : Flags B) (hb : 0 ≤ b ∧ b < 16) (hb' : 0 ≤ b' ∧ b' < 16) (h : ∀ f : Nat → Int, sumN B f 16 = sumN A f 16 + f p) : lessF A B b b' = true := by
  have hn := h fun p => (p : Int) + 1
  have h1 := h fun _ => 1
  refine less_up hA hB hb hb' (by (try dsimp only at hn); omega) (by omega) fun ts hts => ?_
  have h2 := h fun p => Int.fdiv (p : Int) ts
  have := fdiv_pos (p := p) hts
  (try dsimp only at h2)
  omega
theorem less_up2 {A B : List Int} {b b' : Int} {p q : Nat} (hA : Flags A) (hB : Flags B) (hb : 0 ≤ b ∧ b < 16) (hb' : 0 ≤ b' ∧ b' < 16) (h : ∀ f : Nat → Int, sumN B f 16 = sumN A f 16 + f p + f q) : lessF A B b b' = true := by
  have hn := h fun p => (p : Int) + 1
  have h1 := h fun _ => 1
  refine less_up hA hB hb hb' (by (try dsimp only at hn); omega) (by omega) fun ts hts => ?_
  have h2 := h fun p => Int.fdiv (p : Int) ts
  have := fdiv_pos (p := p) hts
  have := fdiv_pos (p := q) hts
  (try dsimp only at h2)
  omega
theorem set1 {v : Int} {fl : List Int} {a : Nat} : setV v fl [(a : Int)] = if fl.getD a 0 = v then [(a : Int)] else [] := by
  unfold setV
  by_cases h : fl.getD a 0 = v
  · rw [if_pos h]; simp only [List.filter_cons, List.filter_nil, Int.toNat_natCast, h, decide_true, if_true]
  · rw [if_neg h]; simp only [List.filter_cons, List.filter_nil, Int.toNat_natCast, h, decide_false, Bool.false_eq_true, if_false]
theorem set2 {v : Int} {fl : List Int} {a c : Nat} : decide (setV v fl [(a : Int), (c : Int)] = []) = (decide (fl.getD a 0 ≠ v) && decide (fl.getD c 0 ≠ v)) := by
  unfold setV
  by_cases h : fl.getD a 0 = v <;> by_cases h2 : fl.getD c 0 = v <;> simp only [List.filter_cons, List.filter_nil, Int.toNat_natCast, h, h2, decide_true, decide_false, if_true, Bool.false_eq_true, if_false, ne_eq, not_true_eq_false, not_false_eq_true, Bool.and_self, Bool.and_true, Bool.and_false] <;> rfl
theorem less_gen {msg sl : List Int} {r fi se b : Int} (hm : msg.length = 11) (hmb : ∀ x ∈ msg, 0 ≤ x ∧ x < 2) (hb : 0 ≤ b ∧ b < 16) (hS : Sl r fi se sl) :
    lessF (sentP msg) (flipP (sentP msg) sl 16) 0 b = (!decide (sl = []) && decide (setV 1 (sentP msg) sl = [])) ∧ lessF (flipP (sentP msg) sl 16) (sentP msg) b 0 = (!decide (sl = []) && decide (setV 0 (sentP msg) sl = [])) := by
  obtain ⟨hF, -⟩ := sent_is hm hmb
  generalize sentP msg = F at *
  obtain ⟨hfi, hse, hne, hr⟩ := hS
  obtain ⟨a, rfl⟩ : ∃ a : Nat, fi = a := ⟨fi.toNat, by omega⟩
  obtain ⟨c, rfl⟩ : ∃ a : Nat, se = a := ⟨se.toNat, by omega⟩
  have ha : a < 16 := by omega
  have hc : c < 16 := by omega
  have hac : a ≠ c := fun h => hne (by rw [h])
  have h0 : (0 : Int) ≤ 0 ∧ (0 : Int) < 16 := by decide
  have hC := flags_flip (sl := sl) hF
  rcases hr with ⟨rfl, rfl⟩ | ⟨rfl, rfl⟩ | ⟨rfl, rfl⟩
  · exact ⟨by rw [less_dn hF hC h0 hb (by rw [flip0]; exact Int.le_refl _)]; simp, by rw [less_dn hC hF hb h0 (by rw [flip0]; exact Int.le_refl _)]; simp⟩
  · have hs : ∀ f : Nat → Int, sumN (flipP F [(a : Int)] 16) f 16 = sumN F f 16 + sgn F a * f a := fun f => flip1 ha
    rw [set1, set1]
    rcases sgn_cases hF a with ⟨e, s⟩ | ⟨e, s⟩
    · have hu : ∀ f : Nat → Int, sumN (flipP F [(a : Int)] 16) f 16 = sumN F f 16 + f a := fun f => by rw [hs, s, Int.one_mul]
      refine ⟨by rw [less_up1 hF hC h0 hb hu, e]; simp, by rw [less_dn hC hF hb h0 (by rw [hu]; omega), e]; simp⟩
    · have hu : ∀ f : Nat → Int, sumN F f 16 = sumN (flipP F [(a : Int)] 16) f 16 + f a := fun f => by rw [hs, s]; omega
      refine ⟨by rw [less_dn hF hC h0 hb (by rw [hu fun p => (p : Int) + 1]; omega), e]; simp, by rw [less_up1 hC hF hb h0 hu, e]; simp⟩
  · have hs : ∀ f : Nat → Int, sumN (flipP F [(a : Int), (c : Int)] 16) f 16 = sumN F f 16 + sgn F a * f a + sgn F c * f c := fun f => flip2 ha hc hac
    have ga : (flipP F [(a : Int), (c : Int)] 16).getD a 0 = 1 - F.getD a 0 := by rw [getD_flip ha, flipF_in (by simp)]
    have gc : (flipP F [(a : Int), (c : Int)] 16).getD c 0 = 1 - F.getD c 0 := by rw [getD_flip hc, flipF_in (by simp)]
    rw [set2, set2]
    rcases sgn_cases hF a with ⟨e, s⟩ | ⟨e, s⟩ <;> rcases sgn_cases hF c with ⟨e', s'⟩ | ⟨e', s'⟩
    · have hu : ∀ f : Nat → Int, sumN (flipP F [(a : Int), (c : Int)] 16) f 16 = sumN F f 16 + f a + f c := fun f => by rw [hs, s, s']; omega
      refine ⟨by rw [less_up2 hF hC h0 hb hu, e, e']; simp, by rw [less_dn hC hF hb h0 (by rw [hu]; omega), e, e']; simp⟩
    · have hu : ∀ f : Nat → Int, sumN (flipP F [(a : Int), (c : Int)] 16) f 16 = sumN F f 16 + f a - f c := fun f => by rw [hs, s, s']; omega
      have hv : ∀ f : Nat → Int, sumN F f 16 = sumN (flipP F [(a : Int), (c : Int)] 16) f 16 + f c - f a := fun f => by rw [hu]; omega
      refine ⟨by rw [less_mix hF hC h0 hb ha (by rw [ga, e]; rfl) hac hu, e, e']; simp, by rw [less_mix hC hF hb h0 hc e' (Ne.symm hac) hv, e, e']; simp⟩
    · have hu : ∀ f : Nat → Int, sumN (flipP F [(a : Int), (c : Int)] 16) f 16 = sumN F f 16 + f c - f a := fun f => by rw [hs, s, s']; omega
      have hv : ∀ f : Nat → Int, sumN F f 16 = sumN (flipP F [(a : Int), (c : Int)] 16) f 16 + f a - f c := fun f => by rw [hu]; omega
      refine ⟨by rw [less_mix hF hC h0 hb hc (by rw [gc, e']; rfl) (Ne.symm hac) hu, e, e']; simp, by rw [less_mix hC hF hb h0 ha e hac hv, e, e']; simp⟩
    · have hu : ∀ f : Nat → Int, sumN F f 16 = sumN (flipP F [(a : Int), (c : Int)] 16) f 16 + f a + f c := fun f => by rw [hs, s, s']; omega
      refine ⟨by rw [less_dn hF hC h0 hb (by rw [hu fun p => (p : Int) + 1]; omega), e, e']; simp, by rw [less_up2 hC hF hb h0 hu, e, e']; simp⟩
theorem syn_fact {msg sl : List Int} {tot fi se : Int} (hm : msg.length = 11) (hmb : ∀ x ∈ msg, 0 ≤ x ∧ x < 2) (hS : Sl (Int.fmod tot 3) fi se sl) : SynF msg sl (Int.fmod tot 3) fi se (Int.fmod (Int.fdiv tot 720) 16) :=
  syn_gen hm hmb (fmod_bnd (by decide)) hS
theorem less_fact {msg sl : List Int} {tot fi se : Int} (hm : msg.length = 11) (hmb : ∀ x ∈ msg, 0 ≤ x ∧ x < 2) (hS : Sl (Int.fmod tot 3) fi se sl) :
    lessF (sentP msg) (flipP (sentP msg) sl 16) 0 (Int.fmod (Int.fdiv tot 720) 16) = (!decide (sl = []) && decide (setV 1 (sentP msg) sl = [])) ∧ lessF (flipP (sentP msg) sl 16) (sentP msg) (Int.fmod (Int.fdiv tot 720) 16) 0 = (!decide (sl = []) && decide (setV 0 (sentP msg) sl = [])) :=
  less_gen hm hmb (fmod_bnd (by decide)) hS
theorem less_a {b : Bool} {v : Int} {sl fl : List Int} {d : Decidable (sl = [])} {P : Bool} (h : b = (!decide (sl = []) && P)) (e : @decide (sl = []) d = true) : b = false := by
  have : sl = [] := of_decide_eq_true e
  subst this
  rw [h]; simp
theorem less_b {b : Bool} {sl : List Int} {d : Decidable (sl = [])} {P : Bool} (h : b = (!decide (sl = []) && P)) (e : @decide (sl = []) d = false) : b = P := by
  have : ¬ sl = [] := of_decide_eq_false e
  rw [h, decide_eq_false this]; rfl
end
section
variable {w : World} {mean : ExcName → Option Value} {mg mb : Str → Option Value} {dp un : Nat} {gd : Option (List Code)} {cn : Str} {cs : Scope} {a : Addr} {ccd : Value} {cl : List (Str × Addr)} {outer : List Env} {A₀ : Around} {base h₀ : Heap} {L : Addr} {m : Str → Option Value} {s : Shared} {Q E : Value → Shared → Prop} {news : List (Addr × Obj)}
def MidN (h₀ : Heap) (L : Addr) (m : Str → Option Value) (news : List (Addr × Obj)) (s : Shared) (fl : Flow) (s' : Shared) : Prop :=
  fl = .next ∧ ∃ h' tk', s' = { s with heap := h', toks := tk' } ∧ Fr h₀ L h' m ∧ News h₀ L h' news
theorem MidN.mk {h' : Heap} {tk' : Nat} {all : List (Addr × Obj)} (F : Fr h₀ L h' m) (N : News h₀ L h' all) (hs : ∀ p ∈ news, p ∈ all) : MidN h₀ L m news s .next { s with heap := h', toks := tk' } :=
  ⟨rfl, h', tk', rfl, F, fun p hp => N p (hs p hp)⟩
theorem next_mid {prog : Program} {A : Around} {t : Sem Flow} {QF : Flow → Shared → Prop} (F : Fr h₀ L s.heap m) (N : News h₀ L s.heap news)
    (main : wpAny (model prog w) A t (MidN h₀ L m news s) E s)
    (rest : ∀ h' tk', Fr h₀ L h' m → News h₀ L h' news → QF .next { s with heap := h', toks := tk' }) : wpAny (model prog w) A t QF E s := by
  refine wpAny_mono main (fun fl s' h => ?_) fun _ _ h => h
  obtain ⟨rfl, h', tk', rfl, F', N'⟩ := h
  exact rest h' tk' F' N'
def MidE (h₀ : Heap) (L : Addr) (m : Str → Option Value) (news : List (Addr × Obj)) (P : List Int → Prop) (s : Shared) (v : Value) (s' : Shared) : Prop :=
  ∃ h' tk' D us k mm, v = .ref D ∧ s' = { s with heap := h', toks := tk' } ∧ Fr h₀ L h' m ∧ News h₀ L h' ((D, W.listOf us.toArray k) :: news) ∧ IntsAre us mm ∧ P mm
theorem MidE.mk {P : List Int → Prop} {h' : Heap} {tk' k : Nat} {D : Addr} {us : List Value} {mm : List Int} {all : List (Addr × Obj)} (F : Fr h₀ L h' m) (N : News h₀ L h' all) (hs : ∀ p ∈ (D, W.listOf us.toArray k) :: news, p ∈ all) (hI : IntsAre us mm) (hP : P mm) : MidE h₀ L m news P s (.ref D) { s with heap := h', toks := tk' } :=
  ⟨h', tk', D, us, k, mm, rfl, rfl, F, fun p hp => N p (hs p hp), hI, hP⟩
theorem expr_mid {prog : Program} {A : Around} {t : Sem Value} {QV : Value → Shared → Prop} (P : List Int → Prop) (F : Fr h₀ L s.heap m) (N : News h₀ L s.heap news)
    (main : wpAny (model prog w) A t (MidE h₀ L m news P s) E s)
    (rest : ∀ h' tk' D us k mm, Fr h₀ L h' m → News h₀ L h' ((D, W.listOf us.toArray k) :: news) → IntsAre us mm → P mm → QV (.ref D) { s with heap := h', toks := tk' }) : wpAny (model prog w) A t QV E s := by
  refine wpAny_mono main (fun v s' h => ?_) fun _ _ h => h
  obtain ⟨h', tk', D, us, k, mm, rfl, rfl, F', N', hI, hP⟩ := h
  exact rest h' tk' D us k mm F' N' hI hP
theorem sizes_eq : List.foldl (fun l' k' => if isb k' = true then l' ++ [k'] else if isb k' = false then l' else l') [] (rangeKs 0 (16 - 0 : Int).toNat) = [1, 2, 4, 8] := by decide +kernel
@[irreducible] def MsgI (i : Nat) (ys : List Value) : Prop := ∃ xs, xs.length = i ∧ IntsAre ys xs ∧ ∀ x ∈ xs, 0 ≤ x ∧ x < 2
theorem MsgI.nil : MsgI 0 [] := by unfold MsgI; exact ⟨[], rfl, .nil, by simp⟩
theorem MsgI.one {i : Nat} {ys : List Value} {v : Int} {t : Tok} (h : MsgI i ys) (hv : 0 ≤ v ∧ v < 2) : MsgI (i + 1) (ys ++ [.int v t]) := by
  unfold MsgI at *
  obtain ⟨xs, h1, h2, h3⟩ := h
  refine ⟨xs ++ [v], by simp [h1], h2.append (.cons _ _ .nil), fun x hx => ?_⟩
  rcases List.mem_append.mp hx with hx | hx
  · exact h3 x hx
  · rw [List.mem_singleton.mp hx]
    exact hv
theorem MsgI.out {i : Nat} {ys : List Value} (h : MsgI i ys) : ∃ xs, xs.length = i ∧ IntsAre ys xs ∧ ∀ x ∈ xs, 0 ≤ x ∧ x < 2 := by unfold MsgI at h; exact h
@[irreducible] def HoldE : Prop := True
theorem HoldE.mk : HoldE := by unfold HoldE; trivial
@[irreducible] def GoE : Prop := True
theorem GoE.mk : GoE := by unfold GoE; trivial
theorem sentP_len (msg : List Int) : (sentP msg).length = 16 := by
  unfold sentP fixP
  rw [List.length_append, List.length_drop, parP_len]; rfl
theorem mend_mid {prog : Program} {A : Around} {t : Sem Value} {QV : Value → Shared → Prop} {tot fi se : Int} {sl msg : List Int} (_ : Sl (Int.fmod tot 3) fi se sl) (_ : msg.length = 11) (F : Fr h₀ L s.heap m) (N : News h₀ L s.heap news)
    (main : wpAny (model prog w) A t (MidE h₀ L m news (MendI ((runsO (flipP (sentP msg) sl 16) (Int.fmod (Int.fdiv tot 720) 16)).length : Int) (oddP (countsP (runsO (flipP (sentP msg) sl 16) (Int.fmod (Int.fdiv tot 720) 16))) ((runsO (flipP (sentP msg) sl 16) (Int.fmod (Int.fdiv tot 720) 16)).length : Int) [1, 2, 4, 8])) s) E s)
    (rest : ∀ h' tk' D us k mm, Fr h₀ L h' m → News h₀ L h' ((D, W.listOf us.toArray k) :: news) → IntsAre us mm → MendI ((runsO (flipP (sentP msg) sl 16) (Int.fmod (Int.fdiv tot 720) 16)).length : Int) (oddP (countsP (runsO (flipP (sentP msg) sl 16) (Int.fmod (Int.fdiv tot 720) 16))) ((runsO (flipP (sentP msg) sl 16) (Int.fmod (Int.fdiv tot 720) 16)).length : Int) [1, 2, 4, 8]) mm → QV (.ref D) { s with heap := h', toks := tk' }) : wpAny (model prog w) A t QV E s :=
  expr_mid _ F N main rest
end
section
variable {w : World} {mean : ExcName → Option Value} {mg mb : Str → Option Value} {dp un : Nat} {gd : Option (List Code)} {cn : Str} {cs : Scope} {a : Addr} {ccd : Value} {cl : List (Str × Addr)} {outer : List Env} {A₀ : Around} {base h₀ : Heap} {L : Addr} {m : Str → Option Value} {s : Shared} {Q E : Value → Shared → Prop} {news : List (Addr × Obj)}
end
section
local macro_rules | `(tactic| walk_at "FinA") => `(tactic| ((unfold LCg.FinA); intro D' h' tk' F' N' o1'; (try simp only [List.nil_append, List.cons_append] at N'); (try rw [sizes_eq] at *); (try dsimp only)))
local macro_rules | `(tactic| walk_at "exec Assign cons ListComp") => `(tactic| ((with_reducible show wpAny _ _ (exec (Stmt.Assign _ (PySem.Expr.ListComp (PySem.Expr.BinOp _ _ _ _) _ _ _) _) _) _ _ _); refine Hold.stop ?_))
local macro_rules | `(tactic| walk_at "exec Assign cons Subscript") => `(tactic| refine Hold.stop ?_)
local macro_rules | `(tactic| walk_at "CompEnd") => `(tactic| ((first | (have : HoldE := by assumption) | fail "no hold"); refine Hold.stop ?_))
local macro_rules | `(tactic| walk_at "exec If") => `(tactic| refine wpAny_If ?_)
local macro_rules | `(tactic| walk_at "exec If") => `(tactic| ((fail_if_success (have : GoE := by assumption)); refine Hold.stop ?_))
local macro_rules | `(tactic| walk_at "eval IfExp") => `(tactic| ((fail_if_success (have : GoE := by assumption)); refine Hold.stop ?_))
local macro_rules | `(tactic| walk_at "subscriptTail List cons Slice ref ref") => `(tactic| (k_here; (with_reducible rename News _ _ _ _ => gpN9); (try simp only [List.push_toArray, List.nil_append, List.cons_append] at gpN9); k_dflt (refine kba_turn (value' := PySem.Expr.Name (PySem.Str.ofString "_") ⟨0, 0, 0, 0⟩) (fun _ => rfl) ?_); k_dflt (refine' kmk_slice_ints ?F ?N ?l ?p ?q ?i ?m ?c ?_ ?s ?t ?z; (case F => k_asm); (case N => k_asm); (case l => kmk_list); (case p => kmk_part); (case q => kmk_part); (case i => l_ints); (case m => kmk_nums); (case c => kmk_len); (case s => with_unfolding_all rfl); (case t => kmk_pure); (case z => kmk_size)); intro D' ws' h' F' N' l1 hI' hC' hL'; (try k_lt l1)))
local macro_rules | `(tactic| walk_at "call ref") => `(tactic| (k_here; (try dsimp only [List.cons_append, List.nil_append, List.append_nil]); first | ((with_reducible show wpAny _ _ (call (Value.ref 87) _) _ _ _); k_dflt (refine' less_spec (by k_asm) (by k_asm) (by k_asm) (by k_asm) (by k_asm) (by first | assumption | exact rfl) (by ktr_room) (by ktr_units) (LeadO.use (by assumption) (by k_mem) (by k_mem) (by k_mem) (by k_mem)) (LeadO.use (by assumption) (by k_mem) (by k_mem) (by k_mem) (by k_mem)) (by omega) (by omega) ?_); intros; (try dsimp only)) | ((with_reducible show wpAny _ _ (call (Value.ref 73) _) _ _ _); k_dflt (refine' equal_spec (by k_asm) (by k_asm) (by k_asm) (by k_asm) (by k_asm) (by first | assumption | exact rfl) (by ktr_room) (by ktr_units) (LeadO.use (by assumption) (by k_mem) (by k_mem) (by k_mem) (by k_mem)) (LeadO.use (by assumption) (by k_mem) (by k_mem) (by k_mem) (by k_mem)) ?_); intros; (try dsimp only)) | ((with_reducible show wpAny _ _ (call (Value.ref 116) _) _ _ _); k_dflt (refine' sent_spec (by k_asm) (by k_asm) (by k_asm) (by k_asm) (by k_asm) (by first | assumption | exact rfl) (by ktr_room) (by ktr_units) (by k_mem) (by k_mem) (by assumption) (by assumption) ?_); intros; (try dsimp only)) | ((with_reducible show wpAny _ _ (call (Value.ref 121) _) _ _ _); k_dflt (refine' slips_spec (by k_asm) (by k_asm) (by k_asm) (by k_asm) (by k_asm) (by first | assumption | exact rfl) (by ktr_room) (by ktr_units) (by k_mem) (by k_mem) (by assumption) (by assumption) (by first | assumption | exact flipP_len _ _ _) (by first | assumption | decide) ?_); intros; (try dsimp only))))
local macro_rules | `(tactic| walk_at "subscriptTail Name Slice ref ref") => `(tactic| (k_here; (with_reducible show wpAny _ _ (subscriptTail _ (PySem.Expr.Slice _ _ (some _) _) (Value.ref _) (Value.ref _)) _ _ _); k_dflt (refine' slice3_ints ?F ?N ?l ?p ?q ?k ?o ?i ?_ ?s ?t ?z; (case F => k_asm); (case N => k_asm); (case l => kmk_list); (case p => kmk_part); (case q => kmk_part); (case k => kmk_part); (case o => decide); (case i => l_ints); (case s => with_unfolding_all rfl); (case t => kmk_pure); (case z => ((simp only [sizeLine_eq]); omega))); intro D' us' ms' h' F' N' l1 hI' hL'; (try k_lt l1)))
set_option maxHeartbeats 8000000 in
theorem law_holds : PySem.Challenge.rw_re0074_02.Holds := hd (by
  k_go0
  k_with_none
  k_steps
  refine Hold.go ?_
  k_dflt (refine LCg.Assign_ListComp_U (F₀ := by k_asm) (by rfl) (by with_unfolding_all rfl) (by rfl) (by decide) (by rfl) (by decide) (by rfl) (by rfl) (by rfl) ?_)
  iterate 7 (first | walk1 | (dsimp only; walk1))
  k_dflt (refine LCg.CompSrc.range (n := 11) (by rfl) (by k_asm) (by k_asm) (by assumption) (by decide) (by decide) (by decide) ?_)
  intro g2
  refine comp_ind (fun i ys nx => nx = _ ∧ MsgI i ys) ?_ ?_ _ 0 [] _ (Nat.zero_add _) ⟨rfl, MsgI.nil⟩
  · rintro i ys nx v I oI C oC D m₂ h tk E' hi ⟨rfl, hm⟩ ⟨tv, rfl⟩ hC hx F3 N3 off ne
    clear ne
    have hcm : HoldE := HoldE.mk
    k_steps
    exact Hold.go (LCg.CompEnd.intro (by k_asm) (by k_asm) _ (by (repeat (refine sub_cons (by k_mem) ?_)); exact List.forall_mem_nil _) off trivial ⟨rfl, hm.one (fmod_bnd (by decide))⟩)
  · rintro ys nx ⟨rfl, hm⟩
    obtain ⟨msg, hml, hys, hmb⟩ := hm.out
    clear hm
    have hyl := IntsAre.length hys
    rename IntsAre _ [1, 2, 4, 8] => hI8
    obtain ⟨g1, ys1, rfl, hI81⟩ := IntsAre.cons_inv hI8
    obtain ⟨g2, ys2, rfl, hI82⟩ := IntsAre.cons_inv hI81
    obtain ⟨g3, ys3, rfl, hI83⟩ := IntsAre.cons_inv hI82
    obtain ⟨g4, ys4, rfl, hI84⟩ := IntsAre.cons_inv hI83
    cases hI84
    clear hI81 hI82 hI83
    k_steps
    w_top off
    have hsl := sentP_len msg
    refine Hold.go ?_
    refine wpAny_Assign_Name ?_
    iterate 17 (first | walk1 | (dsimp only; walk1))
    rename IntsAre _ (List.take _ _) => hSl
    generalize hsd : List.take _ (_ :: _) = sl at hSl
    have hsll : sl.length ≤ 16 := by rw [← hsd]; exact Nat.le_trans (List.length_take_le' _ _) (by simp)
    have hS := Sl.of hsd
    k_steps
    refine Hold.go ?_
    refine next_mid (by k_asm) (by k_asm) ?_ ?_
    · have goe := GoE.mk
      have hf := syn_fact hml hmb hS
      k_steps
      · exact MidN.mk (by k_asm) (by k_asm) (by (repeat (refine sub_cons (by k_mem) ?_)); exact List.forall_mem_nil _)
      · exact absurd (hf.1 (by assumption)) (by assumption)
      · exact MidN.mk (by k_asm) (by k_asm) (by (repeat (refine sub_cons (by k_mem) ?_)); exact List.forall_mem_nil _)
      · exact absurd (hf.2.1 (by assumption)) (by assumption)
      · exact MidN.mk (by k_asm) (by k_asm) (by (repeat (refine sub_cons (by k_mem) ?_)); exact List.forall_mem_nil _)
      · exact absurd (hf.2.2 (by assumption)) (by assumption)
    · intro h' tk' F' N'
      dsimp only
      k_steps
      refine Hold.go ?_
      have hf := less_fact hml hmb hS
      unfold lessF at hf
      have hsb := hS.bnd
      have hsn := hS.len
      have hwl := IntsAre.length hSl
      refine next_mid (by k_asm) (by k_asm) ?_ ?_
      · have goe := GoE.mk
        have hcm : HoldC := trivial
        k_steps
        · exact (lessno (by assumption) (less_a (v := 0) (fl := []) hf.1 (by assumption)) (by assumption)).elim
        · exact MidN.mk (by k_asm) (by k_asm) (by (repeat (refine sub_cons (by k_mem) ?_)); exact List.forall_mem_nil _)
        · skip
          refine Hold.go ?_
          k_dflt (refine LCt.ListComp_T (F₀ := by k_asm) (by rfl) (by decide) (by rfl) (by decide) (by rfl) ?_)
          walk1
          k_dflt (refine LCt.CompSrcT.ledger (by rfl) (by k_asm) (by k_asm) (by k_mem) (by simp only [List.size_toArray, sizeLine_eq]; omega) ?_)
          intro g2
          refine compT_ind (fun i us nx => nx = _ ∧ IntsAre us (setV 1 (sentP msg) (sl.take i))) ?_ ?_ _ 0 [] _ (Nat.zero_add _) ⟨rfl, .nil⟩
          · rintro i us nx v I' oI' C' oC' D' m₂ h5 tk5 E5 hi ⟨rfl, hus⟩ hv hC hx F5 N5 off ne
            clear ne
            obtain ⟨z, tz, rfl, hz⟩ := hSl.at i v (by simpa using hv)
            have hzb := hsb z (List.mem_of_getElem? hz)
            k_steps
            · exact setV_one hus hz (by assumption)
            · exact setV_no hus hz (by assumption)
          · rintro us nx ⟨rfl, hus⟩
            rw [List.take_of_length_le (by simp only [List.size_toArray]; omega)] at hus
            have hul := IntsAre.length hus
            k_steps
            · exact (lessyes (less_b hf.1 (by assumption)) (by assumption)).elim
            · exact MidN.mk (by k_asm) (by k_asm) (by (repeat (refine sub_cons (by k_mem) ?_)); exact List.forall_mem_nil _)
      · intro h' tk' F' N'
        dsimp only
        k_steps
        refine Hold.go ?_
        refine next_mid (by k_asm) (by k_asm) ?_ ?_
        · have goe := GoE.mk
          have hcm : HoldC := trivial
          k_steps
          · exact (lessno (by assumption) (less_a (v := 0) (fl := []) hf.2 (by assumption)) (by assumption)).elim
          · exact MidN.mk (by k_asm) (by k_asm) (by (repeat (refine sub_cons (by k_mem) ?_)); exact List.forall_mem_nil _)
          · skip
            refine Hold.go ?_
            k_dflt (refine LCt.ListComp_T (F₀ := by k_asm) (by rfl) (by decide) (by rfl) (by decide) (by rfl) ?_)
            walk1
            k_dflt (refine LCt.CompSrcT.ledger (by rfl) (by k_asm) (by k_asm) (by k_mem) (by simp only [List.size_toArray, sizeLine_eq]; omega) ?_)
            intro g2
            refine compT_ind (fun i us nx => nx = _ ∧ IntsAre us (setV 0 (sentP msg) (sl.take i))) ?_ ?_ _ 0 [] _ (Nat.zero_add _) ⟨rfl, .nil⟩
            · rintro i us nx v I' oI' C' oC' D' m₂ h5 tk5 E5 hi ⟨rfl, hus⟩ hv hC hx F5 N5 off ne
              clear ne
              obtain ⟨z, tz, rfl, hz⟩ := hSl.at i v (by simpa using hv)
              have hzb := hsb z (List.mem_of_getElem? hz)
              k_steps
              · exact setV_one hus hz (by assumption)
              · exact setV_no hus hz (by assumption)
            · rintro us nx ⟨rfl, hus⟩
              rw [List.take_of_length_le (by simp only [List.size_toArray]; omega)] at hus
              have hul := IntsAre.length hus
              k_steps
              · exact (lessyes (less_b hf.2 (by assumption)) (by assumption)).elim
              · exact MidN.mk (by k_asm) (by k_asm) (by (repeat (refine sub_cons (by k_mem) ?_)); exact List.forall_mem_nil _)
        · intro h' tk' F' N'
          dsimp only
          k_steps
          refine Hold.go ?_
          refine mend_mid hS hml (by k_asm) (by k_asm) ?_ ?_
          · have goe := GoE.mk
            k_steps
            · exact MidE.mk (by k_asm) (by k_asm) (by (repeat (refine sub_cons (by k_mem) ?_)); exact List.forall_mem_nil _) (.cons _ _ .nil) (MendI.yes (by assumption))
            · exact MidE.mk (by k_asm) (by k_asm) (by (repeat (refine sub_cons (by k_mem) ?_)); exact List.forall_mem_nil _) .nil (MendI.no (by assumption))
          · intro h' tk' D us k mm F' N' hmm hmI
            dsimp only
            have hml16 := hmI.len
            k_steps
            refine Hold.go ?_
            have hml2 : (flipP (flipP (sentP msg) sl 16) mm 16).length = 16 := flipP_len _ _ _
            refine next_mid (by k_asm) (by k_asm) ?_ ?_
            · have goe := GoE.mk
              k_steps
              · exact (eqno (eq_gen hml hmb (fmod_bnd (by decide)) hS hmI) (by assumption)).elim
              · exact MidN.mk (by k_asm) (by k_asm) (by (repeat (refine sub_cons (by k_mem) ?_)); exact List.forall_mem_nil _)
            · intro h' tk' F' N'
              dsimp only
              have hcm : HoldC := trivial
              k_steps
              refine Hold.go ?_
              k_dflt (refine LCt.ListComp_T (F₀ := by k_asm) (by rfl) (by decide) (by rfl) (by decide) (by rfl) ?_)
              iterate 9 (first | walk1 | (dsimp only; walk1))
              k_dflt (refine LCt.CompSrcT.range (n := 15) (by rfl) (by k_asm) (by k_asm) (by assumption) (by decide) (by first | rfl | decide) (by decide) ?_)
              intro g2
              refine compT_ind (fun i us nx => nx = _ ∧ IntsAre us (outF (flipP (flipP (sentP msg) sl 16) mm 16) i)) ?_ ?_ _ 0 [] _ (Nat.zero_add _) ⟨rfl, .nil⟩
              · rintro i us nx v I' oI' C' oC' D' m₂ h5 tk5 E5 hi ⟨rfl, hus⟩ ⟨tv', rfl⟩ hC hx F5 N5 off ne
                clear ne
                k_steps
                · exact outF_no hus (by assumption)
                · exact outF_one hus (by assumption) rfl
              · rintro us nx ⟨rfl, hus⟩
                have hul := IntsAre.length hus
                have hol := outF_len (flipP (flipP (sentP msg) sl 16) mm 16) 15
                have hout := out_gen hml hmb (fmod_bnd (by decide)) hS (by assumption) hmI
                k_steps)

end
end Mine
theorem PySem.Challenge.cw_re0074_02_holds : PySem.Challenge.rw_re0074_02.Holds := by
  exact Mine.law_holds
