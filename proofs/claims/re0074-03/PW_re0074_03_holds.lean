import PyProof.Rows.All
import Wide.All
import OpenK.AllK
import Wide.FinOn
import PySem.Challenge.RW_re0074_03
open PySem PySem.W PyProof.Rows
set_option Elab.async false
set_option linter.unusedVariables false
set_option linter.unusedSimpArgs false
set_option maxRecDepth 100000
set_option maxHeartbeats 8000000
namespace Mine
open PySem PySem.W PyProof.Rows PySem.Calls PySem.Spec

abbrev Led := List (Addr × Obj)

/-- at a frozen call's end: what of the old ledger the call was not handed stands as it stood -/
noncomputable def OutZ (news lit : Led) (R : Result → Shared → Prop) (r : Result) (s' : Shared) : Prop :=
  (∀ p ∈ news, p ∉ lit → s'.heap.get? p.1 = some p.2) → R r s'

theorem sub_cons {a : Addr × Obj} {l t : List (Addr × Obj)} (h : a ∈ t) (k : ∀ x ∈ l, x ∈ t) : ∀ x ∈ a :: l, x ∈ t := List.forall_mem_cons.mpr ⟨h, k⟩
theorem news_join {h₀ h h' : Heap} {L : Addr} {all lit tl news : Led} (kN : News h₀ L h' all) (hl : ∀ p ∈ lit, p ∈ all) (ht : ∀ p ∈ tl, p ∈ all)
    (hz : ∀ p ∈ news, p ∉ lit → h'.get? p.1 = some p.2) (N : News h₀ L h news) : News h₀ L h' (tl ++ news) := by
  intro p hp
  rcases List.mem_append.mp hp with hp | hp
  · exact kN p (ht p hp)
  · by_cases hn : p ∈ lit
    · exact kN p (hl p hn)
    · exact ⟨hz p hp hn, (N p hp).2⟩

theorem news_back {h₀ h h' : Heap} {L : Addr} {hd lit tl news : Led} (kN : News h₀ L h' (hd ++ (lit ++ tl))) (hz : ∀ p ∈ news, p ∉ lit → h'.get? p.1 = some p.2) (N : News h₀ L h news) :
    News h₀ L h' (hd ++ (tl ++ news)) := by
  rw [← List.append_assoc]
  refine news_join kN (fun p hp => ?_) (fun p hp => ?_) hz N
  · exact List.mem_append_right _ (List.mem_append_left _ hp)
  · rcases List.mem_append.mp hp with hp | hp
    · exact List.mem_append_left _ hp
    · exact List.mem_append_right _ (List.mem_append_right _ hp)
theorem news_cons {h₀ h h' : Heap} {L : Addr} {hd : Addr × Obj} {lit rest news : Led} (kN : News h₀ L h' (hd :: rest)) (hl : ∀ p ∈ lit, p ∈ rest) (hz : ∀ p ∈ news, p ∉ lit → h'.get? p.1 = some p.2) (N : News h₀ L h news) :
    News h₀ L h' (hd :: news) :=
  news_join (tl := [hd]) kN (fun p hp => List.mem_cons_of_mem _ (hl p hp)) (List.forall_mem_cons.mpr ⟨List.mem_cons_self, List.forall_mem_nil _⟩) hz N
theorem sub_back {lit tl news : Led} (hs : ∀ p ∈ lit, p ∈ news) : ∀ p ∈ lit ++ tl, p ∈ tl ++ news := fun p hp =>
  (List.mem_append.mp hp).elim (fun h => List.mem_append_right _ (hs p h)) fun h => List.mem_append_left _ h

theorem not_in_addrs {h : Heap} {lit : Led} {p : Addr × Obj} (hl : ∀ q ∈ lit, h.get? q.1 = some q.2) (hp : h.get? p.1 = some p.2) (hn : p ∉ lit) : p.1 ∉ lit.map (·.1) := by
  intro z
  obtain ⟨q, hq, e⟩ := List.mem_map.mp z
  have h1 := hl q hq
  rw [e, hp] at h1
  have h2 : p.2 = q.2 := Option.some.inj h1
  exact hn (by
    have : p = q := by
      exact Prod.ext e.symm h2
    rw [this]; exact hq)

section
variable {prog : Program} {w : World} {A₀ A : Around} {s : Shared} {base h₀ : Heap} {outer : List Env} {L : Addr} {m mg mb : Str → Option Value} {env : Env} {news lit : Led} {K : Frag}
  {p : Program} {loose : List Str} {mean : ExcName → Option Value}
  {R : Result → Shared → Prop} {name qual : Str} {params : Arguments} {body : List Stmt} {scope : Scope} {dV kV doc pm cdv ct oc : Value} {an od : Option Addr} {osl : Array (Option Value)} {f : Addr} {args : Args} {binds : List (Str × Value)}

theorem enterZ (B : Below A₀ base outer h₀) (F : Fr h₀ L s.heap m) (X₀ : K.In h₀) (N : News h₀ L s.heap news) (T : Top p loose mean mg mb h₀) (hsub : ∀ q ∈ lit, q ∈ news)
    (hA : A.frames = some (env :: outer)) (hf : env.frame = some L) (hke : env.scope.kind = .function)
    (ho : K.lookup f = some ⟨oc, od, .func (fnOf name qual params body scope dV kV doc pm an cdv ct), osl⟩) (hcd : codeIn K cdv qual = true) (hroom : A.depth < recursionLimit)
    (hbind : BindsTo s (fnOf name qual params body scope dV kV doc pm an cdv ct) args binds) (hloc : ∀ y ∈ binds, scope.names.lookup y.1 = some .local)
    (h : ∀ g L' h₁, Fr g L' h₁ (fun y => binds.reverse.lookup y) → News g L' h₁ lit → Below A base (env :: outer) g → K.In g → Top p loose mean mg mb g → (∀ q ∈ lit, q.1 < L') →
      wpAny (model prog w) (A.deeper (envOf qual scope L' f cdv)) (execs body (envOf qual scope L' f cdv))
        (fun fl s' => LeaveK h₀ L m g (OutZ news lit R) (match fl with | .ret v => v | _ => .none) s')
        (fun e s' => wpAny (model prog w) (A.deeper (envOf qual scope L' f cdv)) (leaving (envOf qual scope L' f cdv) e) (fun _ s'' => R (.error e) s'') (fun e' s'' => R (.error e') s'') s')
        { s with heap := h₁, toks := s.toks + binds.length })
    (hco : scope.isCoroutine = false) (hgen : scope.isGenerator = false) (hk : scope.kind = .function)
    (hcell : ∀ x ∈ scope.names, x.2 ≠ .cell) : codeAny (model prog w) A (.call (.ref f) args) R s := by
  have N₀ : News h₀ L s.heap lit := fun q hq => N q (hsub q hq)
  obtain ⟨FG, BG, st, lv⟩ := groundX (R := OutZ news lit R) B F N₀ hA hf hke
  refine codeAny_call_def (fd := fnOf name qual params body scope dV kV doc pm an cdv ct) (body := body) (binds := binds) hroom ((X₀.keeps F.keep) _ _ ho) rfl (T.nolimit.keeps F.keep) (codeRec_of (X₀.keeps F.keep) hcd) rfl hbind hcell hloc (fun h₁ hns hk₁ => ?_) hco hgen hk
  refine wpAny_mono (h _ s.heap.objs.size h₁ ⟨hns, fun b o e => hk₁ b o (of_hideAll _ e), Nat.le_of_eq (hideAll_size _ _)⟩
    (fun q hq => ⟨hk₁ _ _ (N₀ q hq).1, Nat.ne_of_lt (Heap.lt_size (N₀ q hq).1), hideAll_none _ (List.mem_map_of_mem hq)⟩) BG (X₀.keeps st) (T.keeps st) (fun q hq => Heap.lt_size (N₀ q hq).1)) (fun fl s' hl => ?_) fun _ _ y => y
  have hkeep : ∀ b o, (hideAll s.heap (lit.map (·.1))).get? b = some o → s'.heap.get? b = some o := by
    obtain ⟨L', m', news', F', _⟩ := hl
    exact F'.keep
  exact lv _ _ hl fun q hq hn => hkeep _ _ (hideAll_get _ (N q hq).1 (not_in_addrs (fun q hq => (N₀ q hq).1) (N q hq).1 hn))

theorem enterZC (B : Below A₀ base outer h₀) (F : Fr h₀ L s.heap m) (X₀ : K.In h₀) (N : News h₀ L s.heap news) (T : Top p loose mean mg mb h₀) (hsub : ∀ q ∈ lit, q ∈ news)
    (hA : A.frames = some (env :: outer)) (hf : env.frame = some L) (hke : env.scope.kind = .function)
    (ho : K.lookup f = some ⟨oc, od, .func (fnOf name qual params body scope dV kV doc pm an cdv ct), osl⟩) (hcd : codeIn K cdv qual = true) (hroom : A.depth < recursionLimit)
    (hbind : BindsTo s (fnOf name qual params body scope dV kV doc pm an cdv ct) args binds) (hkind : (binds.all fun y => scope.names.lookup y.1 == some .local || scope.names.lookup y.1 == some .cell) = true)
    (hnd : ((cellsFrom 0 scope.names []).map (·.1)).Nodup)
    (h : ∀ g L' h₁ tk cells, Fr g L' h₁ (bindL (envOfC qual scope L' f cdv).kindOf binds fun _ => none) → News g L' h₁ (cells ++ lit) →
      CellsAre (bindC (envOfC qual scope L' f cdv).kindOf binds fun _ => none) (cellsFrom (L' + 1) scope.names []) cells → Below A base (env :: outer) g → K.In g → Top p loose mean mg mb g → (∀ q ∈ lit, q.1 < L') →
      wpAny (model prog w) (A.deeper (envOfC qual scope L' f cdv)) (execs body (envOfC qual scope L' f cdv))
        (fun fl s' => LeaveK h₀ L m g (OutZ news lit R) (match fl with | .ret v => v | _ => .none) s')
        (fun e s' => wpAny (model prog w) (A.deeper (envOfC qual scope L' f cdv)) (leaving (envOfC qual scope L' f cdv) e) (fun _ s'' => R (.error e) s'') (fun e' s'' => R (.error e') s'') s')
        { s with heap := h₁, toks := tk })
    (hco : scope.isCoroutine = false) (hgen : scope.isGenerator = false) (hk : scope.kind = .function) : codeAny (model prog w) A (.call (.ref f) args) R s := by
  have N₀ : News h₀ L s.heap lit := fun q hq => N q (hsub q hq)
  obtain ⟨FG, BG, st, lv⟩ := groundX (R := OutZ news lit R) B F N₀ hA hf hke
  refine codeAny_call_function hroom ((X₀.keeps F.keep) _ _ ho) rfl hco hgen rfl (codeRec_of (X₀.keeps F.keep) hcd) (hbind _ _ _ _ ?_)
  refine wpAny_newFunctionEnv_cells hk (kindsX hkind _) fun env' he s' x => ?_
  subst he
  refine ⟨(T.nolimit.keeps F.keep).keeps x.toInCall.keep, codeAny_func ?_⟩
  obtain ⟨h₁, tk, rfl, _⟩ := x.done
  have hk₁ := x.toInCall.keep
  obtain ⟨cells, NC, Y⟩ := Cl.news (h₀ := s.heap) (Nat.le_refl _) fun n c hm => ⟨x.cell n c (lookup_of_mem_nodup (cellsFrom_names scope.names 0 (s.heap.objs.size + 1) [] [] rfl ▸ hnd) hm), x.above n c hm⟩
  refine wpAny_mono (h _ s.heap.objs.size h₁ tk cells ⟨x.toInCall.ns, fun b o e => hk₁ b o (of_hideAll _ e), Nat.le_of_eq (hideAll_size _ _)⟩ (fun q hq => ?_) Y BG (X₀.keeps st) (T.keeps st) (fun q hq => Heap.lt_size (N₀ q hq).1)) (fun fl s' hl => ?_) fun _ _ y => y
  · rcases List.mem_append.mp hq with hq | hq
    · refine ⟨(NC q hq).1, (NC q hq).2.1, ?_⟩
      cases z : (hideAll s.heap (lit.map (·.1))).get? q.1 with
      | none => rfl
      | some o => have := of_hideAll _ z; rw [(NC q hq).2.2] at this; cases this
    · exact ⟨hk₁ _ _ (N₀ q hq).1, Nat.ne_of_lt (Heap.lt_size (N₀ q hq).1), hideAll_none _ (List.mem_map_of_mem hq)⟩
  · have hkeep : ∀ b o, (hideAll s.heap (lit.map (·.1))).get? b = some o → s'.heap.get? b = some o := by
      obtain ⟨L', m', news', F', _⟩ := hl
      exact F'.keep
    exact lv _ _ hl fun q hq hn => hkeep _ _ (hideAll_get _ (N q hq).1 (not_in_addrs (fun q hq => (N₀ q hq).1) (N q hq).1 hn))

theorem item_tupI {E : Value → Shared → Prop} {value slice : Expr} {l : Addr} {vs : List Value} {c : List Int} {k : Int} {u : Tok} {Q : Value → Shared → Prop} (ht : IsTup s.heap l vs.toArray) (hI : IntsAre vs c) (h0 : 0 ≤ k) (hk : k < c.length)
    (hfit : k < 2 ^ 63) (h : ∀ t, Q (.int (c.getD k.toNat 0) t) s)
    (hs : subscripted slice false (.ref l) (.int k u) = operate [.ref l, .int k u] (getItem (.ref l) (.int k u)) := by with_unfolding_all rfl) :
    wpAny (model prog w) A (subscriptTail value slice (.ref l) (.int k u)) Q E s := by
  have hlen := hI.length
  obtain ⟨n, rfl⟩ : ∃ n : Nat, k = n := ⟨k.toNat, by omega⟩
  have hn : n < c.length := by omega
  obtain ⟨t, ht'⟩ := IntsAre.get hI (i := n) (n := c[n]) (by simp [hn])
  refine item_tupleT ht (j := n) (x := .int (c.getD n 0) t) (by omega) hfit ?_ ?_ (by simpa using h t) hs
  · have h1 : ¬ ((n : Int) < 0) := by omega
    have h2 : n < vs.length := by omega
    simp [seqIndex?, h1, h2]
  · simpa [List.getD_eq_getElem?_getD, hn] using ht'

theorem mulOk_div {k ts b : Int} (h0 : 0 ≤ k) (h1 : k < 100000) (ht : 1 ≤ ts) : IntMulOk (k.fdiv ts) b := by
  refine .of_left (intBits_le_64 ?_ ?_)
  all_goals
    have h2 : 0 ≤ k.fdiv ts := Int.fdiv_nonneg h0 (by omega)
    have h3 : k.fdiv ts ≤ k := by
      rw [Int.fdiv_eq_ediv_of_nonneg _ (by omega)]
      exact Int.ediv_le_self _ h0
    omega
end

/-- a turn's end of a loop over an iterator at I; the ledger and the names that count are told by st -/
noncomputable def TEnd {σ : Type} (h₀ : Heap) (L I : Addr) (io : Obj) (Led : σ → Led) (ps : σ → List (Str × Value)) (Inv : σ → Prop) (s₁ : Shared) (Q : Flow → Shared → Prop) (f : Flow) (s₂ : Shared) : Prop :=
  match f with
  | .ret v => Q (.ret v) s₂
  | .brk => Q .next s₂
  | _ => ∃ h' tk' m' st', s₂ = { s₁ with heap := h', toks := tk' } ∧ Fr h₀ L h' m' ∧ News h₀ L h' ((I, io) :: Led st') ∧ (∀ p ∈ Led st', p.1 ≠ I) ∧ (∀ p ∈ ps st', m' p.1 = some p.2) ∧ Inv st'

theorem TEnd.next {σ : Type} {h₀ : Heap} {L I : Addr} {io : Obj} {Led : σ → Led} {ps : σ → List (Str × Value)} {Inv : σ → Prop} {s₁ : Shared} {Q : Flow → Shared → Prop} {h' : Heap} {tk' : Nat} {m' : Str → Option Value} {all : List (Addr × Obj)} (st' : σ)
    (F : Fr h₀ L h' m') (N : News h₀ L h' all) (hs : ∀ p ∈ (I, io) :: Led st', p ∈ all) (hne : ∀ p ∈ Led st', p.1 ≠ I) (hps : ∀ p ∈ ps st', m' p.1 = some p.2) (hi : Inv st') :
    TEnd h₀ L I io Led ps Inv s₁ Q .next { s₁ with heap := h', toks := tk' } := ⟨h', tk', m', st', rfl, F, fun p hp => N p (hs p hp), hne, hps, hi⟩

theorem ne_of_cls {h₀ h : Heap} {L I : Addr} {io : Obj} {all : List (Addr × Obj)} {c : Value} {p : Addr × Obj} (N : News h₀ L h all) (hI : (I, io) ∈ all) (hp : p ∈ all) (hc : io.cls = c) (hn : p.2.cls ≠ c) : p.1 ≠ I := by
  intro e
  have h1 := (N _ hI).1
  have h2 := (N _ hp).1
  rw [e] at h2
  rw [h1] at h2
  have h3 : io = p.2 := Option.some.inj h2
  exact hn (h3 ▸ hc)

theorem ne_news {h₀ h : Heap} {L : Addr} {all : List (Addr × Obj)} {a b : Addr} {o o' : Obj} (N : News h₀ L h all) (ha : (a, o) ∈ all) (hb : (b, o') ∈ all) (hn : o.cls ≠ o'.cls) : @Ne Nat a b := by
  intro e
  have h1 := (N _ ha).1
  have h2 := (N _ hb).1
  have e' : a = b := e
  subst e'
  rw [h1] at h2
  exact hn (congrArg Obj.cls (Option.some.inj h2))

/-- a tree that the walk is to leave alone -/
noncomputable def Hold (p : Prop) : Prop := p
theorem Hold.stop {p : Prop} (h : Hold p) : p := h
theorem Hold.go {p : Prop} (h : p) : Hold p := h

theorem off1_ne {D a : Addr} {o : Obj} : ∀ {l : List (Addr × Obj)}, LCg.Off1 D l → (a, o) ∈ l → @Ne Nat a D
  | [], _, h => nomatch h
  | _ :: _, x, h => by
    rcases List.mem_cons.mp h with rfl | h
    · exact x.1
    · exact off1_ne x.2 h
theorem fmod_bnd {x n : Int} (h : 0 < n) : 0 ≤ x.fmod n ∧ x.fmod n < n := ⟨Int.fmod_nonneg_of_pos _ h, Int.fmod_lt_of_pos _ h⟩
theorem type_ne {a b : String} (h : a ≠ b) : Value.type a ≠ Value.type b := fun e => h (by injection e)

theorem fr_kstB {h₀ h : Heap} {L : Addr} {m₁ : Str → Option Value} {ps : List (Str × Value)} (hps : ∀ p ∈ ps, m₁ p.1 = some p.2) (F : Fr h₀ L h m₁) : Fr h₀ L h (kstB m₁ ps) := by
  have e : kstB m₁ ps = m₁ := funext fun z => kstB_eq hps fun _ => rfl
  rw [e]; exact F
theorem fr_kstBx {h₀ h : Heap} {L : Addr} {x : Str} {v : Value} {m₁ : Str → Option Value} {ps : List (Str × Value)} (hps : ∀ p ∈ ps, m₁ p.1 = some p.2) (F : Fr h₀ L h (fun y => if y = x then some v else m₁ y)) : Fr h₀ L h (fun y => if y = x then some v else kstB m₁ ps y) := by
  have e : kstB m₁ ps = m₁ := funext fun z => kstB_eq hps fun _ => rfl
  rw [e]; exact F

section
variable {prog : Program} {w : World} {A : Around} {E : Value → Shared → Prop} {s : Shared} {env : Env} {h₀ : Heap} {x : Str} {body : List Stmt} {Q : Flow → Shared → Prop} {m₀ : Str → Option Value}

theorem loopS {σ : Type} {I : Addr} {n : Nat} {P : Nat → Value → Prop} {St : Nat → Heap → Prop} {cls : Value} (W : Walks prog w A I [I] [I] n P St) (hSt : ∀ i h, St i h → ∃ o, h.get? I = some o ∧ o.cls = cls)
    (hIL : env.locals ≠ I) (hI₀ : h₀.get? I = none) (Led : σ → Led) (ps : σ → List (Str × Value)) (Inv : Nat → σ → Prop) (st₀ : σ) (hst : St 0 s.heap) (F : Fr h₀ env.locals s.heap m₀) (N : News h₀ env.locals s.heap (Led st₀))
    (hne : ∀ p ∈ Led st₀, p.1 ≠ I) (hps : ∀ p ∈ ps st₀, m₀ p.1 = some p.2) (h0 : Inv 0 st₀)
    (turn : ∀ i v st u h tk io, i < n → P i v → Inv i st → io.cls = cls → (∀ p ∈ Led st, p.1 ≠ I) → Fr h₀ env.locals h (fun y => if y = x then some v else kstB u (ps st) y) → News h₀ env.locals h ((I, io) :: Led st) →
      wpAny (model prog w) A (execs body env) (TEnd h₀ env.locals I io Led ps (Inv (i + 1)) { s with heap := h, toks := tk } Q) E { s with heap := h, toks := tk })
    (done : ∀ st u h tk, Inv n st → Fr h₀ env.locals h (kstB u (ps st)) → News h₀ env.locals h (Led st) → Q .next { s with heap := h, toks := tk }) :
    LoopAtV prog w A h₀ env x body Q E (.ref I) s := by
  refine ⟨I, [I], [I], n, P, St, m₀, Led st₀, fun i m nx => ∃ st, nx = Led st ∧ (∀ p ∈ ps st, m p.1 = some p.2) ∧ Inv i st, rfl, W, ?_, ?_, ?_, hst, F, N, ⟨st₀, rfl, hps, h0⟩, ?_, ?_⟩
  · intro hm; exact hIL (List.mem_singleton.mp hm)
  · intro b hb; rw [List.mem_singleton.mp hb]; exact hI₀
  · intro p hp hm; exact hne p hp (List.mem_singleton.mp hm)
  · rintro i v m₁ news₁ s₁ own ⟨h, tk, rfl⟩ hin hP ⟨st, rfl, hps', hInv⟩ hoff hown hownh hfull hst' F₁ N₁
    obtain ⟨io, hio, hcls⟩ := hSt _ _ hst'
    have hmem : (I, io) ∈ own := hfull I (List.mem_singleton.mpr rfl) hI₀ io hio
    have hoff' : ∀ p ∈ Led st, p.1 ≠ I := fun p hp e => hoff p hp (List.mem_singleton.mpr e)
    have N₂ : News h₀ env.locals h ((I, io) :: Led st) := fun p hp => by
      rcases List.mem_cons.mp hp with rfl | hp
      · exact N₁ _ (List.mem_append_left _ hmem)
      · exact N₁ _ (List.mem_append_right _ hp)
    refine wpAny_mono (turn i v st m₁ h tk io hin hP hInv hcls hoff' (fr_kstBx hps' F₁) N₂) (fun f s₂ t => ?_) fun _ _ e => e
    have fin : (∃ h' tk' m' st', s₂ = { ({ s with heap := h, toks := tk } : Shared) with heap := h', toks := tk' } ∧ Fr h₀ env.locals h' m' ∧ News h₀ env.locals h' ((I, io) :: Led st') ∧ (∀ p ∈ Led st', p.1 ≠ I) ∧ (∀ p ∈ ps st', m' p.1 = some p.2) ∧ Inv (i + 1) st') →
        LoopStepU h₀ env.locals [I] own (fun m nx => ∃ st, nx = Led st ∧ (∀ p ∈ ps st, m p.1 = some p.2) ∧ Inv (i + 1) st) { s with heap := h, toks := tk } .next s₂ := by
      rintro ⟨h', tk', m', st', rfl, F', N', hne', hps'', hi'⟩
      refine ⟨rfl, h', tk', m', Led st', rfl, F', fun p hp => ?_, fun p hp hm => hne' p hp (List.mem_singleton.mp hm), st', rfl, hps'', hi'⟩
      rcases List.mem_append.mp hp with hp | hp
      · have e1 : p.1 = I := List.mem_singleton.mp (hown p hp)
        have e2 : p.2 = io := by
          have := hownh p hp
          rw [e1] at this
          exact Option.some.inj (this.symm.trans hio)
        have e3 : p = (I, io) := Prod.ext e1 e2
        rw [e3]; exact N' _ List.mem_cons_self
      · exact N' _ (List.mem_cons_of_mem _ hp)
    cases f with
    | ret v => exact .ret t
    | brk => exact .brk t
    | next => exact .next (fin t)
    | cont => exact .cont (fin t)
  · rintro h' tk m' news' F' N' _ ⟨st, rfl, hps', hi⟩
    exact done st m' h' tk hi (fr_kstB hps' F') N'

theorem text_loop {σ : Type} {xt : Str} {tx : Tok} (ha : xt.cps.all (· < 128) = true) (hh : A.handled = none) (Led : σ → Led) (ps : σ → List (Str × Value)) (Inv : Nat → σ → Prop) (st₀ : σ)
    (F : Fr h₀ env.locals s.heap m₀) (N : News h₀ env.locals s.heap (Led st₀)) (hps : ∀ p ∈ ps st₀, m₀ p.1 = some p.2) (h0 : Inv 0 st₀)
    (turn : ∀ (I : Addr) i (c : Nat) t st u h tk io, xt.cps[i]? = some c → Inv i st → io.cls = .type "str_ascii_iterator" → (∀ p ∈ Led st, p.1 ≠ I) → Fr h₀ env.locals h (fun y => if y = x then some (.str ⟨#[c]⟩ t) else kstB u (ps st) y) → News h₀ env.locals h ((I, io) :: Led st) →
      wpAny (model prog w) A (execs body env) (TEnd h₀ env.locals I io Led ps (Inv (i + 1)) { s with heap := h, toks := tk } Q) E { s with heap := h, toks := tk })
    (done : ∀ st u h tk, Inv xt.cps.size st → Fr h₀ env.locals h (kstB u (ps st)) → News h₀ env.locals h (Led st) → Q .next { s with heap := h, toks := tk }) :
    wpAny (model prog w) A (pyIter (.str xt tx)) (fun it s₂ => LoopAtV prog w A h₀ env x body Q E it s₂) E s := by
  refine wpAny_pyIter_ascii ha ?_
  refine loopS (Walks.strAscii hh s.heap.objs.size xt tx) (cls := .type "str_ascii_iterator") (fun i h st => ?_) (Nat.ne_of_lt F.ns.lt) (next_is_new F) Led ps Inv st₀ ⟨_, Heap.get?_push_size _ rfl, rfl, rfl⟩ (F.push _)
    (fun p hp => ⟨Heap.get?_push_of_some _ (N p hp).1, (N p hp).2⟩) (fun p hp => Nat.ne_of_lt (Heap.lt_size (N p hp).1)) hps h0 ?_ done
  · obtain ⟨o, ho, hc, _⟩ := st
    exact ⟨o, ho, hc⟩
  · rintro i v st u h tk io hi ⟨c, t, hc, rfl⟩ hInv hcls hne F' N'
    exact turn _ i c t st u h tk io hc hInv hcls hne F' N'

theorem range_loop {σ : Type} {r : Addr} {a₀ b₀ : Int} {t₀ u₀ v₀ : Tok} {n : Nat} (hr : IsRange s.heap r a₀ b₀ 1 t₀ u₀ v₀) (hsmall : Builtin.Range.small a₀ b₀ 1 = true) (hn : Builtin.Range.rangeSize a₀ b₀ 1 = (n : Int)) (hh : A.handled = none) (Led : σ → Led) (ps : σ → List (Str × Value)) (Inv : Nat → σ → Prop) (st₀ : σ)
    (F : Fr h₀ env.locals s.heap m₀) (N : News h₀ env.locals s.heap (Led st₀)) (hps : ∀ p ∈ ps st₀, m₀ p.1 = some p.2) (h0 : Inv 0 st₀)
    (turn : ∀ (I : Addr) (i : Nat) t st u h tk io, i < n → Inv i st → io.cls = .type "range_iterator" → (∀ p ∈ Led st, p.1 ≠ I) → Fr h₀ env.locals h (fun y => if y = x then some (.int (a₀ + i) t) else kstB u (ps st) y) → News h₀ env.locals h ((I, io) :: Led st) →
      wpAny (model prog w) A (execs body env) (TEnd h₀ env.locals I io Led ps (Inv (i + 1)) { s with heap := h, toks := tk } Q) E { s with heap := h, toks := tk })
    (done : ∀ st u h tk, Inv n st → Fr h₀ env.locals h (kstB u (ps st)) → News h₀ env.locals h (Led st) → Q .next { s with heap := h, toks := tk }) :
    wpAny (model prog w) A (pyIter (.ref r)) (fun it s₂ => LoopAtV prog w A h₀ env x body Q E it s₂) E s := by
  refine wpAny_pyIter_range hr hsmall ?_
  refine loopS (LCg.range_walks hh a₀ n) (cls := .type "range_iterator") (fun i h st => ⟨_, st, rfl⟩) (Nat.ne_of_lt F.ns.lt) (next_is_new F) Led ps Inv st₀ (by show IsRangeIter _ _ _ _ _; rw [hn]; simpa using Heap.get?_push_size _ rfl) (F.push _)
    (fun p hp => ⟨Heap.get?_push_of_some _ (N p hp).1, (N p hp).2⟩) (fun p hp => Nat.ne_of_lt (Heap.lt_size (N p hp).1)) hps h0 ?_ done
  rintro i v st u h tk io hi ⟨t, rfl⟩ hInv hcls hne F' N'
  exact turn _ i t st u h tk io hi hInv hcls hne F' N'
end

section
open LCg LCt
variable {prog : Program} {w : World} {A : Around} {E : Value → Shared → Prop} {s : Shared} {h₀ : Heap} {L : Addr} {m : Str → Option Value} {env : Env}

theorem compEnd_mono {s₁ : Shared} {I C D : Addr} {oI oC oD : Obj} {S : Led → Prop} {rest rest' : Value → Led → Prop} {y : Value} {s₂ : Shared} (h : CompEnd h₀ L m s₁ I oI C oC D oD S rest y s₂) (hr : ∀ nx, rest y nx → rest' y nx) :
    CompEnd h₀ L m s₁ I oI C oC D oD S rest' y s₂ := by
  obtain ⟨h', tk, nx, e, F, N, o, hS, r⟩ := h
  exact ⟨h', tk, nx, e, F, N, o, hS, hr nx r⟩

theorem comp_ind {elt : Expr} {x : Str} {scope : Scope} {cl : List (Str × Addr)} {S : Led → Prop} {P : Nat → Value → Prop} {Fin : List Value → Led → Prop} {n : Nat} (Inv : Nat → List Value → Led → Prop)
    (turn : ∀ i ys nx v I oI C oC D m₂ h tk (E' : Value → Shared → Prop), i < n → Inv i ys nx → P i v → NsObj oC m₂ → m₂ x = some v → Fr h₀ L h m → News h₀ L h ((I, oI) :: (C, oC) :: (D, lst ys) :: nx) → Off3 I C D nx → ((@Ne Nat I C) ∧ (@Ne Nat I D) ∧ (@Ne Nat C D)) →
      wpAny (model prog w) A (eval elt (compEnvC scope cl C env)) (CompEnd h₀ L m { s with heap := h, toks := tk } I oI C oC D (lst ys) S (fun y nx' => Inv (i + 1) (ys ++ [y]) nx')) E' { s with heap := h, toks := tk })
    (fin : ∀ ys nx, Inv n ys nx → Fin ys nx) : ∀ k i ys nx, i + k = n → Inv i ys nx → CompRest prog w A h₀ L m env elt x scope cl s S P Fin k i ys nx := by
  intro k
  induction k with
  | zero => intro i ys nx e h; exact fin ys nx (by have : i = n := by omega
                                                   exact this ▸ h)
  | succ k ih =>
    intro i ys nx e h
    refine CompRest.succ ?_
    intro v I oI C oC D m₂ hp tk E' hP hC hx F N off ne
    refine wpAny_mono (turn i ys nx v I oI C oC D m₂ hp tk E' (by omega) h hP hC hx F N off ne) (fun y s' hq => ?_) fun _ _ e => e
    exact compEnd_mono hq fun nx' hr => ih (i + 1) (ys ++ [y]) nx' (by omega) hr

theorem compT_ind {ct elt : Expr} {x : Str} {scope : Scope} {cl : List (Str × Addr)} {S : Led → Prop} {P : Nat → Value → Prop} {Fin : List Value → Led → Prop} {n : Nat} (Inv : Nat → List Value → Led → Prop)
    (turn : ∀ i ys nx v I oI C oC D m₂ h tk (E' : Value → Shared → Prop), i < n → Inv i ys nx → P i v → NsObj oC m₂ → m₂ x = some v → Fr h₀ L h m → News h₀ L h ((I, oI) :: (C, oC) :: (D, lst ys) :: nx) → Off3 I C D nx → ((@Ne Nat I C) ∧ (@Ne Nat I D) ∧ (@Ne Nat C D)) →
      wpAny (model prog w) A (isTrue ct (compEnvC scope cl C env) (eval ct (compEnvC scope cl C env))) (fun ok s' => if ok = true then
        wpAny (model prog w) A (eval elt (compEnvC scope cl C env)) (CompEnd h₀ L m { s with heap := h, toks := tk } I oI C oC D (lst ys) S (fun y nx' => Inv (i + 1) (ys ++ [y]) nx')) E' s'
        else CompEnd h₀ L m { s with heap := h, toks := tk } I oI C oC D (lst ys) S (fun _ nx' => Inv (i + 1) ys nx') Value.none s') E' { s with heap := h, toks := tk })
    (fin : ∀ ys nx, Inv n ys nx → Fin ys nx) : ∀ k i ys nx, i + k = n → Inv i ys nx → CompRestT prog w A h₀ L m env ct elt x scope cl s S P Fin k i ys nx := by
  intro k
  induction k with
  | zero => intro i ys nx e h; exact fin ys nx (by have : i = n := by omega
                                                   exact this ▸ h)
  | succ k ih =>
    intro i ys nx e h
    refine CompRestT.succ ?_
    intro v I oI C oC D m₂ hp tk E' hP hC hx F N off ne
    refine wpAny_mono (turn i ys nx v I oI C oC D m₂ hp tk E' (by omega) h hP hC hx F N off ne) (fun ok s' hq => ?_) fun _ _ e => e
    cases ok with
    | true =>
      simp only [if_true] at hq ⊢
      exact wpAny_mono hq (fun y s'' hq' => compEnd_mono hq' fun nx' hr => ih (i + 1) (ys ++ [y]) nx' (by omega) hr) fun _ _ e => e
    | false =>
      simp only [Bool.false_eq_true, if_false] at hq ⊢
      exact compEnd_mono hq fun nx' hr => ih (i + 1) ys nx' (by omega) hr
end

theorem ints_exist : ∀ {vs : List Value}, (∀ v ∈ vs, ∃ n t, v = Value.int n t) → ∃ ms, IntsAre vs ms
  | [], _ => ⟨[], .nil⟩
  | v :: vs, h => by
    obtain ⟨n, t, rfl⟩ := h v (by simp)
    obtain ⟨ms, hm⟩ := ints_exist (vs := vs) fun u hu => h u (by simp [hu])
    exact ⟨n :: ms, .cons n t hm⟩
theorem pick_ints {vs : List Value} {ns : List Int} (hi : IntsAre vs ns) (lo hi' st : Option Int) : ∃ ms, IntsAre (slicePick vs.toArray lo hi' st).toList ms ∧ ms.length ≤ ns.length := by
  obtain ⟨ms, hm⟩ := ints_exist (vs := (slicePick vs.toArray lo hi' st).toList) fun v hv => by
    unfold slicePick at hv
    simp only [List.mem_filterMap] at hv
    obtain ⟨j, _, hj⟩ := hv
    obtain ⟨n, t, e, _⟩ := hi.at j v (by simpa using hj)
    exact ⟨n, t, e⟩
  refine ⟨ms, hm, ?_⟩
  have h1 := slicePick_size_le vs.toArray lo hi' st
  have h2 := hm.length
  have h3 := hi.length
  simp only [Array.length_toList, List.size_toArray] at h1 h2
  omega
theorem slice3_ints {prog : Program} {w : World} {A : Around} {E : Value → Shared → Prop} {s : Shared} {h₀ : Heap} {L l : Addr} {m : Str → Option Value} {news : List (Addr × Obj)} {value slice : PySem.Expr} {vs : List Value} {ns : List Int} {vl vu vk : Value} {lo hi st : Option Int} {ops : List Value} {Q : Value → Shared → Prop}
    (F : Fr h₀ L s.heap m) (N : News h₀ L s.heap news) (hl : s.heap.IsList l vs.toArray) (pl : IsPart vl lo) (pu : IsPart vu hi) (pk : IsPart vk st) (h0 : st ≠ some 0) (hi' : IntsAre vs ns)
    (h : ∀ D us ms h', Fr h₀ L h' m → News h₀ L h' ((D, W.listOf us.toArray 0) :: news) → (∀ p ∈ news, p.1 < D) → IntsAre us ms → ms.length ≤ ns.length → Q (.ref D) { s with heap := h' })
    (hs : subscripted slice false (.ref l) (.ref s.heap.objs.size) = operate ops (getItem (.ref l) (.ref s.heap.objs.size))) (ht : ∀ r, letTemporaryGo value (.ref l) r = pure ()) (hz : ns.length ≤ sizeLine) :
    wpAny (model prog w) A (subscriptTail value slice (.ref l) (.ref s.heap.objs.size)) Q E { s with heap := s.heap.push { cls := .type "slice", data := .fields #[vl, vu, vk] } } := by
  obtain ⟨ms, hm, hlen⟩ := pick_ints hi' lo hi st
  exact kmk_slice3_lit F N hl pl pu pk h0 rfl (fun D h' F' N' l1 => h D _ ms h' F' N' l1 hm hlen) hs ht (by rw [List.size_toArray, hi'.length]; exact hz)
theorem hideQ {α : Type} {M : Model} {A : Around} {t : Sem α} {Q : α → Shared → Prop} {E : Value → Shared → Prop} {s : Shared} (h : ∀ K : α → Shared → Prop, (∀ v s', Q v s' → K v s') → wpAny M A t K E s) : wpAny M A t Q E s := h Q fun _ _ h => h
theorem ints4 {us : List Value} {a b c d : Int} (h : IntsAre us [a, b, c, d]) : ∃ t1 t2 t3 t4, us = [.int a t1, .int b t2, .int c t3, .int d t4] := by
  cases h with | cons _ _ h => cases h with | cons _ _ h => cases h with | cons _ _ h => cases h with | cons _ _ h => cases h; exact ⟨_, _, _, _, rfl⟩
theorem ints3 {us : List Value} {a b c : Int} (h : IntsAre us [a, b, c]) : ∃ t1 t2 t3, us = [.int a t1, .int b t2, .int c t3] := by
  cases h with | cons _ _ h => cases h with | cons _ _ h => cases h with | cons _ _ h => cases h; exact ⟨_, _, _, rfl⟩
theorem map_cut {h₀ h : Heap} {L : Addr} {m : Str → Option Value} (ps : List (Str × Value)) {P : Prop} (F : Fr h₀ L h m) (hps : ∀ p ∈ ps, m p.1 = some p.2) (k : ∀ u, Fr h₀ L h (kstB u ps) → P) : P := k m (fr_kstB hps F)
theorem toks_cut {α : Type} {M : Model} {A : Around} {t : Sem α} {Q : α → Shared → Prop} {E : Value → Shared → Prop} {s : Shared} {h : Heap} {n : Nat} (k : ∀ n', wpAny M A t Q E { s with heap := h, toks := n' }) : wpAny M A t Q E { s with heap := h, toks := n } := k n
end Mine
namespace Mine
open_top hd for PySem.Challenge.rw_re0074_03
theorem fillLaw : hd.heap_39 = hd.heap_39 ∧ PySem.Challenge.rw_re0074_03 = PySem.Challenge.rw_re0074_03 := by
  w_top off
  k_fill
  exact ⟨rfl, rfl⟩
local macro_rules | `(tactic| walk_at "call builtin:len") => `(tactic| (k_here; (with_reducible show wpAny _ _ (call (Value.builtin "len") [Value.ref _]) _ _ _); k_dflt (refine' PyProof.Rows.len_tuple (News.isTup (by k_asm) (by k_mem)) (by ((simp only [List.size_toArray]); omega)) ?_)))
local macro_rules | `(tactic| walk_at "subscriptTail Name Name ref int") => `(tactic| (k_here; k_dflt (refine' item_tupI (News.isTup (by k_asm) (by k_mem)) (by assumption) (by omega) (by omega) (by omega) ?_); intro t9'))
local macro_rules | `(tactic| walk_at "binaryOp Mult int int") => `(tactic| (k_here; (with_reducible show wpAny _ _ (binaryOp Operator.Mult (Value.int (Int.fdiv _ _) _) (Value.int _ _)) _ _ _); refine PyProof.Rows.mul_int (hm := mulOk_div (by omega) (by omega) (by omega)) ?_))
local macro_rules | `(tactic| k_ne) => `(tactic| first | ((refine neN ?_); (try dsimp only); first | assumption | (refine Ne.symm ?_; assumption)) | ((refine neN ?_); (try dsimp only); first | exact off1_ne (by assumption) (by k_mem) | exact Ne.symm (off1_ne (by assumption) (by k_mem))) | (refine neN ?_; (try dsimp only); omega) | ((try dsimp only); exact ne_news (by assumption) (by k_mem) (by k_mem) (by first | exact type_ne (by decide) | (intro hh; cases hh))))
local macro_rules | `(tactic| lcg_off) => `(tactic| assumption)
local macro_rules | `(tactic| walk_at "FinE") => `(tactic| ((unfold LCg.FinE); intro D' h' tk' F' N' o1'; (try simp only [List.nil_append, List.cons_append] at N'); (try dsimp only)))
local macro_rules | `(tactic| walk_at "FinA") => `(tactic| ((unfold LCg.FinA); intro D' h' tk' F' N' o1'; (try simp only [List.nil_append, List.cons_append] at N'); (try dsimp only)))
section
variable {w : World} {mean : ExcName → Option Value} {mg mb : Str → Option Value} {dp un : Nat} {gd : Option (List Code)} {cn : Str} {cs : Scope} {a : Addr} {ccd : Value} {cl : List (Str × Addr)} {outer : List Env} {A₀ : Around} {base h₀ : Heap} {L : Addr} {m : Str → Option Value} {s : Shared} {Q E : Value → Shared → Prop} {news : List (Addr × Obj)}
@[irreducible] noncomputable def isb (i : Int) : Bool := if i = 0 then false else Builtin.bitAnd i (i - 1) == 0

theorem isb_spec {i : Int} {t : Tok} (B : Below A₀ base outer h₀) (F : Fr h₀ L s.heap m) (X : (hd.heap_39 w.params).In h₀) (N : News h₀ L s.heap news) (T : Top hd.view_39 (looseW hd.view_39 [Str.ofString "Whitespace"]) mean mg mb h₀) (hk : cs.kind = .function) (hdp : dp + 1 < recursionLimit) (hun : un + 8 < cLine)
    (hret : ∀ (t : Tok) h' tk', Fr h₀ L h' m → News h₀ L h' news → Q (.bool (isb i)) {s with heap := h', toks := tk'}) :
    wpAny (model PySem.Challenge.rw_re0074_03.row.prog w) (ktrTop dp un gd cn cs L a ccd cl outer) (call (.ref 94) [.int i t]) Q E s := by
  refine wpAny_call ?_
  k_dflt (refine' enterZ (lit := []) ?k1 ?k2 ?k3 ?k4 ?k5 ?ksub ?kA ?kF ?kK ?k6 ?k7 ?k8 ?k9 ?kB ?_ ?c2 ?c3 ?c4 ?c5; (case kA => exact rfl); (case kF => exact rfl); (case kK => first | assumption | exact rfl); (case k1 => k_asm); (case k2 => k_asm); (case k3 => k_asm); (case k4 => k_asm); (case k5 => k_asm); (case ksub => (first | exact List.forall_mem_nil _ | (repeat (refine sub_cons (by assumption) ?_)); exact List.forall_mem_nil _)); (case k6 => k_is); (case k7 => k_is); (case k8 => ktr_room); (case k9 => exact BindsTo.of_eq rfl); (case c5 => decide); (case kB => exact locs rfl); (case c2 => exact rfl); (case c3 => exact rfl); (case c4 => exact rfl); k_whole; intro g' L' h' F' N' B' X' T' l0; (try k_lt l0); (try dsimp only); (try k_fold))
  k_steps
  · unfold OutZ; intro hz; dsimp only
    exact cb_retB hret (by unfold isb; rw [if_pos (by assumption)]) (by k_asm) (news_join (by k_asm) (List.forall_mem_nil _) (tl := []) (List.forall_mem_nil _) hz N)
  · unfold OutZ; intro hz; dsimp only
    exact cb_retB hret (by unfold isb; rw [if_neg (by assumption)]) (by k_asm) (news_join (by k_asm) (List.forall_mem_nil _) (tl := []) (List.forall_mem_nil _) hz N)

@[irreducible] noncomputable def hbit (i : Int) : Int := (Builtin.Int.intBits i : Int) - 1

theorem hb_spec {i : Int} {t : Tok} (B : Below A₀ base outer h₀) (F : Fr h₀ L s.heap m) (X : (hd.heap_39 w.params).In h₀) (N : News h₀ L s.heap news) (T : Top hd.view_39 (looseW hd.view_39 [Str.ofString "Whitespace"]) mean mg mb h₀) (hk : cs.kind = .function) (hdp : dp + 1 < recursionLimit) (hun : un + 8 < cLine)
    (hret : ∀ (t : Tok) h' tk', Fr h₀ L h' m → News h₀ L h' news → Q (.int (hbit i) t) {s with heap := h', toks := tk'}) :
    wpAny (model PySem.Challenge.rw_re0074_03.row.prog w) (ktrTop dp un gd cn cs L a ccd cl outer) (call (.ref 101) [.int i t]) Q E s := by
  refine wpAny_call ?_
  k_dflt (refine' enterZ (lit := []) ?k1 ?k2 ?k3 ?k4 ?k5 ?ksub ?kA ?kF ?kK ?k6 ?k7 ?k8 ?k9 ?kB ?_ ?c2 ?c3 ?c4 ?c5; (case kA => exact rfl); (case kF => exact rfl); (case kK => first | assumption | exact rfl); (case k1 => k_asm); (case k2 => k_asm); (case k3 => k_asm); (case k4 => k_asm); (case k5 => k_asm); (case ksub => (first | exact List.forall_mem_nil _ | (repeat (refine sub_cons (by assumption) ?_)); exact List.forall_mem_nil _)); (case k6 => k_is); (case k7 => k_is); (case k8 => ktr_room); (case k9 => exact BindsTo.of_eq rfl); (case c5 => decide); (case kB => exact locs rfl); (case c2 => exact rfl); (case c3 => exact rfl); (case c4 => exact rfl); k_whole; intro g' L' h' F' N' B' X' T' l0; (try k_lt l0); (try dsimp only); (try k_fold))
  k_steps
  unfold OutZ; intro hz; dsimp only
  exact cb_retI hret (by unfold hbit; rfl) (by k_asm) (news_join (by k_asm) (List.forall_mem_nil _) (tl := []) (List.forall_mem_nil _) hz N)
end
section
variable {w : World} {mean : ExcName → Option Value} {mg mb : Str → Option Value} {dp un : Nat} {gd : Option (List Code)} {cn : Str} {cs : Scope} {a : Addr} {ccd : Value} {cl : List (Str × Addr)} {outer : List Env} {A₀ : Around} {base h₀ : Heap} {L : Addr} {m : Str → Option Value} {s : Shared} {Q E : Value → Shared → Prop} {news : List (Addr × Obj)}
abbrev leadDict (w : World) (ws : Str) (c : List Int) (n nt : Int) (tn : Addr) (k1 k2 k3 k4 k5 t1 t2 t3 : Tok) : Obj :=
  dictOf [⟨PyData.keyHash w.params (Str.ofString "raw"), .str (Str.ofString "raw") k1, .str ws t1⟩,
      ⟨PyData.keyHash w.params (Str.ofString "n"), .str (Str.ofString "n") k2, .int n t2⟩,
      ⟨PyData.keyHash w.params (Str.ofString "nt"), .str (Str.ofString "nt") k3, .int nt t3⟩,
      ⟨PyData.keyHash w.params (Str.ofString "norm"), .str (Str.ofString "norm") k4, .ref tn⟩,
      ⟨PyData.keyHash w.params (Str.ofString "is_simple"), .str (Str.ofString "is_simple") k5, .bool (decide ((c.length : Int) ≤ 1))⟩] 5
abbrev tupO (l : List Value) (e : Nat) : Obj := { cls := .type "tuple", data := .seq l.toArray e }
/-- the ledger bears at x a lead whose counts are c -/
noncomputable def LeadIn (w : World) (news : List (Addr × Obj)) (x : Addr) (c : List Int) (n nt : Int) : Prop :=
  ∃ (dx tn tc : Addr) (ws : Str) (vs : List Value) (k1 k2 k3 k4 k5 t1 t2 t3 t4 : Tok) (e1 e2 : Nat),
    (x, instObj 83 dx) ∈ news ∧ (dx, leadDict w ws c n nt tn k1 k2 k3 k4 k5 t1 t2 t3) ∈ news ∧
    (tn, tupO [.ref tc, .int 0 t4] e1) ∈ news ∧ (tc, tupO vs e2) ∈ news ∧ IntsAre vs c

theorem LeadIn.mk {w : World} {news : List (Addr × Obj)} {x dx tn tc : Addr} {ws : Str} {vs : List Value} {c : List Int} {n nt : Int} {k1 k2 k3 k4 k5 t1 t2 t3 t4 : Tok} {e1 e2 : Nat} (m1 : (x, instObj 83 dx) ∈ news) (m2 : (dx, leadDict w ws c n nt tn k1 k2 k3 k4 k5 t1 t2 t3) ∈ news)
    (m3 : (tn, tupO [.ref tc, .int 0 t4] e1) ∈ news) (m4 : (tc, tupO vs e2) ∈ news) (hI : IntsAre vs c) : LeadIn w news x c n nt :=
  ⟨dx, tn, tc, ws, vs, k1, k2, k3, k4, k5, t1, t2, t3, t4, e1, e2, m1, m2, m3, m4, hI⟩
theorem LeadIn.out {w : World} {news : List (Addr × Obj)} {x : Addr} {c : List Int} {n nt : Int} {P : Prop} (h : LeadIn w news x c n nt) (k : ∀ (dx tn tc : Addr) (ws : Str) (vs : List Value) (k1 k2 k3 k4 k5 t1 t2 t3 t4 : Tok) (e1 e2 : Nat),
    (x, instObj 83 dx) ∈ news → (dx, leadDict w ws c n nt tn k1 k2 k3 k4 k5 t1 t2 t3) ∈ news → (tn, tupO [.ref tc, .int 0 t4] e1) ∈ news → (tc, tupO vs e2) ∈ news → IntsAre vs c → P) : P := by
  obtain ⟨dx, tn, tc, ws, vs, k1, k2, k3, k4, k5, t1, t2, t3, t4, e1, e2, m1, m2, m3, m4, hI⟩ := h
  exact k dx tn tc ws vs k1 k2 k3 k4 k5 t1 t2 t3 t4 e1 e2 m1 m2 m3 m4 hI
theorem LeadIn.mono {w : World} {news news' : List (Addr × Obj)} {x : Addr} {c : List Int} {n nt : Int} (h : LeadIn w news x c n nt) (hs : ∀ p ∈ news, p ∈ news') : LeadIn w news' x c n nt := by
  obtain ⟨dx, tn, tc, ws, vs, k1, k2, k3, k4, k5, t1, t2, t3, t4, e1, e2, m1, m2, m3, m4, hI⟩ := h
  exact ⟨dx, tn, tc, ws, vs, k1, k2, k3, k4, k5, t1, t2, t3, t4, e1, e2, hs _ m1, hs _ m2, hs _ m3, hs _ m4, hI⟩

@[irreducible] noncomputable def longP (c : List Int) : Int := if (0 : Int) > (c.length : Int) - 1 then 0 else (c.length : Int) - 1

theorem long_spec {x : Addr} {c : List Int} {n nt : Int} (B : Below A₀ base outer h₀) (F : Fr h₀ L s.heap m) (X : (hd.heap_39 w.params).In h₀) (N : News h₀ L s.heap news) (T : Top hd.view_39 (looseW hd.view_39 [Str.ofString "Whitespace"]) mean mg mb h₀) (hk : cs.kind = .function) (hdp : dp + 1 < recursionLimit) (hun : un + 8 < cLine)
    (hl : LeadIn w news x c n nt) (hc : c.length < 1000)
    (hret : ∀ t h' tk', Fr h₀ L h' m → News h₀ L h' news → Q (.int (longP c) t) {s with heap := h', toks := tk'}) :
    wpAny (model PySem.Challenge.rw_re0074_03.row.prog w) (ktrTop dp un gd cn cs L a ccd cl outer) (call (.ref 45) [.ref x]) Q E s := by
  refine hl.out ?_
  intro dx tn tc ws vs k1 k2 k3 k4 k5 t1 t2 t3 t4 e1 e2 m1 m2 m3 m4 hI
  have hlen := IntsAre.length hI
  refine wpAny_call ?_
  k_dflt (refine' enterZ (lit := [(x, instObj 83 dx), (dx, leadDict w ws c n nt tn k1 k2 k3 k4 k5 t1 t2 t3), (tn, tupO [.ref tc, .int 0 t4] e1), (tc, tupO vs e2)]) ?k1 ?k2 ?k3 ?k4 ?k5 ?ksub ?kA ?kF ?kK ?k6 ?k7 ?k8 ?k9 ?kB ?_ ?c2 ?c3 ?c4 ?c5; (case kA => exact rfl); (case kF => exact rfl); (case kK => first | assumption | exact rfl); (case k1 => k_asm); (case k2 => k_asm); (case k3 => k_asm); (case k4 => k_asm); (case k5 => k_asm); (case ksub => (first | exact List.forall_mem_nil _ | (repeat (refine sub_cons (by assumption) ?_)); exact List.forall_mem_nil _)); (case k6 => k_is); (case k7 => k_is); (case k8 => ktr_room); (case k9 => exact BindsTo.of_eq rfl); (case c5 => decide); (case kB => exact locs rfl); (case c2 => exact rfl); (case c3 => exact rfl); (case c4 => exact rfl); k_whole; intro g' L' h' F' N' B' X' T' l0; (try k_lt l0); (try dsimp only); (try k_fold))
  k_steps
  unfold OutZ; intro hz; dsimp only
  exact cb_retI hret (by unfold longP; simp only [List.size_toArray, hlen]) (by k_asm) (news_join (by k_asm) (fun _ h => h) (tl := []) (List.forall_mem_nil _) hz N)

noncomputable def ilsum (c : List Int) (ts : Int) (pre : List Int) : Int := (pre.map fun i => Int.fdiv i ts * c.getD i.toNat 0).sum
theorem ilsum_snoc {c : List Int} {ts il : Int} {pre : List Int} {k : Int} (h : il = ilsum c ts pre) : il + Int.fdiv k ts * c.getD k.toNat 0 = ilsum c ts (pre ++ [k]) := by
  subst h; simp [ilsum]
/-- indent_level -/
@[irreducible] noncomputable def ilP (c : List Int) (nt ts : Int) : Int := 0 + ts * (ilsum c ts (rangeKs ts ((c.length : Int) - ts).toNat) + nt)

theorem il_spec {x : Addr} {c : List Int} {n nt ts : Int} {tt : Tok} (B : Below A₀ base outer h₀) (F : Fr h₀ L s.heap m) (X : (hd.heap_39 w.params).In h₀) (N : News h₀ L s.heap news) (T : Top hd.view_39 (looseW hd.view_39 [Str.ofString "Whitespace"]) mean mg mb h₀) (hk : cs.kind = .function) (hdp : dp + 1 < recursionLimit) (hun : un + 8 < cLine)
    (hl : LeadIn w news x c n nt) (hc : c.length < 1000) (hts : 1 ≤ ts) (hts2 : ts < 1000)
    (hret : ∀ t h' tk', Fr h₀ L h' m → News h₀ L h' news → Q (.int (ilP c nt ts) t) {s with heap := h', toks := tk'}) :
    wpAny (model PySem.Challenge.rw_re0074_03.row.prog w) (ktrTop dp un gd cn cs L a ccd cl outer) (call (.ref 52) [.ref x, .int ts tt]) Q E s := by
  refine hl.out ?_
  intro dx tn tc ws vs k1 k2 k3 k4 k5 t1 t2 t3 t4 e1 e2 m1 m2 m3 m4 hI
  have hlen := IntsAre.length hI
  refine wpAny_call ?_
  k_dflt (refine' enterZ (lit := [(x, instObj 83 dx), (dx, leadDict w ws c n nt tn k1 k2 k3 k4 k5 t1 t2 t3), (tn, tupO [.ref tc, .int 0 t4] e1), (tc, tupO vs e2)]) ?k1 ?k2 ?k3 ?k4 ?k5 ?ksub ?kA ?kF ?kK ?k6 ?k7 ?k8 ?k9 ?kB ?_ ?c2 ?c3 ?c4 ?c5; (case kA => exact rfl); (case kF => exact rfl); (case kK => first | assumption | exact rfl); (case k1 => k_asm); (case k2 => k_asm); (case k3 => k_asm); (case k4 => k_asm); (case k5 => k_asm); (case ksub => (first | exact List.forall_mem_nil _ | (repeat (refine sub_cons (by assumption) ?_)); exact List.forall_mem_nil _)); (case k6 => k_is); (case k7 => k_is); (case k8 => ktr_room); (case k9 => exact BindsTo.of_eq rfl); (case c5 => decide); (case kB => exact locs rfl); (case c2 => exact rfl); (case c3 => exact rfl); (case c4 => exact rfl); k_whole; intro g' L' h' F' N' B' X' T' l0; (try k_lt l0); (try dsimp only); (try k_fold))
  refine hideQ ?_
  intro K hK
  k_with "pyIter ref" => k_state (fun pre il => il = ilsum c ts pre) "il"
  k_with "state" => first | exact ilsum_snoc (by assumption) | (simp only [ilsum, List.map_nil, List.sum_nil]; done)
  k_steps
  refine hK _ _ ?_
  k_steps
  unfold OutZ; intro hz; dsimp only
  exact cb_retI hret (by unfold ilP; rw [kInv]) (by k_asm) (news_join (by k_asm) (fun _ h => h) (tl := []) (List.forall_mem_nil _) hz N)
end
local macro_rules | `(tactic| walk_at "call ref") => `(tactic| (k_here; (try dsimp only [List.cons_append, List.nil_append, List.append_nil]); first | ((with_reducible show wpAny _ _ (call (Value.ref 52) _) _ _ _); k_dflt (refine' il_spec (by k_asm) (by k_asm) (by k_asm) (by k_asm) (by k_asm) (by first | assumption | exact rfl) (by ktr_room) (by ktr_units) (LeadIn.mk (by k_mem) (by k_mem) (by k_mem) (by k_mem) (by assumption)) (by assumption) (by omega) (by omega) ?_); intros; (try dsimp only)) | ((with_reducible show wpAny _ _ (call (Value.ref 45) _) _ _ _); k_dflt (refine' long_spec (by k_asm) (by k_asm) (by k_asm) (by k_asm) (by k_asm) (by first | assumption | exact rfl) (by ktr_room) (by ktr_units) (LeadIn.mk (by k_mem) (by k_mem) (by k_mem) (by k_mem) (by assumption)) (by first | assumption | omega) ?_); intros; (try dsimp only))))
local macro_rules | `(tactic| walk_at "call ref") => `(tactic| (k_here; (try dsimp only [List.cons_append, List.nil_append, List.append_nil]); first | ((with_reducible show wpAny _ _ (call (Value.ref 94) _) _ _ _); k_dflt (refine' isb_spec (by k_asm) (by k_asm) (by k_asm) (by k_asm) (by k_asm) (by first | assumption | exact rfl) (by ktr_room) (by ktr_units)  ?_); intros; (try dsimp only)) | ((with_reducible show wpAny _ _ (call (Value.ref 101) _) _ _ _); k_dflt (refine' hb_spec (by k_asm) (by k_asm) (by k_asm) (by k_asm) (by k_asm) (by first | assumption | exact rfl) (by ktr_room) (by ktr_units)  ?_); intros; (try dsimp only))))
section
variable {w : World} {mean : ExcName → Option Value} {mg mb : Str → Option Value} {dp un : Nat} {gd : Option (List Code)} {cn : Str} {cs : Scope} {a : Addr} {ccd : Value} {cl : List (Str × Addr)} {outer : List Env} {A₀ : Around} {base h₀ : Heap} {L : Addr} {m : Str → Option Value} {s : Shared} {Q E : Value → Shared → Prop} {news : List (Addr × Obj)}
noncomputable def rowD (c1 : List Int) (nt1 : Int) (c2 : List Int) (nt2 : Int) (ts : Int) : Dat := .tuple [.int ts, .int (ilP c1 nt1 ts), .int (ilP c2 nt2 ts)]
/-- what not_equal_witness names of the sizes pre -/
@[irreducible] noncomputable def rowsP (c1 : List Int) (nt1 : Int) (c2 : List Int) (nt2 : Int) (pre : List Int) : List Dat :=
  (pre.filter fun ts => ilP c1 nt1 ts != ilP c2 nt2 ts).map (rowD c1 nt1 c2 nt2)

/-- not_equal_witness -/
@[irreducible] noncomputable def namedP (c1 : List Int) (nt1 : Int) (c2 : List Int) (nt2 : Int) : List Dat :=
  rowsP c1 nt1 c2 nt2 (rangeKs 1 ((if longP c2 > longP c1 then longP c2 else longP c1) + 1 + 1 - 1).toNat)
theorem rows_snoc1 {c d : List Int} {nt nt2 k : Int} {pre : List Int} (h : (rowsP c nt d nt2 pre).length ≤ pre.length) (hne : ilP c nt k ≠ ilP d nt2 k) :
    (rowsP c nt d nt2 pre ++ [Dat.tuple [Dat.int k, Dat.int (ilP c nt k), Dat.int (ilP d nt2 k)]]).length ≤ (pre ++ [k]).length ∧ rowsP c nt d nt2 pre ++ [Dat.tuple [Dat.int k, Dat.int (ilP c nt k), Dat.int (ilP d nt2 k)]] = rowsP c nt d nt2 (pre ++ [k]) := by
  refine ⟨by simp only [List.length_append, List.length_singleton]; omega, ?_⟩
  simp [rowsP, rowD, List.filter_append, hne]
theorem rows_snoc0 {c d : List Int} {nt nt2 k : Int} {pre : List Int} (h : (rowsP c nt d nt2 pre).length ≤ pre.length) (hne : ilP c nt k = ilP d nt2 k) :
    (rowsP c nt d nt2 pre).length ≤ (pre ++ [k]).length ∧ rowsP c nt d nt2 pre = rowsP c nt d nt2 (pre ++ [k]) := by
  refine ⟨by simp only [List.length_append, List.length_singleton]; omega, ?_⟩
  simp [rowsP, List.filter_append, hne]
theorem rows_nil {c d : List Int} {nt nt2 : Int} : ([] : List Dat).length ≤ ([] : List Int).length ∧ ([] : List Dat) = rowsP c nt d nt2 [] := ⟨Nat.le_refl _, by unfold rowsP; rfl⟩

theorem new_spec {x y : Addr} {c d : List Int} {n nt n2 nt2 : Int} (B : Below A₀ base outer h₀) (F : Fr h₀ L s.heap m) (X : (hd.heap_39 w.params).In h₀) (N : News h₀ L s.heap news) (T : Top hd.view_39 (looseW hd.view_39 [Str.ofString "Whitespace"]) mean mg mb h₀) (hk : cs.kind = .function) (hdp : dp + 2 < recursionLimit) (hun : un + 20 < cLine)
    (hl : LeadIn w news x c n nt) (hl2 : LeadIn w news y d n2 nt2) (hc : c.length < 100) (hd : d.length < 100)
    (hret : ∀ ra us k tl h' tk', Fr h₀ L h' m → News h₀ L h' ((ra, W.listOf us.toArray k) :: (tl ++ news)) → DatAll (tl ++ news) us (namedP c nt d nt2) → Q (.ref ra) {s with heap := h', toks := tk'}) :
    wpAny (model PySem.Challenge.rw_re0074_03.row.prog w) (ktrTop dp un gd cn cs L a ccd cl outer) (call (.ref 66) [.ref x, .ref y]) Q E s := by
  refine hl.out ?_
  intro dx tn tc ws vs k1 k2 k3 k4 k5 t1 t2 t3 t4 e1 e2 m1 m2 m3 m4 hI
  refine hl2.out ?_
  intro dy un1 uc ws' us k1' k2' k3' k4' k5' t1' t2' t3' t4' e1' e2' m1' m2' m3' m4' hI'
  have hlen := IntsAre.length hI
  have hlen' := IntsAre.length hI'
  have hc' : c.length < 1000 := by omega
  have hb1 : 0 ≤ longP c ∧ longP c < 100 := by unfold longP; split <;> omega
  have hb2 : 0 ≤ longP d ∧ longP d < 100 := by unfold longP; split <;> omega
  have hd' : d.length < 1000 := by omega
  refine wpAny_call ?_
  k_dflt (refine' enterZ (lit := [(x, instObj 83 dx), (dx, leadDict w ws c n nt tn k1 k2 k3 k4 k5 t1 t2 t3), (tn, tupO [.ref tc, .int 0 t4] e1), (tc, tupO vs e2), (y, instObj 83 dy), (dy, leadDict w ws' d n2 nt2 un1 k1' k2' k3' k4' k5' t1' t2' t3'), (un1, tupO [.ref uc, .int 0 t4'] e1'), (uc, tupO us e2')]) ?k1 ?k2 ?k3 ?k4 ?k5 ?ksub ?kA ?kF ?kK ?k6 ?k7 ?k8 ?k9 ?kB ?_ ?c2 ?c3 ?c4 ?c5; (case kA => exact rfl); (case kF => exact rfl); (case kK => first | assumption | exact rfl); (case k1 => k_asm); (case k2 => k_asm); (case k3 => k_asm); (case k4 => k_asm); (case k5 => k_asm); (case ksub => (first | exact List.forall_mem_nil _ | (repeat (refine sub_cons (by assumption) ?_)); exact List.forall_mem_nil _)); (case k6 => k_is); (case k7 => k_is); (case k8 => ktr_room); (case k9 => exact BindsTo.of_eq rfl); (case c5 => decide); (case kB => exact locs rfl); (case c2 => exact rfl); (case c3 => exact rfl); (case c4 => exact rfl); k_whole; intro g' L' h' F' N' B' X' T' l0; (try k_lt l0); (try dsimp only); (try k_fold))
  k_with_none
  k_with "pyIter ref" => k_dat (fun pre out => out.length ≤ pre.length ∧ out = rowsP c nt d nt2 pre) "a*"
  k_with "state" => first | exact rows_nil | exact rows_snoc1 (by assumption) (by assumption) | exact rows_snoc0 (by assumption) (by assumption)
  refine hideQ ?_
  intro K hK
  k_steps
  refine hK _ _ ?_
  k_steps
  unfold OutZ; intro hz; dsimp only
  rename DatAll _ _ _ => hD
  rename News h₀ L _ (_ :: _) => hN
  have hsub : ∀ p ∈ [(x, instObj 83 dx), (dx, leadDict w ws c n nt tn k1 k2 k3 k4 k5 t1 t2 t3), (tn, tupO [.ref tc, .int 0 t4] e1), (tc, tupO vs e2), (y, instObj 83 dy), (dy, leadDict w ws' d n2 nt2 un1 k1' k2' k3' k4' k5' t1' t2' t3'), (un1, tupO [.ref uc, .int 0 t4'] e1'), (uc, tupO us e2')], p ∈ news := by
    repeat (refine List.forall_mem_cons.mpr ⟨by assumption, ?_⟩)
    exact List.forall_mem_nil _
  refine hret _ _ _ kTl _ _ (by k_asm) (news_back (hd := [_]) (lit := [_, _, _, _, _, _, _, _]) hN hz N) ?_
  unfold namedP
  exact DatAll.mono (sub_back (lit := [_, _, _, _, _, _, _, _]) hsub) hD
end
section
variable {w : World} {mean : ExcName → Option Value} {mg mb : Str → Option Value} {dp un : Nat} {gd : Option (List Code)} {cn : Str} {cs : Scope} {a : Addr} {ccd : Value} {cl : List (Str × Addr)} {outer : List Env} {A₀ : Around} {base h₀ : Heap} {L : Addr} {m : Str → Option Value} {s : Shared} {Q E : Value → Shared → Prop} {news : List (Addr × Obj)}
set_option genSizeOf false in
set_option genInjectivity false in
structure WS where
  ca : Addr
  vs : List Value
  k : Nat
  c : List Int
  b : Int
  n : Int
  nt : Int
  tb : Tok
  tn : Tok
  tt : Tok
  sS : Tok
  sT : Tok
/-- one run of b blanks and its tab more -/
@[irreducible] noncomputable def incAt (c : List Int) (b : Int) : List Int :=
  if b ≥ (c.length : Int) then (c ++ List.replicate (b - c.length + 1).toNat 0).set b.toNat ((c ++ List.replicate (b - c.length + 1).toNat 0).getD b.toNat 0 + 1) else c.set b.toNat (c.getD b.toNat 0 + 1)
noncomputable def wsStep (st : List Int × Int × Int × Int) (code : Nat) : List Int × Int × Int × Int :=
  if code = 32 then (st.1, st.2.1 + 1, st.2.2.1 + 1, st.2.2.2) else (incAt st.1 st.2.1, 0, st.2.2.1 + 1, st.2.2.2 + 1)
noncomputable def WSInv (ws : Str) (i : Nat) (st : WS) : Prop :=
  IntsAre st.vs st.c ∧ (ws.cps.toList.take i).foldl wsStep ([], 0, 0, 0) = (st.c, st.b, st.n, st.nt) ∧ 0 ≤ st.b ∧ st.b ≤ i ∧ st.c.length ≤ i ∧ i ≤ ws.cps.size

theorem take_succ_code {ws : Str} {i code : Nat} (hcode : ws.cps[i]? = some code) : ws.cps.toList.take (i + 1) = ws.cps.toList.take i ++ [code] := by
  rw [List.take_add_one]
  have : ws.cps.toList[i]? = some code := by simpa using hcode
  rw [this]; rfl
theorem size_of_code {ws : Str} {i code : Nat} (hcode : ws.cps[i]? = some code) : i + 1 ≤ ws.cps.size := (Array.getElem?_eq_some_iff.mp hcode).1
theorem ws_blank {ws : Str} {i : Nat} {ca : Addr} {vs : List Value} {k : Nat} {c : List Int} {b n nt : Int} {t1 t2 t3 t4 t5 : Tok} (hI : IntsAre vs c) (hfold : (ws.cps.toList.take i).foldl wsStep ([], 0, 0, 0) = (c, b, n, nt)) (hb0 : 0 ≤ b) (hbi : b ≤ i) (hci : c.length ≤ i)
    (hcode : ws.cps[i]? = some 32) : WSInv ws (i + 1) ⟨ca, vs, k, c, b + 1, n + 1, nt, t1, t2, t3, t4, t5⟩ := by
  refine ⟨hI, ?_, ?_, ?_, ?_, size_of_code hcode⟩
  · rw [take_succ_code hcode, List.foldl_append, hfold]; rfl
  · dsimp only; omega
  · dsimp only; omega
  · dsimp only; omega
theorem incAt_length {c : List Int} {b : Int} (h : 0 ≤ b) : (incAt c b).length = max c.length (b.toNat + 1) := by
  unfold incAt
  split
  · rw [List.length_set, List.length_append, List.length_replicate]; omega
  · rw [List.length_set]; omega
theorem ws_tab {ws : Str} {i : Nat} {ca : Addr} {vs : List Value} {k : Nat} {c : List Int} {b n nt : Int} {t1 t2 t3 t4 t5 : Tok} (hI : IntsAre vs (incAt c b)) (hfold : (ws.cps.toList.take i).foldl wsStep ([], 0, 0, 0) = (c, b, n, nt)) (hb0 : 0 ≤ b) (hbi : b ≤ i) (hci : c.length ≤ i)
    (hcode : ws.cps[i]? = some 9) : WSInv ws (i + 1) ⟨ca, vs, k, incAt c b, 0, n + 1, nt + 1, t1, t2, t3, t4, t5⟩ := by
  refine ⟨hI, ?_, ?_, ?_, ?_, size_of_code hcode⟩
  · rw [take_succ_code hcode, List.foldl_append, hfold]; rfl
  · exact Int.le_refl _
  · dsimp only; omega
  · dsimp only; rw [incAt_length hb0]; omega
theorem flat_rep (k : Nat) : (List.replicate k [(0 : Int)]).flatten = List.replicate k 0 := by
  induction k with
  | zero => rfl
  | succ k ih => rw [List.replicate_succ, List.flatten_cons, ih, List.replicate_succ]; rfl
theorem incAt_long {vs : List Value} {c : List Int} {b : Int} (h : (c.length : Int) ≤ b) (hI : IntsAre vs ((c ++ (List.replicate (b - c.length + 1).toNat [(0 : Int)]).flatten).set b.toNat ((c ++ (List.replicate (b - c.length + 1).toNat [(0 : Int)]).flatten).getD b.toNat 0 + 1))) : IntsAre vs (incAt c b) := by
  unfold incAt
  rw [if_pos h]
  rw [flat_rep] at hI
  exact hI
theorem incAt_short {vs : List Value} {c : List Int} {b : Int} (h : ¬ (c.length : Int) ≤ b) (hI : IntsAre vs (c.set b.toNat (c.getD b.toNat 0 + 1))) : IntsAre vs (incAt c b) := by
  unfold incAt
  rw [if_neg h]
  exact hI

theorem make_spec {ws : Str} {t : Tok} (B : Below A₀ base outer h₀) (F : Fr h₀ L s.heap m) (X : (hd.heap_39 w.params).In h₀) (N : News h₀ L s.heap news) (T : Top hd.view_39 (looseW hd.view_39 [Str.ofString "Whitespace"]) mean mg mb h₀) (hk : cs.kind = .function) (hdp : dp + 4 < recursionLimit) (hun : un + 20 < cLine)
    (hcodes : ∀ code ∈ ws.cps.toList, code = 32 ∨ code = 9) (hws : ws.cps.size < 1000)
    {c₀ : List Int} {n₀ nt₀ : Int} (hfin : ws.cps.toList.foldl wsStep ([], 0, 0, 0) = (c₀, 0, n₀, nt₀))
    (hret : ∀ x dx tn tc vs k1 k2 k3 k4 k5 t1 t2 t3 t4 e1 e2 h' tk', Fr h₀ L h' m → News h₀ L h' ((x, instObj 83 dx) :: (dx, leadDict w ws c₀ n₀ nt₀ tn k1 k2 k3 k4 k5 t1 t2 t3) :: (tn, tupO [.ref tc, .int 0 t4] e1) :: (tc, tupO vs e2) :: news) → IntsAre vs c₀ → c₀.length ≤ ws.cps.size → Q (.ref x) {s with heap := h', toks := tk'}) :
    wpAny (model PySem.Challenge.rw_re0074_03.row.prog w) (ktrTop dp un gd cn cs L a ccd cl outer) (call (.ref 83) [.str ws t]) Q E s := by
  have hascii : ws.cps.all (· < 128) = true := by
    rw [← Array.all_toList, List.all_eq_true]
    intro c hc
    rcases hcodes c hc with rfl | rfl <;> rfl
  k_with_none
  k_dflt (refine' call_cls ?k1 ?k2 ?k3 ?k4 ?k5 ?k6 ?_; (case k1 => k_asm); (case k2 => k_asm); (case k3 => k_asm); (case k4 => k_is); (case k5 => k_is); (case k6 => k_is); k_whole)
  intro x dx h1 F1 N1 l1 l2
  k_lt2 l2
  have m1 : (x, instObj 83 dx) ∈ (x, instObj 83 dx) :: (dx, dictOf [] 0) :: news := by k_mem
  have m2 : (dx, dictOf [] 0) ∈ (x, instObj 83 dx) :: (dx, dictOf [] 0) :: news := by k_mem
  k_dflt (refine' enterZ (lit := [(x, instObj 83 dx), (dx, dictOf [] 0)]) ?k1 ?k2 ?k3 ?k4 ?k5 ?ksub ?kA ?kF ?kK ?k6 ?k7 ?k8 ?k9 ?kB ?_ ?c2 ?c3 ?c4 ?c5; (case kA => exact rfl); (case kF => exact rfl); (case kK => first | assumption | exact rfl); (case k1 => k_asm); (case k2 => k_asm); (case k3 => k_asm); (case k4 => k_asm); (case k5 => k_asm); (case ksub => (first | exact List.forall_mem_nil _ | (repeat (refine sub_cons (by assumption) ?_)); exact List.forall_mem_nil _)); (case k6 => k_is); (case k7 => k_is); (case k8 => ktr_room); (case k9 => exact BindsTo.of_eq rfl); (case c5 => decide); (case kB => exact locs rfl); (case c2 => exact rfl); (case c3 => exact rfl); (case c4 => exact rfl); k_whole; intro g' L' h' F' N' B' X' T' l0; (try k_lt l0); (try dsimp only); (try k_fold))
  k_steps
  rename News g' L' _ _ => hN
  obtain ⟨kt, hN1⟩ : ∃ kt, News g' L' _ [(_, W.listOf ([] : List Value).toArray 0), (x, instObj 83 dx), (dx, dictOf [⟨PyData.keyHash w.params (Str.ofString "raw"), .str (Str.ofString "raw") kt, .str ws t⟩] 1)] :=
    ⟨_, fun p hp => hN p (by revert p; refine List.forall_mem_cons.mpr ⟨by k_mem, List.forall_mem_cons.mpr ⟨by k_mem, sub_cons (by k_mem) (List.forall_mem_nil _)⟩⟩)⟩
  clear hN
  refine' text_loop (σ := WS) hascii rfl (fun st => [(st.ca, W.listOf st.vs.toArray st.k), (x, instObj 83 dx), (dx, dictOf [⟨PyData.keyHash w.params (Str.ofString "raw"), .str (Str.ofString "raw") kt, .str ws t⟩] 1)])
    (fun st => [(Str.ofString "count", .ref st.ca), (Str.ofString "b", .int st.b st.tb), (Str.ofString "n", .int st.n st.tn), (Str.ofString "nt", .int st.nt st.tt), (Str.ofString "self", .ref x), (Str.ofString "S", .str (Str.ofString " ") st.sS), (Str.ofString "T", .str (Str.ofString "\t") st.sT)])
    (fun i st => WSInv ws i st ∧ @LT.lt Nat _ x st.ca ∧ @LT.lt Nat _ dx st.ca) ⟨_, [], 0, [], 0, 0, 0, _, _, _, _, _⟩ (by k_asm) hN1 ?hps ⟨⟨.nil, rfl, Int.le_refl _, Int.le_refl _, Nat.le_refl _, Nat.zero_le _⟩, (by dsimp only; omega), (by dsimp only; omega)⟩ ?turn ?done
  case hps => kst_all
  case turn =>
    intro I i code tc st u h tk io hcode hinv hcls hne F2 N2
    have hI : IntsAre st.vs st.c := hinv.1.1
    have hfold : (ws.cps.toList.take i).foldl wsStep ([], 0, 0, 0) = (st.c, st.b, st.n, st.nt) := hinv.1.2.1
    have hb0 : 0 ≤ st.b := hinv.1.2.2.1
    have hbi : st.b ≤ i := hinv.1.2.2.2.1
    have hci : st.c.length ≤ i := hinv.1.2.2.2.2.1
    have his : i ≤ ws.cps.size := hinv.1.2.2.2.2.2
    have hx1 : @LT.lt Nat _ x st.ca := hinv.2.1
    have hx2 : @LT.lt Nat _ dx st.ca := hinv.2.2
    clear hinv
    (try dsimp only at hne F2 N2)
    have hca : @Ne Nat st.ca I := hne (st.ca, W.listOf st.vs.toArray st.k) (by k_mem)
    have hxI : @Ne Nat x I := hne (x, instObj 83 dx) (by k_mem)
    have hdI : @Ne Nat dx I := hne (dx, dictOf [⟨PyData.keyHash w.params (Str.ofString "raw"), .str (Str.ofString "raw") kt, .str ws t⟩] 1) (by k_mem)
    have hlen := IntsAre.length hI
    refine hideQ ?_
    intro K hK
    rcases hcodes code (by simpa using Array.mem_of_getElem? hcode) with rfl | rfl
    · k_steps
      refine hK _ _ ?_
      refine' TEnd.next (⟨_, _, _, st.c, st.b + 1, st.n + 1, st.nt, _, _, _, _, _⟩ : WS) (by k_asm) (by k_asm) ?h1 ?h2 ?h3 ?h4
      case h1 => dsimp only; (repeat (refine sub_cons (by k_mem) ?_)); exact List.forall_mem_nil _
      case h2 => dsimp only; (repeat (refine List.forall_mem_cons.mpr ⟨by k_ne, ?_⟩)); exact List.forall_mem_nil _
      case h3 => kst_all
      case h4 => exact ⟨ws_blank hI hfold hb0 hbi hci hcode, hx1, hx2⟩
    · k_steps
      · refine hK _ _ ?_
        refine' TEnd.next (⟨_, _, _, incAt st.c st.b, 0, st.n + 1, st.nt + 1, _, _, _, _, _⟩ : WS) (by k_asm) (by k_asm) ?h1 ?h2 ?h3 ?h4
        case h1 => dsimp only; (repeat (refine sub_cons (by k_mem) ?_)); exact List.forall_mem_nil _
        case h2 => dsimp only; (repeat (refine List.forall_mem_cons.mpr ⟨by k_ne, ?_⟩)); exact List.forall_mem_nil _
        case h3 => kst_all
        case h4 =>
          refine ⟨ws_tab (incAt_long (by assumption) (by assumption)) hfold hb0 hbi hci hcode, ?_, ?_⟩ <;> dsimp only <;> omega
      · refine hK _ _ ?_
        refine' TEnd.next (⟨_, _, _, incAt st.c st.b, 0, st.n + 1, st.nt + 1, _, _, _, _, _⟩ : WS) (by k_asm) (by k_asm) ?h1 ?h2 ?h3 ?h4
        case h1 => dsimp only; (repeat (refine sub_cons (by k_mem) ?_)); exact List.forall_mem_nil _
        case h2 => dsimp only; (repeat (refine List.forall_mem_cons.mpr ⟨by k_ne, ?_⟩)); exact List.forall_mem_nil _
        case h3 => kst_all
        case h4 =>
          refine ⟨ws_tab (incAt_short (by assumption) (by assumption)) hfold hb0 hbi hci hcode, ?_, ?_⟩ <;> dsimp only <;> omega
  case done =>
    rintro ⟨ca, vs, k, c, b, n, nt, tb, tn, tt, sS, sT⟩ u h tk ⟨⟨hI, hfold, hb0, hbi, hci, his⟩, hx1, hx2⟩ F2 N2
    dsimp only at hI hfold hb0 hbi hci F2 N2 hx1 hx2
    have hlen := IntsAre.length hI
    have hwhole : ws.cps.toList.take ws.cps.size = ws.cps.toList := List.take_of_length_le (by simp)
    rw [hwhole, hfin] at hfold
    obtain ⟨ec, hfold⟩ := Prod.mk.inj hfold
    obtain ⟨eb, hfold⟩ := Prod.mk.inj hfold
    obtain ⟨en, ent⟩ := Prod.mk.inj hfold
    subst ec eb en ent
    k_steps
    unfold OutZ; intro hz
    refine ⟨rfl, ?_⟩
    dsimp only
    rename News h₀ L _ (_ :: _ :: _ :: _ :: _) => hN
    refine' hret _ _ _ _ _ _ _ _ _ _ _ _ _ _ _ _ _ _ (by k_asm) (news_join (all := _) (lit := []) (tl := [_, _, _, _]) hN (List.forall_mem_nil _) ?hm (fun p hp _ => hz p (List.mem_cons_of_mem _ (List.mem_cons_of_mem _ hp)) ?hq) N) hI hci
    case hm => (repeat (refine sub_cons (by k_mem) ?_)); exact List.forall_mem_nil _
    case hq =>
      intro hm
      have hlt := l1 p hp
      rcases List.mem_cons.mp hm with rfl | hm
      · exact absurd hlt (by dsimp only; exact Nat.not_lt.mpr (Nat.le_of_lt l2))
      · rw [List.mem_singleton.mp hm] at hlt
        exact Nat.lt_irrefl _ hlt
end
section
variable {w : World} {mean : ExcName → Option Value} {mg mb : Str → Option Value} {dp un : Nat} {gd : Option (List Code)} {cn : Str} {cs : Scope} {a : Addr} {ccd : Value} {cl : List (Str × Addr)} {outer : List Env} {A₀ : Around} {base h₀ : Heap} {L : Addr} {m : Str → Option Value} {s : Shared} {Q E : Value → Shared → Prop} {news : List (Addr × Obj)}
/-- the text of one run: r blanks and a tab -/
noncomputable def runT (r : Int) : Str := Txt.mul (Str.ofString " ") r ++ Str.ofString "\t"
noncomputable def runsT (rs : List Int) : Str := Txt.join (Str.ofString "") (rs.map runT)
@[irreducible] noncomputable def runsC (rs : List Int) : List Nat := (rs.map fun r => List.replicate r.toNat 32 ++ [9]).flatten
theorem runT_codes (r : Int) : (runT r).cps.toList = List.replicate r.toNat 32 ++ [9] := by
  unfold runT
  rw [PySem.Str.cps_append, Array.toList_append]
  have e1 : Str.ofString " " = ⟨#[32]⟩ := by decide +kernel
  have e2 : (Str.ofString "\t").cps.toList = [9] := by decide +kernel
  rw [e1, mul_one_list, e2]
@[irreducible] noncomputable def countsP (rs : List Int) : List Int := rs.foldl incAt []
@[irreducible] noncomputable def lenP (rs : List Int) : Int := (rs.map fun r => r + 1).sum
theorem fold_blanks (c : List Int) (b n nt : Int) (k : Nat) : (List.replicate k 32).foldl wsStep (c, b, n, nt) = (c, b + k, n + k, nt) := by
  induction k generalizing b n with
  | zero => simp
  | succ k ih =>
    rw [List.replicate_succ, List.foldl_cons]
    have : wsStep (c, b, n, nt) 32 = (c, b + 1, n + 1, nt) := rfl
    rw [this, ih]
    have e1 : b + 1 + (k : Int) = b + ((k + 1 : Nat) : Int) := by omega
    have e2 : n + 1 + (k : Int) = n + ((k + 1 : Nat) : Int) := by omega
    rw [e1, e2]
theorem fold_runs (rs : List Int) (hr : ∀ r ∈ rs, 0 ≤ r) (c : List Int) (n nt : Int) : (runsC rs).foldl wsStep (c, 0, n, nt) = (rs.foldl incAt c, 0, n + lenP rs, nt + rs.length) := by
  induction rs generalizing c n nt with
  | nil => simp [runsC, lenP]
  | cons r rs ih =>
    have h1 : runsC (r :: rs) = List.replicate r.toNat 32 ++ ([9] ++ runsC rs) := by simp [runsC]
    rw [h1, List.foldl_append, fold_blanks, List.foldl_append]
    have h2 : ([9] : List Nat).foldl wsStep (c, 0 + (r.toNat : Int), n + (r.toNat : Int), nt) = (incAt c (0 + (r.toNat : Int)), 0, n + (r.toNat : Int) + 1, nt + 1) := rfl
    have h3 : (0 : Int) + (r.toNat : Int) = r := by have := hr r (by simp); omega
    have h4 : (r.toNat : Int) = r := by have := hr r (by simp); omega
    rw [h2, ih (fun r' h => hr r' (by simp [h])), h3, h4]
    simp only [lenP, List.map_cons, List.sum_cons, List.length_cons, List.foldl_cons]
    refine Prod.ext rfl (Prod.ext rfl (Prod.ext ?_ ?_)) <;> dsimp only <;> omega
theorem join_empty : ∀ ys : List Str, (Str.join (Str.ofString "") ys).cps.toList = (ys.map fun y => y.cps.toList).flatten
  | [] => rfl
  | [x] => by simp [Str.join]
  | x :: y :: r => by
    have e : (Str.ofString "").cps.toList = [] := by decide +kernel
    have h : Str.join (Str.ofString "") (x :: y :: r) = x ++ Str.ofString "" ++ Str.join (Str.ofString "") (y :: r) := rfl
    rw [h, PySem.Str.cps_append, PySem.Str.cps_append, Array.toList_append, Array.toList_append, e, join_empty (y :: r)]
    simp
theorem runsT_codes (rs : List Int) : (runsT rs).cps.toList = runsC rs := by
  have h : runsT rs = Str.join (Str.ofString "") (rs.map runT) := by
    unfold runsT
    have := join_plain_closes (Str.ofString "") (rs.map runT)
    exact eq_of_beq this
  rw [h, join_empty, List.map_map]
  unfold runsC
  congr 1
  exact List.map_congr_left fun r _ => runT_codes r
theorem runsC_mem {rs : List Int} {code : Nat} (h : code ∈ runsC rs) : code = 32 ∨ code = 9 := by
  unfold runsC at h
  obtain ⟨l, hl, hc⟩ := List.mem_flatten.mp h
  obtain ⟨r, _, rfl⟩ := List.mem_map.mp hl
  rcases List.mem_append.mp hc with hc | hc
  · exact .inl (List.eq_of_mem_replicate hc)
  · exact .inr (List.mem_singleton.mp hc)
theorem runsC_length {rs : List Int} {b : Nat} (h : ∀ r ∈ rs, r < b) : (runsC rs).length ≤ rs.length * (b + 1) := by
  induction rs with
  | nil => simp [runsC]
  | cons r rs ih =>
    have h1 : runsC (r :: rs) = List.replicate r.toNat 32 ++ ([9] ++ runsC rs) := by simp [runsC]
    have h2 := ih fun r' h' => h r' (by simp [h'])
    have h3 := h r (by simp)
    rw [h1]
    simp only [List.length_append, List.length_replicate, List.length_cons, List.length_nil, Nat.succ_mul]
    omega
theorem runsT_size {rs : List Int} {b : Nat} (h : ∀ r ∈ rs, r < b) : (runsT rs).cps.size ≤ rs.length * (b + 1) := by
  have := runsC_length h
  rw [← runsT_codes] at this
  simpa using this
theorem runT_len {r : Int} {b : Nat} (h : r < b) : (runT r).length ≤ b + 1 := by
  have h1 : (runT r).length = (runT r).cps.toList.length := by simp [PySem.Str.length]
  rw [h1, runT_codes]
  simp
  omega
theorem runs_weight {rs : List Int} {b : Nat} (h : ∀ r ∈ rs, r < b) : ((rs.map runT).map (·.length)).sum + (rs.map runT).length ≤ rs.length * (b + 2) := by
  induction rs with
  | nil => simp
  | cons r rs ih =>
    have h2 := ih fun r' h' => h r' (by simp [h'])
    have h3 := runT_len (h r (by simp))
    simp only [List.map_cons, List.sum_cons, List.length_cons, Nat.succ_mul, List.length_map] at *
    omega
theorem fold_runs0 {rs : List Int} (hr : ∀ r ∈ rs, 0 ≤ r) {nt : Int} (hnt : (rs.length : Int) = nt) : (runsT rs).cps.toList.foldl wsStep ([], 0, 0, 0) = (countsP rs, 0, lenP rs, nt) := by
  rw [runsT_codes, fold_runs rs hr, Int.zero_add, Int.zero_add, hnt]; unfold countsP; rfl
end
section
variable {w : World} {mean : ExcName → Option Value} {mg mb : Str → Option Value} {dp un : Nat} {gd : Option (List Code)} {cn : Str} {cs : Scope} {a : Addr} {ccd : Value} {cl : List (Str × Addr)} {outer : List Env} {A₀ : Around} {base h₀ : Heap} {L : Addr} {m : Str → Option Value} {s : Shared} {Q E : Value → Shared → Prop} {news : List (Addr × Obj)}
set_option genSizeOf false in
set_option genInjectivity false in
structure LT where
  ws : Str
  c : List Int
  n : Int
  nt : Int
  k1 : Tok
  k2 : Tok
  k3 : Tok
  k4 : Tok
  k5 : Tok
  t1 : Tok
  t2 : Tok
  t3 : Tok
abbrev LD (w : World) (tn : Addr) (d : LT) : Obj := leadDict w d.ws d.c d.n d.nt tn d.k1 d.k2 d.k3 d.k4 d.k5 d.t1 d.t2 d.t3
@[irreducible] noncomputable def LeadO (w : World) (x dx tn tc : Addr) (d : LT) (o3 o4 : Obj) (c : List Int) (n nt : Int) : Prop := ∀ news', (x, instObj 83 dx) ∈ news' → (dx, LD w tn d) ∈ news' → (tn, o3) ∈ news' → (tc, o4) ∈ news' → LeadIn w news' x c n nt
theorem LeadO.of {w : World} {x dx tn tc : Addr} {ws : Str} {vs : List Value} {c : List Int} {n nt : Int} {k1 k2 k3 k4 k5 t1 t2 t3 t4 : Tok} {e1 e2 : Nat} (hI : IntsAre vs c) : LeadO w x dx tn tc ⟨ws, c, n, nt, k1, k2, k3, k4, k5, t1, t2, t3⟩ (tupO [.ref tc, .int 0 t4] e1) (tupO vs e2) c n nt := by
  unfold LeadO
  exact fun _ m1 m2 m3 m4 => LeadIn.mk m1 m2 m3 m4 hI
theorem LeadO.use {w : World} {news : List (Addr × Obj)} {x dx tn tc : Addr} {d : LT} {o3 o4 : Obj} {c : List Int} {n nt : Int} (h : LeadO w x dx tn tc d o3 o4 c n nt) (m1 : (x, instObj 83 dx) ∈ news) (m2 : (dx, LD w tn d) ∈ news) (m3 : (tn, o3) ∈ news) (m4 : (tc, o4) ∈ news) : LeadIn w news x c n nt := by
  unfold LeadO at h
  exact h _ m1 m2 m3 m4
theorem runs_one {ys : List Value} {xs : List Int} {i : Nat} {z : Int} {t : Tok} (h : StrsAre ys ((xs.map runT).take i)) (hz : xs[i]? = some z) : StrsAre (ys ++ [.str (runT z) t]) ((xs.map runT).take (i + 1)) := by
  rw [List.take_add_one, List.getElem?_map, hz]
  exact h.append' (.cons _ t .nil)
theorem lead_spec {la : Addr} {x1 x2 x3 x4 : Int} {t1 t2 t3 t4 : Tok} {kk : Nat} (B : Below A₀ base outer h₀) (F : Fr h₀ L s.heap m) (X : (hd.heap_39 w.params).In h₀) (N : News h₀ L s.heap news) (T : Top hd.view_39 (looseW hd.view_39 [Str.ofString "Whitespace"]) mean mg mb h₀) (hk : cs.kind = .function) (hdp : dp + 6 < recursionLimit) (hun : un + 40 < cLine)
    (hm : (la, W.listOf [Value.int x1 t1, Value.int x2 t2, Value.int x3 t3, Value.int x4 t4].toArray kk) ∈ news) (hb1 : 0 ≤ x1 ∧ x1 < 8) (hb2 : 0 ≤ x2 ∧ x2 < 8) (hb3 : 0 ≤ x3 ∧ x3 < 8) (hb4 : 0 ≤ x4 ∧ x4 < 8)
    (hret : ∀ x dx tn tc d o3 o4 h' tk', Fr h₀ L h' m → News h₀ L h' ((x, instObj 83 dx) :: (dx, LD w tn d) :: (tn, o3) :: (tc, o4) :: news) → LeadO w x dx tn tc d o3 o4 (countsP [x1, x2, x3, x4]) (lenP [x1, x2, x3, x4]) 4 → o3.cls ≠ .type "range_iterator" → o4.cls ≠ .type "range_iterator" → (countsP [x1, x2, x3, x4]).length ≤ 40 → Q (.ref x) {s with heap := h', toks := tk'}) :
    wpAny (model PySem.Challenge.rw_re0074_03.row.prog w) (ktrTop dp un gd cn cs L a ccd cl outer) (call (.ref 106) [.ref la]) Q E s := by
  k_with_none
  have hall : ∀ r ∈ [x1, x2, x3, x4], r < ((8 : Nat) : Int) := by simp; omega
  have hall0 : ∀ r ∈ [x1, x2, x3, x4], (0 : Int) ≤ r := by simp; omega
  have hsz : (runsT [x1, x2, x3, x4]).cps.size ≤ 36 := runsT_size hall
  refine wpAny_call ?_
  k_dflt (refine' enterZ (lit := [(la, W.listOf [Value.int x1 t1, Value.int x2 t2, Value.int x3 t3, Value.int x4 t4].toArray kk)]) ?k1 ?k2 ?k3 ?k4 ?k5 ?ksub ?kA ?kF ?kK ?k6 ?k7 ?k8 ?k9 ?kB ?_ ?c2 ?c3 ?c4 ?c5; (case kA => exact rfl); (case kF => exact rfl); (case kK => first | assumption | exact rfl); (case k1 => k_asm); (case k2 => k_asm); (case k3 => k_asm); (case k4 => k_asm); (case k5 => k_asm); (case ksub => (first | exact List.forall_mem_nil _ | (repeat (refine sub_cons (by assumption) ?_)); exact List.forall_mem_nil _)); (case k6 => k_is); (case k7 => k_is); (case k8 => ktr_room); (case k9 => exact BindsTo.of_eq rfl); (case c5 => decide); (case kB => exact locs rfl); (case c2 => exact rfl); (case c3 => exact rfl); (case c4 => exact rfl); k_whole; intro g' L' h' F' N' B' X' T' l0; (try k_lt l0); (try dsimp only); (try k_fold))
  refine hideQ ?_
  intro K hK
  iterate 12 (first | walk1 | (dsimp only; walk1))
  k_dflt (refine LCg.ListComp_U (F₀ := by k_asm) (by rfl) (by decide) (by rfl) (by decide) (by rfl) ?_)
  walk1
  k_dflt (refine LCg.CompSrc.ledger (by rfl) (by k_asm) (by k_asm) (by k_mem) (by simp only [List.size_toArray, sizeLine_eq, List.length_cons, List.length_nil]; decide) ?_)
  intro g2
  refine comp_ind (fun i ys nx => nx = _ ∧ StrsAre ys (([x1, x2, x3, x4].map runT).take i)) ?_ ?_ _ 0 [] _ (Nat.zero_add _) ⟨rfl, .nil⟩
  · rintro i ys nx v I oI C oC D m₂ h tk E' hi ⟨rfl, hys⟩ hv hC hx F2 N2 off ne
    clear ne
    obtain ⟨z, tz, rfl, hz⟩ := (IntsAre.cons _ _ (.cons _ _ (.cons _ _ (.cons _ _ .nil)))).at i v (by simpa using hv)
    have hz0 := hall0 z (List.mem_of_getElem? hz)
    have hz8 := hall z (List.mem_of_getElem? hz)
    clear hall0 hall hb1 hb2 hb3 hb4 hv
    refine hideQ ?_
    intro K1 hK1
    k_steps
    refine hK1 _ _ ?_
    k_steps
    exact runs_one hys hz
  rintro ys nx ⟨rfl, hys⟩
  rw [show ([x1, x2, x3, x4].map runT).take [Value.int x1 t1, Value.int x2 t2, Value.int x3 t3, Value.int x4 t4].toArray.size = [runT x1, runT x2, runT x3, runT x4] from rfl] at hys
  k_steps
  refine join_listW (ys := [runT x1, runT x2, runT x3, runT x4]) (News.isList (by k_asm) (by k_mem)) hys (by decide) (Nat.le_trans (runs_weight hall) (by simp)) ?_
  intro t' k'
  k_steps
  (try dsimp only [List.cons_append, List.nil_append, List.append_nil])
  refine make_spec (ws := runsT [x1, x2, x3, x4]) (by k_asm) (by k_asm) (by k_asm) (by k_asm) (by k_asm) rfl (by ktr_room) (by ktr_units) (fun code hc => runsC_mem (by rwa [runsT_codes] at hc)) (by omega) (fold_runs0 hall0 (nt := 4) rfl) ?_
  intro x dx tn tc vs k1 k2 k3 k4 k5 u1 u2 u3 u4 e1 e2 h9 tk9 F9 N9 hI hcl
  dsimp only
  k_steps
  refine hK _ _ ?_
  k_steps
  unfold OutZ; intro hz; dsimp only
  rename News h₀ L _ (_ :: _ :: _ :: _ :: _) => hN
  refine hret x dx tn tc ⟨_, _, _, _, k1, k2, k3, k4, k5, u1, u2, u3⟩ _ _ _ _ (by k_asm) (news_join (tl := [(x, instObj 83 dx), (dx, leadDict w (runsT [x1, x2, x3, x4]) (countsP [x1, x2, x3, x4]) (lenP [x1, x2, x3, x4]) 4 tn k1 k2 k3 k4 k5 u1 u2 u3), (tn, tupO [.ref tc, .int 0 u4] e1), (tc, tupO vs e2)]) hN ?_ ?_ hz N) (LeadO.of hI) (type_ne (by decide)) (type_ne (by decide)) (by omega)
  · exact sub_cons (by k_mem) (List.forall_mem_nil _)
  · (repeat (refine sub_cons (by k_mem) ?_)); exact List.forall_mem_nil _
end
section
variable {w : World} {mean : ExcName → Option Value} {mg mb : Str → Option Value} {dp un : Nat} {gd : Option (List Code)} {cn : Str} {cs : Scope} {a : Addr} {ccd : Value} {cl : List (Str × Addr)} {outer : List Env} {A₀ : Around} {base h₀ : Heap} {L : Addr} {m : Str → Option Value} {s : Shared} {Q E : Value → Shared → Prop} {news : List (Addr × Obj)}
@[irreducible] noncomputable def colP (xs : List Int) (sz k : Int) : Int := sz * ((xs.map fun x => Int.fdiv x sz).sum + k)
theorem col_spec {la : Addr} {x1 x2 x3 x4 sz : Int} {t1 t2 t3 t4 ts : Tok} {kk : Nat} (B : Below A₀ base outer h₀) (F : Fr h₀ L s.heap m) (X : (hd.heap_39 w.params).In h₀) (N : News h₀ L s.heap news) (T : Top hd.view_39 (looseW hd.view_39 [Str.ofString "Whitespace"]) mean mg mb h₀) (hk : cs.kind = .function) (hdp : dp + 6 < recursionLimit) (hun : un + 40 < cLine)
    (hm : (la, W.listOf [Value.int x1 t1, Value.int x2 t2, Value.int x3 t3, Value.int x4 t4].toArray kk) ∈ news) (hs1 : 1 ≤ sz) (hs2 : sz < 100)
    (hret : ∀ t h' tk', Fr h₀ L h' m → News h₀ L h' news → Q (.int (colP [x1, x2, x3, x4] sz 4) t) {s with heap := h', toks := tk'}) :
    wpAny (model PySem.Challenge.rw_re0074_03.row.prog w) (ktrTop dp un gd cn cs L a ccd cl outer) (call (.ref 111) [.ref la, .int sz ts]) Q E s := by
  k_with_none
  refine wpAny_call ?_
  k_dflt (refine' enterZC (lit := [(la, W.listOf [Value.int x1 t1, Value.int x2 t2, Value.int x3 t3, Value.int x4 t4].toArray kk)]) ?k1 ?k2 ?k3 ?k4 ?k5 ?ksub ?kA ?kF ?kK ?k6 ?k7 ?k8 ?k9 ?kB ?kD ?_ ?c2 ?c3 ?c4; (case kA => exact rfl); (case kF => exact rfl); (case kK => first | assumption | exact rfl); (case k1 => k_asm); (case k2 => k_asm); (case k3 => k_asm); (case k4 => k_asm); (case k5 => k_asm); (case ksub => (first | exact List.forall_mem_nil _ | (repeat (refine sub_cons (by assumption) ?_)); exact List.forall_mem_nil _)); (case k6 => k_is); (case k7 => k_is); (case k8 => ktr_room); (case k9 => exact BindsTo.of_eq rfl); (case kB => exact rfl); (case kD => decide +kernel); (case c2 => exact rfl); (case c3 => exact rfl); (case c4 => exact rfl); k_whole; intro g' L' h' tk' cells' F' N' Y' B' X' T' l0; (try k_lt l0); k_cells Y'; (try simp only [List.cons_append, List.nil_append] at N'); (try dsimp only); (try k_fold))
  refine hideQ ?_
  intro K hK
  k_steps
  refine hK _ _ ?_
  k_steps
  unfold OutZ; intro hz; dsimp only
  exact cb_retI hret (by unfold colP; rfl) (by k_asm) (news_join (by k_asm) (sub_cons (by k_mem) (List.forall_mem_nil _)) (tl := []) (List.forall_mem_nil _) hz N)

end
section
variable {w : World} {mean : ExcName → Option Value} {mg mb : Str → Option Value} {dp un : Nat} {gd : Option (List Code)} {cn : Str} {cs : Scope} {a : Addr} {ccd : Value} {cl : List (Str × Addr)} {outer : List Env} {A₀ : Around} {base h₀ : Heap} {L : Addr} {m : Str → Option Value} {s : Shared} {Q E : Value → Shared → Prop} {news : List (Addr × Obj)}
@[irreducible] noncomputable def stepL (xs : List Int) (i j : Int) : List Int := (xs.set i.toNat (Builtin.bitOr (xs.getD i.toNat 0) (xs.getD j.toNat 0))).set j.toNat (Builtin.bitAnd (xs.getD i.toNat 0) (xs.getD j.toNat 0))
theorem step_fin {g h : Heap} {L' D : Addr} {us : List Value} {ys zs : List Int} {k : Nat} {rest : List (Addr × Obj)} {P : Prop} (N : News g L' h ((D, W.listOf us.toArray k) :: rest)) (hI : IntsAre us ys) (e : zs = ys) (hl : zs.length = 4)
    (go : ∀ y1 y2 y3 y4 u1 u2 u3 u4, zs = [y1, y2, y3, y4] → News g L' h ((D, W.listOf [Value.int y1 u1, Value.int y2 u2, Value.int y3 u3, Value.int y4 u4].toArray k) :: rest) → P) : P := by
  subst e
  match zs, hl, hI with
  | [a, b, c, d], _, hI =>
    obtain ⟨t1, t2, t3, t4, rfl⟩ := ints4 hI
    exact go _ _ _ _ _ _ _ _ rfl N
theorem step_spec {la : Addr} {x1 x2 x3 x4 i j : Int} {t1 t2 t3 t4 ti tj : Tok} {kk : Nat} (B : Below A₀ base outer h₀) (F : Fr h₀ L s.heap m) (X : (hd.heap_39 w.params).In h₀) (N : News h₀ L s.heap news) (T : Top hd.view_39 (looseW hd.view_39 [Str.ofString "Whitespace"]) mean mg mb h₀) (hk : cs.kind = .function) (hdp : dp + 6 < recursionLimit) (hun : un + 40 < cLine)
    (hm : (la, W.listOf [Value.int x1 t1, Value.int x2 t2, Value.int x3 t3, Value.int x4 t4].toArray kk) ∈ news) (hij : 0 ≤ i ∧ i < j ∧ j < 4)
    (hret : ∀ ra y1 y2 y3 y4 u1 u2 u3 u4 k h' tk', Fr h₀ L h' m → News h₀ L h' ((ra, W.listOf [Value.int y1 u1, Value.int y2 u2, Value.int y3 u3, Value.int y4 u4].toArray k) :: news) → stepL [x1, x2, x3, x4] i j = [y1, y2, y3, y4] → Q (.ref ra) {s with heap := h', toks := tk'}) :
    wpAny (model PySem.Challenge.rw_re0074_03.row.prog w) (ktrTop dp un gd cn cs L a ccd cl outer) (call (.ref 118) [.ref la, .int i ti, .int j tj]) Q E s := by
  k_with_none
  have hI : IntsAre [Value.int x1 t1, Value.int x2 t2, Value.int x3 t3, Value.int x4 t4] [x1, x2, x3, x4] := .cons _ _ (.cons _ _ (.cons _ _ (.cons _ _ .nil)))
  have hx : [x1, x2, x3, x4].length = 4 := rfl
  generalize [Value.int x1 t1, Value.int x2 t2, Value.int x3 t3, Value.int x4 t4] = vs at hm hI
  generalize [x1, x2, x3, x4] = xs at hret hI hx
  have hv := IntsAre.length hI
  refine wpAny_call ?_
  k_dflt (refine' enterZ (lit := [(la, W.listOf vs.toArray kk)]) ?k1 ?k2 ?k3 ?k4 ?k5 ?ksub ?kA ?kF ?kK ?k6 ?k7 ?k8 ?k9 ?kB ?_ ?c2 ?c3 ?c4 ?c5; (case kA => exact rfl); (case kF => exact rfl); (case kK => first | assumption | exact rfl); (case k1 => k_asm); (case k2 => k_asm); (case k3 => k_asm); (case k4 => k_asm); (case k5 => k_asm); (case ksub => (first | exact List.forall_mem_nil _ | (repeat (refine sub_cons (by assumption) ?_)); exact List.forall_mem_nil _)); (case k6 => k_is); (case k7 => k_is); (case k8 => ktr_room); (case k9 => exact BindsTo.of_eq rfl); (case c5 => decide); (case kB => exact locs rfl); (case c2 => exact rfl); (case c3 => exact rfl); (case c4 => exact rfl); k_whole; intro g' L' h' F' N' B' X' T' l0; (try k_lt l0); (try dsimp only); (try k_fold))
  refine hideQ ?_
  intro K hK
  k_steps
  refine hK _ _ ?_
  k_steps
  unfold OutZ; intro hz; dsimp only
  rename IntsAre (List.set (List.set _ _ _) _ _) _ => hr
  rename News _ _ _ (_ :: _) => N8
  refine step_fin N8 hr (zs := stepL xs i j) (by unfold stepL; rfl) (by unfold stepL; rw [List.length_set, List.length_set, hx]) fun y1 y2 y3 y4 u1 u2 u3 u4 hy N9 => ?_
  exact hret _ _ _ _ _ _ _ _ _ _ _ _ (by k_asm) (news_cons N9 (by (repeat (refine sub_cons (by k_mem) ?_)); exact List.forall_mem_nil _) hz N) hy
end
section
variable {w : World} {mean : ExcName → Option Value} {mg mb : Str → Option Value} {dp un : Nat} {gd : Option (List Code)} {cn : Str} {cs : Scope} {a : Addr} {ccd : Value} {cl : List (Str × Addr)} {outer : List Env} {A₀ : Around} {base h₀ : Heap} {L : Addr} {m : Str → Option Value} {s : Shared} {Q E : Value → Shared → Prop} {news : List (Addr × Obj)}
theorem kqd_intsIn {nx : List (Addr × Obj)} {vs : List Value} {c : List Int} (h : IntsAre vs c) : DatAll nx vs (c.map Dat.int) := by
  induction h with
  | nil => exact .nil
  | cons n t _ ih => exact .cons (.int n t) ih
noncomputable def normD (c : List Int) : Dat := .tuple [.tuple (c.map Dat.int), .int 0]
theorem normD_ok (c : List Int) : kqdOk 9 (normD c) = true := by
  simp [normD, kqdOk]
theorem normD_inj {c d : List Int} : normD c = normD d ↔ c = d := by
  unfold normD
  constructor
  · intro h
    injection h with h
    injection h with h _
    injection h with h
    exact (List.map_inj_right fun a b h => by injection h).mp h
  · rintro rfl; rfl
open Classical in
theorem norm_eq {prog : Program} {A : Around} {p q : Addr} {n₁ n₂ : List (Addr × Obj)} {c d : List Int} (N : News h₀ L s.heap news) (Da : DatIn news (.ref p) (normD c)) (Db : DatIn news (.ref q) (normD d)) (hu : A.units + 64 < cLine)
    (h : Q (.bool (decide (c = d))) s) : wpAny (model prog w) A (compareOp .Eq (.ref p) (.ref q)) Q E s := by
  obtain ⟨as, ra⟩ := kqd_in N 9 Da (normD_ok c)
  obtain ⟨bs, rb⟩ := kqd_in N 9 Db (normD_ok d)
  have la := kqd_lay 9 _ (normD_ok c)
  have lb := kqd_lay 9 _ (normD_ok d)
  have e : PyData.eqv (kqdP (normD c)) (kqdP (normD d)) = decide (c = d) := by
    have q := kqd_eqv 9 _ _ 9 (normD_ok c) (normD_ok d)
    rw [normD_inj] at q
    by_cases hq : c = d
    · rw [decide_eq_true hq]; exact q.mpr hq
    · rw [decide_eq_false hq]; exact Bool.eq_false_iff.mpr fun x => hq (q.mp x)
  refine eq_dataH ra rb ?_ ?_ hu (by rw [e]; exact h)
  · unfold SeqAt.shaped; rw [la.1, Bool.true_and]; exact decide_eq_true (Nat.le_trans la.2 (by decide))
  · unfold SeqAt.shaped; rw [lb.1, Bool.true_and]; exact decide_eq_true (Nat.le_trans lb.2 (by decide))
open Classical in
theorem equal_spec {x y : Addr} {c d : List Int} {n nt n2 nt2 : Int} (B : Below A₀ base outer h₀) (F : Fr h₀ L s.heap m) (X : (hd.heap_39 w.params).In h₀) (N : News h₀ L s.heap news) (T : Top hd.view_39 (looseW hd.view_39 [Str.ofString "Whitespace"]) mean mg mb h₀) (hk : cs.kind = .function) (hdp : dp + 2 < recursionLimit) (hun : un + 100 < cLine)
    (hl : LeadIn w news x c n nt) (hl2 : LeadIn w news y d n2 nt2)
    (hret : ∀ (t : Tok) h' tk', Fr h₀ L h' m → News h₀ L h' news → Q (.bool (decide (c = d))) {s with heap := h', toks := tk'}) :
    wpAny (model PySem.Challenge.rw_re0074_03.row.prog w) (ktrTop dp un gd cn cs L a ccd cl outer) (call (.ref 59) [.ref x, .ref y]) Q E s := by
  k_with_none
  refine hl.out ?_
  intro dx tn tc ws vs k1 k2 k3 k4 k5 t1 t2 t3 t4 e1 e2 m1 m2 m3 m4 hI
  refine hl2.out ?_
  intro dy un1 uc ws' us k1' k2' k3' k4' k5' t1' t2' t3' t4' e1' e2' m1' m2' m3' m4' hI'
  refine wpAny_call ?_
  k_dflt (refine' enterZ (lit := [(x, instObj 83 dx), (dx, leadDict w ws c n nt tn k1 k2 k3 k4 k5 t1 t2 t3), (tn, tupO [.ref tc, .int 0 t4] e1), (tc, tupO vs e2), (y, instObj 83 dy), (dy, leadDict w ws' d n2 nt2 un1 k1' k2' k3' k4' k5' t1' t2' t3'), (un1, tupO [.ref uc, .int 0 t4'] e1'), (uc, tupO us e2')]) ?k1 ?k2 ?k3 ?k4 ?k5 ?ksub ?kA ?kF ?kK ?k6 ?k7 ?k8 ?k9 ?kB ?_ ?c2 ?c3 ?c4 ?c5; (case kA => exact rfl); (case kF => exact rfl); (case kK => first | assumption | exact rfl); (case k1 => k_asm); (case k2 => k_asm); (case k3 => k_asm); (case k4 => k_asm); (case k5 => k_asm); (case ksub => (first | exact List.forall_mem_nil _ | (repeat (refine sub_cons (by assumption) ?_)); exact List.forall_mem_nil _)); (case k6 => k_is); (case k7 => k_is); (case k8 => ktr_room); (case k9 => exact BindsTo.of_eq rfl); (case c5 => decide); (case kB => exact locs rfl); (case c2 => exact rfl); (case c3 => exact rfl); (case c4 => exact rfl); k_whole; intro g' L' h' F' N' B' X' T' l0; (try k_lt l0); (try dsimp only); (try k_fold))
  k_steps
  refine norm_eq (n₁ := news) (n₂ := news) (c := c) (d := d) (by k_asm) (.tuple (by k_mem) (.cons (.tuple (by k_mem) (kqd_intsIn hI)) (.cons (.int _ _) .nil))) (.tuple (by k_mem) (.cons (.tuple (by k_mem) (kqd_intsIn hI')) (.cons (.int _ _) .nil))) (by ke_room) ?_
  k_steps
  unfold OutZ; intro hz; dsimp only
  exact cb_retB hret rfl (by k_asm) (news_join (by k_asm) (fun _ h => h) (tl := []) (List.forall_mem_nil _) hz N)
end
section
variable {w : World} {mean : ExcName → Option Value} {mg mb : Str → Option Value} {dp un : Nat} {gd : Option (List Code)} {cn : Str} {cs : Scope} {a : Addr} {ccd : Value} {cl : List (Str × Addr)} {outer : List Env} {A₀ : Around} {base h₀ : Heap} {L : Addr} {m : Str → Option Value} {s : Shared} {Q E : Value → Shared → Prop} {news : List (Addr × Obj)}
noncomputable def HoldC : Prop := True
end
section
variable {w : World} {mean : ExcName → Option Value} {mg mb : Str → Option Value} {dp un : Nat} {gd : Option (List Code)} {cn : Str} {cs : Scope} {a : Addr} {ccd : Value} {cl : List (Str × Addr)} {outer : List Env} {A₀ : Around} {base h₀ : Heap} {L : Addr} {m : Str → Option Value} {s : Shared} {Q E : Value → Shared → Prop} {news : List (Addr × Obj)}
section
open LCg
variable {prog : Program} {A : Around} {env : Env}
theorem nfe_cell {M : Model} {scope : Scope} {globals : Addr} {cl' : List (Str × Addr)} {qual x : Str} {Q : Env → Shared → Prop} (hcs : ∀ n, cellsFrom n scope.names cl' = (x, n) :: cl') (hpc : ∀ h, pushCells h scope.names = h.push { cls := .type "cell", data := .cell none })
    (h : Q (newEnv scope s.heap.objs.size globals ((x, s.heap.objs.size + 1) :: cl') qual none .none (some env) builtinsNs) { s with heap := (s.heap.push { cls := .type "dict", data := .dict #[] }).push { cls := .type "cell", data := .cell none } }) :
    wpAny M A (newFunctionEnv scope globals cl' [] qual none .none (some env)) Q E s := by
  simp only [newFunctionEnv, Option.isSome_some, if_true]
  refine wpAny_bind (wpAny_alloc ?_)
  refine wpAny_bind (wpAny_layCells _ (fun name kind cells => by cases hkc : kind == NameKind.cell <;> simp [hkc]) _ _ _ _ ?_)
  rw [hcs, hpc]
  rw [show ({ s with heap := s.heap.push { cls := .type "dict", data := .dict #[] } } : Shared).heap.objs.size = s.heap.objs.size + 1 from Heap.size_push ..]
  rw [List.forIn_nil]
  refine wpAny_bind (wpAny_pure ?_)
  exact wpAny_pure h
theorem ord4 {x I D C P : Nat} (h0 : x < I) (h1 : I < D) (h2 : D < C) (h3 : C < P) : (x ≠ I ∧ x ≠ D ∧ x ≠ C ∧ x ≠ P) ∧ (I ≠ D ∧ I ≠ C ∧ I ≠ P) ∧ (D ≠ C ∧ D ≠ P) ∧ C ≠ P :=
  have a := Nat.lt_trans h0 h1
  have b := Nat.lt_trans h1 h2
  have c := Nat.lt_trans h2 h3
  ⟨⟨Nat.ne_of_lt h0, Nat.ne_of_lt a, Nat.ne_of_lt (Nat.lt_trans a h2), Nat.ne_of_lt (Nat.lt_trans a c)⟩, ⟨Nat.ne_of_lt h1, Nat.ne_of_lt b, Nat.ne_of_lt (Nat.lt_trans b h3)⟩, ⟨Nat.ne_of_lt h2, Nat.ne_of_lt c⟩, Nat.ne_of_lt h3⟩
/-- a turn's end of such a comprehension -/
noncomputable def CellEnd (h₀ : Heap) (L : Addr) (m : Str → Option Value) (s₁ : Shared) (I : Addr) (oI : Obj) (C : Addr) (oC : Obj) (P : Addr) (oP : Obj) (D : Addr) (oD : Obj) (nx : List (Addr × Obj)) (rest : Value → Prop) (y : Value) (s' : Shared) : Prop :=
  ∃ h' tk', s' = { s₁ with heap := h', toks := tk' } ∧ Fr h₀ L h' m ∧ News h₀ L h' ((I, oI) :: (C, oC) :: (P, oP) :: (D, oD) :: nx) ∧ rest y
/-- at the end of an iterable's evaluation: a comprehension over a range, its target a cell, its ledger untouched by the turns -/
noncomputable def CellSrc (prog : Program) (w : World) (A : Around) (h₀ : Heap) (L : Addr) (m : Str → Option Value) (env : Env) (elt : PySem.Expr) (x : Str) (scope : Scope) (cl' : List (Str × Addr)) (Q : Value → Shared → Prop) (xv : Value) (s₁ : Shared) : Prop :=
  ∃ (r : Addr) (a b : Int) (t u v : Tok) (n : Nat) (nx : List (Addr × Obj)) (Inv : Nat → List Value → Prop), xv = .ref r ∧ A.handled = none ∧ Fr h₀ L s₁.heap m ∧ News h₀ L s₁.heap nx ∧ IsRange s₁.heap r a b 1 t u v ∧ Builtin.Range.small a b 1 = true ∧ Builtin.Range.rangeSize a b 1 = (n : Int) ∧ n ≤ sizeLine ∧ Inv 0 [] ∧
    (∀ i ys tv I oI C oC P oP D h tk (E' : Value → Shared → Prop), i < n → Inv i ys → oP.data = Data.cell (some (.int (a + (i : Int)) tv)) → Fr h₀ L h m → News h₀ L h ((I, oI) :: (C, oC) :: (P, oP) :: (D, lst ys) :: nx) →
      wpAny (model prog w) A (eval elt (compEnvC scope ((x, P) :: cl') C env)) (CellEnd h₀ L m s₁ I oI C oC P oP D (lst ys) nx fun y => Inv (i + 1) (ys ++ [y])) E' { s₁ with heap := h, toks := tk }) ∧
    (∀ ys D h tk, Inv n ys → Fr h₀ L h m → News h₀ L h ((D, lst ys) :: nx) → Q (.ref D) { s₁ with heap := h, toks := tk })

theorem ListComp_cell {elt iter : PySem.Expr} {x : Str} {px : Pos} {scope : Scope} {cl' : List (Str × Addr)} {pos : Pos}
    (F₀ : Fr h₀ L s.heap m) (hclos : closureFor scope env = pure cl') (hkind : scope.kind = .function) (hnames : ∀ y ∈ scope.names, y.2 = .local → scope.names.lookup y.1 = some .local)
    (hx : (relabel scope env).names.lookup x = some .cell) (hcs : ∀ n, cellsFrom n scope.names cl' = (x, n) :: cl') (hpc : ∀ h, pushCells h scope.names = h.push { cls := .type "cell", data := .cell none })
    (h : wpAny (model prog w) A (eval iter env) (CellSrc prog w A h₀ L m env elt x scope cl' Q) E s)
    (hs : ∀ x, foldedSetIterable iter env x = pure x := by intro _; rfl) :
    wpAny (model prog w) A (eval (.ListComp elt [⟨.Name x px, iter, [], 0⟩] scope pos) env) Q E s := by
  rw [eval_ListComp]
  refine wpAny_comprehension_free (use := none) rfl hs hclos hkind hnames (wpAny_mono h (fun xv s₁ h₁ => ?_) fun _ _ e => e)
  obtain ⟨r, a, b, t, u, v, n, nx, Inv, rfl, hh, F, N, hr, hsm, hn, hsz, hi0, turn, fin⟩ := h₁
  refine wpAny_pyIter_range hr hsm ?_
  refine wpAny_newObj_type (nfe_cell hcs hpc ?_)
  generalize hH1 : s₁.heap.push _ = H1
  have z1 : H1.objs.size = s₁.heap.objs.size + 1 := by rw [← hH1, Heap.size_push]
  dsimp only
  generalize hH2 : H1.push _ = H2
  have z2 : H2.objs.size = s₁.heap.objs.size + 2 := by rw [← hH2, Heap.size_push, z1]
  generalize hH3 : H2.push _ = H3
  have z3 : H3.objs.size = s₁.heap.objs.size + 3 := by rw [← hH3, Heap.size_push, z2]
  generalize hH4 : H3.push _ = H4
  have up1 : ∀ b o, s₁.heap.get? b = some o → H1.get? b = some o := fun b o e => hH1 ▸ Heap.get?_push_of_some _ e
  have up2 : ∀ b o, H1.get? b = some o → H2.get? b = some o := fun b o e => hH2 ▸ Heap.get?_push_of_some _ e
  have up3 : ∀ b o, H2.get? b = some o → H3.get? b = some o := fun b o e => hH3 ▸ Heap.get?_push_of_some _ e
  have up4 : ∀ b o, H3.get? b = some o → H4.get? b = some o := fun b o e => hH4 ▸ Heap.get?_push_of_some _ e
  have old : ∀ b o, s₁.heap.get? b = some o → H4.get? b = some o := fun b o e => up4 _ _ (up3 _ _ (up2 _ _ (up1 _ _ e)))
  have gI : IsRangeIter H4 s₁.heap.objs.size (a + ((0 : Nat) : Int) * 1) ((n : Int) - ((0 : Nat) : Int)) 1 := by
    show H4.get? _ = some _
    refine up4 _ _ (up3 _ _ (up2 _ _ ?_))
    rw [← hH1, hn]
    simpa using Heap.get?_push_size _ rfl
  have gD : H4.get? H1.objs.size = some (lst []) := up4 _ _ (up3 _ _ (by rw [← hH2]; exact Heap.get?_push_size _ rfl))
  have gC : H4.Ns H2.objs.size fun _ => none := by
    have h0 := Heap.Ns.new H2 (.type "dict")
    rw [hH3] at h0
    exact h0.keeps up4
  have gP : H4.IsCell H3.objs.size none := ⟨_, by rw [← hH4]; exact Heap.get?_push_size _ rfl, rfl⟩
  have eP : H2.objs.size + 1 = H3.objs.size := by omega
  rw [eP]
  have hLlt : @LT.lt Nat _ L s₁.heap.objs.size := F.ns.lt
  have fresh : ∀ b, s₁.heap.objs.size ≤ b → h₀.get? b = none := fun b hb => by
    cases e : h₀.get? b with
    | none => rfl
    | some o => exact absurd (Heap.lt_size (F.keep b o e)) (Nat.not_lt.mpr hb)
  have nlt : ∀ p ∈ nx, @LT.lt Nat _ p.1 s₁.heap.objs.size := fun p hp => Heap.lt_size (N p hp).1
  obtain ⟨I, hI⟩ : ∃ I, I = s₁.heap.objs.size := ⟨_, rfl⟩
  obtain ⟨D, hD⟩ : ∃ D, D = H1.objs.size := ⟨_, rfl⟩
  obtain ⟨C, hC⟩ : ∃ C, C = H2.objs.size := ⟨_, rfl⟩
  obtain ⟨P, hP⟩ : ∃ P, P = H3.objs.size := ⟨_, rfl⟩
  rw [← hI] at gI nlt fresh hLlt z1 z2 z3
  rw [← hD] at gD z1
  rw [← hC] at gC z2
  rw [← hP] at gP z3
  rw [← hI, ← hD, ← hC, ← hP]
  have l1 : @LT.lt Nat _ I D := by rw [z1]; exact Nat.lt_succ_self _
  have l2 : @LT.lt Nat _ D C := by rw [z1, z2]; exact Nat.lt_succ_self _
  have l3 : @LT.lt Nat _ C P := by rw [z2, z3]; exact Nat.lt_succ_self _
  clear z1 z2 z3 eP
  have o := ord4 hLlt l1 l2 l3
  have o1 := o.1.1
  have o2 := o.1.2.1
  have o3 := o.1.2.2.1
  have o4 := o.1.2.2.2
  have o5 := o.2.1.1
  have o6 := o.2.1.2.1
  have o7 := o.2.1.2.2
  have o8 := o.2.2.1.1
  have o9 := o.2.2.1.2
  have o0 := o.2.2.2
  have fD := fresh D (Nat.le_of_lt l1)
  have fC := fresh C (Nat.le_of_lt (Nat.lt_trans l1 l2))
  have fP := fresh P (Nat.le_of_lt (Nat.lt_trans l1 (Nat.lt_trans l2 l3)))
  have W := range_walks (prog := prog) (w := w) (A := A) (I := I) hh a n
  have loop : codeAny (model prog w) A (.compLoop (.ListComp elt [⟨.Name x px, iter, [], 0⟩] scope pos) 0 (.ref I) (.ref D) (compEnvC scope ((x, P) :: cl') C env)) (compPost (model prog w) A E none Q (.ref D) C) { s₁ with heap := H4 } := by
    refine codeAny_compLoop_tests
      (fun k s' => ∃ h' tk i ys v₀ m', s' = { s₁ with heap := h', toks := tk } ∧ i ≤ n ∧ k = n + 1 - i ∧ ys.length = i ∧ IsRangeIter h' I (a + (i : Nat) * 1) ((n : Int) - (i : Nat)) 1 ∧ Fr h₀ L h' m ∧ h'.Ns C m' ∧ h'.IsCell P v₀ ∧ News h₀ L h' ((D, lst ys) :: nx) ∧ Inv i ys) ?_ (n + 1)
      ⟨H4, _, 0, [], none, _, rfl, Nat.zero_le _, rfl, rfl, gI, F.keeps old, gC, gP, ?_, hi0⟩
    · rintro k s' ⟨h', tk, i, ys, v₀, m', rfl, hi, rfl, hyl, hst, F', hn', hp', N', hinv⟩
      by_cases hlt : i < n
      · refine W.item i _ _ _ hlt hst fun v h₂ tk₂ hPv hst₂ hk₂ => ?_
        obtain ⟨tv, rfl⟩ := hPv
        have hk₂' : ∀ b o, b ≠ I → h'.get? b = some o → h₂.get? b = some o := fun b o hb e => hk₂ b o (by simpa using hb) e
        have hp₂ : h₂.IsCell P v₀ := let ⟨o, e, d⟩ := hp'; ⟨o, hk₂' _ _ (by first | assumption | exact Ne.symm (by assumption)) e, d⟩
        refine wpAny_assign_Name (wpAny_storeName_cell (c := P) (v₀ := v₀) (by simp [compEnvC, relabel, hkind]) hx (by simp [compEnvC]) hp₂ fun h₃ hp₃ hs₃ => ?_)
        refine wpAny_tests_nil ?_
        simp only [if_true]
        obtain ⟨oP, heP, hoP⟩ := hp₃
        have hs₃' : ∀ b o, b ≠ P → h₂.get? b = some o → h₃.get? b = some o := fun b o hb e => hs₃.extBut b o hb e
        have F₃ : Fr h₀ L h₃ m := (fr_but F' hk₂ (by first | assumption | exact Ne.symm (by assumption)) (fresh I (Nat.le_refl _))).change hs₃ (by first | assumption | exact Ne.symm (by assumption)) fP
        have hn₃ : h₃.Ns C m' := (hn'.at' fun o e => hk₂' _ o (by first | assumption | exact Ne.symm (by assumption)) e).sameBut hs₃ (by first | assumption | exact Ne.symm (by assumption))
        obtain ⟨oC, heC, hoC⟩ := ns_obj hn₃
        obtain ⟨oI, heI, hoI⟩ : ∃ oI, h₃.get? I = some oI ∧ (∀ h', h'.get? I = some oI → IsRangeIter h' I (a + ((i + 1 : Nat) : Int) * 1) ((n : Int) - ((i + 1 : Nat) : Int)) 1) := ⟨_, hs₃' _ _ (by first | assumption | exact Ne.symm (by assumption)) hst₂, fun _ e => e⟩
        have N₃ : News h₀ L h₃ ((I, oI) :: (C, oC) :: (P, oP) :: (D, lst ys) :: nx) := by
          refine List.forall_mem_cons.mpr ⟨⟨heI, (by first | assumption | exact Ne.symm (by assumption)), fresh I (Nat.le_refl _)⟩, List.forall_mem_cons.mpr ⟨⟨heC, (by first | assumption | exact Ne.symm (by assumption)), fC⟩, List.forall_mem_cons.mpr ⟨⟨heP, (by first | assumption | exact Ne.symm (by assumption)), fP⟩, ?_⟩⟩⟩
          intro p hp
          have hpI : p.1 ≠ I ∧ p.1 ≠ P := by
            rcases List.mem_cons.mp hp with rfl | hp
            · exact ⟨(by first | assumption | exact Ne.symm (by assumption)), (by first | assumption | exact Ne.symm (by assumption))⟩
            · have q := (ord4 (nlt p hp) l1 l2 l3).1
              exact ⟨q.1, q.2.2.2⟩
          exact ⟨hs₃' _ _ hpI.2 (hk₂' _ _ hpI.1 (N' p hp).1), (N' p hp).2⟩
        refine wpAny_mono (turn i ys tv I oI C oC P oP D h₃ _ _ hlt hinv hoP F₃ N₃) (fun y s₄ h₄ => ?_) fun _ _ e => e
        obtain ⟨h₄, tk₄, rfl, F₄, N₄, hinv₄⟩ := h₄
        have zI := (N₄ _ List.mem_cons_self).1
        have zC := (N₄ (C, oC) (List.mem_cons_of_mem _ List.mem_cons_self)).1
        have zP := (N₄ (P, oP) (List.mem_cons_of_mem _ (List.mem_cons_of_mem _ List.mem_cons_self))).1
        have zD := (N₄ (D, lst ys) (List.mem_cons_of_mem _ (List.mem_cons_of_mem _ (List.mem_cons_of_mem _ List.mem_cons_self)))).1
        refine append_at (hsz := by show ys.toArray.size ≤ sizeLine; rw [List.size_toArray, hyl]; exact Nat.le_trans hi hsz) zD fun h₅ hs₅ hD₅ => ?_
        have hs₅' : ∀ b o, b ≠ D → h₄.get? b = some o → h₅.get? b = some o := fun b o hb e => hs₅.extBut b o hb e
        refine ⟨n + 1 - (i + 1), by omega, h₅, tk₄, i + 1, ys ++ [y], _, m', rfl, hlt, rfl, by rw [List.length_append, List.length_singleton, hyl], ?_, F₄.change hs₅ (by first | assumption | exact Ne.symm (by assumption)) fD, (hoC.ns zC).sameBut hs₅ (by first | assumption | exact Ne.symm (by assumption)), ⟨oP, hs₅' _ _ (by first | assumption | exact Ne.symm (by assumption)) zP, hoP⟩, ?_, hinv₄⟩
        · exact hoI _ (hs₅' _ _ (by first | assumption | exact Ne.symm (by assumption)) zI)
        · refine List.forall_mem_cons.mpr ⟨⟨hD₅.trans (congrArg some (lst_snoc ys y)), (by first | assumption | exact Ne.symm (by assumption)), fD⟩, fun p hp => ?_⟩
          have z := N₄ p (List.mem_cons_of_mem _ (List.mem_cons_of_mem _ (List.mem_cons_of_mem _ (List.mem_cons_of_mem _ hp))))
          exact ⟨hs₅' _ _ (ord4 (nlt p hp) l1 l2 l3).1.2.1 z.1, z.2⟩
      · obtain rfl : i = n := Nat.le_antisymm hi (Nat.not_lt.mp hlt)
        refine W.done _ _ _ hst fun h₂ tk₂ hk₂ => ?_
        have hk₂' : ∀ b o, b ≠ I → h'.get? b = some o → h₂.get? b = some o := fun b o hb e => hk₂ b o (by simpa using hb) e
        refine ⟨m', hn'.at' fun o e => hk₂' _ o (by first | assumption | exact Ne.symm (by assumption)) e, fun h₃ hs₃ => ?_⟩
        have hs₃' : ∀ b o, b ≠ C → h₂.get? b = some o → h₃.get? b = some o := fun b o hb e => hs₃.extBut b o hb e
        refine fin ys D h₃ tk₂ hinv ((fr_but F' hk₂ (by first | assumption | exact Ne.symm (by assumption)) (fresh I (Nat.le_refl _))).change hs₃ (by first | assumption | exact Ne.symm (by assumption)) fC) fun p hp => ?_
        have hpI : p.1 ≠ I ∧ p.1 ≠ C := by
          rcases List.mem_cons.mp hp with rfl | hp
          · exact ⟨(by first | assumption | exact Ne.symm (by assumption)), (by first | assumption | exact Ne.symm (by assumption))⟩
          · have q := (ord4 (nlt p hp) l1 l2 l3).1
            exact ⟨q.1, q.2.2.1⟩
        exact ⟨hs₃' _ _ hpI.2 (hk₂' _ _ hpI.1 (N' p hp).1), (N' p hp).2⟩
    · refine List.forall_mem_cons.mpr ⟨⟨gD, (by first | assumption | exact Ne.symm (by assumption)), fD⟩, fun p hp => ⟨old _ _ (N p hp).1, (N p hp).2⟩⟩
  exact codeAny_compStart_list loop (W.self 0 _ _ _ gI loop)
theorem CellSrc.range {elt : PySem.Expr} {x : Str} {scope : Scope} {cl' : List (Str × Addr)} {r : Addr} {a b : Int} {t u v : Tok} {n : Nat} {nx : List (Addr × Obj)} {s₁ : Shared} (hh : A.handled = none) (F : Fr h₀ L s₁.heap m) (N : News h₀ L s₁.heap nx) (hr : IsRange s₁.heap r a b 1 t u v)
    (hsm : Builtin.Range.small a b 1 = true) (hn : Builtin.Range.rangeSize a b 1 = (n : Int)) (hsz : n ≤ sizeLine) (Inv : Nat → List Value → Prop) (h0 : Inv 0 [])
    (turn : ∀ i ys tv I oI C oC P oP D h tk (E' : Value → Shared → Prop), i < n → Inv i ys → oP.data = Data.cell (some (.int (a + (i : Int)) tv)) → Fr h₀ L h m → News h₀ L h ((I, oI) :: (C, oC) :: (P, oP) :: (D, lst ys) :: nx) →
      wpAny (model prog w) A (eval elt (compEnvC scope ((x, P) :: cl') C env)) (CellEnd h₀ L m s₁ I oI C oC P oP D (lst ys) nx fun y => Inv (i + 1) (ys ++ [y])) E' { s₁ with heap := h, toks := tk })
    (fin : ∀ ys D h tk, Inv n ys → Fr h₀ L h m → News h₀ L h ((D, lst ys) :: nx) → Q (.ref D) { s₁ with heap := h, toks := tk }) :
    CellSrc prog w A h₀ L m env elt x scope cl' Q (.ref r) s₁ := ⟨r, a, b, t, u, v, n, nx, Inv, rfl, hh, F, N, hr, hsm, hn, hsz, h0, turn, fin⟩
theorem CellEnd.mk {rest : Value → Prop} {y : Value} {I C P D : Addr} {oI oC oP oD : Obj} {s₁ : Shared} {h' : Heap} {tk : Nat} {all nx : List (Addr × Obj)} (F : Fr h₀ L h' m) (N : News h₀ L h' all) (hs : ∀ p ∈ (I, oI) :: (C, oC) :: (P, oP) :: (D, oD) :: nx, p ∈ all) (r : rest y) :
    CellEnd h₀ L m s₁ I oI C oC P oP D oD nx rest y { s₁ with heap := h', toks := tk } := ⟨h', tk, rfl, F, fun p hp => N p (hs p hp), r⟩
end
end
section
variable {w : World} {mean : ExcName → Option Value} {mg mb : Str → Option Value} {dp un : Nat} {gd : Option (List Code)} {cn : Str} {cs : Scope} {a : Addr} {ccd : Value} {cl : List (Str × Addr)} {outer : List Env} {A₀ : Around} {base h₀ : Heap} {L : Addr} {m : Str → Option Value} {s : Shared} {Q E : Value → Shared → Prop} {news : List (Addr × Obj)}
section
open LCg
variable {prog : Program} {A : Around} {env : Env}
/-- at the end of an iterable's evaluation: a comprehension of pairs over enumerate of a list of the ledger, its ledger untouched by the turns -/
noncomputable def EnumSrc (prog : Program) (w : World) (A : Around) (h₀ : Heap) (L : Addr) (m : Str → Option Value) (env : Env) (elt : PySem.Expr) (a b : Str) (scope : Scope) (cl' : List (Str × Addr)) (Q : Value → Shared → Prop) (xv : Value) (s₁ : Shared) : Prop :=
  ∃ (e it l : Addr) (vs : List Value) (nl : Nat) (old : Value) (nx : List (Addr × Obj)) (Inv : Nat → List Value → Prop), xv = .ref e ∧ A.handled = none ∧ Fr h₀ L s₁.heap m ∧ News h₀ L s₁.heap nx ∧ IsEnum s₁.heap e it 0 old ∧ s₁.heap.IsListIter it l 0 ∧ (l, W.listOf vs.toArray nl) ∈ nx ∧
    @LT.lt Nat _ it e ∧ (∀ p ∈ nx, @LT.lt Nat _ p.1 it) ∧ @LT.lt Nat _ L it ∧ h₀.get? e = none ∧ h₀.get? it = none ∧ vs.length ≤ sizeLine ∧ Inv 0 [] ∧
    (∀ i ys v tv oe oi C oC m₂ D h tk (E' : Value → Shared → Prop), vs[i]? = some v → Inv i ys → NsObj oC m₂ → m₂ a = some (.int (i : Int) tv) → m₂ b = some v → Fr h₀ L h m → News h₀ L h ((e, oe) :: (it, oi) :: (C, oC) :: (D, lst ys) :: nx) →
      wpAny (model prog w) A (eval elt (compEnvC scope cl' C env)) (CellEnd h₀ L m s₁ e oe it oi C oC D (lst ys) nx fun y => Inv (i + 1) (ys ++ [y])) E' { s₁ with heap := h, toks := tk }) ∧
    (∀ ys D h tk, Inv vs.length ys → Fr h₀ L h m → News h₀ L h ((D, lst ys) :: nx) → Q (.ref D) { s₁ with heap := h, toks := tk })

theorem ListComp_enum {elt iter : PySem.Expr} {a b : Str} {pa pb tp : Pos} {kk : Nat} {scope : Scope} {cl' : List (Str × Addr)} {pos : Pos}
    (F₀ : Fr h₀ L s.heap m) (hclos : closureFor scope env = pure cl') (hcell : ∀ y ∈ scope.names, y.2 ≠ .cell) (hkind : scope.kind = .function) (hnames : ∀ y ∈ scope.names, y.2 = .local → scope.names.lookup y.1 = some .local)
    (hxa : scope.names.lookup a = some .local) (hxb : scope.names.lookup b = some .local) (hab : ¬ a = b)
    (h : wpAny (model prog w) A (eval iter env) (EnumSrc prog w A h₀ L m env elt a b scope cl' Q) E s)
    (hs : ∀ x, foldedSetIterable iter env x = pure x := by intro _; rfl) :
    wpAny (model prog w) A (eval (.ListComp elt [⟨.Tuple [.Name a pa, .Name b pb] kk tp, iter, [], 0⟩] scope pos) env) Q E s := by
  rw [eval_ListComp]
  refine wpAny_comprehension_free (use := none) rfl hs hclos hkind hnames (wpAny_mono h (fun xv s₁ h₁ => ?_) fun _ _ e => e)
  obtain ⟨e, it, l, vs, nl, old, nx, Inv, rfl, hh, F, N, hE, hI, hl, hie, nlt, hLlt, he0, hi0', hsz, hi0, turn, fin⟩ := h₁
  refine wpAny_pyIter_enum hE ?_
  refine wpAny_newObj_type (wpAny_newFunctionEnv hcell (by intro y hy; simp at hy) (fun H4 hns₁ hsb₁ => ?_) hkind)
  dsimp only at hns₁ hsb₁ ⊢
  generalize hH2 : s₁.heap.push _ = H2 at hns₁ hsb₁ ⊢
  have z2 : H2.objs.size = s₁.heap.objs.size + 1 := by rw [← hH2, Heap.size_push]
  have ne : ∀ {p q : Nat}, p < q ∨ q < p → p ≠ q := fun h => by omega
  have hes : @LT.lt Nat _ e s₁.heap.objs.size := Heap.lt_size hE
  have fresh : ∀ b, s₁.heap.objs.size ≤ b → h₀.get? b = none := fun b hb => by
    cases e : h₀.get? b with
    | none => rfl
    | some o => exact absurd (Heap.lt_size (F.keep b o e)) (Nat.not_lt.mpr hb)
  have old' : ∀ b o, s₁.heap.get? b = some o → H4.get? b = some o := fun b o e => hsb₁.extBut b o (ne (.inl (Nat.lt_trans (Heap.lt_size e) (by rw [z2]; exact Nat.lt_succ_self _)))) (Heap.get?_push_of_some _ (hH2 ▸ Heap.get?_push_of_some _ e))
  have gD : H4.get? s₁.heap.objs.size = some (lst []) := hsb₁.extBut s₁.heap.objs.size (lst []) (ne (.inl (by rw [z2]; exact Nat.lt_succ_self _))) (Heap.get?_push_of_some _ (hH2 ▸ Heap.get?_push_size _ rfl))
  obtain ⟨D, hD⟩ : ∃ D, D = s₁.heap.objs.size := ⟨_, rfl⟩
  obtain ⟨C, hC⟩ : ∃ C, C = H2.objs.size := ⟨_, rfl⟩
  rw [← hD] at gD fresh hes z2
  rw [← hC] at z2 hns₁
  rw [← hC, ← hD]
  have l3 : @LT.lt Nat _ D C := by rw [z2]; exact Nat.lt_succ_self _
  clear z2
  have o := ord4 hLlt hie hes l3
  have o1 := o.1.1
  have o2 := o.1.2.1
  have o3 := o.1.2.2.1
  have o4 := o.1.2.2.2
  have o5 := o.2.1.1
  have o6 := o.2.1.2.1
  have o7 := o.2.1.2.2
  have o8 := o.2.2.1.1
  have o9 := o.2.2.1.2
  have o0 := o.2.2.2
  have r := (ord4 (nlt _ hl) hie hes l3).1
  have r1 := r.1
  have r2 := r.2.1
  have r3 := r.2.2.1
  have r4 := r.2.2.2
  have fD := fresh D (Nat.le_refl _)
  have fC := fresh C (Nat.le_of_lt l3)
  have hll : s₁.heap.IsList l vs.toArray := ⟨_, (N _ hl).1, rfl, nl, rfl⟩
  have hlit : @LT.lt Nat _ l it := nlt _ hl
  have W := WalksT.enumerate (prog := prog) (w := w) (A := A) hh e it l (by first | assumption | exact Ne.symm (by assumption)) (by first | assumption | exact Ne.symm (by assumption)) (by first | assumption | exact Ne.symm (by assumption)) vs.toArray
  have hvsz : vs.toArray.size = vs.length := List.size_toArray
  have loop : codeAny (model prog w) A (.compLoop (.ListComp elt [⟨.Tuple [.Name a pa, .Name b pb] kk tp, iter, [], 0⟩] scope pos) 0 (.ref e) (.ref D) (compEnvC scope cl' C env)) (compPost (model prog w) A E none Q (.ref D) C) { s₁ with heap := H4, toks := s₁.toks + ([] : List (Str × Value)).length } := by
    refine kcp_loop
      (fun k s' => ∃ h' tk i ys m', s' = { s₁ with heap := h', toks := tk } ∧ i ≤ vs.length ∧ k = vs.length + 1 - i ∧ ys.length = i ∧ ((∃ old, IsEnum h' e it i old) ∧ h'.IsListIter it l i ∧ h'.IsList l vs.toArray) ∧ Fr h₀ L h' m ∧ h'.Ns C m' ∧ News h₀ L h' ((D, lst ys) :: nx) ∧ Inv i ys) ?_ (vs.length + 1)
      ⟨H4, _, 0, [], _, rfl, Nat.zero_le _, rfl, rfl, ⟨⟨old, old' _ _ hE⟩, hI.at fun o x => old' _ o x, hll.at fun o x => old' _ o x⟩, F.keeps old', hns₁, ?_, hi0⟩
    · rintro k s' ⟨h', tk, i, ys, m', rfl, hi, rfl, hyl, hst, F', hn', N', hinv⟩
      by_cases hlt : i < vs.length
      · refine W.item i _ _ _ (by omega) hst fun T vals h₂ tk₂ hPv hT hTt hMid hk₂ => ?_
        obtain ⟨tv, v, hv, rfl⟩ := hPv
        have hv' : vs[i]? = some v := by simpa using hv
        have hTn : T ≠ e ∧ T ≠ it := ⟨hMid.2.2.2.1, hMid.2.2.2.2⟩
        refine W.go _ _ _ i T _ _ _ hMid fun h₃ hst₃ hk₃ => ?_
        have up : ∀ b o, b ≠ e → b ≠ it → h'.get? b = some o → h₃.get? b = some o := fun b o h1 h2 x => hk₃ b o (by simp [h1, h2]) (hk₂ b o (by simp [h1, h2]) x)
        have hTt₃ : h₃.IsTuple T #[.int (i : Int) tv, v] := let ⟨o, ho, r⟩ := hTt; ⟨o, hk₃ T o (by simp [hTn]) ho, r⟩
        have hn₃ : h₃.Ns C m' := hn'.at' fun o x => up _ o (by first | assumption | exact Ne.symm (by assumption)) (by first | assumption | exact Ne.symm (by assumption)) x
        refine kcp_assign hh hTt₃ (lookup_relabel_local hxa) (lookup_relabel_local hxb) (by simp [compEnvC, relabel, hkind]) hn₃ fun h₄ tk₄ hn₄ hk₄ => ?_
        have hk₄' : ∀ b o, b ≠ C → h₃.get? b = some o → h₄.get? b = some o := fun b o hb x => hk₄ b o hb x
        obtain ⟨⟨old₃, he₃⟩, ⟨oi, hoi, hoi'⟩, hl₃⟩ := hst₃
        obtain ⟨oe, heE, hoE⟩ : ∃ oe, h₃.get? e = some oe ∧ (∀ h', h'.get? e = some oe → IsEnum h' e it ((i + 1 : Nat) : Int) old₃) := ⟨_, he₃, fun _ x => x⟩
        obtain ⟨oC, heC, hoC⟩ := ns_obj hn₄
        have F₄ : Fr h₀ L h₄ m := ⟨F'.ns.at' fun o x => hk₄' _ o (by first | assumption | exact Ne.symm (by assumption)) (up _ o (by first | assumption | exact Ne.symm (by assumption)) (by first | assumption | exact Ne.symm (by assumption)) x), fun b o x => hk₄' b o (fun q => by rw [q, fC] at x; cases x) (up b o (fun q => by rw [q, he0] at x; cases x) (fun q => by rw [q, hi0'] at x; cases x) (F'.keep b o x)), F'.above⟩
        have N₄ : News h₀ L h₄ ((e, oe) :: (it, oi) :: (C, oC) :: (D, lst ys) :: nx) := by
          refine List.forall_mem_cons.mpr ⟨⟨hk₄' _ _ (by first | assumption | exact Ne.symm (by assumption)) heE, (by first | assumption | exact Ne.symm (by assumption)), he0⟩, List.forall_mem_cons.mpr ⟨⟨hk₄' _ _ (by first | assumption | exact Ne.symm (by assumption)) hoi, (by first | assumption | exact Ne.symm (by assumption)), hi0'⟩, List.forall_mem_cons.mpr ⟨⟨heC, (by first | assumption | exact Ne.symm (by assumption)), fC⟩, ?_⟩⟩⟩
          intro p hp
          have hpI : p.1 ≠ e ∧ p.1 ≠ it ∧ p.1 ≠ C := by
            rcases List.mem_cons.mp hp with rfl | hp
            · exact ⟨(by first | assumption | exact Ne.symm (by assumption)), (by first | assumption | exact Ne.symm (by assumption)), (by first | assumption | exact Ne.symm (by assumption))⟩
            · have q := (ord4 (nlt p hp) hie hes l3).1
              exact ⟨q.2.1, q.1, q.2.2.2⟩
          exact ⟨hk₄' _ _ hpI.2.2 (up _ _ hpI.1 hpI.2.1 (N' p hp).1), (N' p hp).2⟩
        refine wpAny_mono (turn i ys v tv oe oi C oC _ D h₄ _ _ hv' hinv hoC (by simp [hab]) (by simp) F₄ N₄) (fun y s₅ h₅ => ?_) fun _ _ e => e
        obtain ⟨h₅, tk₅, rfl, F₅, N₅, hinv₅⟩ := h₅
        have zE := (N₅ _ List.mem_cons_self).1
        have zI := (N₅ (it, oi) (List.mem_cons_of_mem _ List.mem_cons_self)).1
        have zC := (N₅ (C, oC) (List.mem_cons_of_mem _ (List.mem_cons_of_mem _ List.mem_cons_self))).1
        have zD := (N₅ (D, lst ys) (List.mem_cons_of_mem _ (List.mem_cons_of_mem _ (List.mem_cons_of_mem _ List.mem_cons_self)))).1
        have zL := (N₅ (l, PySem.W.listOf vs.toArray nl) (List.mem_cons_of_mem _ (List.mem_cons_of_mem _ (List.mem_cons_of_mem _ (List.mem_cons_of_mem _ hl))))).1
        refine append_at (hsz := by show ys.toArray.size ≤ sizeLine; rw [List.size_toArray, hyl]; exact Nat.le_trans hi hsz) zD fun h₆ hs₆ hD₆ => ?_
        have hs₆' : ∀ b o, b ≠ D → h₅.get? b = some o → h₆.get? b = some o := fun b o hb e => hs₆.extBut b o hb e
        refine ⟨vs.length + 1 - (i + 1), by omega, h₆, tk₅, i + 1, ys ++ [y], _, rfl, hlt, rfl, by rw [List.length_append, List.length_singleton, hyl], ⟨⟨old₃, hoE _ (hs₆' _ _ (by first | assumption | exact Ne.symm (by assumption)) zE)⟩, ⟨oi, hs₆' _ _ (by first | assumption | exact Ne.symm (by assumption)) zI, hoi'⟩, ⟨_, hs₆' _ _ (by first | assumption | exact Ne.symm (by assumption)) zL, rfl, nl, rfl⟩⟩, F₅.change hs₆ (by first | assumption | exact Ne.symm (by assumption)) fD, (hoC.ns zC).sameBut hs₆ (by first | assumption | exact Ne.symm (by assumption)), ?_, hinv₅⟩
        refine List.forall_mem_cons.mpr ⟨⟨hD₆.trans (congrArg some (lst_snoc ys y)), (by first | assumption | exact Ne.symm (by assumption)), fD⟩, fun p hp => ?_⟩
        have z := N₅ p (List.mem_cons_of_mem _ (List.mem_cons_of_mem _ (List.mem_cons_of_mem _ (List.mem_cons_of_mem _ hp))))
        exact ⟨hs₆' _ _ (ord4 (nlt p hp) hie hes l3).1.2.2.1 z.1, z.2⟩
      · obtain rfl : i = vs.length := Nat.le_antisymm hi (Nat.not_lt.mp hlt)
        rw [← hvsz] at hst
        refine W.done _ _ _ hst fun h₂ tk₂ hk₂ => ?_
        have hk₂' : ∀ b o, b ≠ e → b ≠ it → h'.get? b = some o → h₂.get? b = some o := fun b o h1 h2 x => hk₂ b o (by simp [h1, h2]) x
        refine ⟨m', hn'.at' fun o x => hk₂' _ o (by first | assumption | exact Ne.symm (by assumption)) (by first | assumption | exact Ne.symm (by assumption)) x, fun h₃ hs₃ => ?_⟩
        have hs₃' : ∀ b o, b ≠ C → h₂.get? b = some o → h₃.get? b = some o := fun b o hb x => hs₃.extBut b o hb x
        have F₂ : Fr h₀ L h₂ m := ⟨F'.ns.at' fun o x => hk₂' _ o (by first | assumption | exact Ne.symm (by assumption)) (by first | assumption | exact Ne.symm (by assumption)) x, fun b o x => hk₂' b o (fun q => by rw [q, he0] at x; cases x) (fun q => by rw [q, hi0'] at x; cases x) (F'.keep b o x), F'.above⟩
        refine fin ys D h₃ tk₂ hinv (F₂.change hs₃ (by first | assumption | exact Ne.symm (by assumption)) fC) fun p hp => ?_
        have hpI : p.1 ≠ e ∧ p.1 ≠ it ∧ p.1 ≠ C := by
          rcases List.mem_cons.mp hp with rfl | hp
          · exact ⟨(by first | assumption | exact Ne.symm (by assumption)), (by first | assumption | exact Ne.symm (by assumption)), (by first | assumption | exact Ne.symm (by assumption))⟩
          · have q := (ord4 (nlt p hp) hie hes l3).1
            exact ⟨q.2.1, q.1, q.2.2.2⟩
        exact ⟨hs₃' _ _ hpI.2.2 (hk₂' _ _ hpI.1 hpI.2.1 (N' p hp).1), (N' p hp).2⟩
    · refine List.forall_mem_cons.mpr ⟨⟨gD, (by first | assumption | exact Ne.symm (by assumption)), fD⟩, fun p hp => ⟨old' _ _ (N p hp).1, (N p hp).2⟩⟩
  exact codeAny_compStart_list loop (wpAny_pyIter_enum (old' _ _ hE) loop)
theorem EnumSrc.call {elt : PySem.Expr} {a b : Str} {scope : Scope} {cl' : List (Str × Addr)} {l : Addr} {vs : List Value} {nl : Nat} {nx : List (Addr × Obj)} (hh : A.handled = none) (F : Fr h₀ L s.heap m) (N : News h₀ L s.heap nx) (hl : (l, W.listOf vs.toArray nl) ∈ nx) (hsz : vs.length ≤ sizeLine)
    (Inv : Nat → List Value → Prop) (h0 : Inv 0 [])
    (turn : ∀ e it i ys v tv oe oi C oC m₂ D h tk (E' : Value → Shared → Prop), vs[i]? = some v → Inv i ys → NsObj oC m₂ → m₂ a = some (.int (i : Int) tv) → m₂ b = some v → Fr h₀ L h m → News h₀ L h ((e, oe) :: (it, oi) :: (C, oC) :: (D, lst ys) :: nx) →
      wpAny (model prog w) A (eval elt (compEnvC scope cl' C env)) (CellEnd h₀ L m s e oe it oi C oC D (lst ys) nx fun y => Inv (i + 1) (ys ++ [y])) E' { s with heap := h, toks := tk })
    (fin : ∀ ys D h tk, Inv vs.length ys → Fr h₀ L h m → News h₀ L h ((D, lst ys) :: nx) → Q (.ref D) { s with heap := h, toks := tk }) :
    wpAny (model prog w) A (call (.type "enumerate") [.ref l]) (EnumSrc prog w A h₀ L m env elt a b scope cl' Q) E s := by
  have fresh : ∀ b, s.heap.objs.size ≤ b → h₀.get? b = none := fun b hb => by
    cases e : h₀.get? b with
    | none => rfl
    | some o => exact absurd (Heap.lt_size (F.keep b o e)) (Nat.not_lt.mpr hb)
  refine call_enumerate_list ⟨_, (N _ hl).1, rfl, nl, rfl⟩ fun h' hE hI _ hk => ?_
  exact ⟨_, _, l, vs, nl, .none, nx, Inv, rfl, hh, F.keeps hk, N.grown hk, hE, hI, hl, Nat.lt_succ_self _, fun p hp => Heap.lt_size (N p hp).1, F.ns.lt, fresh _ (Nat.le_succ _), fresh _ (Nat.le_refl _), hsz, h0, fun i ys v tv oe oi C oC m₂ D h tk E' => turn _ _ i ys v tv oe oi C oC m₂ D h tk E', fin⟩
end
end
local macro_rules | `(tactic| walk_at "eval ListComp") => `(tactic| ((first | ((have : HoldC := by assumption); clear this) | fail "no hold"); refine Hold.stop ?_))
section
variable {w : World} {mean : ExcName → Option Value} {mg mb : Str → Option Value} {dp un : Nat} {gd : Option (List Code)} {cn : Str} {cs : Scope} {a : Addr} {ccd : Value} {cl : List (Str × Addr)} {outer : List Env} {A₀ : Around} {base h₀ : Heap} {L : Addr} {m : Str → Option Value} {s : Shared} {Q E : Value → Shared → Prop} {news : List (Addr × Obj)}
@[irreducible] noncomputable def bey (c : List Int) (nt : Int) (szs : List Int) : List Int := szs.map fun z => Int.fdiv (ilP c nt z) z - nt
theorem bey_one {ys : List Value} {c szs : List Int} {nt z v : Int} {i : Nat} {t : Tok} (h : IntsAre ys (bey c nt (szs.take i))) (hz : szs[i]? = some z) (hv : v = Int.fdiv (ilP c nt z) z - nt) : IntsAre (ys ++ [.int v t]) (bey c nt (szs.take (i + 1))) := by
  have e : bey c nt (szs.take (i + 1)) = bey c nt (szs.take i) ++ [Int.fdiv (ilP c nt z) z - nt] := by
    rw [List.take_add_one, hz]; simp [bey]
  rw [e, hv]
  exact h.append (.cons _ t .nil)
noncomputable def toldF (ws szs : List Int) (place : Int) (i : Nat) : List Int := ((List.range i).filter fun k => decide (ws.getD k 0 > place)).map fun k => szs.getD k 0
theorem toldF_one {ys : List Value} {ws szs : List Int} {place v : Int} {i : Nat} {t : Tok} (h : IntsAre ys (toldF ws szs place i)) (hp : ws.getD (0 + (i : Int)).toNat 0 > place) (hv : v = szs.getD (0 + (i : Int)).toNat 0) : IntsAre (ys ++ [.int v t]) (toldF ws szs place (i + 1)) := by
  rw [show (0 + (i : Int)).toNat = i by omega] at hp hv
  have e : toldF ws szs place (i + 1) = toldF ws szs place i ++ [szs.getD i 0] := by
    simp only [toldF, List.range_succ, List.filter_append, List.map_append]
    rw [List.filter_cons_of_pos (by simpa using hp)]
    simp
  rw [e, hv]
  exact h.append (.cons _ t .nil)
theorem toldF_no {ys : List Value} {ws szs : List Int} {place : Int} {i : Nat} (h : IntsAre ys (toldF ws szs place i)) (hp : ¬ ws.getD (0 + (i : Int)).toNat 0 > place) : IntsAre ys (toldF ws szs place (i + 1)) := by
  rw [show (0 + (i : Int)).toNat = i by omega] at hp
  have e : toldF ws szs place (i + 1) = toldF ws szs place i := by
    simp only [toldF, List.range_succ, List.filter_append, List.map_append]
    rw [List.filter_cons_of_neg (by simpa using hp)]
    simp
  rw [e]; exact h
@[irreducible] noncomputable def manyP (bs : List Int) : List Int := ([0, 1, 2] : List Nat).map fun k => bs.getD k 0 - 2 * bs.getD (k + 1) 0
@[irreducible] noncomputable def toldP (c : List Int) (nt : Int) : List Int := (List.range 4).map fun (p : Nat) => (toldF (manyP (bey c nt [1, 2, 4, 8])) [1, 2, 4, 8] (0 + (p : Int)) 3).sum
theorem told_spec {x sa : Addr} {c : List Int} {n nt : Int} {s1 s2 s3 s4 : Tok} {kk : Nat} (B : Below A₀ base outer h₀) (F : Fr h₀ L s.heap m) (X : (hd.heap_39 w.params).In h₀) (N : News h₀ L s.heap news) (T : Top hd.view_39 (looseW hd.view_39 [Str.ofString "Whitespace"]) mean mg mb h₀) (hk : cs.kind = .function) (hdp : dp + 6 < recursionLimit) (hun : un + 60 < cLine)
    (hm : (sa, W.listOf [Value.int 1 s1, Value.int 2 s2, Value.int 4 s3, Value.int 8 s4].toArray kk) ∈ news) (hl : LeadIn w news x c n nt) (hc : c.length < 1000)
    (hret : ∀ ra y1 y2 y3 y4 u1 u2 u3 u4 k h' tk', Fr h₀ L h' m → News h₀ L h' ((ra, W.listOf [Value.int y1 u1, Value.int y2 u2, Value.int y3 u3, Value.int y4 u4].toArray k) :: news) → toldP c nt = [y1, y2, y3, y4] → Q (.ref ra) {s with heap := h', toks := tk'}) :
    wpAny (model PySem.Challenge.rw_re0074_03.row.prog w) (ktrTop dp un gd cn cs L a ccd cl outer) (call (.ref 128) [.ref x, .ref sa]) Q E s := by
  k_with_none
  refine hl.out ?_
  intro dx tn tc ws vs k1 k2 k3 k4 k5 u1 u2 u3 u4 e1 e2 m1 m2 m3 m4 hI
  refine wpAny_call ?_
  k_dflt (refine' enterZC (lit := [(sa, W.listOf [Value.int 1 s1, Value.int 2 s2, Value.int 4 s3, Value.int 8 s4].toArray kk), (x, instObj 83 dx), (dx, leadDict w ws c n nt tn k1 k2 k3 k4 k5 u1 u2 u3), (tn, tupO [.ref tc, .int 0 u4] e1), (tc, tupO vs e2)]) ?k1 ?k2 ?k3 ?k4 ?k5 ?ksub ?kA ?kF ?kK ?k6 ?k7 ?k8 ?k9 ?kB ?kD ?_ ?c2 ?c3 ?c4; (case kA => exact rfl); (case kF => exact rfl); (case kK => first | assumption | exact rfl); (case k1 => k_asm); (case k2 => k_asm); (case k3 => k_asm); (case k4 => k_asm); (case k5 => k_asm); (case ksub => (first | exact List.forall_mem_nil _ | (repeat (refine sub_cons (by assumption) ?_)); exact List.forall_mem_nil _)); (case k6 => k_is); (case k7 => k_is); (case k8 => ktr_room); (case k9 => exact BindsTo.of_eq rfl); (case kB => exact rfl); (case kD => decide +kernel); (case c2 => exact rfl); (case c3 => exact rfl); (case c4 => exact rfl); k_whole; intro g' L' h' tk' cells' F' N' Y' B' X' T' l0; (try k_lt l0); k_cells Y'; (try simp only [List.cons_append, List.nil_append] at N'); (try dsimp only); (try k_fold))
  have hcm : HoldC := trivial
  refine hideQ ?_
  intro K hK
  k_steps
  refine Hold.go ?_
  k_dflt (refine LCg.ListComp_U (F₀ := by k_asm) (by rfl) (by decide) (by rfl) (by decide) (by rfl) ?_)
  walk1
  k_dflt (refine LCg.CompSrc.ledger (by rfl) (by k_asm) (by k_asm) (by k_mem) (by simp only [List.size_toArray, sizeLine_eq, List.length_cons, List.length_nil]; decide) ?_)
  intro g2
  refine comp_ind (fun i ys nx => nx = _ ∧ IntsAre ys (bey c nt (([1, 2, 4, 8] : List Int).take i))) ?_ ?_ _ 0 [] _ (Nat.zero_add _) ⟨rfl, by unfold bey; exact .nil⟩
  · rintro i ys nx v I oI C oC D m₂ h tk E' hi ⟨rfl, hys⟩ hv hC hx F2 N2 off ne
    clear ne
    have hI4 : IntsAre [Value.int 1 s1, Value.int 2 s2, Value.int 4 s3, Value.int 8 s4] [1, 2, 4, 8] := .cons _ _ (.cons _ _ (.cons _ _ (.cons _ _ .nil)))
    obtain ⟨z, tz, rfl, hz⟩ := hI4.at i v (by simpa using hv)
    have hzb : 1 ≤ z ∧ z < 100 := by
      have := List.mem_of_getElem? hz
      simp at this; omega
    clear hI4
    refine hideQ ?_
    intro K1 hK1
    k_steps
    refine hK1 _ _ ?_
    k_steps
    exact bey_one hys hz rfl
  · rintro ys nx ⟨rfl, hys⟩
    rw [show ([1, 2, 4, 8] : List Int).take [Value.int 1 s1, Value.int 2 s2, Value.int 4 s3, Value.int 8 s4].toArray.size = [1, 2, 4, 8] from rfl] at hys
    have hb4 : ∃ b1 b2 b3 b4, bey c nt [1, 2, 4, 8] = [b1, b2, b3, b4] := by unfold bey; exact ⟨_, _, _, _, rfl⟩
    obtain ⟨b1, b2, b3, b4, hb⟩ := hb4
    rw [hb] at hys
    obtain ⟨v1, v2, v3, v4, rfl⟩ := ints4 hys
    clear hys
    k_steps
    refine Hold.go ?_
    k_dflt (refine LCg.ListComp_U (F₀ := by k_asm) (by rfl) (by decide) (by rfl) (by decide) (by rfl) ?_)
    iterate 16 (first | walk1 | (dsimp only; walk1))
    k_dflt (refine LCg.CompSrc.range (n := 3) (by rfl) (by k_asm) (by k_asm) (by assumption) (by decide) (by decide) (by decide) ?_)
    intro g3
    refine comp_ind (fun i ys nx => nx = _ ∧ IntsAre ys (((List.range 3).take i).map fun k => [b1, b2, b3, b4].getD k 0 - 2 * [b1, b2, b3, b4].getD (k + 1) 0)) ?_ ?_ _ 0 [] _ (Nat.zero_add _) ⟨rfl, .nil⟩
    · rintro i ys nx v I oI C oC D m₂ h tk E' hi ⟨rfl, hys⟩ ⟨tv, rfl⟩ hC hx F2 N2 off ne
      clear ne
      refine hideQ ?_
      intro K1 hK1
      k_steps
      refine hK1 _ _ ?_
      k_steps
      have hi3 : i < 3 := hi
      have e : ((List.range 3).take (i + 1)).map (fun k => [b1, b2, b3, b4].getD k 0 - 2 * [b1, b2, b3, b4].getD (k + 1) 0) = ((List.range 3).take i).map (fun k => [b1, b2, b3, b4].getD k 0 - 2 * [b1, b2, b3, b4].getD (k + 1) 0) ++ [[b1, b2, b3, b4].getD i 0 - 2 * [b1, b2, b3, b4].getD (i + 1) 0] := by
        rw [List.take_add_one, List.map_append]
        simp [hi3]
      rw [e, show (0 + (i : Int)).toNat = i by omega, show (0 + (i : Int) + 1).toNat = i + 1 by omega]
      exact hys.append (.cons _ _ .nil)
    · rintro ys nx ⟨rfl, hys⟩
      rw [show ((List.range 3).take 3).map (fun k => [b1, b2, b3, b4].getD k 0 - 2 * [b1, b2, b3, b4].getD (k + 1) 0) = manyP [b1, b2, b3, b4] by unfold manyP; rfl] at hys
      have hm3 : ∃ m1 m2 m3, manyP [b1, b2, b3, b4] = [m1, m2, m3] := by unfold manyP; exact ⟨_, _, _, rfl⟩
      obtain ⟨w1, w2, w3, hmm⟩ := hm3
      rw [hmm] at hys
      obtain ⟨v1, v2, v3, rfl⟩ := ints3 hys
      clear hys
      k_steps
      refine Hold.go ?_
      k_dflt (refine ListComp_cell (F₀ := by k_asm) (by rfl) (by rfl) (by decide) (by rfl) (fun _ => rfl) (fun _ => rfl) ?_)
      iterate 7 (first | walk1 | (dsimp only; walk1))
      k_dflt (refine CellSrc.range (n := 4) (by rfl) (by k_asm) (by k_asm) (by assumption) (by decide) (by decide) (by decide) (fun i ys => IntsAre ys ((List.range i).map fun (p : Nat) => (toldF [w1, w2, w3] [1, 2, 4, 8] (0 + (p : Int)) 3).sum)) .nil ?_ ?_)
      · intro i ys tv I oI C oC P oP D h tk E' hi hinv hoP F2 N2
        refine hideQ ?_
        intro K1 hK1
        k_steps
        refine Hold.go ?_
        k_dflt (refine LCt.ListComp_T (F₀ := by k_asm) (by rfl) (by decide) (by rfl) (by decide) (by rfl) ?_)
        iterate 13 (first | walk1 | (dsimp only; walk1))
        k_dflt (refine LCt.CompSrcT.range (n := 3) (by rfl) (by k_asm) (by k_asm) (by assumption) (by decide) (by first | rfl | decide) (by decide) ?_)
        intro g4
        refine compT_ind (fun j zs nx => nx = _ ∧ IntsAre zs (toldF [w1, w2, w3] [1, 2, 4, 8] (0 + (i : Int)) j)) ?_ ?_ _ 0 [] _ (Nat.zero_add _) ⟨rfl, .nil⟩
        · rintro j zs nx v I' oI' C' oC' D' m₂ h5 tk5 E5 hj ⟨rfl, hzs⟩ ⟨tv', rfl⟩ hC hx F5 N5 off ne
          clear ne
          k_steps
          · exact toldF_one hzs (by assumption) rfl
          · exact toldF_no hzs (by assumption)
        · rintro zs nx ⟨rfl, hzs⟩
          have hzl := IntsAre.length hzs
          k_steps
          refine hK1 _ _ ?_
          refine' CellEnd.mk (by k_asm) (by k_asm) ?hs ?hr
          case hs => (repeat (refine sub_cons (by k_mem) ?_)); exact List.forall_mem_nil _
          case hr =>
            rw [List.range_succ, List.map_append]
            exact hinv.append (.cons _ _ .nil)
      · intro ys D h tk hinv F2 N2
        have ht4 : ∃ y1 y2 y3 y4, toldP c nt = [y1, y2, y3, y4] := by unfold toldP; exact ⟨_, _, _, _, rfl⟩
        obtain ⟨y1, y2, y3, y4, ht⟩ := ht4
        have hinv' : IntsAre ys (toldP c nt) := by
          unfold toldP
          rw [hb, hmm]
          exact hinv
        rw [ht] at hinv'
        obtain ⟨v1, v2, v3, v4, rfl⟩ := ints4 hinv'
        k_steps
        refine hK _ _ ?_
        k_steps
        unfold OutZ; intro hz; dsimp only
        refine hret _ _ _ _ _ _ _ _ _ _ _ _ (by k_asm) (news_cons (by k_asm) (by (repeat (refine sub_cons (by k_mem) ?_)); exact List.forall_mem_nil _) hz N) ht
end
section
variable {w : World} {mean : ExcName → Option Value} {mg mb : Str → Option Value} {dp un : Nat} {gd : Option (List Code)} {cn : Str} {cs : Scope} {a : Addr} {ccd : Value} {cl : List (Str × Addr)} {outer : List Env} {A₀ : Around} {base h₀ : Heap} {L : Addr} {m : Str → Option Value} {s : Shared} {Q E : Value → Shared → Prop} {news : List (Addr × Obj)}
theorem told_spec2 {x sa : Addr} {c : List Int} {n nt : Int} {s1 s2 s3 s4 : Tok} {y1 y2 y3 y4 : Int} {kk : Nat} (B : Below A₀ base outer h₀) (F : Fr h₀ L s.heap m) (X : (hd.heap_39 w.params).In h₀) (N : News h₀ L s.heap news) (T : Top hd.view_39 (looseW hd.view_39 [Str.ofString "Whitespace"]) mean mg mb h₀) (hk : cs.kind = .function) (hdp : dp + 6 < recursionLimit) (hun : un + 60 < cLine)
    (hm : (sa, W.listOf [Value.int 1 s1, Value.int 2 s2, Value.int 4 s3, Value.int 8 s4].toArray kk) ∈ news) (hl : LeadIn w news x c n nt) (hc : c.length < 1000)
    (ht : toldP c nt = [y1, y2, y3, y4])
    (hret : ∀ ra u1 u2 u3 u4 k h' tk', Fr h₀ L h' m → News h₀ L h' ((ra, W.listOf [Value.int y1 u1, Value.int y2 u2, Value.int y3 u3, Value.int y4 u4].toArray k) :: news) → Q (.ref ra) {s with heap := h', toks := tk'}) :
    wpAny (model PySem.Challenge.rw_re0074_03.row.prog w) (ktrTop dp un gd cn cs L a ccd cl outer) (call (.ref 128) [.ref x, .ref sa]) Q E s := by
  refine told_spec B F X N T hk hdp hun hm hl hc fun ra z1 z2 z3 z4 u1 u2 u3 u4 k h' tk' F' N' hz => ?_
  rw [ht] at hz
  injection hz with e1 hz
  injection hz with e2 hz
  injection hz with e3 hz
  injection hz with e4 hz
  subst e1 e2 e3 e4
  exact hret ra u1 u2 u3 u4 k h' tk' F' N'
end
section
variable {w : World} {mean : ExcName → Option Value} {mg mb : Str → Option Value} {dp un : Nat} {gd : Option (List Code)} {cn : Str} {cs : Scope} {a : Addr} {ccd : Value} {cl : List (Str × Addr)} {outer : List Env} {A₀ : Around} {base h₀ : Heap} {L : Addr} {m : Str → Option Value} {s : Shared} {Q E : Value → Shared → Prop} {news : List (Addr × Obj)}
theorem new_spec2 {x y : Addr} {c d : List Int} {n nt n2 nt2 : Int} (B : Below A₀ base outer h₀) (F : Fr h₀ L s.heap m) (X : (hd.heap_39 w.params).In h₀) (N : News h₀ L s.heap news) (T : Top hd.view_39 (looseW hd.view_39 [Str.ofString "Whitespace"]) mean mg mb h₀) (hk : cs.kind = .function) (hdp : dp + 2 < recursionLimit) (hun : un + 20 < cLine)
    (hl : LeadIn w news x c n nt) (hl2 : LeadIn w news y d n2 nt2) (hc : c.length < 100) (hd : d.length < 100)
    (hret : ∀ ra us k tl h' tk', Fr h₀ L h' m → News h₀ L h' ((ra, W.listOf us.toArray k) :: (news ++ tl)) → DatAll ((ra, W.listOf us.toArray k) :: (news ++ tl)) us (namedP c nt d nt2) → Q (.ref ra) {s with heap := h', toks := tk'}) :
    wpAny (model PySem.Challenge.rw_re0074_03.row.prog w) (ktrTop dp un gd cn cs L a ccd cl outer) (call (.ref 66) [.ref x, .ref y]) Q E s := by
  refine new_spec B F X N T hk hdp hun hl hl2 hc hd fun ra us k tl h' tk' F' N' hD => ?_
  have hs : ∀ p ∈ news ++ tl, p ∈ tl ++ news := fun p hp => (List.mem_append.mp hp).elim (fun h => List.mem_append_right _ h) fun h => List.mem_append_left _ h
  have hs' : ∀ p ∈ tl ++ news, p ∈ news ++ tl := fun p hp => (List.mem_append.mp hp).elim (fun h => List.mem_append_right _ h) fun h => List.mem_append_left _ h
  refine hret ra us k tl h' tk' F' (fun p hp => N' p ?_) (DatAll.mono (fun p hp => List.mem_cons_of_mem _ (hs' p hp)) hD)
  rcases List.mem_cons.mp hp with rfl | hp
  · exact List.mem_cons_self
  · exact List.mem_cons_of_mem _ (hs p hp)
noncomputable def isbRow : Dat → Bool
  | .tuple (.int t :: _) => isb t
  | _ => false
@[irreducible] noncomputable def namF (ds : List Dat) : List Dat := ds.filter isbRow
theorem namedP_mem {c d : List Int} {nt nt2 : Int} {r : Dat} (h : r ∈ namedP c nt d nt2) : ∃ ts, 1 ≤ ts ∧ r = rowD c nt d nt2 ts := by
  unfold namedP rowsP at h
  obtain ⟨ts, hts, rfl⟩ := List.mem_map.mp h
  have h1 := (List.mem_filter.mp hts).1
  unfold rangeKs at h1
  obtain ⟨k, _, rfl⟩ := List.mem_map.mp h1
  exact ⟨_, by omega, rfl⟩
theorem named_at {nx : List (Addr × Obj)} {us : List Value} {c d : List Int} {nt nt2 : Int} {i : Nat} {v : Value} (hD : DatAll nx us (namedP c nt d nt2)) (hv : us.toArray[i]? = some v) :
    ∃ ts a t1 t2 t3 e, 1 ≤ ts ∧ (namedP c nt d nt2)[i]? = some (rowD c nt d nt2 ts) ∧ v = .ref a ∧ (a, tupO [.int ts t1, .int (ilP c nt ts) t2, .int (ilP d nt2 ts) t3] e) ∈ nx ∧ DatIn nx (.ref a) (rowD c nt d nt2 ts) := by
  have hv' : us[i]? = some v := by simpa using hv
  have hi : i < (namedP c nt d nt2).length := by
    rw [← hD.length]
    exact (List.getElem?_eq_some_iff.mp hv').1
  obtain ⟨v', h1, h2⟩ := hD.get hi
  rw [hv'] at h1
  obtain rfl := Option.some.inj h1
  obtain ⟨ts, hts, e⟩ := namedP_mem (List.getElem_mem hi)
  rw [e] at h2
  have h3 := h2
  unfold rowD at h3
  cases h3 with
  | tuple hm hr =>
    cases hr with
    | cons ha hr =>
      cases hr with
      | cons hb hr =>
        cases hr with
        | cons hc hr =>
          cases hr
          cases ha
          cases hb
          cases hc
          exact ⟨ts, _, _, _, _, _, hts, by rw [List.getElem?_eq_getElem hi, e], rfl, hm, h2⟩
theorem namF_one {nx : List (Addr × Obj)} {ys : List Value} {ds : List Dat} {i : Nat} {v : Value} {r : Dat} (h : DatAll nx ys (namF (ds.take i))) (hr : ds[i]? = some r) (hp : isbRow r = true) (hd : DatIn nx v r) : DatAll nx (ys ++ [v]) (namF (ds.take (i + 1))) := by
  have e : namF (ds.take (i + 1)) = namF (ds.take i) ++ [r] := by
    rw [List.take_add_one, hr]
    simp [namF, List.filter_append, hp]
  rw [e]
  exact h.append (.one hd)
theorem namF_no {nx : List (Addr × Obj)} {ys : List Value} {ds : List Dat} {i : Nat} {r : Dat} (h : DatAll nx ys (namF (ds.take i))) (hr : ds[i]? = some r) (hp : isbRow r = false) : DatAll nx ys (namF (ds.take (i + 1))) := by
  have e : namF (ds.take (i + 1)) = namF (ds.take i) := by
    rw [List.take_add_one, hr]
    simp [namF, List.filter_append, hp]
  rw [e]
  exact h
theorem namF_all {nx : List (Addr × Obj)} {ys us : List Value} {ds : List Dat} (hD : DatAll nx us ds) (h : DatAll nx ys (namF (ds.take us.toArray.size))) : DatAll nx ys (namF ds) := by
  have : ds.take us.toArray.size = ds := List.take_of_length_le (by rw [← hD.length]; simp)
  rwa [this] at h
theorem namedP_len {nx : List (Addr × Obj)} {us : List Value} {c d : List Int} {nt nt2 : Int} (hD : DatAll nx us (namedP c nt d nt2)) (hc : c.length < 100) (hd : d.length < 100) : us.length < 200 := by
  rw [hD.length]
  unfold namedP rowsP
  rw [List.length_map]
  refine Nat.lt_of_le_of_lt (List.length_filter_le _ _) ?_
  have hb1 : 0 ≤ longP c ∧ longP c < 100 := by unfold longP; split <;> omega
  have hb2 : 0 ≤ longP d ∧ longP d < 100 := by unfold longP; split <;> omega
  rw [rangeKs_length]
  split <;> omega
end
local macro_rules | `(tactic| walk_at "call ref") => `(tactic| (k_here; (try dsimp only [List.cons_append, List.nil_append, List.append_nil]); first | ((with_reducible show wpAny _ _ (call (Value.ref 66) _) _ _ _); k_dflt (refine' new_spec2 (by k_asm) (by k_asm) (by k_asm) (by k_asm) (by k_asm) (by first | assumption | exact rfl) (by ktr_room) (by ktr_units) (LeadIn.mk (by k_mem) (by k_mem) (by k_mem) (by k_mem) (by assumption)) (LeadIn.mk (by k_mem) (by k_mem) (by k_mem) (by k_mem) (by assumption)) (by omega) (by omega) ?_); intro ra9' us9' k9' tl9' h9' tk9' F9' N9' hD9'; (try simp only [List.cons_append, List.nil_append] at N9' hD9'); (try dsimp only))))
local macro_rules | `(tactic| walk_at "subscriptTail") => `(tactic| (k_here; (with_reducible show wpAny _ _ (subscriptTail (PySem.Expr.Name _ _) (PySem.Expr.Constant _ _ _) (Value.ref _) (Value.int _ _)) _ _ _); k_dflt (refine' item_tupleT ?t ?a ?b ?c ?d ?_; (case t => exact News.isTup (by k_asm) (by assumption)); (case a => decide); (case b => decide); (case c => rfl); (case d => rfl); k_whole)))
local macro_rules | `(tactic| walk_at "eval ListComp") => `(tactic| ((first | ((have : HoldC := by assumption); clear this) | fail "no hold"); refine Hold.stop ?_))
local macro_rules | `(tactic| walk_at "exec Assign cons ListComp") => `(tactic| ((first | ((have : HoldC := by assumption); clear this) | fail "no hold"); refine Hold.stop ?_))
section
variable {w : World} {mean : ExcName → Option Value} {mg mb : Str → Option Value} {dp un : Nat} {gd : Option (List Code)} {cn : Str} {cs : Scope} {a : Addr} {ccd : Value} {cl : List (Str × Addr)} {outer : List Env} {A₀ : Around} {base h₀ : Heap} {L : Addr} {m : Str → Option Value} {s : Shared} {Q E : Value → Shared → Prop} {news : List (Addr × Obj)}
theorem news_joinR {h h' : Heap} {hd : Addr × Obj} {all lit tl : List (Addr × Obj)} (kN : News h₀ L h' all) (hl : ∀ p ∈ lit, p ∈ all) (hh : hd ∈ all) (ht : ∀ p ∈ tl, p ∈ all)
    (hz : ∀ p ∈ news, p ∉ lit → h'.get? p.1 = some p.2) (N : News h₀ L h news) : News h₀ L h' (hd :: (news ++ tl)) := by
  have h1 := news_join (tl := hd :: tl) kN hl (List.forall_mem_cons.mpr ⟨hh, ht⟩) hz N
  refine fun p hp => h1 p ?_
  simp only [List.mem_cons, List.mem_append] at hp ⊢
  rcases hp with hp | hp | hp
  · exact .inl (.inl hp)
  · exact .inr hp
  · exact .inl (.inr hp)
theorem nam_spec {x y : Addr} {c d : List Int} {n nt n2 nt2 : Int} (B : Below A₀ base outer h₀) (F : Fr h₀ L s.heap m) (X : (hd.heap_39 w.params).In h₀) (N : News h₀ L s.heap news) (T : Top hd.view_39 (looseW hd.view_39 [Str.ofString "Whitespace"]) mean mg mb h₀) (hk : cs.kind = .function) (hdp : dp + 4 < recursionLimit) (hun : un + 40 < cLine)
    (hl : LeadIn w news x c n nt) (hl2 : LeadIn w news y d n2 nt2) (hc : c.length < 100) (hd : d.length < 100)
    (hret : ∀ ra ys tl h' tk', Fr h₀ L h' m → News h₀ L h' ((ra, LCg.lst ys) :: (news ++ tl)) → DatAll (news ++ tl) ys (namF (namedP c nt d nt2)) → Q (.ref ra) {s with heap := h', toks := tk'}) :
    wpAny (model PySem.Challenge.rw_re0074_03.row.prog w) (ktrTop dp un gd cn cs L a ccd cl outer) (call (.ref 123) [.ref x, .ref y]) Q E s := by
  k_with_none
  refine hl.out ?_
  intro dx tn tc ws vs k1 k2 k3 k4 k5 t1 t2 t3 t4 e1 e2 m1 m2 m3 m4 hI
  refine hl2.out ?_
  intro dy un1 uc ws' us k1' k2' k3' k4' k5' t1' t2' t3' t4' e1' e2' m1' m2' m3' m4' hI'
  refine wpAny_call ?_
  k_dflt (refine' enterZ (lit := [(x, instObj 83 dx), (dx, leadDict w ws c n nt tn k1 k2 k3 k4 k5 t1 t2 t3), (tn, tupO [.ref tc, .int 0 t4] e1), (tc, tupO vs e2), (y, instObj 83 dy), (dy, leadDict w ws' d n2 nt2 un1 k1' k2' k3' k4' k5' t1' t2' t3'), (un1, tupO [.ref uc, .int 0 t4'] e1'), (uc, tupO us e2')]) ?k1 ?k2 ?k3 ?k4 ?k5 ?ksub ?kA ?kF ?kK ?k6 ?k7 ?k8 ?k9 ?kB ?_ ?c2 ?c3 ?c4 ?c5; (case kA => exact rfl); (case kF => exact rfl); (case kK => first | assumption | exact rfl); (case k1 => k_asm); (case k2 => k_asm); (case k3 => k_asm); (case k4 => k_asm); (case k5 => k_asm); (case ksub => (first | exact List.forall_mem_nil _ | (repeat (refine sub_cons (by assumption) ?_)); exact List.forall_mem_nil _)); (case k6 => k_is); (case k7 => k_is); (case k8 => ktr_room); (case k9 => exact BindsTo.of_eq rfl); (case c5 => decide); (case kB => exact locs rfl); (case c2 => exact rfl); (case c3 => exact rfl); (case c4 => exact rfl); k_whole; intro g' L' h' F' N' B' X' T' l0; (try k_lt l0); (try dsimp only); (try k_fold))
  refine hideQ ?_
  intro K hK
  have hcm : HoldC := trivial
  k_steps
  refine Hold.go ?_
  k_dflt (refine LCt.ListComp_T (F₀ := by k_asm) (by rfl) (by decide) (by rfl) (by decide) (by rfl) ?_)
  iterate 9 (first | walk1 | (dsimp only; walk1))
  rename DatAll _ _ (namedP _ _ _ _) => hD
  rename List (Addr × Obj) => tlq
  have hus := namedP_len hD (by omega) (by omega)
  k_dflt (refine LCt.CompSrcT.ledger (by rfl) (by k_asm) (by k_asm) (by k_mem) (by simp only [List.size_toArray, sizeLine_eq]; omega) ?_)
  intro g2
  refine compT_ind (fun i ys nx => nx = _ ∧ DatAll nx ys (namF ((namedP c nt d nt2).take i))) ?_ ?_ _ 0 [] _ (Nat.zero_add _) ⟨rfl, by unfold namF; exact .nil⟩
  · rintro i ys nx v I' oI C oC DD m₂ h tk E' hi ⟨rfl, hys⟩ hv hC hx F2 N2 off ne
    obtain ⟨ts, ra, u1, u2, u3, e, hts, hds, rfl, hmem, hin⟩ := named_at hD hv
    clear ne
    have hmem3 := List.mem_cons_of_mem (I', oI) (List.mem_cons_of_mem (C, oC) (List.mem_cons_of_mem (DD, LCg.lst ys) hmem))
    refine hideQ ?_
    intro K1 hK1
    k_steps
    refine hK1 _ _ ?_
    k_steps
    · exact LCg.CompEnd.intro (by k_asm) (by k_asm) _ (fun _ h => h) off (.inr ⟨_, List.mem_cons_self, rfl, _, rfl⟩) ⟨rfl, namF_one hys hds (show isb ts = true by assumption) hin⟩
    · exact LCg.CompEnd.intro (by k_asm) (by k_asm) _ (fun _ h => h) off (.inr ⟨_, List.mem_cons_self, rfl, _, rfl⟩) ⟨rfl, namF_no hys hds (show isb ts = false by assumption)⟩
  · rintro ys nx ⟨rfl, hys⟩
    have hys' := namF_all hD hys
    clear hys
    k_steps
    refine hK _ _ ?_
    k_steps
    unfold OutZ; intro hz; dsimp only
    rename News h₀ L _ (_ :: _ :: _) => hN
    refine hret _ _ (_ :: tlq) _ _ (by k_asm) (news_joinR hN ?_ List.mem_cons_self (List.forall_mem_cons.mpr ⟨List.mem_cons_of_mem _ List.mem_cons_self, ?_⟩) hz N) (DatAll.mono ?_ hys')
    · (repeat (refine sub_cons (by k_mem) ?_)); exact List.forall_mem_nil _
    · intro p9 h9; kst_mem
    · refine List.forall_mem_cons.mpr ⟨List.mem_append_right _ List.mem_cons_self, ?_⟩
      (repeat (refine List.forall_mem_cons.mpr ⟨List.mem_append_left _ (by assumption), ?_⟩))
      exact fun p hp => List.mem_append_right _ (List.mem_cons_of_mem _ hp)
end
section
variable {w : World} {mean : ExcName → Option Value} {mg mb : Str → Option Value} {dp un : Nat} {gd : Option (List Code)} {cn : Str} {cs : Scope} {a : Addr} {ccd : Value} {cl : List (Str × Addr)} {outer : List Env} {A₀ : Around} {base h₀ : Heap} {L : Addr} {m : Str → Option Value} {s : Shared} {Q E : Value → Shared → Prop} {news : List (Addr × Obj)}
/-- the weighted sum of a list -/
noncomputable def wsum (f : Nat → Int) : List Int → Int
  | [] => 0
  | x :: xs => f 0 * x + wsum (fun i => f (i + 1)) xs
theorem wsum_append (f : Nat → Int) (c d : List Int) : wsum f (c ++ d) = wsum f c + wsum (fun i => f (i + c.length)) d := by
  induction c generalizing f with
  | nil => simp [wsum]
  | cons x c ih =>
    simp only [List.cons_append, wsum, ih, List.length_cons]
    have e : (fun i => f (i + c.length + 1)) = fun i => f (i + (c.length + 1)) := rfl
    rw [e]; omega
theorem wsum_zero (f : Nat → Int) (n : Nat) : wsum f (List.replicate n 0) = 0 := by
  induction n generalizing f with
  | zero => rfl
  | succ n ih => simp [List.replicate_succ, wsum, ih]
theorem wsum_set (f : Nat → Int) (c : List Int) (i : Nat) (v : Int) (h : i < c.length) : wsum f (c.set i v) = wsum f c + f i * (v - c.getD i 0) := by
  induction c generalizing f i with
  | nil => simp at h
  | cons x c ih =>
    cases i with
    | zero =>
      simp only [List.set_cons_zero, wsum, List.getD_cons_zero, Int.mul_sub]
      omega
    | succ i =>
      have h' : i < c.length := by simpa using h
      simp only [List.set_cons_succ, wsum, List.getD_cons_succ]
      rw [ih (fun i => f (i + 1)) i h']
      omega
theorem wsum_incAt (f : Nat → Int) (c : List Int) {b : Int} (hb : 0 ≤ b) : wsum f (incAt c b) = wsum f c + f b.toNat := by
  unfold incAt
  split
  · rename_i h
    rw [wsum_set _ _ _ _ (by rw [List.length_append, List.length_replicate]; omega), wsum_append, wsum_zero]
    have : ∀ z : Int, z + 1 - z = 1 := fun z => by omega
    rw [this, Int.mul_one, Int.add_zero]
  · rename_i h
    rw [wsum_set _ _ _ _ (by omega)]
    have : ∀ z : Int, z + 1 - z = 1 := fun z => by omega
    rw [this, Int.mul_one]
theorem wsum_fold (f : Nat → Int) (rs : List Int) (hr : ∀ r ∈ rs, 0 ≤ r) (c : List Int) : wsum f (rs.foldl incAt c) = wsum f c + (rs.map fun r => f r.toNat).sum := by
  induction rs generalizing c with
  | nil => simp
  | cons r rs ih =>
    rw [List.foldl_cons, ih (fun r' h => hr r' (by simp [h])), wsum_incAt f c (hr r (by simp)), List.map_cons, List.sum_cons]
    omega
theorem wsum_counts (f : Nat → Int) {rs : List Int} (hr : ∀ r ∈ rs, 0 ≤ r) : wsum f (countsP rs) = (rs.map fun r => f r.toNat).sum := by
  unfold countsP
  rw [wsum_fold f rs hr]
  simp [wsum]
theorem wsum_range (f : Nat → Int) (c : List Int) : wsum f c = ((List.range c.length).map fun i => f i * c.getD i 0).sum := by
  induction c generalizing f with
  | nil => rfl
  | cons x c ih =>
    rw [wsum, ih, List.length_cons, List.range_succ_eq_map, List.map_cons, List.sum_cons, List.map_map]
    rfl
theorem sum_skip (g : Nat → Int) (m n : Nat) (h : ∀ i, i < m → g i = 0) : ((List.range n).map g).sum = ((List.range (n - m)).map fun k => g (m + k)).sum := by
  have zero : ∀ k, k ≤ m → ((List.range k).map g).sum = 0 := by
    intro k hk
    induction k with
    | zero => rfl
    | succ k ih =>
      rw [List.range_succ, List.map_append, List.sum_append, ih (by omega)]
      simp [h k (by omega)]
  by_cases hmn : m ≤ n
  · obtain ⟨d, rfl⟩ : ∃ d, n = m + d := ⟨n - m, by omega⟩
    rw [List.range_add, List.map_append, List.sum_append, zero m (Nat.le_refl _), Int.zero_add, List.map_map, Nat.add_sub_cancel_left]
    rfl
  · rw [zero n (by omega)]
    have : n - m = 0 := by omega
    rw [this]; rfl
theorem ilsum_counts {rs : List Int} (hr : ∀ r ∈ rs, 0 ≤ r) {ts : Int} (hts : 1 ≤ ts) :
    ilsum (countsP rs) ts (rangeKs ts (((countsP rs).length : Int) - ts).toNat) = (rs.map fun r => Int.fdiv r ts).sum := by
  have e1 : (rs.map fun r => Int.fdiv r ts) = rs.map fun r => (fun i : Nat => Int.fdiv (i : Int) ts) r.toNat := List.map_congr_left fun r h => by
    have := hr r h
    show Int.fdiv r ts = Int.fdiv (r.toNat : Int) ts
    rw [Int.toNat_of_nonneg this]
  rw [e1, ← wsum_counts (fun i : Nat => Int.fdiv (i : Int) ts) hr, wsum_range, sum_skip _ ts.toNat]
  · unfold ilsum rangeKs
    rw [List.map_map]
    have e2 : (((countsP rs).length : Int) - ts).toNat = (countsP rs).length - ts.toNat := by omega
    rw [e2]
    congr 1
    refine List.map_congr_left fun k _ => ?_
    show Int.fdiv (ts + (k : Int)) ts * (countsP rs).getD (ts + (k : Int)).toNat 0 = Int.fdiv ((ts.toNat + k : Nat) : Int) ts * (countsP rs).getD (ts.toNat + k) 0
    have e3 : (ts + (k : Int)).toNat = ts.toNat + k := by omega
    have e4 : ((ts.toNat + k : Nat) : Int) = ts + k := by omega
    rw [e3, e4]
  · intro i hi
    have h0 : Int.fdiv (i : Int) ts = 0 := by
      rw [Int.fdiv_eq_ediv_of_nonneg _ (by omega)]
      exact Int.ediv_eq_zero_of_lt (by omega) (by omega)
    rw [h0, Int.zero_mul]
theorem il_counts {rs : List Int} (hr : ∀ r ∈ rs, 0 ≤ r) {nt ts : Int} (hts : 1 ≤ ts) : ilP (countsP rs) nt ts = ts * ((rs.map fun r => Int.fdiv r ts).sum + nt) := by
  unfold ilP
  rw [ilsum_counts hr hts, Int.zero_add]
theorem counts_len (rs : List Int) (hr : ∀ r ∈ rs, 0 ≤ r) (c : List Int) : (rs.foldl incAt c).length = rs.foldl (fun n r => max n (r.toNat + 1)) c.length := by
  induction rs generalizing c with
  | nil => rfl
  | cons r rs ih => rw [List.foldl_cons, ih (fun r' h => hr r' (by simp [h])), incAt_length (hr r (by simp)), List.foldl_cons]
theorem countsP_length {rs : List Int} (hr : ∀ r ∈ rs, 0 ≤ r) : (countsP rs).length = rs.foldl (fun n r => max n (r.toNat + 1)) 0 := by
  unfold countsP
  exact counts_len rs hr []
end
section
variable {w : World} {mean : ExcName → Option Value} {mg mb : Str → Option Value} {dp un : Nat} {gd : Option (List Code)} {cn : Str} {cs : Scope} {a : Addr} {ccd : Value} {cl : List (Str × Addr)} {outer : List Env} {A₀ : Around} {base h₀ : Heap} {L : Addr} {m : Str → Option Value} {s : Shared} {Q E : Value → Shared → Prop} {news : List (Addr × Obj)}
noncomputable def B8 (a b c d : Int) : Prop := (0 ≤ a ∧ a < 8) ∧ (0 ≤ b ∧ b < 8) ∧ (0 ≤ c ∧ c < 8) ∧ (0 ≤ d ∧ d < 8)
/-- the second row: bits of the first two runs exchanged (o), of the last two (t), and the last one changed (u) -/
noncomputable def SecR (x1 x2 x3 x4 z1 z2 z3 z4 : Int) : Prop :=
  ∃ o t u : Int, (0 ≤ o ∧ o < 8) ∧ (0 ≤ t ∧ t < 8) ∧ (0 ≤ u ∧ u < 8) ∧ z1 = Builtin.bitXor x1 (Builtin.bitAnd o (Builtin.bitXor x1 x2)) ∧ z2 = Builtin.bitXor x2 (Builtin.bitAnd o (Builtin.bitXor x1 x2)) ∧
    z3 = Builtin.bitXor x3 (Builtin.bitAnd t (Builtin.bitXor x3 x4)) ∧ z4 = Builtin.bitXor (Builtin.bitXor x4 (Builtin.bitAnd t (Builtin.bitXor x3 x4))) u
noncomputable def pairRow (i k : Nat) : List (Nat × Nat) := ((List.range (3 - i)).take k).map fun t => (i, i + 1 + t)
noncomputable def pairsTo (i : Nat) : List (Nat × Nat) := ((List.range i).map fun r => pairRow r 3).flatten
noncomputable def runPairs (xs : List Int) (ps : List (Nat × Nat)) : List Int := ps.foldl (fun xs p => stepL xs p.1 p.2) xs
@[irreducible] noncomputable def apartP (ss rs : List Int) (i : Nat) : Int := (List.range i).foldl (fun a k => Builtin.bitOr a (Builtin.bitXor (ss.getD k 0) (rs.getD k 0))) 0
@[irreducible] noncomputable def pows (i : Nat) : List Int := (List.range i).map fun k => (2 : Int) ^ k
noncomputable def rowE (xs ys : List Int) (sz : Int) : Dat := .tuple [.int sz, .int (colP xs sz 4), .int (colP ys sz 4)]
noncomputable def all8 (p : Nat → Bool) : Bool := (List.range 8).all p
theorem all8_two {p : Nat → Nat → Bool} (h : (all8 fun a => all8 fun b => p a b) = true) {x y : Int} (hx : 0 ≤ x ∧ x < 8) (hy : 0 ≤ y ∧ y < 8) : ∃ a b : Nat, x = a ∧ y = b ∧ p a b = true :=
  ⟨x.toNat, y.toNat, by omega, by omega, List.all_eq_true.mp (List.all_eq_true.mp h _ (by simp; omega)) _ (by simp; omega)⟩
noncomputable def inB (x : Int) : Bool := decide (0 ≤ x) && decide (x < 8)
theorem inB_iff {x : Int} (h : inB x = true) : 0 ≤ x ∧ x < 8 := by
  unfold inB at h
  simpa using h
theorem bit8_all : (all8 fun a => all8 fun b => inB (Builtin.bitOr (a : Int) b) && inB (Builtin.bitAnd (a : Int) b) && inB (Builtin.bitXor (a : Int) b)) = true := by decide +kernel
theorem bit8 {x y : Int} (hx : 0 ≤ x ∧ x < 8) (hy : 0 ≤ y ∧ y < 8) : (0 ≤ Builtin.bitOr x y ∧ Builtin.bitOr x y < 8) ∧ (0 ≤ Builtin.bitAnd x y ∧ Builtin.bitAnd x y < 8) ∧ (0 ≤ Builtin.bitXor x y ∧ Builtin.bitXor x y < 8) := by
  obtain ⟨a, b, rfl, rfl, h⟩ := all8_two bit8_all hx hy
  simp only [Bool.and_eq_true] at h
  exact ⟨inB_iff h.1.1, inB_iff h.1.2, inB_iff h.2⟩
theorem step_cases {i j : Int} (hij : 0 ≤ i ∧ i < j ∧ j < 4) : i = 0 ∧ j = 1 ∨ i = 0 ∧ j = 2 ∨ i = 0 ∧ j = 3 ∨ i = 1 ∧ j = 2 ∨ i = 1 ∧ j = 3 ∨ i = 2 ∧ j = 3 := by omega
/-- the six steps, written out -/
theorem step_out {s1 s2 s3 s4 y1 y2 y3 y4 i j : Int} (hij : 0 ≤ i ∧ i < j ∧ j < 4) (hst : stepL [s1, s2, s3, s4] i j = [y1, y2, y3, y4]) :
    i = 0 ∧ j = 1 ∧ y1 = Builtin.bitOr s1 s2 ∧ y2 = Builtin.bitAnd s1 s2 ∧ y3 = s3 ∧ y4 = s4 ∨
    i = 0 ∧ j = 2 ∧ y1 = Builtin.bitOr s1 s3 ∧ y3 = Builtin.bitAnd s1 s3 ∧ y2 = s2 ∧ y4 = s4 ∨
    i = 0 ∧ j = 3 ∧ y1 = Builtin.bitOr s1 s4 ∧ y4 = Builtin.bitAnd s1 s4 ∧ y2 = s2 ∧ y3 = s3 ∨
    i = 1 ∧ j = 2 ∧ y2 = Builtin.bitOr s2 s3 ∧ y3 = Builtin.bitAnd s2 s3 ∧ y1 = s1 ∧ y4 = s4 ∨
    i = 1 ∧ j = 3 ∧ y2 = Builtin.bitOr s2 s4 ∧ y4 = Builtin.bitAnd s2 s4 ∧ y1 = s1 ∧ y3 = s3 ∨
    i = 2 ∧ j = 3 ∧ y3 = Builtin.bitOr s3 s4 ∧ y4 = Builtin.bitAnd s3 s4 ∧ y1 = s1 ∧ y2 = s2 := by
  unfold stepL at hst
  rcases step_cases hij with ⟨rfl, rfl⟩ | ⟨rfl, rfl⟩ | ⟨rfl, rfl⟩ | ⟨rfl, rfl⟩ | ⟨rfl, rfl⟩ | ⟨rfl, rfl⟩
  all_goals
    injection hst with e1 hst
    injection hst with e2 hst
    injection hst with e3 hst
    injection hst with e4 hst
  · exact .inl ⟨rfl, rfl, e1.symm, e2.symm, e3.symm, e4.symm⟩
  · exact .inr (.inl ⟨rfl, rfl, e1.symm, e3.symm, e2.symm, e4.symm⟩)
  · exact .inr (.inr (.inl ⟨rfl, rfl, e1.symm, e4.symm, e2.symm, e3.symm⟩))
  · exact .inr (.inr (.inr (.inl ⟨rfl, rfl, e2.symm, e3.symm, e1.symm, e4.symm⟩)))
  · exact .inr (.inr (.inr (.inr (.inl ⟨rfl, rfl, e2.symm, e4.symm, e1.symm, e3.symm⟩))))
  · exact .inr (.inr (.inr (.inr (.inr ⟨rfl, rfl, e3.symm, e4.symm, e1.symm, e2.symm⟩))))
theorem step_b8 {s1 s2 s3 s4 y1 y2 y3 y4 i j : Int} (h : B8 s1 s2 s3 s4) (hij : 0 ≤ i ∧ i < j ∧ j < 4) (hst : stepL [s1, s2, s3, s4] i j = [y1, y2, y3, y4]) : B8 y1 y2 y3 y4 := by
  obtain ⟨h1, h2, h3, h4⟩ := h
  rcases step_out hij hst with ⟨-, -, rfl, rfl, rfl, rfl⟩ | ⟨-, -, rfl, rfl, rfl, rfl⟩ | ⟨-, -, rfl, rfl, rfl, rfl⟩ | ⟨-, -, rfl, rfl, rfl, rfl⟩ | ⟨-, -, rfl, rfl, rfl, rfl⟩ | ⟨-, -, rfl, rfl, rfl, rfl⟩
  · exact ⟨(bit8 h1 h2).1, (bit8 h1 h2).2.1, h3, h4⟩
  · exact ⟨(bit8 h1 h3).1, h2, (bit8 h1 h3).2.1, h4⟩
  · exact ⟨(bit8 h1 h4).1, h2, h3, (bit8 h1 h4).2.1⟩
  · exact ⟨h1, (bit8 h2 h3).1, (bit8 h2 h3).2.1, h4⟩
  · exact ⟨h1, (bit8 h2 h4).1, h3, (bit8 h2 h4).2.1⟩
  · exact ⟨h1, h2, (bit8 h3 h4).1, (bit8 h3 h4).2.1⟩
theorem sec_b8 {x1 x2 x3 x4 z1 z2 z3 z4 : Int} (h : B8 x1 x2 x3 x4) (hs : SecR x1 x2 x3 x4 z1 z2 z3 z4) : B8 z1 z2 z3 z4 := by
  obtain ⟨h1, h2, h3, h4⟩ := h
  obtain ⟨o, t, u, ho, ht, hu, rfl, rfl, rfl, rfl⟩ := hs
  have a := (bit8 ho (bit8 h1 h2).2.2).2.1
  have b := (bit8 ht (bit8 h3 h4).2.2).2.1
  exact ⟨(bit8 h1 a).2.2, (bit8 h2 a).2.2, (bit8 h3 b).2.2, (bit8 (bit8 h4 b).2.2 hu).2.2⟩
theorem il_col {xs : List Int} (h : ∀ r ∈ xs, 0 ≤ r) {ts : Int} (hts : 1 ≤ ts) : ilP (countsP xs) 4 ts = colP xs ts 4 := by
  rw [il_counts h hts]; unfold colP; rfl
theorem half_all : (all8 fun a => all8 fun b => [1, 2, 4, 8].all fun (ts : Int) => Int.fdiv (Builtin.bitOr (a : Int) b) ts + Int.fdiv (Builtin.bitAnd (a : Int) b) ts == Int.fdiv (a : Int) ts + Int.fdiv (b : Int) ts) = true := by decide +kernel
theorem half {x y ts : Int} (hx : 0 ≤ x ∧ x < 8) (hy : 0 ≤ y ∧ y < 8) (hts : ts ∈ ([1, 2, 4, 8] : List Int)) : Int.fdiv (Builtin.bitOr x y) ts + Int.fdiv (Builtin.bitAnd x y) ts = Int.fdiv x ts + Int.fdiv y ts := by
  obtain ⟨a, b, rfl, rfl, h⟩ := all8_two half_all hx hy
  exact eq_of_beq (List.all_eq_true.mp h ts hts)
theorem isb_sizes {ts : Int} (h1 : 1 ≤ ts) (h2 : ts ≤ 9) (h : isb ts = true) : ts ∈ ([1, 2, 4, 8] : List Int) := by
  have : ts = 1 ∨ ts = 2 ∨ ts = 3 ∨ ts = 4 ∨ ts = 5 ∨ ts = 6 ∨ ts = 7 ∨ ts = 8 ∨ ts = 9 := by omega
  rcases this with rfl | rfl | rfl | rfl | rfl | rfl | rfl | rfl | rfl <;> first | decide | (exfalso; revert h; decide +kernel)
theorem foldl_bnd (xs : List Int) (n : Nat) : n ≤ xs.foldl (fun n r => max n (r.toNat + 1)) n ∧ (∀ r ∈ xs, r.toNat + 1 ≤ xs.foldl (fun n r => max n (r.toNat + 1)) n) ∧ ∀ N, n ≤ N → (∀ r ∈ xs, r.toNat + 1 ≤ N) → xs.foldl (fun n r => max n (r.toNat + 1)) n ≤ N := by
  induction xs generalizing n with
  | nil => exact ⟨Nat.le_refl _, fun r h => (List.not_mem_nil h).elim, fun N h _ => h⟩
  | cons x xs ih =>
    rw [List.foldl_cons]
    obtain ⟨h1, h2, h3⟩ := ih (max n (x.toNat + 1))
    refine ⟨Nat.le_trans (Nat.le_max_left _ _) h1, fun r hr => ?_, fun N hn hN => h3 N (Nat.max_le.mpr ⟨hn, hN x List.mem_cons_self⟩) fun r hr => hN r (List.mem_cons_of_mem _ hr)⟩
    rcases List.mem_cons.mp hr with rfl | hr
    · exact Nat.le_trans (Nat.le_max_right _ _) h1
    · exact h2 r hr
theorem long_gen {xs : List Int} (h : ∀ r ∈ xs, 0 ≤ r ∧ r < 8) : (0 ≤ longP (countsP xs) ∧ longP (countsP xs) < 8) ∧ ∀ r ∈ xs, r ≤ longP (countsP xs) := by
  have hl := countsP_length fun r hr => (h r hr).1
  obtain ⟨-, h2, h3⟩ := foldl_bnd xs 0
  rw [← hl] at h2 h3
  have h4 := h3 8 (Nat.zero_le _) fun r hr => by have := h r hr; omega
  unfold longP
  split
  · rename_i g
    exact ⟨by omega, fun r hr => by have := h2 r hr; omega⟩
  · exact ⟨by omega, fun r hr => by have := h2 r hr; omega⟩
theorem long_is {x1 x2 x3 x4 : Int} (h : B8 x1 x2 x3 x4) : 0 ≤ longP (countsP [x1, x2, x3, x4]) ∧ longP (countsP [x1, x2, x3, x4]) < 8 ∧ x1 ≤ longP (countsP [x1, x2, x3, x4]) ∧ x2 ≤ longP (countsP [x1, x2, x3, x4]) ∧ x3 ≤ longP (countsP [x1, x2, x3, x4]) ∧ x4 ≤ longP (countsP [x1, x2, x3, x4]) := by
  obtain ⟨h1, h2, h3, h4⟩ := h
  have g := long_gen (xs := [x1, x2, x3, x4]) (List.forall_mem_cons.mpr ⟨h1, List.forall_mem_cons.mpr ⟨h2, List.forall_mem_cons.mpr ⟨h3, List.forall_mem_cons.mpr ⟨h4, List.forall_mem_nil _⟩⟩⟩⟩)
  exact ⟨g.1.1, g.1.2, g.2 x1 (.head _), g.2 x2 (.tail _ (.head _)), g.2 x3 (.tail _ (.tail _ (.head _))), g.2 x4 (.tail _ (.tail _ (.tail _ (.head _))))⟩
/-- what is named among the sizes of one bit, by the columns -/
theorem named_cols {x1 x2 x3 x4 y1 y2 y3 y4 : Int} (hx : B8 x1 x2 x3 x4) (hy : B8 y1 y2 y3 y4) : ∃ n : Nat, n < 8 ∧ (x1 ≤ n ∧ x2 ≤ n ∧ x3 ≤ n ∧ x4 ≤ n) ∧ (y1 ≤ n ∧ y2 ≤ n ∧ y3 ≤ n ∧ y4 ≤ n) ∧
    namF (namedP (countsP [x1, x2, x3, x4]) 4 (countsP [y1, y2, y3, y4]) 4) = ((rangeKs 1 (n + 1)).filter fun ts => isb ts && (colP [x1, x2, x3, x4] ts 4 != colP [y1, y2, y3, y4] ts 4)).map (fun ts => Dat.tuple [.int ts, .int (colP [x1, x2, x3, x4] ts 4), .int (colP [y1, y2, y3, y4] ts 4)]) := by
  have lx := long_is hx
  have ly := long_is hy
  have hx0 : ∀ r ∈ [x1, x2, x3, x4], 0 ≤ r := by obtain ⟨h1, h2, h3, h4⟩ := hx; simp; omega
  have hy0 : ∀ r ∈ [y1, y2, y3, y4], 0 ≤ r := by obtain ⟨h1, h2, h3, h4⟩ := hy; simp; omega
  obtain ⟨n, hn⟩ : ∃ n : Nat, (if longP (countsP [y1, y2, y3, y4]) > longP (countsP [x1, x2, x3, x4]) then longP (countsP [y1, y2, y3, y4]) else longP (countsP [x1, x2, x3, x4])) = n := by
    split
    · exact ⟨_, (Int.toNat_of_nonneg ly.1).symm⟩
    · exact ⟨_, (Int.toNat_of_nonneg lx.1).symm⟩
  have hn' : (n : Int) < 8 ∧ longP (countsP [x1, x2, x3, x4]) ≤ n ∧ longP (countsP [y1, y2, y3, y4]) ≤ n := by
    rw [← hn]; split <;> omega
  refine ⟨n, by omega, by omega, by omega, ?_⟩
  have hfd : ∀ ts ∈ rangeKs 1 (n + 1), 1 ≤ ts := by
    intro ts h
    unfold rangeKs at h
    obtain ⟨k, _, rfl⟩ := List.mem_map.mp h
    omega
  unfold namedP
  rw [hn, show ((n : Int) + 1 + 1 - 1).toNat = n + 1 by omega]
  unfold namF rowsP
  rw [List.filter_map, List.filter_filter]
  have e : (rangeKs 1 (n + 1)).filter (fun a => (isbRow ∘ rowD (countsP [x1, x2, x3, x4]) 4 (countsP [y1, y2, y3, y4]) 4) a && (ilP (countsP [x1, x2, x3, x4]) 4 a != ilP (countsP [y1, y2, y3, y4]) 4 a)) = (rangeKs 1 (n + 1)).filter fun ts => isb ts && (colP [x1, x2, x3, x4] ts 4 != colP [y1, y2, y3, y4] ts 4) :=
    List.filter_congr fun ts hts => by rw [il_col hx0 (hfd ts hts), il_col hy0 (hfd ts hts)]; rfl
  rw [e]
  refine List.map_congr_left fun ts hts => ?_
  have h1 := hfd ts (List.mem_filter.mp hts).1
  unfold rowD
  rw [il_col hx0 h1, il_col hy0 h1]
theorem named_step {s1 s2 s3 s4 y1 y2 y3 y4 i j : Int} (h : B8 s1 s2 s3 s4) (hij : 0 ≤ i ∧ i < j ∧ j < 4) (hst : stepL [s1, s2, s3, s4] i j = [y1, y2, y3, y4]) : namF (namedP (countsP [s1, s2, s3, s4]) 4 (countsP [y1, y2, y3, y4]) 4) = [] := by
  obtain ⟨n, hn, _, _, e⟩ := named_cols h (step_b8 h hij hst)
  rw [e]
  have hf : (rangeKs 1 (n + 1)).filter (fun ts => isb ts && (colP [s1, s2, s3, s4] ts 4 != colP [y1, y2, y3, y4] ts 4)) = [] := by
    rw [List.filter_eq_nil_iff]
    intro ts hts
    have hb : 1 ≤ ts ∧ ts ≤ 9 := by
      unfold rangeKs at hts
      obtain ⟨k, hk, rfl⟩ := List.mem_map.mp hts
      have : k < n + 1 := by simpa using hk
      omega
    rw [Bool.and_eq_true]
    rintro ⟨h1, h2⟩
    have hm := isb_sizes hb.1 hb.2 h1
    have hc : colP [s1, s2, s3, s4] ts 4 = colP [y1, y2, y3, y4] ts 4 := by
      unfold colP
      congr 1
      simp only [List.map_cons, List.map_nil, List.sum_cons, List.sum_nil]
      obtain ⟨h1, h2, h3, h4⟩ := h
      have q12 := half h1 h2 hm
      have q13 := half h1 h3 hm
      have q14 := half h1 h4 hm
      have q23 := half h2 h3 hm
      have q24 := half h2 h4 hm
      have q34 := half h3 h4 hm
      rcases step_out hij hst with ⟨-, -, rfl, rfl, rfl, rfl⟩ | ⟨-, -, rfl, rfl, rfl, rfl⟩ | ⟨-, -, rfl, rfl, rfl, rfl⟩ | ⟨-, -, rfl, rfl, rfl, rfl⟩ | ⟨-, -, rfl, rfl, rfl, rfl⟩ | ⟨-, -, rfl, rfl, rfl, rfl⟩ <;> omega
    rw [hc] at h2
    simp at h2
  rw [hf]; rfl
/-! the bits, as numbers -/
noncomputable def bitN (k x : Nat) : Nat := x / 2 ^ k % 2
theorem bor_is {a b : Nat} : Builtin.bitOr (a : Int) (b : Int) = ((a ||| b : Nat) : Int) := by
  have h1 : Builtin.bitNot (Builtin.bitNot (a : Int)) = a := by unfold Builtin.bitNot; omega
  have h2 : Builtin.bitNot (Builtin.bitNot (b : Int)) = b := by unfold Builtin.bitNot; omega
  have e1 : decide (0 ≤ Builtin.bitNot (a : Int)) = false := by unfold Builtin.bitNot; simp; omega
  have e2 : decide (0 ≤ Builtin.bitNot (b : Int)) = false := by unfold Builtin.bitNot; simp; omega
  unfold Builtin.bitOr Builtin.bitAnd
  rw [e1, e2]
  dsimp only
  rw [h1, h2, Int.toNat_natCast, Int.toNat_natCast]
  unfold Builtin.bitNot; omega
theorem band_is {a b : Nat} : Builtin.bitAnd (a : Int) (b : Int) = ((a &&& b : Nat) : Int) := by
  have e1 : decide (0 ≤ (a : Int)) = true := by simp
  have e2 : decide (0 ≤ (b : Int)) = true := by simp
  unfold Builtin.bitAnd
  rw [e1, e2]
  dsimp only
  rw [Int.toNat_natCast, Int.toNat_natCast]
theorem bxor_all : (all8 fun a => all8 fun b => Builtin.bitXor (a : Int) b == ((a ^^^ b : Nat) : Int)) = true := by decide +kernel
theorem all8_get {p : Nat → Bool} (h : all8 p = true) {a : Nat} (ha : a < 8) : p a = true := List.all_eq_true.mp h a (by simpa using ha)
theorem bxor_is {a b : Nat} (ha : a < 8) (hb : b < 8) : Builtin.bitXor (a : Int) (b : Int) = ((a ^^^ b : Nat) : Int) := eq_of_beq (all8_get (all8_get bxor_all ha) hb)
theorem or8 {a b : Nat} (ha : a < 8) (hb : b < 8) : a ||| b < 8 := Nat.or_lt_two_pow (n := 3) ha hb
theorem and8 {a b : Nat} (ha : a < 8) : a &&& b < 8 := Nat.lt_of_le_of_lt Nat.and_le_left ha
theorem xor8 {a b : Nat} (ha : a < 8) (hb : b < 8) : a ^^^ b < 8 := Nat.xor_lt_two_pow (n := 3) ha hb
theorem bits_all : ([0, 1, 2].all fun k => all8 fun a => all8 fun b => bitN k (a ||| b) == max (bitN k a) (bitN k b) && bitN k (a &&& b) == min (bitN k a) (bitN k b) && bitN k (a ^^^ b) == (bitN k a + bitN k b) % 2) = true := by decide +kernel
theorem bits3 {k a b : Nat} (hk : k < 3) (ha : a < 8) (hb : b < 8) : bitN k (a ||| b) = max (bitN k a) (bitN k b) ∧ bitN k (a &&& b) = min (bitN k a) (bitN k b) ∧ bitN k (a ^^^ b) = (bitN k a + bitN k b) % 2 := by
  have h := all8_get (all8_get (List.all_eq_true.mp bits_all k (by simp; omega)) ha) hb
  simp only [Bool.and_eq_true, beq_iff_eq] at h
  exact ⟨h.1.1, h.1.2, h.2⟩
theorem bitN_two (k a : Nat) : bitN k a < 2 := Nat.mod_lt _ (by decide)
theorem eq_bits {a b : Nat} (ha : a < 8) (hb : b < 8) (h : ∀ k, k < 3 → bitN k a = bitN k b) : a = b := by
  have h0 := h 0 (by decide); have h1 := h 1 (by decide); have h2 := h 2 (by decide)
  unfold bitN at h0 h1 h2
  simp only [Nat.reducePow] at h0 h1 h2
  omega
/-- the six steps -/
noncomputable def net (f g : Nat → Nat → Nat) (a b c d : Nat) : List Nat :=
  let a1 := f a b; let b1 := g a b
  let a2 := f a1 c; let c1 := g a1 c
  let a3 := f a2 d; let d1 := g a2 d
  let b2 := f b1 c1; let c2 := g b1 c1
  let b3 := f b2 d1; let d2 := g b2 d1
  [a3, b3, f c2 d2, g c2 d2]
theorem st01 {a b c d : Nat} : stepL [(a : Int), b, c, d] (0 : Nat) (1 : Nat) = [((a ||| b : Nat) : Int), ((a &&& b : Nat) : Int), c, d] := by
  rw [← bor_is, ← band_is]; unfold stepL; rfl
theorem st02 {a b c d : Nat} : stepL [(a : Int), b, c, d] (0 : Nat) (2 : Nat) = [((a ||| c : Nat) : Int), b, ((a &&& c : Nat) : Int), d] := by
  rw [← bor_is, ← band_is]; unfold stepL; rfl
theorem st03 {a b c d : Nat} : stepL [(a : Int), b, c, d] (0 : Nat) (3 : Nat) = [((a ||| d : Nat) : Int), b, c, ((a &&& d : Nat) : Int)] := by
  rw [← bor_is, ← band_is]; unfold stepL; rfl
theorem st12 {a b c d : Nat} : stepL [(a : Int), b, c, d] (1 : Nat) (2 : Nat) = [(a : Int), ((b ||| c : Nat) : Int), ((b &&& c : Nat) : Int), d] := by
  rw [← bor_is, ← band_is]; unfold stepL; rfl
theorem st13 {a b c d : Nat} : stepL [(a : Int), b, c, d] (1 : Nat) (3 : Nat) = [(a : Int), ((b ||| d : Nat) : Int), c, ((b &&& d : Nat) : Int)] := by
  rw [← bor_is, ← band_is]; unfold stepL; rfl
theorem st23 {a b c d : Nat} : stepL [(a : Int), b, c, d] (2 : Nat) (3 : Nat) = [(a : Int), b, ((c ||| d : Nat) : Int), ((c &&& d : Nat) : Int)] := by
  rw [← bor_is, ← band_is]; unfold stepL; rfl
theorem pairs_is : pairsTo 3 = [(0, 1), (0, 2), (0, 3), (1, 2), (1, 3), (2, 3)] := by decide
theorem run_net {a b c d : Nat} : runPairs [(a : Int), b, c, d] (pairsTo 3) = (net (· ||| ·) (· &&& ·) a b c d).map fun (n : Nat) => (n : Int) := by
  rw [pairs_is]
  unfold runPairs net
  simp only [List.foldl_cons, List.foldl_nil]
  rw [st01, st02, st03, st12, st13, st23]
  rfl
theorem net4 (f g : Nat → Nat → Nat) (a b c d : Nat) : ∃ p q r s, net f g a b c d = [p, q, r, s] := ⟨_, _, _, _, rfl⟩
/-- the steps, bit by bit -/
theorem net_bits {k a b c d p q r s : Nat} (hk : k < 3) (ha : a < 8) (hb : b < 8) (hc : c < 8) (hd : d < 8) (h : net (· ||| ·) (· &&& ·) a b c d = [p, q, r, s]) :
    (p < 8 ∧ q < 8 ∧ r < 8 ∧ s < 8) ∧ net max min (bitN k a) (bitN k b) (bitN k c) (bitN k d) = [bitN k p, bitN k q, bitN k r, bitN k s] := by
  unfold net at h
  injection h with e1 h
  injection h with e2 h
  injection h with e3 h
  injection h with e4 h
  have a1 := or8 ha hb
  have b1 := and8 (b := b) ha
  have a2 := or8 a1 hc
  have c1 := and8 (b := c) a1
  have a3 := or8 a2 hd
  have d1 := and8 (b := d) a2
  have b2 := or8 b1 c1
  have c2 := and8 (b := (a ||| b) &&& c) b1
  have b3 := or8 b2 d1
  have d2 := and8 (b := (a ||| b ||| c) &&& d) b2
  have x1 := bits3 hk ha hb
  have x2 := bits3 hk a1 hc
  have x3 := bits3 hk a2 hd
  have x4 := bits3 hk b1 c1
  have x5 := bits3 hk b2 d1
  have x6 := bits3 hk c2 d2
  subst e1 e2 e3 e4
  refine ⟨⟨a3, b3, or8 c2 d2, and8 c2⟩, ?_⟩
  rw [x3.1, x5.1, x6.1, x6.2.1, x4.2.1, x5.2.1, x4.1, x3.2.1, x2.2.1, x2.1, x1.2.1, x1.1]
  rfl
/-- all words of bits -/
noncomputable def two (p : Nat → Bool) : Bool := p 0 && p 1
theorem two_get {p : Nat → Bool} (h : two p = true) {n : Nat} (hn : n < 2) : p n = true := by
  unfold two at h
  rw [Bool.and_eq_true] at h
  have : n = 0 ∨ n = 1 := by omega
  rcases this with rfl | rfl
  · exact h.1
  · exact h.2
theorem sort_all : (two fun a => two fun b => two fun c => two fun d => net max min a b c d == [if a + b + c + d > 0 then 1 else 0, if a + b + c + d > 1 then 1 else 0, if a + b + c + d > 2 then 1 else 0, if a + b + c + d > 3 then 1 else 0]) = true := by decide +kernel
theorem sort_is {a b c d : Nat} (ha : a < 2) (hb : b < 2) (hc : c < 2) (hd : d < 2) : net max min a b c d = [if a + b + c + d > 0 then 1 else 0, if a + b + c + d > 1 then 1 else 0, if a + b + c + d > 2 then 1 else 0, if a + b + c + d > 3 then 1 else 0] :=
  eq_of_beq (two_get (two_get (two_get (two_get sort_all ha) hb) hc) hd)
/-- settled, by the bits' counts -/
theorem net_counts {k a b c d p q r s : Nat} (hk : k < 3) (ha : a < 8) (hb : b < 8) (hc : c < 8) (hd : d < 8) (h : net (· ||| ·) (· &&& ·) a b c d = [p, q, r, s]) :
    (p < 8 ∧ q < 8 ∧ r < 8 ∧ s < 8) ∧ bitN k p = (if bitN k a + bitN k b + bitN k c + bitN k d > 0 then 1 else 0) ∧ bitN k q = (if bitN k a + bitN k b + bitN k c + bitN k d > 1 then 1 else 0) ∧
      bitN k r = (if bitN k a + bitN k b + bitN k c + bitN k d > 2 then 1 else 0) ∧ bitN k s = (if bitN k a + bitN k b + bitN k c + bitN k d > 3 then 1 else 0) := by
  obtain ⟨h8, h⟩ := net_bits hk ha hb hc hd h
  rw [sort_is (bitN_two k a) (bitN_two k b) (bitN_two k c) (bitN_two k d)] at h
  injection h with e1 h
  injection h with e2 h
  injection h with e3 h
  injection h with e4 h
  exact ⟨h8, e1.symm, e2.symm, e3.symm, e4.symm⟩
theorem of_bits {a : Nat} (ha : a < 8) : a = bitN 0 a + 2 * bitN 1 a + 4 * bitN 2 a := by
  unfold bitN
  simp only [Nat.reducePow]
  omega
theorem toldF_sum (m0 m1 m2 p : Int) : (toldF [m0, m1, m2] [1, 2, 4, 8] p 3).sum = (if m0 > p then 1 else 0) + (if m1 > p then 2 else 0) + (if m2 > p then 4 else 0) := by
  have e : List.range 3 = [0, 1, 2] := by decide
  unfold toldF
  rw [e]
  by_cases h0 : m0 > p <;> by_cases h1 : m1 > p <;> by_cases h2 : m2 > p <;> simp [List.filter, h0, h1, h2]
theorem fdiv_nat {a k : Nat} : Int.fdiv (a : Int) ((k : Nat) : Int) = ((a / k : Nat) : Int) := by
  rw [Int.fdiv_eq_ediv_of_nonneg _ (by omega)]; rfl
noncomputable def sumsP (xs : List Int) : List Int := ([1, 2, 4, 8] : List Int).map fun z => (xs.map fun r => Int.fdiv r z).sum
theorem bey_is {xs : List Int} (h : ∀ r ∈ xs, 0 ≤ r) : bey (countsP xs) 4 [1, 2, 4, 8] = sumsP xs := by
  unfold bey sumsP
  refine List.map_congr_left fun z hz => ?_
  have hz1 : 1 ≤ z := by simp at hz; omega
  rw [il_counts h hz1, Int.mul_comm, Int.fdiv_eq_ediv_of_nonneg _ (by omega), Int.mul_ediv_cancel _ (by omega)]
  omega
theorem bit0 (x : Nat) : ((x / 1 : Nat) : Int) = 2 * ((x / 2 : Nat) : Int) + ((bitN 0 x : Nat) : Int) := by unfold bitN; simp only [Nat.reducePow]; omega
theorem bit1 (x : Nat) : ((x / 2 : Nat) : Int) = 2 * ((x / 4 : Nat) : Int) + ((bitN 1 x : Nat) : Int) := by unfold bitN; simp only [Nat.reducePow]; omega
theorem bit2 (x : Nat) : ((x / 4 : Nat) : Int) = 2 * ((x / 8 : Nat) : Int) + ((bitN 2 x : Nat) : Int) := by unfold bitN; simp only [Nat.reducePow]; omega
theorem lin4 {a b c d a' b' c' d' p q r s : Int} (ha : a = 2 * a' + p) (hb : b = 2 * b' + q) (hc : c = 2 * c' + r) (hd : d = 2 * d' + s) : a + (b + (c + (d + 0))) - 2 * (a' + (b' + (c' + (d' + 0)))) = p + q + r + s := by omega
theorem many_is {a b c d : Nat} (ha : a < 8) (hb : b < 8) (hc : c < 8) (hd : d < 8) : manyP (sumsP [(a : Int), b, c, d]) =
    [((bitN 0 a + bitN 0 b + bitN 0 c + bitN 0 d : Nat) : Int), ((bitN 1 a + bitN 1 b + bitN 1 c + bitN 1 d : Nat) : Int), ((bitN 2 a + bitN 2 b + bitN 2 c + bitN 2 d : Nat) : Int)] := by
  unfold manyP sumsP
  simp only [List.map_cons, List.map_nil, List.sum_cons, List.sum_nil, List.getD_cons_zero, List.getD_cons_succ]
  have f1 : ∀ x : Nat, Int.fdiv (x : Int) 1 = ((x / 1 : Nat) : Int) := fun x => fdiv_nat (k := 1)
  have f2 : ∀ x : Nat, Int.fdiv (x : Int) 2 = ((x / 2 : Nat) : Int) := fun x => fdiv_nat (k := 2)
  have f4 : ∀ x : Nat, Int.fdiv (x : Int) 4 = ((x / 4 : Nat) : Int) := fun x => fdiv_nat (k := 4)
  have f8 : ∀ x : Nat, Int.fdiv (x : Int) 8 = ((x / 8 : Nat) : Int) := fun x => fdiv_nat (k := 8)
  simp only [f1, f2, f4, f8]
  rw [lin4 (bit0 a) (bit0 b) (bit0 c) (bit0 d), lin4 (bit1 a) (bit1 b) (bit1 c) (bit1 d), lin4 (bit2 a) (bit2 b) (bit2 c) (bit2 d)]
  simp only [Int.natCast_add]
theorem told_nat {a b c d p q r s : Nat} (ha : a < 8) (hb : b < 8) (hc : c < 8) (hd : d < 8) (h : net (· ||| ·) (· &&& ·) a b c d = [p, q, r, s]) : toldP (countsP [(a : Int), b, c, d]) 4 = [(p : Int), q, r, s] := by
  obtain ⟨⟨hp, hq, hr, hs⟩, a0, b0, c0, d0⟩ := net_counts (k := 0) (by decide) ha hb hc hd h
  obtain ⟨-, a1, b1, c1, d1⟩ := net_counts (k := 1) (by decide) ha hb hc hd h
  obtain ⟨-, a2, b2, c2, d2⟩ := net_counts (k := 2) (by decide) ha hb hc hd h
  have ep := of_bits hp
  have eq := of_bits hq
  have er := of_bits hr
  have es := of_bits hs
  rw [a0, a1, a2] at ep
  rw [b0, b1, b2] at eq
  rw [c0, c1, c2] at er
  rw [d0, d1, d2] at es
  unfold toldP
  rw [bey_is (by simp), many_is ha hb hc hd, show List.range 4 = [0, 1, 2, 3] by decide]
  simp only [List.map_cons, List.map_nil, toldF_sum]
  clear a0 a1 a2 b0 b1 b2 c0 c1 c2 d0 d1 d2 h ha hb hc hd hp hq hr hs
  generalize bitN 0 a + bitN 0 b + bitN 0 c + bitN 0 d = n0 at *
  generalize bitN 1 a + bitN 1 b + bitN 1 c + bitN 1 d = n1 at *
  generalize bitN 2 a + bitN 2 b + bitN 2 c + bitN 2 d = n2 at *
  have one : ∀ (P : Nat), (if ((n0 : Nat) : Int) > 0 + (P : Int) then (1 : Int) else 0) + (if ((n1 : Nat) : Int) > 0 + (P : Int) then (2 : Int) else 0) + (if ((n2 : Nat) : Int) > 0 + (P : Int) then (4 : Int) else 0) = (((if n0 > P then 1 else 0) + 2 * (if n1 > P then 1 else 0) + 4 * (if n2 > P then 1 else 0) : Nat) : Int) := by
    intro P
    have c0 : ((n0 : Nat) : Int) > 0 + (P : Int) ↔ n0 > P := by omega
    have c1 : ((n1 : Nat) : Int) > 0 + (P : Int) ↔ n1 > P := by omega
    have c2 : ((n2 : Nat) : Int) > 0 + (P : Int) ↔ n2 > P := by omega
    by_cases h0 : n0 > P <;> by_cases h1 : n1 > P <;> by_cases h2 : n2 > P <;> simp [c0, c1, c2, h0, h1, h2]
  rw [one, one, one, one, ← ep, ← eq, ← er, ← es]
theorem told_fact {x1 x2 x3 x4 s1 s2 s3 s4 : Int} (h : B8 x1 x2 x3 x4) (hs : [s1, s2, s3, s4] = runPairs [x1, x2, x3, x4] (pairsTo 3)) : toldP (countsP [x1, x2, x3, x4]) 4 = [s1, s2, s3, s4] := by
  obtain ⟨h1, h2, h3, h4⟩ := h
  obtain ⟨a, rfl⟩ : ∃ a : Nat, x1 = a := ⟨x1.toNat, by omega⟩
  obtain ⟨b, rfl⟩ : ∃ a : Nat, x2 = a := ⟨x2.toNat, by omega⟩
  obtain ⟨c, rfl⟩ : ∃ a : Nat, x3 = a := ⟨x3.toNat, by omega⟩
  obtain ⟨d, rfl⟩ : ∃ a : Nat, x4 = a := ⟨x4.toNat, by omega⟩
  obtain ⟨p, q, r, s, hn⟩ := net4 (· ||| ·) (· &&& ·) a b c d
  rw [run_net, hn] at hs
  rw [told_nat (by omega) (by omega) (by omega) (by omega) hn, hs]; rfl
/-! the counts, as a bag -/
theorem wsum_ind (c : List Int) (i : Nat) : wsum (fun j => if j = i then 1 else 0) c = c.getD i 0 := by
  induction c generalizing i with
  | nil => rfl
  | cons x c ih =>
    cases i with
    | zero =>
      have e : (fun j : Nat => if j + 1 = 0 then (1 : Int) else 0) = fun _ => 0 := by funext j; simp
      have z : ∀ c : List Int, wsum (fun _ => 0) c = 0 := by
        intro c
        induction c with
        | nil => rfl
        | cons x c ih => simp [wsum, ih]
      simp only [wsum, e, z, List.getD_cons_zero]
      simp
    | succ i =>
      have e : (fun j : Nat => if j + 1 = i + 1 then (1 : Int) else 0) = fun j => if j = i then 1 else 0 := by funext j; simp
      simp only [wsum, e, ih, List.getD_cons_succ]
      simp
theorem counts_ext {xs ys : List Int} (hx : ∀ r ∈ xs, 0 ≤ r) (hy : ∀ r ∈ ys, 0 ≤ r) (hl : xs.foldl (fun n r => max n (r.toNat + 1)) 0 = ys.foldl (fun n r => max n (r.toNat + 1)) 0)
    (h : ∀ i : Nat, (xs.map fun r => if r.toNat = i then (1 : Int) else 0).sum = (ys.map fun r => if r.toNat = i then (1 : Int) else 0).sum) : countsP xs = countsP ys := by
  have hlen : (countsP xs).length = (countsP ys).length := by rw [countsP_length hx, countsP_length hy, hl]
  refine List.ext_getElem hlen fun i h1 h2 => ?_
  have e1 := wsum_ind (countsP xs) i
  have e2 := wsum_ind (countsP ys) i
  rw [wsum_counts _ hx] at e1
  rw [wsum_counts _ hy] at e2
  rw [List.getD_eq_getElem?_getD, List.getElem?_eq_getElem h1, Option.getD_some] at e1
  rw [List.getD_eq_getElem?_getD, List.getElem?_eq_getElem h2, Option.getD_some] at e2
  rw [← e1, ← e2]
  exact h i
theorem foldl_le (xs : List Int) (n N : Nat) : xs.foldl (fun n r => max n (r.toNat + 1)) n ≤ N ↔ n ≤ N ∧ ∀ r ∈ xs, r.toNat + 1 ≤ N := by
  induction xs generalizing n with
  | nil => simp
  | cons x xs ih =>
    rw [List.foldl_cons, ih, Nat.max_le]
    simp only [List.mem_cons, forall_eq_or_imp]
    exact and_assoc
theorem counts_perm {xs ys : List Int} (h : xs.Perm ys) (hx : ∀ r ∈ xs, 0 ≤ r) : countsP xs = countsP ys := by
  have hy : ∀ r ∈ ys, 0 ≤ r := fun r hr => hx r (h.mem_iff.mpr hr)
  refine counts_ext hx hy ?_ fun i => ?_
  · refine Nat.le_antisymm ((foldl_le _ _ _).mpr ⟨Nat.zero_le _, fun r hr => ?_⟩) ((foldl_le _ _ _).mpr ⟨Nat.zero_le _, fun r hr => ?_⟩)
    · exact ((foldl_le ys 0 _).mp (Nat.le_refl _)).2 r (h.mem_iff.mp hr)
    · exact ((foldl_le xs 0 _).mp (Nat.le_refl _)).2 r (h.mem_iff.mpr hr)
  · have hm := h.map fun r : Int => if r.toNat = i then (1 : Int) else 0
    unfold List.sum
    refine hm.foldr_eq' (fun x _ y _ z => ?_) 0
    omega
section
variable (a b c d : Int)
theorem p12 : [a, b, c, d].Perm [b, a, c, d] := .swap _ _ _
theorem p23 : [a, b, c, d].Perm [a, c, b, d] := .cons _ (.swap _ _ _)
theorem p34 : [a, b, c, d].Perm [a, b, d, c] := .cons _ (.cons _ (.swap _ _ _))
theorem p13 : [a, b, c, d].Perm [c, b, a, d] := (p12 ..).trans ((p23 ..).trans (p12 ..))
theorem p24 : [a, b, c, d].Perm [a, d, c, b] := (p23 ..).trans ((p34 ..).trans (p23 ..))
theorem p14 : [a, b, c, d].Perm [d, b, c, a] := (p34 ..).trans ((p13 ..).trans (p34 ..))
end
theorem counts_sq {xs ys : List Int} (hx : ∀ r ∈ xs, 0 ≤ r) (hy : ∀ r ∈ ys, 0 ≤ r) (h : countsP xs = countsP ys) : (xs.map fun r => ((r.toNat : Nat) : Int) * r.toNat).sum = (ys.map fun r => ((r.toNat : Nat) : Int) * r.toNat).sum := by
  rw [← wsum_counts (fun i : Nat => (i : Int) * i) hx, ← wsum_counts (fun i : Nat => (i : Int) * i) hy, h]
noncomputable def sqq (x : Int) : Int := ((x.toNat : Nat) : Int) * x.toNat
theorem pair_all : (all8 fun a => all8 fun b => (sqq (Builtin.bitOr (a : Int) b) + sqq (Builtin.bitAnd (a : Int) b) == sqq (a : Int) + sqq (b : Int)) == (Builtin.bitOr (a : Int) b == (a : Int) || Builtin.bitOr (a : Int) b == (b : Int))) = true := by decide +kernel
theorem pair2_all : (all8 fun a => all8 fun b => (Builtin.bitOr (a : Int) b == (a : Int) && Builtin.bitAnd (a : Int) b == (b : Int)) || (Builtin.bitOr (a : Int) b == (b : Int) && Builtin.bitAnd (a : Int) b == (a : Int)) || !(Builtin.bitOr (a : Int) b == (a : Int) || Builtin.bitOr (a : Int) b == (b : Int))) = true := by decide +kernel
theorem pair_one {x y : Int} (hx : 0 ≤ x ∧ x < 8) (hy : 0 ≤ y ∧ y < 8) : (sqq (Builtin.bitOr x y) + sqq (Builtin.bitAnd x y) = sqq x + sqq y ↔ (Builtin.bitOr x y = x ∨ Builtin.bitOr x y = y)) ∧
    ((Builtin.bitOr x y = x ∨ Builtin.bitOr x y = y) → (Builtin.bitOr x y = x ∧ Builtin.bitAnd x y = y) ∨ (Builtin.bitOr x y = y ∧ Builtin.bitAnd x y = x)) := by
  obtain ⟨a, b, rfl, rfl, h⟩ := all8_two pair_all hx hy
  have h2 := all8_get (all8_get pair2_all (a := a) (by omega)) (a := b) (by omega)
  refine ⟨?_, fun hh => ?_⟩
  · rw [beq_iff_eq] at h
    constructor
    · intro e
      rw [beq_iff_eq.mpr e] at h
      simpa using h.symm
    · intro e
      have : (Builtin.bitOr (a : Int) b == (a : Int) || Builtin.bitOr (a : Int) b == (b : Int)) = true := by simpa using e
      rw [this] at h
      exact eq_of_beq h
  · have : (Builtin.bitOr (a : Int) b == (a : Int) || Builtin.bitOr (a : Int) b == (b : Int)) = true := by simpa using hh
    rw [this] at h2
    simpa using h2
theorem sq12 {a b c d e f : Int} (h : a + (b + (c + (d + 0))) = e + (f + (c + (d + 0)))) : e + f = a + b := by omega
theorem sq13 {a b c d e f : Int} (h : a + (b + (c + (d + 0))) = e + (b + (f + (d + 0)))) : e + f = a + c := by omega
theorem sq14 {a b c d e f : Int} (h : a + (b + (c + (d + 0))) = e + (b + (c + (f + 0)))) : e + f = a + d := by omega
theorem sq23 {a b c d e f : Int} (h : a + (b + (c + (d + 0))) = a + (e + (f + (d + 0)))) : e + f = b + c := by omega
theorem sq24 {a b c d e f : Int} (h : a + (b + (c + (d + 0))) = a + (e + (c + (f + 0)))) : e + f = b + d := by omega
theorem sq34 {a b c d e f : Int} (h : a + (b + (c + (d + 0))) = a + (b + (e + (f + 0)))) : e + f = c + d := by omega
theorem step_eq {s1 s2 s3 s4 y1 y2 y3 y4 i j : Int} (h : B8 s1 s2 s3 s4) (hij : 0 ≤ i ∧ i < j ∧ j < 4) (hst : stepL [s1, s2, s3, s4] i j = [y1, y2, y3, y4]) :
    countsP [s1, s2, s3, s4] = countsP [y1, y2, y3, y4] ↔ ([y1, y2, y3, y4].getD i.toNat 0 = [s1, s2, s3, s4].getD i.toNat 0 ∨ [y1, y2, y3, y4].getD i.toNat 0 = [s1, s2, s3, s4].getD j.toNat 0) := by
  have hy := step_b8 h hij hst
  have hx0 : ∀ r ∈ [s1, s2, s3, s4], 0 ≤ r := by obtain ⟨h1, h2, h3, h4⟩ := h; simp; omega
  have hy0 : ∀ r ∈ [y1, y2, y3, y4], 0 ≤ r := by obtain ⟨h1, h2, h3, h4⟩ := hy; simp; omega
  have hsq : countsP [s1, s2, s3, s4] = countsP [y1, y2, y3, y4] → sqq s1 + (sqq s2 + (sqq s3 + (sqq s4 + 0))) = sqq y1 + (sqq y2 + (sqq y3 + (sqq y4 + 0))) := fun e => counts_sq hx0 hy0 e
  obtain ⟨h1, h2, h3, h4⟩ := h
  clear hy0 hy
  rcases step_out hij hst with ⟨rfl, rfl, rfl, rfl, rfl, rfl⟩ | ⟨rfl, rfl, rfl, rfl, rfl, rfl⟩ | ⟨rfl, rfl, rfl, rfl, rfl, rfl⟩ | ⟨rfl, rfl, rfl, rfl, rfl, rfl⟩ | ⟨rfl, rfl, rfl, rfl, rfl, rfl⟩ | ⟨rfl, rfl, rfl, rfl, rfl, rfl⟩
  · have p := pair_one h1 h2
    refine ⟨fun e => p.1.mp (sq12 (hsq e)), fun hh => ?_⟩
    have hh : Builtin.bitOr s1 s2 = s1 ∨ Builtin.bitOr s1 s2 = s2 := hh
    rcases p.2 hh with ⟨e1, e2⟩ | ⟨e1, e2⟩ <;> rw [e1, e2]
    exact counts_perm (p12 ..) hx0
  · have p := pair_one h1 h3
    refine ⟨fun e => p.1.mp (sq13 (hsq e)), fun hh => ?_⟩
    have hh : Builtin.bitOr s1 s3 = s1 ∨ Builtin.bitOr s1 s3 = s3 := hh
    rcases p.2 hh with ⟨e1, e2⟩ | ⟨e1, e2⟩ <;> rw [e1, e2]
    exact counts_perm (p13 ..) hx0
  · have p := pair_one h1 h4
    refine ⟨fun e => p.1.mp (sq14 (hsq e)), fun hh => ?_⟩
    have hh : Builtin.bitOr s1 s4 = s1 ∨ Builtin.bitOr s1 s4 = s4 := hh
    rcases p.2 hh with ⟨e1, e2⟩ | ⟨e1, e2⟩ <;> rw [e1, e2]
    exact counts_perm (p14 ..) hx0
  · have p := pair_one h2 h3
    refine ⟨fun e => p.1.mp (sq23 (hsq e)), fun hh => ?_⟩
    have hh : Builtin.bitOr s2 s3 = s2 ∨ Builtin.bitOr s2 s3 = s3 := hh
    rcases p.2 hh with ⟨e1, e2⟩ | ⟨e1, e2⟩ <;> rw [e1, e2]
    exact counts_perm (p23 ..) hx0
  · have p := pair_one h2 h4
    refine ⟨fun e => p.1.mp (sq24 (hsq e)), fun hh => ?_⟩
    have hh : Builtin.bitOr s2 s4 = s2 ∨ Builtin.bitOr s2 s4 = s4 := hh
    rcases p.2 hh with ⟨e1, e2⟩ | ⟨e1, e2⟩ <;> rw [e1, e2]
    exact counts_perm (p24 ..) hx0
  · have p := pair_one h3 h4
    refine ⟨fun e => p.1.mp (sq34 (hsq e)), fun hh => ?_⟩
    have hh : Builtin.bitOr s3 s4 = s3 ∨ Builtin.bitOr s3 s4 = s4 := hh
    rcases p.2 hh with ⟨e1, e2⟩ | ⟨e1, e2⟩ <;> rw [e1, e2]
    exact counts_perm (p34 ..) hx0
theorem net_xs {x1 x2 x3 x4 s1 s2 s3 s4 : Int} (h : B8 x1 x2 x3 x4) (hs : [s1, s2, s3, s4] = runPairs [x1, x2, x3, x4] (pairsTo 3)) : ∃ a b c d p q r s : Nat, (a < 8 ∧ b < 8 ∧ c < 8 ∧ d < 8) ∧ x1 = a ∧ x2 = b ∧ x3 = c ∧ x4 = d ∧ s1 = p ∧ s2 = q ∧ s3 = r ∧ s4 = s ∧ net (· ||| ·) (· &&& ·) a b c d = [p, q, r, s] := by
  obtain ⟨h1, h2, h3, h4⟩ := h
  obtain ⟨a, rfl⟩ : ∃ a : Nat, x1 = a := ⟨x1.toNat, by omega⟩
  obtain ⟨b, rfl⟩ : ∃ a : Nat, x2 = a := ⟨x2.toNat, by omega⟩
  obtain ⟨c, rfl⟩ : ∃ a : Nat, x3 = a := ⟨x3.toNat, by omega⟩
  obtain ⟨d, rfl⟩ : ∃ a : Nat, x4 = a := ⟨x4.toNat, by omega⟩
  obtain ⟨p, q, r, s, hn⟩ := net4 (· ||| ·) (· &&& ·) a b c d
  rw [run_net, hn] at hs
  injection hs with e1 hs
  injection hs with e2 hs
  injection hs with e3 hs
  injection hs with e4 hs
  exact ⟨a, b, c, d, p, q, r, s, by omega, rfl, rfl, rfl, rfl, e1, e2, e3, e4, hn⟩
theorem apart_nat {p q r s p' q' r' s' : Nat} (hp : p < 8) (hq : q < 8) (hr : r < 8) (hs : s < 8) (hp' : p' < 8) (hq' : q' < 8) (hr' : r' < 8) (hs' : s' < 8) :
    apartP [(p : Int), q, r, s] [(p' : Int), q', r', s'] 4 = (((p ^^^ p') ||| (q ^^^ q') ||| (r ^^^ r') ||| (s ^^^ s') : Nat) : Int) := by
  unfold apartP
  rw [show List.range 4 = [0, 1, 2, 3] by decide]
  simp only [List.foldl_cons, List.foldl_nil, List.getD_cons_zero, List.getD_cons_succ]
  rw [bxor_is hp hp', bxor_is hq hq', bxor_is hr hr', bxor_is hs hs', show (0 : Int) = ((0 : Nat) : Int) from rfl, bor_is, bor_is, bor_is, bor_is, Nat.zero_or]
theorem hbit_all : (all8 fun u => decide (0 ≤ hbit (u : Int) + 1) && decide (hbit (u : Int) + 1 < 4)) = true := by decide +kernel
theorem hbit8 {u : Nat} (h : u < 8) : 0 ≤ hbit (u : Int) + 1 ∧ hbit (u : Int) + 1 < 4 := by
  have := all8_get hbit_all h
  simpa using this
theorem apart_bnd {s1 s2 s3 s4 r1 r2 r3 r4 : Int} (h : B8 s1 s2 s3 s4) (h' : B8 r1 r2 r3 r4) : 0 ≤ hbit (apartP [s1, s2, s3, s4] [r1, r2, r3, r4] 4) + 1 ∧ hbit (apartP [s1, s2, s3, s4] [r1, r2, r3, r4] 4) + 1 < 4 := by
  obtain ⟨h1, h2, h3, h4⟩ := h
  obtain ⟨g1, g2, g3, g4⟩ := h'
  obtain ⟨a, rfl⟩ : ∃ a : Nat, s1 = a := ⟨s1.toNat, by omega⟩
  obtain ⟨b, rfl⟩ : ∃ a : Nat, s2 = a := ⟨s2.toNat, by omega⟩
  obtain ⟨c, rfl⟩ : ∃ a : Nat, s3 = a := ⟨s3.toNat, by omega⟩
  obtain ⟨d, rfl⟩ : ∃ a : Nat, s4 = a := ⟨s4.toNat, by omega⟩
  obtain ⟨a', rfl⟩ : ∃ a : Nat, r1 = a := ⟨r1.toNat, by omega⟩
  obtain ⟨b', rfl⟩ : ∃ a : Nat, r2 = a := ⟨r2.toNat, by omega⟩
  obtain ⟨c', rfl⟩ : ∃ a : Nat, r3 = a := ⟨r3.toNat, by omega⟩
  obtain ⟨d', rfl⟩ : ∃ a : Nat, r4 = a := ⟨r4.toNat, by omega⟩
  rw [apart_nat (by omega) (by omega) (by omega) (by omega) (by omega) (by omega) (by omega) (by omega)]
  exact hbit8 (or8 (or8 (or8 (xor8 (by omega) (by omega)) (xor8 (by omega) (by omega))) (xor8 (by omega) (by omega))) (xor8 (by omega) (by omega)))
/-! the second row -/
noncomputable def w4 (x3 x4 t : Nat) : Nat := x4 ^^^ (t &&& (x3 ^^^ x4))
theorem sec_nat {a b c d : Nat} {z1 z2 z3 z4 : Int} (ha : a < 8) (hb : b < 8) (hc : c < 8) (hd : d < 8) (h : SecR a b c d z1 z2 z3 z4) :
    ∃ o t u : Nat, (o < 8 ∧ t < 8 ∧ u < 8) ∧ z1 = ((a ^^^ (o &&& (a ^^^ b)) : Nat) : Int) ∧ z2 = ((b ^^^ (o &&& (a ^^^ b)) : Nat) : Int) ∧ z3 = ((c ^^^ (t &&& (c ^^^ d)) : Nat) : Int) ∧ z4 = ((w4 c d t ^^^ u : Nat) : Int) := by
  obtain ⟨o, t, u, ho, ht, hu, e1, e2, e3, e4⟩ := h
  obtain ⟨o, rfl⟩ : ∃ a : Nat, o = a := ⟨o.toNat, by omega⟩
  obtain ⟨t, rfl⟩ : ∃ a : Nat, t = a := ⟨t.toNat, by omega⟩
  obtain ⟨u, rfl⟩ : ∃ a : Nat, u = a := ⟨u.toNat, by omega⟩
  have x1 := xor8 ha hb
  have x2 := xor8 hc hd
  have y1 := and8 (b := a ^^^ b) (show o < 8 by omega)
  have y2 := and8 (b := c ^^^ d) (show t < 8 by omega)
  refine ⟨o, t, u, by omega, ?_, ?_, ?_, ?_⟩
  · rw [e1, bxor_is ha hb, band_is, bxor_is ha y1]
  · rw [e2, bxor_is ha hb, band_is, bxor_is hb y1]
  · rw [e3, bxor_is hc hd, band_is, bxor_is hc y2]
  · rw [e4, bxor_is hc hd, band_is, bxor_is hd y2, bxor_is (xor8 hd y2) (by omega)]; rfl
noncomputable def exch (a b o : Nat) : Nat := (a + min o ((a + b) % 2)) % 2
noncomputable def thr (n k : Nat) : Nat := if n > k then 1 else 0
theorem ap_all : (two fun a => two fun b => two fun c => two fun d => two fun o => two fun t => two fun u =>
    max (max (max ((thr (a + b + c + d) 0 + thr (exch a b o + exch b a o + exch c d t + (exch d c t + u) % 2) 0) % 2) ((thr (a + b + c + d) 1 + thr (exch a b o + exch b a o + exch c d t + (exch d c t + u) % 2) 1) % 2)) ((thr (a + b + c + d) 2 + thr (exch a b o + exch b a o + exch c d t + (exch d c t + u) % 2) 2) % 2)) ((thr (a + b + c + d) 3 + thr (exch a b o + exch b a o + exch c d t + (exch d c t + u) % 2) 3) % 2) == u) = true := by decide +kernel
theorem ap_is {a b c d o t u p q r s p' q' r' s' : Nat} (ha : a < 8) (hb : b < 8) (hc : c < 8) (hd : d < 8) (ho : o < 8) (ht : t < 8) (hu : u < 8) (h : net (· ||| ·) (· &&& ·) a b c d = [p, q, r, s])
    (h' : net (· ||| ·) (· &&& ·) (a ^^^ (o &&& (a ^^^ b))) (b ^^^ (o &&& (a ^^^ b))) (c ^^^ (t &&& (c ^^^ d))) (w4 c d t ^^^ u) = [p', q', r', s']) :
    ((p ^^^ p') ||| (q ^^^ q') ||| (r ^^^ r') ||| (s ^^^ s')) = u := by
  have x1 := xor8 ha hb
  have x2 := xor8 hc hd
  have y1 := and8 (b := a ^^^ b) ho
  have y2 := and8 (b := c ^^^ d) ht
  have za := xor8 ha y1
  have zb := xor8 hb y1
  have zc := xor8 hc y2
  have zw : w4 c d t < 8 := xor8 hd y2
  have zd := xor8 zw hu
  obtain ⟨⟨hp, hq, hr, hs⟩, -⟩ := net_counts (k := 0) (by decide) ha hb hc hd h
  obtain ⟨⟨hp', hq', hr', hs'⟩, -⟩ := net_counts (k := 0) (by decide) za zb zc zd h'
  have v1 := xor8 hp hp'
  have v2 := xor8 hq hq'
  have v3 := xor8 hr hr'
  have v4 := xor8 hs hs'
  have v12 := or8 v1 v2
  have v123 := or8 v12 v3
  refine eq_bits (or8 v123 v4) hu fun k hk => ?_
  obtain ⟨-, g1, g2, g3, g4⟩ := net_counts (k := k) hk ha hb hc hd h
  obtain ⟨-, g1', g2', g3', g4'⟩ := net_counts (k := k) hk za zb zc zd h'
  have b1 := (bits3 hk ha y1).2.2
  have b2 := (bits3 hk hb y1).2.2
  have b3 := (bits3 hk hc y2).2.2
  have b4 : bitN k (w4 c d t) = _ := (bits3 hk hd y2).2.2
  have b5 : bitN k (w4 c d t ^^^ u) = _ := (bits3 hk zw hu).2.2
  rw [(bits3 hk ho x1).2.1, (bits3 hk ha hb).2.2] at b1 b2
  rw [(bits3 hk ht x2).2.1, (bits3 hk hc hd).2.2] at b3 b4
  rw [b4] at b5
  rw [b1, b2, b3, b5] at g1' g2' g3' g4'
  rw [(bits3 hk v123 v4).1, (bits3 hk v12 v3).1, (bits3 hk v1 v2).1, (bits3 hk hp hp').2.2, (bits3 hk hq hq').2.2, (bits3 hk hr hr').2.2, (bits3 hk hs hs').2.2, g1, g2, g3, g4, g1', g2', g3', g4']
  have hfin := eq_of_beq (two_get (two_get (two_get (two_get (two_get (two_get (two_get ap_all (bitN_two k a)) (bitN_two k b)) (bitN_two k c)) (bitN_two k d)) (bitN_two k o)) (bitN_two k t)) (bitN_two k u))
  unfold thr exch at hfin
  rw [Nat.add_comm (bitN k b) (bitN k a), Nat.add_comm (bitN k d) (bitN k c)] at hfin
  exact hfin
theorem exch_all : (all8 fun a => all8 fun b => all8 fun o => [1, 2, 4, 8].all fun (ts : Int) => Int.fdiv ((a ^^^ (o &&& (a ^^^ b)) : Nat) : Int) ts + Int.fdiv ((b ^^^ (o &&& (a ^^^ b)) : Nat) : Int) ts == Int.fdiv (a : Int) ts + Int.fdiv (b : Int) ts) = true := by decide +kernel
theorem exch_is {a b o : Nat} {ts : Int} (ha : a < 8) (hb : b < 8) (ho : o < 8) (hts : ts ∈ ([1, 2, 4, 8] : List Int)) : Int.fdiv ((a ^^^ (o &&& (a ^^^ b)) : Nat) : Int) ts + Int.fdiv ((b ^^^ (o &&& (a ^^^ b)) : Nat) : Int) ts = Int.fdiv (a : Int) ts + Int.fdiv (b : Int) ts :=
  eq_of_beq (List.all_eq_true.mp (all8_get (all8_get (all8_get exch_all ha) hb) ho) ts hts)
theorem flip_all : (all8 fun w => all8 fun u => [1, 2, 4, 8].all fun (ts : Int) => ((Int.fdiv (w : Int) ts == Int.fdiv ((w ^^^ u : Nat) : Int) ts) == !(decide (ts ≤ (u : Int)))) && (!(decide (ts ≤ (u : Int))) || decide (ts ≤ (w : Int)) || decide (ts ≤ ((w ^^^ u : Nat) : Int)))) = true := by decide +kernel
theorem flip_is {w u : Nat} {ts : Int} (hw : w < 8) (hu : u < 8) (hts : ts ∈ ([1, 2, 4, 8] : List Int)) : (Int.fdiv (w : Int) ts = Int.fdiv ((w ^^^ u : Nat) : Int) ts ↔ ¬ ts ≤ (u : Int)) ∧ (ts ≤ (u : Int) → ts ≤ (w : Int) ∨ ts ≤ ((w ^^^ u : Nat) : Int)) := by
  have h := List.all_eq_true.mp (all8_get (all8_get flip_all hw) hu) ts hts
  rw [Bool.and_eq_true] at h
  obtain ⟨h1, h2⟩ := h
  constructor
  · have h1 := eq_of_beq h1
    constructor
    · intro e
      rw [beq_iff_eq.mpr e] at h1
      simpa using h1.symm
    · intro e
      rw [decide_eq_false e] at h1
      exact eq_of_beq h1
  · intro e
    rw [decide_eq_true e] at h2
    simpa using h2
theorem has_all : (all8 fun c => all8 fun d => all8 fun t => [1, 2, 4, 8].all fun (ts : Int) => !(decide (ts ≤ (w4 c d t : Int))) || decide (ts ≤ (c : Int)) || decide (ts ≤ (d : Int))) = true := by decide +kernel
theorem has_is {c d t : Nat} {ts : Int} (hc : c < 8) (hd : d < 8) (ht : t < 8) (hts : ts ∈ ([1, 2, 4, 8] : List Int)) (h : ts ≤ (w4 c d t : Int)) : ts ≤ (c : Int) ∨ ts ≤ (d : Int) := by
  have h2 := List.all_eq_true.mp (all8_get (all8_get (all8_get has_all hc) hd) ht) ts hts
  rw [decide_eq_true h] at h2
  simpa using h2
theorem filt_all : (all8 fun n => all8 fun u => !([1, 2, 4, 8].all fun (ts : Int) => !(decide (ts ≤ (u : Int))) || decide (ts ≤ (n : Int))) || (rangeKs 1 (n + 1)).filter (fun ts => isb ts && decide (ts ≤ (u : Int))) == pows (hbit (u : Int) + 1).toNat) = true := by decide +kernel
theorem filt_is {n u : Nat} (hn : n < 8) (hu : u < 8) (h : ∀ ts ∈ ([1, 2, 4, 8] : List Int), ts ≤ (u : Int) → ts ≤ (n : Int)) : (rangeKs 1 (n + 1)).filter (fun ts => isb ts && decide (ts ≤ (u : Int))) = pows (hbit (u : Int) + 1).toNat := by
  have h2 := all8_get (all8_get filt_all hn) hu
  have h3 : ([1, 2, 4, 8].all fun (ts : Int) => !(decide (ts ≤ (u : Int))) || decide (ts ≤ (n : Int))) = true := by
    rw [List.all_eq_true]
    intro ts hts
    by_cases e : ts ≤ (u : Int)
    · simp [e, h ts hts e]
    · simp [e]
  rw [h3] at h2
  simpa using h2
/-- the columns part just at the sizes up to u -/
theorem col_parts {a b c d o t u : Nat} {ts : Int} (ha : a < 8) (hb : b < 8) (hc : c < 8) (hd : d < 8) (ho : o < 8) (ht : t < 8) (hu : u < 8) (hts : ts ∈ ([1, 2, 4, 8] : List Int)) :
    (colP [(a : Int), b, c, d] ts 4 != colP [((a ^^^ (o &&& (a ^^^ b)) : Nat) : Int), ((b ^^^ (o &&& (a ^^^ b)) : Nat) : Int), ((c ^^^ (t &&& (c ^^^ d)) : Nat) : Int), ((w4 c d t ^^^ u : Nat) : Int)] ts 4) = decide (ts ≤ (u : Int)) := by
  have e1 := exch_is ha hb ho hts
  have e2 := exch_is hc hd ht hts
  have zw : w4 c d t < 8 := xor8 hd (and8 ht)
  have e3 := (flip_is zw hu hts).1
  have e2 : Int.fdiv ((c ^^^ (t &&& (c ^^^ d)) : Nat) : Int) ts + Int.fdiv (w4 c d t : Int) ts = Int.fdiv (c : Int) ts + Int.fdiv (d : Int) ts := e2
  have hp : (0 : Int) < ts := by simp at hts; omega
  by_cases h : ts ≤ (u : Int)
  · rw [decide_eq_true h]
    rw [bne_iff_ne]
    intro e
    unfold colP at e
    have e := Int.eq_of_mul_eq_mul_left (by omega) e
    simp only [List.map_cons, List.map_nil, List.sum_cons, List.sum_nil] at e
    exact e3.mp (by omega) h
  · rw [decide_eq_false h]
    have := e3.mpr h
    rw [bne_eq_false_iff_eq]
    unfold colP
    simp only [List.map_cons, List.map_nil, List.sum_cons, List.sum_nil]
    congr 1
    omega
theorem named3_fact {x1 x2 x3 x4 z1 z2 z3 z4 s1 s2 s3 s4 r1 r2 r3 r4 : Int} (hx : B8 x1 x2 x3 x4) (hz : SecR x1 x2 x3 x4 z1 z2 z3 z4) (hs : [s1, s2, s3, s4] = runPairs [x1, x2, x3, x4] (pairsTo 3)) (hr : [r1, r2, r3, r4] = runPairs [z1, z2, z3, z4] (pairsTo 3)) :
    namF (namedP (countsP [x1, x2, x3, x4]) 4 (countsP [z1, z2, z3, z4]) 4) = (pows (hbit (apartP [s1, s2, s3, s4] [r1, r2, r3, r4] 4) + 1).toNat).map (rowE [x1, x2, x3, x4] [z1, z2, z3, z4]) := by
  have hz8 := sec_b8 hx hz
  obtain ⟨n, hn, hxn, hzn, e⟩ := named_cols hx hz8
  obtain ⟨a, b, c, d, p, q, r, s, ⟨ha, hb, hc, hd⟩, rfl, rfl, rfl, rfl, rfl, rfl, rfl, rfl, hnet⟩ := net_xs hx hs
  obtain ⟨o, t, u, ⟨ho, ht, hu⟩, rfl, rfl, rfl, rfl⟩ := sec_nat ha hb hc hd hz
  obtain ⟨a', b', c', d', p', q', r', s', ⟨ha', hb', hc', hd'⟩, f1, f2, f3, f4, rfl, rfl, rfl, rfl, hnet'⟩ := net_xs hz8 hr
  rw [Int.natCast_inj] at f1 f2 f3 f4
  subst f1 f2 f3 f4
  have k8 := (net_counts (k := 0) (by decide) ha hb hc hd hnet).1
  have k8' := (net_counts (k := 0) (by decide) ha' hb' hc' hd' hnet').1
  rw [e, apart_nat k8.1 k8.2.1 k8.2.2.1 k8.2.2.2 k8'.1 k8'.2.1 k8'.2.2.1 k8'.2.2.2, ap_is ha hb hc hd ho ht hu hnet hnet']
  have hfilt : (rangeKs 1 (n + 1)).filter (fun ts => isb ts && (colP [(a : Int), b, c, d] ts 4 != colP [((a ^^^ (o &&& (a ^^^ b)) : Nat) : Int), ((b ^^^ (o &&& (a ^^^ b)) : Nat) : Int), ((c ^^^ (t &&& (c ^^^ d)) : Nat) : Int), ((w4 c d t ^^^ u : Nat) : Int)] ts 4)) = (rangeKs 1 (n + 1)).filter (fun ts => isb ts && decide (ts ≤ (u : Int))) := by
    refine List.filter_congr fun ts hts => ?_
    cases hi : isb ts with
    | false => rfl
    | true =>
      have hb : 1 ≤ ts ∧ ts ≤ 9 := by
        unfold rangeKs at hts
        obtain ⟨k, hk, rfl⟩ := List.mem_map.mp hts
        have : k < n + 1 := by simpa using hk
        omega
      rw [col_parts ha (by assumption) hc hd ho ht hu (isb_sizes hb.1 hb.2 hi)]
  rw [hfilt, filt_is hn hu]
  · rfl
  · intro ts hts hle
    have zw : w4 c d t < 8 := xor8 hd (and8 ht)
    rcases (flip_is zw hu hts).2 hle with h | h
    · rcases has_is hc hd ht hts h with h | h <;> omega
    · omega
theorem add_all : (all8 fun a => all8 fun b => (a ||| b) + (a &&& b) == a + b) = true := by decide +kernel
theorem add_is {a b : Nat} (ha : a < 8) (hb : b < 8) : (a ||| b) + (a &&& b) = a + b := eq_of_beq (all8_get (all8_get add_all ha) hb)
theorem net_sum {a b c d p q r s : Nat} (ha : a < 8) (hb : b < 8) (hc : c < 8) (hd : d < 8) (h : net (· ||| ·) (· &&& ·) a b c d = [p, q, r, s]) : p + q + r + s = a + b + c + d := by
  unfold net at h
  injection h with e1 h
  injection h with e2 h
  injection h with e3 h
  injection h with e4 h
  dsimp only at e1 e2 e3 e4
  have a1 := or8 ha hb
  have b1 := and8 (b := b) ha
  have a2 := or8 a1 hc
  have c1 := and8 (b := c) a1
  have d1 := and8 (b := d) a2
  have b2 := or8 b1 c1
  have c2 := and8 (b := (a ||| b) &&& c) b1
  have d2 := and8 (b := (a ||| b ||| c) &&& d) b2
  have x1 := add_is ha hb
  have x2 := add_is a1 hc
  have x3 := add_is a2 hd
  have x4 := add_is b1 c1
  have x5 := add_is b2 d1
  have x6 := add_is c2 d2
  omega
theorem pows_all : (all8 fun u => ((pows (hbit (u : Int) + 1).toNat).length == 0) == (u == 0)) = true := by decide +kernel
theorem pows_nil {u : Nat} (hu : u < 8) {f : Int → Dat} : (pows (hbit (u : Int) + 1).toNat).map f = [] ↔ u = 0 := by
  have h := eq_of_beq (all8_get pows_all hu)
  rw [List.map_eq_nil_iff, ← List.length_eq_zero_iff]
  constructor
  · intro e
    rw [beq_iff_eq.mpr e] at h
    exact eq_of_beq h.symm
  · intro e
    rw [beq_iff_eq.mpr e] at h
    exact eq_of_beq h
theorem xor_nil {a b : Nat} (h : a ^^^ b = 0) : a = b := by
  have := congrArg (· ^^^ b) h
  simpa [Nat.xor_assoc] using this
theorem or_nil {a b : Nat} (h : a ||| b = 0) : a = 0 ∧ b = 0 := by
  have h1 := @Nat.left_le_or a b
  have h2 := @Nat.right_le_or a b
  omega
theorem final3 {x1 x2 x3 x4 z1 z2 z3 z4 s1 s2 s3 s4 r1 r2 r3 r4 ap : Int} {i1 : Decidable (countsP [s1, s2, s3, s4] = countsP [r1, r2, r3, r4])} {i2 : Decidable ((pows (hbit ap + 1).toNat).map (rowE [x1, x2, x3, x4] [z1, z2, z3, z4]) = [])} (hx : B8 x1 x2 x3 x4) (hz : SecR x1 x2 x3 x4 z1 z2 z3 z4) (hs : [s1, s2, s3, s4] = runPairs [x1, x2, x3, x4] (pairsTo 3)) (hr : [r1, r2, r3, r4] = runPairs [z1, z2, z3, z4] (pairsTo 3)) (hap : ap = apartP [s1, s2, s3, s4] [r1, r2, r3, r4] 4) :
    (@decide (countsP [s1, s2, s3, s4] = countsP [r1, r2, r3, r4]) i1 == @decide ((pows (hbit ap + 1).toNat).map (rowE [x1, x2, x3, x4] [z1, z2, z3, z4]) = []) i2) = true := by
  have hz8 := sec_b8 hx hz
  have key : countsP [s1, s2, s3, s4] = countsP [r1, r2, r3, r4] ↔ (pows (hbit ap + 1).toNat).map (rowE [x1, x2, x3, x4] [z1, z2, z3, z4]) = [] := by
    clear i1 i2
    obtain ⟨a, b, c, d, p, q, r, s, ⟨ha, hb, hc, hd⟩, rfl, rfl, rfl, rfl, rfl, rfl, rfl, rfl, hnet⟩ := net_xs hx hs
    obtain ⟨o, t, u, ⟨ho, ht, hu⟩, rfl, rfl, rfl, rfl⟩ := sec_nat ha hb hc hd hz
    obtain ⟨a', b', c', d', p', q', r', s', ⟨ha', hb', hc', hd'⟩, f1, f2, f3, f4, rfl, rfl, rfl, rfl, hnet'⟩ := net_xs hz8 hr
    rw [Int.natCast_inj] at f1 f2 f3 f4
    subst f1 f2 f3 f4
    have k8 := (net_counts (k := 0) (by decide) ha hb hc hd hnet).1
    have k8' := (net_counts (k := 0) (by decide) ha' hb' hc' hd' hnet').1
    have hap2 := ap_is ha hb hc hd ho ht hu hnet hnet'
    rw [apart_nat k8.1 k8.2.1 k8.2.2.1 k8.2.2.2 k8'.1 k8'.2.1 k8'.2.2.1 k8'.2.2.2, hap2] at hap
    subst hap
    rw [pows_nil hu]
    constructor
    · intro e
      have n1 := net_sum ha hb hc hd hnet
      have n2 := net_sum ha' hb' hc' hd' hnet'
      have e' := wsum_counts (rs := [(p : Int), q, r, s]) (fun i : Nat => (i : Int)) (by simp)
      rw [e, wsum_counts (fun i : Nat => (i : Int)) (by simp)] at e'
      simp only [List.map_cons, List.map_nil, List.sum_cons, List.sum_nil, Int.toNat_natCast] at e'
      have zw : w4 c d t < 8 := xor8 hd (and8 ht)
      have m1 := exch_is ha hb ho (ts := 1) (by decide)
      have m2 : Int.fdiv ((c ^^^ (t &&& (c ^^^ d)) : Nat) : Int) 1 + Int.fdiv (w4 c d t : Int) 1 = Int.fdiv (c : Int) 1 + Int.fdiv (d : Int) 1 := exch_is hc hd ht (ts := 1) (by decide)
      have m3 := (flip_is zw hu (ts := 1) (by decide)).1
      simp only [Int.fdiv_one] at m1 m2 m3
      have := m3.mp (by omega)
      omega
    · intro e
      rw [e] at hap2
      obtain ⟨q3, q4⟩ := or_nil hap2
      obtain ⟨q2, q3⟩ := or_nil q3
      obtain ⟨q1, q2⟩ := or_nil q2
      rw [xor_nil q1, xor_nil q2, xor_nil q3, xor_nil q4]
  by_cases h : countsP [s1, s2, s3, s4] = countsP [r1, r2, r3, r4]
  · rw [decide_eq_true h, decide_eq_true (key.mp h)]; rfl
  · rw [decide_eq_false h, decide_eq_false (fun hh => h (key.mpr hh))]; rfl
end
section
variable {w : World} {mean : ExcName → Option Value} {mg mb : Str → Option Value} {dp un : Nat} {gd : Option (List Code)} {cn : Str} {cs : Scope} {a : Addr} {ccd : Value} {cl : List (Str × Addr)} {outer : List Env} {A₀ : Around} {base h₀ : Heap} {L : Addr} {m : Str → Option Value} {s : Shared} {Q E : Value → Shared → Prop} {news : List (Addr × Obj)}
noncomputable def GoOn : Prop := True
noncomputable def MidV (h₀ : Heap) (L : Addr) (x : Str) (v : Value) (m : Str → Option Value) (news : List (Addr × Obj)) (s : Shared) (fl : Flow) (s' : Shared) : Prop :=
  fl = .next ∧ ∃ h' tk', s' = { s with heap := h', toks := tk' } ∧ Fr h₀ L h' (fun y => if y = x then some v else m y) ∧ News h₀ L h' news
noncomputable def MidP (h₀ : Heap) (L : Addr) (R : Int → Int → Prop) (m : Str → Option Value) (news : List (Addr × Obj)) (s : Shared) (fl : Flow) (s' : Shared) : Prop :=
  fl = .next ∧ ∃ h' tk' p l u1 u2, s' = { s with heap := h', toks := tk' } ∧ Fr h₀ L h' (fun y => if y = Str.ofString "left" then some (.int l u2) else if y = Str.ofString "place" then some (.int p u1) else m y) ∧ News h₀ L h' news ∧ R p l
theorem MidV.mk {x : Str} {v v' : Value} {h' : Heap} {tk' : Nat} {all : List (Addr × Obj)} (F : Fr h₀ L h' (fun y => if y = x then some v' else m y)) (e : v' = v) (N : News h₀ L h' all) (hs : ∀ p ∈ news, p ∈ all) :
    MidV h₀ L x v m news s .next { s with heap := h', toks := tk' } :=
  ⟨rfl, h', tk', rfl, e ▸ F, fun p hp => N p (hs p hp)⟩
theorem MidP.mk {R : Int → Int → Prop} {p l : Int} {u1 u2 : Tok} {h' : Heap} {tk' : Nat} {all : List (Addr × Obj)} (F : Fr h₀ L h' (fun y => if y = Str.ofString "left" then some (.int l u2) else if y = Str.ofString "place" then some (.int p u1) else m y)) (N : News h₀ L h' all) (hs : ∀ p ∈ news, p ∈ all) (hr : R p l) :
    MidP h₀ L R m news s .next { s with heap := h', toks := tk' } :=
  ⟨rfl, h', tk', p, l, u1, u2, rfl, F, fun p hp => N p (hs p hp), hr⟩
section
variable {prog : Program} {A : Around} {t : Sem Flow}
theorem assign_mid {QF : Flow → Shared → Prop} (x : Str) (v : Value) (F : Fr h₀ L s.heap m) (N : News h₀ L s.heap news)
    (main : wpAny (model prog w) A t (MidV h₀ L x v m news s) E s)
    (rest : ∀ h' tk', Fr h₀ L h' (fun y => if y = x then some v else m y) → News h₀ L h' news → QF .next { s with heap := h', toks := tk' }) : wpAny (model prog w) A t QF E s := by
  refine wpAny_mono main (fun fl s' h => ?_) fun _ _ h => h
  obtain ⟨rfl, h', tk', rfl, F', N'⟩ := h
  exact rest h' tk' F' N'
theorem pair_mid {QF : Flow → Shared → Prop} (R : Int → Int → Prop) (F : Fr h₀ L s.heap m) (N : News h₀ L s.heap news)
    (main : wpAny (model prog w) A t (MidP h₀ L R m news s) E s)
    (rest : ∀ h' tk' p l u1 u2, R p l → Fr h₀ L h' (fun y => if y = Str.ofString "left" then some (.int l u2) else if y = Str.ofString "place" then some (.int p u1) else m y) → News h₀ L h' news → QF .next { s with heap := h', toks := tk' }) : wpAny (model prog w) A t QF E s := by
  refine wpAny_mono main (fun fl s' h => ?_) fun _ _ h => h
  obtain ⟨rfl, h', tk', p, l, u1, u2, rfl, F', N', hr⟩ := h
  exact rest h' tk' p l u1 u2 hr F' N'
end
theorem ne_cellL {h : Heap} {all : List (Addr × Obj)} {a b : Addr} {o o' : Obj} {v : Option Value} (N : News h₀ L h all) (ha : (a, o) ∈ all) (hb : (b, o') ∈ all) (hd : o.data = Data.cell v) (hn : o'.data ≠ Data.cell v) : @Ne Nat a b := by
  intro e
  have h1 := (N _ ha).1
  have h2 := (N _ hb).1
  have e' : a = b := e
  subst e'
  rw [h1] at h2
  have h3 : o = o' := Option.some.inj h2
  exact hn (h3 ▸ hd)
theorem ne_cellR {h : Heap} {all : List (Addr × Obj)} {a b : Addr} {o o' : Obj} {v : Option Value} (N : News h₀ L h all) (ha : (a, o) ∈ all) (hb : (b, o') ∈ all) (hd : o.data = Data.cell v) (hn : o'.data ≠ Data.cell v) : @Ne Nat b a :=
  Ne.symm (ne_cellL N ha hb hd hn)
theorem off1_of {D : Addr} : ∀ {l : List (Addr × Obj)}, (∀ p ∈ l, p.1 ≠ D) → LCg.Off1 D l
  | [], _ => trivial
  | p :: _, h => ⟨h p (.head _), off1_of fun q hq => h q (.tail _ hq)⟩
noncomputable def MidA (h₀ : Heap) (L : Addr) (R : Int → Int → Int → Prop) (m : Str → Option Value) (led : Obj → List (Addr × Obj)) (s : Shared) (fl : Flow) (s' : Shared) : Prop :=
  fl = .next ∧ ∃ h' tk' D oa y1 y2 y3 t1 t2 t3 k, s' = { s with heap := h', toks := tk' } ∧ Fr h₀ L h' m ∧ News h₀ L h' ((D, W.listOf [Value.int y1 t1, Value.int y2 t2, Value.int y3 t3].toArray k) :: led oa) ∧ oa.data = Data.cell (some (.ref D)) ∧ R y1 y2 y3
theorem MidA.mk {R : Int → Int → Int → Prop} {led : Obj → List (Addr × Obj)} {h' : Heap} {tk' k : Nat} {D : Addr} {oa : Obj} {y1 y2 y3 : Int} {t1 t2 t3 : Tok} {all : List (Addr × Obj)} (F : Fr h₀ L h' m) (N : News h₀ L h' all) (hd : oa.data = Data.cell (some (.ref D)))
    (hs : ∀ p ∈ (D, W.listOf [Value.int y1 t1, Value.int y2 t2, Value.int y3 t3].toArray k) :: led oa, p ∈ all) (hr : R y1 y2 y3) : MidA h₀ L R m led s .next { s with heap := h', toks := tk' } :=
  ⟨rfl, h', tk', D, oa, y1, y2, y3, t1, t2, t3, k, rfl, F, fun p hp => N p (hs p hp), hd, hr⟩
theorem after_mid {prog : Program} {A : Around} {t : Sem Flow} {QF : Flow → Shared → Prop} {oa₀ : Obj} (R : Int → Int → Int → Prop) (led : Obj → List (Addr × Obj)) (F : Fr h₀ L s.heap m) (N : News h₀ L s.heap (led oa₀))
    (main : wpAny (model prog w) A t (MidA h₀ L R m led s) E s)
    (rest : ∀ h' tk' D oa y1 y2 y3 t1 t2 t3 k, R y1 y2 y3 → oa.data = Data.cell (some (.ref D)) → Fr h₀ L h' m → News h₀ L h' ((D, W.listOf [Value.int y1 t1, Value.int y2 t2, Value.int y3 t3].toArray k) :: led oa) → QF .next { s with heap := h', toks := tk' }) : wpAny (model prog w) A t QF E s := by
  refine wpAny_mono main (fun fl s' h => ?_) fun _ _ h => h
  obtain ⟨rfl, h', tk', D, oa, y1, y2, y3, t1, t2, t3, k, rfl, F', N', hd, hr⟩ := h
  exact rest h' tk' D oa y1 y2 y3 t1 t2 t3 k hr hd F' N'
noncomputable def MidN (h₀ : Heap) (L : Addr) (m : Str → Option Value) (news : List (Addr × Obj)) (s : Shared) (fl : Flow) (s' : Shared) : Prop :=
  fl = .next ∧ ∃ h' tk', s' = { s with heap := h', toks := tk' } ∧ Fr h₀ L h' m ∧ News h₀ L h' news
theorem MidN.mk {h' : Heap} {tk' : Nat} {all : List (Addr × Obj)} (F : Fr h₀ L h' m) (N : News h₀ L h' all) (hs : ∀ p ∈ news, p ∈ all) : MidN h₀ L m news s .next { s with heap := h', toks := tk' } :=
  ⟨rfl, h', tk', rfl, F, fun p hp => N p (hs p hp)⟩
theorem next_mid {prog : Program} {A : Around} {t : Sem Flow} {QF : Flow → Shared → Prop} (F : Fr h₀ L s.heap m) (N : News h₀ L s.heap news)
    (main : wpAny (model prog w) A t (MidN h₀ L m news s) E s)
    (rest : ∀ h' tk', Fr h₀ L h' m → News h₀ L h' news → QF .next { s with heap := h', toks := tk' }) : wpAny (model prog w) A t QF E s := by
  refine wpAny_mono main (fun fl s' h => ?_) fun _ _ h => h
  obtain ⟨rfl, h', tk', rfl, F', N'⟩ := h
  exact rest h' tk' F' N'
noncomputable def MidE (h₀ : Heap) (L : Addr) (m : Str → Option Value) (news : List (Addr × Obj)) (P : List Int → Prop) (s : Shared) (v : Value) (s' : Shared) : Prop :=
  ∃ h' tk' D us k mm, v = .ref D ∧ s' = { s with heap := h', toks := tk' } ∧ Fr h₀ L h' m ∧ News h₀ L h' ((D, W.listOf us.toArray k) :: news) ∧ IntsAre us mm ∧ P mm
theorem MidE.mk {P : List Int → Prop} {h' : Heap} {tk' k : Nat} {D : Addr} {us : List Value} {mm : List Int} {all : List (Addr × Obj)} (F : Fr h₀ L h' m) (N : News h₀ L h' all) (hs : ∀ p ∈ (D, W.listOf us.toArray k) :: news, p ∈ all) (hI : IntsAre us mm) (hP : P mm) : MidE h₀ L m news P s (.ref D) { s with heap := h', toks := tk' } :=
  ⟨h', tk', D, us, k, mm, rfl, rfl, F, fun p hp => N p (hs p hp), hI, hP⟩
theorem expr_mid {prog : Program} {A : Around} {t : Sem Value} {QV : Value → Shared → Prop} (P : List Int → Prop) (F : Fr h₀ L s.heap m) (N : News h₀ L s.heap news)
    (main : wpAny (model prog w) A t (MidE h₀ L m news P s) E s)
    (rest : ∀ h' tk' D us k mm, Fr h₀ L h' m → News h₀ L h' ((D, W.listOf us.toArray k) :: news) → IntsAre us mm → P mm → QV (.ref D) { s with heap := h', toks := tk' }) : wpAny (model prog w) A t QV E s := by
  refine wpAny_mono main (fun v s' h => ?_) fun _ _ h => h
  obtain ⟨h', tk', D, us, k, mm, rfl, rfl, F', N', hI, hP⟩ := h
  exact rest h' tk' D us k mm F' N' hI hP
theorem sizes_eq : List.foldl (fun l' k' => if isb k' = true then l' ++ [k'] else if isb k' = false then l' else l') [] (rangeKs 0 (9 - 0 : Int).toNat) = [1, 2, 4, 8] := by decide +kernel
theorem news_sub {h₀ h : Heap} {L : Addr} {all small : List (Addr × Obj)} (N : News h₀ L h all) (hs : ∀ p ∈ small, p ∈ all) : News h₀ L h small := fun p hp => N p (hs p hp)
theorem gen4 {h : Heap} {D : Addr} {e1 e2 e3 e4 : Int} {t1 t2 t3 t4 : Tok} {k : Nat} {rest : List (Addr × Obj)} {P : Prop} (N : News h₀ L h ((D, W.listOf [Value.int e1 t1, Value.int e2 t2, Value.int e3 t3, Value.int e4 t4].toArray k) :: rest))
    (go : ∀ z1 z2 z3 z4 t1 t2 t3 t4, z1 = e1 → z2 = e2 → z3 = e3 → z4 = e4 → News h₀ L h ((D, W.listOf [Value.int z1 t1, Value.int z2 t2, Value.int z3 t3, Value.int z4 t4].toArray k) :: rest) → P) : P := go _ _ _ _ _ _ _ _ rfl rfl rfl rfl N
theorem three_bnd {a : Int} : 0 ≤ (if a.fmod 16 - 8 > 0 then a.fmod 16 - 8 else 0) ∧ (if a.fmod 16 - 8 > 0 then a.fmod 16 - 8 else 0) < 8 := by
  have := fmod_bnd (x := a) (n := 16) (by decide)
  split <;> omega
theorem hide {h₀ h : Heap} {L : Addr} {all : List (Addr × Obj)} {P : Prop} (N : News h₀ L h all) (k : ∀ rest, rest = all → News h₀ L h rest → P) : P := k all rfl N
set_option genSizeOf false in
set_option genInjectivity false in
structure G3 where
  sl : Addr
  s1 : Int
  s2 : Int
  s3 : Int
  s4 : Int
  a1 : Tok
  a2 : Tok
  a3 : Tok
  a4 : Tok
  kk : Nat
  rl : Addr
  r1 : Int
  r2 : Int
  r3 : Int
  r4 : Int
  b1 : Tok
  b2 : Tok
  b3 : Tok
  b4 : Tok
  kr : Nat
  lx : Addr
  dx : Addr
  tn : Addr
  tc : Addr
  o2 : LT
  o3 : Obj
  o4 : Obj
noncomputable def LInv3 (w : World) (xs zs : List Int) (ps : List (Nat × Nat)) (g : G3) : Prop :=
  B8 g.s1 g.s2 g.s3 g.s4 ∧ B8 g.r1 g.r2 g.r3 g.r4 ∧ [g.s1, g.s2, g.s3, g.s4] = runPairs xs ps ∧ [g.r1, g.r2, g.r3, g.r4] = runPairs zs ps ∧ LeadO w g.lx g.dx g.tn g.tc g.o2 g.o3 g.o4 (countsP [g.s1, g.s2, g.s3, g.s4]) (lenP [g.s1, g.s2, g.s3, g.s4]) 4 ∧ (countsP [g.s1, g.s2, g.s3, g.s4]).length ≤ 40 ∧
    g.o3.cls ≠ .type "range_iterator" ∧ g.o4.cls ≠ .type "range_iterator"
theorem pairs_succ {i : Nat} (hi : i < 3) : pairsTo i ++ pairRow i (3 - i) = pairsTo (i + 1) := by
  have : i = 0 ∨ i = 1 ∨ i = 2 := by omega
  rcases this with rfl | rfl | rfl <;> decide
theorem pows_succ {ys : List Value} {i : Nat} {v : Int} {t : Tok} (h : IntsAre ys (pows i)) (hv : v = 2 ^ i) : IntsAre (ys ++ [.int v t]) (pows (i + 1)) := by
  have e : pows (i + 1) = pows i ++ [2 ^ i] := by simp [pows, List.range_succ]
  rw [e, hv]
  exact h.append (.cons _ t .nil)
theorem pows_length (i : Nat) : (pows i).length = i := by simp [pows]
theorem news_tail {h : Heap} {led nx : List (Addr × Obj)} {p q r : Addr × Obj} (N : News h₀ L h (p :: q :: r :: nx)) (hs : ∀ x ∈ led, x ∈ nx) : News h₀ L h (p :: q :: r :: (led ++ nx)) := fun x hx => N x (by
  simp only [List.mem_cons, List.mem_append] at hx ⊢
  rcases hx with h | h | h | h | h
  · exact .inl h
  · exact .inr (.inl h)
  · exact .inr (.inr (.inl h))
  · exact .inr (.inr (.inr (hs x h)))
  · exact .inr (.inr (.inr h)))
theorem rowE_one {nx : List (Addr × Obj)} {zs : List Value} {l xs ys : List Int} {i e : Nat} {z : Int} {t : Addr} {u1 u2 u3 : Tok} (h : DatAll nx zs ((l.take i).map (rowE xs ys))) (hz : l[i]? = some z) :
    DatAll ((t, tupO [.int z u1, .int (colP xs z 4) u2, .int (colP ys z 4) u3] e) :: nx) (zs ++ [.ref t]) ((l.take (i + 1)).map (rowE xs ys)) := by
  rw [List.take_add_one, hz, List.map_append]
  exact (h.mono fun p hp => List.mem_cons_of_mem _ hp).append (.one (.tuple List.mem_cons_self (.cons (.int _ _) (.cons (.int _ _) (.cons (.int _ _) .nil)))))
theorem compEnd_tup {S : List (Addr × Obj) → Prop} {rest : Value → List (Addr × Obj) → Prop} {y : Value} {I C D t : Addr} {oI oC oD o : Obj} {s₁ : Shared} {h' : Heap} {tk : Nat} {all nx : List (Addr × Obj)} (F : Fr h₀ L h' m) (N : News h₀ L h' all)
    (hs : ∀ p ∈ (I, oI) :: (C, oC) :: (D, oD) :: (t, o) :: nx, p ∈ all) (off : LCg.Off3 I C D nx) (hI : @LT.lt Nat _ I t) (hC : @LT.lt Nat _ C t) (hD : @LT.lt Nat _ D t) (hS : S ((t, o) :: nx)) (r : rest y ((t, o) :: nx)) :
    LCg.CompEnd h₀ L m s₁ I oI C oC D oD S rest y { s₁ with heap := h', toks := tk } :=
  LCg.CompEnd.intro F N _ hs ⟨⟨Ne.symm (Nat.ne_of_lt hI), Ne.symm (Nat.ne_of_lt hC), Ne.symm (Nat.ne_of_lt hD)⟩, off⟩ hS r
theorem news_tail1 {h : Heap} {led nx : List (Addr × Obj)} {p : Addr × Obj} (N : News h₀ L h (p :: nx)) (hs : ∀ x ∈ led, x ∈ nx) : News h₀ L h (p :: (led ++ nx)) := fun x hx => N x (by
  simp only [List.mem_cons, List.mem_append] at hx ⊢
  rcases hx with h | h | h
  · exact .inl h
  · exact .inr (hs x h)
  · exact .inr h)
theorem rowE_ok {xs ys l : List Int} : ∀ d ∈ l.map (rowE xs ys), kqdOk 8 d = true := by
  intro d hd
  obtain ⟨z, _, rfl⟩ := List.mem_map.mp hd
  rfl
theorem pows_bnd {n i : Nat} {z : Int} (hn : n < 4) (h : (pows n)[i]? = some z) : 1 ≤ z ∧ z < 100 := by
  have hm := List.mem_of_getElem? h
  unfold pows at hm
  obtain ⟨k, hk, rfl⟩ := List.mem_map.mp hm
  have hk' : k < n := by simpa using hk
  have : k = 0 ∨ k = 1 ∨ k = 2 := by omega
  rcases this with rfl | rfl | rfl <;> decide
theorem prune {h : Heap} {all small : List (Addr × Obj)} {P : Prop} (N : News h₀ L h all) (hs : ∀ x ∈ small, x ∈ all) (k : News h₀ L h small → P) : P := k fun p hp => N p (hs p hp)
theorem pre_nil {t : List (Addr × Obj)} : ∀ x ∈ ([] : List (Addr × Obj)), x ∈ t := List.forall_mem_nil _
theorem pre_cons {a : Addr × Obj} {l t : List (Addr × Obj)} (h : ∀ x ∈ l, x ∈ t) : ∀ x ∈ a :: l, x ∈ a :: t := List.forall_mem_cons.mpr ⟨List.mem_cons_self, fun x hx => List.mem_cons_of_mem _ (h x hx)⟩
theorem pre_skip {a : Addr × Obj} {l t : List (Addr × Obj)} (h : ∀ x ∈ l, x ∈ t) : ∀ x ∈ l, x ∈ a :: t := fun x hx => List.mem_cons_of_mem _ (h x hx)
end
section
variable {w : World} {mean : ExcName → Option Value} {mg mb : Str → Option Value} {dp un : Nat} {gd : Option (List Code)} {cn : Str} {cs : Scope} {a : Addr} {ccd : Value} {cl : List (Str × Addr)} {outer : List Env} {A₀ : Around} {base h₀ : Heap} {L : Addr} {m : Str → Option Value} {s : Shared} {Q E : Value → Shared → Prop} {news : List (Addr × Obj)}
theorem ret3a {P : Prop} {inst : Decidable P} {a b c : Int} (h : P ↔ (a = b ∨ a = c)) (e : a = b) (r : (@decide P inst != (a == b)) = true) : False := by
  have hp : P := h.mpr (.inl e)
  simp [hp, e] at r
theorem ret3b {P : Prop} {inst : Decidable P} {a b c : Int} (h : P ↔ (a = b ∨ a = c)) (e : a ≠ b) (r : (@decide P inst != (a == c)) = true) : False := by
  by_cases hc : a = c
  · have hp : P := h.mpr (.inr hc)
    simp [hp, hc] at r
  · have hp : ¬ P := fun p => (h.mp p).elim e hc
    simp [hp, hc] at r
theorem run_snoc {xs ss ys : List Int} {i t : Nat} (h : ss = runPairs xs (pairsTo i ++ pairRow i t)) (hi : t < 3 - i) (hst : stepL ss (0 + (i : Int)) (0 + (i : Int) + 1 + (t : Int)) = ys) : ys = runPairs xs (pairsTo i ++ pairRow i (t + 1)) := by
  have e : pairRow i (t + 1) = pairRow i t ++ [(i, i + 1 + t)] := by
    unfold pairRow
    rw [List.take_add_one, List.map_append]
    simp [hi]
  rw [e, ← List.append_assoc]
  unfold runPairs at *
  rw [List.foldl_append, ← h, List.foldl_cons, List.foldl_nil, ← hst]
  have e1 : (0 : Int) + (i : Int) = ((i : Nat) : Int) := by omega
  have e2 : (0 : Int) + (i : Int) + 1 + (t : Int) = ((i + 1 + t : Nat) : Int) := by omega
  rw [e2, e1]
theorem apart_succ {ss rs : List Int} {i : Nat} {v : Int} (h : v = apartP ss rs i) : Builtin.bitOr v (Builtin.bitXor (ss.getD (0 + (i : Int)).toNat 0) (rs.getD (0 + (i : Int)).toNat 0)) = apartP ss rs (i + 1) := by
  subst h
  unfold apartP
  rw [List.range_succ, List.foldl_append, List.foldl_cons, List.foldl_nil, show (0 + (i : Int)).toNat = i by omega]
end
section
local macro_rules | `(tactic| walk_at "call ref") => `(tactic| (k_here; (try dsimp only [List.cons_append, List.nil_append, List.append_nil]); (first | ((with_reducible show wpAny _ _ (call (Value.ref 106) _) _ _ _); k_dflt (refine' lead_spec (by k_asm) (by k_asm) (by k_asm) (by k_asm) (by k_asm) rfl (by ktr_room) (by ktr_units) (by k_mem) (by assumption) (by assumption) (by assumption) (by assumption) ?_)) | ((with_reducible show wpAny _ _ (call (Value.ref 111) _) _ _ _); k_dflt (refine' col_spec (by k_asm) (by k_asm) (by k_asm) (by k_asm) (by k_asm) rfl (by ktr_room) (by ktr_units) (by k_mem) (by omega) (by omega) ?_)) | ((with_reducible show wpAny _ _ (call (Value.ref 118) _) _ _ _); k_dflt (refine' step_spec (by k_asm) (by k_asm) (by k_asm) (by k_asm) (by k_asm) rfl (by ktr_room) (by ktr_units) (by k_mem) (by omega) ?_)) | ((with_reducible show wpAny _ _ (call (Value.ref 123) _) _ _ _); k_dflt (refine' nam_spec (by k_asm) (by k_asm) (by k_asm) (by k_asm) (by k_asm) rfl (by ktr_room) (by ktr_units) (LeadO.use (by assumption) (by k_mem) (by k_mem) (by k_mem) (by k_mem)) (LeadO.use (by assumption) (by k_mem) (by k_mem) (by k_mem) (by k_mem)) (by omega) (by omega) ?_); intro ra9' ys9' tl9' h9' tk9' F9' N9' hD9'; (try simp only [List.cons_append, List.nil_append] at N9' hD9'); (try dsimp only)) | ((with_reducible show wpAny _ _ (call (Value.ref 59) _) _ _ _); k_dflt (refine' equal_spec (by k_asm) (by k_asm) (by k_asm) (by k_asm) (by k_asm) rfl (by ktr_room) (by ktr_units) (LeadO.use (by assumption) (by k_mem) (by k_mem) (by k_mem) (by k_mem)) (LeadO.use (by assumption) (by k_mem) (by k_mem) (by k_mem) (by k_mem)) ?_)) | ((with_reducible show wpAny _ _ (call (Value.ref 128) _) _ _ _); k_dflt (refine' told_spec2 (by k_asm) (by k_asm) (by k_asm) (by k_asm) (by k_asm) rfl (by ktr_room) (by ktr_units) (by k_mem) (LeadO.use (by assumption) (by k_mem) (by k_mem) (by k_mem) (by k_mem)) (by omega) (by assumption) ?_))); intros; (try dsimp only)))
local macro_rules | `(tactic| walk_at "subscriptTail Name Slice ref ref") => `(tactic| (k_here; (with_reducible show wpAny _ _ (subscriptTail _ (PySem.Expr.Slice _ _ (some _) _) (Value.ref _) (Value.ref _)) _ _ _); k_dflt (refine' slice3_ints (by k_asm) (by k_asm) (by kmk_list) (by kmk_part) (by kmk_part) (by kmk_part) (by decide) (by l_ints) ?_ (by with_unfolding_all rfl) (by kmk_pure) (by ((simp only [sizeLine_eq]); omega))); intro D' us' ms' h' F' N' l1 hI' hL'; (try k_lt l1)))
local macro_rules | `(tactic| walk_at "pyIter ref") => `(tactic| ((fail_if_success (have : GoOn := by assumption)); refine Hold.stop ?_))
local macro_rules | `(tactic| walk_at "FinA") => `(tactic| ((unfold LCg.FinA); intro D' h' tk' F' N' o1'; (try simp only [List.nil_append, List.cons_append] at N'); (try rw [sizes_eq] at *); (try dsimp only)))
local macro_rules | `(tactic| walk_at "eval ListComp") => `(tactic| ((with_reducible show wpAny _ _ (eval (PySem.Expr.ListComp _ [⟨PySem.Expr.Tuple _ _ _, _, _, _⟩] _ _) _) _ _ _); refine Hold.stop ?_))
local macro_rules | `(tactic| walk_at "exec Assign cons ListComp") => `(tactic| ((with_reducible show wpAny _ _ (exec (Stmt.Assign _ (PySem.Expr.ListComp _ [⟨PySem.Expr.Tuple _ _ _, _, _, _⟩] _ _) _) _) _ _ _); refine Hold.stop ?_))
local macro_rules | `(tactic| k_ne) => `(tactic| ((try dsimp only); first | exact ne_cellL (by assumption) (by k_mem) (by k_mem) (by assumption) (by intro hh; cases hh) | exact ne_cellR (by assumption) (by k_mem) (by k_mem) (by assumption) (by intro hh; cases hh) | exact off1_ne (by assumption) (by k_mem) | exact Ne.symm (off1_ne (by assumption) (by k_mem)) | fail "no"))
local macro_rules | `(tactic| walk_at "exec Assign cons Tuple") => `(tactic| ((fail_if_success (have : GoOn := by assumption)); refine Hold.stop ?_))
local macro_rules | `(tactic| walk_at "exec If") => `(tactic| refine wpAny_If ?_)
local macro_rules | `(tactic| walk_at "exec If") => `(tactic| ((with_reducible show wpAny _ _ (exec (Stmt.If (PySem.Expr.Compare (PySem.Expr.Call (PySem.Expr.Attribute _ _ _) _ _ _) _ _ _) _ _ _) _) _ _ _); (fail_if_success (have : GoOn := by assumption)); refine Hold.stop ?_))
set_option maxHeartbeats 8000000 in
theorem law_holds : PySem.Challenge.rw_re0074_03.Holds := hd (by
  k_go0
  k_with_none
  k_steps
  refine Hold.go ?_
  refine wpAny_Assign_Name ?_
  k_dflt (refine ListComp_enum (F₀ := by k_asm) (by rfl) (by decide) (by rfl) (by decide) (by rfl) (by rfl) (by decide) ?_)
  iterate 12 (first | walk1 | (dsimp only; walk1))
  iterate 4 (first | walk1 | (dsimp only; walk1))
  refine EnumSrc.call (by rfl) (by k_asm) (by k_asm) (by k_mem) (by simp only [sizeLine_eq, List.length_cons, List.length_nil]; decide) (fun i ys => ∃ xs, xs.length = i ∧ IntsAre ys xs ∧ ∀ x ∈ xs, 0 ≤ x ∧ x < 8) ⟨[], rfl, .nil, by simp⟩ ?_ ?_
  · intro e it i ys v tv oe oi C oC m₂ D h tk E' hv hinv hC ha hb F2 N2
    obtain ⟨xs, hx3⟩ := hinv
    have hxl := hx3.1
    have hys := hx3.2.1
    have hxb := hx3.2.2
    clear hx3
    obtain ⟨z, tz, rfl, hz⟩ := (IntsAre.cons _ _ (.cons _ _ (.cons _ _ (.cons _ _ .nil)))).at i v hv
    have hi4 : i < 4 := by
      have := (List.getElem?_eq_some_iff.mp hz).1
      simpa using this
    have hzb : 0 ≤ z ∧ z < 8 := by
      have := List.mem_of_getElem? hz
      simp at this; omega
    refine hideQ ?_
    intro K hK
    k_steps
    refine hK _ _ ?_
    refine' CellEnd.mk (by k_asm) (by k_asm) ?hs ?hr
    case hs => (repeat (refine sub_cons (by k_mem) ?_)); exact List.forall_mem_nil _
    case hr =>
      refine ⟨xs ++ [_], by simp [hxl], hys.append (.cons _ _ .nil), fun x hx => ?_⟩
      rcases List.mem_append.mp hx with hx | hx
      · exact hxb x hx
      · rw [List.mem_singleton.mp hx]
        exact fmod_bnd (by decide)
  · intro ys D h tk hinv F2 N2
    obtain ⟨xs, hx3⟩ := hinv
    have hxl := hx3.1
    have hys := hx3.2.1
    have hxb := hx3.2.2
    clear hx3
    obtain ⟨x1, x2, x3, x4, rfl⟩ : ∃ x1 x2 x3 x4, xs = [x1, x2, x3, x4] := by
      match xs, hxl with
      | [a, b, c, d], _ => exact ⟨a, b, c, d, rfl⟩
    obtain ⟨a1, a2, a3, a4, rfl⟩ := ints4 hys
    clear hys
    have hb1 := hxb x1 (by simp)
    have hb2 := hxb x2 (by simp)
    have hb3 := hxb x3 (by simp)
    have hb4 := hxb x4 (by simp)
    clear hxb hxl
    k_steps
    rename News _ _ _ ((_, W.listOf _ _) :: _) => N9
    refine gen4 N9 ?_
    intro z1 z2 z3 z4 c1 c2 c3 c4 q1 q2 q3 q4 N10
    clear N9
    have hsec : SecR x1 x2 x3 x4 z1 z2 z3 z4 := ⟨_, _, _, fmod_bnd (by decide), fmod_bnd (by decide), three_bnd, q1, q2, q3, q4⟩
    clear q1 q2 q3 q4
    w_top off
    rename World => wl
    have hz := sec_b8 ⟨hb1, hb2, hb3, hb4⟩ hsec
    have hz1 := hz.1
    have hz2 := hz.2.1
    have hz3 := hz.2.2.1
    have hz4 := hz.2.2.2
    clear hz
    refine Hold.go ?_
    refine toks_cut ?_
    intro tk0
    rename Fr _ _ _ _ => FF
    refine' map_cut [(Str.ofString "sizes", .ref _)] FF ?cps ?_
    case cps => kst_all
    clear FF
    intro u0 FF
    refine prune N10 (pre_cons (pre_cons (pre_skip (pre_cons (pre_cons (pre_cons (pre_skip pre_nil))))))) ?_
    clear N10
    intro N10
    have gon : GoOn := trivial
    walk1
    clear gon
    iterate 10 (first | walk1 | (dsimp only; walk1))
    rename_i lx dx tn tc y2 y3 y4 hp1 tk1 FF1 NN1 hL1 c13 c14 hc1
    iterate 9 (first | walk1 | (dsimp only; walk1))
    rename_i lx' dx' tn' tc' y2' y3' y4' hp2 tk2 FF2 NN2 hL2 c23 c24 hc2
    k_steps
    refine Hold.go ?_
    have gon : GoOn := trivial
    walk1
    clear gon
    k_steps
    refine Hold.go ?_
    rename News _ _ _ _ => NW
    refine hide NW ?_
    clear NW
    intro rest hrest NW
    refine' range_loop (σ := G3) (n := 3) (by assumption) (by decide) (by decide) rfl
      (fun g => (g.lx, instObj 83 g.dx) :: (g.dx, LD wl g.tn g.o2) :: (g.tn, g.o3) :: (g.tc, g.o4) :: (g.sl, W.listOf [Value.int g.s1 g.a1, Value.int g.s2 g.a2, Value.int g.s3 g.a3, Value.int g.s4 g.a4].toArray g.kk) :: (g.rl, W.listOf [Value.int g.r1 g.b1, Value.int g.r2 g.b2, Value.int g.r3 g.b3, Value.int g.r4 g.b4].toArray g.kr) :: rest)
      (fun g => [(Str.ofString "settled", .ref g.sl), (Str.ofString "settled2", .ref g.rl), (Str.ofString "ahead", .ref g.lx), (Str.ofString "lead", .ref lx), (Str.ofString "lead2", .ref lx'), (Str.ofString "sizes", .ref _)])
      (fun i g => LInv3 wl [x1, x2, x3, x4] [z1, z2, z3, z4] (pairsTo i) g)
      ⟨?sl, x1, x2, x3, x4, a1, a2, a3, a4, ?kk, ?rl, z1, z2, z3, z4, _, _, _, _, ?kr, lx, dx, tn, tc, y2, y3, y4⟩
      (by k_asm) (news_sub NW ?zs) ?zp ?zi ?zt ?zd
    case zs =>
      rw [hrest]; dsimp only
      (repeat (refine sub_cons (by k_mem) ?_)); exact List.forall_mem_nil _
    case zp => kst_all
    case zi => exact ⟨⟨hb1, hb2, hb3, hb4⟩, ⟨hz1, hz2, hz3, hz4⟩, rfl, rfl, hL1, hc1, c13, c14⟩
    case zt =>
      rintro I i ti ⟨sl, s1, s2, s3, s4, p1, p2, p3, p4, kk, rl, r1, r2, r3, r4, q1, q2, q3, q4, kr, mx, nx, on, oc, f2, f3, f4⟩ u h tk io hi hinv hcls hne F2 N2
      dsimp only [LInv3] at hinv
      have hS := hinv.1
      have hR := hinv.2.1
      have hSp := hinv.2.2.1
      have hRp := hinv.2.2.2.1
      have hLs := hinv.2.2.2.2.1
      have hcs := hinv.2.2.2.2.2.1
      have hk3 := hinv.2.2.2.2.2.2.1
      have hk4 := hinv.2.2.2.2.2.2.2
      clear hinv
      dsimp only at F2 N2
      have hoff := off1_of hne
      have hneR : ∀ p ∈ rest, p.1 ≠ I := fun p9 h9 => hne p9 (by kst_mem)
      dsimp only at hoff
      clear hne hrest NW
      refine hideQ ?_
      intro K hK
      k_steps
      refine Hold.go ?_
      refine' range_loop (σ := G3) (n := 3 - i) (by assumption) (small_one (by omega) (by omega) (by omega) (by omega)) (by rw [rangeSize_nat]; congr 1; omega) rfl
        (fun g => (I, io) :: (g.lx, instObj 83 g.dx) :: (g.dx, LD wl g.tn g.o2) :: (g.tn, g.o3) :: (g.tc, g.o4) :: (g.sl, W.listOf [Value.int g.s1 g.a1, Value.int g.s2 g.a2, Value.int g.s3 g.a3, Value.int g.s4 g.a4].toArray g.kk) :: (g.rl, W.listOf [Value.int g.r1 g.b1, Value.int g.r2 g.b2, Value.int g.r3 g.b3, Value.int g.r4 g.b4].toArray g.kr) :: rest)
        (fun g => [(Str.ofString "settled", .ref g.sl), (Str.ofString "settled2", .ref g.rl), (Str.ofString "ahead", .ref g.lx), (Str.ofString "lead", .ref lx), (Str.ofString "lead2", .ref lx'), (Str.ofString "sizes", .ref _), (Str.ofString "i", .int (0 + (i : Int)) ti)])
        (fun t g => LInv3 wl [x1, x2, x3, x4] [z1, z2, z3, z4] (pairsTo i ++ pairRow i t) g)
        ⟨sl, s1, s2, s3, s4, p1, p2, p3, p4, kk, rl, r1, r2, r3, r4, q1, q2, q3, q4, kr, mx, nx, on, oc, f2, f3, f4⟩
        (by k_asm) (news_sub (by k_asm) ?czs) ?czp ?czi ?czt ?czd
      case czs => (try dsimp only); (repeat (refine sub_cons (by k_mem) ?_)); (intro p9 h9; kst_mem)
      case czp => kst_all
      case czi => exact ⟨hS, hR, by simpa [pairRow] using hSp, by simpa [pairRow] using hRp, hLs, hcs, hk3, hk4⟩
      case czd =>
        rintro ⟨sl, s1, s2, s3, s4, p1, p2, p3, p4, kk, rl, r1, r2, r3, r4, q1, q2, q3, q4, kr, mx, nx, on, oc, f2, f3, f4⟩ u h tk hinv F2 N2
        dsimp only [LInv3] at hinv
        have hS := hinv.1
        have hR := hinv.2.1
        have hSp := hinv.2.2.1
        have hRp := hinv.2.2.2.1
        have hLs := hinv.2.2.2.2.1
        have hcs := hinv.2.2.2.2.2.1
        have hk3 := hinv.2.2.2.2.2.2.1
        have hk4 := hinv.2.2.2.2.2.2.2
        clear hinv
        dsimp only at F2 N2
        k_steps
        refine hK _ _ ?_
        refine' TEnd.next (⟨sl, s1, s2, s3, s4, p1, p2, p3, p4, kk, rl, r1, r2, r3, r4, q1, q2, q3, q4, kr, mx, nx, on, oc, f2, f3, f4⟩ : G3) (by k_asm) (by k_asm) ?h1 ?h2 ?h3 ?h4
        case h1 => (try dsimp only); (repeat (refine sub_cons (by k_mem) ?_)); (intro p9 h9; kst_mem)
        case h3 => kst_all
        case h2 => (try dsimp only); (repeat (refine List.forall_mem_cons.mpr ⟨by first | exact ne_of_cls (by assumption) (by k_mem) (by k_mem) hcls (by first | exact type_ne (by decide) | assumption | (intro hh; cases hh)) | k_ne, ?_⟩)); exact hneR
        case h4 => exact ⟨hS, hR, by rw [← pairs_succ hi]; exact hSp, by rw [← pairs_succ hi]; exact hRp, hLs, hcs, hk3, hk4⟩
      case czt =>
        rintro J t tj ⟨sl, s1, s2, s3, s4, p1, p2, p3, p4, kk, rl, r1, r2, r3, r4, q1, q2, q3, q4, kr, mx, nx, on, oc, f2, f3, f4⟩ u h tk jo ht hinv hclsJ hne F2 N2
        dsimp only [LInv3] at hinv
        have hS := hinv.1
        have hR := hinv.2.1
        have hSp := hinv.2.2.1
        have hRp := hinv.2.2.2.1
        have hLs := hinv.2.2.2.2.1
        have hcs := hinv.2.2.2.2.2.1
        have hk3 := hinv.2.2.2.2.2.2.1
        have hk4 := hinv.2.2.2.2.2.2.2
        clear hinv
        dsimp only at F2 N2
        have hoffJ := off1_of hne
        have hneJ : ∀ p ∈ rest, p.1 ≠ J := fun p9 h9 => hne p9 (by kst_mem)
        dsimp only at hoffJ
        clear hne
        refine hideQ ?_
        intro K1 hK1
        iterate 14 (first | walk1 | (dsimp only; walk1))
        rename_i rw y1 y2 y3 y4 v1 v2 v3 v4 krw hp3 tk3 FF3 NN3 hst
        have hyb : B8 y1 y2 y3 y4 := step_b8 hS (by omega) hst
        have hy1 := hyb.1
        have hy2 := hyb.2.1
        have hy3 := hyb.2.2.1
        have hy4 := hyb.2.2.2
        iterate 27 (first | walk1 | (dsimp only; walk1))
        rename DatAll _ _ (namF _) => hDD
        rw [named_step hS (by omega) hst] at hDD
        iterate 3 (first | walk1 | (dsimp only; walk1))
        have heq := step_eq hS (by omega) hst
        refine kqd_ne (by k_asm) (by k_mem) rfl rfl hDD (by kqd_sub) (by k_mem) rfl rfl .nil (List.forall_mem_nil _) (List.forall_mem_nil _) (List.forall_mem_nil _) (by ke_room) ?_
        simp only [decide_true, Bool.not_true]
        k_steps
        refine Hold.go ?_
        refine next_mid (by k_asm) (by k_asm) ?_ ?_
        · have gon : GoOn := trivial
          k_steps
          · exact (ret3a heq (by assumption) (by assumption)).elim
          · exact MidN.mk (by k_asm) (by k_asm) fun _ h => h
          · exact (ret3b heq (by assumption) (by assumption)).elim
          · exact MidN.mk (by k_asm) (by k_asm) fun _ h => h
        · intro h' tk' F' N'
          dsimp only
          k_steps
          refine Hold.go ?_
          have gon : GoOn := trivial
          walk1
          clear gon
          k_steps
          rename stepL [r1, r2, r3, r4] _ _ = _ => hst2
          refine hK1 _ _ ?_
          rename LeadO _ _ _ _ _ _ _ _ (countsP [y1, y2, y3, y4]) _ _ => hL9
          refine' TEnd.next (⟨_, y1, y2, y3, y4, _, _, _, _, _, _, _, _, _, _, _, _, _, _, _, _, _, _, _, _, _, _⟩ : G3) (by k_asm) (by k_asm) ?h1 ?h2 ?h3 ⟨⟨hy1, hy2, hy3, hy4⟩, step_b8 hR (by omega) hst2, run_snoc hSp ht hst, run_snoc hRp ht hst2, hL9, by assumption, by assumption, by assumption⟩
          case h3 => kst_all
          case h1 => (try dsimp only); (repeat (refine sub_cons (by k_mem) ?_)); (intro p9 h9; kst_mem)
          case h2 => (try dsimp only); (repeat (refine List.forall_mem_cons.mpr ⟨by first | exact ne_of_cls (by assumption) (by k_mem) (by k_mem) hclsJ (by first | exact type_ne (by decide) | assumption | (intro hh; cases hh)) | k_ne, ?_⟩)); exact hneJ
    case zd =>
      rintro ⟨sl, s1, s2, s3, s4, p1, p2, p3, p4, kk, rl, r1, r2, r3, r4, q1, q2, q3, q4, kr, mx, nx, on, oc, f2, f3, f4⟩ u h tk hinv F2 N2
      dsimp only [LInv3] at hinv
      have hS := hinv.1
      have hR := hinv.2.1
      have hSp := hinv.2.2.1
      have hRp := hinv.2.2.2.1
      have hLs := hinv.2.2.2.2.1
      have hcs := hinv.2.2.2.2.2.1
      have hk3 := hinv.2.2.2.2.2.2.1
      have hk4 := hinv.2.2.2.2.2.2.2
      clear hinv
      dsimp only at F2 N2
      subst hrest
      have ht1 := told_fact ⟨hb1, hb2, hb3, hb4⟩ hSp
      have ht2 := told_fact ⟨hz1, hz2, hz3, hz4⟩ hRp
      rename IntsAre _ [1, 2, 4, 8] => hI8
      obtain ⟨g1, g2, g3, g4, rfl⟩ := ints4 hI8
      clear hI8
      k_steps
      refine Hold.go ?_
      refine' range_loop (σ := Int × Tok) (n := 4) (by assumption) (by decide) (by decide) rfl (fun _ => _)
        (fun g => [(Str.ofString "apart", .int g.1 g.2), (Str.ofString "settled", .ref sl), (Str.ofString "settled2", .ref rl), (Str.ofString "ahead", .ref mx), (Str.ofString "lead", .ref lx), (Str.ofString "lead2", .ref lx'), (Str.ofString "named", .ref _)])
        (fun i g => g.1 = apartP [s1, s2, s3, s4] [r1, r2, r3, r4] i) ⟨0, _⟩ (by k_asm) (by k_asm) ?fzp ?fzi ?fzt ?fzd
      case fzp => kst_all
      case fzi => unfold apartP; rfl
      case fzt =>
        rintro J t tj ⟨ap, apt⟩ u h tk jo ht hap hclsJ hne F3 N3
        dsimp only at hap F3 N3
        have gon : GoOn := trivial
        refine hideQ ?_
        intro K hK
        k_steps
        refine hK _ _ ?_
        refine' TEnd.next ⟨_, _⟩ (by k_asm) (by k_asm) ?h1 ?h2 ?h3 ?h4
        case h3 => kst_all
        case h1 => exact fun _ h => h
        case h2 => exact hne
        case h4 => exact apart_succ hap
      case fzd =>
        rintro ⟨ap, apt⟩ u h tk hap F3 N3
        dsimp only at hap F3 N3
        have hcm : HoldC := trivial
        have hv := apart_bnd hS hR
        rw [← hap] at hv
        k_steps
        refine Hold.go ?_
        k_dflt (refine LCg.Assign_ListComp_U (F₀ := by k_asm) (by rfl) (by with_unfolding_all rfl) (by rfl) (by decide) (by rfl) (by decide) (by rfl) (by rfl) (by rfl) ?_)
        iterate 17 (first | walk1 | (dsimp only; walk1))
        k_dflt (refine LCg.CompSrc.range (n := (hbit ap + 1).toNat) (by rfl) (by k_asm) (by k_asm) (by assumption) (small_one (by omega) (by omega) (by omega) (by omega)) (by rw [rangeSize_nat]; congr 1; omega) (by simp only [sizeLine_eq]; omega) ?_)
        intro g2
        refine comp_ind (fun i ys nx => nx = _ ∧ IntsAre ys (pows i)) ?_ ?_ _ 0 [] _ (Nat.zero_add _) ⟨rfl, by unfold pows; exact .nil⟩
        · rintro i ys nx v I' oI C oC DD m₂ h tk E' hi ⟨rfl, hys⟩ ⟨tv, rfl⟩ hC hx F2 N2 off ne
          clear ne
          k_steps
          exact LCg.CompEnd.intro (by k_asm) (by k_asm) _ (fun _ h => h) off trivial ⟨rfl, pows_succ hys (by congr 1; omega)⟩
        · rintro ys nx ⟨rfl, hys⟩
          have hpl := IntsAre.length hys
          rw [pows_length] at hpl
          k_steps
          rename DatAll _ _ (namF _) => hys'
          refine Hold.go ?_
          k_dflt (refine LCg.ListComp_U (F₀ := by k_asm) (by rfl) (by decide) (by rfl) (by decide) (by rfl) ?_)
          walk1
          k_dflt (refine LCg.CompSrc.ledger (by rfl) (by k_asm) (by k_asm) (by k_mem) (by simp only [List.size_toArray, sizeLine_eq]; omega) ?_)
          intro g2
          refine comp_ind (fun i ys nx => (∀ p ∈ _, p ∈ nx) ∧ DatAll nx ys (((pows (hbit ap + 1).toNat).take i).map (rowE [x1, x2, x3, x4] [z1, z2, z3, z4]))) ?_ ?_ _ 0 [] _ (Nat.zero_add _) ⟨fun _ h => h, .nil⟩
          · rintro i zs nx v I' oI C oC DD m₂ h tk E' hi ⟨hsub, hzs⟩ hv' hC hx F2 N2 off ne
            clear ne
            obtain ⟨z, tz, rfl, hz⟩ := hys.at i v (by simpa using hv')
            have hzb := pows_bnd (by omega) hz
            have N3 : News _ _ h ((I', oI) :: (C, oC) :: (DD, LCg.lst zs) :: (_ ++ nx)) := news_tail N2 hsub
            simp only [List.cons_append, List.nil_append] at N3
            clear N2
            k_steps
            refine' compEnd_tup (by k_asm) (by k_asm) ?hs off (by omega) (by omega) (by omega) (.inr ⟨_, List.mem_cons_of_mem _ (hsub _ (by k_mem)), rfl, _, rfl⟩) ⟨fun p hp => List.mem_cons_of_mem _ (hsub p hp), rowE_one hzs hz⟩
            case hs => (repeat (refine sub_cons (by k_mem) ?_)); intro p9 h9; kst_mem
          · rintro zs nx ⟨hsub, hzs⟩
            unfold LCg.FinE; intro D6 h6 tk6 F6 N6 o6
            have N7 : News _ _ h6 ((D6, LCg.lst zs) :: (_ ++ nx)) := news_tail1 N6 hsub
            simp only [List.cons_append, List.nil_append] at N7
            clear N6
            have hplain := named3_fact (s1 := s1) (s2 := s2) (s3 := s3) (s4 := s4) (r1 := r1) (r2 := r2) (r3 := r3) (r4 := r4) ⟨hb1, hb2, hb3, hb4⟩ hsec hSp hRp
            rw [← hap] at hplain
            rw [hplain] at hys'
            rw [List.take_of_length_le (by simp only [List.size_toArray, pows_length]; omega)] at hzs
            refine kqd_ne (by k_asm) (by k_mem) rfl rfl hys' (by kqd_sub) (by k_mem) rfl rfl hzs (by kqd_sub) rowE_ok rowE_ok (by ke_room) ?_
            simp only [decide_true, Bool.not_true]
            obtain ⟨hr1, hr2, hr3, hr4⟩ := hR
            iterate 29 (first | walk1 | (dsimp only; walk1))
            rw [final3 ⟨hb1, hb2, hb3, hb4⟩ hsec hSp hRp hap]
            k_steps)

end
end Mine
theorem PySem.Challenge.cw_re0074_03_holds : PySem.Challenge.rw_re0074_03.Holds := by
  exact Mine.law_holds
