import PyProof.Rows.All
import Wide.All
import OpenK.AllK
import Wide.FinOn
import PySem.Challenge.RW_re0074_01
open PySem PySem.W PyProof.Rows
set_option Elab.async false
set_option linter.unusedVariables false
set_option linter.unusedSimpArgs false
set_option maxRecDepth 100000
set_option maxHeartbeats 8000000
namespace Mine
open PySem PySem.W PyProof.Rows PySem.Calls PySem.Spec

abbrev Led := List (Addr × Obj)

/-- at a frozen call's end: what of the old ledger the call was not handed stands as it stood -/
noncomputable def OutZ (news lit : Led) (R : Result → Shared → Prop) (r : Result) (s' : Shared) : Prop :=
  (∀ p ∈ news, p ∉ lit → s'.heap.get? p.1 = some p.2) → R r s'

theorem sub_cons {a : Addr × Obj} {l t : List (Addr × Obj)} (h : a ∈ t) (k : ∀ x ∈ l, x ∈ t) : ∀ x ∈ a :: l, x ∈ t := List.forall_mem_cons.mpr ⟨h, k⟩
theorem news_join {h₀ h h' : Heap} {L : Addr} {all lit tl news : Led} (kN : News h₀ L h' all) (hl : ∀ p ∈ lit, p ∈ all) (ht : ∀ p ∈ tl, p ∈ all)
    (hz : ∀ p ∈ news, p ∉ lit → h'.get? p.1 = some p.2) (N : News h₀ L h news) : News h₀ L h' (tl ++ news) := by
  intro p hp
  rcases List.mem_append.mp hp with hp | hp
  · exact kN p (ht p hp)
  · by_cases hn : p ∈ lit
    · exact kN p (hl p hn)
    · exact ⟨hz p hp hn, (N p hp).2⟩

theorem news_back {h₀ h h' : Heap} {L : Addr} {hd lit tl news : Led} (kN : News h₀ L h' (hd ++ (lit ++ tl))) (hz : ∀ p ∈ news, p ∉ lit → h'.get? p.1 = some p.2) (N : News h₀ L h news) :
    News h₀ L h' (hd ++ (tl ++ news)) := by
  rw [← List.append_assoc]
  refine news_join kN (fun p hp => ?_) (fun p hp => ?_) hz N
  · exact List.mem_append_right _ (List.mem_append_left _ hp)
  · rcases List.mem_append.mp hp with hp | hp
    · exact List.mem_append_left _ hp
    · exact List.mem_append_right _ (List.mem_append_right _ hp)
theorem news_cons {h₀ h h' : Heap} {L : Addr} {hd : Addr × Obj} {lit rest news : Led} (kN : News h₀ L h' (hd :: rest)) (hl : ∀ p ∈ lit, p ∈ rest) (hz : ∀ p ∈ news, p ∉ lit → h'.get? p.1 = some p.2) (N : News h₀ L h news) :
    News h₀ L h' (hd :: news) :=
  news_join (tl := [hd]) kN (fun p hp => List.mem_cons_of_mem _ (hl p hp)) (List.forall_mem_cons.mpr ⟨List.mem_cons_self, List.forall_mem_nil _⟩) hz N
theorem sub_back {lit tl news : Led} (hs : ∀ p ∈ lit, p ∈ news) : ∀ p ∈ lit ++ tl, p ∈ tl ++ news := fun p hp =>
  (List.mem_append.mp hp).elim (fun h => List.mem_append_right _ (hs p h)) fun h => List.mem_append_left _ h

theorem not_in_addrs {h : Heap} {lit : Led} {p : Addr × Obj} (hl : ∀ q ∈ lit, h.get? q.1 = some q.2) (hp : h.get? p.1 = some p.2) (hn : p ∉ lit) : p.1 ∉ lit.map (·.1) := by
  intro z
  obtain ⟨q, hq, e⟩ := List.mem_map.mp z
  have h1 := hl q hq
  rw [e, hp] at h1
  have h2 : p.2 = q.2 := Option.some.inj h1
  exact hn (by
    have : p = q := by
      exact Prod.ext e.symm h2
    rw [this]; exact hq)

section
variable {prog : Program} {w : World} {A₀ A : Around} {s : Shared} {base h₀ : Heap} {outer : List Env} {L : Addr} {m mg mb : Str → Option Value} {env : Env} {news lit : Led} {K : Frag}
  {p : Program} {loose : List Str} {mean : ExcName → Option Value}
  {R : Result → Shared → Prop} {name qual : Str} {params : Arguments} {body : List Stmt} {scope : Scope} {dV kV doc pm cdv ct oc : Value} {an od : Option Addr} {osl : Array (Option Value)} {f : Addr} {args : Args} {binds : List (Str × Value)}

theorem enterZ (B : Below A₀ base outer h₀) (F : Fr h₀ L s.heap m) (X₀ : K.In h₀) (N : News h₀ L s.heap news) (T : Top p loose mean mg mb h₀) (hsub : ∀ q ∈ lit, q ∈ news)
    (hA : A.frames = some (env :: outer)) (hf : env.frame = some L) (hke : env.scope.kind = .function)
    (ho : K.lookup f = some ⟨oc, od, .func (fnOf name qual params body scope dV kV doc pm an cdv ct), osl⟩) (hcd : codeIn K cdv qual = true) (hroom : A.depth < recursionLimit)
    (hbind : BindsTo s (fnOf name qual params body scope dV kV doc pm an cdv ct) args binds) (hloc : ∀ y ∈ binds, scope.names.lookup y.1 = some .local)
    (h : ∀ g L' h₁, Fr g L' h₁ (fun y => binds.reverse.lookup y) → News g L' h₁ lit → Below A base (env :: outer) g → K.In g → Top p loose mean mg mb g → (∀ q ∈ lit, q.1 < L') →
      wpAny (model prog w) (A.deeper (envOf qual scope L' f cdv)) (execs body (envOf qual scope L' f cdv))
        (fun fl s' => LeaveK h₀ L m g (OutZ news lit R) (match fl with | .ret v => v | _ => .none) s')
        (fun e s' => wpAny (model prog w) (A.deeper (envOf qual scope L' f cdv)) (leaving (envOf qual scope L' f cdv) e) (fun _ s'' => R (.error e) s'') (fun e' s'' => R (.error e') s'') s')
        { s with heap := h₁, toks := s.toks + binds.length })
    (hco : scope.isCoroutine = false) (hgen : scope.isGenerator = false) (hk : scope.kind = .function)
    (hcell : ∀ x ∈ scope.names, x.2 ≠ .cell) : codeAny (model prog w) A (.call (.ref f) args) R s := by
  have N₀ : News h₀ L s.heap lit := fun q hq => N q (hsub q hq)
  obtain ⟨FG, BG, st, lv⟩ := groundX (R := OutZ news lit R) B F N₀ hA hf hke
  refine codeAny_call_def (fd := fnOf name qual params body scope dV kV doc pm an cdv ct) (body := body) (binds := binds) hroom ((X₀.keeps F.keep) _ _ ho) rfl (T.nolimit.keeps F.keep) (codeRec_of (X₀.keeps F.keep) hcd) rfl hbind hcell hloc (fun h₁ hns hk₁ => ?_) hco hgen hk
  refine wpAny_mono (h _ s.heap.objs.size h₁ ⟨hns, fun b o e => hk₁ b o (of_hideAll _ e), Nat.le_of_eq (hideAll_size _ _)⟩
    (fun q hq => ⟨hk₁ _ _ (N₀ q hq).1, Nat.ne_of_lt (Heap.lt_size (N₀ q hq).1), hideAll_none _ (List.mem_map_of_mem hq)⟩) BG (X₀.keeps st) (T.keeps st) (fun q hq => Heap.lt_size (N₀ q hq).1)) (fun fl s' hl => ?_) fun _ _ y => y
  have hkeep : ∀ b o, (hideAll s.heap (lit.map (·.1))).get? b = some o → s'.heap.get? b = some o := by
    obtain ⟨L', m', news', F', _⟩ := hl
    exact F'.keep
  exact lv _ _ hl fun q hq hn => hkeep _ _ (hideAll_get _ (N q hq).1 (not_in_addrs (fun q hq => (N₀ q hq).1) (N q hq).1 hn))

theorem enterZC (B : Below A₀ base outer h₀) (F : Fr h₀ L s.heap m) (X₀ : K.In h₀) (N : News h₀ L s.heap news) (T : Top p loose mean mg mb h₀) (hsub : ∀ q ∈ lit, q ∈ news)
    (hA : A.frames = some (env :: outer)) (hf : env.frame = some L) (hke : env.scope.kind = .function)
    (ho : K.lookup f = some ⟨oc, od, .func (fnOf name qual params body scope dV kV doc pm an cdv ct), osl⟩) (hcd : codeIn K cdv qual = true) (hroom : A.depth < recursionLimit)
    (hbind : BindsTo s (fnOf name qual params body scope dV kV doc pm an cdv ct) args binds) (hkind : (binds.all fun y => scope.names.lookup y.1 == some .local || scope.names.lookup y.1 == some .cell) = true)
    (hnd : ((cellsFrom 0 scope.names []).map (·.1)).Nodup)
    (h : ∀ g L' h₁ tk cells, Fr g L' h₁ (bindL (envOfC qual scope L' f cdv).kindOf binds fun _ => none) → News g L' h₁ (cells ++ lit) →
      CellsAre (bindC (envOfC qual scope L' f cdv).kindOf binds fun _ => none) (cellsFrom (L' + 1) scope.names []) cells → Below A base (env :: outer) g → K.In g → Top p loose mean mg mb g → (∀ q ∈ lit, q.1 < L') →
      wpAny (model prog w) (A.deeper (envOfC qual scope L' f cdv)) (execs body (envOfC qual scope L' f cdv))
        (fun fl s' => LeaveK h₀ L m g (OutZ news lit R) (match fl with | .ret v => v | _ => .none) s')
        (fun e s' => wpAny (model prog w) (A.deeper (envOfC qual scope L' f cdv)) (leaving (envOfC qual scope L' f cdv) e) (fun _ s'' => R (.error e) s'') (fun e' s'' => R (.error e') s'') s')
        { s with heap := h₁, toks := tk })
    (hco : scope.isCoroutine = false) (hgen : scope.isGenerator = false) (hk : scope.kind = .function) : codeAny (model prog w) A (.call (.ref f) args) R s := by
  have N₀ : News h₀ L s.heap lit := fun q hq => N q (hsub q hq)
  obtain ⟨FG, BG, st, lv⟩ := groundX (R := OutZ news lit R) B F N₀ hA hf hke
  refine codeAny_call_function hroom ((X₀.keeps F.keep) _ _ ho) rfl hco hgen rfl (codeRec_of (X₀.keeps F.keep) hcd) (hbind _ _ _ _ ?_)
  refine wpAny_newFunctionEnv_cells hk (kindsX hkind _) fun env' he s' x => ?_
  subst he
  refine ⟨(T.nolimit.keeps F.keep).keeps x.toInCall.keep, codeAny_func ?_⟩
  obtain ⟨h₁, tk, rfl, _⟩ := x.done
  have hk₁ := x.toInCall.keep
  obtain ⟨cells, NC, Y⟩ := Cl.news (h₀ := s.heap) (Nat.le_refl _) fun n c hm => ⟨x.cell n c (lookup_of_mem_nodup (cellsFrom_names scope.names 0 (s.heap.objs.size + 1) [] [] rfl ▸ hnd) hm), x.above n c hm⟩
  refine wpAny_mono (h _ s.heap.objs.size h₁ tk cells ⟨x.toInCall.ns, fun b o e => hk₁ b o (of_hideAll _ e), Nat.le_of_eq (hideAll_size _ _)⟩ (fun q hq => ?_) Y BG (X₀.keeps st) (T.keeps st) (fun q hq => Heap.lt_size (N₀ q hq).1)) (fun fl s' hl => ?_) fun _ _ y => y
  · rcases List.mem_append.mp hq with hq | hq
    · refine ⟨(NC q hq).1, (NC q hq).2.1, ?_⟩
      cases z : (hideAll s.heap (lit.map (·.1))).get? q.1 with
      | none => rfl
      | some o => have := of_hideAll _ z; rw [(NC q hq).2.2] at this; cases this
    · exact ⟨hk₁ _ _ (N₀ q hq).1, Nat.ne_of_lt (Heap.lt_size (N₀ q hq).1), hideAll_none _ (List.mem_map_of_mem hq)⟩
  · have hkeep : ∀ b o, (hideAll s.heap (lit.map (·.1))).get? b = some o → s'.heap.get? b = some o := by
      obtain ⟨L', m', news', F', _⟩ := hl
      exact F'.keep
    exact lv _ _ hl fun q hq hn => hkeep _ _ (hideAll_get _ (N q hq).1 (not_in_addrs (fun q hq => (N₀ q hq).1) (N q hq).1 hn))

theorem item_tupI {E : Value → Shared → Prop} {value slice : Expr} {l : Addr} {vs : List Value} {c : List Int} {k : Int} {u : Tok} {Q : Value → Shared → Prop} (ht : IsTup s.heap l vs.toArray) (hI : IntsAre vs c) (h0 : 0 ≤ k) (hk : k < c.length)
    (hfit : k < 2 ^ 63) (h : ∀ t, Q (.int (c.getD k.toNat 0) t) s)
    (hs : subscripted slice false (.ref l) (.int k u) = operate [.ref l, .int k u] (getItem (.ref l) (.int k u)) := by with_unfolding_all rfl) :
    wpAny (model prog w) A (subscriptTail value slice (.ref l) (.int k u)) Q E s := by
  have hlen := hI.length
  obtain ⟨n, rfl⟩ : ∃ n : Nat, k = n := ⟨k.toNat, by omega⟩
  have hn : n < c.length := by omega
  obtain ⟨t, ht'⟩ := IntsAre.get hI (i := n) (n := c[n]) (by simp [hn])
  refine item_tupleT ht (j := n) (x := .int (c.getD n 0) t) (by omega) hfit ?_ ?_ (by simpa using h t) hs
  · have h1 : ¬ ((n : Int) < 0) := by omega
    have h2 : n < vs.length := by omega
    simp [seqIndex?, h1, h2]
  · simpa [List.getD_eq_getElem?_getD, hn] using ht'

theorem mulOk_div {k ts b : Int} (h0 : 0 ≤ k) (h1 : k < 100000) (ht : 1 ≤ ts) : IntMulOk (k.fdiv ts) b := by
  refine .of_left (intBits_le_64 ?_ ?_)
  all_goals
    have h2 : 0 ≤ k.fdiv ts := Int.fdiv_nonneg h0 (by omega)
    have h3 : k.fdiv ts ≤ k := by
      rw [Int.fdiv_eq_ediv_of_nonneg _ (by omega)]
      exact Int.ediv_le_self _ h0
    omega
end

/-- a turn's end of a loop over an iterator at I; the ledger and the names that count are told by st -/
noncomputable def TEnd {σ : Type} (h₀ : Heap) (L I : Addr) (io : Obj) (Led : σ → Led) (ps : σ → List (Str × Value)) (Inv : σ → Prop) (s₁ : Shared) (Q : Flow → Shared → Prop) (f : Flow) (s₂ : Shared) : Prop :=
  match f with
  | .ret v => Q (.ret v) s₂
  | .brk => Q .next s₂
  | _ => ∃ h' tk' m' st', s₂ = { s₁ with heap := h', toks := tk' } ∧ Fr h₀ L h' m' ∧ News h₀ L h' ((I, io) :: Led st') ∧ (∀ p ∈ Led st', p.1 ≠ I) ∧ (∀ p ∈ ps st', m' p.1 = some p.2) ∧ Inv st'

theorem TEnd.next {σ : Type} {h₀ : Heap} {L I : Addr} {io : Obj} {Led : σ → Led} {ps : σ → List (Str × Value)} {Inv : σ → Prop} {s₁ : Shared} {Q : Flow → Shared → Prop} {h' : Heap} {tk' : Nat} {m' : Str → Option Value} {all : List (Addr × Obj)} (st' : σ)
    (F : Fr h₀ L h' m') (N : News h₀ L h' all) (hs : ∀ p ∈ (I, io) :: Led st', p ∈ all) (hne : ∀ p ∈ Led st', p.1 ≠ I) (hps : ∀ p ∈ ps st', m' p.1 = some p.2) (hi : Inv st') :
    TEnd h₀ L I io Led ps Inv s₁ Q .next { s₁ with heap := h', toks := tk' } := ⟨h', tk', m', st', rfl, F, fun p hp => N p (hs p hp), hne, hps, hi⟩

theorem ne_of_cls {h₀ h : Heap} {L I : Addr} {io : Obj} {all : List (Addr × Obj)} {c : Value} {p : Addr × Obj} (N : News h₀ L h all) (hI : (I, io) ∈ all) (hp : p ∈ all) (hc : io.cls = c) (hn : p.2.cls ≠ c) : p.1 ≠ I := by
  intro e
  have h1 := (N _ hI).1
  have h2 := (N _ hp).1
  rw [e] at h2
  rw [h1] at h2
  have h3 : io = p.2 := Option.some.inj h2
  exact hn (h3 ▸ hc)

theorem ne_news {h₀ h : Heap} {L : Addr} {all : List (Addr × Obj)} {a b : Addr} {o o' : Obj} (N : News h₀ L h all) (ha : (a, o) ∈ all) (hb : (b, o') ∈ all) (hn : o.cls ≠ o'.cls) : @Ne Nat a b := by
  intro e
  have h1 := (N _ ha).1
  have h2 := (N _ hb).1
  have e' : a = b := e
  subst e'
  rw [h1] at h2
  exact hn (congrArg Obj.cls (Option.some.inj h2))

/-- a tree that the walk is to leave alone -/
noncomputable def Hold (p : Prop) : Prop := p
theorem Hold.stop {p : Prop} (h : Hold p) : p := h
theorem Hold.go {p : Prop} (h : p) : Hold p := h

theorem off1_ne {D a : Addr} {o : Obj} : ∀ {l : List (Addr × Obj)}, LCg.Off1 D l → (a, o) ∈ l → @Ne Nat a D
  | [], _, h => nomatch h
  | _ :: _, x, h => by
    rcases List.mem_cons.mp h with rfl | h
    · exact x.1
    · exact off1_ne x.2 h
theorem fmod_bnd {x n : Int} (h : 0 < n) : 0 ≤ x.fmod n ∧ x.fmod n < n := ⟨Int.fmod_nonneg_of_pos _ h, Int.fmod_lt_of_pos _ h⟩
theorem type_ne {a b : String} (h : a ≠ b) : Value.type a ≠ Value.type b := fun e => h (by injection e)

theorem fr_kstB {h₀ h : Heap} {L : Addr} {m₁ : Str → Option Value} {ps : List (Str × Value)} (hps : ∀ p ∈ ps, m₁ p.1 = some p.2) (F : Fr h₀ L h m₁) : Fr h₀ L h (kstB m₁ ps) := by
  have e : kstB m₁ ps = m₁ := funext fun z => kstB_eq hps fun _ => rfl
  rw [e]; exact F
theorem fr_kstBx {h₀ h : Heap} {L : Addr} {x : Str} {v : Value} {m₁ : Str → Option Value} {ps : List (Str × Value)} (hps : ∀ p ∈ ps, m₁ p.1 = some p.2) (F : Fr h₀ L h (fun y => if y = x then some v else m₁ y)) : Fr h₀ L h (fun y => if y = x then some v else kstB m₁ ps y) := by
  have e : kstB m₁ ps = m₁ := funext fun z => kstB_eq hps fun _ => rfl
  rw [e]; exact F

section
variable {prog : Program} {w : World} {A : Around} {E : Value → Shared → Prop} {s : Shared} {env : Env} {h₀ : Heap} {x : Str} {body : List Stmt} {Q : Flow → Shared → Prop} {m₀ : Str → Option Value}

theorem loopS {σ : Type} {I : Addr} {n : Nat} {P : Nat → Value → Prop} {St : Nat → Heap → Prop} {cls : Value} (W : Walks prog w A I [I] [I] n P St) (hSt : ∀ i h, St i h → ∃ o, h.get? I = some o ∧ o.cls = cls)
    (hIL : env.locals ≠ I) (hI₀ : h₀.get? I = none) (Led : σ → Led) (ps : σ → List (Str × Value)) (Inv : Nat → σ → Prop) (st₀ : σ) (hst : St 0 s.heap) (F : Fr h₀ env.locals s.heap m₀) (N : News h₀ env.locals s.heap (Led st₀))
    (hne : ∀ p ∈ Led st₀, p.1 ≠ I) (hps : ∀ p ∈ ps st₀, m₀ p.1 = some p.2) (h0 : Inv 0 st₀)
    (turn : ∀ i v st u h tk io, i < n → P i v → Inv i st → io.cls = cls → (∀ p ∈ Led st, p.1 ≠ I) → Fr h₀ env.locals h (fun y => if y = x then some v else kstB u (ps st) y) → News h₀ env.locals h ((I, io) :: Led st) →
      wpAny (model prog w) A (execs body env) (TEnd h₀ env.locals I io Led ps (Inv (i + 1)) { s with heap := h, toks := tk } Q) E { s with heap := h, toks := tk })
    (done : ∀ st u h tk, Inv n st → Fr h₀ env.locals h (kstB u (ps st)) → News h₀ env.locals h (Led st) → Q .next { s with heap := h, toks := tk }) :
    LoopAtV prog w A h₀ env x body Q E (.ref I) s := by
  refine ⟨I, [I], [I], n, P, St, m₀, Led st₀, fun i m nx => ∃ st, nx = Led st ∧ (∀ p ∈ ps st, m p.1 = some p.2) ∧ Inv i st, rfl, W, ?_, ?_, ?_, hst, F, N, ⟨st₀, rfl, hps, h0⟩, ?_, ?_⟩
  · intro hm; exact hIL (List.mem_singleton.mp hm)
  · intro b hb; rw [List.mem_singleton.mp hb]; exact hI₀
  · intro p hp hm; exact hne p hp (List.mem_singleton.mp hm)
  · rintro i v m₁ news₁ s₁ own ⟨h, tk, rfl⟩ hin hP ⟨st, rfl, hps', hInv⟩ hoff hown hownh hfull hst' F₁ N₁
    obtain ⟨io, hio, hcls⟩ := hSt _ _ hst'
    have hmem : (I, io) ∈ own := hfull I (List.mem_singleton.mpr rfl) hI₀ io hio
    have hoff' : ∀ p ∈ Led st, p.1 ≠ I := fun p hp e => hoff p hp (List.mem_singleton.mpr e)
    have N₂ : News h₀ env.locals h ((I, io) :: Led st) := fun p hp => by
      rcases List.mem_cons.mp hp with rfl | hp
      · exact N₁ _ (List.mem_append_left _ hmem)
      · exact N₁ _ (List.mem_append_right _ hp)
    refine wpAny_mono (turn i v st m₁ h tk io hin hP hInv hcls hoff' (fr_kstBx hps' F₁) N₂) (fun f s₂ t => ?_) fun _ _ e => e
    have fin : (∃ h' tk' m' st', s₂ = { ({ s with heap := h, toks := tk } : Shared) with heap := h', toks := tk' } ∧ Fr h₀ env.locals h' m' ∧ News h₀ env.locals h' ((I, io) :: Led st') ∧ (∀ p ∈ Led st', p.1 ≠ I) ∧ (∀ p ∈ ps st', m' p.1 = some p.2) ∧ Inv (i + 1) st') →
        LoopStepU h₀ env.locals [I] own (fun m nx => ∃ st, nx = Led st ∧ (∀ p ∈ ps st, m p.1 = some p.2) ∧ Inv (i + 1) st) { s with heap := h, toks := tk } .next s₂ := by
      rintro ⟨h', tk', m', st', rfl, F', N', hne', hps'', hi'⟩
      refine ⟨rfl, h', tk', m', Led st', rfl, F', fun p hp => ?_, fun p hp hm => hne' p hp (List.mem_singleton.mp hm), st', rfl, hps'', hi'⟩
      rcases List.mem_append.mp hp with hp | hp
      · have e1 : p.1 = I := List.mem_singleton.mp (hown p hp)
        have e2 : p.2 = io := by
          have := hownh p hp
          rw [e1] at this
          exact Option.some.inj (this.symm.trans hio)
        have e3 : p = (I, io) := Prod.ext e1 e2
        rw [e3]; exact N' _ List.mem_cons_self
      · exact N' _ (List.mem_cons_of_mem _ hp)
    cases f with
    | ret v => exact .ret t
    | brk => exact .brk t
    | next => exact .next (fin t)
    | cont => exact .cont (fin t)
  · rintro h' tk m' news' F' N' _ ⟨st, rfl, hps', hi⟩
    exact done st m' h' tk hi (fr_kstB hps' F') N'

theorem text_loop {σ : Type} {xt : Str} {tx : Tok} (ha : xt.cps.all (· < 128) = true) (hh : A.handled = none) (Led : σ → Led) (ps : σ → List (Str × Value)) (Inv : Nat → σ → Prop) (st₀ : σ)
    (F : Fr h₀ env.locals s.heap m₀) (N : News h₀ env.locals s.heap (Led st₀)) (hps : ∀ p ∈ ps st₀, m₀ p.1 = some p.2) (h0 : Inv 0 st₀)
    (turn : ∀ (I : Addr) i (c : Nat) t st u h tk io, xt.cps[i]? = some c → Inv i st → io.cls = .type "str_ascii_iterator" → (∀ p ∈ Led st, p.1 ≠ I) → Fr h₀ env.locals h (fun y => if y = x then some (.str ⟨#[c]⟩ t) else kstB u (ps st) y) → News h₀ env.locals h ((I, io) :: Led st) →
      wpAny (model prog w) A (execs body env) (TEnd h₀ env.locals I io Led ps (Inv (i + 1)) { s with heap := h, toks := tk } Q) E { s with heap := h, toks := tk })
    (done : ∀ st u h tk, Inv xt.cps.size st → Fr h₀ env.locals h (kstB u (ps st)) → News h₀ env.locals h (Led st) → Q .next { s with heap := h, toks := tk }) :
    wpAny (model prog w) A (pyIter (.str xt tx)) (fun it s₂ => LoopAtV prog w A h₀ env x body Q E it s₂) E s := by
  refine wpAny_pyIter_ascii ha ?_
  refine loopS (Walks.strAscii hh s.heap.objs.size xt tx) (cls := .type "str_ascii_iterator") (fun i h st => ?_) (Nat.ne_of_lt F.ns.lt) (next_is_new F) Led ps Inv st₀ ⟨_, Heap.get?_push_size _ rfl, rfl, rfl⟩ (F.push _)
    (fun p hp => ⟨Heap.get?_push_of_some _ (N p hp).1, (N p hp).2⟩) (fun p hp => Nat.ne_of_lt (Heap.lt_size (N p hp).1)) hps h0 ?_ done
  · obtain ⟨o, ho, hc, _⟩ := st
    exact ⟨o, ho, hc⟩
  · rintro i v st u h tk io hi ⟨c, t, hc, rfl⟩ hInv hcls hne F' N'
    exact turn _ i c t st u h tk io hc hInv hcls hne F' N'

theorem range_loop {σ : Type} {r : Addr} {a₀ b₀ : Int} {t₀ u₀ v₀ : Tok} {n : Nat} (hr : IsRange s.heap r a₀ b₀ 1 t₀ u₀ v₀) (hsmall : Builtin.Range.small a₀ b₀ 1 = true) (hn : Builtin.Range.rangeSize a₀ b₀ 1 = (n : Int)) (hh : A.handled = none) (Led : σ → Led) (ps : σ → List (Str × Value)) (Inv : Nat → σ → Prop) (st₀ : σ)
    (F : Fr h₀ env.locals s.heap m₀) (N : News h₀ env.locals s.heap (Led st₀)) (hps : ∀ p ∈ ps st₀, m₀ p.1 = some p.2) (h0 : Inv 0 st₀)
    (turn : ∀ (I : Addr) (i : Nat) t st u h tk io, i < n → Inv i st → io.cls = .type "range_iterator" → (∀ p ∈ Led st, p.1 ≠ I) → Fr h₀ env.locals h (fun y => if y = x then some (.int (a₀ + i) t) else kstB u (ps st) y) → News h₀ env.locals h ((I, io) :: Led st) →
      wpAny (model prog w) A (execs body env) (TEnd h₀ env.locals I io Led ps (Inv (i + 1)) { s with heap := h, toks := tk } Q) E { s with heap := h, toks := tk })
    (done : ∀ st u h tk, Inv n st → Fr h₀ env.locals h (kstB u (ps st)) → News h₀ env.locals h (Led st) → Q .next { s with heap := h, toks := tk }) :
    wpAny (model prog w) A (pyIter (.ref r)) (fun it s₂ => LoopAtV prog w A h₀ env x body Q E it s₂) E s := by
  refine wpAny_pyIter_range hr hsmall ?_
  refine loopS (LCg.range_walks hh a₀ n) (cls := .type "range_iterator") (fun i h st => ⟨_, st, rfl⟩) (Nat.ne_of_lt F.ns.lt) (next_is_new F) Led ps Inv st₀ (by show IsRangeIter _ _ _ _ _; rw [hn]; simpa using Heap.get?_push_size _ rfl) (F.push _)
    (fun p hp => ⟨Heap.get?_push_of_some _ (N p hp).1, (N p hp).2⟩) (fun p hp => Nat.ne_of_lt (Heap.lt_size (N p hp).1)) hps h0 ?_ done
  rintro i v st u h tk io hi ⟨t, rfl⟩ hInv hcls hne F' N'
  exact turn _ i t st u h tk io hi hInv hcls hne F' N'
end

section
open LCg LCt
variable {prog : Program} {w : World} {A : Around} {E : Value → Shared → Prop} {s : Shared} {h₀ : Heap} {L : Addr} {m : Str → Option Value} {env : Env}

theorem compEnd_mono {s₁ : Shared} {I C D : Addr} {oI oC oD : Obj} {S : Led → Prop} {rest rest' : Value → Led → Prop} {y : Value} {s₂ : Shared} (h : CompEnd h₀ L m s₁ I oI C oC D oD S rest y s₂) (hr : ∀ nx, rest y nx → rest' y nx) :
    CompEnd h₀ L m s₁ I oI C oC D oD S rest' y s₂ := by
  obtain ⟨h', tk, nx, e, F, N, o, hS, r⟩ := h
  exact ⟨h', tk, nx, e, F, N, o, hS, hr nx r⟩

theorem comp_ind {elt : Expr} {x : Str} {scope : Scope} {cl : List (Str × Addr)} {S : Led → Prop} {P : Nat → Value → Prop} {Fin : List Value → Led → Prop} {n : Nat} (Inv : Nat → List Value → Led → Prop)
    (turn : ∀ i ys nx v I oI C oC D m₂ h tk (E' : Value → Shared → Prop), i < n → Inv i ys nx → P i v → NsObj oC m₂ → m₂ x = some v → Fr h₀ L h m → News h₀ L h ((I, oI) :: (C, oC) :: (D, lst ys) :: nx) → Off3 I C D nx → ((@Ne Nat I C) ∧ (@Ne Nat I D) ∧ (@Ne Nat C D)) →
      wpAny (model prog w) A (eval elt (compEnvC scope cl C env)) (CompEnd h₀ L m { s with heap := h, toks := tk } I oI C oC D (lst ys) S (fun y nx' => Inv (i + 1) (ys ++ [y]) nx')) E' { s with heap := h, toks := tk })
    (fin : ∀ ys nx, Inv n ys nx → Fin ys nx) : ∀ k i ys nx, i + k = n → Inv i ys nx → CompRest prog w A h₀ L m env elt x scope cl s S P Fin k i ys nx := by
  intro k
  induction k with
  | zero => intro i ys nx e h; exact fin ys nx (by have : i = n := by omega
                                                   exact this ▸ h)
  | succ k ih =>
    intro i ys nx e h
    refine CompRest.succ ?_
    intro v I oI C oC D m₂ hp tk E' hP hC hx F N off ne
    refine wpAny_mono (turn i ys nx v I oI C oC D m₂ hp tk E' (by omega) h hP hC hx F N off ne) (fun y s' hq => ?_) fun _ _ e => e
    exact compEnd_mono hq fun nx' hr => ih (i + 1) (ys ++ [y]) nx' (by omega) hr

theorem compT_ind {ct elt : Expr} {x : Str} {scope : Scope} {cl : List (Str × Addr)} {S : Led → Prop} {P : Nat → Value → Prop} {Fin : List Value → Led → Prop} {n : Nat} (Inv : Nat → List Value → Led → Prop)
    (turn : ∀ i ys nx v I oI C oC D m₂ h tk (E' : Value → Shared → Prop), i < n → Inv i ys nx → P i v → NsObj oC m₂ → m₂ x = some v → Fr h₀ L h m → News h₀ L h ((I, oI) :: (C, oC) :: (D, lst ys) :: nx) → Off3 I C D nx → ((@Ne Nat I C) ∧ (@Ne Nat I D) ∧ (@Ne Nat C D)) →
      wpAny (model prog w) A (isTrue ct (compEnvC scope cl C env) (eval ct (compEnvC scope cl C env))) (fun ok s' => if ok = true then
        wpAny (model prog w) A (eval elt (compEnvC scope cl C env)) (CompEnd h₀ L m { s with heap := h, toks := tk } I oI C oC D (lst ys) S (fun y nx' => Inv (i + 1) (ys ++ [y]) nx')) E' s'
        else CompEnd h₀ L m { s with heap := h, toks := tk } I oI C oC D (lst ys) S (fun _ nx' => Inv (i + 1) ys nx') Value.none s') E' { s with heap := h, toks := tk })
    (fin : ∀ ys nx, Inv n ys nx → Fin ys nx) : ∀ k i ys nx, i + k = n → Inv i ys nx → CompRestT prog w A h₀ L m env ct elt x scope cl s S P Fin k i ys nx := by
  intro k
  induction k with
  | zero => intro i ys nx e h; exact fin ys nx (by have : i = n := by omega
                                                   exact this ▸ h)
  | succ k ih =>
    intro i ys nx e h
    refine CompRestT.succ ?_
    intro v I oI C oC D m₂ hp tk E' hP hC hx F N off ne
    refine wpAny_mono (turn i ys nx v I oI C oC D m₂ hp tk E' (by omega) h hP hC hx F N off ne) (fun ok s' hq => ?_) fun _ _ e => e
    cases ok with
    | true =>
      simp only [if_true] at hq ⊢
      exact wpAny_mono hq (fun y s'' hq' => compEnd_mono hq' fun nx' hr => ih (i + 1) (ys ++ [y]) nx' (by omega) hr) fun _ _ e => e
    | false =>
      simp only [Bool.false_eq_true, if_false] at hq ⊢
      exact compEnd_mono hq fun nx' hr => ih (i + 1) ys nx' (by omega) hr
end

theorem ints_exist : ∀ {vs : List Value}, (∀ v ∈ vs, ∃ n t, v = Value.int n t) → ∃ ms, IntsAre vs ms
  | [], _ => ⟨[], .nil⟩
  | v :: vs, h => by
    obtain ⟨n, t, rfl⟩ := h v (by simp)
    obtain ⟨ms, hm⟩ := ints_exist (vs := vs) fun u hu => h u (by simp [hu])
    exact ⟨n :: ms, .cons n t hm⟩
theorem pick_ints {vs : List Value} {ns : List Int} (hi : IntsAre vs ns) (lo hi' st : Option Int) : ∃ ms, IntsAre (slicePick vs.toArray lo hi' st).toList ms ∧ ms.length ≤ ns.length := by
  obtain ⟨ms, hm⟩ := ints_exist (vs := (slicePick vs.toArray lo hi' st).toList) fun v hv => by
    unfold slicePick at hv
    simp only [List.mem_filterMap] at hv
    obtain ⟨j, _, hj⟩ := hv
    obtain ⟨n, t, e, _⟩ := hi.at j v (by simpa using hj)
    exact ⟨n, t, e⟩
  refine ⟨ms, hm, ?_⟩
  have h1 := slicePick_size_le vs.toArray lo hi' st
  have h2 := hm.length
  have h3 := hi.length
  simp only [Array.length_toList, List.size_toArray] at h1 h2
  omega
theorem slice3_ints {prog : Program} {w : World} {A : Around} {E : Value → Shared → Prop} {s : Shared} {h₀ : Heap} {L l : Addr} {m : Str → Option Value} {news : List (Addr × Obj)} {value slice : PySem.Expr} {vs : List Value} {ns : List Int} {vl vu vk : Value} {lo hi st : Option Int} {ops : List Value} {Q : Value → Shared → Prop}
    (F : Fr h₀ L s.heap m) (N : News h₀ L s.heap news) (hl : s.heap.IsList l vs.toArray) (pl : IsPart vl lo) (pu : IsPart vu hi) (pk : IsPart vk st) (h0 : st ≠ some 0) (hi' : IntsAre vs ns)
    (h : ∀ D us ms h', Fr h₀ L h' m → News h₀ L h' ((D, W.listOf us.toArray 0) :: news) → (∀ p ∈ news, p.1 < D) → IntsAre us ms → ms.length ≤ ns.length → Q (.ref D) { s with heap := h' })
    (hs : subscripted slice false (.ref l) (.ref s.heap.objs.size) = operate ops (getItem (.ref l) (.ref s.heap.objs.size))) (ht : ∀ r, letTemporaryGo value (.ref l) r = pure ()) (hz : ns.length ≤ sizeLine) :
    wpAny (model prog w) A (subscriptTail value slice (.ref l) (.ref s.heap.objs.size)) Q E { s with heap := s.heap.push { cls := .type "slice", data := .fields #[vl, vu, vk] } } := by
  obtain ⟨ms, hm, hlen⟩ := pick_ints hi' lo hi st
  exact kmk_slice3_lit F N hl pl pu pk h0 rfl (fun D h' F' N' l1 => h D _ ms h' F' N' l1 hm hlen) hs ht (by rw [List.size_toArray, hi'.length]; exact hz)
theorem hideQ {α : Type} {M : Model} {A : Around} {t : Sem α} {Q : α → Shared → Prop} {E : Value → Shared → Prop} {s : Shared} (h : ∀ K : α → Shared → Prop, (∀ v s', Q v s' → K v s') → wpAny M A t K E s) : wpAny M A t Q E s := h Q fun _ _ h => h
theorem ints4 {us : List Value} {a b c d : Int} (h : IntsAre us [a, b, c, d]) : ∃ t1 t2 t3 t4, us = [.int a t1, .int b t2, .int c t3, .int d t4] := by
  cases h with | cons _ _ h => cases h with | cons _ _ h => cases h with | cons _ _ h => cases h with | cons _ _ h => cases h; exact ⟨_, _, _, _, rfl⟩
theorem ints3 {us : List Value} {a b c : Int} (h : IntsAre us [a, b, c]) : ∃ t1 t2 t3, us = [.int a t1, .int b t2, .int c t3] := by
  cases h with | cons _ _ h => cases h with | cons _ _ h => cases h with | cons _ _ h => cases h; exact ⟨_, _, _, rfl⟩
theorem map_cut {h₀ h : Heap} {L : Addr} {m : Str → Option Value} (ps : List (Str × Value)) {P : Prop} (F : Fr h₀ L h m) (hps : ∀ p ∈ ps, m p.1 = some p.2) (k : ∀ u, Fr h₀ L h (kstB u ps) → P) : P := k m (fr_kstB hps F)
theorem toks_cut {α : Type} {M : Model} {A : Around} {t : Sem α} {Q : α → Shared → Prop} {E : Value → Shared → Prop} {s : Shared} {h : Heap} {n : Nat} (k : ∀ n', wpAny M A t Q E { s with heap := h, toks := n' }) : wpAny M A t Q E { s with heap := h, toks := n } := k n
end Mine
namespace Mine
open_top hd for PySem.Challenge.rw_re0074_01
theorem fillLaw : hd.heap_39 = hd.heap_39 ∧ PySem.Challenge.rw_re0074_01 = PySem.Challenge.rw_re0074_01 := by
  w_top off
  k_fill
  exact ⟨rfl, rfl⟩
section
local macro_rules | `(tactic| walk_at "call builtin:len") => `(tactic| (k_here; (with_reducible show wpAny _ _ (call (Value.builtin "len") [Value.ref _]) _ _ _); k_dflt (refine' PyProof.Rows.len_tuple (News.isTup (by k_asm) (by k_mem)) (by ((simp only [List.size_toArray]); omega)) ?_)))
variable {w : World} {mean : ExcName → Option Value} {mg mb : Str → Option Value} {dp un : Nat} {gd : Option (List Code)} {cn : Str} {cs : Scope} {a : Addr} {ccd : Value} {cl : List (Str × Addr)} {outer : List Env} {A₀ : Around} {base h₀ : Heap} {L : Addr} {m : Str → Option Value} {s : Shared} {Q E : Value → Shared → Prop} {news : List (Addr × Obj)}
local macro_rules | `(tactic| walk_at "subscriptTail Name Name ref int") => `(tactic| (k_here; k_dflt (refine' item_tupI (News.isTup (by k_asm) (by k_mem)) (by assumption) (by omega) (by omega) (by omega) ?_); intro t9'))
local macro_rules | `(tactic| walk_at "binaryOp Mult int int") => `(tactic| (k_here; (with_reducible show wpAny _ _ (binaryOp Operator.Mult (Value.int (Int.fdiv _ _) _) (Value.int _ _)) _ _ _); refine PyProof.Rows.mul_int (hm := mulOk_div (by omega) (by omega) (by omega)) ?_))
local macro_rules | `(tactic| k_ne) => `(tactic| first | ((refine neN ?_); (try dsimp only); first | assumption | (refine Ne.symm ?_; assumption)) | ((refine neN ?_); (try dsimp only); first | exact off1_ne (by assumption) (by k_mem) | exact Ne.symm (off1_ne (by assumption) (by k_mem))) | (refine neN ?_; (try dsimp only); omega) | ((try dsimp only); exact ne_news (by assumption) (by k_mem) (by k_mem) (by first | exact type_ne (by decide) | (intro hh; cases hh))))
local macro_rules | `(tactic| lcg_off) => `(tactic| assumption)
local macro_rules | `(tactic| walk_at "FinE") => `(tactic| ((unfold LCg.FinE); intro D' h' tk' F' N' o1'; (try simp only [List.nil_append, List.cons_append] at N'); (try dsimp only)))
local macro_rules | `(tactic| walk_at "FinA") => `(tactic| ((unfold LCg.FinA); intro D' h' tk' F' N' o1'; (try simp only [List.nil_append, List.cons_append] at N'); (try dsimp only)))
@[irreducible] noncomputable def isb (i : Int) : Bool := if i = 0 then false else Builtin.bitAnd i (i - 1) == 0

theorem isb_spec {i : Int} {t : Tok} (B : Below A₀ base outer h₀) (F : Fr h₀ L s.heap m) (X : (hd.heap_39 w.params).In h₀) (N : News h₀ L s.heap news) (T : Top hd.view_39 (looseW hd.view_39 [Str.ofString "Whitespace"]) mean mg mb h₀) (hk : cs.kind = .function) (hdp : dp + 1 < recursionLimit) (hun : un + 8 < cLine)
    (hret : ∀ (t : Tok) h' tk', Fr h₀ L h' m → News h₀ L h' news → Q (.bool (isb i)) {s with heap := h', toks := tk'}) :
    wpAny (model PySem.Challenge.rw_re0074_01.row.prog w) (ktrTop dp un gd cn cs L a ccd cl outer) (call (.ref 94) [.int i t]) Q E s := by
  refine wpAny_call ?_
  k_dflt (refine' enterZ (lit := []) ?k1 ?k2 ?k3 ?k4 ?k5 ?ksub ?kA ?kF ?kK ?k6 ?k7 ?k8 ?k9 ?kB ?_ ?c2 ?c3 ?c4 ?c5; (case kA => exact rfl); (case kF => exact rfl); (case kK => first | assumption | exact rfl); (case k1 => k_asm); (case k2 => k_asm); (case k3 => k_asm); (case k4 => k_asm); (case k5 => k_asm); (case ksub => (first | exact List.forall_mem_nil _ | (repeat (refine sub_cons (by assumption) ?_)); exact List.forall_mem_nil _)); (case k6 => k_is); (case k7 => k_is); (case k8 => ktr_room); (case k9 => exact BindsTo.of_eq rfl); (case c5 => decide); (case kB => exact locs rfl); (case c2 => exact rfl); (case c3 => exact rfl); (case c4 => exact rfl); k_whole; intro g' L' h' F' N' B' X' T' l0; (try k_lt l0); (try dsimp only); (try k_fold))
  k_steps
  · unfold OutZ; intro hz; dsimp only
    exact cb_retB hret (by unfold isb; rw [if_pos (by assumption)]) (by k_asm) (news_join (by k_asm) (List.forall_mem_nil _) (tl := []) (List.forall_mem_nil _) hz N)
  · unfold OutZ; intro hz; dsimp only
    exact cb_retB hret (by unfold isb; rw [if_neg (by assumption)]) (by k_asm) (news_join (by k_asm) (List.forall_mem_nil _) (tl := []) (List.forall_mem_nil _) hz N)

@[irreducible] noncomputable def hbit (i : Int) : Int := (Builtin.Int.intBits i : Int) - 1

theorem hb_spec {i : Int} {t : Tok} (B : Below A₀ base outer h₀) (F : Fr h₀ L s.heap m) (X : (hd.heap_39 w.params).In h₀) (N : News h₀ L s.heap news) (T : Top hd.view_39 (looseW hd.view_39 [Str.ofString "Whitespace"]) mean mg mb h₀) (hk : cs.kind = .function) (hdp : dp + 1 < recursionLimit) (hun : un + 8 < cLine)
    (hret : ∀ (t : Tok) h' tk', Fr h₀ L h' m → News h₀ L h' news → Q (.int (hbit i) t) {s with heap := h', toks := tk'}) :
    wpAny (model PySem.Challenge.rw_re0074_01.row.prog w) (ktrTop dp un gd cn cs L a ccd cl outer) (call (.ref 101) [.int i t]) Q E s := by
  refine wpAny_call ?_
  k_dflt (refine' enterZ (lit := []) ?k1 ?k2 ?k3 ?k4 ?k5 ?ksub ?kA ?kF ?kK ?k6 ?k7 ?k8 ?k9 ?kB ?_ ?c2 ?c3 ?c4 ?c5; (case kA => exact rfl); (case kF => exact rfl); (case kK => first | assumption | exact rfl); (case k1 => k_asm); (case k2 => k_asm); (case k3 => k_asm); (case k4 => k_asm); (case k5 => k_asm); (case ksub => (first | exact List.forall_mem_nil _ | (repeat (refine sub_cons (by assumption) ?_)); exact List.forall_mem_nil _)); (case k6 => k_is); (case k7 => k_is); (case k8 => ktr_room); (case k9 => exact BindsTo.of_eq rfl); (case c5 => decide); (case kB => exact locs rfl); (case c2 => exact rfl); (case c3 => exact rfl); (case c4 => exact rfl); k_whole; intro g' L' h' F' N' B' X' T' l0; (try k_lt l0); (try dsimp only); (try k_fold))
  k_steps
  unfold OutZ; intro hz; dsimp only
  exact cb_retI hret (by unfold hbit; rfl) (by k_asm) (news_join (by k_asm) (List.forall_mem_nil _) (tl := []) (List.forall_mem_nil _) hz N)
end
section
local macro_rules | `(tactic| walk_at "call builtin:len") => `(tactic| (k_here; (with_reducible show wpAny _ _ (call (Value.builtin "len") [Value.ref _]) _ _ _); k_dflt (refine' PyProof.Rows.len_tuple (News.isTup (by k_asm) (by k_mem)) (by ((simp only [List.size_toArray]); omega)) ?_)))
variable {w : World} {mean : ExcName → Option Value} {mg mb : Str → Option Value} {dp un : Nat} {gd : Option (List Code)} {cn : Str} {cs : Scope} {a : Addr} {ccd : Value} {cl : List (Str × Addr)} {outer : List Env} {A₀ : Around} {base h₀ : Heap} {L : Addr} {m : Str → Option Value} {s : Shared} {Q E : Value → Shared → Prop} {news : List (Addr × Obj)}
local macro_rules | `(tactic| walk_at "subscriptTail Name Name ref int") => `(tactic| (k_here; k_dflt (refine' item_tupI (News.isTup (by k_asm) (by k_mem)) (by assumption) (by omega) (by omega) (by omega) ?_); intro t9'))
local macro_rules | `(tactic| walk_at "binaryOp Mult int int") => `(tactic| (k_here; (with_reducible show wpAny _ _ (binaryOp Operator.Mult (Value.int (Int.fdiv _ _) _) (Value.int _ _)) _ _ _); refine PyProof.Rows.mul_int (hm := mulOk_div (by omega) (by omega) (by omega)) ?_))
local macro_rules | `(tactic| k_ne) => `(tactic| first | ((refine neN ?_); (try dsimp only); first | assumption | (refine Ne.symm ?_; assumption)) | ((refine neN ?_); (try dsimp only); first | exact off1_ne (by assumption) (by k_mem) | exact Ne.symm (off1_ne (by assumption) (by k_mem))) | (refine neN ?_; (try dsimp only); omega) | ((try dsimp only); exact ne_news (by assumption) (by k_mem) (by k_mem) (by first | exact type_ne (by decide) | (intro hh; cases hh))))
local macro_rules | `(tactic| lcg_off) => `(tactic| assumption)
local macro_rules | `(tactic| walk_at "FinE") => `(tactic| ((unfold LCg.FinE); intro D' h' tk' F' N' o1'; (try simp only [List.nil_append, List.cons_append] at N'); (try dsimp only)))
local macro_rules | `(tactic| walk_at "FinA") => `(tactic| ((unfold LCg.FinA); intro D' h' tk' F' N' o1'; (try simp only [List.nil_append, List.cons_append] at N'); (try dsimp only)))
abbrev leadDict (w : World) (ws : Str) (c : List Int) (n nt : Int) (tn : Addr) (k1 k2 k3 k4 k5 t1 t2 t3 : Tok) : Obj :=
  dictOf [⟨PyData.keyHash w.params (Str.ofString "raw"), .str (Str.ofString "raw") k1, .str ws t1⟩,
      ⟨PyData.keyHash w.params (Str.ofString "n"), .str (Str.ofString "n") k2, .int n t2⟩,
      ⟨PyData.keyHash w.params (Str.ofString "nt"), .str (Str.ofString "nt") k3, .int nt t3⟩,
      ⟨PyData.keyHash w.params (Str.ofString "norm"), .str (Str.ofString "norm") k4, .ref tn⟩,
      ⟨PyData.keyHash w.params (Str.ofString "is_simple"), .str (Str.ofString "is_simple") k5, .bool (decide ((c.length : Int) ≤ 1))⟩] 5
abbrev tupO (l : List Value) (e : Nat) : Obj := { cls := .type "tuple", data := .seq l.toArray e }
/-- the ledger bears at x a lead whose counts are c -/
noncomputable def LeadIn (w : World) (news : List (Addr × Obj)) (x : Addr) (c : List Int) (n nt : Int) : Prop :=
  ∃ (dx tn tc : Addr) (ws : Str) (vs : List Value) (k1 k2 k3 k4 k5 t1 t2 t3 t4 : Tok) (e1 e2 : Nat),
    (x, instObj 83 dx) ∈ news ∧ (dx, leadDict w ws c n nt tn k1 k2 k3 k4 k5 t1 t2 t3) ∈ news ∧
    (tn, tupO [.ref tc, .int 0 t4] e1) ∈ news ∧ (tc, tupO vs e2) ∈ news ∧ IntsAre vs c

theorem LeadIn.mk {w : World} {news : List (Addr × Obj)} {x dx tn tc : Addr} {ws : Str} {vs : List Value} {c : List Int} {n nt : Int} {k1 k2 k3 k4 k5 t1 t2 t3 t4 : Tok} {e1 e2 : Nat} (m1 : (x, instObj 83 dx) ∈ news) (m2 : (dx, leadDict w ws c n nt tn k1 k2 k3 k4 k5 t1 t2 t3) ∈ news)
    (m3 : (tn, tupO [.ref tc, .int 0 t4] e1) ∈ news) (m4 : (tc, tupO vs e2) ∈ news) (hI : IntsAre vs c) : LeadIn w news x c n nt :=
  ⟨dx, tn, tc, ws, vs, k1, k2, k3, k4, k5, t1, t2, t3, t4, e1, e2, m1, m2, m3, m4, hI⟩
theorem LeadIn.out {w : World} {news : List (Addr × Obj)} {x : Addr} {c : List Int} {n nt : Int} {P : Prop} (h : LeadIn w news x c n nt) (k : ∀ (dx tn tc : Addr) (ws : Str) (vs : List Value) (k1 k2 k3 k4 k5 t1 t2 t3 t4 : Tok) (e1 e2 : Nat),
    (x, instObj 83 dx) ∈ news → (dx, leadDict w ws c n nt tn k1 k2 k3 k4 k5 t1 t2 t3) ∈ news → (tn, tupO [.ref tc, .int 0 t4] e1) ∈ news → (tc, tupO vs e2) ∈ news → IntsAre vs c → P) : P := by
  obtain ⟨dx, tn, tc, ws, vs, k1, k2, k3, k4, k5, t1, t2, t3, t4, e1, e2, m1, m2, m3, m4, hI⟩ := h
  exact k dx tn tc ws vs k1 k2 k3 k4 k5 t1 t2 t3 t4 e1 e2 m1 m2 m3 m4 hI
theorem LeadIn.mono {w : World} {news news' : List (Addr × Obj)} {x : Addr} {c : List Int} {n nt : Int} (h : LeadIn w news x c n nt) (hs : ∀ p ∈ news, p ∈ news') : LeadIn w news' x c n nt := by
  obtain ⟨dx, tn, tc, ws, vs, k1, k2, k3, k4, k5, t1, t2, t3, t4, e1, e2, m1, m2, m3, m4, hI⟩ := h
  exact ⟨dx, tn, tc, ws, vs, k1, k2, k3, k4, k5, t1, t2, t3, t4, e1, e2, hs _ m1, hs _ m2, hs _ m3, hs _ m4, hI⟩

@[irreducible] noncomputable def longP (c : List Int) : Int := if (0 : Int) > (c.length : Int) - 1 then 0 else (c.length : Int) - 1

theorem long_spec {x : Addr} {c : List Int} {n nt : Int} (B : Below A₀ base outer h₀) (F : Fr h₀ L s.heap m) (X : (hd.heap_39 w.params).In h₀) (N : News h₀ L s.heap news) (T : Top hd.view_39 (looseW hd.view_39 [Str.ofString "Whitespace"]) mean mg mb h₀) (hk : cs.kind = .function) (hdp : dp + 1 < recursionLimit) (hun : un + 8 < cLine)
    (hl : LeadIn w news x c n nt) (hc : c.length < 1000)
    (hret : ∀ t h' tk', Fr h₀ L h' m → News h₀ L h' news → Q (.int (longP c) t) {s with heap := h', toks := tk'}) :
    wpAny (model PySem.Challenge.rw_re0074_01.row.prog w) (ktrTop dp un gd cn cs L a ccd cl outer) (call (.ref 45) [.ref x]) Q E s := by
  refine hl.out ?_
  intro dx tn tc ws vs k1 k2 k3 k4 k5 t1 t2 t3 t4 e1 e2 m1 m2 m3 m4 hI
  have hlen := IntsAre.length hI
  refine wpAny_call ?_
  k_dflt (refine' enterZ (lit := [(x, instObj 83 dx), (dx, leadDict w ws c n nt tn k1 k2 k3 k4 k5 t1 t2 t3), (tn, tupO [.ref tc, .int 0 t4] e1), (tc, tupO vs e2)]) ?k1 ?k2 ?k3 ?k4 ?k5 ?ksub ?kA ?kF ?kK ?k6 ?k7 ?k8 ?k9 ?kB ?_ ?c2 ?c3 ?c4 ?c5; (case kA => exact rfl); (case kF => exact rfl); (case kK => first | assumption | exact rfl); (case k1 => k_asm); (case k2 => k_asm); (case k3 => k_asm); (case k4 => k_asm); (case k5 => k_asm); (case ksub => (first | exact List.forall_mem_nil _ | (repeat (refine sub_cons (by assumption) ?_)); exact List.forall_mem_nil _)); (case k6 => k_is); (case k7 => k_is); (case k8 => ktr_room); (case k9 => exact BindsTo.of_eq rfl); (case c5 => decide); (case kB => exact locs rfl); (case c2 => exact rfl); (case c3 => exact rfl); (case c4 => exact rfl); k_whole; intro g' L' h' F' N' B' X' T' l0; (try k_lt l0); (try dsimp only); (try k_fold))
  k_steps
  unfold OutZ; intro hz; dsimp only
  exact cb_retI hret (by unfold longP; simp only [List.size_toArray, hlen]) (by k_asm) (news_join (by k_asm) (fun _ h => h) (tl := []) (List.forall_mem_nil _) hz N)

noncomputable def ilsum (c : List Int) (ts : Int) (pre : List Int) : Int := (pre.map fun i => Int.fdiv i ts * c.getD i.toNat 0).sum
theorem ilsum_snoc {c : List Int} {ts il : Int} {pre : List Int} {k : Int} (h : il = ilsum c ts pre) : il + Int.fdiv k ts * c.getD k.toNat 0 = ilsum c ts (pre ++ [k]) := by
  subst h; simp [ilsum]
/-- indent_level -/
@[irreducible] noncomputable def ilP (c : List Int) (nt ts : Int) : Int := 0 + ts * (ilsum c ts (rangeKs ts ((c.length : Int) - ts).toNat) + nt)

theorem il_spec {x : Addr} {c : List Int} {n nt ts : Int} {tt : Tok} (B : Below A₀ base outer h₀) (F : Fr h₀ L s.heap m) (X : (hd.heap_39 w.params).In h₀) (N : News h₀ L s.heap news) (T : Top hd.view_39 (looseW hd.view_39 [Str.ofString "Whitespace"]) mean mg mb h₀) (hk : cs.kind = .function) (hdp : dp + 1 < recursionLimit) (hun : un + 8 < cLine)
    (hl : LeadIn w news x c n nt) (hc : c.length < 1000) (hts : 1 ≤ ts) (hts2 : ts < 1000)
    (hret : ∀ t h' tk', Fr h₀ L h' m → News h₀ L h' news → Q (.int (ilP c nt ts) t) {s with heap := h', toks := tk'}) :
    wpAny (model PySem.Challenge.rw_re0074_01.row.prog w) (ktrTop dp un gd cn cs L a ccd cl outer) (call (.ref 52) [.ref x, .int ts tt]) Q E s := by
  refine hl.out ?_
  intro dx tn tc ws vs k1 k2 k3 k4 k5 t1 t2 t3 t4 e1 e2 m1 m2 m3 m4 hI
  have hlen := IntsAre.length hI
  refine wpAny_call ?_
  k_dflt (refine' enterZ (lit := [(x, instObj 83 dx), (dx, leadDict w ws c n nt tn k1 k2 k3 k4 k5 t1 t2 t3), (tn, tupO [.ref tc, .int 0 t4] e1), (tc, tupO vs e2)]) ?k1 ?k2 ?k3 ?k4 ?k5 ?ksub ?kA ?kF ?kK ?k6 ?k7 ?k8 ?k9 ?kB ?_ ?c2 ?c3 ?c4 ?c5; (case kA => exact rfl); (case kF => exact rfl); (case kK => first | assumption | exact rfl); (case k1 => k_asm); (case k2 => k_asm); (case k3 => k_asm); (case k4 => k_asm); (case k5 => k_asm); (case ksub => (first | exact List.forall_mem_nil _ | (repeat (refine sub_cons (by assumption) ?_)); exact List.forall_mem_nil _)); (case k6 => k_is); (case k7 => k_is); (case k8 => ktr_room); (case k9 => exact BindsTo.of_eq rfl); (case c5 => decide); (case kB => exact locs rfl); (case c2 => exact rfl); (case c3 => exact rfl); (case c4 => exact rfl); k_whole; intro g' L' h' F' N' B' X' T' l0; (try k_lt l0); (try dsimp only); (try k_fold))
  refine hideQ ?_
  intro K hK
  k_with "pyIter ref" => k_state (fun pre il => il = ilsum c ts pre) "il"
  k_with "state" => first | exact ilsum_snoc (by assumption) | (simp only [ilsum, List.map_nil, List.sum_nil]; done)
  k_steps
  refine hK _ _ ?_
  k_steps
  unfold OutZ; intro hz; dsimp only
  exact cb_retI hret (by unfold ilP; rw [kInv]) (by k_asm) (news_join (by k_asm) (fun _ h => h) (tl := []) (List.forall_mem_nil _) hz N)
end
section
local macro_rules | `(tactic| walk_at "call builtin:len") => `(tactic| (k_here; (with_reducible show wpAny _ _ (call (Value.builtin "len") [Value.ref _]) _ _ _); k_dflt (refine' PyProof.Rows.len_tuple (News.isTup (by k_asm) (by k_mem)) (by ((simp only [List.size_toArray]); omega)) ?_)))
variable {w : World} {mean : ExcName → Option Value} {mg mb : Str → Option Value} {dp un : Nat} {gd : Option (List Code)} {cn : Str} {cs : Scope} {a : Addr} {ccd : Value} {cl : List (Str × Addr)} {outer : List Env} {A₀ : Around} {base h₀ : Heap} {L : Addr} {m : Str → Option Value} {s : Shared} {Q E : Value → Shared → Prop} {news : List (Addr × Obj)}
local macro_rules | `(tactic| walk_at "subscriptTail Name Name ref int") => `(tactic| (k_here; k_dflt (refine' item_tupI (News.isTup (by k_asm) (by k_mem)) (by assumption) (by omega) (by omega) (by omega) ?_); intro t9'))
local macro_rules | `(tactic| walk_at "binaryOp Mult int int") => `(tactic| (k_here; (with_reducible show wpAny _ _ (binaryOp Operator.Mult (Value.int (Int.fdiv _ _) _) (Value.int _ _)) _ _ _); refine PyProof.Rows.mul_int (hm := mulOk_div (by omega) (by omega) (by omega)) ?_))
local macro_rules | `(tactic| k_ne) => `(tactic| first | ((refine neN ?_); (try dsimp only); first | assumption | (refine Ne.symm ?_; assumption)) | ((refine neN ?_); (try dsimp only); first | exact off1_ne (by assumption) (by k_mem) | exact Ne.symm (off1_ne (by assumption) (by k_mem))) | (refine neN ?_; (try dsimp only); omega) | ((try dsimp only); exact ne_news (by assumption) (by k_mem) (by k_mem) (by first | exact type_ne (by decide) | (intro hh; cases hh))))
local macro_rules | `(tactic| lcg_off) => `(tactic| assumption)
local macro_rules | `(tactic| walk_at "FinE") => `(tactic| ((unfold LCg.FinE); intro D' h' tk' F' N' o1'; (try simp only [List.nil_append, List.cons_append] at N'); (try dsimp only)))
local macro_rules | `(tactic| walk_at "FinA") => `(tactic| ((unfold LCg.FinA); intro D' h' tk' F' N' o1'; (try simp only [List.nil_append, List.cons_append] at N'); (try dsimp only)))
local macro_rules | `(tactic| walk_at "call ref") => `(tactic| (k_here; (try dsimp only [List.cons_append, List.nil_append, List.append_nil]); first | ((with_reducible show wpAny _ _ (call (Value.ref 52) _) _ _ _); k_dflt (refine' il_spec (by k_asm) (by k_asm) (by k_asm) (by k_asm) (by k_asm) (by first | assumption | exact rfl) (by ktr_room) (by ktr_units) (LeadIn.mk (by k_mem) (by k_mem) (by k_mem) (by k_mem) (by assumption)) (by assumption) (by omega) (by omega) ?_); intros; (try dsimp only)) | ((with_reducible show wpAny _ _ (call (Value.ref 45) _) _ _ _); k_dflt (refine' long_spec (by k_asm) (by k_asm) (by k_asm) (by k_asm) (by k_asm) (by first | assumption | exact rfl) (by ktr_room) (by ktr_units) (LeadIn.mk (by k_mem) (by k_mem) (by k_mem) (by k_mem) (by assumption)) (by first | assumption | omega) ?_); intros; (try dsimp only))))
noncomputable def rowD (c1 : List Int) (nt1 : Int) (c2 : List Int) (nt2 : Int) (ts : Int) : Dat := .tuple [.int ts, .int (ilP c1 nt1 ts), .int (ilP c2 nt2 ts)]
/-- what not_equal_witness names of the sizes pre -/
@[irreducible] noncomputable def rowsP (c1 : List Int) (nt1 : Int) (c2 : List Int) (nt2 : Int) (pre : List Int) : List Dat :=
  (pre.filter fun ts => ilP c1 nt1 ts != ilP c2 nt2 ts).map (rowD c1 nt1 c2 nt2)

/-- not_equal_witness -/
@[irreducible] noncomputable def namedP (c1 : List Int) (nt1 : Int) (c2 : List Int) (nt2 : Int) : List Dat :=
  rowsP c1 nt1 c2 nt2 (rangeKs 1 ((if longP c2 > longP c1 then longP c2 else longP c1) + 1 + 1 - 1).toNat)
theorem rows_snoc1 {c d : List Int} {nt nt2 k : Int} {pre : List Int} (h : (rowsP c nt d nt2 pre).length ≤ pre.length) (hne : ilP c nt k ≠ ilP d nt2 k) :
    (rowsP c nt d nt2 pre ++ [Dat.tuple [Dat.int k, Dat.int (ilP c nt k), Dat.int (ilP d nt2 k)]]).length ≤ (pre ++ [k]).length ∧ rowsP c nt d nt2 pre ++ [Dat.tuple [Dat.int k, Dat.int (ilP c nt k), Dat.int (ilP d nt2 k)]] = rowsP c nt d nt2 (pre ++ [k]) := by
  refine ⟨by simp only [List.length_append, List.length_singleton]; omega, ?_⟩
  simp [rowsP, rowD, List.filter_append, hne]
theorem rows_snoc0 {c d : List Int} {nt nt2 k : Int} {pre : List Int} (h : (rowsP c nt d nt2 pre).length ≤ pre.length) (hne : ilP c nt k = ilP d nt2 k) :
    (rowsP c nt d nt2 pre).length ≤ (pre ++ [k]).length ∧ rowsP c nt d nt2 pre = rowsP c nt d nt2 (pre ++ [k]) := by
  refine ⟨by simp only [List.length_append, List.length_singleton]; omega, ?_⟩
  simp [rowsP, List.filter_append, hne]
theorem rows_nil {c d : List Int} {nt nt2 : Int} : ([] : List Dat).length ≤ ([] : List Int).length ∧ ([] : List Dat) = rowsP c nt d nt2 [] := ⟨Nat.le_refl _, by unfold rowsP; rfl⟩

theorem new_spec {x y : Addr} {c d : List Int} {n nt n2 nt2 : Int} (B : Below A₀ base outer h₀) (F : Fr h₀ L s.heap m) (X : (hd.heap_39 w.params).In h₀) (N : News h₀ L s.heap news) (T : Top hd.view_39 (looseW hd.view_39 [Str.ofString "Whitespace"]) mean mg mb h₀) (hk : cs.kind = .function) (hdp : dp + 2 < recursionLimit) (hun : un + 20 < cLine)
    (hl : LeadIn w news x c n nt) (hl2 : LeadIn w news y d n2 nt2) (hc : c.length < 100) (hd : d.length < 100)
    (hret : ∀ ra us k tl h' tk', Fr h₀ L h' m → News h₀ L h' ((ra, W.listOf us.toArray k) :: (tl ++ news)) → DatAll (tl ++ news) us (namedP c nt d nt2) → Q (.ref ra) {s with heap := h', toks := tk'}) :
    wpAny (model PySem.Challenge.rw_re0074_01.row.prog w) (ktrTop dp un gd cn cs L a ccd cl outer) (call (.ref 66) [.ref x, .ref y]) Q E s := by
  refine hl.out ?_
  intro dx tn tc ws vs k1 k2 k3 k4 k5 t1 t2 t3 t4 e1 e2 m1 m2 m3 m4 hI
  refine hl2.out ?_
  intro dy un1 uc ws' us k1' k2' k3' k4' k5' t1' t2' t3' t4' e1' e2' m1' m2' m3' m4' hI'
  have hlen := IntsAre.length hI
  have hlen' := IntsAre.length hI'
  have hc' : c.length < 1000 := by omega
  have hb1 : 0 ≤ longP c ∧ longP c < 100 := by unfold longP; split <;> omega
  have hb2 : 0 ≤ longP d ∧ longP d < 100 := by unfold longP; split <;> omega
  have hd' : d.length < 1000 := by omega
  refine wpAny_call ?_
  k_dflt (refine' enterZ (lit := [(x, instObj 83 dx), (dx, leadDict w ws c n nt tn k1 k2 k3 k4 k5 t1 t2 t3), (tn, tupO [.ref tc, .int 0 t4] e1), (tc, tupO vs e2), (y, instObj 83 dy), (dy, leadDict w ws' d n2 nt2 un1 k1' k2' k3' k4' k5' t1' t2' t3'), (un1, tupO [.ref uc, .int 0 t4'] e1'), (uc, tupO us e2')]) ?k1 ?k2 ?k3 ?k4 ?k5 ?ksub ?kA ?kF ?kK ?k6 ?k7 ?k8 ?k9 ?kB ?_ ?c2 ?c3 ?c4 ?c5; (case kA => exact rfl); (case kF => exact rfl); (case kK => first | assumption | exact rfl); (case k1 => k_asm); (case k2 => k_asm); (case k3 => k_asm); (case k4 => k_asm); (case k5 => k_asm); (case ksub => (first | exact List.forall_mem_nil _ | (repeat (refine sub_cons (by assumption) ?_)); exact List.forall_mem_nil _)); (case k6 => k_is); (case k7 => k_is); (case k8 => ktr_room); (case k9 => exact BindsTo.of_eq rfl); (case c5 => decide); (case kB => exact locs rfl); (case c2 => exact rfl); (case c3 => exact rfl); (case c4 => exact rfl); k_whole; intro g' L' h' F' N' B' X' T' l0; (try k_lt l0); (try dsimp only); (try k_fold))
  k_with_none
  k_with "pyIter ref" => k_dat (fun pre out => out.length ≤ pre.length ∧ out = rowsP c nt d nt2 pre) "a*"
  k_with "state" => first | exact rows_nil | exact rows_snoc1 (by assumption) (by assumption) | exact rows_snoc0 (by assumption) (by assumption)
  refine hideQ ?_
  intro K hK
  k_steps
  refine hK _ _ ?_
  k_steps
  unfold OutZ; intro hz; dsimp only
  rename DatAll _ _ _ => hD
  rename News h₀ L _ (_ :: _) => hN
  have hsub : ∀ p ∈ [(x, instObj 83 dx), (dx, leadDict w ws c n nt tn k1 k2 k3 k4 k5 t1 t2 t3), (tn, tupO [.ref tc, .int 0 t4] e1), (tc, tupO vs e2), (y, instObj 83 dy), (dy, leadDict w ws' d n2 nt2 un1 k1' k2' k3' k4' k5' t1' t2' t3'), (un1, tupO [.ref uc, .int 0 t4'] e1'), (uc, tupO us e2')], p ∈ news := by
    repeat (refine List.forall_mem_cons.mpr ⟨by assumption, ?_⟩)
    exact List.forall_mem_nil _
  refine hret _ _ _ kTl _ _ (by k_asm) (news_back (hd := [_]) (lit := [_, _, _, _, _, _, _, _]) hN hz N) ?_
  unfold namedP
  exact DatAll.mono (sub_back (lit := [_, _, _, _, _, _, _, _]) hsub) hD
end
section
local macro_rules | `(tactic| walk_at "call builtin:len") => `(tactic| (k_here; (with_reducible show wpAny _ _ (call (Value.builtin "len") [Value.ref _]) _ _ _); k_dflt (refine' PyProof.Rows.len_tuple (News.isTup (by k_asm) (by k_mem)) (by ((simp only [List.size_toArray]); omega)) ?_)))
variable {w : World} {mean : ExcName → Option Value} {mg mb : Str → Option Value} {dp un : Nat} {gd : Option (List Code)} {cn : Str} {cs : Scope} {a : Addr} {ccd : Value} {cl : List (Str × Addr)} {outer : List Env} {A₀ : Around} {base h₀ : Heap} {L : Addr} {m : Str → Option Value} {s : Shared} {Q E : Value → Shared → Prop} {news : List (Addr × Obj)}
local macro_rules | `(tactic| walk_at "subscriptTail Name Name ref int") => `(tactic| (k_here; k_dflt (refine' item_tupI (News.isTup (by k_asm) (by k_mem)) (by assumption) (by omega) (by omega) (by omega) ?_); intro t9'))
local macro_rules | `(tactic| walk_at "binaryOp Mult int int") => `(tactic| (k_here; (with_reducible show wpAny _ _ (binaryOp Operator.Mult (Value.int (Int.fdiv _ _) _) (Value.int _ _)) _ _ _); refine PyProof.Rows.mul_int (hm := mulOk_div (by omega) (by omega) (by omega)) ?_))
local macro_rules | `(tactic| k_ne) => `(tactic| first | ((refine neN ?_); (try dsimp only); first | assumption | (refine Ne.symm ?_; assumption)) | ((refine neN ?_); (try dsimp only); first | exact off1_ne (by assumption) (by k_mem) | exact Ne.symm (off1_ne (by assumption) (by k_mem))) | (refine neN ?_; (try dsimp only); omega) | ((try dsimp only); exact ne_news (by assumption) (by k_mem) (by k_mem) (by first | exact type_ne (by decide) | (intro hh; cases hh))))
local macro_rules | `(tactic| lcg_off) => `(tactic| assumption)
local macro_rules | `(tactic| walk_at "FinE") => `(tactic| ((unfold LCg.FinE); intro D' h' tk' F' N' o1'; (try simp only [List.nil_append, List.cons_append] at N'); (try dsimp only)))
local macro_rules | `(tactic| walk_at "FinA") => `(tactic| ((unfold LCg.FinA); intro D' h' tk' F' N' o1'; (try simp only [List.nil_append, List.cons_append] at N'); (try dsimp only)))
set_option genSizeOf false in
set_option genInjectivity false in
structure WS where
  ca : Addr
  vs : List Value
  k : Nat
  c : List Int
  b : Int
  n : Int
  nt : Int
  tb : Tok
  tn : Tok
  tt : Tok
  sS : Tok
  sT : Tok
/-- one run of b blanks and its tab more -/
@[irreducible] noncomputable def incAt (c : List Int) (b : Int) : List Int :=
  if b ≥ (c.length : Int) then (c ++ List.replicate (b - c.length + 1).toNat 0).set b.toNat ((c ++ List.replicate (b - c.length + 1).toNat 0).getD b.toNat 0 + 1) else c.set b.toNat (c.getD b.toNat 0 + 1)
noncomputable def wsStep (st : List Int × Int × Int × Int) (code : Nat) : List Int × Int × Int × Int :=
  if code = 32 then (st.1, st.2.1 + 1, st.2.2.1 + 1, st.2.2.2) else (incAt st.1 st.2.1, 0, st.2.2.1 + 1, st.2.2.2 + 1)
noncomputable def WSInv (ws : Str) (i : Nat) (st : WS) : Prop :=
  IntsAre st.vs st.c ∧ (ws.cps.toList.take i).foldl wsStep ([], 0, 0, 0) = (st.c, st.b, st.n, st.nt) ∧ 0 ≤ st.b ∧ st.b ≤ i ∧ st.c.length ≤ i ∧ i ≤ ws.cps.size

theorem take_succ_code {ws : Str} {i code : Nat} (hcode : ws.cps[i]? = some code) : ws.cps.toList.take (i + 1) = ws.cps.toList.take i ++ [code] := by
  rw [List.take_add_one]
  have : ws.cps.toList[i]? = some code := by simpa using hcode
  rw [this]; rfl
theorem size_of_code {ws : Str} {i code : Nat} (hcode : ws.cps[i]? = some code) : i + 1 ≤ ws.cps.size := (Array.getElem?_eq_some_iff.mp hcode).1
theorem ws_blank {ws : Str} {i : Nat} {ca : Addr} {vs : List Value} {k : Nat} {c : List Int} {b n nt : Int} {t1 t2 t3 t4 t5 : Tok} (hI : IntsAre vs c) (hfold : (ws.cps.toList.take i).foldl wsStep ([], 0, 0, 0) = (c, b, n, nt)) (hb0 : 0 ≤ b) (hbi : b ≤ i) (hci : c.length ≤ i)
    (hcode : ws.cps[i]? = some 32) : WSInv ws (i + 1) ⟨ca, vs, k, c, b + 1, n + 1, nt, t1, t2, t3, t4, t5⟩ := by
  refine ⟨hI, ?_, ?_, ?_, ?_, size_of_code hcode⟩
  · rw [take_succ_code hcode, List.foldl_append, hfold]; rfl
  · dsimp only; omega
  · dsimp only; omega
  · dsimp only; omega
theorem incAt_length {c : List Int} {b : Int} (h : 0 ≤ b) : (incAt c b).length = max c.length (b.toNat + 1) := by
  unfold incAt
  split
  · rw [List.length_set, List.length_append, List.length_replicate]; omega
  · rw [List.length_set]; omega
theorem ws_tab {ws : Str} {i : Nat} {ca : Addr} {vs : List Value} {k : Nat} {c : List Int} {b n nt : Int} {t1 t2 t3 t4 t5 : Tok} (hI : IntsAre vs (incAt c b)) (hfold : (ws.cps.toList.take i).foldl wsStep ([], 0, 0, 0) = (c, b, n, nt)) (hb0 : 0 ≤ b) (hbi : b ≤ i) (hci : c.length ≤ i)
    (hcode : ws.cps[i]? = some 9) : WSInv ws (i + 1) ⟨ca, vs, k, incAt c b, 0, n + 1, nt + 1, t1, t2, t3, t4, t5⟩ := by
  refine ⟨hI, ?_, ?_, ?_, ?_, size_of_code hcode⟩
  · rw [take_succ_code hcode, List.foldl_append, hfold]; rfl
  · exact Int.le_refl _
  · dsimp only; omega
  · dsimp only; rw [incAt_length hb0]; omega
theorem flat_rep (k : Nat) : (List.replicate k [(0 : Int)]).flatten = List.replicate k 0 := by
  induction k with
  | zero => rfl
  | succ k ih => rw [List.replicate_succ, List.flatten_cons, ih, List.replicate_succ]; rfl
theorem incAt_long {vs : List Value} {c : List Int} {b : Int} (h : (c.length : Int) ≤ b) (hI : IntsAre vs ((c ++ (List.replicate (b - c.length + 1).toNat [(0 : Int)]).flatten).set b.toNat ((c ++ (List.replicate (b - c.length + 1).toNat [(0 : Int)]).flatten).getD b.toNat 0 + 1))) : IntsAre vs (incAt c b) := by
  unfold incAt
  rw [if_pos h]
  rw [flat_rep] at hI
  exact hI
theorem incAt_short {vs : List Value} {c : List Int} {b : Int} (h : ¬ (c.length : Int) ≤ b) (hI : IntsAre vs (c.set b.toNat (c.getD b.toNat 0 + 1))) : IntsAre vs (incAt c b) := by
  unfold incAt
  rw [if_neg h]
  exact hI

theorem make_spec {ws : Str} {t : Tok} (B : Below A₀ base outer h₀) (F : Fr h₀ L s.heap m) (X : (hd.heap_39 w.params).In h₀) (N : News h₀ L s.heap news) (T : Top hd.view_39 (looseW hd.view_39 [Str.ofString "Whitespace"]) mean mg mb h₀) (hk : cs.kind = .function) (hdp : dp + 4 < recursionLimit) (hun : un + 20 < cLine)
    (hcodes : ∀ code ∈ ws.cps.toList, code = 32 ∨ code = 9) (hws : ws.cps.size < 1000)
    {c₀ : List Int} {n₀ nt₀ : Int} (hfin : ws.cps.toList.foldl wsStep ([], 0, 0, 0) = (c₀, 0, n₀, nt₀))
    (hret : ∀ x dx tn tc vs k1 k2 k3 k4 k5 t1 t2 t3 t4 e1 e2 h' tk', Fr h₀ L h' m → News h₀ L h' ((x, instObj 83 dx) :: (dx, leadDict w ws c₀ n₀ nt₀ tn k1 k2 k3 k4 k5 t1 t2 t3) :: (tn, tupO [.ref tc, .int 0 t4] e1) :: (tc, tupO vs e2) :: news) → IntsAre vs c₀ → c₀.length ≤ ws.cps.size → Q (.ref x) {s with heap := h', toks := tk'}) :
    wpAny (model PySem.Challenge.rw_re0074_01.row.prog w) (ktrTop dp un gd cn cs L a ccd cl outer) (call (.ref 83) [.str ws t]) Q E s := by
  have hascii : ws.cps.all (· < 128) = true := by
    rw [← Array.all_toList, List.all_eq_true]
    intro c hc
    rcases hcodes c hc with rfl | rfl <;> rfl
  k_with_none
  k_dflt (refine' call_cls ?k1 ?k2 ?k3 ?k4 ?k5 ?k6 ?_; (case k1 => k_asm); (case k2 => k_asm); (case k3 => k_asm); (case k4 => k_is); (case k5 => k_is); (case k6 => k_is); k_whole)
  intro x dx h1 F1 N1 l1 l2
  k_lt2 l2
  have m1 : (x, instObj 83 dx) ∈ (x, instObj 83 dx) :: (dx, dictOf [] 0) :: news := by k_mem
  have m2 : (dx, dictOf [] 0) ∈ (x, instObj 83 dx) :: (dx, dictOf [] 0) :: news := by k_mem
  k_dflt (refine' enterZ (lit := [(x, instObj 83 dx), (dx, dictOf [] 0)]) ?k1 ?k2 ?k3 ?k4 ?k5 ?ksub ?kA ?kF ?kK ?k6 ?k7 ?k8 ?k9 ?kB ?_ ?c2 ?c3 ?c4 ?c5; (case kA => exact rfl); (case kF => exact rfl); (case kK => first | assumption | exact rfl); (case k1 => k_asm); (case k2 => k_asm); (case k3 => k_asm); (case k4 => k_asm); (case k5 => k_asm); (case ksub => (first | exact List.forall_mem_nil _ | (repeat (refine sub_cons (by assumption) ?_)); exact List.forall_mem_nil _)); (case k6 => k_is); (case k7 => k_is); (case k8 => ktr_room); (case k9 => exact BindsTo.of_eq rfl); (case c5 => decide); (case kB => exact locs rfl); (case c2 => exact rfl); (case c3 => exact rfl); (case c4 => exact rfl); k_whole; intro g' L' h' F' N' B' X' T' l0; (try k_lt l0); (try dsimp only); (try k_fold))
  k_steps
  rename News g' L' _ _ => hN
  obtain ⟨kt, hN1⟩ : ∃ kt, News g' L' _ [(_, W.listOf ([] : List Value).toArray 0), (x, instObj 83 dx), (dx, dictOf [⟨PyData.keyHash w.params (Str.ofString "raw"), .str (Str.ofString "raw") kt, .str ws t⟩] 1)] :=
    ⟨_, fun p hp => hN p (by revert p; refine List.forall_mem_cons.mpr ⟨by k_mem, List.forall_mem_cons.mpr ⟨by k_mem, sub_cons (by k_mem) (List.forall_mem_nil _)⟩⟩)⟩
  clear hN
  refine' text_loop (σ := WS) hascii rfl (fun st => [(st.ca, W.listOf st.vs.toArray st.k), (x, instObj 83 dx), (dx, dictOf [⟨PyData.keyHash w.params (Str.ofString "raw"), .str (Str.ofString "raw") kt, .str ws t⟩] 1)])
    (fun st => [(Str.ofString "count", .ref st.ca), (Str.ofString "b", .int st.b st.tb), (Str.ofString "n", .int st.n st.tn), (Str.ofString "nt", .int st.nt st.tt), (Str.ofString "self", .ref x), (Str.ofString "S", .str (Str.ofString " ") st.sS), (Str.ofString "T", .str (Str.ofString "\t") st.sT)])
    (fun i st => WSInv ws i st ∧ @LT.lt Nat _ x st.ca ∧ @LT.lt Nat _ dx st.ca) ⟨_, [], 0, [], 0, 0, 0, _, _, _, _, _⟩ (by k_asm) hN1 ?hps ⟨⟨.nil, rfl, Int.le_refl _, Int.le_refl _, Nat.le_refl _, Nat.zero_le _⟩, (by dsimp only; omega), (by dsimp only; omega)⟩ ?turn ?done
  case hps => kst_all
  case turn =>
    intro I i code tc st u h tk io hcode hinv hcls hne F2 N2
    have hI : IntsAre st.vs st.c := hinv.1.1
    have hfold : (ws.cps.toList.take i).foldl wsStep ([], 0, 0, 0) = (st.c, st.b, st.n, st.nt) := hinv.1.2.1
    have hb0 : 0 ≤ st.b := hinv.1.2.2.1
    have hbi : st.b ≤ i := hinv.1.2.2.2.1
    have hci : st.c.length ≤ i := hinv.1.2.2.2.2.1
    have his : i ≤ ws.cps.size := hinv.1.2.2.2.2.2
    have hx1 : @LT.lt Nat _ x st.ca := hinv.2.1
    have hx2 : @LT.lt Nat _ dx st.ca := hinv.2.2
    clear hinv
    (try dsimp only at hne F2 N2)
    have hca : @Ne Nat st.ca I := hne (st.ca, W.listOf st.vs.toArray st.k) (by k_mem)
    have hxI : @Ne Nat x I := hne (x, instObj 83 dx) (by k_mem)
    have hdI : @Ne Nat dx I := hne (dx, dictOf [⟨PyData.keyHash w.params (Str.ofString "raw"), .str (Str.ofString "raw") kt, .str ws t⟩] 1) (by k_mem)
    have hlen := IntsAre.length hI
    refine hideQ ?_
    intro K hK
    rcases hcodes code (by simpa using Array.mem_of_getElem? hcode) with rfl | rfl
    · k_steps
      refine hK _ _ ?_
      refine' TEnd.next (⟨_, _, _, st.c, st.b + 1, st.n + 1, st.nt, _, _, _, _, _⟩ : WS) (by k_asm) (by k_asm) ?h1 ?h2 ?h3 ?h4
      case h1 => dsimp only; (repeat (refine sub_cons (by k_mem) ?_)); exact List.forall_mem_nil _
      case h2 => dsimp only; (repeat (refine List.forall_mem_cons.mpr ⟨by k_ne, ?_⟩)); exact List.forall_mem_nil _
      case h3 => kst_all
      case h4 => exact ⟨ws_blank hI hfold hb0 hbi hci hcode, hx1, hx2⟩
    · k_steps
      · refine hK _ _ ?_
        refine' TEnd.next (⟨_, _, _, incAt st.c st.b, 0, st.n + 1, st.nt + 1, _, _, _, _, _⟩ : WS) (by k_asm) (by k_asm) ?h1 ?h2 ?h3 ?h4
        case h1 => dsimp only; (repeat (refine sub_cons (by k_mem) ?_)); exact List.forall_mem_nil _
        case h2 => dsimp only; (repeat (refine List.forall_mem_cons.mpr ⟨by k_ne, ?_⟩)); exact List.forall_mem_nil _
        case h3 => kst_all
        case h4 =>
          refine ⟨ws_tab (incAt_long (by assumption) (by assumption)) hfold hb0 hbi hci hcode, ?_, ?_⟩ <;> dsimp only <;> omega
      · refine hK _ _ ?_
        refine' TEnd.next (⟨_, _, _, incAt st.c st.b, 0, st.n + 1, st.nt + 1, _, _, _, _, _⟩ : WS) (by k_asm) (by k_asm) ?h1 ?h2 ?h3 ?h4
        case h1 => dsimp only; (repeat (refine sub_cons (by k_mem) ?_)); exact List.forall_mem_nil _
        case h2 => dsimp only; (repeat (refine List.forall_mem_cons.mpr ⟨by k_ne, ?_⟩)); exact List.forall_mem_nil _
        case h3 => kst_all
        case h4 =>
          refine ⟨ws_tab (incAt_short (by assumption) (by assumption)) hfold hb0 hbi hci hcode, ?_, ?_⟩ <;> dsimp only <;> omega
  case done =>
    rintro ⟨ca, vs, k, c, b, n, nt, tb, tn, tt, sS, sT⟩ u h tk ⟨⟨hI, hfold, hb0, hbi, hci, his⟩, hx1, hx2⟩ F2 N2
    dsimp only at hI hfold hb0 hbi hci F2 N2 hx1 hx2
    have hlen := IntsAre.length hI
    have hwhole : ws.cps.toList.take ws.cps.size = ws.cps.toList := List.take_of_length_le (by simp)
    rw [hwhole, hfin] at hfold
    obtain ⟨ec, hfold⟩ := Prod.mk.inj hfold
    obtain ⟨eb, hfold⟩ := Prod.mk.inj hfold
    obtain ⟨en, ent⟩ := Prod.mk.inj hfold
    subst ec eb en ent
    k_steps
    unfold OutZ; intro hz
    refine ⟨rfl, ?_⟩
    dsimp only
    rename News h₀ L _ (_ :: _ :: _ :: _ :: _) => hN
    refine' hret _ _ _ _ _ _ _ _ _ _ _ _ _ _ _ _ _ _ (by k_asm) (news_join (all := _) (lit := []) (tl := [_, _, _, _]) hN (List.forall_mem_nil _) ?hm (fun p hp _ => hz p (List.mem_cons_of_mem _ (List.mem_cons_of_mem _ hp)) ?hq) N) hI hci
    case hm => (repeat (refine sub_cons (by k_mem) ?_)); exact List.forall_mem_nil _
    case hq =>
      intro hm
      have hlt := l1 p hp
      rcases List.mem_cons.mp hm with rfl | hm
      · exact absurd hlt (by dsimp only; exact Nat.not_lt.mpr (Nat.le_of_lt l2))
      · rw [List.mem_singleton.mp hm] at hlt
        exact Nat.lt_irrefl _ hlt
end
section
local macro_rules | `(tactic| walk_at "call builtin:len") => `(tactic| (k_here; (with_reducible show wpAny _ _ (call (Value.builtin "len") [Value.ref _]) _ _ _); k_dflt (refine' PyProof.Rows.len_tuple (News.isTup (by k_asm) (by k_mem)) (by ((simp only [List.size_toArray]); omega)) ?_)))
variable {w : World} {mean : ExcName → Option Value} {mg mb : Str → Option Value} {dp un : Nat} {gd : Option (List Code)} {cn : Str} {cs : Scope} {a : Addr} {ccd : Value} {cl : List (Str × Addr)} {outer : List Env} {A₀ : Around} {base h₀ : Heap} {L : Addr} {m : Str → Option Value} {s : Shared} {Q E : Value → Shared → Prop} {news : List (Addr × Obj)}
local macro_rules | `(tactic| walk_at "subscriptTail Name Name ref int") => `(tactic| (k_here; k_dflt (refine' item_tupI (News.isTup (by k_asm) (by k_mem)) (by assumption) (by omega) (by omega) (by omega) ?_); intro t9'))
local macro_rules | `(tactic| walk_at "binaryOp Mult int int") => `(tactic| (k_here; (with_reducible show wpAny _ _ (binaryOp Operator.Mult (Value.int (Int.fdiv _ _) _) (Value.int _ _)) _ _ _); refine PyProof.Rows.mul_int (hm := mulOk_div (by omega) (by omega) (by omega)) ?_))
local macro_rules | `(tactic| k_ne) => `(tactic| first | ((refine neN ?_); (try dsimp only); first | assumption | (refine Ne.symm ?_; assumption)) | ((refine neN ?_); (try dsimp only); first | exact off1_ne (by assumption) (by k_mem) | exact Ne.symm (off1_ne (by assumption) (by k_mem))) | (refine neN ?_; (try dsimp only); omega) | ((try dsimp only); exact ne_news (by assumption) (by k_mem) (by k_mem) (by first | exact type_ne (by decide) | (intro hh; cases hh))))
local macro_rules | `(tactic| lcg_off) => `(tactic| assumption)
local macro_rules | `(tactic| walk_at "FinE") => `(tactic| ((unfold LCg.FinE); intro D' h' tk' F' N' o1'; (try simp only [List.nil_append, List.cons_append] at N'); (try dsimp only)))
local macro_rules | `(tactic| walk_at "FinA") => `(tactic| ((unfold LCg.FinA); intro D' h' tk' F' N' o1'; (try simp only [List.nil_append, List.cons_append] at N'); (try dsimp only)))
/-- the text of one run: r blanks and a tab -/
noncomputable def runT (r : Int) : Str := Txt.mul (Str.ofString " ") r ++ Str.ofString "\t"
noncomputable def runsT (rs : List Int) : Str := Txt.join (Str.ofString "") (rs.map runT)
@[irreducible] noncomputable def runsC (rs : List Int) : List Nat := (rs.map fun r => List.replicate r.toNat 32 ++ [9]).flatten
theorem runT_codes (r : Int) : (runT r).cps.toList = List.replicate r.toNat 32 ++ [9] := by
  unfold runT
  rw [PySem.Str.cps_append, Array.toList_append]
  have e1 : Str.ofString " " = ⟨#[32]⟩ := by decide +kernel
  have e2 : (Str.ofString "\t").cps.toList = [9] := by decide +kernel
  rw [e1, mul_one_list, e2]
@[irreducible] noncomputable def countsP (rs : List Int) : List Int := rs.foldl incAt []
@[irreducible] noncomputable def lenP (rs : List Int) : Int := (rs.map fun r => r + 1).sum
theorem fold_blanks (c : List Int) (b n nt : Int) (k : Nat) : (List.replicate k 32).foldl wsStep (c, b, n, nt) = (c, b + k, n + k, nt) := by
  induction k generalizing b n with
  | zero => simp
  | succ k ih =>
    rw [List.replicate_succ, List.foldl_cons]
    have : wsStep (c, b, n, nt) 32 = (c, b + 1, n + 1, nt) := rfl
    rw [this, ih]
    have e1 : b + 1 + (k : Int) = b + ((k + 1 : Nat) : Int) := by omega
    have e2 : n + 1 + (k : Int) = n + ((k + 1 : Nat) : Int) := by omega
    rw [e1, e2]
theorem fold_runs (rs : List Int) (hr : ∀ r ∈ rs, 0 ≤ r) (c : List Int) (n nt : Int) : (runsC rs).foldl wsStep (c, 0, n, nt) = (rs.foldl incAt c, 0, n + lenP rs, nt + rs.length) := by
  induction rs generalizing c n nt with
  | nil => simp [runsC, lenP]
  | cons r rs ih =>
    have h1 : runsC (r :: rs) = List.replicate r.toNat 32 ++ ([9] ++ runsC rs) := by simp [runsC]
    rw [h1, List.foldl_append, fold_blanks, List.foldl_append]
    have h2 : ([9] : List Nat).foldl wsStep (c, 0 + (r.toNat : Int), n + (r.toNat : Int), nt) = (incAt c (0 + (r.toNat : Int)), 0, n + (r.toNat : Int) + 1, nt + 1) := rfl
    have h3 : (0 : Int) + (r.toNat : Int) = r := by have := hr r (by simp); omega
    have h4 : (r.toNat : Int) = r := by have := hr r (by simp); omega
    rw [h2, ih (fun r' h => hr r' (by simp [h])), h3, h4]
    simp only [lenP, List.map_cons, List.sum_cons, List.length_cons, List.foldl_cons]
    refine Prod.ext rfl (Prod.ext rfl (Prod.ext ?_ ?_)) <;> dsimp only <;> omega
theorem join_empty : ∀ ys : List Str, (Str.join (Str.ofString "") ys).cps.toList = (ys.map fun y => y.cps.toList).flatten
  | [] => rfl
  | [x] => by simp [Str.join]
  | x :: y :: r => by
    have e : (Str.ofString "").cps.toList = [] := by decide +kernel
    have h : Str.join (Str.ofString "") (x :: y :: r) = x ++ Str.ofString "" ++ Str.join (Str.ofString "") (y :: r) := rfl
    rw [h, PySem.Str.cps_append, PySem.Str.cps_append, Array.toList_append, Array.toList_append, e, join_empty (y :: r)]
    simp
theorem runsT_codes (rs : List Int) : (runsT rs).cps.toList = runsC rs := by
  have h : runsT rs = Str.join (Str.ofString "") (rs.map runT) := by
    unfold runsT
    have := join_plain_closes (Str.ofString "") (rs.map runT)
    exact eq_of_beq this
  rw [h, join_empty, List.map_map]
  unfold runsC
  congr 1
  exact List.map_congr_left fun r _ => runT_codes r
theorem runsC_mem {rs : List Int} {code : Nat} (h : code ∈ runsC rs) : code = 32 ∨ code = 9 := by
  unfold runsC at h
  obtain ⟨l, hl, hc⟩ := List.mem_flatten.mp h
  obtain ⟨r, _, rfl⟩ := List.mem_map.mp hl
  rcases List.mem_append.mp hc with hc | hc
  · exact .inl (List.eq_of_mem_replicate hc)
  · exact .inr (List.mem_singleton.mp hc)
theorem runsC_length {rs : List Int} {b : Nat} (h : ∀ r ∈ rs, r < b) : (runsC rs).length ≤ rs.length * (b + 1) := by
  induction rs with
  | nil => simp [runsC]
  | cons r rs ih =>
    have h1 : runsC (r :: rs) = List.replicate r.toNat 32 ++ ([9] ++ runsC rs) := by simp [runsC]
    have h2 := ih fun r' h' => h r' (by simp [h'])
    have h3 := h r (by simp)
    rw [h1]
    simp only [List.length_append, List.length_replicate, List.length_cons, List.length_nil, Nat.succ_mul]
    omega
theorem runsT_size {rs : List Int} {b : Nat} (h : ∀ r ∈ rs, r < b) : (runsT rs).cps.size ≤ rs.length * (b + 1) := by
  have := runsC_length h
  rw [← runsT_codes] at this
  simpa using this
theorem runT_len {r : Int} {b : Nat} (h : r < b) : (runT r).length ≤ b + 1 := by
  have h1 : (runT r).length = (runT r).cps.toList.length := by simp [PySem.Str.length]
  rw [h1, runT_codes]
  simp
  omega
theorem runs_weight {rs : List Int} {b : Nat} (h : ∀ r ∈ rs, r < b) : ((rs.map runT).map (·.length)).sum + (rs.map runT).length ≤ rs.length * (b + 2) := by
  induction rs with
  | nil => simp
  | cons r rs ih =>
    have h2 := ih fun r' h' => h r' (by simp [h'])
    have h3 := runT_len (h r (by simp))
    simp only [List.map_cons, List.sum_cons, List.length_cons, Nat.succ_mul, List.length_map] at *
    omega
theorem fold_runs0 {rs : List Int} (hr : ∀ r ∈ rs, 0 ≤ r) {nt : Int} (hnt : (rs.length : Int) = nt) : (runsT rs).cps.toList.foldl wsStep ([], 0, 0, 0) = (countsP rs, 0, lenP rs, nt) := by
  rw [runsT_codes, fold_runs rs hr, Int.zero_add, Int.zero_add, hnt]; unfold countsP; rfl
end
section
local macro_rules | `(tactic| walk_at "call builtin:len") => `(tactic| (k_here; (with_reducible show wpAny _ _ (call (Value.builtin "len") [Value.ref _]) _ _ _); k_dflt (refine' PyProof.Rows.len_tuple (News.isTup (by k_asm) (by k_mem)) (by ((simp only [List.size_toArray]); omega)) ?_)))
variable {w : World} {mean : ExcName → Option Value} {mg mb : Str → Option Value} {dp un : Nat} {gd : Option (List Code)} {cn : Str} {cs : Scope} {a : Addr} {ccd : Value} {cl : List (Str × Addr)} {outer : List Env} {A₀ : Around} {base h₀ : Heap} {L : Addr} {m : Str → Option Value} {s : Shared} {Q E : Value → Shared → Prop} {news : List (Addr × Obj)}
local macro_rules | `(tactic| walk_at "subscriptTail Name Name ref int") => `(tactic| (k_here; k_dflt (refine' item_tupI (News.isTup (by k_asm) (by k_mem)) (by assumption) (by omega) (by omega) (by omega) ?_); intro t9'))
local macro_rules | `(tactic| walk_at "binaryOp Mult int int") => `(tactic| (k_here; (with_reducible show wpAny _ _ (binaryOp Operator.Mult (Value.int (Int.fdiv _ _) _) (Value.int _ _)) _ _ _); refine PyProof.Rows.mul_int (hm := mulOk_div (by omega) (by omega) (by omega)) ?_))
local macro_rules | `(tactic| k_ne) => `(tactic| first | ((refine neN ?_); (try dsimp only); first | assumption | (refine Ne.symm ?_; assumption)) | ((refine neN ?_); (try dsimp only); first | exact off1_ne (by assumption) (by k_mem) | exact Ne.symm (off1_ne (by assumption) (by k_mem))) | (refine neN ?_; (try dsimp only); omega) | ((try dsimp only); exact ne_news (by assumption) (by k_mem) (by k_mem) (by first | exact type_ne (by decide) | (intro hh; cases hh))))
local macro_rules | `(tactic| lcg_off) => `(tactic| assumption)
local macro_rules | `(tactic| walk_at "FinE") => `(tactic| ((unfold LCg.FinE); intro D' h' tk' F' N' o1'; (try simp only [List.nil_append, List.cons_append] at N'); (try dsimp only)))
local macro_rules | `(tactic| walk_at "FinA") => `(tactic| ((unfold LCg.FinA); intro D' h' tk' F' N' o1'; (try simp only [List.nil_append, List.cons_append] at N'); (try dsimp only)))
theorem lead_spec {la : Addr} {x1 x2 x3 : Int} {t1 t2 t3 : Tok} {kk : Nat} (B : Below A₀ base outer h₀) (F : Fr h₀ L s.heap m) (X : (hd.heap_39 w.params).In h₀) (N : News h₀ L s.heap news) (T : Top hd.view_39 (looseW hd.view_39 [Str.ofString "Whitespace"]) mean mg mb h₀) (hk : cs.kind = .function) (hdp : dp + 6 < recursionLimit) (hun : un + 40 < cLine)
    (hm : (la, W.listOf [Value.int x1 t1, Value.int x2 t2, Value.int x3 t3].toArray kk) ∈ news) (hb1 : 0 ≤ x1 ∧ x1 < 8) (hb2 : 0 ≤ x2 ∧ x2 < 8) (hb3 : 0 ≤ x3 ∧ x3 < 8)
    (hret : ∀ x dx tn tc vs k1 k2 k3 k4 k5 t1 t2 t3 t4 e1 e2 h' tk', Fr h₀ L h' m → News h₀ L h' ((x, instObj 83 dx) :: (dx, leadDict w (runsT [x1, x2, x3]) (countsP [x1, x2, x3]) (lenP [x1, x2, x3]) 3 tn k1 k2 k3 k4 k5 t1 t2 t3) :: (tn, tupO [.ref tc, .int 0 t4] e1) :: (tc, tupO vs e2) :: news) → IntsAre vs (countsP [x1, x2, x3]) → (countsP [x1, x2, x3]).length ≤ 30 → Q (.ref x) {s with heap := h', toks := tk'}) :
    wpAny (model PySem.Challenge.rw_re0074_01.row.prog w) (ktrTop dp un gd cn cs L a ccd cl outer) (call (.ref 106) [.ref la]) Q E s := by
  k_with_none
  have hall : ∀ r ∈ [x1, x2, x3], r < ((8 : Nat) : Int) := by simp; omega
  have hall0 : ∀ r ∈ [x1, x2, x3], (0 : Int) ≤ r := by simp; omega
  have hsz : (runsT [x1, x2, x3]).cps.size ≤ 27 := runsT_size hall
  refine wpAny_call ?_
  k_dflt (refine' enterZ (lit := [(la, W.listOf [Value.int x1 t1, Value.int x2 t2, Value.int x3 t3].toArray kk)]) ?k1 ?k2 ?k3 ?k4 ?k5 ?ksub ?kA ?kF ?kK ?k6 ?k7 ?k8 ?k9 ?kB ?_ ?c2 ?c3 ?c4 ?c5; (case kA => exact rfl); (case kF => exact rfl); (case kK => first | assumption | exact rfl); (case k1 => k_asm); (case k2 => k_asm); (case k3 => k_asm); (case k4 => k_asm); (case k5 => k_asm); (case ksub => (first | exact List.forall_mem_nil _ | (repeat (refine sub_cons (by assumption) ?_)); exact List.forall_mem_nil _)); (case k6 => k_is); (case k7 => k_is); (case k8 => ktr_room); (case k9 => exact BindsTo.of_eq rfl); (case c5 => decide); (case kB => exact locs rfl); (case c2 => exact rfl); (case c3 => exact rfl); (case c4 => exact rfl); k_whole; intro g' L' h' F' N' B' X' T' l0; (try k_lt l0); (try dsimp only); (try k_fold))
  k_steps
  refine join_listW (ys := [runT x1, runT x2, runT x3]) (News.isList (by k_asm) (by k_mem)) (.cons _ _ (.cons _ _ (.cons _ _ .nil))) (by decide) (Nat.le_trans (runs_weight hall) (by simp)) ?_
  intro t' k'
  k_steps
  (try dsimp only [List.cons_append, List.nil_append, List.append_nil])
  refine make_spec (ws := runsT [x1, x2, x3]) (by k_asm) (by k_asm) (by k_asm) (by k_asm) (by k_asm) rfl (by ktr_room) (by ktr_units) (fun code hc => runsC_mem (by rwa [runsT_codes] at hc)) (by omega) (fold_runs0 hall0 (nt := 3) rfl) ?_
  intro x dx tn tc vs k1 k2 k3 k4 k5 u1 u2 u3 u4 e1 e2 h9 tk9 F9 N9 hI hcl
  dsimp only
  k_steps
  unfold OutZ; intro hz; dsimp only
  rename News h₀ L _ (_ :: _ :: _ :: _ :: _) => hN
  refine hret x dx tn tc vs k1 k2 k3 k4 k5 u1 u2 u3 u4 e1 e2 _ _ (by k_asm) (news_join (tl := [(x, instObj 83 dx), (dx, leadDict w (runsT [x1, x2, x3]) (countsP [x1, x2, x3]) (lenP [x1, x2, x3]) 3 tn k1 k2 k3 k4 k5 u1 u2 u3), (tn, tupO [.ref tc, .int 0 u4] e1), (tc, tupO vs e2)]) hN ?_ ?_ hz N) hI (by omega)
  · exact sub_cons (by k_mem) (List.forall_mem_nil _)
  · (repeat (refine sub_cons (by k_mem) ?_)); exact List.forall_mem_nil _
end
section
local macro_rules | `(tactic| walk_at "call builtin:len") => `(tactic| (k_here; (with_reducible show wpAny _ _ (call (Value.builtin "len") [Value.ref _]) _ _ _); k_dflt (refine' PyProof.Rows.len_tuple (News.isTup (by k_asm) (by k_mem)) (by ((simp only [List.size_toArray]); omega)) ?_)))
variable {w : World} {mean : ExcName → Option Value} {mg mb : Str → Option Value} {dp un : Nat} {gd : Option (List Code)} {cn : Str} {cs : Scope} {a : Addr} {ccd : Value} {cl : List (Str × Addr)} {outer : List Env} {A₀ : Around} {base h₀ : Heap} {L : Addr} {m : Str → Option Value} {s : Shared} {Q E : Value → Shared → Prop} {news : List (Addr × Obj)}
local macro_rules | `(tactic| walk_at "subscriptTail Name Name ref int") => `(tactic| (k_here; k_dflt (refine' item_tupI (News.isTup (by k_asm) (by k_mem)) (by assumption) (by omega) (by omega) (by omega) ?_); intro t9'))
local macro_rules | `(tactic| walk_at "binaryOp Mult int int") => `(tactic| (k_here; (with_reducible show wpAny _ _ (binaryOp Operator.Mult (Value.int (Int.fdiv _ _) _) (Value.int _ _)) _ _ _); refine PyProof.Rows.mul_int (hm := mulOk_div (by omega) (by omega) (by omega)) ?_))
local macro_rules | `(tactic| k_ne) => `(tactic| first | ((refine neN ?_); (try dsimp only); first | assumption | (refine Ne.symm ?_; assumption)) | ((refine neN ?_); (try dsimp only); first | exact off1_ne (by assumption) (by k_mem) | exact Ne.symm (off1_ne (by assumption) (by k_mem))) | (refine neN ?_; (try dsimp only); omega) | ((try dsimp only); exact ne_news (by assumption) (by k_mem) (by k_mem) (by first | exact type_ne (by decide) | (intro hh; cases hh))))
local macro_rules | `(tactic| lcg_off) => `(tactic| assumption)
local macro_rules | `(tactic| walk_at "FinE") => `(tactic| ((unfold LCg.FinE); intro D' h' tk' F' N' o1'; (try simp only [List.nil_append, List.cons_append] at N'); (try dsimp only)))
local macro_rules | `(tactic| walk_at "FinA") => `(tactic| ((unfold LCg.FinA); intro D' h' tk' F' N' o1'; (try simp only [List.nil_append, List.cons_append] at N'); (try dsimp only)))
local macro_rules | `(tactic| walk_at "call ref") => `(tactic| (k_here; (try dsimp only [List.cons_append, List.nil_append, List.append_nil]); first | ((with_reducible show wpAny _ _ (call (Value.ref 52) _) _ _ _); k_dflt (refine' il_spec (by k_asm) (by k_asm) (by k_asm) (by k_asm) (by k_asm) (by first | assumption | exact rfl) (by ktr_room) (by ktr_units) (LeadIn.mk (by k_mem) (by k_mem) (by k_mem) (by k_mem) (by assumption)) (by assumption) (by omega) (by omega) ?_); intros; (try dsimp only)) | ((with_reducible show wpAny _ _ (call (Value.ref 45) _) _ _ _); k_dflt (refine' long_spec (by k_asm) (by k_asm) (by k_asm) (by k_asm) (by k_asm) (by first | assumption | exact rfl) (by ktr_room) (by ktr_units) (LeadIn.mk (by k_mem) (by k_mem) (by k_mem) (by k_mem) (by assumption)) (by first | assumption | omega) ?_); intros; (try dsimp only))))
local macro_rules | `(tactic| walk_at "call ref") => `(tactic| (k_here; (try dsimp only [List.cons_append, List.nil_append, List.append_nil]); first | ((with_reducible show wpAny _ _ (call (Value.ref 94) _) _ _ _); k_dflt (refine' isb_spec (by k_asm) (by k_asm) (by k_asm) (by k_asm) (by k_asm) (by first | assumption | exact rfl) (by ktr_room) (by ktr_units)  ?_); intros; (try dsimp only)) | ((with_reducible show wpAny _ _ (call (Value.ref 101) _) _ _ _); k_dflt (refine' hb_spec (by k_asm) (by k_asm) (by k_asm) (by k_asm) (by k_asm) (by first | assumption | exact rfl) (by ktr_room) (by ktr_units)  ?_); intros; (try dsimp only))))
@[irreducible] noncomputable def colP (xs : List Int) (sz k : Int) : Int := sz * ((xs.map fun x => Int.fdiv x sz).sum + k)
theorem col_spec {la : Addr} {x1 x2 x3 sz : Int} {t1 t2 t3 ts : Tok} {kk : Nat} (B : Below A₀ base outer h₀) (F : Fr h₀ L s.heap m) (X : (hd.heap_39 w.params).In h₀) (N : News h₀ L s.heap news) (T : Top hd.view_39 (looseW hd.view_39 [Str.ofString "Whitespace"]) mean mg mb h₀) (hk : cs.kind = .function) (hdp : dp + 6 < recursionLimit) (hun : un + 40 < cLine)
    (hm : (la, W.listOf [Value.int x1 t1, Value.int x2 t2, Value.int x3 t3].toArray kk) ∈ news) (hs1 : 1 ≤ sz) (hs2 : sz < 100)
    (hret : ∀ t h' tk', Fr h₀ L h' m → News h₀ L h' news → Q (.int (colP [x1, x2, x3] sz 3) t) {s with heap := h', toks := tk'}) :
    wpAny (model PySem.Challenge.rw_re0074_01.row.prog w) (ktrTop dp un gd cn cs L a ccd cl outer) (call (.ref 111) [.ref la, .int sz ts]) Q E s := by
  k_with_none
  refine wpAny_call ?_
  k_dflt (refine' enterZC (lit := [(la, W.listOf [Value.int x1 t1, Value.int x2 t2, Value.int x3 t3].toArray kk)]) ?k1 ?k2 ?k3 ?k4 ?k5 ?ksub ?kA ?kF ?kK ?k6 ?k7 ?k8 ?k9 ?kB ?kD ?_ ?c2 ?c3 ?c4; (case kA => exact rfl); (case kF => exact rfl); (case kK => first | assumption | exact rfl); (case k1 => k_asm); (case k2 => k_asm); (case k3 => k_asm); (case k4 => k_asm); (case k5 => k_asm); (case ksub => (first | exact List.forall_mem_nil _ | (repeat (refine sub_cons (by assumption) ?_)); exact List.forall_mem_nil _)); (case k6 => k_is); (case k7 => k_is); (case k8 => ktr_room); (case k9 => exact BindsTo.of_eq rfl); (case kB => exact rfl); (case kD => decide +kernel); (case c2 => exact rfl); (case c3 => exact rfl); (case c4 => exact rfl); k_whole; intro g' L' h' tk' cells' F' N' Y' B' X' T' l0; (try k_lt l0); k_cells Y'; (try simp only [List.cons_append, List.nil_append] at N'); (try dsimp only); (try k_fold))
  k_steps
  unfold OutZ; intro hz; dsimp only
  exact cb_retI hret (by unfold colP; rfl) (by k_asm) (news_join (by k_asm) (sub_cons (by k_mem) (List.forall_mem_nil _)) (tl := []) (List.forall_mem_nil _) hz N)

end
section
local macro_rules | `(tactic| walk_at "call builtin:len") => `(tactic| (k_here; (with_reducible show wpAny _ _ (call (Value.builtin "len") [Value.ref _]) _ _ _); k_dflt (refine' PyProof.Rows.len_tuple (News.isTup (by k_asm) (by k_mem)) (by ((simp only [List.size_toArray]); omega)) ?_)))
variable {w : World} {mean : ExcName → Option Value} {mg mb : Str → Option Value} {dp un : Nat} {gd : Option (List Code)} {cn : Str} {cs : Scope} {a : Addr} {ccd : Value} {cl : List (Str × Addr)} {outer : List Env} {A₀ : Around} {base h₀ : Heap} {L : Addr} {m : Str → Option Value} {s : Shared} {Q E : Value → Shared → Prop} {news : List (Addr × Obj)}
local macro_rules | `(tactic| walk_at "subscriptTail Name Name ref int") => `(tactic| (k_here; k_dflt (refine' item_tupI (News.isTup (by k_asm) (by k_mem)) (by assumption) (by omega) (by omega) (by omega) ?_); intro t9'))
local macro_rules | `(tactic| walk_at "binaryOp Mult int int") => `(tactic| (k_here; (with_reducible show wpAny _ _ (binaryOp Operator.Mult (Value.int (Int.fdiv _ _) _) (Value.int _ _)) _ _ _); refine PyProof.Rows.mul_int (hm := mulOk_div (by omega) (by omega) (by omega)) ?_))
local macro_rules | `(tactic| k_ne) => `(tactic| first | ((refine neN ?_); (try dsimp only); first | assumption | (refine Ne.symm ?_; assumption)) | ((refine neN ?_); (try dsimp only); first | exact off1_ne (by assumption) (by k_mem) | exact Ne.symm (off1_ne (by assumption) (by k_mem))) | (refine neN ?_; (try dsimp only); omega) | ((try dsimp only); exact ne_news (by assumption) (by k_mem) (by k_mem) (by first | exact type_ne (by decide) | (intro hh; cases hh))))
local macro_rules | `(tactic| lcg_off) => `(tactic| assumption)
local macro_rules | `(tactic| walk_at "FinE") => `(tactic| ((unfold LCg.FinE); intro D' h' tk' F' N' o1'; (try simp only [List.nil_append, List.cons_append] at N'); (try dsimp only)))
local macro_rules | `(tactic| walk_at "FinA") => `(tactic| ((unfold LCg.FinA); intro D' h' tk' F' N' o1'; (try simp only [List.nil_append, List.cons_append] at N'); (try dsimp only)))
local macro_rules | `(tactic| walk_at "call ref") => `(tactic| (k_here; (try dsimp only [List.cons_append, List.nil_append, List.append_nil]); first | ((with_reducible show wpAny _ _ (call (Value.ref 52) _) _ _ _); k_dflt (refine' il_spec (by k_asm) (by k_asm) (by k_asm) (by k_asm) (by k_asm) (by first | assumption | exact rfl) (by ktr_room) (by ktr_units) (LeadIn.mk (by k_mem) (by k_mem) (by k_mem) (by k_mem) (by assumption)) (by assumption) (by omega) (by omega) ?_); intros; (try dsimp only)) | ((with_reducible show wpAny _ _ (call (Value.ref 45) _) _ _ _); k_dflt (refine' long_spec (by k_asm) (by k_asm) (by k_asm) (by k_asm) (by k_asm) (by first | assumption | exact rfl) (by ktr_room) (by ktr_units) (LeadIn.mk (by k_mem) (by k_mem) (by k_mem) (by k_mem) (by assumption)) (by first | assumption | omega) ?_); intros; (try dsimp only))))
local macro_rules | `(tactic| walk_at "call ref") => `(tactic| (k_here; (try dsimp only [List.cons_append, List.nil_append, List.append_nil]); first | ((with_reducible show wpAny _ _ (call (Value.ref 94) _) _ _ _); k_dflt (refine' isb_spec (by k_asm) (by k_asm) (by k_asm) (by k_asm) (by k_asm) (by first | assumption | exact rfl) (by ktr_room) (by ktr_units)  ?_); intros; (try dsimp only)) | ((with_reducible show wpAny _ _ (call (Value.ref 101) _) _ _ _); k_dflt (refine' hb_spec (by k_asm) (by k_asm) (by k_asm) (by k_asm) (by k_asm) (by first | assumption | exact rfl) (by ktr_room) (by ktr_units)  ?_); intros; (try dsimp only))))
@[irreducible] noncomputable def oddL (c : List Int) (nt : Int) (szs : List Int) : List Int := szs.filter fun z => Int.fmod (Int.fdiv (ilP c nt z) z - nt) 2 == 1
@[irreducible] noncomputable def oddP (c : List Int) (nt : Int) (szs : List Int) : Int := (oddL c nt szs).sum
theorem oddL_one {ys : List Value} {c : List Int} {nt z : Int} {szs : List Int} {i : Nat} {tz : Tok} (h : IntsAre ys (oddL c nt (szs.take i))) (hz : szs[i]? = some z) (hp : Int.fmod (Int.fdiv (ilP c nt z) z - nt) 2 = 1) : IntsAre (ys ++ [.int z tz]) (oddL c nt (szs.take (i + 1))) := by
  have e : oddL c nt (szs.take (i + 1)) = oddL c nt (szs.take i) ++ [z] := by
    rw [List.take_add_one, hz]
    simp [oddL, List.filter_append, hp]
  rw [e]
  exact h.append (.cons z tz .nil)
theorem oddL_no {ys : List Value} {c : List Int} {nt z : Int} {szs : List Int} {i : Nat} (h : IntsAre ys (oddL c nt (szs.take i))) (hz : szs[i]? = some z) (hp : Int.fmod (Int.fdiv (ilP c nt z) z - nt) 2 ≠ 1) : IntsAre ys (oddL c nt (szs.take (i + 1))) := by
  have e : oddL c nt (szs.take (i + 1)) = oddL c nt (szs.take i) := by
    rw [List.take_add_one, hz]
    simp [oddL, List.filter_append, hp]
  rw [e]
  exact h
theorem oddL_length (c : List Int) (nt : Int) (szs : List Int) : (oddL c nt szs).length ≤ szs.length := by
  unfold oddL; exact List.length_filter_le _ _

theorem odd_spec {x sa : Addr} {c : List Int} {n nt : Int} {zs : List Value} {szs : List Int} {kk : Nat} (B : Below A₀ base outer h₀) (F : Fr h₀ L s.heap m) (X : (hd.heap_39 w.params).In h₀) (N : News h₀ L s.heap news) (T : Top hd.view_39 (looseW hd.view_39 [Str.ofString "Whitespace"]) mean mg mb h₀) (hk : cs.kind = .function) (hdp : dp + 6 < recursionLimit) (hun : un + 40 < cLine)
    (hm : (sa, W.listOf zs.toArray kk) ∈ news) (hzs : IntsAre zs szs) (hszb : ∀ z ∈ szs, 1 ≤ z ∧ z < 1000) (hszl : szs.length < 100) (hl : LeadIn w news x c n nt) (hc : c.length < 1000)
    (hret : ∀ t h' tk', Fr h₀ L h' m → News h₀ L h' news → Q (.int (oddP c nt szs) t) {s with heap := h', toks := tk'}) :
    wpAny (model PySem.Challenge.rw_re0074_01.row.prog w) (ktrTop dp un gd cn cs L a ccd cl outer) (call (.ref 116) [.ref x, .ref sa]) Q E s := by
  k_with_none
  refine hl.out ?_
  intro dx tn tc ws vs k1 k2 k3 k4 k5 u1 u2 u3 u4 e1 e2 m1 m2 m3 m4 hI
  refine wpAny_call ?_
  k_dflt (refine' enterZC (lit := [(sa, W.listOf zs.toArray kk), (x, instObj 83 dx), (dx, leadDict w ws c n nt tn k1 k2 k3 k4 k5 u1 u2 u3), (tn, tupO [.ref tc, .int 0 u4] e1), (tc, tupO vs e2)]) ?k1 ?k2 ?k3 ?k4 ?k5 ?ksub ?kA ?kF ?kK ?k6 ?k7 ?k8 ?k9 ?kB ?kD ?_ ?c2 ?c3 ?c4; (case kA => exact rfl); (case kF => exact rfl); (case kK => first | assumption | exact rfl); (case k1 => k_asm); (case k2 => k_asm); (case k3 => k_asm); (case k4 => k_asm); (case k5 => k_asm); (case ksub => (first | exact List.forall_mem_nil _ | (repeat (refine sub_cons (by assumption) ?_)); exact List.forall_mem_nil _)); (case k6 => k_is); (case k7 => k_is); (case k8 => ktr_room); (case k9 => exact BindsTo.of_eq rfl); (case kB => exact rfl); (case kD => decide +kernel); (case c2 => exact rfl); (case c3 => exact rfl); (case c4 => exact rfl); k_whole; intro g' L' h' tk' cells' F' N' Y' B' X' T' l0; (try k_lt l0); have hY := CellsAre.one Y'; obtain ⟨oc1, hE', dc1⟩ := hY; subst hE'; clear Y'; (try simp only [List.cons_append, List.nil_append] at N'); (try dsimp only); (try k_fold))
  have hzl := IntsAre.length hzs
  refine hideQ ?_
  intro K hK
  iterate 6 (first | walk1 | (dsimp only; walk1))
  k_dflt (refine LCt.ListComp_T (F₀ := by k_asm) (by rfl) (by decide) (by rfl) (by decide) (by rfl) ?_)
  walk1
  k_dflt (refine LCt.CompSrcT.ledger (by rfl) (by k_asm) (by k_asm) (by k_mem) (by simp only [List.size_toArray, sizeLine_eq]; omega) ?_)
  intro g2
  refine compT_ind (fun i ys nx => nx = [(L' + 1, oc1), (sa, W.listOf zs.toArray kk), (x, instObj 83 dx), (dx, leadDict w ws c n nt tn k1 k2 k3 k4 k5 u1 u2 u3), (tn, tupO [.ref tc, .int 0 u4] e1), (tc, tupO vs e2)] ∧ IntsAre ys (oddL c nt (szs.take i))) ?_ ?_ _ 0 [] _ (Nat.zero_add _) ⟨rfl, by unfold oddL; exact .nil⟩
  · rintro i ys nx v I oI C oC D m₂ h tk E' hi ⟨rfl, hys⟩ hv hC hx F2 N2 off ne
    obtain ⟨z, tz, rfl, hz⟩ := hzs.at i v (by simpa using hv)
    have hzb := hszb z (List.mem_of_getElem? hz)
    clear ne
    have hil : c.length < 1000 := hc
    refine hideQ ?_
    intro K1 hK1
    k_steps
    all_goals refine hK1 _ _ ?_
    all_goals k_steps
    · exact oddL_one hys hz (by assumption)
    · exact oddL_no hys hz (by assumption)
  · rintro ys nx ⟨rfl, hys⟩
    have hall : szs.take zs.toArray.size = szs := List.take_of_length_le (by simp [hzl])
    rw [hall] at hys
    have hyl := IntsAre.length hys
    have hol := oddL_length c nt szs
    k_steps
    refine hK _ _ ?_
    k_steps
    unfold OutZ; intro hz; dsimp only
    exact cb_retI hret (by unfold oddP; rfl) (by k_asm) (news_join (by k_asm) (by (repeat (refine sub_cons (by k_mem) ?_)); exact List.forall_mem_nil _) (tl := []) (List.forall_mem_nil _) hz N)
end
section
local macro_rules | `(tactic| walk_at "call builtin:len") => `(tactic| (k_here; (with_reducible show wpAny _ _ (call (Value.builtin "len") [Value.ref _]) _ _ _); k_dflt (refine' PyProof.Rows.len_tuple (News.isTup (by k_asm) (by k_mem)) (by ((simp only [List.size_toArray]); omega)) ?_)))
variable {w : World} {mean : ExcName → Option Value} {mg mb : Str → Option Value} {dp un : Nat} {gd : Option (List Code)} {cn : Str} {cs : Scope} {a : Addr} {ccd : Value} {cl : List (Str × Addr)} {outer : List Env} {A₀ : Around} {base h₀ : Heap} {L : Addr} {m : Str → Option Value} {s : Shared} {Q E : Value → Shared → Prop} {news : List (Addr × Obj)}
local macro_rules | `(tactic| walk_at "subscriptTail Name Name ref int") => `(tactic| (k_here; k_dflt (refine' item_tupI (News.isTup (by k_asm) (by k_mem)) (by assumption) (by omega) (by omega) (by omega) ?_); intro t9'))
local macro_rules | `(tactic| walk_at "binaryOp Mult int int") => `(tactic| (k_here; (with_reducible show wpAny _ _ (binaryOp Operator.Mult (Value.int (Int.fdiv _ _) _) (Value.int _ _)) _ _ _); refine PyProof.Rows.mul_int (hm := mulOk_div (by omega) (by omega) (by omega)) ?_))
local macro_rules | `(tactic| k_ne) => `(tactic| first | ((refine neN ?_); (try dsimp only); first | assumption | (refine Ne.symm ?_; assumption)) | ((refine neN ?_); (try dsimp only); first | exact off1_ne (by assumption) (by k_mem) | exact Ne.symm (off1_ne (by assumption) (by k_mem))) | (refine neN ?_; (try dsimp only); omega) | ((try dsimp only); exact ne_news (by assumption) (by k_mem) (by k_mem) (by first | exact type_ne (by decide) | (intro hh; cases hh))))
local macro_rules | `(tactic| lcg_off) => `(tactic| assumption)
local macro_rules | `(tactic| walk_at "FinE") => `(tactic| ((unfold LCg.FinE); intro D' h' tk' F' N' o1'; (try simp only [List.nil_append, List.cons_append] at N'); (try dsimp only)))
local macro_rules | `(tactic| walk_at "FinA") => `(tactic| ((unfold LCg.FinA); intro D' h' tk' F' N' o1'; (try simp only [List.nil_append, List.cons_append] at N'); (try dsimp only)))
local macro_rules | `(tactic| walk_at "call ref") => `(tactic| (k_here; (try dsimp only [List.cons_append, List.nil_append, List.append_nil]); first | ((with_reducible show wpAny _ _ (call (Value.ref 52) _) _ _ _); k_dflt (refine' il_spec (by k_asm) (by k_asm) (by k_asm) (by k_asm) (by k_asm) (by first | assumption | exact rfl) (by ktr_room) (by ktr_units) (LeadIn.mk (by k_mem) (by k_mem) (by k_mem) (by k_mem) (by assumption)) (by assumption) (by omega) (by omega) ?_); intros; (try dsimp only)) | ((with_reducible show wpAny _ _ (call (Value.ref 45) _) _ _ _); k_dflt (refine' long_spec (by k_asm) (by k_asm) (by k_asm) (by k_asm) (by k_asm) (by first | assumption | exact rfl) (by ktr_room) (by ktr_units) (LeadIn.mk (by k_mem) (by k_mem) (by k_mem) (by k_mem) (by assumption)) (by first | assumption | omega) ?_); intros; (try dsimp only))))
local macro_rules | `(tactic| walk_at "call ref") => `(tactic| (k_here; (try dsimp only [List.cons_append, List.nil_append, List.append_nil]); first | ((with_reducible show wpAny _ _ (call (Value.ref 94) _) _ _ _); k_dflt (refine' isb_spec (by k_asm) (by k_asm) (by k_asm) (by k_asm) (by k_asm) (by first | assumption | exact rfl) (by ktr_room) (by ktr_units)  ?_); intros; (try dsimp only)) | ((with_reducible show wpAny _ _ (call (Value.ref 101) _) _ _ _); k_dflt (refine' hb_spec (by k_asm) (by k_asm) (by k_asm) (by k_asm) (by k_asm) (by first | assumption | exact rfl) (by ktr_room) (by ktr_units)  ?_); intros; (try dsimp only))))
noncomputable def idxL (p : Nat → Bool) (i : Nat) : List Int := ((List.range i).filter p).map Int.ofNat
theorem idxL_one {p : Nat → Bool} {ys : List Value} {i : Nat} {j : Int} {t : Tok} (h : IntsAre ys (idxL p i)) (hp : p i = true) (hj : j = i) : IntsAre (ys ++ [.int j t]) (idxL p (i + 1)) := by
  have e : idxL p (i + 1) = idxL p i ++ [(i : Int)] := by simp [idxL, List.range_succ, List.filter_append, hp]
  rw [e, hj]
  exact h.append (.cons _ t .nil)
theorem idxL_no {p : Nat → Bool} {ys : List Value} {i : Nat} (h : IntsAre ys (idxL p i)) (hp : p i = false) : IntsAre ys (idxL p (i + 1)) := by
  have e : idxL p (i + 1) = idxL p i := by simp [idxL, List.range_succ, List.filter_append, hp]
  rw [e]
  exact h
theorem idxL_length (p : Nat → Bool) (i : Nat) : (idxL p i).length ≤ i := by
  unfold idxL
  rw [List.length_map]
  exact Nat.le_trans (List.length_filter_le _ _) (by simp)

theorem full_facts {x1 x2 x3 : Int} {l : List Int} (hpos : 0 < x1 + x2 + x3) (h1 : 0 ≤ x1) (h2 : 0 ≤ x2) (h3 : 0 ≤ x3) (hl : idxL (fun k => decide ([x1, x2, x3].getD k 0 > 0)) 3 = l) :
    1 ≤ l.length ∧ l.length ≤ 3 ∧ ∀ k ∈ l, (k = 0 ∧ 0 < x1 ∨ k = 1 ∧ 0 < x2 ∨ k = 2 ∧ 0 < x3) := by
  subst hl
  have e : idxL (fun k => decide ([x1, x2, x3].getD k 0 > 0)) 3 = (if x1 > 0 then [(0 : Int)] else []) ++ (if x2 > 0 then [(1 : Int)] else []) ++ (if x3 > 0 then [(2 : Int)] else []) := by
    have hr : List.range 3 = [0, 1, 2] := by decide
    unfold idxL
    rw [hr]
    by_cases a1 : x1 > 0 <;> by_cases a2 : x2 > 0 <;> by_cases a3 : x3 > 0 <;> simp [a1, a2, a3]
  rw [e]
  refine ⟨?_, ?_, ?_⟩
  · split <;> split <;> split <;> simp <;> omega
  · split <;> split <;> split <;> simp
  · intro k hk
    split at hk <;> split at hk <;> split at hk <;> simp at hk <;> omega
theorem fmod_bounds {x : Int} {n : Nat} (h : 1 ≤ n) : 0 ≤ x.fmod n ∧ x.fmod n < n := by
  constructor
  · exact Int.fmod_nonneg_of_pos _ (by omega)
  · exact Int.fmod_lt_of_pos _ (by omega)
theorem fmod_bounds' {x n : Int} (h : 0 < n) : 0 ≤ x.fmod n ∧ x.fmod n < n := ⟨Int.fmod_nonneg_of_pos _ h, Int.fmod_lt_of_pos _ h⟩
theorem getD_mem {l : List Int} {j d : Int} (h : 0 ≤ j ∧ j < l.length) : l.getD j.toNat d ∈ l := by
  have : j.toNat < l.length := by omega
  simp [List.getD_eq_getElem?_getD, this]

theorem fullT_of {xs : List Int} {i : Nat} (h : xs.getD (0 + (i : Int)).toNat 0 > 0) : (fun k => decide (xs.getD k 0 > 0)) i = true := by
  have e : (0 + (i : Int)).toNat = i := by omega
  rw [e] at h
  exact decide_eq_true h
theorem fullT_no {xs : List Int} {i : Nat} (h : ¬ xs.getD (0 + (i : Int)).toNat 0 > 0) : (fun k => decide (xs.getD k 0 > 0)) i = false := by
  have e : (0 + (i : Int)).toNat = i := by omega
  rw [e] at h
  exact decide_eq_false h

theorem other_spec {la : Addr} {x1 x2 x3 y : Int} {t1 t2 t3 ty : Tok} {kk : Nat} (B : Below A₀ base outer h₀) (F : Fr h₀ L s.heap m) (X : (hd.heap_39 w.params).In h₀) (N : News h₀ L s.heap news) (T : Top hd.view_39 (looseW hd.view_39 [Str.ofString "Whitespace"]) mean mg mb h₀) (hk : cs.kind = .function) (hdp : dp + 6 < recursionLimit) (hun : un + 40 < cLine)
    (hm : (la, W.listOf [Value.int x1 t1, Value.int x2 t2, Value.int x3 t3].toArray kk) ∈ news) (hb1 : 0 ≤ x1 ∧ x1 < 8) (hb2 : 0 ≤ x2 ∧ x2 < 8) (hb3 : 0 ≤ x3 ∧ x3 < 8) (hpos : 0 < x1 + x2 + x3)
    (hret : ∀ ta p l u1 u2 e h' tk', Fr h₀ L h' m → News h₀ L h' ((ta, tupO [.int p u1, .int l u2] e) :: news) → (p = 0 ∧ 0 ≤ l ∧ l < x1 ∨ p = 1 ∧ 0 ≤ l ∧ l < x2 ∨ p = 2 ∧ 0 ≤ l ∧ l < x3) → Q (.ref ta) {s with heap := h', toks := tk'}) :
    wpAny (model PySem.Challenge.rw_re0074_01.row.prog w) (ktrTop dp un gd cn cs L a ccd cl outer) (call (.ref 126) [.ref la, .int y ty]) Q E s := by
  k_with_none
  refine wpAny_call ?_
  k_dflt (refine' enterZC (lit := [(la, W.listOf [Value.int x1 t1, Value.int x2 t2, Value.int x3 t3].toArray kk)]) ?k1 ?k2 ?k3 ?k4 ?k5 ?ksub ?kA ?kF ?kK ?k6 ?k7 ?k8 ?k9 ?kB ?kD ?_ ?c2 ?c3 ?c4; (case kA => exact rfl); (case kF => exact rfl); (case kK => first | assumption | exact rfl); (case k1 => k_asm); (case k2 => k_asm); (case k3 => k_asm); (case k4 => k_asm); (case k5 => k_asm); (case ksub => (first | exact List.forall_mem_nil _ | (repeat (refine sub_cons (by assumption) ?_)); exact List.forall_mem_nil _)); (case k6 => k_is); (case k7 => k_is); (case k8 => ktr_room); (case k9 => exact BindsTo.of_eq rfl); (case kB => exact rfl); (case kD => decide +kernel); (case c2 => exact rfl); (case c3 => exact rfl); (case c4 => exact rfl); k_whole; intro g' L' h' tk' cells' F' N' Y' B' X' T' l0; (try k_lt l0); have hY := CellsAre.one Y'; obtain ⟨oc1, hE', dc1⟩ := hY; subst hE'; clear Y'; (try simp only [List.cons_append, List.nil_append] at N'); (try dsimp only); (try k_fold))
  walk1
  k_dflt (refine LCt.Assign_ListComp_T (F₀ := by k_asm) (by rfl) (by with_unfolding_all rfl) (by rfl) (by decide) (by rfl) (by decide) (by rfl) (by rfl) (by rfl) ?_)
  iterate 7 (first | walk1 | (dsimp only; walk1))
  k_dflt (refine LCt.CompSrcT.range (n := 3) (by rfl) (by k_asm) (by k_asm) (by assumption) (by decide) (by first | rfl | decide) (by decide) ?_)
  intro g2
  refine compT_ind (fun i ys nx => nx = [(L' + 1, oc1), (la, W.listOf [Value.int x1 t1, Value.int x2 t2, Value.int x3 t3].toArray kk)] ∧ IntsAre ys (idxL (fun k => decide ([x1, x2, x3].getD k 0 > 0)) i)) ?_ ?_ _ 0 [] _ (Nat.zero_add _) ⟨rfl, .nil⟩
  · rintro i ys nx v I oI C oC D m₂ h tk E' hi ⟨rfl, hys⟩ ⟨tv, rfl⟩ hC hx F2 N2 off ne
    clear ne
    k_steps
    · exact idxL_one hys (fullT_of (by assumption)) (by omega)
    · exact idxL_no hys (fullT_no (by assumption))
  · rintro ys nx ⟨rfl, hys⟩
    obtain ⟨l, hl⟩ : ∃ l, idxL (fun k => decide ([x1, x2, x3].getD k 0 > 0)) 3 = l := ⟨_, rfl⟩
    rw [hl] at hys
    have hyl := IntsAre.length hys
    obtain ⟨hl1, hl2, hl3⟩ := full_facts hpos hb1.1 hb2.1 hb3.1 hl
    have hj0 := fmod_bounds (x := y) (n := l.length) hl1
    have hpl := hl3 _ (getD_mem (d := (0 : Int)) hj0)
    have hpb : 0 ≤ l.getD (y.fmod l.length).toNat 0 ∧ l.getD (y.fmod l.length).toNat 0 < 3 := by rcases hpl with h | h | h <;> omega
    have hxp : 0 < [x1, x2, x3].getD (l.getD (y.fmod l.length).toNat 0).toNat 0 := by rcases hpl with h | h | h <;> rw [h.1] <;> simp <;> omega
    have hfm := fmod_bounds' (x := y.fdiv l.length) hxp
    k_steps
    unfold OutZ; intro hz; dsimp only
    refine hret _ _ _ _ _ _ _ _ (by k_asm) (news_cons (by k_asm) (by (repeat (refine sub_cons (by k_mem) ?_)); exact List.forall_mem_nil _) hz N) ?_
    rcases hpl with h | h | h <;> rw [h.1] at hfm ⊢ <;> simp at hfm ⊢ <;> omega
end
section
local macro_rules | `(tactic| walk_at "call builtin:len") => `(tactic| (k_here; (with_reducible show wpAny _ _ (call (Value.builtin "len") [Value.ref _]) _ _ _); k_dflt (refine' PyProof.Rows.len_tuple (News.isTup (by k_asm) (by k_mem)) (by ((simp only [List.size_toArray]); omega)) ?_)))
variable {w : World} {mean : ExcName → Option Value} {mg mb : Str → Option Value} {dp un : Nat} {gd : Option (List Code)} {cn : Str} {cs : Scope} {a : Addr} {ccd : Value} {cl : List (Str × Addr)} {outer : List Env} {A₀ : Around} {base h₀ : Heap} {L : Addr} {m : Str → Option Value} {s : Shared} {Q E : Value → Shared → Prop} {news : List (Addr × Obj)}
local macro_rules | `(tactic| walk_at "subscriptTail Name Name ref int") => `(tactic| (k_here; k_dflt (refine' item_tupI (News.isTup (by k_asm) (by k_mem)) (by assumption) (by omega) (by omega) (by omega) ?_); intro t9'))
local macro_rules | `(tactic| walk_at "binaryOp Mult int int") => `(tactic| (k_here; (with_reducible show wpAny _ _ (binaryOp Operator.Mult (Value.int (Int.fdiv _ _) _) (Value.int _ _)) _ _ _); refine PyProof.Rows.mul_int (hm := mulOk_div (by omega) (by omega) (by omega)) ?_))
local macro_rules | `(tactic| k_ne) => `(tactic| first | ((refine neN ?_); (try dsimp only); first | assumption | (refine Ne.symm ?_; assumption)) | ((refine neN ?_); (try dsimp only); first | exact off1_ne (by assumption) (by k_mem) | exact Ne.symm (off1_ne (by assumption) (by k_mem))) | (refine neN ?_; (try dsimp only); omega) | ((try dsimp only); exact ne_news (by assumption) (by k_mem) (by k_mem) (by first | exact type_ne (by decide) | (intro hh; cases hh))))
local macro_rules | `(tactic| lcg_off) => `(tactic| assumption)
local macro_rules | `(tactic| walk_at "FinE") => `(tactic| ((unfold LCg.FinE); intro D' h' tk' F' N' o1'; (try simp only [List.nil_append, List.cons_append] at N'); (try dsimp only)))
local macro_rules | `(tactic| walk_at "FinA") => `(tactic| ((unfold LCg.FinA); intro D' h' tk' F' N' o1'; (try simp only [List.nil_append, List.cons_append] at N'); (try dsimp only)))
local macro_rules | `(tactic| walk_at "call ref") => `(tactic| (k_here; (try dsimp only [List.cons_append, List.nil_append, List.append_nil]); first | ((with_reducible show wpAny _ _ (call (Value.ref 52) _) _ _ _); k_dflt (refine' il_spec (by k_asm) (by k_asm) (by k_asm) (by k_asm) (by k_asm) (by first | assumption | exact rfl) (by ktr_room) (by ktr_units) (LeadIn.mk (by k_mem) (by k_mem) (by k_mem) (by k_mem) (by assumption)) (by assumption) (by omega) (by omega) ?_); intros; (try dsimp only)) | ((with_reducible show wpAny _ _ (call (Value.ref 45) _) _ _ _); k_dflt (refine' long_spec (by k_asm) (by k_asm) (by k_asm) (by k_asm) (by k_asm) (by first | assumption | exact rfl) (by ktr_room) (by ktr_units) (LeadIn.mk (by k_mem) (by k_mem) (by k_mem) (by k_mem) (by assumption)) (by first | assumption | omega) ?_); intros; (try dsimp only))))
local macro_rules | `(tactic| walk_at "call ref") => `(tactic| (k_here; (try dsimp only [List.cons_append, List.nil_append, List.append_nil]); first | ((with_reducible show wpAny _ _ (call (Value.ref 94) _) _ _ _); k_dflt (refine' isb_spec (by k_asm) (by k_asm) (by k_asm) (by k_asm) (by k_asm) (by first | assumption | exact rfl) (by ktr_room) (by ktr_units)  ?_); intros; (try dsimp only)) | ((with_reducible show wpAny _ _ (call (Value.ref 101) _) _ _ _); k_dflt (refine' hb_spec (by k_asm) (by k_asm) (by k_asm) (by k_asm) (by k_asm) (by first | assumption | exact rfl) (by ktr_room) (by ktr_units)  ?_); intros; (try dsimp only))))
local macro_rules | `(tactic| walk_at "eval ListComp") => `(tactic| refine Hold.stop ?_)
local macro_rules | `(tactic| walk_at "exec Assign cons ListComp") => `(tactic| refine Hold.stop ?_)
@[irreducible] noncomputable def ownT (xs : List Int) (od : Int) (k : Nat) : Bool := Int.fmod (Int.fdiv (xs.getD k 0) (2 ^ (hbit od).toNat)) 2 == 1
/-- the greatest of the other two heaps -/
noncomputable def restMax (xs : List Int) (p : Int) : Int := if p = 0 then max (xs.getD 1 0) (xs.getD 2 0) else if p = 1 then max (xs.getD 0 0) (xs.getD 2 0) else max (xs.getD 0 0) (xs.getD 1 0)
@[irreducible] noncomputable def leftP (xs : List Int) (p od : Int) (loses : Bool) : Int :=
  if loses = true ∧ restMax xs p < 2 then 1 - Builtin.bitXor (xs.getD p.toNat 0) od else Builtin.bitXor (xs.getD p.toNat 0) od
theorem leftP_false (xs : List Int) (p od : Int) : Builtin.bitXor (xs.getD p.toNat 0) od = leftP xs p od false := by unfold leftP; simp
theorem leftP_lt {xs : List Int} {p od : Int} (h : restMax xs p < 2) : 1 - Builtin.bitXor (xs.getD p.toNat 0) od = leftP xs p od true := by unfold leftP; simp [h]
theorem leftP_ge {xs : List Int} {p od : Int} (h : ¬ restMax xs p < 2) : Builtin.bitXor (xs.getD p.toNat 0) od = leftP xs p od true := by unfold leftP; simp [h]
theorem lt_of_eq' {a b c : Int} (h : a = b) (h2 : b < c) : a < c := h ▸ h2
theorem ge_of_eq' {a b c : Int} (h : a = b) (h2 : ¬ b < c) : ¬ a < c := h ▸ h2
theorem restMax_eq {x1 x2 x3 M p : Int} (a : p = 0 ∧ (M = x2 ∨ M = x3) ∨ p = 1 ∧ (M = x1 ∨ M = x3) ∨ p = 2 ∧ (M = x1 ∨ M = x2)) (b : p = 0 ∧ (x2 ≤ M ∧ x3 ≤ M) ∨ p = 1 ∧ (x1 ≤ M ∧ x3 ≤ M) ∨ p = 2 ∧ (x1 ≤ M ∧ x2 ≤ M)) : restMax [x1, x2, x3] p = M := by
  rcases a with ⟨rfl, a⟩ | ⟨rfl, a⟩ | ⟨rfl, a⟩ <;> simp [restMax] <;> omega
theorem ownT_of {xs : List Int} {od : Int} {i : Nat} (h : Int.fmod (Int.fdiv (xs.getD (0 + (i : Int)).toNat 0) (2 ^ (hbit od).toNat)) 2 = 1) : ownT xs od i = true := by
  have e : (0 + (i : Int)).toNat = i := by omega
  rw [e] at h
  unfold ownT; rw [h]; rfl
theorem ownT_no {xs : List Int} {od : Int} {i : Nat} (h : Int.fmod (Int.fdiv (xs.getD (0 + (i : Int)).toNat 0) (2 ^ (hbit od).toNat)) 2 ≠ 1) : ownT xs od i = false := by
  have e : (0 + (i : Int)).toNat = i := by omega
  rw [e] at h
  unfold ownT; simpa using h

theorem own_specB {la x : Addr} {x1 x2 x3 od n nt : Int} {c : List Int} {t1 t2 t3 tod : Tok} {kk : Nat} {loses : Bool} (B : Below A₀ base outer h₀) (F : Fr h₀ L s.heap m) (X : (hd.heap_39 w.params).In h₀) (N : News h₀ L s.heap news) (T : Top hd.view_39 (looseW hd.view_39 [Str.ofString "Whitespace"]) mean mg mb h₀) (hk : cs.kind = .function) (hdp : dp + 6 < recursionLimit) (hun : un + 40 < cLine)
    (hm : (la, W.listOf [Value.int x1 t1, Value.int x2 t2, Value.int x3 t3].toArray kk) ∈ news) (hb1 : 0 ≤ x1 ∧ x1 < 8) (hb2 : 0 ≤ x2 ∧ x2 < 8) (hb3 : 0 ≤ x3 ∧ x3 < 8) (hl : LeadIn w news x c n nt) (hc : c.length < 1000) (hnot : loses = false ∨ loses = true ∧ ¬ longP c < 2) (hh : 0 ≤ hbit od ∧ hbit od < 3) {p : Int} {pl : List Int} (hlist : idxL (ownT [x1, x2, x3] od) 3 = p :: pl) (hp : p = 0 ∨ p = 1 ∨ p = 2)
    (hret : ∀ ta l u1 u2 e h' tk', Fr h₀ L h' m → News h₀ L h' ((ta, tupO [.int p u1, .int l u2] e) :: news) → l = leftP [x1, x2, x3] p od loses → Q (.ref ta) {s with heap := h', toks := tk'}) :
    wpAny (model PySem.Challenge.rw_re0074_01.row.prog w) (ktrTop dp un gd cn cs L a ccd cl outer) (call (.ref 121) [.ref la, .ref x, .int od tod, .bool loses]) Q E s := by
  k_with_none
  refine hl.out ?_
  intro dx tn tc ws vs k1 k2 k3 k4 k5 u1 u2 u3 u4 e1 e2 m1 m2 m3 m4 hI
  refine wpAny_call ?_
  k_dflt (refine' enterZC (lit := [(la, W.listOf [Value.int x1 t1, Value.int x2 t2, Value.int x3 t3].toArray kk), (x, instObj 83 dx), (dx, leadDict w ws c n nt tn k1 k2 k3 k4 k5 u1 u2 u3), (tn, tupO [.ref tc, .int 0 u4] e1), (tc, tupO vs e2)]) ?k1 ?k2 ?k3 ?k4 ?k5 ?ksub ?kA ?kF ?kK ?k6 ?k7 ?k8 ?k9 ?kB ?kD ?_ ?c2 ?c3 ?c4; (case kA => exact rfl); (case kF => exact rfl); (case kK => first | assumption | exact rfl); (case k1 => k_asm); (case k2 => k_asm); (case k3 => k_asm); (case k4 => k_asm); (case k5 => k_asm); (case ksub => (first | exact List.forall_mem_nil _ | (repeat (refine sub_cons (by assumption) ?_)); exact List.forall_mem_nil _)); (case k6 => k_is); (case k7 => k_is); (case k8 => ktr_room); (case k9 => exact BindsTo.of_eq rfl); (case kB => exact rfl); (case kD => decide +kernel); (case c2 => exact rfl); (case c3 => exact rfl); (case c4 => exact rfl); k_whole; intro g' L' h' tk' cells' F' N' Y' B' X' T' l0; (try k_lt l0); have hY := CellsAre.two Y'; obtain ⟨oc1, oc2, hE', dc1, dc2⟩ := hY; subst hE'; clear Y'; (try simp only [List.cons_append, List.nil_append] at N'); (try dsimp only); (try k_fold))
  rcases hnot with rfl | ⟨rfl, hnot⟩
  · k_steps
    refine Hold.go ?_
    k_dflt (refine LCt.ListComp_T (F₀ := by k_asm) (by rfl) (by decide) (by rfl) (by decide) (by rfl) ?_)
    iterate 7 (first | walk1 | (dsimp only; walk1))
    k_dflt (refine LCt.CompSrcT.range (n := 3) (by rfl) (by k_asm) (by k_asm) (by assumption) (by decide) (by first | rfl | decide) (by decide) ?_)
    intro g2
    refine compT_ind (fun i ys nx => nx = _ ∧ IntsAre ys (idxL (ownT [x1, x2, x3] od) i)) ?_ ?_ _ 0 [] _ (Nat.zero_add _) ⟨rfl, .nil⟩
    · rintro i ys nx v I oI C oC D m₂ h tk E' hi ⟨rfl, hys⟩ ⟨tv, rfl⟩ hC hx F2 N2 off ne
      clear ne
      k_steps
      · exact idxL_one hys (ownT_of (by assumption)) (by omega)
      · exact idxL_no hys (ownT_no (by assumption))
    · rintro ys nx ⟨rfl, hys⟩
      rw [hlist] at hys
      obtain ⟨tp, ys', rfl, hys'⟩ := IntsAre.cons_inv hys
      have hyl := IntsAre.length hys'
      have hpl := idxL_length (ownT [x1, x2, x3] od) 3
      rw [hlist, List.length_cons] at hpl
      clear hys hys'
      rcases hp with rfl | rfl | rfl
      all_goals k_steps
      all_goals (unfold OutZ; intro hz; dsimp only)
      all_goals refine hret _ _ _ _ _ _ _ (by k_asm) (news_cons (by k_asm) (by (repeat (refine sub_cons (by k_mem) ?_)); exact List.forall_mem_nil _) hz N) ?_
      all_goals first | exact leftP_false _ _ _ | exact leftP_lt (lt_of_eq' (restMax_eq (by first | exact .inl ⟨rfl, by assumption⟩ | exact .inr (.inl ⟨rfl, by assumption⟩) | exact .inr (.inr ⟨rfl, by assumption⟩)) (by first | exact .inl ⟨rfl, by assumption⟩ | exact .inr (.inl ⟨rfl, by assumption⟩) | exact .inr (.inr ⟨rfl, by assumption⟩))) (by assumption)) | exact leftP_ge (ge_of_eq' (restMax_eq (by first | exact .inl ⟨rfl, by assumption⟩ | exact .inr (.inl ⟨rfl, by assumption⟩) | exact .inr (.inr ⟨rfl, by assumption⟩)) (by first | exact .inl ⟨rfl, by assumption⟩ | exact .inr (.inl ⟨rfl, by assumption⟩) | exact .inr (.inr ⟨rfl, by assumption⟩))) (by assumption))
  · k_steps
    refine Hold.go ?_
    k_dflt (refine LCt.ListComp_T (F₀ := by k_asm) (by rfl) (by decide) (by rfl) (by decide) (by rfl) ?_)
    iterate 7 (first | walk1 | (dsimp only; walk1))
    k_dflt (refine LCt.CompSrcT.range (n := 3) (by rfl) (by k_asm) (by k_asm) (by assumption) (by decide) (by first | rfl | decide) (by decide) ?_)
    intro g2
    refine compT_ind (fun i ys nx => nx = _ ∧ IntsAre ys (idxL (ownT [x1, x2, x3] od) i)) ?_ ?_ _ 0 [] _ (Nat.zero_add _) ⟨rfl, .nil⟩
    · rintro i ys nx v I oI C oC D m₂ h tk E' hi ⟨rfl, hys⟩ ⟨tv, rfl⟩ hC hx F2 N2 off ne
      clear ne
      k_steps
      · exact idxL_one hys (ownT_of (by assumption)) (by omega)
      · exact idxL_no hys (ownT_no (by assumption))
    · rintro ys nx ⟨rfl, hys⟩
      rw [hlist] at hys
      obtain ⟨tp, ys', rfl, hys'⟩ := IntsAre.cons_inv hys
      have hyl := IntsAre.length hys'
      have hpl := idxL_length (ownT [x1, x2, x3] od) 3
      rw [hlist, List.length_cons] at hpl
      clear hys hys'
      rcases hp with rfl | rfl | rfl
      all_goals k_steps
      all_goals (unfold OutZ; intro hz; dsimp only)
      all_goals refine hret _ _ _ _ _ _ _ (by k_asm) (news_cons (by k_asm) (by (repeat (refine sub_cons (by k_mem) ?_)); exact List.forall_mem_nil _) hz N) ?_
      all_goals first | exact leftP_false _ _ _ | exact leftP_lt (lt_of_eq' (restMax_eq (by first | exact .inl ⟨rfl, by assumption⟩ | exact .inr (.inl ⟨rfl, by assumption⟩) | exact .inr (.inr ⟨rfl, by assumption⟩)) (by first | exact .inl ⟨rfl, by assumption⟩ | exact .inr (.inl ⟨rfl, by assumption⟩) | exact .inr (.inr ⟨rfl, by assumption⟩))) (by assumption)) | exact leftP_ge (ge_of_eq' (restMax_eq (by first | exact .inl ⟨rfl, by assumption⟩ | exact .inr (.inl ⟨rfl, by assumption⟩) | exact .inr (.inr ⟨rfl, by assumption⟩)) (by first | exact .inl ⟨rfl, by assumption⟩ | exact .inr (.inl ⟨rfl, by assumption⟩) | exact .inr (.inr ⟨rfl, by assumption⟩))) (by assumption))
end
section
local macro_rules | `(tactic| walk_at "call builtin:len") => `(tactic| (k_here; (with_reducible show wpAny _ _ (call (Value.builtin "len") [Value.ref _]) _ _ _); k_dflt (refine' PyProof.Rows.len_tuple (News.isTup (by k_asm) (by k_mem)) (by ((simp only [List.size_toArray]); omega)) ?_)))
variable {w : World} {mean : ExcName → Option Value} {mg mb : Str → Option Value} {dp un : Nat} {gd : Option (List Code)} {cn : Str} {cs : Scope} {a : Addr} {ccd : Value} {cl : List (Str × Addr)} {outer : List Env} {A₀ : Around} {base h₀ : Heap} {L : Addr} {m : Str → Option Value} {s : Shared} {Q E : Value → Shared → Prop} {news : List (Addr × Obj)}
local macro_rules | `(tactic| walk_at "subscriptTail Name Name ref int") => `(tactic| (k_here; k_dflt (refine' item_tupI (News.isTup (by k_asm) (by k_mem)) (by assumption) (by omega) (by omega) (by omega) ?_); intro t9'))
local macro_rules | `(tactic| walk_at "binaryOp Mult int int") => `(tactic| (k_here; (with_reducible show wpAny _ _ (binaryOp Operator.Mult (Value.int (Int.fdiv _ _) _) (Value.int _ _)) _ _ _); refine PyProof.Rows.mul_int (hm := mulOk_div (by omega) (by omega) (by omega)) ?_))
local macro_rules | `(tactic| k_ne) => `(tactic| first | ((refine neN ?_); (try dsimp only); first | assumption | (refine Ne.symm ?_; assumption)) | ((refine neN ?_); (try dsimp only); first | exact off1_ne (by assumption) (by k_mem) | exact Ne.symm (off1_ne (by assumption) (by k_mem))) | (refine neN ?_; (try dsimp only); omega) | ((try dsimp only); exact ne_news (by assumption) (by k_mem) (by k_mem) (by first | exact type_ne (by decide) | (intro hh; cases hh))))
local macro_rules | `(tactic| lcg_off) => `(tactic| assumption)
local macro_rules | `(tactic| walk_at "FinE") => `(tactic| ((unfold LCg.FinE); intro D' h' tk' F' N' o1'; (try simp only [List.nil_append, List.cons_append] at N'); (try dsimp only)))
local macro_rules | `(tactic| walk_at "FinA") => `(tactic| ((unfold LCg.FinA); intro D' h' tk' F' N' o1'; (try simp only [List.nil_append, List.cons_append] at N'); (try dsimp only)))
local macro_rules | `(tactic| walk_at "call ref") => `(tactic| (k_here; (try dsimp only [List.cons_append, List.nil_append, List.append_nil]); first | ((with_reducible show wpAny _ _ (call (Value.ref 52) _) _ _ _); k_dflt (refine' il_spec (by k_asm) (by k_asm) (by k_asm) (by k_asm) (by k_asm) (by first | assumption | exact rfl) (by ktr_room) (by ktr_units) (LeadIn.mk (by k_mem) (by k_mem) (by k_mem) (by k_mem) (by assumption)) (by assumption) (by omega) (by omega) ?_); intros; (try dsimp only)) | ((with_reducible show wpAny _ _ (call (Value.ref 45) _) _ _ _); k_dflt (refine' long_spec (by k_asm) (by k_asm) (by k_asm) (by k_asm) (by k_asm) (by first | assumption | exact rfl) (by ktr_room) (by ktr_units) (LeadIn.mk (by k_mem) (by k_mem) (by k_mem) (by k_mem) (by assumption)) (by first | assumption | omega) ?_); intros; (try dsimp only))))
local macro_rules | `(tactic| walk_at "call ref") => `(tactic| (k_here; (try dsimp only [List.cons_append, List.nil_append, List.append_nil]); first | ((with_reducible show wpAny _ _ (call (Value.ref 94) _) _ _ _); k_dflt (refine' isb_spec (by k_asm) (by k_asm) (by k_asm) (by k_asm) (by k_asm) (by first | assumption | exact rfl) (by ktr_room) (by ktr_units)  ?_); intros; (try dsimp only)) | ((with_reducible show wpAny _ _ (call (Value.ref 101) _) _ _ _); k_dflt (refine' hb_spec (by k_asm) (by k_asm) (by k_asm) (by k_asm) (by k_asm) (by first | assumption | exact rfl) (by ktr_room) (by ktr_units)  ?_); intros; (try dsimp only))))
theorem own_specA {la x : Addr} {x1 x2 x3 od n nt : Int} {c : List Int} {t1 t2 t3 tod : Tok} {kk : Nat} (B : Below A₀ base outer h₀) (F : Fr h₀ L s.heap m) (X : (hd.heap_39 w.params).In h₀) (N : News h₀ L s.heap news) (T : Top hd.view_39 (looseW hd.view_39 [Str.ofString "Whitespace"]) mean mg mb h₀) (hk : cs.kind = .function) (hdp : dp + 6 < recursionLimit) (hun : un + 40 < cLine)
    (hm : (la, W.listOf [Value.int x1 t1, Value.int x2 t2, Value.int x3 t3].toArray kk) ∈ news) (hl : LeadIn w news x c n nt) (hc : c.length < 1000) (hlong : longP c < 2)
    (hxs : x1 = 1 ∧ x2 = 1 ∧ x3 = 0 ∨ x1 = 1 ∧ x2 = 0 ∧ x3 = 1 ∨ x1 = 0 ∧ x2 = 1 ∧ x3 = 1)
    (hret : ∀ ta p u1 u2 e h' tk', Fr h₀ L h' m → News h₀ L h' ((ta, tupO [.int p u1, .int 0 u2] e) :: news) → p = 1 - x1 → Q (.ref ta) {s with heap := h', toks := tk'}) :
    wpAny (model PySem.Challenge.rw_re0074_01.row.prog w) (ktrTop dp un gd cn cs L a ccd cl outer) (call (.ref 121) [.ref la, .ref x, .int od tod, .bool true]) Q E s := by
  k_with_none
  refine hl.out ?_
  intro dx tn tc ws vs k1 k2 k3 k4 k5 u1 u2 u3 u4 e1 e2 m1 m2 m3 m4 hI
  refine wpAny_call ?_
  k_dflt (refine' enterZC (lit := [(la, W.listOf [Value.int x1 t1, Value.int x2 t2, Value.int x3 t3].toArray kk), (x, instObj 83 dx), (dx, leadDict w ws c n nt tn k1 k2 k3 k4 k5 u1 u2 u3), (tn, tupO [.ref tc, .int 0 u4] e1), (tc, tupO vs e2)]) ?k1 ?k2 ?k3 ?k4 ?k5 ?ksub ?kA ?kF ?kK ?k6 ?k7 ?k8 ?k9 ?kB ?kD ?_ ?c2 ?c3 ?c4; (case kA => exact rfl); (case kF => exact rfl); (case kK => first | assumption | exact rfl); (case k1 => k_asm); (case k2 => k_asm); (case k3 => k_asm); (case k4 => k_asm); (case k5 => k_asm); (case ksub => (first | exact List.forall_mem_nil _ | (repeat (refine sub_cons (by assumption) ?_)); exact List.forall_mem_nil _)); (case k6 => k_is); (case k7 => k_is); (case k8 => ktr_room); (case k9 => exact BindsTo.of_eq rfl); (case kB => exact rfl); (case kD => decide +kernel); (case c2 => exact rfl); (case c3 => exact rfl); (case c4 => exact rfl); k_whole; intro g' L' h' tk' cells' F' N' Y' B' X' T' l0; (try k_lt l0); have hY := CellsAre.two Y'; obtain ⟨oc1, oc2, hE', dc1, dc2⟩ := hY; subst hE'; clear Y'; (try simp only [List.cons_append, List.nil_append] at N'); (try dsimp only); (try k_fold))
  rcases hxs with ⟨rfl, rfl, rfl⟩ | ⟨rfl, rfl, rfl⟩ | ⟨rfl, rfl, rfl⟩
  all_goals k_steps
  all_goals (unfold OutZ; intro hz; dsimp only)
  all_goals exact hret _ _ _ _ _ _ _ (by k_asm) (news_cons (by k_asm) (by (repeat (refine sub_cons (by k_mem) ?_)); exact List.forall_mem_nil _) hz N) (by decide)
end
section
local macro_rules | `(tactic| walk_at "call builtin:len") => `(tactic| (k_here; (with_reducible show wpAny _ _ (call (Value.builtin "len") [Value.ref _]) _ _ _); k_dflt (refine' PyProof.Rows.len_tuple (News.isTup (by k_asm) (by k_mem)) (by ((simp only [List.size_toArray]); omega)) ?_)))
variable {w : World} {mean : ExcName → Option Value} {mg mb : Str → Option Value} {dp un : Nat} {gd : Option (List Code)} {cn : Str} {cs : Scope} {a : Addr} {ccd : Value} {cl : List (Str × Addr)} {outer : List Env} {A₀ : Around} {base h₀ : Heap} {L : Addr} {m : Str → Option Value} {s : Shared} {Q E : Value → Shared → Prop} {news : List (Addr × Obj)}
local macro_rules | `(tactic| walk_at "subscriptTail Name Name ref int") => `(tactic| (k_here; k_dflt (refine' item_tupI (News.isTup (by k_asm) (by k_mem)) (by assumption) (by omega) (by omega) (by omega) ?_); intro t9'))
local macro_rules | `(tactic| walk_at "binaryOp Mult int int") => `(tactic| (k_here; (with_reducible show wpAny _ _ (binaryOp Operator.Mult (Value.int (Int.fdiv _ _) _) (Value.int _ _)) _ _ _); refine PyProof.Rows.mul_int (hm := mulOk_div (by omega) (by omega) (by omega)) ?_))
local macro_rules | `(tactic| k_ne) => `(tactic| first | ((refine neN ?_); (try dsimp only); first | assumption | (refine Ne.symm ?_; assumption)) | ((refine neN ?_); (try dsimp only); first | exact off1_ne (by assumption) (by k_mem) | exact Ne.symm (off1_ne (by assumption) (by k_mem))) | (refine neN ?_; (try dsimp only); omega) | ((try dsimp only); exact ne_news (by assumption) (by k_mem) (by k_mem) (by first | exact type_ne (by decide) | (intro hh; cases hh))))
local macro_rules | `(tactic| lcg_off) => `(tactic| assumption)
local macro_rules | `(tactic| walk_at "FinE") => `(tactic| ((unfold LCg.FinE); intro D' h' tk' F' N' o1'; (try simp only [List.nil_append, List.cons_append] at N'); (try dsimp only)))
local macro_rules | `(tactic| walk_at "FinA") => `(tactic| ((unfold LCg.FinA); intro D' h' tk' F' N' o1'; (try simp only [List.nil_append, List.cons_append] at N'); (try dsimp only)))
/-- the weighted sum of a list -/
noncomputable def wsum (f : Nat → Int) : List Int → Int
  | [] => 0
  | x :: xs => f 0 * x + wsum (fun i => f (i + 1)) xs
theorem wsum_append (f : Nat → Int) (c d : List Int) : wsum f (c ++ d) = wsum f c + wsum (fun i => f (i + c.length)) d := by
  induction c generalizing f with
  | nil => simp [wsum]
  | cons x c ih =>
    simp only [List.cons_append, wsum, ih, List.length_cons]
    have e : (fun i => f (i + c.length + 1)) = fun i => f (i + (c.length + 1)) := rfl
    rw [e]; omega
theorem wsum_zero (f : Nat → Int) (n : Nat) : wsum f (List.replicate n 0) = 0 := by
  induction n generalizing f with
  | zero => rfl
  | succ n ih => simp [List.replicate_succ, wsum, ih]
theorem wsum_set (f : Nat → Int) (c : List Int) (i : Nat) (v : Int) (h : i < c.length) : wsum f (c.set i v) = wsum f c + f i * (v - c.getD i 0) := by
  induction c generalizing f i with
  | nil => simp at h
  | cons x c ih =>
    cases i with
    | zero =>
      simp only [List.set_cons_zero, wsum, List.getD_cons_zero, Int.mul_sub]
      omega
    | succ i =>
      have h' : i < c.length := by simpa using h
      simp only [List.set_cons_succ, wsum, List.getD_cons_succ]
      rw [ih (fun i => f (i + 1)) i h']
      omega
theorem wsum_incAt (f : Nat → Int) (c : List Int) {b : Int} (hb : 0 ≤ b) : wsum f (incAt c b) = wsum f c + f b.toNat := by
  unfold incAt
  split
  · rename_i h
    rw [wsum_set _ _ _ _ (by rw [List.length_append, List.length_replicate]; omega), wsum_append, wsum_zero]
    have : ∀ z : Int, z + 1 - z = 1 := fun z => by omega
    rw [this, Int.mul_one, Int.add_zero]
  · rename_i h
    rw [wsum_set _ _ _ _ (by omega)]
    have : ∀ z : Int, z + 1 - z = 1 := fun z => by omega
    rw [this, Int.mul_one]
theorem wsum_fold (f : Nat → Int) (rs : List Int) (hr : ∀ r ∈ rs, 0 ≤ r) (c : List Int) : wsum f (rs.foldl incAt c) = wsum f c + (rs.map fun r => f r.toNat).sum := by
  induction rs generalizing c with
  | nil => simp
  | cons r rs ih =>
    rw [List.foldl_cons, ih (fun r' h => hr r' (by simp [h])), wsum_incAt f c (hr r (by simp)), List.map_cons, List.sum_cons]
    omega
theorem wsum_counts (f : Nat → Int) {rs : List Int} (hr : ∀ r ∈ rs, 0 ≤ r) : wsum f (countsP rs) = (rs.map fun r => f r.toNat).sum := by
  unfold countsP
  rw [wsum_fold f rs hr]
  simp [wsum]
theorem wsum_range (f : Nat → Int) (c : List Int) : wsum f c = ((List.range c.length).map fun i => f i * c.getD i 0).sum := by
  induction c generalizing f with
  | nil => rfl
  | cons x c ih =>
    rw [wsum, ih, List.length_cons, List.range_succ_eq_map, List.map_cons, List.sum_cons, List.map_map]
    rfl
theorem sum_skip (g : Nat → Int) (m n : Nat) (h : ∀ i, i < m → g i = 0) : ((List.range n).map g).sum = ((List.range (n - m)).map fun k => g (m + k)).sum := by
  have zero : ∀ k, k ≤ m → ((List.range k).map g).sum = 0 := by
    intro k hk
    induction k with
    | zero => rfl
    | succ k ih =>
      rw [List.range_succ, List.map_append, List.sum_append, ih (by omega)]
      simp [h k (by omega)]
  by_cases hmn : m ≤ n
  · obtain ⟨d, rfl⟩ : ∃ d, n = m + d := ⟨n - m, by omega⟩
    rw [List.range_add, List.map_append, List.sum_append, zero m (Nat.le_refl _), Int.zero_add, List.map_map, Nat.add_sub_cancel_left]
    rfl
  · rw [zero n (by omega)]
    have : n - m = 0 := by omega
    rw [this]; rfl
theorem ilsum_counts {rs : List Int} (hr : ∀ r ∈ rs, 0 ≤ r) {ts : Int} (hts : 1 ≤ ts) :
    ilsum (countsP rs) ts (rangeKs ts (((countsP rs).length : Int) - ts).toNat) = (rs.map fun r => Int.fdiv r ts).sum := by
  have e1 : (rs.map fun r => Int.fdiv r ts) = rs.map fun r => (fun i : Nat => Int.fdiv (i : Int) ts) r.toNat := List.map_congr_left fun r h => by
    have := hr r h
    show Int.fdiv r ts = Int.fdiv (r.toNat : Int) ts
    rw [Int.toNat_of_nonneg this]
  rw [e1, ← wsum_counts (fun i : Nat => Int.fdiv (i : Int) ts) hr, wsum_range, sum_skip _ ts.toNat]
  · unfold ilsum rangeKs
    rw [List.map_map]
    have e2 : (((countsP rs).length : Int) - ts).toNat = (countsP rs).length - ts.toNat := by omega
    rw [e2]
    congr 1
    refine List.map_congr_left fun k _ => ?_
    show Int.fdiv (ts + (k : Int)) ts * (countsP rs).getD (ts + (k : Int)).toNat 0 = Int.fdiv ((ts.toNat + k : Nat) : Int) ts * (countsP rs).getD (ts.toNat + k) 0
    have e3 : (ts + (k : Int)).toNat = ts.toNat + k := by omega
    have e4 : ((ts.toNat + k : Nat) : Int) = ts + k := by omega
    rw [e3, e4]
  · intro i hi
    have h0 : Int.fdiv (i : Int) ts = 0 := by
      rw [Int.fdiv_eq_ediv_of_nonneg _ (by omega)]
      exact Int.ediv_eq_zero_of_lt (by omega) (by omega)
    rw [h0, Int.zero_mul]
theorem il_counts {rs : List Int} (hr : ∀ r ∈ rs, 0 ≤ r) {nt ts : Int} (hts : 1 ≤ ts) : ilP (countsP rs) nt ts = ts * ((rs.map fun r => Int.fdiv r ts).sum + nt) := by
  unfold ilP
  rw [ilsum_counts hr hts, Int.zero_add]
theorem counts_len (rs : List Int) (hr : ∀ r ∈ rs, 0 ≤ r) (c : List Int) : (rs.foldl incAt c).length = rs.foldl (fun n r => max n (r.toNat + 1)) c.length := by
  induction rs generalizing c with
  | nil => rfl
  | cons r rs ih => rw [List.foldl_cons, ih (fun r' h => hr r' (by simp [h])), incAt_length (hr r (by simp)), List.foldl_cons]
theorem countsP_length {rs : List Int} (hr : ∀ r ∈ rs, 0 ≤ r) : (countsP rs).length = rs.foldl (fun n r => max n (r.toNat + 1)) 0 := by
  unfold countsP
  exact counts_len rs hr []
end
section
local macro_rules | `(tactic| walk_at "call builtin:len") => `(tactic| (k_here; (with_reducible show wpAny _ _ (call (Value.builtin "len") [Value.ref _]) _ _ _); k_dflt (refine' PyProof.Rows.len_tuple (News.isTup (by k_asm) (by k_mem)) (by ((simp only [List.size_toArray]); omega)) ?_)))
variable {w : World} {mean : ExcName → Option Value} {mg mb : Str → Option Value} {dp un : Nat} {gd : Option (List Code)} {cn : Str} {cs : Scope} {a : Addr} {ccd : Value} {cl : List (Str × Addr)} {outer : List Env} {A₀ : Around} {base h₀ : Heap} {L : Addr} {m : Str → Option Value} {s : Shared} {Q E : Value → Shared → Prop} {news : List (Addr × Obj)}
local macro_rules | `(tactic| walk_at "subscriptTail Name Name ref int") => `(tactic| (k_here; k_dflt (refine' item_tupI (News.isTup (by k_asm) (by k_mem)) (by assumption) (by omega) (by omega) (by omega) ?_); intro t9'))
local macro_rules | `(tactic| walk_at "binaryOp Mult int int") => `(tactic| (k_here; (with_reducible show wpAny _ _ (binaryOp Operator.Mult (Value.int (Int.fdiv _ _) _) (Value.int _ _)) _ _ _); refine PyProof.Rows.mul_int (hm := mulOk_div (by omega) (by omega) (by omega)) ?_))
local macro_rules | `(tactic| k_ne) => `(tactic| first | ((refine neN ?_); (try dsimp only); first | assumption | (refine Ne.symm ?_; assumption)) | ((refine neN ?_); (try dsimp only); first | exact off1_ne (by assumption) (by k_mem) | exact Ne.symm (off1_ne (by assumption) (by k_mem))) | (refine neN ?_; (try dsimp only); omega) | ((try dsimp only); exact ne_news (by assumption) (by k_mem) (by k_mem) (by first | exact type_ne (by decide) | (intro hh; cases hh))))
local macro_rules | `(tactic| lcg_off) => `(tactic| assumption)
local macro_rules | `(tactic| walk_at "FinE") => `(tactic| ((unfold LCg.FinE); intro D' h' tk' F' N' o1'; (try simp only [List.nil_append, List.cons_append] at N'); (try dsimp only)))
local macro_rules | `(tactic| walk_at "FinA") => `(tactic| ((unfold LCg.FinA); intro D' h' tk' F' N' o1'; (try simp only [List.nil_append, List.cons_append] at N'); (try dsimp only)))
noncomputable def isbRow : Dat → Bool
  | .tuple (.int t :: _) => isb t
  | _ => false
@[irreducible] noncomputable def namF (ds : List Dat) : List Dat := ds.filter isbRow
theorem namedP_mem {c d : List Int} {nt nt2 : Int} {r : Dat} (h : r ∈ namedP c nt d nt2) : ∃ ts, 1 ≤ ts ∧ r = rowD c nt d nt2 ts := by
  unfold namedP rowsP at h
  obtain ⟨ts, hts, rfl⟩ := List.mem_map.mp h
  have h1 := (List.mem_filter.mp hts).1
  unfold rangeKs at h1
  obtain ⟨k, _, rfl⟩ := List.mem_map.mp h1
  exact ⟨_, by omega, rfl⟩
theorem named_at {nx : List (Addr × Obj)} {us : List Value} {c d : List Int} {nt nt2 : Int} {i : Nat} {v : Value} (hD : DatAll nx us (namedP c nt d nt2)) (hv : us.toArray[i]? = some v) :
    ∃ ts a t1 t2 t3 e, 1 ≤ ts ∧ (namedP c nt d nt2)[i]? = some (rowD c nt d nt2 ts) ∧ v = .ref a ∧ (a, tupO [.int ts t1, .int (ilP c nt ts) t2, .int (ilP d nt2 ts) t3] e) ∈ nx ∧ DatIn nx (.ref a) (rowD c nt d nt2 ts) := by
  have hv' : us[i]? = some v := by simpa using hv
  have hi : i < (namedP c nt d nt2).length := by
    rw [← hD.length]
    exact (List.getElem?_eq_some_iff.mp hv').1
  obtain ⟨v', h1, h2⟩ := hD.get hi
  rw [hv'] at h1
  obtain rfl := Option.some.inj h1
  obtain ⟨ts, hts, e⟩ := namedP_mem (List.getElem_mem hi)
  rw [e] at h2
  have h3 := h2
  unfold rowD at h3
  cases h3 with
  | tuple hm hr =>
    cases hr with
    | cons ha hr =>
      cases hr with
      | cons hb hr =>
        cases hr with
        | cons hc hr =>
          cases hr
          cases ha
          cases hb
          cases hc
          exact ⟨ts, _, _, _, _, _, hts, by rw [List.getElem?_eq_getElem hi, e], rfl, hm, h2⟩
theorem namF_one {nx : List (Addr × Obj)} {ys : List Value} {ds : List Dat} {i : Nat} {v : Value} {r : Dat} (h : DatAll nx ys (namF (ds.take i))) (hr : ds[i]? = some r) (hp : isbRow r = true) (hd : DatIn nx v r) : DatAll nx (ys ++ [v]) (namF (ds.take (i + 1))) := by
  have e : namF (ds.take (i + 1)) = namF (ds.take i) ++ [r] := by
    rw [List.take_add_one, hr]
    simp [namF, List.filter_append, hp]
  rw [e]
  exact h.append (.one hd)
theorem namF_no {nx : List (Addr × Obj)} {ys : List Value} {ds : List Dat} {i : Nat} {r : Dat} (h : DatAll nx ys (namF (ds.take i))) (hr : ds[i]? = some r) (hp : isbRow r = false) : DatAll nx ys (namF (ds.take (i + 1))) := by
  have e : namF (ds.take (i + 1)) = namF (ds.take i) := by
    rw [List.take_add_one, hr]
    simp [namF, List.filter_append, hp]
  rw [e]
  exact h
theorem namF_all {nx : List (Addr × Obj)} {ys us : List Value} {ds : List Dat} (hD : DatAll nx us ds) (h : DatAll nx ys (namF (ds.take us.toArray.size))) : DatAll nx ys (namF ds) := by
  have : ds.take us.toArray.size = ds := List.take_of_length_le (by rw [← hD.length]; simp)
  rwa [this] at h
theorem namedP_len {nx : List (Addr × Obj)} {us : List Value} {c d : List Int} {nt nt2 : Int} (hD : DatAll nx us (namedP c nt d nt2)) (hc : c.length < 100) (hd : d.length < 100) : us.length < 200 := by
  rw [hD.length]
  unfold namedP rowsP
  rw [List.length_map]
  refine Nat.lt_of_le_of_lt (List.length_filter_le _ _) ?_
  have hb1 : 0 ≤ longP c ∧ longP c < 100 := by unfold longP; split <;> omega
  have hb2 : 0 ≤ longP d ∧ longP d < 100 := by unfold longP; split <;> omega
  rw [rangeKs_length]
  split <;> omega
@[irreducible] noncomputable def pows (i : Nat) : List Int := (List.range i).map fun k => (2 : Int) ^ k
theorem pows_succ {ys : List Value} {i : Nat} {v : Int} {t : Tok} (h : IntsAre ys (pows i)) (hv : v = 2 ^ i) : IntsAre (ys ++ [.int v t]) (pows (i + 1)) := by
  have e : pows (i + 1) = pows i ++ [2 ^ i] := by simp [pows, List.range_succ]
  rw [e, hv]
  exact h.append (.cons _ t .nil)
theorem pows_length (i : Nat) : (pows i).length = i := by simp [pows]
theorem news_tail {h : Heap} {led nx : List (Addr × Obj)} {p q r : Addr × Obj} (N : News h₀ L h (p :: q :: r :: nx)) (hs : ∀ x ∈ led, x ∈ nx) : News h₀ L h (p :: q :: r :: (led ++ nx)) := fun x hx => N x (by
  simp only [List.mem_cons, List.mem_append] at hx ⊢
  rcases hx with h | h | h | h | h
  · exact .inl h
  · exact .inr (.inl h)
  · exact .inr (.inr (.inl h))
  · exact .inr (.inr (.inr (hs x h)))
  · exact .inr (.inr (.inr h)))
noncomputable def flagP (xs : List Int) (b : Bool) : Bool := (oddP (countsP xs) 3 [1, 2, 4] != 0) != (b && decide (longP (countsP xs) < 2))
noncomputable def MoveR (x1 x2 x3 : Int) (b own : Bool) (p l : Int) : Prop :=
  (p = 0 ∧ 0 ≤ l ∧ l < x1 ∨ p = 1 ∧ 0 ≤ l ∧ l < x2 ∨ p = 2 ∧ 0 ≤ l ∧ l < x3) ∧ flagP ([x1, x2, x3].set p.toNat l) b = !own
noncomputable def AfterR (x1 x2 x3 p l y1 y2 y3 : Int) : Prop := p = 0 ∧ y1 = l ∧ y2 = x2 ∧ y3 = x3 ∨ p = 1 ∧ y1 = x1 ∧ y2 = l ∧ y3 = x3 ∨ p = 2 ∧ y1 = x1 ∧ y2 = x2 ∧ y3 = l
noncomputable def rowE (xs ys : List Int) (sz : Int) : Dat := .tuple [.int sz, .int (colP xs sz 3), .int (colP ys sz 3)]
noncomputable def all8 (p : Nat → Bool) : Bool := (List.range 8).all p
theorem all8_at {p : Nat → Bool} (h : all8 p = true) {x : Int} (hx : 0 ≤ x ∧ x < 8) : ∃ a : Nat, x = a ∧ a < 8 ∧ p a = true :=
  ⟨x.toNat, by omega, by omega, List.all_eq_true.mp h _ (by simp; omega)⟩
noncomputable def boolAll (p : Bool → Bool) : Bool := p true && p false
theorem boolAll_at {p : Bool → Bool} (h : boolAll p = true) (b : Bool) : p b = true := by
  unfold boolAll at h
  rw [Bool.and_eq_true] at h
  cases b
  · exact h.2
  · exact h.1
noncomputable def flagN (a b c : Nat) (β : Bool) : Bool := ((a ^^^ b ^^^ c) != 0) != (β && (decide (a < 2) && decide (b < 2) && decide (c < 2)))
theorem flag_all : (all8 fun a => all8 fun b => all8 fun c => (flagP [(a : Int), b, c] true == flagN a b c true) && (flagP [(a : Int), b, c] false == flagN a b c false)) = true := by decide +kernel
theorem flag_is {a b c : Nat} (ha : a < 8) (hb : b < 8) (hc : c < 8) (β : Bool) : flagP [(a : Int), b, c] β = flagN a b c β := by
  have h := List.all_eq_true.mp (List.all_eq_true.mp (List.all_eq_true.mp flag_all a (by simpa using ha)) b (by simpa using hb)) c (by simpa using hc)
  rw [Bool.and_eq_true] at h
  cases β
  · exact eq_of_beq h.2
  · exact eq_of_beq h.1
theorem ownA_all : (all8 fun a => all8 fun b => all8 fun c => !(flagN a b c true) || !(decide (a < 2) && decide (b < 2) && decide (c < 2)) || a + b + c == 0 || (a == 1 && b == 1 && c == 0) || (a == 1 && b == 0 && c == 1) || (a == 0 && b == 1 && c == 1)) = true := by decide +kernel
theorem long_is {x1 x2 x3 : Int} (h1 : 0 ≤ x1) (h2 : 0 ≤ x2) (h3 : 0 ≤ x3) : longP (countsP [x1, x2, x3]) = max (max x1 x2) x3 := by
  have h := countsP_length (rs := [x1, x2, x3]) (by simp; omega)
  simp only [List.foldl_cons, List.foldl_nil] at h
  unfold longP
  split <;> omega
theorem ownA_fact {x1 x2 x3 : Int} (h1 : 0 ≤ x1 ∧ x1 < 8) (h2 : 0 ≤ x2 ∧ x2 < 8) (h3 : 0 ≤ x3 ∧ x3 < 8) (ho : true = flagP [x1, x2, x3] true) (hl : longP (countsP [x1, x2, x3]) < 2) (hz : 0 < x1 + x2 + x3) :
    (x1 = 1 ∧ x2 = 1 ∧ x3 = 0 ∨ x1 = 1 ∧ x2 = 0 ∧ x3 = 1 ∨ x1 = 0 ∧ x2 = 1 ∧ x3 = 1) ∧ MoveR x1 x2 x3 true true (1 - x1) 0 := by
  have key : x1 = 1 ∧ x2 = 1 ∧ x3 = 0 ∨ x1 = 1 ∧ x2 = 0 ∧ x3 = 1 ∨ x1 = 0 ∧ x2 = 1 ∧ x3 = 1 := by
    rw [long_is h1.1 h2.1 h3.1] at hl
    obtain ⟨a, rfl⟩ : ∃ a : Nat, x1 = a := ⟨x1.toNat, by omega⟩
    obtain ⟨b, rfl⟩ : ∃ a : Nat, x2 = a := ⟨x2.toNat, by omega⟩
    obtain ⟨c, rfl⟩ : ∃ a : Nat, x3 = a := ⟨x3.toNat, by omega⟩
    have h := List.all_eq_true.mp (List.all_eq_true.mp (List.all_eq_true.mp ownA_all a (by simp; omega)) b (by simp; omega)) c (by simp; omega)
    rw [flag_is (by omega) (by omega) (by omega)] at ho
    rw [← ho] at h
    simp at h
    omega
  refine ⟨key, ?_⟩
  rcases key with ⟨rfl, rfl, rfl⟩ | ⟨rfl, rfl, rfl⟩ | ⟨rfl, rfl, rfl⟩
  · exact ⟨.inl ⟨rfl, by decide, by decide⟩, by decide +kernel⟩
  · exact ⟨.inl ⟨rfl, by decide, by decide⟩, by decide +kernel⟩
  · exact ⟨.inr (.inl ⟨rfl, by decide, by decide⟩), by decide +kernel⟩
/-- an own move, to be looked at -/
noncomputable def ownOk (a b c : Nat) (β : Bool) : Bool :=
  match idxL (ownT [(a : Int), b, c] (oddP (countsP [(a : Int), b, c]) 3 [1, 2, 4])) 3 with
  | [] => false
  | p :: _ => decide (0 ≤ hbit (oddP (countsP [(a : Int), b, c]) 3 [1, 2, 4])) && decide (hbit (oddP (countsP [(a : Int), b, c]) 3 [1, 2, 4]) < 3) &&
    (let l := leftP [(a : Int), b, c] p (oddP (countsP [(a : Int), b, c]) 3 [1, 2, 4]) β
     decide (0 ≤ l) && ((p == 0 && decide (l < a) && !(flagN l.toNat b c β)) || (p == 1 && decide (l < b) && !(flagN a l.toNat c β)) || (p == 2 && decide (l < c) && !(flagN a b l.toNat β))))
theorem ownB_all : (all8 fun a => all8 fun b => all8 fun c => boolAll fun β => !(flagN a b c β) || (β && (decide (a < 2) && decide (b < 2) && decide (c < 2))) || ownOk a b c β) = true := by decide +kernel
theorem ownB_fact {x1 x2 x3 : Int} {b : Bool} (h1 : 0 ≤ x1 ∧ x1 < 8) (h2 : 0 ≤ x2 ∧ x2 < 8) (h3 : 0 ≤ x3 ∧ x3 < 8) (ho : true = flagP [x1, x2, x3] b) (hl : b = false ∨ b = true ∧ ¬ longP (countsP [x1, x2, x3]) < 2) :
    ∃ p pl, idxL (ownT [x1, x2, x3] (oddP (countsP [x1, x2, x3]) 3 [1, 2, 4])) 3 = p :: pl ∧ (p = 0 ∨ p = 1 ∨ p = 2) ∧ (0 ≤ hbit (oddP (countsP [x1, x2, x3]) 3 [1, 2, 4]) ∧ hbit (oddP (countsP [x1, x2, x3]) 3 [1, 2, 4]) < 3) ∧ MoveR x1 x2 x3 b true p (leftP [x1, x2, x3] p (oddP (countsP [x1, x2, x3]) 3 [1, 2, 4]) b) := by
  rw [long_is h1.1 h2.1 h3.1] at hl
  obtain ⟨a, rfl⟩ : ∃ a : Nat, x1 = a := ⟨x1.toNat, by omega⟩
  obtain ⟨a2, rfl⟩ : ∃ a : Nat, x2 = a := ⟨x2.toNat, by omega⟩
  obtain ⟨c, rfl⟩ : ∃ a : Nat, x3 = a := ⟨x3.toNat, by omega⟩
  have h := boolAll_at (List.all_eq_true.mp (List.all_eq_true.mp (List.all_eq_true.mp ownB_all a (by simp; omega)) a2 (by simp; omega)) c (by simp; omega)) b
  rw [flag_is (by omega) (by omega) (by omega)] at ho
  rw [← ho] at h
  have hb : (b && (decide (a < 2) && decide (a2 < 2) && decide (c < 2))) = false := by
    rcases hl with rfl | ⟨rfl, hl⟩
    · rfl
    · rw [Bool.true_and, Bool.eq_false_iff]
      intro hh
      simp at hh
      omega
  rw [hb] at h
  simp only [Bool.not_true, Bool.false_or] at h
  unfold ownOk at h
  generalize hlist : idxL (ownT [(a : Int), a2, c] (oddP (countsP [(a : Int), a2, c]) 3 [1, 2, 4])) 3 = pl at h
  generalize oddP (countsP [(a : Int), a2, c]) 3 [1, 2, 4] = od at h hlist ⊢
  cases pl with
  | nil => simp at h
  | cons p pl =>
    simp only [Bool.and_eq_true, Bool.or_eq_true, decide_eq_true_eq, beq_iff_eq, Bool.not_eq_true'] at h
    obtain ⟨⟨hb0, hb3⟩, hl0, hm⟩ := h
    refine ⟨p, pl, rfl, ?_, ⟨hb0, hb3⟩, ?_⟩
    · omega
    · have ht : ((leftP [(a : Int), a2, c] p od b).toNat : Int) = leftP [(a : Int), a2, c] p od b := Int.toNat_of_nonneg hl0
      generalize leftP [(a : Int), a2, c] p od b = l at hl0 hm ht ⊢
      rcases hm with (⟨⟨rfl, hlt⟩, hf⟩ | ⟨⟨rfl, hlt⟩, hf⟩) | ⟨⟨rfl, hlt⟩, hf⟩
      · refine ⟨.inl ⟨rfl, hl0, hlt⟩, ?_⟩
        rw [← flag_is (by omega) (by omega) (by omega), ht] at hf
        exact hf
      · refine ⟨.inr (.inl ⟨rfl, hl0, hlt⟩), ?_⟩
        rw [← flag_is (by omega) (by omega) (by omega), ht] at hf
        exact hf
      · refine ⟨.inr (.inr ⟨rfl, hl0, hlt⟩), ?_⟩
        rw [← flag_is (by omega) (by omega) (by omega), ht] at hf
        exact hf
theorem other_all : (all8 fun a => all8 fun b => all8 fun c => boolAll fun β => flagN a b c β || all8 fun l => (!(decide (l < a)) || flagN l b c β) && (!(decide (l < b)) || flagN a l c β) && (!(decide (l < c)) || flagN a b l β)) = true := by decide +kernel
theorem other_fact {x1 x2 x3 p l : Int} {b : Bool} (h1 : 0 ≤ x1 ∧ x1 < 8) (h2 : 0 ≤ x2 ∧ x2 < 8) (h3 : 0 ≤ x3 ∧ x3 < 8) (ho : false = flagP [x1, x2, x3] b) (hm : p = 0 ∧ 0 ≤ l ∧ l < x1 ∨ p = 1 ∧ 0 ≤ l ∧ l < x2 ∨ p = 2 ∧ 0 ≤ l ∧ l < x3) : MoveR x1 x2 x3 b false p l := by
  refine ⟨hm, ?_⟩
  obtain ⟨a, rfl⟩ : ∃ a : Nat, x1 = a := ⟨x1.toNat, by omega⟩
  obtain ⟨a2, rfl⟩ : ∃ a : Nat, x2 = a := ⟨x2.toNat, by omega⟩
  obtain ⟨c, rfl⟩ : ∃ a : Nat, x3 = a := ⟨x3.toNat, by omega⟩
  obtain ⟨k, rfl⟩ : ∃ a : Nat, l = a := ⟨l.toNat, by omega⟩
  have h := boolAll_at (List.all_eq_true.mp (List.all_eq_true.mp (List.all_eq_true.mp other_all a (by simp; omega)) a2 (by simp; omega)) c (by simp; omega)) b
  rw [flag_is (by omega) (by omega) (by omega)] at ho
  rw [← ho, Bool.false_or] at h
  have h' := List.all_eq_true.mp h k (by simp; omega)
  simp only [Bool.and_eq_true, Bool.or_eq_true, Bool.not_eq_true', decide_eq_false_iff_not] at h'
  obtain ⟨⟨q1, q2⟩, q3⟩ := h'
  rcases hm with ⟨rfl, _, hlt⟩ | ⟨rfl, _, hlt⟩ | ⟨rfl, _, hlt⟩
  · show flagP [(k : Int), a2, c] b = true
    rw [flag_is (by omega) (by omega) (by omega)]
    rcases q1 with q | q
    · exact absurd (by omega) q
    · exact q
  · show flagP [(a : Int), k, c] b = true
    rw [flag_is (by omega) (by omega) (by omega)]
    rcases q2 with q | q
    · exact absurd (by omega) q
    · exact q
  · show flagP [(a : Int), a2, k] b = true
    rw [flag_is (by omega) (by omega) (by omega)]
    rcases q3 with q | q
    · exact absurd (by omega) q
    · exact q
theorem flag_end (b : Bool) : flagP [0, 0, 0] b = b := by
  cases b <;> decide +kernel
theorem bit_all : (all8 fun x => all8 fun l => !(decide (l < x)) || (decide (0 ≤ hbit (Builtin.bitXor (x : Int) l)) && decide (hbit (Builtin.bitXor (x : Int) l) < 3))) = true := by decide +kernel
theorem bit_fact {x l : Int} (h : x < 8) (h0 : 0 ≤ l) (hl : l < x) : 0 ≤ hbit (Builtin.bitXor x l) ∧ hbit (Builtin.bitXor x l) < 3 := by
  obtain ⟨a, rfl⟩ : ∃ a : Nat, x = a := ⟨x.toNat, by omega⟩
  obtain ⟨k, rfl⟩ : ∃ a : Nat, l = a := ⟨l.toNat, by omega⟩
  have h := List.all_eq_true.mp (List.all_eq_true.mp bit_all a (by simp; omega)) k (by simp; omega)
  simp only [Bool.and_eq_true, Bool.or_eq_true, Bool.not_eq_true', decide_eq_false_iff_not, decide_eq_true_eq] at h
  rcases h with h | h
  · exact absurd (by omega) h
  · exact h
theorem seen_all : (all8 fun x => all8 fun l => !(decide (l < x)) || all8 fun n => !(decide (x ≤ n)) || ((rangeKs 1 (n + 1)).filter fun ts => isb ts && (Int.fdiv (x : Int) ts != Int.fdiv (l : Int) ts)) == pows (hbit (Builtin.bitXor (x : Int) l) + 1).toNat) = true := by decide +kernel
theorem seen_fact {x l : Int} {n : Nat} (h : x < 8) (h0 : 0 ≤ l) (hl : l < x) (hn : x ≤ n) (hn8 : n < 8) : ((rangeKs 1 (n + 1)).filter fun ts => isb ts && (Int.fdiv x ts != Int.fdiv l ts)) = pows (hbit (Builtin.bitXor x l) + 1).toNat := by
  obtain ⟨a, rfl⟩ : ∃ a : Nat, x = a := ⟨x.toNat, by omega⟩
  obtain ⟨k, rfl⟩ : ∃ a : Nat, l = a := ⟨l.toNat, by omega⟩
  have h := List.all_eq_true.mp (List.all_eq_true.mp seen_all a (by simp; omega)) k (by simp; omega)
  rw [Bool.or_eq_true] at h
  rcases h with h | h
  · simp at h; omega
  · have h' := List.all_eq_true.mp h n (by simpa using hn8)
    rw [Bool.or_eq_true] at h'
    rcases h' with h' | h'
    · simp at h'; omega
    · exact eq_of_beq h'
theorem il_col {xs : List Int} (h : ∀ r ∈ xs, 0 ≤ r) {ts : Int} (hts : 1 ≤ ts) : ilP (countsP xs) 3 ts = colP xs ts 3 := by
  rw [il_counts h hts]; unfold colP; rfl
theorem named_fact {x1 x2 x3 p l y1 y2 y3 : Int} (h1 : 0 ≤ x1 ∧ x1 < 8) (h2 : 0 ≤ x2 ∧ x2 < 8) (h3 : 0 ≤ x3 ∧ x3 < 8) (hm : p = 0 ∧ 0 ≤ l ∧ l < x1 ∨ p = 1 ∧ 0 ≤ l ∧ l < x2 ∨ p = 2 ∧ 0 ≤ l ∧ l < x3) (hy : AfterR x1 x2 x3 p l y1 y2 y3) :
    namF (namedP (countsP [x1, x2, x3]) 3 (countsP [y1, y2, y3]) 3) = (pows (hbit (Builtin.bitXor ([x1, x2, x3].getD p.toNat 0) l) + 1).toNat).map (rowE [x1, x2, x3] [y1, y2, y3]) := by
  have hx : ∀ r ∈ [x1, x2, x3], 0 ≤ r := by simp; omega
  have hy0 : 0 ≤ y1 ∧ 0 ≤ y2 ∧ 0 ≤ y3 := by rcases hy with h | h | h <;> rcases hm with h' | h' | h' <;> omega
  have hyy : ∀ r ∈ [y1, y2, y3], 0 ≤ r := by simp; omega
  unfold namedP
  rw [long_is h1.1 h2.1 h3.1, long_is hy0.1 hy0.2.1 hy0.2.2]
  obtain ⟨n, hn, hn8, hnx⟩ : ∃ n : Nat, (if max (max y1 y2) y3 > max (max x1 x2) x3 then max (max y1 y2) y3 else max (max x1 x2) x3) = n ∧ n < 8 ∧ (x1 ≤ n ∧ x2 ≤ n ∧ x3 ≤ n) := by
    refine ⟨(max (max x1 x2) x3).toNat, ?_, by omega, by omega⟩
    rw [if_neg]
    · omega
    · rcases hy with h | h | h <;> rcases hm with h' | h' | h' <;> omega
  rw [hn]
  have e : ((n : Int) + 1 + 1 - 1).toNat = n + 1 := by omega
  rw [e]
  unfold namF rowsP
  rw [List.filter_map, List.filter_filter]
  have key : (rangeKs 1 (n + 1)).filter (fun a => (isbRow ∘ rowD (countsP [x1, x2, x3]) 3 (countsP [y1, y2, y3]) 3) a && (ilP (countsP [x1, x2, x3]) 3 a != ilP (countsP [y1, y2, y3]) 3 a)) = pows (hbit (Builtin.bitXor ([x1, x2, x3].getD p.toNat 0) l) + 1).toNat := by
    have hfd : ∀ ts ∈ rangeKs 1 (n + 1), 1 ≤ ts := by
      intro ts h
      unfold rangeKs at h
      obtain ⟨k, _, rfl⟩ := List.mem_map.mp h
      omega
    have hne : ∀ ts : Int, 1 ≤ ts → (colP [x1, x2, x3] ts 3 != colP [y1, y2, y3] ts 3) = (Int.fdiv ([x1, x2, x3].getD p.toNat 0) ts != Int.fdiv l ts) := by
      intro ts hts
      have this : ∀ a b c d : Int, (a = b ↔ c = d) → (a != b) = (c != d) := by
        intro a b c d h
        rw [Bool.eq_iff_iff, bne_iff_ne, bne_iff_ne]
        exact not_congr h
      apply this
      unfold colP
      rw [Int.mul_eq_mul_left_iff (by omega)]
      simp only [List.map_cons, List.map_nil, List.sum_cons, List.sum_nil]
      rcases hm with ⟨rfl, _, _⟩ | ⟨rfl, _, _⟩ | ⟨rfl, _, _⟩ <;> rcases hy with ⟨q, rfl, rfl, rfl⟩ | ⟨q, rfl, rfl, rfl⟩ | ⟨q, rfl, rfl, rfl⟩ <;> first | omega | (simp; done) | (simp; omega)
    rcases hm with ⟨rfl, hl0, hl⟩ | ⟨rfl, hl0, hl⟩ | ⟨rfl, hl0, hl⟩
    · rw [show [x1, x2, x3].getD (Int.toNat 0) 0 = x1 from rfl] at hne ⊢
      rw [← seen_fact h1.2 hl0 hl hnx.1 hn8]
      refine List.filter_congr fun ts hts => ?_
      rw [il_col hx (hfd ts hts), il_col hyy (hfd ts hts), hne ts (hfd ts hts)]; rfl
    · rw [show [x1, x2, x3].getD (Int.toNat 1) 0 = x2 from rfl] at hne ⊢
      rw [← seen_fact h2.2 hl0 hl hnx.2.1 hn8]
      refine List.filter_congr fun ts hts => ?_
      rw [il_col hx (hfd ts hts), il_col hyy (hfd ts hts), hne ts (hfd ts hts)]; rfl
    · rw [show [x1, x2, x3].getD (Int.toNat 2) 0 = x3 from rfl] at hne ⊢
      rw [← seen_fact h3.2 hl0 hl hnx.2.2 hn8]
      refine List.filter_congr fun ts hts => ?_
      rw [il_col hx (hfd ts hts), il_col hyy (hfd ts hts), hne ts (hfd ts hts)]; rfl
  rw [key]
  refine List.map_congr_left fun z hz => ?_
  have hz1 : 1 ≤ z := by
    unfold pows at hz
    obtain ⟨k, _, rfl⟩ := List.mem_map.mp hz
    exact Int.pow_pos (by decide)
  unfold rowD rowE
  rw [il_col hx hz1, il_col hyy hz1]
theorem getD_fact {x1 x2 x3 p l : Int} (h1 : x1 < 8) (h2 : x2 < 8) (h3 : x3 < 8) (hm : p = 0 ∧ 0 ≤ l ∧ l < x1 ∨ p = 1 ∧ 0 ≤ l ∧ l < x2 ∨ p = 2 ∧ 0 ≤ l ∧ l < x3) :
    0 ≤ hbit (Builtin.bitXor ([x1, x2, x3].getD p.toNat 0) l) ∧ hbit (Builtin.bitXor ([x1, x2, x3].getD p.toNat 0) l) < 3 := by
  rcases hm with ⟨rfl, hl0, hl⟩ | ⟨rfl, hl0, hl⟩ | ⟨rfl, hl0, hl⟩
  · exact bit_fact h1 hl0 hl
  · exact bit_fact h2 hl0 hl
  · exact bit_fact h3 hl0 hl
theorem after_b {x1 x2 x3 p l y1 y2 y3 : Int} {i : Nat} (hb1 : 0 ≤ x1 ∧ x1 < 8) (hb2 : 0 ≤ x2 ∧ x2 < 8) (hb3 : 0 ≤ x3 ∧ x3 < 8) (hm : p = 0 ∧ 0 ≤ l ∧ l < x1 ∨ p = 1 ∧ 0 ≤ l ∧ l < x2 ∨ p = 2 ∧ 0 ≤ l ∧ l < x3) (hy : AfterR x1 x2 x3 p l y1 y2 y3) (hs : x1 + x2 + x3 + (i : Int) ≤ 21) :
    (0 ≤ y1 ∧ y1 < 8) ∧ (0 ≤ y2 ∧ y2 < 8) ∧ (0 ≤ y3 ∧ y3 < 8) ∧ y1 + y2 + y3 + ((i + 1 : Nat) : Int) ≤ 21 := by
  rcases hy with ⟨rfl, rfl, rfl, rfl⟩ | ⟨rfl, rfl, rfl, rfl⟩ | ⟨rfl, rfl, rfl, rfl⟩ <;> rcases hm with h' | h' | h' <;> omega
theorem flag_after {x1 x2 x3 p l y1 y2 y3 : Int} {b own : Bool} (hy : AfterR x1 x2 x3 p l y1 y2 y3) (h : flagP ([x1, x2, x3].set p.toNat l) b = !own) : flagP [y1, y2, y3] b = !own := by
  rcases hy with ⟨rfl, rfl, rfl, rfl⟩ | ⟨rfl, rfl, rfl, rfl⟩ | ⟨rfl, rfl, rfl, rfl⟩ <;> exact h
end
section
local macro_rules | `(tactic| walk_at "call builtin:len") => `(tactic| (k_here; (with_reducible show wpAny _ _ (call (Value.builtin "len") [Value.ref _]) _ _ _); k_dflt (refine' PyProof.Rows.len_tuple (News.isTup (by k_asm) (by k_mem)) (by ((simp only [List.size_toArray]); omega)) ?_)))
variable {w : World} {mean : ExcName → Option Value} {mg mb : Str → Option Value} {dp un : Nat} {gd : Option (List Code)} {cn : Str} {cs : Scope} {a : Addr} {ccd : Value} {cl : List (Str × Addr)} {outer : List Env} {A₀ : Around} {base h₀ : Heap} {L : Addr} {m : Str → Option Value} {s : Shared} {Q E : Value → Shared → Prop} {news : List (Addr × Obj)}
local macro_rules | `(tactic| walk_at "subscriptTail Name Name ref int") => `(tactic| (k_here; k_dflt (refine' item_tupI (News.isTup (by k_asm) (by k_mem)) (by assumption) (by omega) (by omega) (by omega) ?_); intro t9'))
local macro_rules | `(tactic| walk_at "binaryOp Mult int int") => `(tactic| (k_here; (with_reducible show wpAny _ _ (binaryOp Operator.Mult (Value.int (Int.fdiv _ _) _) (Value.int _ _)) _ _ _); refine PyProof.Rows.mul_int (hm := mulOk_div (by omega) (by omega) (by omega)) ?_))
local macro_rules | `(tactic| k_ne) => `(tactic| first | ((refine neN ?_); (try dsimp only); first | assumption | (refine Ne.symm ?_; assumption)) | ((refine neN ?_); (try dsimp only); first | exact off1_ne (by assumption) (by k_mem) | exact Ne.symm (off1_ne (by assumption) (by k_mem))) | (refine neN ?_; (try dsimp only); omega) | ((try dsimp only); exact ne_news (by assumption) (by k_mem) (by k_mem) (by first | exact type_ne (by decide) | (intro hh; cases hh))))
local macro_rules | `(tactic| lcg_off) => `(tactic| assumption)
local macro_rules | `(tactic| walk_at "FinE") => `(tactic| ((unfold LCg.FinE); intro D' h' tk' F' N' o1'; (try simp only [List.nil_append, List.cons_append] at N'); (try dsimp only)))
local macro_rules | `(tactic| walk_at "FinA") => `(tactic| ((unfold LCg.FinA); intro D' h' tk' F' N' o1'; (try simp only [List.nil_append, List.cons_append] at N'); (try dsimp only)))
noncomputable def GoOn : Prop := True
noncomputable def MidV (h₀ : Heap) (L : Addr) (x : Str) (v : Value) (m : Str → Option Value) (news : List (Addr × Obj)) (s : Shared) (fl : Flow) (s' : Shared) : Prop :=
  fl = .next ∧ ∃ h' tk', s' = { s with heap := h', toks := tk' } ∧ Fr h₀ L h' (fun y => if y = x then some v else m y) ∧ News h₀ L h' news
noncomputable def MidP (h₀ : Heap) (L : Addr) (R : Int → Int → Prop) (m : Str → Option Value) (news : List (Addr × Obj)) (s : Shared) (fl : Flow) (s' : Shared) : Prop :=
  fl = .next ∧ ∃ h' tk' p l u1 u2, s' = { s with heap := h', toks := tk' } ∧ Fr h₀ L h' (fun y => if y = Str.ofString "left" then some (.int l u2) else if y = Str.ofString "place" then some (.int p u1) else m y) ∧ News h₀ L h' news ∧ R p l
theorem MidV.mk {x : Str} {v v' : Value} {h' : Heap} {tk' : Nat} {all : List (Addr × Obj)} (F : Fr h₀ L h' (fun y => if y = x then some v' else m y)) (e : v' = v) (N : News h₀ L h' all) (hs : ∀ p ∈ news, p ∈ all) :
    MidV h₀ L x v m news s .next { s with heap := h', toks := tk' } :=
  ⟨rfl, h', tk', rfl, e ▸ F, fun p hp => N p (hs p hp)⟩
theorem MidP.mk {R : Int → Int → Prop} {p l : Int} {u1 u2 : Tok} {h' : Heap} {tk' : Nat} {all : List (Addr × Obj)} (F : Fr h₀ L h' (fun y => if y = Str.ofString "left" then some (.int l u2) else if y = Str.ofString "place" then some (.int p u1) else m y)) (N : News h₀ L h' all) (hs : ∀ p ∈ news, p ∈ all) (hr : R p l) :
    MidP h₀ L R m news s .next { s with heap := h', toks := tk' } :=
  ⟨rfl, h', tk', p, l, u1, u2, rfl, F, fun p hp => N p (hs p hp), hr⟩
section
variable {prog : Program} {A : Around} {t : Sem Flow}
theorem assign_mid {QF : Flow → Shared → Prop} (x : Str) (v : Value) (F : Fr h₀ L s.heap m) (N : News h₀ L s.heap news)
    (main : wpAny (model prog w) A t (MidV h₀ L x v m news s) E s)
    (rest : ∀ h' tk', Fr h₀ L h' (fun y => if y = x then some v else m y) → News h₀ L h' news → QF .next { s with heap := h', toks := tk' }) : wpAny (model prog w) A t QF E s := by
  refine wpAny_mono main (fun fl s' h => ?_) fun _ _ h => h
  obtain ⟨rfl, h', tk', rfl, F', N'⟩ := h
  exact rest h' tk' F' N'
theorem pair_mid {QF : Flow → Shared → Prop} (R : Int → Int → Prop) (F : Fr h₀ L s.heap m) (N : News h₀ L s.heap news)
    (main : wpAny (model prog w) A t (MidP h₀ L R m news s) E s)
    (rest : ∀ h' tk' p l u1 u2, R p l → Fr h₀ L h' (fun y => if y = Str.ofString "left" then some (.int l u2) else if y = Str.ofString "place" then some (.int p u1) else m y) → News h₀ L h' news → QF .next { s with heap := h', toks := tk' }) : wpAny (model prog w) A t QF E s := by
  refine wpAny_mono main (fun fl s' h => ?_) fun _ _ h => h
  obtain ⟨rfl, h', tk', p, l, u1, u2, rfl, F', N', hr⟩ := h
  exact rest h' tk' p l u1 u2 hr F' N'
end
theorem ne_cellL {h : Heap} {all : List (Addr × Obj)} {a b : Addr} {o o' : Obj} {v : Option Value} (N : News h₀ L h all) (ha : (a, o) ∈ all) (hb : (b, o') ∈ all) (hd : o.data = Data.cell v) (hn : o'.data ≠ Data.cell v) : @Ne Nat a b := by
  intro e
  have h1 := (N _ ha).1
  have h2 := (N _ hb).1
  have e' : a = b := e
  subst e'
  rw [h1] at h2
  have h3 : o = o' := Option.some.inj h2
  exact hn (h3 ▸ hd)
theorem ne_cellR {h : Heap} {all : List (Addr × Obj)} {a b : Addr} {o o' : Obj} {v : Option Value} (N : News h₀ L h all) (ha : (a, o) ∈ all) (hb : (b, o') ∈ all) (hd : o.data = Data.cell v) (hn : o'.data ≠ Data.cell v) : @Ne Nat b a :=
  Ne.symm (ne_cellL N ha hb hd hn)
theorem off1_of {D : Addr} : ∀ {l : List (Addr × Obj)}, (∀ p ∈ l, p.1 ≠ D) → LCg.Off1 D l
  | [], _ => trivial
  | p :: _, h => ⟨h p (.head _), off1_of fun q hq => h q (.tail _ hq)⟩
noncomputable def MidA (h₀ : Heap) (L : Addr) (R : Int → Int → Int → Prop) (m : Str → Option Value) (led : Obj → List (Addr × Obj)) (s : Shared) (fl : Flow) (s' : Shared) : Prop :=
  fl = .next ∧ ∃ h' tk' D oa y1 y2 y3 t1 t2 t3 k, s' = { s with heap := h', toks := tk' } ∧ Fr h₀ L h' m ∧ News h₀ L h' ((D, W.listOf [Value.int y1 t1, Value.int y2 t2, Value.int y3 t3].toArray k) :: led oa) ∧ oa.data = Data.cell (some (.ref D)) ∧ R y1 y2 y3
theorem MidA.mk {R : Int → Int → Int → Prop} {led : Obj → List (Addr × Obj)} {h' : Heap} {tk' k : Nat} {D : Addr} {oa : Obj} {y1 y2 y3 : Int} {t1 t2 t3 : Tok} {all : List (Addr × Obj)} (F : Fr h₀ L h' m) (N : News h₀ L h' all) (hd : oa.data = Data.cell (some (.ref D)))
    (hs : ∀ p ∈ (D, W.listOf [Value.int y1 t1, Value.int y2 t2, Value.int y3 t3].toArray k) :: led oa, p ∈ all) (hr : R y1 y2 y3) : MidA h₀ L R m led s .next { s with heap := h', toks := tk' } :=
  ⟨rfl, h', tk', D, oa, y1, y2, y3, t1, t2, t3, k, rfl, F, fun p hp => N p (hs p hp), hd, hr⟩
theorem after_mid {prog : Program} {A : Around} {t : Sem Flow} {QF : Flow → Shared → Prop} {oa₀ : Obj} (R : Int → Int → Int → Prop) (led : Obj → List (Addr × Obj)) (F : Fr h₀ L s.heap m) (N : News h₀ L s.heap (led oa₀))
    (main : wpAny (model prog w) A t (MidA h₀ L R m led s) E s)
    (rest : ∀ h' tk' D oa y1 y2 y3 t1 t2 t3 k, R y1 y2 y3 → oa.data = Data.cell (some (.ref D)) → Fr h₀ L h' m → News h₀ L h' ((D, W.listOf [Value.int y1 t1, Value.int y2 t2, Value.int y3 t3].toArray k) :: led oa) → QF .next { s with heap := h', toks := tk' }) : wpAny (model prog w) A t QF E s := by
  refine wpAny_mono main (fun fl s' h => ?_) fun _ _ h => h
  obtain ⟨rfl, h', tk', D, oa, y1, y2, y3, t1, t2, t3, k, rfl, F', N', hd, hr⟩ := h
  exact rest h' tk' D oa y1 y2 y3 t1 t2 t3 k hr hd F' N'
theorem sizes_eq : List.foldl (fun l' k' => if isb k' = true then l' ++ [k'] else if isb k' = false then l' else l') [] (rangeKs 0 (8 - 0 : Int).toNat) = [1, 2, 4] := by decide +kernel
theorem news_sub {h₀ h : Heap} {L : Addr} {all small : List (Addr × Obj)} (N : News h₀ L h all) (hs : ∀ p ∈ small, p ∈ all) : News h₀ L h small := fun p hp => N p (hs p hp)
set_option genSizeOf false in
set_option genInjectivity false in
structure G1 where
  xl : Addr
  x1 : Int
  x2 : Int
  x3 : Int
  a1 : Tok
  a2 : Tok
  a3 : Tok
  kk : Nat
  lx : Addr
  dx : Addr
  tn : Addr
  tc : Addr
  vs : List Value
  k1 : Tok
  k2 : Tok
  k3 : Tok
  k4 : Tok
  k5 : Tok
  t1 : Tok
  t2 : Tok
  t3 : Tok
  t4 : Tok
  e1 : Nat
  e2 : Nat
  own : Bool
  od : Tok
  oc : Obj
  oa : Obj
noncomputable def G1.xs (g : G1) : List Int := [g.x1, g.x2, g.x3]
noncomputable def LInv (b : Bool) (i : Nat) (g : G1) : Prop := (0 ≤ g.x1 ∧ g.x1 < 8) ∧ (0 ≤ g.x2 ∧ g.x2 < 8) ∧ (0 ≤ g.x3 ∧ g.x3 < 8) ∧ IntsAre g.vs (countsP [g.x1, g.x2, g.x3]) ∧ (countsP [g.x1, g.x2, g.x3]).length ≤ 30 ∧
  g.oc.data = Data.cell (some (.ref g.xl)) ∧ (∃ v, g.oa.data = Data.cell v) ∧ g.own = flagP [g.x1, g.x2, g.x3] b ∧ g.x1 + g.x2 + g.x3 + i ≤ 21
theorem new_spec2 {x y : Addr} {c d : List Int} {n nt n2 nt2 : Int} (B : Below A₀ base outer h₀) (F : Fr h₀ L s.heap m) (X : (hd.heap_39 w.params).In h₀) (N : News h₀ L s.heap news) (T : Top hd.view_39 (looseW hd.view_39 [Str.ofString "Whitespace"]) mean mg mb h₀) (hk : cs.kind = .function) (hdp : dp + 2 < recursionLimit) (hun : un + 20 < cLine)
    (hl : LeadIn w news x c n nt) (hl2 : LeadIn w news y d n2 nt2) (hc : c.length < 100) (hd : d.length < 100)
    (hret : ∀ ra us k tl h' tk', Fr h₀ L h' m → News h₀ L h' ((ra, W.listOf us.toArray k) :: (news ++ tl)) → DatAll ((ra, W.listOf us.toArray k) :: (news ++ tl)) us (namedP c nt d nt2) → Q (.ref ra) {s with heap := h', toks := tk'}) :
    wpAny (model PySem.Challenge.rw_re0074_01.row.prog w) (ktrTop dp un gd cn cs L a ccd cl outer) (call (.ref 66) [.ref x, .ref y]) Q E s := by
  refine new_spec B F X N T hk hdp hun hl hl2 hc hd fun ra us k tl h' tk' F' N' hD => ?_
  have hs : ∀ p ∈ news ++ tl, p ∈ tl ++ news := fun p hp => (List.mem_append.mp hp).elim (fun h => List.mem_append_right _ h) fun h => List.mem_append_left _ h
  have hs' : ∀ p ∈ tl ++ news, p ∈ news ++ tl := fun p hp => (List.mem_append.mp hp).elim (fun h => List.mem_append_right _ h) fun h => List.mem_append_left _ h
  refine hret ra us k tl h' tk' F' (fun p hp => N' p ?_) (DatAll.mono (fun p hp => List.mem_cons_of_mem _ (hs' p hp)) hD)
  rcases List.mem_cons.mp hp with rfl | hp
  · exact List.mem_cons_self
  · exact List.mem_cons_of_mem _ (hs p hp)
noncomputable def HoldC : Prop := True
end
section
local macro_rules | `(tactic| walk_at "call builtin:len") => `(tactic| (k_here; (with_reducible show wpAny _ _ (call (Value.builtin "len") [Value.ref _]) _ _ _); k_dflt (refine' PyProof.Rows.len_tuple (News.isTup (by k_asm) (by k_mem)) (by ((simp only [List.size_toArray]); omega)) ?_)))
variable {w : World} {mean : ExcName → Option Value} {mg mb : Str → Option Value} {dp un : Nat} {gd : Option (List Code)} {cn : Str} {cs : Scope} {a : Addr} {ccd : Value} {cl : List (Str × Addr)} {outer : List Env} {A₀ : Around} {base h₀ : Heap} {L : Addr} {m : Str → Option Value} {s : Shared} {Q E : Value → Shared → Prop} {news : List (Addr × Obj)}
local macro_rules | `(tactic| walk_at "subscriptTail Name Name ref int") => `(tactic| (k_here; k_dflt (refine' item_tupI (News.isTup (by k_asm) (by k_mem)) (by assumption) (by omega) (by omega) (by omega) ?_); intro t9'))
local macro_rules | `(tactic| walk_at "binaryOp Mult int int") => `(tactic| (k_here; (with_reducible show wpAny _ _ (binaryOp Operator.Mult (Value.int (Int.fdiv _ _) _) (Value.int _ _)) _ _ _); refine PyProof.Rows.mul_int (hm := mulOk_div (by omega) (by omega) (by omega)) ?_))
local macro_rules | `(tactic| k_ne) => `(tactic| first | ((refine neN ?_); (try dsimp only); first | assumption | (refine Ne.symm ?_; assumption)) | ((refine neN ?_); (try dsimp only); first | exact off1_ne (by assumption) (by k_mem) | exact Ne.symm (off1_ne (by assumption) (by k_mem))) | (refine neN ?_; (try dsimp only); omega) | ((try dsimp only); exact ne_news (by assumption) (by k_mem) (by k_mem) (by first | exact type_ne (by decide) | (intro hh; cases hh))))
local macro_rules | `(tactic| lcg_off) => `(tactic| assumption)
local macro_rules | `(tactic| walk_at "FinE") => `(tactic| ((unfold LCg.FinE); intro D' h' tk' F' N' o1'; (try simp only [List.nil_append, List.cons_append] at N'); (try dsimp only)))
local macro_rules | `(tactic| walk_at "FinA") => `(tactic| ((unfold LCg.FinA); intro D' h' tk' F' N' o1'; (try simp only [List.nil_append, List.cons_append] at N'); (try dsimp only)))
theorem own_mid {QF : Flow → Shared → Prop} {prog : Program} {A : Around} {t : Sem Flow} {xs : List Int} {vs : List Value} {b : Bool} (F : Fr h₀ L s.heap m) (N : News h₀ L s.heap news) (hI : IntsAre vs (countsP xs)) (hb : m (Str.ofString "loses") = some (.bool b))
    (main : wpAny (model prog w) A t (MidV h₀ L (Str.ofString "own") (.bool (flagP xs b)) m news s) E s)
    (rest : ∀ h' tk' b, Fr h₀ L h' (fun y => if y = Str.ofString "own" then some (.bool (flagP xs b)) else if y = Str.ofString "loses" then some (.bool b) else m y) → News h₀ L h' news → QF .next { s with heap := h', toks := tk' }) : wpAny (model prog w) A t QF E s := by
  refine assign_mid _ _ F N main fun h' tk' F' N' => rest h' tk' b ?_ N'
  have e : (fun y => if y = Str.ofString "loses" then some (.bool b) else m y) = m := funext fun y => by
    by_cases hy : y = Str.ofString "loses"
    · rw [if_pos hy, hy, hb]
    · rw [if_neg hy]
  have e2 : (fun y => if y = Str.ofString "own" then some (Value.bool (flagP xs b)) else if y = Str.ofString "loses" then some (.bool b) else m y) = fun y => if y = Str.ofString "own" then some (Value.bool (flagP xs b)) else m y :=
    funext fun y => by rw [show (if y = Str.ofString "loses" then some (.bool b) else m y) = m y from congrFun e y]
  rw [e2]; exact F'
theorem sum_le {a b c : Int} (ha : 0 ≤ a ∧ a < 8) (hb : 0 ≤ b ∧ b < 8) (hc : 0 ≤ c ∧ c < 8) : a + b + c + ((0 : Nat) : Int) ≤ 21 := by omega
theorem own_t {xs : List Int} {b : Bool} (h : b = true) : Value.bool ((oddP (countsP xs) 3 [1, 2, 4] != 0) != decide (longP (countsP xs) < 2)) = Value.bool (flagP xs b) := by
  subst h; unfold flagP; rw [Bool.true_and]
theorem own_f {xs : List Int} {b : Bool} (h : b = false) : Value.bool ((oddP (countsP xs) 3 [1, 2, 4] != 0) != b) = Value.bool (flagP xs b) := by
  subst h; unfold flagP; rw [Bool.false_and]
theorem rowE_one {nx : List (Addr × Obj)} {zs : List Value} {l xs ys : List Int} {i e : Nat} {z : Int} {t : Addr} {u1 u2 u3 : Tok} (h : DatAll nx zs ((l.take i).map (rowE xs ys))) (hz : l[i]? = some z) :
    DatAll ((t, tupO [.int z u1, .int (colP xs z 3) u2, .int (colP ys z 3) u3] e) :: nx) (zs ++ [.ref t]) ((l.take (i + 1)).map (rowE xs ys)) := by
  rw [List.take_add_one, hz, List.map_append]
  exact (h.mono fun p hp => List.mem_cons_of_mem _ hp).append (.one (.tuple List.mem_cons_self (.cons (.int _ _) (.cons (.int _ _) (.cons (.int _ _) .nil)))))
theorem compEnd_tup {S : List (Addr × Obj) → Prop} {rest : Value → List (Addr × Obj) → Prop} {y : Value} {I C D t : Addr} {oI oC oD o : Obj} {s₁ : Shared} {h' : Heap} {tk : Nat} {all nx : List (Addr × Obj)} (F : Fr h₀ L h' m) (N : News h₀ L h' all)
    (hs : ∀ p ∈ (I, oI) :: (C, oC) :: (D, oD) :: (t, o) :: nx, p ∈ all) (off : LCg.Off3 I C D nx) (hI : @LT.lt Nat _ I t) (hC : @LT.lt Nat _ C t) (hD : @LT.lt Nat _ D t) (hS : S ((t, o) :: nx)) (r : rest y ((t, o) :: nx)) :
    LCg.CompEnd h₀ L m s₁ I oI C oC D oD S rest y { s₁ with heap := h', toks := tk } :=
  LCg.CompEnd.intro F N _ hs ⟨⟨Ne.symm (Nat.ne_of_lt hI), Ne.symm (Nat.ne_of_lt hC), Ne.symm (Nat.ne_of_lt hD)⟩, off⟩ hS r
theorem news_tail1 {h : Heap} {led nx : List (Addr × Obj)} {p : Addr × Obj} (N : News h₀ L h (p :: nx)) (hs : ∀ x ∈ led, x ∈ nx) : News h₀ L h (p :: (led ++ nx)) := fun x hx => N x (by
  simp only [List.mem_cons, List.mem_append] at hx ⊢
  rcases hx with h | h | h
  · exact .inl h
  · exact .inr (hs x h)
  · exact .inr h)
theorem rowE_ok {xs ys l : List Int} : ∀ d ∈ l.map (rowE xs ys), kqdOk 8 d = true := by
  intro d hd
  obtain ⟨z, _, rfl⟩ := List.mem_map.mp hd
  rfl
theorem pows_bnd {n i : Nat} {z : Int} (hn : n < 4) (h : (pows n)[i]? = some z) : 1 ≤ z ∧ z < 100 := by
  have hm := List.mem_of_getElem? h
  unfold pows at hm
  obtain ⟨k, hk, rfl⟩ := List.mem_map.mp hm
  have hk' : k < n := by simpa using hk
  have : k = 0 ∨ k = 1 ∨ k = 2 := by omega
  rcases this with rfl | rfl | rfl <;> decide
theorem prune {h : Heap} {all small : List (Addr × Obj)} {P : Prop} (N : News h₀ L h all) (hs : ∀ x ∈ small, x ∈ all) (k : News h₀ L h small → P) : P := k fun p hp => N p (hs p hp)
theorem pre_nil {t : List (Addr × Obj)} : ∀ x ∈ ([] : List (Addr × Obj)), x ∈ t := List.forall_mem_nil _
theorem pre_cons {a : Addr × Obj} {l t : List (Addr × Obj)} (h : ∀ x ∈ l, x ∈ t) : ∀ x ∈ a :: l, x ∈ a :: t := List.forall_mem_cons.mpr ⟨List.mem_cons_self, fun x hx => List.mem_cons_of_mem _ (h x hx)⟩
theorem pre_skip {a : Addr × Obj} {l t : List (Addr × Obj)} (h : ∀ x ∈ l, x ∈ t) : ∀ x ∈ l, x ∈ a :: t := fun x hx => List.mem_cons_of_mem _ (h x hx)
theorem ret_t {xs : List Int} {b own : Bool} (hb : b = true) (h : ((!own) != ((oddP (countsP xs) 3 [1, 2, 4] != 0) != decide (longP (countsP xs) < 2))) = true) (hf : flagP xs b = !own) : False := by
  subst hb
  unfold flagP at hf
  rw [Bool.true_and] at hf
  rw [hf] at h
  simp at h
theorem ret_f {xs : List Int} {b own : Bool} (hb : b = false) (h : ((!own) != ((oddP (countsP xs) 3 [1, 2, 4] != 0) != b)) = true) (hf : flagP xs b = !own) : False := by
  subst hb
  unfold flagP at hf
  rw [Bool.false_and] at hf
  rw [hf] at h
  simp at h
end
section
local macro_rules | `(tactic| walk_at "call builtin:len") => `(tactic| (k_here; (with_reducible show wpAny _ _ (call (Value.builtin "len") [Value.ref _]) _ _ _); k_dflt (refine' PyProof.Rows.len_tuple (News.isTup (by k_asm) (by k_mem)) (by ((simp only [List.size_toArray]); omega)) ?_)))
local macro_rules | `(tactic| walk_at "subscriptTail Name Name ref int") => `(tactic| (k_here; k_dflt (refine' item_tupI (News.isTup (by k_asm) (by k_mem)) (by assumption) (by omega) (by omega) (by omega) ?_); intro t9'))
local macro_rules | `(tactic| walk_at "binaryOp Mult int int") => `(tactic| (k_here; (with_reducible show wpAny _ _ (binaryOp Operator.Mult (Value.int (Int.fdiv _ _) _) (Value.int _ _)) _ _ _); refine PyProof.Rows.mul_int (hm := mulOk_div (by omega) (by omega) (by omega)) ?_))
local macro_rules | `(tactic| k_ne) => `(tactic| first | ((refine neN ?_); (try dsimp only); first | assumption | (refine Ne.symm ?_; assumption)) | ((refine neN ?_); (try dsimp only); first | exact off1_ne (by assumption) (by k_mem) | exact Ne.symm (off1_ne (by assumption) (by k_mem))) | (refine neN ?_; (try dsimp only); omega) | ((try dsimp only); exact ne_news (by assumption) (by k_mem) (by k_mem) (by first | exact type_ne (by decide) | (intro hh; cases hh))))
local macro_rules | `(tactic| lcg_off) => `(tactic| assumption)
local macro_rules | `(tactic| walk_at "FinE") => `(tactic| ((unfold LCg.FinE); intro D' h' tk' F' N' o1'; (try simp only [List.nil_append, List.cons_append] at N'); (try dsimp only)))
local macro_rules | `(tactic| walk_at "FinA") => `(tactic| ((unfold LCg.FinA); intro D' h' tk' F' N' o1'; (try simp only [List.nil_append, List.cons_append] at N'); (try dsimp only)))
local macro_rules | `(tactic| walk_at "call ref") => `(tactic| (k_here; (try dsimp only [List.cons_append, List.nil_append, List.append_nil]); first | ((with_reducible show wpAny _ _ (call (Value.ref 52) _) _ _ _); k_dflt (refine' il_spec (by k_asm) (by k_asm) (by k_asm) (by k_asm) (by k_asm) (by first | assumption | exact rfl) (by ktr_room) (by ktr_units) (LeadIn.mk (by k_mem) (by k_mem) (by k_mem) (by k_mem) (by assumption)) (by assumption) (by omega) (by omega) ?_); intros; (try dsimp only)) | ((with_reducible show wpAny _ _ (call (Value.ref 45) _) _ _ _); k_dflt (refine' long_spec (by k_asm) (by k_asm) (by k_asm) (by k_asm) (by k_asm) (by first | assumption | exact rfl) (by ktr_room) (by ktr_units) (LeadIn.mk (by k_mem) (by k_mem) (by k_mem) (by k_mem) (by assumption)) (by first | assumption | omega) ?_); intros; (try dsimp only))))
local macro_rules | `(tactic| walk_at "call ref") => `(tactic| (k_here; (try dsimp only [List.cons_append, List.nil_append, List.append_nil]); first | ((with_reducible show wpAny _ _ (call (Value.ref 94) _) _ _ _); k_dflt (refine' isb_spec (by k_asm) (by k_asm) (by k_asm) (by k_asm) (by k_asm) (by first | assumption | exact rfl) (by ktr_room) (by ktr_units)  ?_); intros; (try dsimp only)) | ((with_reducible show wpAny _ _ (call (Value.ref 101) _) _ _ _); k_dflt (refine' hb_spec (by k_asm) (by k_asm) (by k_asm) (by k_asm) (by k_asm) (by first | assumption | exact rfl) (by ktr_room) (by ktr_units)  ?_); intros; (try dsimp only))))
local macro_rules | `(tactic| walk_at "call ref") => `(tactic| (k_here; (try dsimp only [List.cons_append, List.nil_append, List.append_nil]); (with_reducible show wpAny _ _ (call (Value.ref 106) [_]) _ _ _); k_dflt (refine' lead_spec ?k1 ?k2 ?k3 ?k4 ?k5 ?k6 ?k7 ?k8 ?k9 ?ka ?kb ?kc ?_; (case k1 => k_asm); (case k2 => k_asm); (case k3 => k_asm); (case k4 => k_asm); (case k5 => k_asm); (case k6 => first | assumption | exact rfl); (case k7 => ktr_room); (case k8 => ktr_units); (case k9 => k_mem); (case ka => first | exact fmod_bnd (by decide) | assumption); (case kb => first | exact fmod_bnd (by decide) | assumption); (case kc => first | exact fmod_bnd (by decide) | assumption)); intro x9' dx9' tn9' tc9' vs9' k1' k2' k3' k4' k5' t1' t2' t3' t4' e1' e2' h9' tk9' F9' N9' hI9' hc9'; (try dsimp only)))
local macro_rules | `(tactic| walk_at "call ref") => `(tactic| (k_here; (try dsimp only [List.cons_append, List.nil_append, List.append_nil]); (with_reducible show wpAny _ _ (call (Value.ref 116) [_, _]) _ _ _); k_dflt (refine' odd_spec ?k1 ?k2 ?k3 ?k4 ?k5 ?k6 ?k7 ?k8 ?k9 ?kz ?ky ?kx ?ka ?kb ?_; (case k1 => k_asm); (case k2 => k_asm); (case k3 => k_asm); (case k4 => k_asm); (case k5 => k_asm); (case k6 => first | assumption | exact rfl); (case k7 => ktr_room); (case k8 => ktr_units); (case k9 => k_mem); (case kz => assumption); (case ky => decide); (case kx => decide); (case ka => exact LeadIn.mk (by k_mem) (by k_mem) (by k_mem) (by k_mem) (by assumption)); (case kb => omega)); intro t9' h9' tk9' F9' N9'; (try dsimp only)))
local macro_rules | `(tactic| walk_at "subscriptTail Name Slice ref ref") => `(tactic| (k_here; (with_reducible show wpAny _ _ (subscriptTail _ (PySem.Expr.Slice _ _ (some _) _) (Value.ref _) (Value.ref _)) _ _ _); k_dflt (refine' slice3_ints (by k_asm) (by k_asm) (by kmk_list) (by kmk_part) (by kmk_part) (by kmk_part) (by decide) (by l_ints) ?_ (by with_unfolding_all rfl) (by kmk_pure) (by ((simp only [sizeLine_eq]); omega))); intro D' us' ms' h' F' N' l1 hI' hL'; (try k_lt l1)))
local macro_rules | `(tactic| walk_at "call ref") => `(tactic| (k_here; (try dsimp only [List.cons_append, List.nil_append, List.append_nil]); first | ((with_reducible show wpAny _ _ (call (Value.ref 66) _) _ _ _); k_dflt (refine' new_spec2 (by k_asm) (by k_asm) (by k_asm) (by k_asm) (by k_asm) (by first | assumption | exact rfl) (by ktr_room) (by ktr_units) (LeadIn.mk (by k_mem) (by k_mem) (by k_mem) (by k_mem) (by assumption)) (LeadIn.mk (by k_mem) (by k_mem) (by k_mem) (by k_mem) (by assumption)) (by omega) (by omega) ?_); intro ra9' us9' k9' tl9' h9' tk9' F9' N9' hD9'; (try simp only [List.cons_append, List.nil_append] at N9' hD9'); (try dsimp only))))
local macro_rules | `(tactic| walk_at "call ref") => `(tactic| (k_here; (try dsimp only [List.cons_append, List.nil_append, List.append_nil]); (with_reducible show wpAny _ _ (call (Value.ref 111) [_, _]) _ _ _); k_dflt (refine' col_spec ?k1 ?k2 ?k3 ?k4 ?k5 ?k6 ?k7 ?k8 ?k9 ?ka ?kb ?_; (case k1 => k_asm); (case k2 => k_asm); (case k3 => k_asm); (case k4 => k_asm); (case k5 => k_asm); (case k6 => first | assumption | exact rfl); (case k7 => ktr_room); (case k8 => ktr_units); (case k9 => k_mem); (case ka => omega); (case kb => omega)); intro t9' h9' tk9' F9' N9'; (try dsimp only)))
local macro_rules | `(tactic| walk_at "subscriptTail") => `(tactic| (k_here; (with_reducible show wpAny _ _ (subscriptTail (PySem.Expr.Name _ _) (PySem.Expr.Constant _ _ _) (Value.ref _) (Value.int _ _)) _ _ _); k_dflt (refine' item_tupleT ?t ?a ?b ?c ?d ?_; (case t => exact News.isTup (by k_asm) (by assumption)); (case a => decide); (case b => decide); (case c => rfl); (case d => rfl); k_whole)))
local macro_rules | `(tactic| walk_at "call ref") => `(tactic| (k_here; (try dsimp only [List.cons_append, List.nil_append, List.append_nil]); (with_reducible show wpAny _ _ (call (Value.ref 121) [_, _, _, Value.bool true]) _ _ _); k_dflt (refine' own_specA ?k1 ?k2 ?k3 ?k4 ?k5 ?k6 ?k7 ?k8 ?k9 ?ka ?kb ?kc ?kd ?_; (case kd => assumption); (case kc => assumption); (case k1 => k_asm); (case k2 => k_asm); (case k3 => k_asm); (case k4 => k_asm); (case k5 => k_asm); (case k6 => first | assumption | exact rfl); (case k7 => ktr_room); (case k8 => ktr_units); (case k9 => k_mem); (case ka => exact LeadIn.mk (by k_mem) (by k_mem) (by k_mem) (by k_mem) (by assumption)); (case kb => omega)); intro ta9' p9' u9' v9' e9' h9' tk9' F9' N9' hp9'; (try dsimp only)))
local macro_rules | `(tactic| walk_at "call ref") => `(tactic| (k_here; (try dsimp only [List.cons_append, List.nil_append, List.append_nil]); (with_reducible show wpAny _ _ (call (Value.ref 121) [_, _, _, _]) _ _ _); k_dflt (refine' own_specB ?k1 ?k2 ?k3 ?k4 ?k5 ?k6 ?k7 ?k8 ?k9 ?b1 ?b2 ?b3 ?ka ?kb ?kc ?kd ?ke ?kf ?_; (case kc => assumption); (case kd => assumption); (case ke => assumption); (case kf => assumption); (case k1 => k_asm); (case k2 => k_asm); (case k3 => k_asm); (case k4 => k_asm); (case k5 => k_asm); (case k6 => first | assumption | exact rfl); (case k7 => ktr_room); (case k8 => ktr_units); (case k9 => k_mem); (case b1 => assumption); (case b2 => assumption); (case b3 => assumption); (case ka => exact LeadIn.mk (by k_mem) (by k_mem) (by k_mem) (by k_mem) (by assumption)); (case kb => omega)); intro ta9' l9' u9' v9' e9' h9' tk9' F9' N9' hp9'; (try dsimp only)))
local macro_rules | `(tactic| walk_at "call ref") => `(tactic| (k_here; (try dsimp only [List.cons_append, List.nil_append, List.append_nil]); (with_reducible show wpAny _ _ (call (Value.ref 126) [_, _]) _ _ _); k_dflt (refine' other_spec ?k1 ?k2 ?k3 ?k4 ?k5 ?k6 ?k7 ?k8 ?k9 ?b1 ?b2 ?b3 ?kb ?_; (case k1 => k_asm); (case k2 => k_asm); (case k3 => k_asm); (case k4 => k_asm); (case k5 => k_asm); (case k6 => first | assumption | exact rfl); (case k7 => ktr_room); (case k8 => ktr_units); (case k9 => k_mem); (case b1 => assumption); (case b2 => assumption); (case b3 => assumption); (case kb => omega)); intro ta9' p9' l9' u9' v9' e9' h9' tk9' F9' N9' hp9'; (try dsimp only)))
local macro_rules | `(tactic| walk_at "eval ListComp") => `(tactic| ((first | ((have : HoldC := by assumption); clear this) | fail "no hold"); refine Hold.stop ?_))
local macro_rules | `(tactic| walk_at "exec Assign cons ListComp") => `(tactic| ((first | ((have : HoldC := by assumption); clear this) | fail "no hold"); refine Hold.stop ?_))
local macro_rules | `(tactic| walk_at "pyIter ref") => `(tactic| ((fail_if_success (have : GoOn := by assumption)); refine Hold.stop ?_))
local macro_rules | `(tactic| walk_at "exec Assign") => `(tactic| ((with_reducible show wpAny _ _ (exec (Stmt.Assign _ (PySem.Expr.Compare _ [CmpOp.NotEq] _ _) _) _) _ _ _); (fail_if_success (have : GoOn := by assumption)); refine Hold.stop ?_))
local macro_rules | `(tactic| walk_at "exec If") => `(tactic| refine wpAny_If ?_)
local macro_rules | `(tactic| walk_at "exec If") => `(tactic| ((with_reducible show wpAny _ _ (exec (Stmt.If (PySem.Expr.Name _ _) _ _ _) _) _ _ _); (fail_if_success (have : GoOn := by assumption)); refine Hold.stop ?_))
local macro_rules | `(tactic| walk_at "FinA") => `(tactic| ((unfold LCg.FinA); intro D' h' tk' F' N' o1'; (try simp only [List.nil_append, List.cons_append] at N'); (try rw [sizes_eq] at *); (try dsimp only)))
local macro_rules | `(tactic| k_ne) => `(tactic| ((try dsimp only); first | exact ne_cellL (by assumption) (by k_mem) (by k_mem) (by assumption) (by intro hh; cases hh) | exact ne_cellR (by assumption) (by k_mem) (by k_mem) (by assumption) (by intro hh; cases hh) | exact off1_ne (by assumption) (by k_mem) | exact Ne.symm (off1_ne (by assumption) (by k_mem)) | fail "no"))
set_option maxHeartbeats 8000000 in
theorem law_holds : PySem.Challenge.rw_re0074_01.Holds := hd (by
  k_go0
  k_with_none
  k_steps
  w_top off
  refine Hold.go ?_
  refine own_mid (by k_asm) (by k_asm) (by assumption) (by with_unfolding_all rfl) ?_ ?_
  · have gon : GoOn := trivial
    k_steps
    · exact MidV.mk (by k_asm) (own_t (beq_iff_eq.mpr (by assumption))) (by k_asm) fun _ h => h
    · exact MidV.mk (by k_asm) (own_f (beq_eq_false_iff_ne.mpr (by assumption))) (by k_asm) fun _ h => h
  · intro h' tk' b F' N'
    dsimp only
    k_steps
    refine Hold.go ?_
    refine' range_loop (σ := G1) (n := 22) (by assumption) (by decide) (by decide) rfl
      (fun g => [(g.lx, instObj 83 g.dx), (g.dx, leadDict _ (runsT [g.x1, g.x2, g.x3]) (countsP [g.x1, g.x2, g.x3]) (lenP [g.x1, g.x2, g.x3]) 3 g.tn g.k1 g.k2 g.k3 g.k4 g.k5 g.t1 g.t2 g.t3), (g.tn, tupO [.ref g.tc, .int 0 g.t4] g.e1), (g.tc, tupO g.vs g.e2), (g.xl, W.listOf [Value.int g.x1 g.a1, Value.int g.x2 g.a2, Value.int g.x3 g.a3].toArray g.kk), (_, LCg.lst ys), (?La + 1 + 1, g.oa), (?La + 1, g.oc)])
      (fun g => [(Str.ofString "own", .bool g.own), (Str.ofString "odd", .int (oddP (countsP [g.x1, g.x2, g.x3]) 3 [1, 2, 4]) g.od), (Str.ofString "lead", .ref g.lx), (Str.ofString "loses", .bool b), (Str.ofString "sizes", .ref _), (Str.ofString "script", .ref _)])
      (fun i g => LInv b i g)
      ⟨_, _, _, _, _, _, _, _, _, _, _, _, _, _, _, _, _, _, _, _, _, _, _, _, _, _, _, _⟩
      (by k_asm) (news_sub (by k_asm) ?zs) ?zp ?zi ?zt ?zd
    case zs => dsimp only; (first | ((repeat (first | apply pre_cons | apply pre_skip)); exact pre_nil) | ((repeat (refine sub_cons (by k_mem) ?_)); exact List.forall_mem_nil _))
    case zp => kst_all
    case zi =>
      exact ⟨fmod_bnd (by decide), fmod_bnd (by decide), fmod_bnd (by decide), by assumption, by assumption, by assumption, ⟨_, by assumption⟩, rfl, sum_le (fmod_bnd (by decide)) (fmod_bnd (by decide)) (fmod_bnd (by decide))⟩
    case zd =>
      rintro ⟨xl, x1, x2, x3, a1, a2, a3, kk, lx, dx, tn, tc, vs, k1, k2, k3, k4, k5, t1, t2, t3, t4, e1, e2, own, od, oc, oa⟩ u h tk ⟨hb1, hb2, hb3, hI, hcl, hoc, hoa, hown, hsum⟩
      dsimp only at hb1 hb2 hb3 hsum
      omega
    case zt =>
      rintro I i ti ⟨xl, x1, x2, x3, a1, a2, a3, kk, lx, dx, tn, tc, vs, k1, k2, k3, k4, k5, t1, t2, t3, t4, e1, e2, own, od, oc, oa⟩ u h tk io hi ⟨hb1, hb2, hb3, hI, hcl, hoc, ⟨va, hoa⟩, hown, hsum⟩ hcls hne F2 N2
      dsimp only at hb1 hb2 hb3 hI hcl hoc hoa hown hsum F2 N2
      have hoff := off1_of hne
      dsimp only at hoff
      clear hne
      k_steps
      · have e1 : x1 = 0 := by omega
        have e2 : x2 = 0 := by omega
        have e3 : x3 = 0 := by omega
        subst e1 e2 e3
        rw [flag_end] at hown
        subst hown
        unfold TEnd
        dsimp only
        k_steps
      · refine Hold.go ?_
        refine pair_mid (MoveR x1 x2 x3 b own) (by k_asm) (by k_asm) ?_ ?_
        · have gon : GoOn := trivial
          have hz : 0 < x1 + x2 + x3 := by omega
          cases own with
          | true =>
            by_cases hA : b = true ∧ longP (countsP [x1, x2, x3]) < 2
            · obtain ⟨rfl, hlong⟩ := hA
              obtain ⟨hxs, hmv⟩ := ownA_fact hb1 hb2 hb3 hown hlong hz
              k_steps
              refine' MidP.mk (by k_asm) (by k_asm) ?hs ?hr
              case hs => (first | ((repeat (first | apply pre_cons | apply pre_skip)); exact pre_nil) | ((repeat (refine sub_cons (by k_mem) ?_)); exact List.forall_mem_nil _))
              case hr =>
                rename _ = 1 - x1 => e
                rw [e]; exact hmv
            · have hB : b = false ∨ b = true ∧ ¬ longP (countsP [x1, x2, x3]) < 2 := by
                cases b
                · exact .inl rfl
                · exact .inr ⟨rfl, fun h => hA ⟨rfl, h⟩⟩
              obtain ⟨p, pl, hlist, hp, hh, hmv⟩ := ownB_fact hb1 hb2 hb3 hown hB
              k_steps
              refine' MidP.mk (by k_asm) (by k_asm) ?hs ?hr
              case hs => (first | ((repeat (first | apply pre_cons | apply pre_skip)); exact pre_nil) | ((repeat (refine sub_cons (by k_mem) ?_)); exact List.forall_mem_nil _))
              case hr =>
                rename _ = leftP _ _ _ _ => e
                rw [e]; exact hmv
          | false =>
            k_steps
            all_goals (refine' MidP.mk (by k_asm) (by k_asm) ?hs ?hr; (case hs => (first | ((repeat (first | apply pre_cons | apply pre_skip)); exact pre_nil) | ((repeat (refine sub_cons (by k_mem) ?_)); exact List.forall_mem_nil _))); (case hr => exact other_fact hb1 hb2 hb3 hown (by assumption)))
        · intro h' tk' p l u1 u2 hr F' N'
          dsimp only
          obtain ⟨hm, hfl⟩ := hr
          walk1
          refine after_mid (AfterR x1 x2 x3 p l) (fun o => [(I, io), (lx, instObj 83 dx), (dx, leadDict _ (runsT [x1, x2, x3]) (countsP [x1, x2, x3]) (lenP [x1, x2, x3]) 3 tn k1 k2 k3 k4 k5 t1 t2 t3), (tn, tupO [.ref tc, .int 0 t4] e1), (tc, tupO vs e2), (xl, W.listOf [Value.int x1 a1, Value.int x2 a2, Value.int x3 a3].toArray kk), (_, LCg.lst ys), (_ + 1 + 1, o), (?La + 1, oc)]) (by k_asm) (by k_asm) ?_ ?_
          · rcases hm with ⟨rfl, hl0, hlx⟩ | ⟨rfl, hl0, hlx⟩ | ⟨rfl, hl0, hlx⟩
            all_goals k_steps
            all_goals (refine' MidA.mk (by k_asm) (by k_asm) ?hd ?hs ?hr; (case hs => (try dsimp only); (first | ((repeat (first | apply pre_cons | apply pre_skip)); exact pre_nil) | ((repeat (refine sub_cons (by k_mem) ?_)); exact List.forall_mem_nil _))); (case hd => assumption); (case hr => first | exact .inl ⟨rfl, rfl, rfl, rfl⟩ | exact .inr (.inl ⟨rfl, rfl, rfl, rfl⟩) | exact .inr (.inr ⟨rfl, rfl, rfl, rfl⟩)))
          · intro h' tk' D oa' y1 y2 y3 b1 b2 b3 k' hy hoa' F' N'
            dsimp only at N' ⊢
            have hcm : HoldC := trivial
            have hyy := after_b hb1 hb2 hb3 hm hy hsum
            have hy1 := hyy.1
            have hy2 := hyy.2.1
            have hy3 := hyy.2.2.1
            have hysum := hyy.2.2.2
            clear hyy
            k_steps
            all_goals refine Hold.go ?_
            k_dflt (refine LCt.Assign_ListComp_T (F₀ := by k_asm) (by rfl) (by with_unfolding_all rfl) (by rfl) (by decide) (by rfl) (by decide) (by rfl) (by rfl) (by rfl) ?_)
            iterate 9 (first | walk1 | (dsimp only; walk1))
            rename DatAll _ _ (namedP _ _ _ _) => hD
            have hus := namedP_len hD (by omega) (by omega)
            k_dflt (refine LCt.CompSrcT.ledger (by rfl) (by k_asm) (by k_asm) (by k_mem) (by simp only [List.size_toArray, sizeLine_eq]; omega) ?_)
            intro g2
            refine compT_ind (fun i ys nx => nx = _ ∧ DatAll nx ys (namF ((namedP (countsP [x1, x2, x3]) 3 (countsP [y1, y2, y3]) 3).take i))) ?_ ?_ _ 0 [] _ (Nat.zero_add _) ⟨rfl, by unfold namF; exact .nil⟩
            · rintro i ys nx v I' oI C oC DD m₂ h tk E' hi ⟨rfl, hys⟩ hv hC hx F2 N2 off ne
              obtain ⟨ts, ra, u1, u2, u3, e, hts, hds, rfl, hmem, hin⟩ := named_at hD hv
              clear ne
              have hmem3 := List.mem_cons_of_mem (I', oI) (List.mem_cons_of_mem (C, oC) (List.mem_cons_of_mem (DD, LCg.lst ys) hmem))
              k_steps
              · exact LCg.CompEnd.intro (by k_asm) (by k_asm) _ (fun _ h => h) off (.inr ⟨_, List.mem_cons_self, rfl, _, rfl⟩) ⟨rfl, namF_one hys hds (show isb ts = true by assumption) hin⟩
              · exact LCg.CompEnd.intro (by k_asm) (by k_asm) _ (fun _ h => h) off (.inr ⟨_, List.mem_cons_self, rfl, _, rfl⟩) ⟨rfl, namF_no hys hds (show isb ts = false by assumption)⟩
            · rintro ys nx ⟨rfl, hys⟩
              have hys' := namF_all hD hys
              clear hys
              k_steps
              have hv : 0 ≤ hbit (Builtin.bitXor ([x1, x2, x3].getD p.toNat 0) l) ∧ hbit (Builtin.bitXor ([x1, x2, x3].getD p.toNat 0) l) < 3 := getD_fact hb1.2 hb2.2 hb3.2 hm
              refine Hold.go ?_
              k_dflt (refine LCg.Assign_ListComp_U (F₀ := by k_asm) (by rfl) (by with_unfolding_all rfl) (by rfl) (by decide) (by rfl) (by decide) (by rfl) (by rfl) (by rfl) ?_)
              iterate 23 (first | walk1 | (dsimp only; walk1))
              k_dflt (refine LCg.CompSrc.range (n := (hbit (Builtin.bitXor ([x1, x2, x3].getD p.toNat 0) l) + 1).toNat) (by rfl) (by k_asm) (by k_asm) (by assumption) (small_one (by omega) (by omega) (by omega) (by omega)) (by rw [rangeSize_nat]; congr 1; omega) (by simp only [sizeLine_eq]; omega) ?_)
              intro g2
              refine comp_ind (fun i ys nx => nx = _ ∧ IntsAre ys (pows i)) ?_ ?_ _ 0 [] _ (Nat.zero_add _) ⟨rfl, by unfold pows; exact .nil⟩
              · rintro i ys nx v I' oI C oC DD m₂ h tk E' hi ⟨rfl, hys⟩ ⟨tv, rfl⟩ hC hx F2 N2 off ne
                clear ne
                k_steps
                exact LCg.CompEnd.intro (by k_asm) (by k_asm) _ (fun _ h => h) off trivial ⟨rfl, pows_succ hys (by congr 1; omega)⟩
              · rintro ys nx ⟨rfl, hys⟩
                have hpl := IntsAre.length hys
                rw [pows_length] at hpl
                k_steps
                have hfl' : flagP [y1, y2, y3] b = !own := flag_after hy hfl
                refine Hold.go ?_
                k_dflt (refine LCg.ListComp_U (F₀ := by k_asm) (by rfl) (by decide) (by rfl) (by decide) (by rfl) ?_)
                walk1
                k_dflt (refine LCg.CompSrc.ledger (by rfl) (by k_asm) (by k_asm) (by k_mem) (by simp only [List.size_toArray, sizeLine_eq]; omega) ?_)
                intro g2
                refine comp_ind (fun i ys nx => (∀ p ∈ _, p ∈ nx) ∧ DatAll nx ys (((pows (hbit (Builtin.bitXor ([x1, x2, x3].getD p.toNat 0) l) + 1).toNat).take i).map (rowE [x1, x2, x3] [y1, y2, y3]))) ?_ ?_ _ 0 [] _ (Nat.zero_add _) ⟨fun _ h => h, .nil⟩
                · rintro i zs nx v I' oI C oC DD m₂ h tk E' hi ⟨hsub, hzs⟩ hv' hC hx F2 N2 off ne
                  clear ne
                  obtain ⟨z, tz, rfl, hz⟩ := hys.at i v (by simpa using hv')
                  have hzb := pows_bnd (by omega) hz
                  have N3 : News _ _ h ((I', oI) :: (C, oC) :: (DD, LCg.lst zs) :: (_ ++ nx)) := news_tail N2 hsub
                  simp only [List.cons_append, List.nil_append] at N3
                  clear N2
                  k_steps
                  refine' compEnd_tup (by k_asm) (by k_asm) ?hs off (by omega) (by omega) (by omega) (.inr ⟨_, List.mem_cons_of_mem _ (hsub _ (by k_mem)), rfl, _, rfl⟩) ⟨fun p hp => List.mem_cons_of_mem _ (hsub p hp), rowE_one hzs hz⟩
                  case hs => iterate 4 (refine sub_cons (by k_mem) ?_)
                             intro p9 h9; (repeat (refine List.Mem.tail _ ?_)); first | exact h9 | exact List.mem_append_right _ h9
                · rintro zs nx ⟨hsub, hzs⟩
                  unfold LCg.FinE; intro D6 h6 tk6 F6 N6 o6
                  have N7 : News _ _ h6 ((D6, LCg.lst zs) :: (_ ++ nx)) := news_tail1 N6 hsub
                  simp only [List.cons_append, List.nil_append] at N7
                  clear N6
                  have hplain : namF (namedP (countsP [x1, x2, x3]) 3 (countsP [y1, y2, y3]) 3) = (pows (hbit (Builtin.bitXor ([x1, x2, x3].getD p.toNat 0) l) + 1).toNat).map (rowE [x1, x2, x3] [y1, y2, y3]) := named_fact hb1 hb2 hb3 hm hy
                  rw [hplain] at hys'
                  rw [List.take_of_length_le (by simp only [List.size_toArray, pows_length]; omega)] at hzs
                  refine kqd_ne (by k_asm) (by k_mem) rfl rfl hys' (by kqd_sub) (by k_mem) rfl rfl hzs (by kqd_sub) rowE_ok rowE_ok (by ke_room) ?_
                  simp only [decide_true, Bool.not_true]
                  refine' prune N7 ?hs ?go
                  case hs => (iterate 4 apply pre_skip); (repeat apply pre_cons); exact pre_nil
                  case go =>
                    intro N8
                    clear N7
                    k_steps
                    · exact (ret_t (by assumption) (by assumption) hfl').elim
                    · refine' TEnd.next (⟨_, y1, y2, y3, _, _, _, _, _, _, _, _, _, _, _, _, _, _, _, _, _, _, _, _, _, _, _, _⟩ : G1) (by k_asm) (by k_asm) ?h1 ?h2 ?h3 ?h4
                      case h1 => (try dsimp only); (first | (refine sub_cons (by k_mem) ?_; (repeat (first | apply pre_cons | apply pre_skip)); exact pre_nil) | ((repeat (refine sub_cons (by k_mem) ?_)); exact List.forall_mem_nil _))
                      case h3 => kst_all
                      case h2 => (try dsimp only); (repeat (refine List.forall_mem_cons.mpr ⟨by first | exact ne_of_cls (by assumption) (by k_mem) (by k_mem) hcls (by first | exact type_ne (by decide) | (intro hh; cases hh)) | k_ne, ?_⟩)); exact List.forall_mem_nil _
                      case h4 => exact ⟨hy1, hy2, hy3, by assumption, by assumption, by assumption, ⟨_, hoa'⟩, hfl'.symm, hysum⟩
                    · exact (ret_f (by assumption) (by assumption) hfl').elim
                    · refine' TEnd.next (⟨_, y1, y2, y3, _, _, _, _, _, _, _, _, _, _, _, _, _, _, _, _, _, _, _, _, _, _, _, _⟩ : G1) (by k_asm) (by k_asm) ?h1 ?h2 ?h3 ?h4
                      case h1 => (try dsimp only); (first | (refine sub_cons (by k_mem) ?_; (repeat (first | apply pre_cons | apply pre_skip)); exact pre_nil) | ((repeat (refine sub_cons (by k_mem) ?_)); exact List.forall_mem_nil _))
                      case h3 => kst_all
                      case h2 => (try dsimp only); (repeat (refine List.forall_mem_cons.mpr ⟨by first | exact ne_of_cls (by assumption) (by k_mem) (by k_mem) hcls (by first | exact type_ne (by decide) | (intro hh; cases hh)) | k_ne, ?_⟩)); exact List.forall_mem_nil _
                      case h4 => exact ⟨hy1, hy2, hy3, by assumption, by assumption, by assumption, ⟨_, hoa'⟩, hfl'.symm, hysum⟩)

end
end Mine
theorem PySem.Challenge.cw_re0074_01_holds : PySem.Challenge.rw_re0074_01.Holds := by
  exact Mine.law_holds
