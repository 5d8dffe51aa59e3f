import PyProof.Rows.All
import Wide.All
import OpenK.AllK
import Wide.FinOn
import Lean
import PySem.Challenge.RW_sr0101_01
open PySem PySem.W PySem.Calls PySem.Spec PyProof.Rows
set_option Elab.async false
set_option rowWalk.seconds 0
namespace Mine
set_option maxRecDepth 100000
set_option maxHeartbeats 8000000
section
variable {prog : Program} {w : World} {A₀ : Around} {E : Value → Shared → Prop} {s' : Shared} {base g h : Heap} {outer : List Env} {L a e : Addr} {m : Str → Option Value} {name : Str} {scope : Scope} {cd : Value} {news : List (Addr × Obj)} {X : String} {hs : List ExceptHandler} {Q : Flow → Shared → Prop}
/-- the heap less the ledger still bears the frame -/
theorem fr_less (F : Fr g L h m) (N : News g L h news) : Fr g L (hideAll h (news.map (·.1))) m := by
  have off : ∀ b o, g.get? b = some o → b ∉ news.map (·.1) := fun b o e q => by
    obtain ⟨p, hp, rfl⟩ := List.mem_map.mp q
    have := (N p hp).2.2
    rw [e] at this; cases this
  obtain ⟨oL, es, ep, hL, hr⟩ := F.ns
  have nL : L ∉ news.map (·.1) := fun q => by
    obtain ⟨p, hp, e⟩ := List.mem_map.mp q
    exact (N p hp).2.1 e
  exact ⟨⟨oL, es, ep, hideAll_get _ hL nL, hr⟩, fun b o e => hideAll_get _ (F.keep b o e) (off b o e), F.above⟩
theorem noted_here (K : Below A₀ base outer g) (hx : Heap.NewExc h s'.heap e X) (F : Fr g L h m) (N : News g L h news)
    (k : ∀ G h', Fr g L G m → RaisedSN base G (envOf name scope L a cd :: outer) e (.type X) news h' → G.UpToSlots h' →
      wpAny (model prog w) (A₀.deeper (envOf name scope L a cd)) (handleBy (.ref e) (envOf name scope L a cd) hs) Q E { s' with heap := h' })
    (hk : scope.kind = .function := by rfl) :
    wpAny (model prog w) (A₀.deeper (envOf name scope L a cd)) (noteFrame (.ref e) (envOf name scope L a cd))
      (fun _ s₂ => wpAny (model prog w) (A₀.deeper (envOf name scope L a cd)) (setFlight (.ref e) none) (fun _ s₃ =>
        wpAny (model prog w) (A₀.deeper (envOf name scope L a cd)) (handleBy (.ref e) (envOf name scope L a cd) hs) Q E s₃) E s₂) E s' := by
  have K' := K.push (name := name) (a := a) (cd := cd) F hk
  have hin : ∀ env ∈ (envOf name scope L a cd :: outer), ∀ b, env.frame = some b → b ∈ (envOf name scope L a cd :: outer).filterMap (·.frame) := fun env he b hb => List.mem_filterMap.mpr ⟨env, he, hb⟩
  have st : base.StaysIn (hideAll h ((envOf name scope L a cd :: outer).filterMap (·.frame))) := fun b o q => hideAll_get _ (K'.stays b o q) fun hm => by
    rw [(K'.frames.mem hm).1] at q; cases q
  have hl : ∀ q ∈ news, (hideAll h ((envOf name scope L a cd :: outer).filterMap (·.frame))).get? q.1 = some q.2 ∧ (hideAll h (news.map (·.1))).get? q.1 = none ∧ base.get? q.1 = none := fun q hq => by
    refine ⟨hideAll_get _ (N q hq).1 fun hm => ?_, hideAll_none _ (List.mem_map_of_mem hq), fresh_of_stays K.stays (N q hq).2.2⟩
    rcases kts_mem hm with z | z
    · exact (N q hq).2.1 z
    · obtain ⟨_, o, ho, _⟩ := K.frames.mem z
      have := (N q hq).2.2
      rw [ho] at this; cases this
  obtain ⟨ob, tp, he, hcls, hd⟩ := hx.there
  have hen : (hideAll h ((envOf name scope L a cd :: outer).filterMap (·.frame))).get? e = none := by
    cases q : (hideAll h ((envOf name scope L a cd :: outer).filterMap (·.frame))).get? e with
    | none => rfl
    | some o => have := of_hideAll _ q; rw [hx.new] at this; cases this
  unfold noteFrame
  simp only [show (envOf name scope L a cd).frame = some L from rfl]
  refine wpAny_bind (wpAny_field he hd (x := .none) rfl ?_)
  rw [if_neg (by decide)]
  refine wpAny_entryW (a0 := tp) K'.stack ((funFrames_hide K'.frames hin).of_keeps fun b o hb _ => ⟨o, hx.keeps b o hb, rfl⟩) rfl he (fun b o hb => hx.keeps b o (of_hideAll _ hb)) hen hd (by show 1 < 6; decide) rfl fun h₁ hN => ?_
  obtain ⟨k1, k2, k3, k4⟩ := hN
  refine wpAny_landsW (base := hideAll h ((envOf name scope L a cd :: outer).filterMap (·.frame))) (l := envOf name scope L a cd :: outer) (cls := .type X) (a0 := tp) (L := L) ⟨k1, hen, k2, hcls ▸ k3⟩ fun h₂ hfl hs₂ => ?_
  exact k (hideAll h (news.map (·.1))) h₂ (fr_less F N) ⟨_, tp, st, fun b o q nm => hideAll_get _ (of_hideAll _ q) nm, hl, hfl⟩
    ((Heap.UpToSlots.of_keeps fun b o q => hx.keeps b o (of_hideAll _ q)).trans (Heap.UpToSlots.trans (fun b o hb hnf => k4 b o hb hnf) hs₂))
end
section
variable {prog : Program} {w : World} {A₀ A : Around} {s : Shared} {base h₀ : Heap} {outer : List Env} {L : Addr} {m : Str → Option Value} {env : Env} {news : List (Addr × Obj)} {K : Frag} {p : Program} {loose : List Str} {mean : ExcName → Option Value} {mg mb : Str → Option Value}
/-- what a callee that may have turned the frames' slots hands back to its caller -/
def BackS (A₀ : Around) (base : Heap) (outer : List Env) (K : Frag) (p : Program) (loose : List Str) (mean : ExcName → Option Value) (mg mb : Str → Option Value) (h₀ : Heap) (L : Addr) (m : Str → Option Value) (env : Env) (g : Heap) : Prop :=
  ∀ (g' h' : Heap) (L' : Addr) (m' : Str → Option Value) (news' : List (Addr × Obj)), KtsTurn ((env :: outer).filterMap (·.frame)) g g' → Fr g' L' h' m' → News g' L' h' news' →
    ∃ h₀', KtsTurn (outer.filterMap (·.frame)) h₀ h₀' ∧ Fr h₀' L h' m ∧ News h₀' L h' news' ∧ Below A₀ base outer h₀' ∧ K.In h₀' ∧ Top p loose mean mg mb h₀' ∧ KtsDicts (outer.filterMap (·.frame)) h₀'
theorem fm_mem {b : Addr} (hf : env.frame = some L) (hm : b ∈ (env :: outer).filterMap (·.frame)) : b = L ∨ b ∈ outer.filterMap (·.frame) := by
  rw [List.filterMap_cons, hf] at hm
  rcases List.mem_cons.mp hm with q | q
  · exact .inl q
  · exact .inr q
theorem backS (B : Below A₀ base outer h₀) (F : Fr h₀ L s.heap m) (N : News h₀ L s.heap news) (XB : K.In base) (TB : Top p loose mean mg mb base) (D : KtsDicts (outer.filterMap (·.frame)) h₀)
    (hf : env.frame = some L) : BackS A₀ base outer K p loose mean mg mb h₀ L m env (hideAll s.heap (news.map (·.1))) ∧ KtsDicts ((env :: outer).filterMap (·.frame)) (hideAll s.heap (news.map (·.1))) := by
  have FG := fr_less F N
  obtain ⟨oL, es, ep, hLg, hLd, hLr⟩ := FG.ns
  have nL₀ : h₀.get? L = none := kts_self F
  have st : ∀ b o, h₀.get? b = some o → (hideAll s.heap (news.map (·.1))).get? b = some o := FG.keep
  refine ⟨fun g' h' L' m' news' T' F' N' => ?_, fun b hb => ?_⟩
  · obtain ⟨sl, hs⟩ := T'.up hLg
    obtain ⟨T₁, S₁⟩ := kts_turn_at (h := h') (fs := outer.filterMap (·.frame)) (g := h₀)
      (fun b hb => by
        obtain ⟨_, o, ho', _⟩ := B.frames.mem hb
        exact ⟨o, ho'⟩)
      (fun b o e nmem => F'.keep b o (T'.other b o (st b o e) (fun q => by
        rcases fm_mem hf q with z | z
        · rw [z, nL₀] at e
          cases e
        · exact nmem z)))
      (fun b o e hm => by
        obtain ⟨sl', hs'⟩ := T'.up (st b o e)
        exact ⟨sl', F'.keep _ _ hs'⟩)
    have B₃ : Below A₀ base outer (ktsHeap h' (outer.filterMap (·.frame)) h₀) := ⟨B.stack, fun b o e => T₁.other b o (B.stays b o e) (fun hm => by
      rw [(B.frames.mem hm).1] at e
      cases e), B.frames.of_keeps fun b o e _ => by
      obtain ⟨sl', hs'⟩ := T₁.up e
      exact ⟨_, hs', rfl⟩⟩
    refine ⟨_, T₁, ⟨⟨_, es, ep, F'.keep _ _ hs, hLd, hLr⟩, S₁, by rw [T₁.size]; exact F.above⟩, fun q hq => ⟨(N' q hq).1, fun z => ?_, ?_⟩, B₃, XB.keeps B₃.stays, TB.keeps B₃.stays, D.turn T₁⟩
    · have := (N' q hq).2.2
      rw [z, hs] at this; cases this
    · refine T₁.none_ _ ?_
      cases z : h₀.get? q.1 with
      | none => rfl
      | some o =>
        obtain ⟨sl', hs'⟩ := T'.up (st _ _ z)
        have := (N' q hq).2.2
        rw [hs'] at this
        cases this
  · rcases fm_mem hf hb with rfl | hb
    · exact ⟨oL, es, ep, hLg, hLd⟩
    · obtain ⟨o, es', n', ho', hd'⟩ := D b hb
      exact ⟨o, es', n', st b o ho', hd'⟩
variable {R : Result → Shared → Prop} {name qual : Str} {params : Arguments} {body : List Stmt} {scope : Scope} {dV kV doc pm cdv ct oc : Value} {an od : Option Addr} {osl : Array (Option Value)} {f : Addr} {args : Args} {binds : List (Str × Value)}
theorem call_S (B : Below A₀ base outer h₀) (F : Fr h₀ L s.heap m) (X₀ : K.In h₀) (N : News h₀ L s.heap news) (T : Top p loose mean mg mb h₀) (XB : K.In base) (TB : Top p loose mean mg mb base) (D : KtsDicts (outer.filterMap (·.frame)) h₀)
    (hA : A.frames = some (env :: outer)) (hf : env.frame = some L) (hke : env.scope.kind = .function)
    (ho : K.lookup f = some ⟨oc, od, .func (fnOf name qual params body scope dV kV doc pm an cdv ct), osl⟩) (hcd : codeIn K cdv qual = true) (hroom : A.depth < recursionLimit)
    (hbind : BindsTo s (fnOf name qual params body scope dV kV doc pm an cdv ct) args binds) (hloc : ∀ y ∈ binds, scope.names.lookup y.1 = some .local)
    (h : ∀ g L' h₁, Fr h₀ L g m → Fr g L' h₁ (fun y => binds.reverse.lookup y) → News g L' h₁ news → Below A base (env :: outer) g → K.In g → Top p loose mean mg mb g → KtsDicts ((env :: outer).filterMap (·.frame)) g → (∀ q ∈ news, q.1 < L') →
      BackS A₀ base outer K p loose mean mg mb h₀ L m env g →
      wpAny (model prog w) (A.deeper (envOf qual scope L' f cdv)) (execs body (envOf qual scope L' f cdv))
        (fun fl s' => R (.ok (.ret (match fl with | .ret v => v | _ => .none))) s')
        (fun e s' => wpAny (model prog w) (A.deeper (envOf qual scope L' f cdv)) (leaving (envOf qual scope L' f cdv) e) (fun _ s'' => R (.error e) s'') (fun e' s'' => R (.error e') s'') s')
        { s with heap := h₁, toks := s.toks + binds.length })
    (hco : scope.isCoroutine = false) (hgen : scope.isGenerator = false) (hk : scope.kind = .function)
    (hcell : ∀ x ∈ scope.names, x.2 ≠ .cell) : codeAny (model prog w) A (.call (.ref f) args) R s := by
  have X := X₀.keeps F.keep
  refine codeAny_call_def (fd := fnOf name qual params body scope dV kV doc pm an cdv ct) (body := body) (binds := binds) hroom (X _ _ ho) rfl (T.nolimit.keeps F.keep) (codeRec_of X hcd) rfl hbind hcell hloc (fun h₁ hns hk₁ => ?_) hco hgen hk
  obtain ⟨FG, BG, st, _⟩ := groundX (R := R) B F N hA hf hke
  obtain ⟨back, DG⟩ := backS (env := env) B F N XB TB D hf
  exact h _ s.heap.objs.size h₁ FG ⟨hns, fun b o e => hk₁ b o (of_hideAll _ e), Nat.le_of_eq (hideAll_size _ _)⟩
    (fun q hq => ⟨hk₁ _ _ (N q hq).1, Nat.ne_of_lt (Heap.lt_size (N q hq).1), hideAll_none _ (List.mem_map_of_mem hq)⟩) BG (X₀.keeps st) (T.keeps st) DG (fun q hq => Heap.lt_size (N q hq).1) back
end
section
variable {prog : Program} {w : World} {A : Around} {E : Value → Shared → Prop} {s : Shared} {h₀ : Heap} {L : Addr} {news : List (Addr × Obj)}
theorem item_led {value slice : PySem.Expr} {l : Addr} {vs : List Value} {ns : List Int} {n : Nat} {k : Int} {u : Tok} {Q : Value → Shared → Prop} (N : News h₀ L s.heap news) (hm : (l, listOf vs.toArray n) ∈ news) (hi : IntsAre vs ns)
    (h0 : 0 ≤ k) (hk : k < (ns.length : Int)) (hb : ns.length < 1000) (h : ∀ t, Q (.int (ns.getD k.toNat 0) t) s)
    (hs : subscripted slice false (.ref l) (.int k u) = operate [.ref l, .int k u] (getItem (.ref l) (.int k u)) := by with_unfolding_all rfl) :
    wpAny (model prog w) A (subscriptTail value slice (.ref l) (.int k u)) Q E s := by
  have hl : s.heap.IsList l vs.toArray := News.isList N hm
  have hlt : k.toNat < vs.length := by rw [hi.length]; omega
  obtain ⟨t, e⟩ := hi.int_at k.toNat vs[k.toNat] (by simp [hlt])
  exact tail_any hl.typeIs slot_list_getitem.lookup (wpAny_getItem_list hl h0 (by omega) (x := .int (ns.getD k.toNat 0) t) (by rw [← e]; simp [hlt]) (h t)) hs
theorem item_led_out {value slice : PySem.Expr} {l : Addr} {vs : List Value} {ns : List Int} {n : Nat} {k : Int} {u : Tok} {Q : Value → Shared → Prop} (hA : A.handled = none) (N : News h₀ L s.heap news) (hm : (l, listOf vs.toArray n) ∈ news) (hi : IntsAre vs ns)
    (hk : k = (ns.length : Int)) (hb : ns.length < 1000)
    (hE : ∀ h' tk e, Heap.NewExc s.heap h' e "IndexError" → E (.ref e) { s with heap := h', toks := tk })
    (hs : subscripted slice false (.ref l) (.int k u) = operate [.ref l, .int k u] (getItem (.ref l) (.int k u)) := by with_unfolding_all rfl) :
    wpAny (model prog w) A (subscriptTail value slice (.ref l) (.int k u)) Q E s := by
  have hl : s.heap.IsList l vs.toArray := News.isList N hm
  have hz : vs.toArray.size = ns.length := by simp [hi.length]
  exact item_outK hA hl (.inr (by rw [hz]; omega)) (by omega) (by omega) hE hs
end

theorem ne_of_allLt {d : Addr} {l : List (Addr × Obj)} (h : ∀ p ∈ l, p.1 < d) : ∀ p ∈ l, p.1 ≠ d := fun p hp => Nat.ne_of_lt (h p hp)
theorem allLt_out {d : Addr} : ∀ {l : List (Addr × Obj)}, AllLt d l → ∀ p ∈ l, p.1 < d
  | [], _, _, h => nomatch h
  | _ :: _, x, p, h => by
    rcases List.mem_cons.mp h with rfl | h
    · exact x.1
    · exact allLt_out x.2 p h
section
variable {prog : Program} {w : World} {A : Around} {E : Value → Shared → Prop} {s : Shared} {h₀ : Heap} {L D b : Addr} {m : Str → Option Value} {news news1 : List (Addr × Obj)} {vs ws : List Value} {n n2 : Nat}
theorem le_of_ints {ms : List Int} (h : IntsAre vs ms) (hl : ms.length ≤ 1000) : vs.length ≤ 1000 := by rw [h.length]; exact hl
theorem app_led {x : Value} {Q : Value → Shared → Prop} (F : Fr h₀ L s.heap m) (N : News h₀ L s.heap news) (U : Upd D (listOf vs.toArray n) (listOf (vs ++ [x]).toArray (n + 1)) news news1) (hz : vs.length ≤ 1000)
    (h : ∀ h', Fr h₀ L h' m → News h₀ L h' news1 → Q .none { s with heap := h' }) : wpAny (model prog w) A (call (.builtin "list.append") [.ref D, x]) Q E s :=
  append_K F N (its := vs.toArray) (by simpa using U) h (by rw [List.size_toArray, sizeLine_eq]; omega)
theorem ext_led {newsF : Nat → List (Addr × Obj)} {Q : Value → Shared → Prop} (F : Fr h₀ L s.heap m) (N : News h₀ L s.heap news) (hb : (b, listOf ws.toArray n2) ∈ news)
    (U : ∀ k, Upd D (listOf vs.toArray n) (listOf (vs ++ ws).toArray k) news (newsF k)) (hz : vs.length ≤ 1000) (hz2 : ws.length ≤ 1000)
    (h : ∀ k h', Fr h₀ L h' m → News h₀ L h' (newsF k) → Q .none { s with heap := h' }) : wpAny (model prog w) A (call (.builtin "list.extend") [.ref D, .ref b]) Q E s := by
  have hd : ¬(!vs.toArray.isEmpty && Builtin.List.listTooLong (vs.toArray.size + ws.toArray.size)) = true := by
    have : Builtin.List.listTooLong (vs.toArray.size + ws.toArray.size) = false := by
      unfold Builtin.List.listTooLong
      rw [List.size_toArray, List.size_toArray, sizeLine_eq]
      exact decide_eq_false (by omega)
    rw [this, Bool.and_false]; decide
  have z1 : vs.toArray.toList.length ≤ sizeLine := by rw [sizeLine_eq]; simpa using (by omega : vs.length ≤ 16777216)
  have z2 : vs.toArray.size + ws.toArray.size ≤ sizeLine + 1 := by rw [List.size_toArray, List.size_toArray, sizeLine_eq]; omega
  cases ws with
  | nil => exact kxn_extend F N hb rfl (by simpa using U n) hd z1 z2 (h n)
  | cons y r => exact kl_extend F N hb (l := vs ++ y :: r) rfl (by simp) (U (n + 1)) hd z1 z2 (h (n + 1))
theorem ki_delL_of : ∀ {l : List Value} {j : Nat}, j < l.length → ki_delL l j = some (l.eraseIdx j)
  | [], _, h => absurd h (Nat.not_lt_zero _)
  | _ :: _, 0, _ => rfl
  | x :: r, j + 1, h => by
    unfold ki_delL
    rw [ki_delL_of (Nat.lt_of_succ_lt_succ h), List.eraseIdx_cons_succ]
theorem kf_ints_of {ns : List Int} (h : IntsAre vs ns) : kf_ints vs = true := by
  induction h with
  | nil => rfl
  | cons k t _ ih => exact ih
theorem kf_at_of {ns : List Int} {x : Int} (h : IntsAre vs ns) (hx : x ∈ ns) : ∃ j, kf_at x vs = some j ∧ j < vs.length ∧ IntsAre (vs.eraseIdx j) (ns.erase x) := by
  induction h with
  | nil => cases hx
  | @cons k t vs' ns' hv ih =>
    by_cases e : k = x
    · subst e
      refine ⟨0, ?_, Nat.succ_pos _, ?_⟩
      · unfold kf_at; simp [isInt]
      · simpa using hv
    · have hx' : x ∈ ns' := by
        rcases List.mem_cons.mp hx with q | q
        · exact absurd q.symm e
        · exact q
      obtain ⟨j, h1, h2, h3⟩ := ih hx'
      refine ⟨j + 1, ?_, Nat.succ_lt_succ h2, ?_⟩
      · unfold kf_at; rw [h1]
        have e' : (k == x) = false := by simpa using e
        simp [isInt, e']
      · have : (k :: ns').erase x = k :: ns'.erase x := by rw [List.erase_cons]; simp [e]
        rw [this, List.eraseIdx_cons_succ]
        exact .cons k t h3
theorem rem_led {ns : List Int} {x : Int} {t : Tok} {newsF : List Value → List (Addr × Obj)} {Q : Value → Shared → Prop} (F : Fr h₀ L s.heap m) (N : News h₀ L s.heap news) (hi : IntsAre vs ns) (hx : x ∈ ns)
    (U : ∀ us, Upd D (listOf vs.toArray n) (listOf us.toArray (n + 1)) news (newsF us)) (hz : vs.length ≤ 1000)
    (h : ∀ us h', Fr h₀ L h' m → News h₀ L h' (newsF us) → IntsAre us (ns.erase x) → Q .none { s with heap := h' }) : wpAny (model prog w) A (call (.builtin "list.remove") [.ref D, .int x t]) Q E s := by
  obtain ⟨j, h1, h2, h3⟩ := kf_at_of hi hx
  exact kf_remove F N (its := vs.toArray) (kf_ints_of (by simpa using hi)) (by simpa using h1) (e2 := ki_delL_of h2) (U (vs.eraseIdx j)) (by rw [sizeLine_eq]; simpa using (by omega : vs.length ≤ 16777216)) (fun h' F' N' => h _ h' F' N' h3)
theorem truthy_led {ns : List Int} {Q : Bool → Shared → Prop} (N : News h₀ L s.heap news) (hm : (D, listOf vs.toArray n) ∈ news) (hi : IntsAre vs ns) (hz : ns.length ≤ 1000) (hne : ns ≠ [])
    (h : Q true { s with toks := s.toks + 1 + 1 }) : wpAny (model prog w) A (truthy (.ref D)) Q E s := by
  have hl := hi.length
  refine kgr_truthy N hm rfl rfl (by omega) ?_
  cases vs with
  | nil => exact absurd (List.eq_nil_of_length_eq_zero hl.symm) hne
  | cons x r => exact h
theorem truthy_led0 {Q : Bool → Shared → Prop} (N : News h₀ L s.heap news) (hm : (D, listOf vs.toArray n) ∈ news) (hi : IntsAre vs [])
    (h : Q false { s with toks := s.toks + 1 + 1 }) : wpAny (model prog w) A (truthy (.ref D)) Q E s := by
  cases hi
  exact kgr_truthy N hm rfl rfl (by decide) h
end
section
/-- a new exception, with or without another behind it -/
structure NewX (h h' : Heap) (e : Addr) (X : String) (oe : Obj) (vs : Array Value) : Prop where
  keeps : ∀ b o, h.get? b = some o → h'.get? b = some o
  new : h.get? e = none
  there : h'.get? e = some oe
  cls : oe.cls = .type X
  data : oe.data = .fields vs
  first : ∃ a0, vs[0]? = some a0
  trace : vs[1]? = some .none
theorem NewX.of {h h' : Heap} {e : Addr} {X : String} (x : Heap.NewExc h h' e X) : ∃ oe vs, NewX h h' e X oe vs ∧ vs[2]? = some .none := by
  obtain ⟨ob, t, h1, h2, h3⟩ := x.there
  exact ⟨ob, _, ⟨x.keeps, x.new, h1, h2, h3, ⟨t, rfl⟩, rfl⟩, rfl⟩
variable {prog : Program} {w : World} {A₀ A : Around} {E : Value → Shared → Prop} {s s' : Shared} {base g h : Heap} {env : Env} {outer : List Env} {L a e : Addr} {m : Str → Option Value} {name : Str} {scope : Scope} {cd : Value} {news : List (Addr × Obj)} {X : String} {hs : List ExceptHandler} {oe : Obj} {vs : Array Value}
  {K : Frag} {p : Program} {loose : List Str} {mean : ExcName → Option Value} {mg mb : Str → Option Value}
theorem note_new {M : Model} {Q : Unit → Shared → Prop} (hfr : A.frames = some (env :: outer)) (hl : s.heap.FunFrames base (env :: outer)) (hf : env.frame = some L) (he : s.heap.get? e = some oe) (hd : oe.data = .fields vs) (h1 : vs[1]? = some .none)
    (k : ∀ h' T oT ts, (∀ b o, s.heap.get? b = some o → b ≠ e → b ∉ (env :: outer).filterMap (·.frame) → h'.get? b = some o) → (∀ b o, s.heap.get? b = some o → b ≠ e → ∃ sl, h'.get? b = some { o with slots := sl }) →
      h'.get? e = some (Obj.mapFields (·.setIfInBounds 1 (Value.ref T)) oe) → h'.get? T = some oT → oT.data = .fields ts → ts[3]? = some (rawInt L) → s.heap.get? T = none → Q () { s with heap := h' }) :
    wpAny M A (noteFrame (.ref e) env) Q E s := by
  have hsz : 1 < vs.size := (Array.getElem?_eq_some_iff.mp h1).1
  have hene : e ∉ (env :: outer).filterMap (·.frame) := fun hm => by
    obtain ⟨_, o, ho, hnf⟩ := hl.mem hm
    rw [he] at ho
    cases ho
    exact hnf vs hd
  unfold noteFrame
  simp only [hf]
  refine wpAny_bind (wpAny_field he hd h1 ?_)
  rw [if_neg (by decide)]
  refine wpAny_bind (wpAny_frameOf_fun hfr hl hf fun h₁ hs₁ => ?_)
  refine wpAny_bind (wpAny_entryPlaceOf fun pl hpl => ?_)
  unfold EntryCells.newEntry newFields
  refine wpAny_bind (wpAny_newObj_type ?_ (hpl.sizeOk5 _ _ _ _ _))
  have he₁ : h₁.get? e = some oe := (hs₁.2.1 e hene).trans he
  have hTe : h₁.objs.size ≠ e := Nat.ne_of_gt (Heap.lt_size he₁)
  refine wpAny_setField (Heap.get?_push_of_some _ he₁) hd hsz (k _ h₁.objs.size _ _ (fun b o hb hbe hbf => ?_) (fun b o hb hbe => ?_) ?_ ((Heap.get?_update_other _ _ (Ne.symm hTe)).trans (Heap.get?_push_size h₁ rfl)) rfl ?_ ?_)
  · rw [Heap.get?_update_other _ _ (Ne.symm hbe)]
    exact Heap.get?_push_of_some _ ((hs₁.2.1 b hbf).trans hb)
  · obtain ⟨sl, hsl⟩ := hs₁.2.2 b o hb
    exact ⟨sl, (Heap.get?_update_other _ _ (Ne.symm hbe)).trans (Heap.get?_push_of_some _ hsl)⟩
  · exact Heap.get?_update_self _ (Heap.get?_push_of_some _ he₁) (Obj.isFreed_of_fields (Obj.data_mapFields hd _))
  · first | (simp; done) | (rcases hpl with rfl | ⟨_, _, _, _, _, _, _, rfl⟩ <;> simp)
  · cases z : s.heap.get? h₁.objs.size with
    | none => rfl
    | some o =>
      obtain ⟨sl, hsl⟩ := hs₁.2.2 _ o z
      exact absurd (Heap.lt_size hsl) (Nat.lt_irrefl _)
theorem landing {Q : Shared → Prop} {h₁ : Heap} {T : Addr} {oT : Obj} {ts : Array Value} (B : Below A₀ base outer g) (x : NewX h s'.heap e X oe vs) (F : Fr g L h m) (N : News g L h news) (XB : K.In base) (TB : Top p loose mean mg mb base) (D : KtsDicts (outer.filterMap (·.frame)) g)
    (k1 : ∀ b o, s'.heap.get? b = some o → b ≠ e → b ∉ (envOf name scope L a cd :: outer).filterMap (·.frame) → h₁.get? b = some o) (k2 : ∀ b o, s'.heap.get? b = some o → b ≠ e → ∃ sl, h₁.get? b = some { o with slots := sl })
    (k3 : h₁.get? e = some (Obj.mapFields (·.setIfInBounds 1 (Value.ref T)) oe)) (k4 : h₁.get? T = some oT) (k5 : oT.data = .fields ts) (k6 : ts[3]? = some (rawInt L)) (k7 : s'.heap.get? T = none)
    (k : ∀ h' g' oe' T oT ts, KtsTurn (outer.filterMap (·.frame)) g g' → Fr g' L h' m → News g' L h' ((e, oe') :: (T, oT) :: news) → oe'.cls = .type X → oe'.data = .fields (vs.setIfInBounds 1 (.ref T)) → oT.data = .fields ts → ts[3]? = some .none → T ≠ e → (∀ q ∈ news, q.1 ≠ e ∧ q.1 ≠ T) →
      Below A₀ base outer g' → K.In g' → Top p loose mean mg mb g' → KtsDicts (outer.filterMap (·.frame)) g' → Q { s' with heap := h' }) :
    wpAny (model prog w) (A₀.deeper (envOf name scope L a cd)) (setFlight (.ref e) none) (fun _ s₃ => Q s₃) E { s' with heap := h₁ } := by
  have old : ∀ b o, h.get? b = some o → b ≠ e := fun b o hb q => by rw [q, x.new] at hb; cases hb
  have hTe : T ≠ e := fun q => by rw [q, x.there] at k7; cases k7
  have hsz : 1 < vs.size := (Array.getElem?_eq_some_iff.mp x.trace).1
  have k6' : 3 < ts.size := (Array.getElem?_eq_some_iff.mp k6).1
  have hT1 : (vs.setIfInBounds 1 (Value.ref T))[1]? = some (.ref T) := by simp [hsz]
  unfold setFlight
  refine wpAny_bind (wpAny_field k3 (Obj.data_mapFields x.data _) hT1 ?_)
  rw [if_pos (show (Value.ref T != Value.none) = true from by simp)]
  refine wpAny_setField k4 k5 k6' ?_
  have hT₂ := Heap.get?_update_self (Obj.mapFields (·.setIfInBounds 3 ((none : Option Addr).elim Value.none fun f => rawInt f))) k4 (Obj.isFreed_of_fields (Obj.data_mapFields k5 _))
  have oth : ∀ b, b ≠ T → (h₁.update T (Obj.mapFields (·.setIfInBounds 3 ((none : Option Addr).elim Value.none fun f => rawInt f)))).get? b = h₁.get? b := fun b hb => Heap.get?_update_other _ _ (Ne.symm hb)
  have notT : ∀ b o, h.get? b = some o → b ≠ T := fun b o hb q => by
    have := x.keeps b o hb
    rw [q, k7] at this; cases this
  have up1 : ∀ b o, h.get? b = some o → b ∉ (envOf name scope L a cd :: outer).filterMap (·.frame) → (h₁.update T (Obj.mapFields (·.setIfInBounds 3 ((none : Option Addr).elim Value.none fun f => rawInt f)))).get? b = some o := fun b o hb hn =>
    (oth b (notT b o hb)).trans (k1 b o (x.keeps b o hb) (old b o hb) hn)
  have up2 : ∀ b o, h.get? b = some o → ∃ sl, (h₁.update T (Obj.mapFields (·.setIfInBounds 3 ((none : Option Addr).elim Value.none fun f => rawInt f)))).get? b = some { o with slots := sl } := fun b o hb => by
    obtain ⟨sl, hsl⟩ := k2 b o (x.keeps b o hb) (old b o hb)
    exact ⟨sl, (oth b (notT b o hb)).trans hsl⟩
  generalize hh₂ : h₁.update T (Obj.mapFields (·.setIfInBounds 3 ((none : Option Addr).elim Value.none fun f => rawInt f))) = h₂ at *
  obtain ⟨Tn, S⟩ := kts_turn_at (h := h₂) (fs := outer.filterMap (·.frame)) (g := g)
    (fun b hb => by
      obtain ⟨_, o, ho, _⟩ := B.frames.mem hb
      exact ⟨o, ho⟩)
    (fun b o hb hn => up1 b o (F.keep b o hb) fun hm => by
      rcases kts_mem hm with z | z
      · rw [z, kts_self F] at hb
        cases hb
      · exact hn z)
    (fun b o hb _ => up2 b o (F.keep b o hb))
  have gnone : ∀ b, h.get? b = none → g.get? b = none := fun b hb => kts_none F.keep hb
  have hTn : h.get? T = none := by
    cases z : h.get? T with
    | none => rfl
    | some o => exact absurd rfl (notT T o z)
  obtain ⟨oL, es, ep, hL, hr⟩ := F.ns
  obtain ⟨slL, hL₂⟩ := up2 L oL hL
  have B₂ : Below A₀ base outer (ktsHeap h₂ (outer.filterMap (·.frame)) g) := ⟨B.stack, fun b o hb => Tn.other b o (B.stays b o hb) (fun hm => by
    rw [(B.frames.mem hm).1] at hb
    cases hb), B.frames.of_keeps fun b o hb _ => by
    obtain ⟨sl', hs'⟩ := Tn.up hb
    exact ⟨_, hs', rfl⟩⟩
  refine k h₂ _ (Obj.mapFields (·.setIfInBounds 1 (Value.ref T)) oe) T (Obj.mapFields (·.setIfInBounds 3 ((none : Option Addr).elim Value.none fun f => rawInt f)) oT) (ts.setIfInBounds 3 .none) Tn ⟨⟨_, es, ep, hL₂, hr⟩, S, by rw [Tn.size]; exact F.above⟩ (fun q hq => ?_) (x.cls ▸ Obj.cls_mapFields oe _) (Obj.data_mapFields x.data _) (Obj.data_mapFields k5 _) (by simp [k6']) hTe (fun q hq => ⟨old _ _ (N q hq).1, notT _ _ (N q hq).1⟩) B₂ (XB.keeps B₂.stays) (TB.keeps B₂.stays) (D.turn Tn)
  rcases List.mem_cons.mp hq with rfl | hq
  · exact ⟨(oth e (Ne.symm hTe)).trans k3, Ne.symm (old L oL hL), Tn.none_ _ (gnone _ x.new)⟩
  rcases List.mem_cons.mp hq with rfl | hq
  · exact ⟨hT₂, Ne.symm (notT L oL hL), Tn.none_ _ (gnone _ hTn)⟩
  · refine ⟨up1 _ _ (N q hq).1 fun hm => ?_, (N q hq).2.1, Tn.none_ _ (N q hq).2.2⟩
    rcases kts_mem hm with z | z
    · exact (N q hq).2.1 z
    · obtain ⟨_, o, ho, _⟩ := B.frames.mem z
      have := (N q hq).2.2
      rw [ho] at this; cases this
theorem noted_landed {Q : Shared → Prop} (B : Below A₀ base outer g) (x : NewX h s'.heap e X oe vs) (F : Fr g L h m) (N : News g L h news) (XB : K.In base) (TB : Top p loose mean mg mb base) (D : KtsDicts (outer.filterMap (·.frame)) g)
    (k : ∀ h' g' oe' T oT ts, KtsTurn (outer.filterMap (·.frame)) g g' → Fr g' L h' m → News g' L h' ((e, oe') :: (T, oT) :: news) → oe'.cls = .type X → oe'.data = .fields (vs.setIfInBounds 1 (.ref T)) → oT.data = .fields ts → ts[3]? = some .none → T ≠ e → (∀ q ∈ news, q.1 ≠ e ∧ q.1 ≠ T) →
      Below A₀ base outer g' → K.In g' → Top p loose mean mg mb g' → KtsDicts (outer.filterMap (·.frame)) g' → Q { s' with heap := h' }) (hk : scope.kind = .function := by rfl) :
    wpAny (model prog w) (A₀.deeper (envOf name scope L a cd)) (noteFrame (.ref e) (envOf name scope L a cd))
      (fun _ s₂ => wpAny (model prog w) (A₀.deeper (envOf name scope L a cd)) (setFlight (.ref e) none) (fun _ s₃ => Q s₃) E s₂) E s' := by
  have B' := B.push (name := name) (a := a) (cd := cd) F hk
  exact note_new B'.stack (B'.frames.of_keeps fun b o hb _ => ⟨o, x.keeps b o hb, rfl⟩) rfl x.there x.data x.trace fun h₁ T oT ts k1 k2 k3 k4 k5 k6 k7 => landing B x F N XB TB D k1 k2 k3 k4 k5 k6 k7 k
/-- raised in the body of a try with a finally: the suite of the finally, the exception in the ledger -/
theorem noted_fin {f₀ : Stmt} {fs : List Stmt} {Q : Flow → Shared → Prop} {E' : Value → Shared → Prop} (B : Below A₀ base outer g) (x : NewX h s'.heap e X oe vs) (F : Fr g L h m) (N : News g L h news) (XB : K.In base) (TB : Top p loose mean mg mb base) (D : KtsDicts (outer.filterMap (·.frame)) g)
    (k : ∀ h' g' oe' T oT ts, KtsTurn (outer.filterMap (·.frame)) g g' → Fr g' L h' m → News g' L h' ((e, oe') :: (T, oT) :: news) → oe'.cls = .type X → oe'.data = .fields (vs.setIfInBounds 1 (.ref T)) → oT.data = .fields ts → ts[3]? = some .none → T ≠ e → (∀ q ∈ news, q.1 ≠ e ∧ q.1 ≠ T) →
      Below A₀ base outer g' → K.In g' → Top p loose mean mg mb g' → KtsDicts (outer.filterMap (·.frame)) g' →
      wpAny (model prog w) ((A₀.deeper (envOf name scope L a cd)).mark (some (.ref e))) (execs (f₀ :: fs) (envOf name scope L a cd))
        (fun gf s₂ => match gf with
          | .next => wpAny (model prog w) (A₀.deeper (envOf name scope L a cd)) (PySem.passOn "try.finally" (.ref e) (envOf name scope L a cd)) Q E s₂
          | gf => wpAny (model prog w) (A₀.deeper (envOf name scope L a cd)) (setFlight (.ref e) none) (fun _ s₃ => Q gf s₃) E s₂) E { s' with heap := h' }) (hk : scope.kind = .function := by rfl)
    (hE : PassesOwnAt (model prog w) ((A₀.deeper (envOf name scope L a cd)).mark (some (.ref e))) (A₀.deeper (envOf name scope L a cd)) (envOf name scope L a cd) E := by passes_own) :
    wpAny (model prog w) (A₀.deeper (envOf name scope L a cd)) (noteFrame (.ref e) (envOf name scope L a cd))
      (fun _ s₂ => FinallyRaised prog w (A₀.deeper (envOf name scope L a cd)) E (envOf name scope L a cd) (f₀ :: fs) Q (.ref e) s₂) E' s' := by
  have B' := B.push (name := name) (a := a) (cd := cd) F hk
  refine note_new B'.stack (B'.frames.of_keeps fun b o hb _ => ⟨o, x.keeps b o hb, rfl⟩) rfl x.there x.data x.trace fun h₁ T oT ts k1 k2 k3 k4 k5 k6 k7 => ?_
  have hsz : 1 < vs.size := (Array.getElem?_eq_some_iff.mp x.trace).1
  refine ⟨ref_ne_byPass _, ?_⟩
  refine wpAny_noteFrame_inFlight (tvs := ts) rfl k3 (Obj.data_mapFields x.data _) (by simp [hsz]) k4 k5 k6 ?_
  refine landing (Q := fun s₃ => wpAny (model prog w) ((A₀.deeper (envOf name scope L a cd)).mark (some (.ref e))) (execs (f₀ :: fs) (envOf name scope L a cd)) _ _ s₃) B x F N XB TB D k1 k2 k3 k4 k5 k6 k7 fun h' g' oe' T oT ts a1 a2 a3 a4 a5 a6 a7 a8 a9 a10 a11 a12 a13 => ?_
  exact wpAny_passesOwnAt hE (k h' g' oe' T oT ts a1 a2 a3 a4 a5 a6 a7 a8 a9 a10 a11 a12 a13)
/-- an exception that lies in the ledger, not in flight, is as one that has come by -/
theorem refly {T : Addr} {oT : Obj} {ts : Array Value} (B : Below A₀ base outer g) (F : Fr g L h m) (N : News g L h ((e, oe) :: (T, oT) :: news)) (hc : oe.cls = .type X) (hd : oe.data = .fields vs) (h0 : ∃ a0, vs[0]? = some a0) (h1 : vs[1]? = some (.ref T)) (hdT : oT.data = .fields ts) (h3 : ts[3]? = some .none) (hTe : T ≠ e)
    (hne : ∀ q ∈ news, q.1 ≠ e ∧ q.1 ≠ T) (hk : scope.kind = .function := by rfl) :
    ∃ G, Fr g L G m ∧ RaisedSN base G (envOf name scope L a cd :: outer) e (.type X) news h ∧ G.UpToSlots h := by
  have B' := B.push (name := name) (a := a) (cd := cd) F hk
  obtain ⟨a0, h0⟩ := h0
  have Ne := N _ (List.mem_cons_self (a := (e, oe)))
  have NT := N (T, oT) (List.mem_cons_of_mem _ List.mem_cons_self)
  have N₁ : News g L h news := fun q hq => N q (List.mem_cons_of_mem _ (List.mem_cons_of_mem _ hq))
  have be : base.get? e = none := fresh_of_stays B.stays Ne.2.2
  have bT : base.get? T = none := fresh_of_stays B.stays NT.2.2
  refine ⟨_, fr_less F N, ⟨hideAll h (e :: T :: (envOf name scope L a cd :: outer).filterMap (·.frame)), a0, fun b o hb => hideAll_get _ (B'.stays b o hb) fun hm => ?_, fun b o hb hn => hideAll_get _ (of_hideAll _ hb) fun hm => ?_, fun q hq => ⟨hideAll_get _ (N₁ q hq).1 fun hm => ?_, hideAll_none _ (List.mem_map_of_mem (List.mem_cons_of_mem _ (List.mem_cons_of_mem _ hq))), fresh_of_stays B.stays (N₁ q hq).2.2⟩,
    fun b o hb => of_hideAll _ hb, hideAll_none _ List.mem_cons_self, funFrames_hide B'.frames fun env' he' b hb => List.mem_cons_of_mem _ (List.mem_cons_of_mem _ (List.mem_filterMap.mpr ⟨env', he', hb⟩)),
    oe, vs, T, oT, ts, Ne.1, ⟨hc, h0⟩, hd, h1, hideAll_none _ (List.mem_cons_of_mem _ List.mem_cons_self), hTe, NT.1, hdT, h3⟩, Heap.UpToSlots.of_keeps fun b o hb => of_hideAll _ hb⟩
  · rcases List.mem_cons.mp hm with rfl | hm
    · rw [be] at hb; cases hb
    rcases List.mem_cons.mp hm with rfl | hm
    · rw [bT] at hb; cases hb
    · rw [(B'.frames.mem hm).1] at hb; cases hb
  · rcases List.mem_cons.mp hm with rfl | hm
    · rw [hideAll_none _ (List.mem_map_of_mem (List.mem_cons_self (a := (b, oe))))] at hb; cases hb
    rcases List.mem_cons.mp hm with rfl | hm
    · rw [hideAll_none _ (List.mem_map_of_mem (List.mem_cons_of_mem _ (List.mem_cons_self (a := (b, oT)))))] at hb; cases hb
    · exact hn hm
  · rcases List.mem_cons.mp hm with z | hm
    · exact (hne q hq).1 z
    rcases List.mem_cons.mp hm with z | hm
    · exact (hne q hq).2 z
    · rcases kts_mem hm with z | z
      · exact (N₁ q hq).2.1 z
      · obtain ⟨_, o, ho, _⟩ := B.frames.mem z
        have := (N₁ q hq).2.2
        rw [ho] at this; cases this
/-- the raise at the end of a finally, to the handlers of the try around it -/
theorem pass_on {Q Q₁ : Flow → Shared → Prop} {T : Addr} {oT : Obj} {ts : Array Value} (B : Below A₀ base outer g) (F : Fr g L s.heap m) (N : News g L s.heap ((e, oe) :: (T, oT) :: news)) (hc : oe.cls = .type X) (hd : oe.data = .fields vs) (h0 : ∃ a0, vs[0]? = some a0) (h1 : vs[1]? = some (.ref T)) (hdT : oT.data = .fields ts) (h3 : ts[3]? = some .none) (hTe : T ≠ e)
    (hne : ∀ q ∈ news, q.1 ≠ e ∧ q.1 ≠ T)
    (k : ∀ G h', Fr g L G m → RaisedSN base G (envOf name scope L a cd :: outer) e (.type X) news h' → G.UpToSlots h' → wpAny (model prog w) (A₀.deeper (envOf name scope L a cd)) (handleBy (.ref e) (envOf name scope L a cd) hs) Q E { s with heap := h' })
    (hk : scope.kind = .function := by rfl) :
    wpAny (model prog w) (A₀.deeper (envOf name scope L a cd)) (PySem.passOn "try.finally" (.ref e) (envOf name scope L a cd)) Q₁ (fun e s₁ => wpAny (model prog w) (A₀.deeper (envOf name scope L a cd)) (noteFrame e (envOf name scope L a cd))
      (fun _ s₂ => wpAny (model prog w) (A₀.deeper (envOf name scope L a cd)) (setFlight e none) (fun _ s₃ => wpAny (model prog w) (A₀.deeper (envOf name scope L a cd)) (handleBy e (envOf name scope L a cd) hs) Q E s₃) E s₂) E s₁) s := by
  obtain ⟨G, FG, R, U⟩ := refly (name := name) (scope := scope) (a := a) (cd := cd) B F N hc hd h0 h1 hdT h3 hTe hne hk
  obtain ⟨Bh, a0, hB, hBG, hl, hfl⟩ := R
  have Ne := N _ (List.mem_cons_self (a := (e, oe)))
  unfold PySem.passOn
  refine wpAny_bind (wpAny_field Ne.1 hd h1 ?_)
  rw [if_neg (show ¬ ((Value.ref T == Value.none) = true) from by simp)]
  have step : wpAny (model prog w) (A₀.deeper (envOf name scope L a cd)) (setFlight (.ref e) (envOf name scope L a cd).frame >>= fun _ => (throw (Value.ref e) : Sem Flow)) Q₁ (fun e s₁ => wpAny (model prog w) (A₀.deeper (envOf name scope L a cd)) (noteFrame e (envOf name scope L a cd))
      (fun _ s₂ => wpAny (model prog w) (A₀.deeper (envOf name scope L a cd)) (setFlight e none) (fun _ s₃ => wpAny (model prog w) (A₀.deeper (envOf name scope L a cd)) (handleBy e (envOf name scope L a cd) hs) Q E s₃) E s₂) E s₁) s := by
    refine wpAny_bind (setFlight_onW hfl fun h' hh hs' => wpAny_throw ?_)
    refine wpAny_noteFrame_againW rfl hh.2.2.2 (wpAny_landsW hh fun h'' hfl' hs'' => ?_)
    exact k G h'' FG ⟨Bh, a0, hB, hBG, hl, hfl'⟩ (U.trans (hs'.trans hs''))
  first
    | exact step
    | exact wpAny_bind (wpAny_pure step)
theorem noted_hereX {Q : Flow → Shared → Prop} (B : Below A₀ base outer g) (x : NewX h s'.heap e X oe vs) (F : Fr g L h m) (N : News g L h news) (XB : K.In base) (TB : Top p loose mean mg mb base) (D : KtsDicts (outer.filterMap (·.frame)) g)
    (k : ∀ h' g' G, KtsTurn (outer.filterMap (·.frame)) g g' → Fr g' L G m → RaisedSN base G (envOf name scope L a cd :: outer) e (.type X) news h' → G.UpToSlots h' → Below A₀ base outer g' → K.In g' → Top p loose mean mg mb g' → KtsDicts (outer.filterMap (·.frame)) g' →
      wpAny (model prog w) (A₀.deeper (envOf name scope L a cd)) (handleBy (.ref e) (envOf name scope L a cd) hs) Q E { s' with heap := h' })
    (hk : scope.kind = .function := by rfl) :
    wpAny (model prog w) (A₀.deeper (envOf name scope L a cd)) (noteFrame (.ref e) (envOf name scope L a cd))
      (fun _ s₂ => wpAny (model prog w) (A₀.deeper (envOf name scope L a cd)) (setFlight (.ref e) none) (fun _ s₃ =>
        wpAny (model prog w) (A₀.deeper (envOf name scope L a cd)) (handleBy (.ref e) (envOf name scope L a cd) hs) Q E s₃) E s₂) E s' := by
  have hsz : 1 < vs.size := (Array.getElem?_eq_some_iff.mp x.trace).1
  refine noted_landed (Q := fun s₃ => wpAny (model prog w) (A₀.deeper (envOf name scope L a cd)) (handleBy (.ref e) (envOf name scope L a cd) hs) Q E s₃) B x F N XB TB D (fun h' g' oe' T oT ts a1 a2 a3 a4 a5 a6 a7 a8 a9 a10 a11 a12 a13 => ?_) hk
  obtain ⟨t0, ht0⟩ := x.first
  obtain ⟨G, FG, R, U⟩ := refly (name := name) (scope := scope) (a := a) (cd := cd) a10 a2 a3 a4 a5 ⟨t0, by simpa using ht0⟩ (by simp [hsz]) a6 a7 a8 a9 hk
  exact k h' g' G a1 FG R U a10 a11 a12 a13
end
section
theorem entry_unchain : entryFor table "proto.unchain" = some Builtin.«proto.unchain» := entryFor_of_fast (by kernel_rfl)
variable {prog : Program} {w : World} {A : Around} {E : Value → Shared → Prop} {s : Shared} {h₀ : Heap} {L e₁ : Addr} {news : List (Addr × Obj)} {oe₁ : Obj} {ws : Array Value}
theorem raise_h {α : Type} {Q : α → Shared → Prop} {msg : String} (hA : A.handled = some (.ref e₁)) (he : s.heap.get? e₁ = some oe₁) (hd : oe₁.data = .fields ws) (h2 : ws[2]? = some .none)
    (hE : ∀ h' tk e oe vs, NewX s.heap h' e "IndexError" oe vs → E (.ref e) { s with heap := h', toks := tk }) : wpAny (model prog w) A (raiseErrorWords "IndexError" msg : Sem α) Q E s := by
  have hlt := Heap.lt_size he
  unfold raiseErrorWords
  refine wpAny_bind (wpAny_mkText (wpAny_bind ?_))
  unfold newExc newTuple
  refine wpAny_bind (wpAny_newObj_type ?_)
  refine wpAny_bind (m := firstArgMember _ _) (wpAny_of_eq (a := Value.none) (by simp only [firstArgMember, plainExc_IndexError.first]; rfl) ?_)
  rw [plainExc_IndexError.own]
  refine wpAny_newObj_type ?_
  unfold raiseNew
  refine wpAny_bind (wpAny_handled ?_)
  rw [hA]
  dsimp only
  have hT : (s.heap.push { cls := Value.type "tuple", data := Data.seq [Value.str (Str.ofString msg) s.toks].toArray }).objs.size = s.heap.objs.size + 1 := by simp [Heap.push]
  have he₂ := Heap.get?_push_of_some (h := s.heap.push { cls := Value.type "tuple", data := Data.seq [Value.str (Str.ofString msg) s.toks].toArray }) { cls := Value.type "IndexError", dict := none, data := Data.fields (#[Value.ref s.heap.objs.size, Value.none, Value.none, Value.none, Value.bool false, Value.none] ++ #[]) } (Heap.get?_push_of_some { cls := Value.type "tuple", data := Data.seq [Value.str (Str.ofString msg) s.toks].toArray } he)
  have hn₂ := Heap.get?_push_size (s.heap.push { cls := Value.type "tuple", data := Data.seq [Value.str (Str.ofString msg) s.toks].toArray }) (o := { cls := Value.type "IndexError", dict := none, data := Data.fields (#[Value.ref s.heap.objs.size, Value.none, Value.none, Value.none, Value.bool false, Value.none] ++ #[]) }) rfl
  have keep : ∀ b o, s.heap.get? b = some o → ((s.heap.push { cls := Value.type "tuple", data := Data.seq [Value.str (Str.ofString msg) s.toks].toArray }).push { cls := Value.type "IndexError", dict := none, data := Data.fields (#[Value.ref s.heap.objs.size, Value.none, Value.none, Value.none, Value.bool false, Value.none] ++ #[]) }).get? b = some o := fun b o hb => Heap.get?_push_of_some _ (Heap.get?_push_of_some _ hb)
  rw [hT] at hn₂
  simp only [hT]
  generalize ((s.heap.push { cls := Value.type "tuple", data := Data.seq [Value.str (Str.ofString msg) s.toks].toArray }).push { cls := Value.type "IndexError", dict := none, data := Data.fields (#[Value.ref s.heap.objs.size, Value.none, Value.none, Value.none, Value.bool false, Value.none] ++ #[]) }) = hh at *
  have hne : e₁ ≠ s.heap.objs.size + 1 := fun q => by
    have hlt' : e₁ < s.heap.objs.size := hlt
    rw [q] at hlt'
    exact absurd hlt' (Nat.not_lt.mpr (Nat.le_succ _))
  rw [if_pos (by simpa using hne)]
  have fin : wpAny (model prog w) A (updateField (s.heap.objs.size + 1) 2 (.ref e₁) >>= fun _ => (throw (Value.ref (s.heap.objs.size + 1)) : Sem α)) Q E { s with heap := hh, toks := s.toks + 1 } := by
    show wpAny (model prog w) A (setField (.ref (s.heap.objs.size + 1)) 2 (.ref e₁) >>= _) _ _ _
    refine wpAny_bind (wpAny_setField hn₂ rfl (by simp) (wpAny_throw ?_))
    have hself := Heap.get?_update_self (Obj.mapFields (·.setIfInBounds 2 (Value.ref e₁))) hn₂ (Obj.isFreed_of_fields (Obj.data_mapFields rfl _))
    refine hE _ _ _ _ _ ⟨fun b o hb => (Heap.get?_update_other _ _ (fun q => ?_)).trans (keep b o hb), ?_, hself, rfl, Obj.data_mapFields rfl _, ⟨_, rfl⟩, rfl⟩
    · have hlb : b < s.heap.objs.size := Heap.lt_size hb
      rw [← q] at hlb
      exact absurd hlb (Nat.not_lt.mpr (Nat.le_succ _))
    · exact Heap.get?_none_of_le (Nat.le_succ _)
  have mid : wpAny (model prog w) A (holding [Value.ref (s.heap.objs.size + 1)] (runValue (.builtin "proto.unchain" ⟨[Value.ref (s.heap.objs.size + 1), Value.ref e₁, Value.ref e₁, Value.bool false], []⟩))) (fun _ s₂ => s₂ = { s with heap := hh, toks := s.toks + 1 }) E { s with heap := hh, toks := s.toks + 1 } := by
    refine wpAny_holding (wpAny_runValue (codeAny_builtin entry_unchain ?_))
    show wpAny _ _ (field (.ref e₁) 2 >>= _) _ _ _
    refine wpAny_bind (wpAny_field he₂ hd h2 ?_)
    rw [if_pos (by rfl)]
    first
      | exact wpAny_pure rfl
      | exact wpAny_bind (wpAny_pure rfl)
      | exact wpAny_bind (wpAny_pure (wpAny_pure rfl))
  first
    | exact wpAny_bind (wpAny_mono mid (fun _ s₂ e => by rw [e]; exact fin) fun _ _ x => x)
    | exact wpAny_bind (wpAny_bind (wpAny_mono mid (fun _ s₂ e => by rw [e]; exact fin) fun _ _ x => x))
theorem item_led_out_h {value slice : PySem.Expr} {l : Addr} {vs : List Value} {ns : List Int} {n : Nat} {k : Int} {u : Tok} {Q : Value → Shared → Prop} (hA : A.handled = some (.ref e₁)) (N : News h₀ L s.heap news) (he : (e₁, oe₁) ∈ news) (hde : oe₁.data = .fields ws) (h2 : ws[2]? = some .none)
    (hm : (l, listOf vs.toArray n) ∈ news) (hi : IntsAre vs ns) (hk : k = (ns.length : Int)) (hb : ns.length < 1000)
    (hE : ∀ h' tk e oe vs, NewX s.heap h' e "IndexError" oe vs → E (.ref e) { s with heap := h', toks := tk })
    (hs : subscripted slice false (.ref l) (.int k u) = operate [.ref l, .int k u] (getItem (.ref l) (.int k u)) := by with_unfolding_all rfl) :
    wpAny (model prog w) A (subscriptTail value slice (.ref l) (.int k u)) Q E s := by
  have hl : s.heap.IsList l vs.toArray := News.isList N hm
  refine tail_any hl.typeIs slot_list_getitem.lookup ?_ hs
  have hlo : -(2 ^ 63) ≤ k := by omega
  have hhi : k < 2 ^ 63 := by omega
  have hkv : k = (vs.length : Int) := by rw [hk, hi.length]
  clear hk hs
  obtain ⟨o, ho, hc, ne, hd⟩ := id hl
  unfold getItem
  try with_reducible refine wpAny_holding ?_
  first | refine wpAny_bind (wpAny_pure ?_) | skip
  refine wpAny_bind (wpAny_sequenceKey hl.typeIs (by decide) ?_)
  refine wpAny_bind (wpAny_callSpecial?_slot (name := Str.ofString "__getitem__") hl.typeIs slot_list_getitem
    (wpAny_call_entry slot_list_getitem hl.typeIs entry_list_getitem ?_ (args_list_getitem _ _)))
  show wpAny _ _ (Builtin.List.listSubscript? (.int k u) >>= _) _ _ s
  refine wpAny_bind (wpAny_listSubscript_int (fitsIndex_both hlo hhi) ?_)
  clear hlo hhi
  obtain ⟨j, hj, rfl⟩ : ∃ j : Nat, j = vs.length ∧ k = (j : Int) := ⟨_, rfl, hkv⟩
  have hx : vs.toArray[j]? = none := by simp [hj]
  show wpAny _ _ ((seqItemAt l j >>= fun r => pure (r.map (j, ·))) >>= _) _ _ s
  refine wpAny_bind (wpAny_bind (wpAny_seqItemAt ho hd (wpAny_pure ?_)))
  rw [hx]
  first
    | exact wpAny_bind (wpAny_rule (raise_h hA (N _ he).1 hde h2 hE))
    | exact wpAny_bind (wpAny_rule (wpAny_bind (raise_h hA (N _ he).1 hde h2 hE)))
    | exact wpAny_bind (wpAny_bind (wpAny_rule (raise_h hA (N _ he).1 hde h2 hE)))
    | exact wpAny_rule (raise_h hA (N _ he).1 hde h2 hE)
end
section
/-- an exception at rest in the ledger, with its traceback -/
structure HeldX (e T : Addr) (oe oT : Obj) (X : String) : Prop where
  cls : oe.cls = .type X
  data : ∃ vs, oe.data = .fields vs ∧ (∃ a0, vs[0]? = some a0) ∧ vs[1]? = some (.ref T) ∧ vs[2]? = some .none
  trace : ∃ ts, oT.data = .fields ts ∧ ts[3]? = some .none
  ne : T ≠ e
variable {prog : Program} {w : World} {A₀ A : Around} {E : Value → Shared → Prop} {s s' : Shared} {base g h h₀ : Heap} {env : Env} {outer : List Env} {L a e T e₁ : Addr} {m : Str → Option Value} {name : Str} {scope : Scope} {cd : Value} {news : List (Addr × Obj)} {X : String} {hs : List ExceptHandler} {oe oT : Obj}
  {K : Frag} {p : Program} {loose : List Str} {mean : ExcName → Option Value} {mg mb : Str → Option Value}
theorem noted_finH {f₀ : Stmt} {fs : List Stmt} {Q : Flow → Shared → Prop} {E' : Value → Shared → Prop} (B : Below A₀ base outer g) (x : Heap.NewExc h s'.heap e X) (F : Fr g L h m) (N : News g L h news) (XB : K.In base) (TB : Top p loose mean mg mb base) (D : KtsDicts (outer.filterMap (·.frame)) g)
    (k : ∀ h' g' oe' T oT, KtsTurn (outer.filterMap (·.frame)) g g' → Fr g' L h' m → News g' L h' ((e, oe') :: (T, oT) :: news) → HeldX e T oe' oT X → (∀ q ∈ news, q.1 ≠ e ∧ q.1 ≠ T) →
      Below A₀ base outer g' → K.In g' → Top p loose mean mg mb g' → KtsDicts (outer.filterMap (·.frame)) g' →
      wpAny (model prog w) ((A₀.deeper (envOf name scope L a cd)).mark (some (.ref e))) (execs (f₀ :: fs) (envOf name scope L a cd))
        (fun gf s₂ => match gf with
          | .next => wpAny (model prog w) (A₀.deeper (envOf name scope L a cd)) (PySem.passOn "try.finally" (.ref e) (envOf name scope L a cd)) Q E s₂
          | gf => wpAny (model prog w) (A₀.deeper (envOf name scope L a cd)) (setFlight (.ref e) none) (fun _ s₃ => Q gf s₃) E s₂) E { s' with heap := h' }) (hk : scope.kind = .function := by rfl)
    (hE : PassesOwnAt (model prog w) ((A₀.deeper (envOf name scope L a cd)).mark (some (.ref e))) (A₀.deeper (envOf name scope L a cd)) (envOf name scope L a cd) E := by passes_own) :
    wpAny (model prog w) (A₀.deeper (envOf name scope L a cd)) (noteFrame (.ref e) (envOf name scope L a cd))
      (fun _ s₂ => FinallyRaised prog w (A₀.deeper (envOf name scope L a cd)) E (envOf name scope L a cd) (f₀ :: fs) Q (.ref e) s₂) E' s' := by
  obtain ⟨oe, vs, x', h2⟩ := NewX.of x
  have hsz : 1 < vs.size := (Array.getElem?_eq_some_iff.mp x'.trace).1
  obtain ⟨t0, ht0⟩ := x'.first
  refine noted_fin B x' F N XB TB D (fun h' g' oe' T oT ts a1 a2 a3 a4 a5 a6 a7 a8 a9 a10 a11 a12 a13 => ?_) hk hE
  exact k h' g' oe' T oT a1 a2 a3 ⟨a4, ⟨_, a5, ⟨t0, by simpa using ht0⟩, by simp [hsz], by simpa using h2⟩, ⟨_, a6, a7⟩, a8⟩ a9 a10 a11 a12 a13
theorem pass_onH {Q Q₁ : Flow → Shared → Prop} (B : Below A₀ base outer g) (F : Fr g L s.heap m) (N : News g L s.heap ((e, oe) :: (T, oT) :: news)) (H : HeldX e T oe oT X) (hne : ∀ q ∈ news, q.1 ≠ e ∧ q.1 ≠ T)
    (k : ∀ G h', Fr g L G m → RaisedSN base G (envOf name scope L a cd :: outer) e (.type X) news h' → G.UpToSlots h' → wpAny (model prog w) (A₀.deeper (envOf name scope L a cd)) (handleBy (.ref e) (envOf name scope L a cd) hs) Q E { s with heap := h' })
    (hk : scope.kind = .function := by rfl) :
    wpAny (model prog w) (A₀.deeper (envOf name scope L a cd)) (PySem.passOn "try.finally" (.ref e) (envOf name scope L a cd)) Q₁ (fun e s₁ => wpAny (model prog w) (A₀.deeper (envOf name scope L a cd)) (noteFrame e (envOf name scope L a cd))
      (fun _ s₂ => wpAny (model prog w) (A₀.deeper (envOf name scope L a cd)) (setFlight e none) (fun _ s₃ => wpAny (model prog w) (A₀.deeper (envOf name scope L a cd)) (handleBy e (envOf name scope L a cd) hs) Q E s₃) E s₂) E s₁) s := by
  obtain ⟨vs, hd, h0, h1, _⟩ := H.data
  obtain ⟨ts, hdT, h3⟩ := H.trace
  exact pass_on B F N H.cls hd h0 h1 hdT h3 H.ne hne k hk
theorem item_led_out_H {value slice : PySem.Expr} {l : Addr} {vs : List Value} {ns : List Int} {n : Nat} {k : Int} {u : Tok} {Q : Value → Shared → Prop} (hA : A.handled = some (.ref e)) (N : News h₀ L s.heap ((e, oe) :: news)) (H : HeldX e T oe oT X)
    (hm : (l, listOf vs.toArray n) ∈ news) (hi : IntsAre vs ns) (hk : k = (ns.length : Int)) (hb : ns.length < 1000)
    (hE : ∀ h' tk e oe vs, NewX s.heap h' e "IndexError" oe vs → E (.ref e) { s with heap := h', toks := tk })
    (hs : subscripted slice false (.ref l) (.int k u) = operate [.ref l, .int k u] (getItem (.ref l) (.int k u)) := by with_unfolding_all rfl) :
    wpAny (model prog w) A (subscriptTail value slice (.ref l) (.int k u)) Q E s := by
  obtain ⟨ws, hd, _, _, h2⟩ := H.data
  exact item_led_out_h hA N List.mem_cons_self hd h2 (List.mem_cons_of_mem _ hm) hi hk hb hE hs
theorem noted_hereN {Q : Flow → Shared → Prop} (B : Below A₀ base outer g) (x : Heap.NewExc h s'.heap e X) (F : Fr g L h m) (N : News g L h news) (XB : K.In base) (TB : Top p loose mean mg mb base) (D : KtsDicts (outer.filterMap (·.frame)) g)
    (k : ∀ h' g' G, KtsTurn (outer.filterMap (·.frame)) g g' → Fr g' L G m → RaisedSN base G (envOf name scope L a cd :: outer) e (.type X) news h' → G.UpToSlots h' → Below A₀ base outer g' → K.In g' → Top p loose mean mg mb g' → KtsDicts (outer.filterMap (·.frame)) g' →
      wpAny (model prog w) (A₀.deeper (envOf name scope L a cd)) (handleBy (.ref e) (envOf name scope L a cd) hs) Q E { s' with heap := h' })
    (hk : scope.kind = .function := by rfl) :
    wpAny (model prog w) (A₀.deeper (envOf name scope L a cd)) (noteFrame (.ref e) (envOf name scope L a cd))
      (fun _ s₂ => wpAny (model prog w) (A₀.deeper (envOf name scope L a cd)) (setFlight (.ref e) none) (fun _ s₃ =>
        wpAny (model prog w) (A₀.deeper (envOf name scope L a cd)) (handleBy (.ref e) (envOf name scope L a cd) hs) Q E s₃) E s₂) E s' := by
  obtain ⟨oe, vs, x', _⟩ := NewX.of x
  exact noted_hereX B x' F N XB TB D k hk
/-- a while that ends at its first test -/
theorem while_once {test : Expr} {body : List Stmt} {pos : Pos} {Q : Flow → Shared → Prop} (h : wpAny (model prog w) A (isTrue test env (eval test env)) (fun b s₂ => if b = true then False else Q .next s₂) E s) (hE : PassesOwn (model prog w) A env E := by passes_own) :
    wpAny (model prog w) A (exec (.While test body [] pos) env) Q E s := by
  refine wpAny_While (codeAny_whileLoop (fun _ s' => s' = s) ?_ 0 rfl)
  rintro n s' rfl
  refine wpAny_mono h (fun b s₂ h₂ => ?_) hE
  cases b with
  | false =>
    simp only [Bool.false_eq_true, if_false] at h₂ ⊢
    exact wpAny_execs_nil h₂
  | true => simp at h₂
end
def dif : List Int → List Int → List Int × List Int
  | [], ys => ([], ys)
  | x :: xs, [] => (x :: xs, [])
  | x :: xs, y :: ys => if x < y then (x :: (dif xs (y :: ys)).1, (dif xs (y :: ys)).2) else if y < x then ((dif (x :: xs) ys).1, y :: (dif (x :: xs) ys).2) else dif xs ys
termination_by xs ys => xs.length + ys.length
theorem dif_nil_left (ys : List Int) : dif [] ys = ([], ys) := by rw [dif]
theorem dif_nil_right (xs : List Int) : dif xs [] = (xs, []) := by
  cases xs with
  | nil => rw [dif]
  | cons x r => rw [dif]
theorem drop_getD {xs : List Int} {i : Nat} (h : i < xs.length) : xs.drop i = xs.getD i 0 :: xs.drop (i + 1) := by
  rw [List.drop_eq_getElem_cons h]
  simp [h]
section
variable {xs ys am au : List Int} {i j : Nat}
def DInv (xs ys : List Int) (i j : Nat) (am au : List Int) : Prop :=
  i ≤ xs.length ∧ j ≤ ys.length ∧ am.length + au.length ≤ i + j ∧ am ++ (dif (xs.drop i) (ys.drop j)).1 = (dif xs ys).1 ∧ au ++ (dif (xs.drop i) (ys.drop j)).2 = (dif xs ys).2
theorem dinv_lt (hi : i < xs.length) (hj : j < ys.length) (h : xs.getD (i : Int).toNat 0 < ys.getD (j : Int).toNat 0) (I : DInv xs ys i j am au) : DInv xs ys (i + 1) j (am ++ [xs.getD (i : Int).toNat 0]) au := by
  obtain ⟨_, _, h3, h4, h5⟩ := I
  have e : dif (xs.drop i) (ys.drop j) = (xs.getD i 0 :: (dif (xs.drop (i + 1)) (ys.drop j)).1, (dif (xs.drop (i + 1)) (ys.drop j)).2) := by
    rw [drop_getD hi, drop_getD hj, dif, if_pos (by simpa using h)]
  rw [e] at h4 h5
  refine ⟨hi, Nat.le_of_lt hj, by simp; omega, ?_, h5⟩
  rw [← h4]; simp
theorem dinv_gt (hi : i < xs.length) (hj : j < ys.length) (h : ys.getD (j : Int).toNat 0 < xs.getD (i : Int).toNat 0) (I : DInv xs ys i j am au) : DInv xs ys i (j + 1) am (au ++ [ys.getD (j : Int).toNat 0]) := by
  obtain ⟨_, _, h3, h4, h5⟩ := I
  have h' : ys.getD j 0 < xs.getD i 0 := by simpa using h
  have e : dif (xs.drop i) (ys.drop j) = ((dif (xs.drop i) (ys.drop (j + 1))).1, ys.getD j 0 :: (dif (xs.drop i) (ys.drop (j + 1))).2) := by
    rw [drop_getD hi, drop_getD hj, dif, if_neg (by omega), if_pos h']
  rw [e] at h4 h5
  refine ⟨Nat.le_of_lt hi, hj, by simp; omega, h4, ?_⟩
  rw [← h5]; simp
theorem dinv_eq (hi : i < xs.length) (hj : j < ys.length) (h1 : ¬ xs.getD (i : Int).toNat 0 < ys.getD (j : Int).toNat 0) (h2 : ¬ ys.getD (j : Int).toNat 0 < xs.getD (i : Int).toNat 0) (I : DInv xs ys i j am au) : DInv xs ys (i + 1) (j + 1) am au := by
  obtain ⟨_, _, h3, h4, h5⟩ := I
  have h1' : ¬ xs.getD i 0 < ys.getD j 0 := by simpa using h1
  have h2' : ¬ ys.getD j 0 < xs.getD i 0 := by simpa using h2
  have e : dif (xs.drop i) (ys.drop j) = dif (xs.drop (i + 1)) (ys.drop (j + 1)) := by
    rw [drop_getD hi, drop_getD hj, dif, if_neg h1', if_neg h2']
  rw [e] at h4 h5
  exact ⟨hi, hj, by omega, h4, h5⟩
theorem dinv_end (I : DInv xs ys i j am au) (h : i = xs.length ∨ j = ys.length) : am ++ xs.drop i = (dif xs ys).1 ∧ au ++ ys.drop j = (dif xs ys).2 := by
  obtain ⟨_, _, _, h4, h5⟩ := I
  rcases h with rfl | rfl
  · rw [List.drop_length, dif_nil_left] at h4 h5
    rw [List.drop_length]
    exact ⟨h4, h5⟩
  · rw [List.drop_length, dif_nil_right] at h4 h5
    rw [List.drop_length]
    exact ⟨h4, h5⟩
end
def uldF (xs ys : List Int) : List Int := xs.foldr (fun x acc => acc.erase x) ys
theorem mem_uldF {x : Int} : ∀ {suf ys : List Int}, x ∈ ys → x ∉ suf → x ∈ uldF suf ys
  | [], _, h, _ => h
  | y :: suf, ys, h, hn => by
    have h1 := mem_uldF (suf := suf) h fun q => hn (List.mem_cons_of_mem _ q)
    show x ∈ (uldF suf ys).erase y
    exact (List.mem_erase_of_ne fun q => hn (by rw [q]; exact List.mem_cons_self)).mpr h1
structure US where
  va : List Value
  na : Nat
  xs : List Int
  vb : List Value
  nb : Nat
  suf : List Int
theorem last_split : ∀ {l : List Int}, l ≠ [] → l = l.dropLast ++ [l.getLastD 0]
  | [], h => absurd rfl h
  | [x], _ => rfl
  | x :: y :: r, _ => congrArg (List.cons x) (last_split (l := y :: r) (by simp))
theorem uld_turn {xs xs' suf ys : List Int} (hI : xs = xs' ++ suf) (hne : xs' ≠ []) (hnd : xs.Nodup) (hsub : ∀ x ∈ xs, x ∈ ys) :
    xs'.getLastD 0 ∈ uldF suf ys ∧ xs = xs'.dropLast ++ (xs'.getLastD 0 :: suf) ∧ xs'.dropLast.length < xs'.length := by
  have e := last_split hne
  have e2 : xs = xs'.dropLast ++ (xs'.getLastD 0 :: suf) := by
    rw [hI]
    conv => lhs; rw [e]
    simp
  refine ⟨mem_uldF (hsub _ (by rw [e2]; simp)) ?_, e2, ?_⟩
  · rw [e2] at hnd
    have := (List.nodup_append.mp hnd).2.1
    exact (List.nodup_cons.mp this).1
  · rw [List.length_dropLast]
    have : 0 < xs'.length := List.length_pos_iff.mpr hne
    omega
theorem off1_out {D : Addr} : ∀ {l : List (Addr × Obj)}, LCg.Off1 D l → ∀ p ∈ l, p.1 ≠ D
  | [], _, _, h => nomatch h
  | _ :: _, x, p, h => by
    rcases List.mem_cons.mp h with rfl | h
    · exact x.1
    · exact off1_out x.2 p h
def Same (h₀ : Heap) (L : Addr) (m : Str → Option Value) (news : List (Addr × Obj)) (s s' : Shared) : Prop := ∃ h' tk', s' = { s with heap := h', toks := tk' } ∧ Fr h₀ L h' m ∧ News h₀ L h' news
theorem Same.intro {h₀ h' : Heap} {L : Addr} {m : Str → Option Value} {news : List (Addr × Obj)} {s : Shared} {tk' : Nat} (F : Fr h₀ L h' m) (N : News h₀ L h' news) : Same h₀ L m news s { s with heap := h', toks := tk' } := ⟨h', tk', rfl, F, N⟩
section
variable {prog : Program} {w : World} {A : Around} {s : Shared} {h₀ : Heap} {L : Addr} {m : Str → Option Value} {env : Env}
open LCg in
theorem restT_pure {ct elt : PySem.Expr} {x : Str} {scope : Scope} {cl : List (Str × Addr)} {S : List (Addr × Obj) → Prop} {P : Nat → Value → Prop} {Fin : List Value → List (Addr × Obj) → Prop} {n : Nat} {news : List (Addr × Obj)} (p : Nat → Bool) (f : Nat → Int) (hS : S news)
    (turn : ∀ k v I oI C oC D ys m₂ h tk (E' : Value → Shared → Prop), k < n → P k v → NsObj oC m₂ → m₂ x = some v → Fr h₀ L h m → News h₀ L h ((I, oI) :: (C, oC) :: (D, lst ys) :: news) → Off3 I C D news → ((@Ne Nat I C) ∧ (@Ne Nat I D) ∧ (@Ne Nat C D)) →
      wpAny (model prog w) A (isTrue ct (compEnvC scope cl C env) (eval ct (compEnvC scope cl C env))) (fun ok s' => ok = p k ∧ Same h₀ L m ((I, oI) :: (C, oC) :: (D, lst ys) :: news) s s') E' { s with heap := h, toks := tk })
    (elts : ∀ k v I oI C oC D ys m₂ h tk (E' : Value → Shared → Prop), k < n → p k = true → P k v → NsObj oC m₂ → m₂ x = some v → Fr h₀ L h m → News h₀ L h ((I, oI) :: (C, oC) :: (D, lst ys) :: news) → Off3 I C D news → ((@Ne Nat I C) ∧ (@Ne Nat I D) ∧ (@Ne Nat C D)) →
      wpAny (model prog w) A (eval elt (compEnvC scope cl C env)) (fun y s' => (∃ t, y = .int (f k) t) ∧ Same h₀ L m ((I, oI) :: (C, oC) :: (D, lst ys) :: news) s s') E' { s with heap := h, toks := tk })
    (fin : ∀ ys, IntsAre ys (((List.range n).filter p).map f) → Fin ys news) : LCt.CompRestT prog w A h₀ L m env ct elt x scope cl s S P Fin n 0 [] news := by
  have main : ∀ (k i : Nat) (ys : List Value), i + k = n → IntsAre ys (((List.range i).filter p).map f) → LCt.CompRestT prog w A h₀ L m env ct elt x scope cl s S P Fin k i ys news := by
    intro k
    induction k with
    | zero =>
      intro i ys hi hy
      obtain rfl : i = n := by omega
      exact LCt.CompRestT.zero (fin ys hy)
    | succ k ih =>
      intro i ys hi hy
      refine LCt.CompRestT.succ ?_
      intro v I oI C oC D m₂ h tk E' hP hC hx F N off ne
      have hlt : i < n := by omega
      have hr : (List.range (i + 1)).filter p = (List.range i).filter p ++ (if p i = true then [i] else []) := by
        rw [List.range_succ, List.filter_append]
        congr 1
        by_cases hp : p i = true <;> simp [hp]
      refine wpAny_mono (turn i v I oI C oC D ys m₂ h tk E' hlt hP hC hx F N off ne) (fun ok s' hq => ?_) fun _ _ e => e
      obtain ⟨rfl, h', tk', rfl, F', N'⟩ := hq
      by_cases hp : p i = true
      · simp only [hp, if_true] at hr ⊢
        refine wpAny_mono (elts i v I oI C oC D ys m₂ h' tk' E' hlt hp hP hC hx F' N' off ne) (fun y s' hq => ?_) fun _ _ e => e
        obtain ⟨⟨t, rfl⟩, h'', tk'', rfl, F'', N''⟩ := hq
        refine CompEnd.intro F'' N'' news (fun q hq => hq) off hS (ih (i + 1) _ (by omega) ?_)
        rw [hr, List.map_append]
        exact hy.append (.cons _ _ .nil)
      · simp only [hp, if_false, List.append_nil, Bool.false_eq_true] at hr ⊢
        exact CompEnd.intro F' N' news (fun q hq => hq) off hS (ih (i + 1) _ (by omega) (hr ▸ hy))
  exact main n 0 [] (by omega) .nil
open LCg in
theorem rest_pure {elt : PySem.Expr} {x : Str} {scope : Scope} {cl : List (Str × Addr)} {S : List (Addr × Obj) → Prop} {P : Nat → Value → Prop} {Fin : List Value → List (Addr × Obj) → Prop} {n : Nat} {news : List (Addr × Obj)} (f : Nat → Int) (hS : S news)
    (elts : ∀ k v I oI C oC D ys m₂ h tk (E' : Value → Shared → Prop), k < n → P k v → NsObj oC m₂ → m₂ x = some v → Fr h₀ L h m → News h₀ L h ((I, oI) :: (C, oC) :: (D, lst ys) :: news) → Off3 I C D news → ((@Ne Nat I C) ∧ (@Ne Nat I D) ∧ (@Ne Nat C D)) →
      wpAny (model prog w) A (eval elt (compEnvC scope cl C env)) (fun y s' => (∃ t, y = .int (f k) t) ∧ Same h₀ L m ((I, oI) :: (C, oC) :: (D, lst ys) :: news) s s') E' { s with heap := h, toks := tk })
    (fin : ∀ ys, IntsAre ys ((List.range n).map f) → Fin ys news) : CompRest prog w A h₀ L m env elt x scope cl s S P Fin n 0 [] news := by
  have main : ∀ (k i : Nat) (ys : List Value), i + k = n → IntsAre ys ((List.range i).map f) → CompRest prog w A h₀ L m env elt x scope cl s S P Fin k i ys news := by
    intro k
    induction k with
    | zero =>
      intro i ys hi hy
      obtain rfl : i = n := by omega
      exact CompRest.zero (fin ys hy)
    | succ k ih =>
      intro i ys hi hy
      refine CompRest.succ ?_
      intro v I oI C oC D m₂ h tk E' hP hC hx F N off ne
      have hlt : i < n := by omega
      refine wpAny_mono (elts i v I oI C oC D ys m₂ h tk E' hlt hP hC hx F N off ne) (fun y s' hq => ?_) fun _ _ e => e
      obtain ⟨⟨t, rfl⟩, h'', tk'', rfl, F'', N''⟩ := hq
      refine CompEnd.intro F'' N'' news (fun q hq => hq) off hS (ih (i + 1) _ (by omega) ?_)
      rw [List.range_succ, List.map_append]
      exact hy.append (.cons _ _ .nil)
  exact main n 0 [] (by omega) .nil
theorem AllObj.imp : ∀ {ws : List (Addr × String)} {k k' : List (Addr × Obj) → Prop}, (∀ its, k its → k' its) → AllObj ws k → AllObj ws k'
  | [], _, _, hi, h => hi _ h
  | w :: r, k, k', hi, h => fun o ho => AllObj.imp (ws := r) (k := fun its => k ((w.1, o) :: its)) (k' := fun its => k' ((w.1, o) :: its)) (fun its => hi _) (h o ho)
variable {E : Value → Shared → Prop} {target : PySem.Expr} {body : List Stmt} {Q : Flow → Shared → Prop}
theorem items_ind {ws : List (Addr × String)} {keep : List (Addr × Obj)} (Inv : Nat → (Str → Option Value) → List (Addr × Obj) → Prop) (xs : List Itm)
    (zero : ∀ m news, Inv xs.length m news → ∀ h tk, Fr h₀ env.locals h m → News h₀ env.locals h news → Q .next { s with heap := h, toks := tk })
    (step : ∀ i a m news, xs[i]? = some a → Inv i m news → ∀ v h tk, a.Is v h → Fr h₀ env.locals h m → AllObj ws (fun its => News h₀ env.locals h (its ++ news) →
      wpAny (model prog w) A (assign target env v) (fun _ s₂ => wpAny (model prog w) A (execs body env) (UnrPostW h₀ env.locals { s with heap := h, toks := tk } its (fun m' n' => SubL keep n' ∧ Inv (i + 1) m' n') Q) E s₂) E { s with heap := h, toks := tk })) :
    ∀ k i, i + k = xs.length → ∀ m news, Inv i m news → ItemsRest prog w A E h₀ env target body Q s ws keep (xs.drop i) m news := by
  intro k
  induction k with
  | zero =>
    intro i hi m news hI
    have e : xs.drop i = [] := List.drop_eq_nil_of_le (by omega)
    rw [e]
    exact zero m news ((show i = xs.length by omega) ▸ hI)
  | succ k ih =>
    intro i hi m news hI
    have hlt : i < xs.length := by omega
    have e : xs.drop i = xs[i] :: xs.drop (i + 1) := List.drop_eq_getElem_cons hlt
    rw [e]
    intro v h tk hv F
    refine AllObj.imp (fun its hk N => ?_) (step i xs[i] m news (List.getElem?_eq_getElem hlt) hI v h tk hv F)
    refine wpAny_mono (hk N) (fun _ s₂ h₂ => wpAny_mono h₂ (fun f s₃ p => ?_) fun _ _ e => e) fun _ _ e => e
    have fin : ∀ s₃, UnrEndW h₀ env.locals { s with heap := h, toks := tk } its (fun m' n' => SubL keep n' ∧ Inv (i + 1) m' n') s₃ → UnrEndW h₀ env.locals { s with heap := h, toks := tk } its (fun m' n' => SubL keep n' ∧ ItemsRest prog w A E h₀ env target body Q s ws keep (xs.drop (i + 1)) m' n') s₃ := by
      rintro s₃ ⟨h', tk', m', news', e, F', N', o, hk', hI'⟩
      exact ⟨h', tk', m', news', e, F', N', o, hk', ih (i + 1) (by omega) m' news' hI'⟩
    cases f with
    | ret v => exact p
    | brk => exact p
    | next => exact fin _ p
    | cont => exact fin _ p
theorem enumItems_at : ∀ (vs : List Value) (a i : Nat) {x : Itm}, (enumItems a vs)[i]? = some x → ∃ v, vs[i]? = some v ∧ x = .pair (fun t => .int ((a + i : Nat) : Int) t) v := by
  intro vs a i x h
  have hlt : i < vs.length := by
    have := (List.getElem?_eq_some_iff.mp h).1
    rwa [enumItems_length] at this
  refine ⟨vs[i], List.getElem?_eq_getElem hlt, ?_⟩
  have := enumItems_get vs a i (List.getElem?_eq_getElem hlt)
  exact Option.some.inj (h.symm.trans this)
end
theorem ints_getD : ∀ {vs : List Value} {ms : List Int} {i : Nat} {v : Value}, IntsAre vs ms → vs[i]? = some v → ∃ t, v = .int (ms.getD i 0) t
  | _, _, i, v, .nil, h => by simp at h
  | _, _, 0, v, .cons n t r, h => ⟨t, by simpa using h.symm⟩
  | _, _, i + 1, v, .cons n t r, h => by
    obtain ⟨t', e⟩ := ints_getD r (i := i) (v := v) (by simpa using h)
    exact ⟨t', by simpa using e⟩
def maxL (l : List Int) : Int := l.foldl max 0
def endStep (row es : List Int) (i : Nat) (v : Int) : Int := 1 + maxL (((List.range i).filter (fun k => decide (v < row.getD k 0))).map (fun k => es.getD k 0))
def endsUpTo (row : List Int) : Nat → List Int
  | 0 => []
  | i + 1 => endsUpTo row i ++ [endStep row (endsUpTo row i) i (row.getD i 0)]
def endsOf (row : List Int) : List Int := endsUpTo row row.length
theorem endsUpTo_length (row : List Int) : ∀ i, (endsUpTo row i).length = i
  | 0 => rfl
  | i + 1 => by simp [endsUpTo, endsUpTo_length row i]
theorem ne_of_all {d c : Addr} {l : List (Addr × Obj)} (h : ∀ p ∈ l, p.1 < d) (hc : @LE.le Nat _ d c) : ∀ p ∈ l, p.1 ≠ c := fun p hp => Nat.ne_of_lt (Nat.lt_of_lt_of_le (h p hp) hc)
theorem range_small {a b : Int} (h0 : 0 ≤ a) (hb : 0 ≤ b) (ha' : a ≤ 1000) (hb' : b ≤ 1000) : Builtin.Range.small a b 1 = true := by
  have hf : ∀ x : Int, -2000 ≤ x → x ≤ 2000 → Builtin.Range.rangeFitsLong x = true := fun x h1 h2 => by
    unfold Builtin.Range.rangeFitsLong
    rw [Bool.and_eq_true, decide_eq_true_eq, decide_eq_true_eq]
    exact ⟨by omega, by omega⟩
  unfold Builtin.Range.small
  simp only [rangeSize_nat]
  rw [hf a (by omega) (by omega), hf b (by omega) (by omega), hf 1 (by omega) (by omega), hf (((b - a).toNat : Nat) : Int) (by omega) (by omega)]
  rw [if_pos (by decide), hf _ (by omega) (by omega)]
  simp
theorem range0_size (n : Nat) : Builtin.Range.rangeSize 0 (n : Int) 1 = ((n : Nat) : Int) := by rw [rangeSize_nat]; omega
theorem maxL_ge : ∀ (l : List Int) (a : Int), a ≤ l.foldl max a ∧ ∀ x ∈ l, x ≤ l.foldl max a
  | [], a => ⟨Int.le_refl _, fun _ h => nomatch h⟩
  | y :: l, a => by
    obtain ⟨h1, h2⟩ := maxL_ge l (max a y)
    refine ⟨by rw [List.foldl_cons]; omega, fun x hx => ?_⟩
    rw [List.foldl_cons]
    rcases List.mem_cons.mp hx with rfl | hx
    · omega
    · exact h2 x hx
theorem maxL_mem : ∀ (l : List Int) (a : Int), l.foldl max a = a ∨ l.foldl max a ∈ l
  | [], a => .inl rfl
  | y :: l, a => by
    rw [List.foldl_cons]
    rcases maxL_mem l (max a y) with h | h
    · rw [h]
      by_cases hay : a ≤ y
      · exact .inr (by rw [Int.max_eq_right hay]; exact List.mem_cons_self)
      · exact .inl (by omega)
    · exact .inr (List.mem_cons_of_mem _ h)
theorem maxL_eq {l : List Int} {M : Int} (hm : M ∈ [0] ++ l) (hle : ∀ a ∈ [0] ++ l, a ≤ M) : M = maxL l := by
  obtain ⟨h1, h2⟩ := maxL_ge l 0
  unfold maxL
  have h3 : M ≤ l.foldl max 0 := by
    rcases List.mem_append.mp hm with h | h
    · rw [List.mem_singleton.mp h]; exact h1
    · exact h2 _ h
  have h4 : l.foldl max 0 ≤ M := by
    rcases maxL_mem l 0 with h | h
    · rw [h]; exact hle 0 (List.mem_append_left _ (List.mem_singleton.mpr rfl))
    · exact hle _ (List.mem_append_right _ h)
  omega
theorem unrEnd {L : Addr} {its : List (Addr × Obj)} {rest : (Str → Option Value) → List (Addr × Obj) → Prop} {s₁ : Shared} {h₀ h' : Heap} {tk : Nat} {m' : Str → Option Value} {all : List (Addr × Obj)} (I : Addr) (F : Fr h₀ L h' m') (N : News h₀ L h' all) (news' : List (Addr × Obj))
    (h1 : ∀ p ∈ its, p ∈ all) (h2 : ∀ p ∈ news', p ∈ all) (h3 : ∀ p ∈ news', @LT.lt Nat _ p.1 I) (h4 : ∀ q ∈ its, @LE.le Nat _ I q.1) (r : rest m' news') : UnrEndW h₀ L s₁ its rest { s₁ with heap := h', toks := tk } :=
  ⟨h', tk, m', news', rfl, F, fun p hp => (List.mem_append.mp hp).elim (fun h => N p (h1 p h)) fun h => N p (h2 p h), fun p hp q hq e => absurd (e ▸ h3 p hp) (Nat.not_lt.mpr (h4 q hq)), r⟩
theorem tail_mem {x : Addr × Obj} {l all : List (Addr × Obj)} (h : ∀ p ∈ l, p ∈ all) : ∀ p ∈ l, p ∈ x :: all := fun p hp => List.mem_cons_of_mem _ (h p hp)
section
variable {prog : Program} {w : World} {A : Around} {E : Value → Shared → Prop} {s : Shared} {h₀ : Heap} {L : Addr} {m : Str → Option Value} {env : Env}
open LCg in
theorem zip_block {elt iter c : PySem.Expr} {a b : Str} {pa pb tp : Pos} {kk : Nat} {scope : Scope} {cl : List (Str × Addr)} {pos : Pos} {s₂ : Shared} {I : Addr} {fp wr : List Addr} {n : Nat} {Pt : Nat → Array Value → Prop} {St : Nat → Heap → Prop} {Mid : Nat → Addr → Heap → Prop} {P : Nat → Value → Value → Prop} {news : List (Addr × Obj)}
    {RR : Value → Addr → Result → Shared → Prop} (p : Nat → Bool) (f : Nat → Int)
    (hh : A.handled = none) (W : WalksU prog w A I fp wr n Pt St Mid) (hsz : n ≤ 1000) (hP : ∀ i vals, Pt i vals → ∃ x y, vals = #[x, y] ∧ P i x y)
    (hcell : ∀ y ∈ scope.names, y.2 ≠ .cell) (hkind : scope.kind = .function) (hxa : scope.names.lookup a = some .local) (hxb : scope.names.lookup b = some .local) (hab : ¬ a = b)
    (hst : St 0 s₂.heap) (hfp : ∀ b ∈ fp, @LT.lt Nat _ b s₂.heap.objs.size) (hwr0 : ∀ b ∈ wr, h₀.get? b = none) (hLw : L ∉ wr)
    (F : Fr h₀ L s₂.heap m) (N : News h₀ L s₂.heap news) (off : ∀ q ∈ news, q.1 ∉ wr)
    (turn : ∀ i x y C oC m₂ h tk (E' : Value → Shared → Prop), i < n → P i x y → NsObj oC m₂ → m₂ a = some x → m₂ b = some y → Fr h₀ L h m → News h₀ L h ((C, oC) :: news) →
      wpAny (model prog w) A (isTrue c (compEnvC scope cl C env) (eval c (compEnvC scope cl C env))) (fun ok s' => ok = p i ∧ ∃ tk', s' = { s₂ with heap := h, toks := tk' }) E' { s₂ with heap := h, toks := tk })
    (elts : ∀ i x y C oC m₂ h tk (E' : Value → Shared → Prop), i < n → p i = true → P i x y → NsObj oC m₂ → m₂ a = some x → m₂ b = some y → Fr h₀ L h m → News h₀ L h ((C, oC) :: news) →
      wpAny (model prog w) A (eval elt (compEnvC scope cl C env)) (fun y s' => (∃ t, y = .int (f i) t) ∧ ∃ tk', s' = { s₂ with heap := h, toks := tk' }) E' { s₂ with heap := h, toks := tk })
    (hRR : ∀ D C h tk m' ys, Fr h₀ L h m → News h₀ L h ((D, lst ys) :: news) → (∀ q ∈ news, q.1 < D) → h.Ns C m' → h₀.get? C = none → h₀.get? D = none → C ≠ L → D ≠ L → C ≠ D → (∀ q ∈ news, q.1 ≠ C) → IntsAre ys (((List.range n).filter p).map f) → RR (.ref D) C (.ok .next) { s₂ with heap := h, toks := tk }) :
    wpAny (model prog w) A (newList []) (fun acc s₃ => wpAny (model prog w) A (newFunctionEnv scope env.globals cl [] env.qual none .none (some env)) (fun cenv s₄ =>
      codeAny (model prog w) A (.compStart (.ListComp elt [⟨.Tuple [.Name a pa, .Name b pb] kk tp, iter, [c], 0⟩] scope pos) 0 (.ref I) acc { cenv with scope := relabel scope env }) (RR acc cenv.locals) s₄) E s₃) E s₂ := by
  refine wpAny_newObj_type (wpAny_newFunctionEnv hcell (by intro y hy; simp at hy) (fun h₁ hns₁ hsb₁ => ?_) hkind)
  dsimp only at hns₁ hsb₁ ⊢
  generalize hH2 : s₂.heap.push { cls := .type "list", dict := none, data := .seq ([] : List Value).toArray } = H2 at hns₁ hsb₁ ⊢
  have hC : H2.objs.size = s₂.heap.objs.size + 1 := by rw [← hH2, Heap.size_push]
  have hDC : s₂.heap.objs.size ≠ H2.objs.size := by rw [hC]; exact Nat.ne_of_lt (Nat.lt_succ_self _)
  have below : ∀ b, b < s₂.heap.objs.size → b ≠ H2.objs.size ∧ b ≠ s₂.heap.objs.size := fun b hb => ⟨by rw [hC]; exact Nat.ne_of_lt (Nat.lt_succ_of_lt hb), Nat.ne_of_lt hb⟩
  have hCf : H2.objs.size ∉ fp := fun hm => by have := hfp _ hm; rw [hC] at this; exact Nat.lt_irrefl _ (Nat.lt_of_succ_lt this)
  have hDf : s₂.heap.objs.size ∉ fp := fun hm => Nat.lt_irrefl _ (hfp _ hm)
  have hCw : H2.objs.size ∉ wr := fun hm => hCf (W.sub _ hm)
  have hDw : s₂.heap.objs.size ∉ wr := fun hm => hDf (W.sub _ hm)
  have old : ∀ b o, s₂.heap.get? b = some o → h₁.get? b = some o := fun b o e => hsb₁.extBut b o (below b (Heap.lt_size e)).1 (Heap.get?_push_of_some _ (hH2 ▸ Heap.get?_push_of_some _ e))
  have hacc : h₁.get? s₂.heap.objs.size = some (lst []) := hsb₁.extBut _ _ hDC (Heap.get?_push_of_some _ (hH2 ▸ Heap.get?_push_size _ rfl))
  have hst₁ : St 0 h₁ := W.frame _ _ _ hst fun b _ o e => old b o e
  have fresh₀ : ∀ a, s₂.heap.objs.size ≤ a → h₀.get? a = none := fun a ha => by
    cases e : h₀.get? a with
    | none => rfl
    | some o' => exact absurd (Heap.lt_size (F.keep a o' e)) (Nat.not_lt.mpr ha)
  have hD₀ : h₀.get? s₂.heap.objs.size = none := fresh₀ _ (Nat.le_refl _)
  have hC₀ : h₀.get? H2.objs.size = none := fresh₀ _ (by rw [hC]; exact Nat.le_succ _)
  have hLlt : L < s₂.heap.objs.size := F.ns.lt
  have hDL : s₂.heap.objs.size ≠ L := Ne.symm (below L hLlt).2
  have hCL : H2.objs.size ≠ L := Ne.symm (below L hLlt).1
  have offC : ∀ q ∈ news, q.1 ≠ H2.objs.size := fun q hq => (below _ (Heap.lt_size (N q hq).1)).1
  have offD : ∀ q ∈ news, q.1 ≠ s₂.heap.objs.size := fun q hq => (below _ (Heap.lt_size (N q hq).1)).2
  have loop : ∀ s₃ : Shared, s₃ = { s₂ with heap := h₁, toks := s₂.toks + ([] : List (Str × Value)).length } →
      codeAny (model prog w) A (.compLoop (.ListComp elt [⟨.Tuple [.Name a pa, .Name b pb] kk tp, iter, [c], 0⟩] scope pos) 0 (.ref I) (.ref s₂.heap.objs.size) (compEnvC scope cl H2.objs.size env))
        (RR (.ref s₂.heap.objs.size) H2.objs.size) s₃ := by
    rintro s₃ rfl
    refine kct_loop
      (fun k s' => ∃ h' tk i ys m', s' = { s₂ with heap := h', toks := tk } ∧ i ≤ n ∧ k = n + 1 - i ∧ IntsAre ys (((List.range i).filter p).map f) ∧ St i h' ∧ Fr h₀ L h' m ∧ h'.Ns H2.objs.size m' ∧ News h₀ L h' ((s₂.heap.objs.size, lst ys) :: news)) ?_ (n + 1)
      ⟨h₁, _, 0, [], _, rfl, Nat.zero_le _, rfl, .nil, hst₁, F.keeps old, hns₁, fun q hq => ?_⟩
    · rintro k s' ⟨h', tk, i, ys, m', rfl, hi, rfl, hys, hst', F', hn', N'⟩
      by_cases hlt : i < n
      · refine W.item i _ _ _ hlt hst' fun T vals h₂ tk₂ hPt hT hMd hk₂ => ?_
        refine W.go _ _ _ i T _ _ _ hMd fun h₃ hst₃ hk₃ => ?_
        obtain ⟨x, y, rfl, hPi⟩ := hP i vals hPt
        have up₃ : ∀ c o, c ∉ wr → h'.get? c = some o → h₃.get? c = some o := fun c o hc e => hk₃ c o hc (hk₂ c o hc e)
        have hT₃ : h₃.IsTuple T #[x, y] := hT.at fun o e => hk₃ T o (W.apart i T _ hMd) e
        refine kcp_assign (env := compEnvC scope cl H2.objs.size env) hh hT₃ (lookup_relabel_local hxa) (lookup_relabel_local hxb) (by simp [compEnvC, relabel, hkind]) (hn'.at' fun o e => up₃ _ o hCw e) fun h₄ tk₄ hn₄ hs₄ => ?_
        have up : ∀ c o, c ∉ wr → c ≠ H2.objs.size → h'.get? c = some o → h₄.get? c = some o := fun c o h1 h2 e => hs₄ c o h2 (up₃ c o h1 e)
        have hst₄ : St (i + 1) h₄ := W.frame _ _ _ hst₃ fun b hb o e => hs₄ b o (fun q => hCf (by have q' : b = H2.objs.size := q; rw [← q']; exact hb)) e
        obtain ⟨oC, heC, hoC⟩ := ns_obj hn₄
        have F₄ : Fr h₀ L h₄ m := ⟨F'.ns.at' fun o e => up _ o hLw (Ne.symm hCL) e, fun c o e => up c o (fun q => by rw [hwr0 c q] at e; cases e) (fun q => by rw [q, hC₀] at e; cases e) (F'.keep c o e), F'.above⟩
        have N₄ : News h₀ L h₄ ((s₂.heap.objs.size, lst ys) :: news) := fun q hq => by
          have z := N' q hq
          refine ⟨up _ _ ?_ ?_ z.1, z.2⟩
          · rcases List.mem_cons.mp hq with rfl | hq
            · exact hDw
            · exact off q hq
          · rcases List.mem_cons.mp hq with rfl | hq
            · exact hDC
            · exact offC q hq
        have N₅ : News h₀ L h₄ ((H2.objs.size, oC) :: news) := fun q hq => by
          rcases List.mem_cons.mp hq with rfl | hq
          · exact ⟨heC, hCL, hC₀⟩
          · exact N₄ q (List.mem_cons_of_mem _ hq)
        have hr : (List.range (i + 1)).filter p = (List.range i).filter p ++ (if p i = true then [i] else []) := by
          rw [List.range_succ, List.filter_append]
          congr 1
          by_cases hp : p i = true <;> simp [hp]
        have hyl : ys.length ≤ i := by
          have := hys.length
          rw [List.length_map] at this
          have h2 := List.length_filter_le p (List.range i)
          rw [List.length_range] at h2
          omega
        refine wpAny_mono (turn i x y H2.objs.size oC _ h₄ _ _ hlt hPi hoC (by simp [hab]) (by simp) F₄ N₅) (fun okb s₅ h₅ => ?_) fun _ _ e => e
        obtain ⟨rfl, tk₅, rfl⟩ := h₅
        by_cases hp : p i = true
        · rw [if_pos hp]
          rw [if_pos hp] at hr
          refine wpAny_mono (elts i x y H2.objs.size oC _ h₄ _ _ hlt hp hPi hoC (by simp [hab]) (by simp) F₄ N₅) (fun yv s₆ h₆ => ?_) fun _ _ e => e
          obtain ⟨⟨t, rfl⟩, tk₆, rfl⟩ := h₆
          refine append_at (hsz := by show ys.toArray.size ≤ sizeLine; rw [List.size_toArray, sizeLine_eq]; omega) (N₄ _ List.mem_cons_self).1 fun h₆ hs₆ hD₆ => ?_
          refine ⟨n + 1 - (i + 1), by omega, h₆, _, i + 1, ys ++ [.int (f i) t], _, rfl, hlt, rfl, ?_, W.frame _ _ _ hst₄ fun b hb o e => hs₆.extBut b o (fun q => hDf (q ▸ hb)) e, F₄.change hs₆ hDL hD₀, (hoC.ns heC).sameBut hs₆ (Ne.symm hDC), fun q hq => ?_⟩
          · rw [hr, List.map_append]
            exact hys.append (.cons _ _ .nil)
          · rcases List.mem_cons.mp hq with rfl | hq
            · exact ⟨hD₆.trans (congrArg some (lst_snoc ys _)), hDL, hD₀⟩
            · exact ⟨hs₆.extBut _ _ (offD q hq) (N₄ q (List.mem_cons_of_mem _ hq)).1, (N' q (List.mem_cons_of_mem _ hq)).2⟩
        · rw [if_neg hp]
          rw [if_neg hp, List.append_nil] at hr
          exact ⟨n + 1 - (i + 1), by omega, h₄, _, i + 1, ys, _, rfl, hlt, rfl, hr ▸ hys, hst₄, F₄, hoC.ns heC, N₄⟩
      · have hin : i = n := Nat.le_antisymm hi (Nat.not_lt.mp hlt)
        subst hin
        refine W.done _ _ _ hst' fun h₂ tk₂ hk₂ => ?_
        refine hRR _ _ h₂ tk₂ _ ys ⟨F'.ns.at' fun o e => hk₂ _ o hLw e, fun c o e => hk₂ c o (fun q => by rw [hwr0 c q] at e; cases e) (F'.keep c o e), F'.above⟩ (fun q hq => ?_) (fun q hq => Heap.lt_size (N q hq).1) (hn'.at' fun o e => hk₂ _ o hCw e) hC₀ hD₀ hCL hDL (Ne.symm hDC) offC hys
        refine ⟨hk₂ _ _ ?_ (N' q hq).1, (N' q hq).2⟩
        rcases List.mem_cons.mp hq with rfl | hq
        · exact hDw
        · exact off q hq
    · rcases List.mem_cons.mp hq with rfl | hq
      · exact ⟨hacc, hDL, hD₀⟩
      · exact ⟨old _ _ (N q hq).1, (N q hq).2⟩
  exact codeAny_compStart_list (loop _ rfl) (W.self 0 _ _ _ hst₁ (loop _ rfl))
end
section
variable {prog : Program} {w : World} {A : Around} {E : Value → Shared → Prop} {s : Shared} {h₀ : Heap} {L : Addr} {m : Str → Option Value} {env : Env}
open LCg in
def ZipSrcQ (prog : Program) (w : World) (A : Around) (h₀ : Heap) (L : Addr) (m : Str → Option Value) (env : Env) (c elt : PySem.Expr) (a b : Str) (scope : Scope) (cl : List (Str × Addr)) (Fin : Shared → List Value → List (Addr × Obj) → Prop) (xv : Value) (s₂ : Shared) : Prop :=
  ∃ (I : Addr) (fp wr : List Addr) (n : Nat) (Pt : Nat → Array Value → Prop) (St : Nat → Heap → Prop) (Mid : Nat → Addr → Heap → Prop) (P : Nat → Value → Value → Prop) (news : List (Addr × Obj)) (p : Nat → Bool) (f : Nat → Int),
    xv = .ref I ∧ A.handled = none ∧ WalksU prog w A I fp wr n Pt St Mid ∧ n ≤ 1000 ∧ (∀ i vals, Pt i vals → ∃ x y, vals = #[x, y] ∧ P i x y) ∧ St 0 s₂.heap ∧ (∀ b ∈ fp, @LT.lt Nat _ b s₂.heap.objs.size) ∧ (∀ b ∈ wr, h₀.get? b = none) ∧ L ∉ wr ∧ Fr h₀ L s₂.heap m ∧ News h₀ L s₂.heap news ∧ (∀ q ∈ news, q.1 ∉ wr) ∧
    (∀ i x y C oC m₂ h tk (E' : Value → Shared → Prop), i < n → P i x y → NsObj oC m₂ → m₂ a = some x → m₂ b = some y → Fr h₀ L h m → News h₀ L h ((C, oC) :: news) →
      wpAny (model prog w) A (isTrue c (compEnvC scope cl C env) (eval c (compEnvC scope cl C env))) (fun ok s' => ok = p i ∧ ∃ tk', s' = { s₂ with heap := h, toks := tk' }) E' { s₂ with heap := h, toks := tk }) ∧
    (∀ i x y C oC m₂ h tk (E' : Value → Shared → Prop), i < n → p i = true → P i x y → NsObj oC m₂ → m₂ a = some x → m₂ b = some y → Fr h₀ L h m → News h₀ L h ((C, oC) :: news) →
      wpAny (model prog w) A (eval elt (compEnvC scope cl C env)) (fun y s' => (∃ t, y = .int (f i) t) ∧ ∃ tk', s' = { s₂ with heap := h, toks := tk' }) E' { s₂ with heap := h, toks := tk }) ∧
    ∀ ys, IntsAre ys (((List.range n).filter p).map f) → Fin s₂ ys news
open LCg in
def ZFinE (h₀ : Heap) (L : Addr) (m : Str → Option Value) (Q : Value → Shared → Prop) (s : Shared) (ys : List Value) (news : List (Addr × Obj)) : Prop :=
  ∀ D h tk, Fr h₀ L h m → News h₀ L h ((D, lst ys) :: news) → (∀ q ∈ news, @LT.lt Nat _ q.1 D) → Q (.ref D) { s with heap := h, toks := tk }
open LCg in
def ZFinA (h₀ : Heap) (L : Addr) (m : Str → Option Value) (y : Str) (Q : Flow → Shared → Prop) (s : Shared) (ys : List Value) (news : List (Addr × Obj)) : Prop :=
  ∀ D h tk, Fr h₀ L h (fun z => if z = y then some (.ref D) else m z) → News h₀ L h ((D, lst ys) :: news) → (∀ q ∈ news, @LT.lt Nat _ q.1 D) → Q .next { s with heap := h, toks := tk }
theorem ListComp_Z {elt iter c : PySem.Expr} {a b : Str} {pa pb tp : Pos} {kk : Nat} {scope : Scope} {cl : List (Str × Addr)} {pos : Pos} {Q : Value → Shared → Prop} (_F₀ : Fr h₀ L s.heap m)
    (hclos : closureFor scope env = pure cl) (hcell : ∀ y ∈ scope.names, y.2 ≠ .cell) (hkind : scope.kind = .function)
    (hnames : ∀ y ∈ scope.names, y.2 = .local → scope.names.lookup y.1 = some .local) (hxa : scope.names.lookup a = some .local) (hxb : scope.names.lookup b = some .local) (hab : ¬ a = b)
    (h : wpAny (model prog w) A (eval iter env) (ZipSrcQ prog w A h₀ L m env c elt a b scope cl (ZFinE h₀ L m Q)) E s)
    (hs : ∀ x, foldedSetIterable iter env x = pure x := by intro _; rfl) :
    wpAny (model prog w) A (eval (.ListComp elt [⟨.Tuple [.Name a pa, .Name b pb] kk tp, iter, [c], 0⟩] scope pos) env) Q E s := by
  rw [eval_ListComp]
  refine wpAny_comprehension_free (use := none) rfl hs hclos hkind hnames (wpAny_mono h (fun xv s₁ h₁ => ?_) fun _ _ e => e)
  obtain ⟨I, fp, wr, n, Pt, St, Mid, P, news, p, f, rfl, hh, W, hsz, hP, hst, hfp, hwr0, hLw, F, N, off, turn, elts, fin⟩ := h₁
  refine W.self 0 _ _ _ hst ?_
  refine zip_block (s₂ := s₁) p f hh W hsz hP hcell hkind hxa hxb hab hst hfp hwr0 hLw F N off turn elts ?_
  intro D C h tk m' ys F' N' l1 hn hC₀ hD₀ hCL hDL hCD offC hys
  refine ⟨m', hn, fun h'' hs'' => fin ys hys D h'' tk (F'.change hs'' hCL hC₀) (fun q hq => ?_) l1⟩
  refine ⟨hs''.extBut _ _ ?_ (N' q hq).1, (N' q hq).2⟩
  rcases List.mem_cons.mp hq with rfl | hq
  · exact Ne.symm hCD
  · exact offC q hq
theorem Assign_ListComp_Z {elt iter c : PySem.Expr} {a b y : Str} {pa pb tp py : Pos} {kk : Nat} {scope : Scope} {cl : List (Str × Addr)} {pos spos : Pos} {Q : Flow → Shared → Prop} (_F₀ : Fr h₀ L s.heap m) (hLe : env.locals = L)
    (hsw : swapsWith (.ListComp elt [⟨.Tuple [.Name a pa, .Name b pb] kk tp, iter, [c], 0⟩] scope pos) (some (.Name y py)) spos.line env = pure true)
    (hclos : closureFor scope env = pure cl) (hcell : ∀ y ∈ scope.names, y.2 ≠ .cell) (hkind : scope.kind = .function)
    (hnames : ∀ y ∈ scope.names, y.2 = .local → scope.names.lookup y.1 = some .local) (hxa : scope.names.lookup a = some .local) (hxb : scope.names.lookup b = some .local) (hab : ¬ a = b)
    (hy : env.kindOf y = some .local) (hp : (env.scope.kind == .class || (env.scope.kind == .module && env.locals != env.globals)) = false)
    (h : wpAny (model prog w) A (eval iter env) (ZipSrcQ prog w A h₀ L m env c elt a b scope cl (ZFinA h₀ L m y Q)) E s)
    (hs : ∀ x, foldedSetIterable iter env x = pure x := by intro _; rfl) :
    wpAny (model prog w) A (exec (.Assign [.Name y py] (.ListComp elt [⟨.Tuple [.Name a pa, .Name b pb] kk tp, iter, [c], 0⟩] scope pos) spos) env) Q E s := by
  subst hLe
  rw [exec_Assign_Name_used _ _ _ _ hsw]
  refine wpAny_bind (wpAny_standAt (wpAny_bind ?_))
  show wpAny _ A (do let _ ← comprehension (.ListComp elt [⟨.Tuple [.Name a pa, .Name b pb] kk tp, iter, [c], 0⟩] scope pos) scope env _ (newList []) false (eval iter env) (some (assign (.Name y py) env))) _ _ s
  refine wpAny_bind (wpAny_mono (wpAny_comprehension_free (use := some (assign (.Name y py) env)) (Q := fun _ s' => Q .next s') rfl hs hclos hkind hnames
    (wpAny_mono h (fun xv s₁ h₁ => ?_) fun _ _ e => e)) (fun _ s' hq => wpAny_pure (wpAny_pure hq)) fun _ _ e => e)
  obtain ⟨I, fp, wr, n, Pt, St, Mid, P, news, p, f, rfl, hh, W, hsz, hP, hst, hfp, hwr0, hLw, F, N, off, turn, elts, fin⟩ := h₁
  refine W.self 0 _ _ _ hst ?_
  refine zip_block (s₂ := s₁) p f hh W hsz hP hcell hkind hxa hxb hab hst hfp hwr0 hLw F N off turn elts ?_
  intro D C h tk m' ys F' N' l1 hn hC₀ hD₀ hCL hDL hCD offC hys
  show wpAny _ A (assign (.Name y py) env (.ref D)) _ _ _
  refine wpAny_assign_Name (wpAny_storeName_local hy F'.ns (fun h₂ hn₂ hs₂ => ?_) hp)
  have hL₀ : h₀.get? env.locals = none := Heap.get?_none_of_le F'.above
  have F₂ : Fr h₀ env.locals h₂ (fun z => if z = y then some (.ref D) else m z) := ⟨hn₂, fun b o e => hs₂.extBut b o (fun q => by rw [q, hL₀] at e; cases e) (F'.keep b o e), F'.above⟩
  refine ⟨m', hn.sameBut hs₂ hCL, fun h'' hs'' => fin ys hys D h'' _ (F₂.change hs'' hCL hC₀) (fun p hp => ?_) l1⟩
  have z : h₂.get? p.1 = some p.2 := hs₂.extBut _ _ (N' p hp).2.1 (N' p hp).1
  refine ⟨hs''.extBut _ _ ?_ z, (N' p hp).2⟩
  rcases List.mem_cons.mp hp with rfl | hp
  · exact Ne.symm hCD
  · exact offC p hp
open LCg in
theorem zip_call {c elt : PySem.Expr} {a b : Str} {scope : Scope} {cl : List (Str × Addr)} {Fin : Shared → List Value → List (Addr × Obj) → Prop} {l1 l2 : Addr} {lo1 lo2 : Obj} {xs ys : List Value} {n1 n2 : Nat} {ms ns : List Int} {news : List (Addr × Obj)} (p : Nat → Bool) (f : Nat → Int)
    (hh : A.handled = none) (F : Fr h₀ L s.heap m) (N : News h₀ L s.heap news) (hm1 : (l1, lo1) ∈ news) (hc1 : lo1.cls = .type "list") (hd1 : lo1.data = .seq xs.toArray n1) (hm2 : (l2, lo2) ∈ news) (hc2 : lo2.cls = .type "list") (hd2 : lo2.data = .seq ys.toArray n2)
    (hx : IntsAre xs ms) (hy : IntsAre ys ns) (hl : ms.length = ns.length) (hlen : ms.length ≤ 1000)
    (turn : ∀ i C oC m₂ t u s₂ (E' : Value → Shared → Prop), i < ms.length → NsObj oC m₂ → m₂ a = some (.int (ms.getD i 0) t) → m₂ b = some (.int (ns.getD i 0) u) → Fr h₀ L s₂.heap m → News h₀ L s₂.heap ((C, oC) :: news) →
      wpAny (model prog w) A (isTrue c (compEnvC scope cl C env) (eval c (compEnvC scope cl C env))) (fun ok s' => ok = p i ∧ ∃ tk', s' = { s₂ with toks := tk' }) E' s₂)
    (elts : ∀ i C oC m₂ t u s₂ (E' : Value → Shared → Prop), i < ms.length → NsObj oC m₂ → m₂ a = some (.int (ms.getD i 0) t) → m₂ b = some (.int (ns.getD i 0) u) → Fr h₀ L s₂.heap m → News h₀ L s₂.heap ((C, oC) :: news) →
      wpAny (model prog w) A (eval elt (compEnvC scope cl C env)) (fun y s' => (∃ t, y = .int (f i) t) ∧ ∃ tk', s' = { s₂ with toks := tk' }) E' s₂)
    (fin : ∀ h tk ys, IntsAre ys (((List.range ms.length).filter p).map f) → Fin { s with heap := h, toks := tk } ys news) :
    wpAny (model prog w) A (call (.type "zip") [.ref l1, .ref l2]) (ZipSrcQ prog w A h₀ L m env c elt a b scope cl Fin) E s := by
  have hax1 := N _ hm1
  have hax2 := N _ hm2
  have hl1 : s.heap.IsList l1 xs.toArray := ⟨lo1, hax1.1, hc1, n1, hd1⟩
  have hl2 : s.heap.IsList l2 ys.toArray := ⟨lo2, hax2.1, hc2, n2, hd2⟩
  have hlt1 : l1 < s.heap.objs.size := Heap.lt_size hax1.1
  have hlt2 : l2 < s.heap.objs.size := Heap.lt_size hax2.1
  have hLs : L < s.heap.objs.size := F.ns.lt
  have D : ZipApart (s.heap.objs.size + 4) (s.heap.objs.size + 2) (s.heap.objs.size + 3) s.heap.objs.size (s.heap.objs.size + 1) l1 l2 := ktu_apart _ _ _ hlt1 hlt2
  have hxl := hx.length
  have hyl := hy.length
  have hwrn : ∀ b, b ∈ [s.heap.objs.size + 4, s.heap.objs.size + 3, s.heap.objs.size, s.heap.objs.size + 1] → @LE.le Nat _ s.heap.objs.size b := by
    intro b hb
    have hb' : b = s.heap.objs.size + 4 ∨ b = s.heap.objs.size + 3 ∨ b = s.heap.objs.size ∨ b = s.heap.objs.size + 1 := by simpa using hb
    rcases hb' with rfl | rfl | rfl | rfl
    · exact Nat.le_add_right _ _
    · exact Nat.le_add_right _ _
    · exact Nat.le_refl _
    · exact Nat.le_add_right _ _
  refine call_zip_2 hl1 hl2 fun h' hz hTI hTO hi1 hi2 hsz hk => ?_
  refine ⟨s.heap.objs.size + 4, _, _, _, _, _, _, fun i x y => (i < ms.length → (∃ t, x = .int (ms.getD i 0) t) ∧ ∃ u, y = .int (ns.getD i 0) u), news, p, f, rfl, hh, (WalksT.zip2 hh _ _ _ _ _ _ _ D xs.toArray ys.toArray).toU, ?_, ?_, ⟨hz, hTI, ⟨_, _, hTO⟩, hi1, hi2, hl1.at fun o e => hk l1 o e, hl2.at fun o e => hk l2 o e⟩, ?_, ?_, ?_, F.keeps hk, N.grown hk, ?_, ?_, ?_, ?_⟩
  · simp only [List.size_toArray]; omega
  · rintro i vals ⟨x, y, ex, ey, rfl⟩
    refine ⟨x, y, rfl, fun hi => ⟨ints_getD hx (by simpa using ex), ints_getD hy (by simpa using ey)⟩⟩
  · intro b hb
    have hb' : b = s.heap.objs.size + 4 ∨ b = s.heap.objs.size + 2 ∨ b = s.heap.objs.size + 3 ∨ b = s.heap.objs.size ∨ b = s.heap.objs.size + 1 ∨ b = l1 ∨ b = l2 := by simpa using hb
    have q1 : @LT.lt Nat _ l1 h'.objs.size := Heap.lt_size (hk l1 _ hax1.1)
    have q2 : @LT.lt Nat _ l2 h'.objs.size := Heap.lt_size (hk l2 _ hax2.1)
    have q3 : @LT.lt Nat _ (s.heap.objs.size + 4) h'.objs.size := Heap.lt_size hz
    rcases hb' with rfl | rfl | rfl | rfl | rfl | rfl | rfl
    · exact q3
    · exact Nat.lt_of_le_of_lt (Nat.add_le_add_left (by decide) _) q3
    · exact Nat.lt_of_le_of_lt (Nat.add_le_add_left (by decide) _) q3
    · exact Nat.lt_of_le_of_lt (Nat.le_add_right _ _) q3
    · exact Nat.lt_of_le_of_lt (Nat.add_le_add_left (by decide) _) q3
    · exact q1
    · exact q2
  · exact fun b hb => ktu_new F (hwrn b hb)
  · exact fun hb => Nat.not_lt.mpr (hwrn _ hb) hLs
  · exact fun q hq hb => Nat.not_lt.mpr (hwrn _ hb) (Heap.lt_size (N q hq).1)
  · intro i x y C oC m₂ h tk E' hi hP hC ha hb F' N'
    have hi' : i < ms.length := by simp only [List.size_toArray] at hi; omega
    obtain ⟨⟨t, rfl⟩, u, rfl⟩ := hP hi'
    exact wpAny_mono (turn i C oC m₂ t u _ E' hi' hC ha hb F' N') (fun ok s' hq => hq) fun _ _ e => e
  · intro i x y C oC m₂ h tk E' hi _ hP hC ha hb F' N'
    have hi' : i < ms.length := by simp only [List.size_toArray] at hi; omega
    obtain ⟨⟨t, rfl⟩, u, rfl⟩ := hP hi'
    exact wpAny_mono (elts i C oC m₂ t u _ E' hi' hC ha hb F' N') (fun ok s' hq => hq) fun _ _ e => e
  · intro ys' hys'
    have e : min xs.toArray.size ys.toArray.size = ms.length := by simp only [List.size_toArray]; omega
    rw [e] at hys'
    exact fin h' _ ys' hys'
end
section
variable {prog : Program} {w : World} {A₀ A : Around} {s : Shared} {K : Frag} {base h₀ : Heap} {L : Addr} {m mg mb : Str → Option Value} {news : List (Addr × Obj)} {p : Program} {loose : List Str} {mean : ExcName → Option Value}
theorem call_SC {env : Env} {outer : List Env} {R : Result → Shared → Prop} {name qual : Str} {params : Arguments} {body : List Stmt} {scope : Scope} {dV kV doc pm cdv ct oc : Value} {an od : Option Addr} {osl : Array (Option Value)} {f : Addr} {args : Args} {binds : List (Str × Value)}
    (B : Below A₀ base outer h₀) (F : Fr h₀ L s.heap m) (X₀ : K.In h₀) (N : News h₀ L s.heap news) (T : Top p loose mean mg mb h₀) (XB : K.In base) (TB : Top p loose mean mg mb base) (D : KtsDicts (outer.filterMap (·.frame)) h₀)
    (hA : A.frames = some (env :: outer)) (hf : env.frame = some L) (hke : env.scope.kind = .function)
    (ho : K.lookup f = some ⟨oc, od, .func (fnOf name qual params body scope dV kV doc pm an cdv ct), osl⟩) (hcd : codeIn K cdv qual = true) (hroom : A.depth < recursionLimit)
    (hbind : BindsTo s (fnOf name qual params body scope dV kV doc pm an cdv ct) args binds) (hkind : (binds.all fun y => scope.names.lookup y.1 == some .local || scope.names.lookup y.1 == some .cell) = true)
    (hnd : ((cellsFrom 0 scope.names []).map (·.1)).Nodup)
    (h : ∀ g L' h₁ tk cells, Fr h₀ L g m → Fr g L' h₁ (bindL (envOfC qual scope L' f cdv).kindOf binds fun _ => none) → News g L' h₁ (cells ++ news) →
      CellsAre (bindC (envOfC qual scope L' f cdv).kindOf binds fun _ => none) (cellsFrom (L' + 1) scope.names []) cells → Below A base (env :: outer) g → K.In g → Top p loose mean mg mb g → KtsDicts ((env :: outer).filterMap (·.frame)) g → (∀ q ∈ news, q.1 < L') →
      BackS A₀ base outer K p loose mean mg mb h₀ L m env g →
      wpAny (model prog w) (A.deeper (envOfC qual scope L' f cdv)) (execs body (envOfC qual scope L' f cdv))
        (fun fl s' => R (.ok (.ret (match fl with | .ret v => v | _ => .none))) s')
        (fun e s' => wpAny (model prog w) (A.deeper (envOfC qual scope L' f cdv)) (leaving (envOfC qual scope L' f cdv) e) (fun _ s'' => R (.error e) s'') (fun e' s'' => R (.error e') s'') s')
        { s with heap := h₁, toks := tk })
    (hco : scope.isCoroutine = false) (hgen : scope.isGenerator = false) (hk : scope.kind = .function) : codeAny (model prog w) A (.call (.ref f) args) R s := by
  have X := X₀.keeps F.keep
  obtain ⟨FG, BG, st, _⟩ := groundX (R := R) B F N hA hf hke
  obtain ⟨back, DG⟩ := backS (env := env) B F N XB TB D hf
  refine codeAny_call_function hroom (X _ _ ho) rfl hco hgen rfl (codeRec_of X hcd) (hbind _ _ _ _ ?_)
  refine wpAny_newFunctionEnv_cells hk (kindsX hkind _) fun env' he s' x => ?_
  subst he
  refine ⟨(T.nolimit.keeps F.keep).keeps x.toInCall.keep, codeAny_func ?_⟩
  obtain ⟨h₁, tk, rfl, _⟩ := x.done
  have hk₁ := x.toInCall.keep
  obtain ⟨cells, NC, Y⟩ := Cl.news (h₀ := s.heap) (Nat.le_refl _) fun n c hm => ⟨x.cell n c (lookup_of_mem_nodup (cellsFrom_names scope.names 0 (s.heap.objs.size + 1) [] [] rfl ▸ hnd) hm), x.above n c hm⟩
  refine wpAny_mono (h _ s.heap.objs.size h₁ tk cells FG ⟨x.toInCall.ns, fun b o e => hk₁ b o (of_hideAll _ e), Nat.le_of_eq (hideAll_size _ _)⟩ (fun q hq => ?_) Y BG (X₀.keeps st) (T.keeps st) DG (fun q hq => Heap.lt_size (N q hq).1) back) (fun fl s' hl => hl) fun _ _ y => y
  rcases List.mem_append.mp hq with hq | hq
  · refine ⟨(NC q hq).1, (NC q hq).2.1, ?_⟩
    cases z : (hideAll s.heap (news.map (·.1))).get? q.1 with
    | none => rfl
    | some o => have := of_hideAll _ z; rw [(NC q hq).2.2] at this; cases this
  · exact ⟨hk₁ _ _ (N q hq).1, Nat.ne_of_lt (Heap.lt_size (N q hq).1), hideAll_none _ (List.mem_map_of_mem hq)⟩
theorem for_range {env : Env} {target : PySem.Expr} {body : List Stmt} {R : Result → Shared → Prop} {I : Addr} (hh : A.handled = none) (a : Int) (n : Nat) (J : Nat → Shared → Prop) (ht : ∀ v, letOwnedTupleGo target (.ref I) v = pure ())
    (hit : ∀ i s', J i s' → IsRangeIter s'.heap I (a + (i : Nat) * 1) ((n : Int) - (i : Nat)) 1)
    (step : ∀ i s' t h₁ tk₁, i < n → J i s' → IsRangeIter h₁ I (a + ((i + 1 : Nat) : Nat) * 1) ((n : Int) - ((i + 1 : Nat) : Nat)) 1 → (∀ b o, b ≠ I → s'.heap.get? b = some o → h₁.get? b = some o) →
      wpAny (model prog w) A (assign target env (.int (a + (i : Int)) t)) (fun _ s₂ => wpAny (model prog w) A (execs body env) (fun f s₃ => match f with
        | .next | .cont => J (i + 1) s₃
        | .brk => R (.ok .next) s₃
        | .ret v => R (.ok (.ret v)) s₃) (notedBy (model prog w) A env fun e s' => R (.error e) s') s₂) (notedBy (model prog w) A env fun e s' => R (.error e) s') { s' with heap := h₁, toks := tk₁ })
    (done : ∀ s' h₁ tk₁, J n s' → (∀ b o, b ≠ I → s'.heap.get? b = some o → h₁.get? b = some o) → R (.ok .next) { s' with heap := h₁, toks := tk₁ }) (h0 : J 0 s) :
    codeAny (model prog w) A (.forLoop target (.ref I) body [] env) R s := by
  have W : Walks prog w A I [I] [I] n (fun i v => ∃ t, v = .int (a + (i : Int)) t) (fun i h => IsRangeIter h I (a + (i : Nat) * 1) ((n : Int) - (i : Nat)) 1) := LCg.range_walks hh a n
  refine codeAny_forLoop_any (fun k s' => ∃ i, i ≤ n ∧ k = n + 1 - i ∧ J i s') ?_ (n + 1) ⟨0, Nat.zero_le _, rfl, h0⟩
  rintro k s' ⟨i, hi, rfl, hJ⟩
  by_cases hlt : i < n
  · refine W.item i _ _ _ hlt (hit i s' hJ) fun v h₁ tk₁ hPv hst hk => ?_
    obtain ⟨t, rfl⟩ := hPv
    show wpAny _ A (letOwnedTupleGo target (.ref I) _) _ _ _
    rw [ht]
    refine wpAny_pure ?_
    refine wpAny_mono (step i s' t h₁ tk₁ hlt hJ hst fun b o hb e => hk b o (by simpa using hb) e) (fun _ s₂ h₂ => wpAny_mono h₂ (fun f s₃ h₃ => ?_) fun _ _ e => e) fun _ _ e => e
    cases f with
    | ret v => exact h₃
    | brk => exact h₃
    | next => exact ⟨n + 1 - (i + 1), by omega, i + 1, hlt, rfl, h₃⟩
    | cont => exact ⟨n + 1 - (i + 1), by omega, i + 1, hlt, rfl, h₃⟩
  · obtain rfl : i = n := by omega
    refine W.done _ _ _ (hit i s' hJ) fun h₁ tk₁ hk => wpAny_execs_nil (done s' h₁ tk₁ hJ fun b o hb e => hk b o (by simpa using hb) e)
end
def rIt (x left : Int) : Obj := { cls := .type "range_iterator", dict := none, data := .fields #[rawInt x, rawInt left, rawInt 1], slots := #[] }
theorem fr_kst {h₀ h : Heap} {L : Addr} {m : Str → Option Value} (ps : List (Str × Value)) (F : Fr h₀ L h m) (hk : ∀ p ∈ ps, m p.1 = some p.2) : Fr h₀ L h (kstB m ps) := by
  have e : kstB m ps = m := funext fun z => kstB_eq hk fun _ => rfl
  rw [e]; exact F
theorem fr_iter {h₀ h h₁ : Heap} {L I : Addr} {m : Str → Option Value} {o : Obj} {news : List (Addr × Obj)} (F : Fr h₀ L h m) (N : News h₀ L h ((I, o) :: news)) (k : ∀ b o, b ≠ I → h.get? b = some o → h₁.get? b = some o) : Fr h₀ L h₁ m := by
  obtain ⟨_, hLI, hI₀⟩ := N _ List.mem_cons_self
  exact ⟨F.ns.at' fun o e => k _ o (Ne.symm hLI) e, fun c o e => k c o (fun q => by rw [q] at e; dsimp only at hI₀; rw [hI₀] at e; cases e) (F.keep c o e), F.above⟩
theorem news_iter {h₀ h h₁ : Heap} {L I : Addr} {o o' : Obj} {news : List (Addr × Obj)} (N : News h₀ L h ((I, o) :: news)) (off : ∀ q ∈ news, q.1 ≠ I) (e : h₁.get? I = some o') (k : ∀ b o, b ≠ I → h.get? b = some o → h₁.get? b = some o) : News h₀ L h₁ ((I, o') :: news) := fun q hq => by
  rcases List.mem_cons.mp hq with rfl | hq
  · exact ⟨e, (N _ List.mem_cons_self).2⟩
  · exact ⟨k _ _ (off q hq) (N q (List.mem_cons_of_mem _ hq)).1, (N q (List.mem_cons_of_mem _ hq)).2⟩
section
variable {prog : Program} {w : World} {A : Around} {s : Shared}
theorem for_rangeQ {env : Env} {target : PySem.Expr} {body : List Stmt} {Q : Flow → Shared → Prop} {E : Value → Shared → Prop} {I : Addr} (hh : A.handled = none) (a : Int) (n : Nat) (J : Nat → Shared → Prop) (ht : ∀ v, letOwnedTupleGo target (.ref I) v = pure ())
    (hit : ∀ i s', J i s' → IsRangeIter s'.heap I (a + (i : Nat) * 1) ((n : Int) - (i : Nat)) 1) (h0 : J 0 s)
    (step : ∀ i s' t h₁ tk₁, i < n → J i s' → IsRangeIter h₁ I (a + ((i + 1 : Nat) : Nat) * 1) ((n : Int) - ((i + 1 : Nat) : Nat)) 1 → (∀ b o, b ≠ I → s'.heap.get? b = some o → h₁.get? b = some o) →
      wpAny (model prog w) A (assign target env (.int (a + (i : Int)) t)) (fun _ s₂ => wpAny (model prog w) A (execs body env) (fun f s₃ => match f with
        | .next => J (i + 1) s₃
        | .cont => J (i + 1) s₃
        | .brk => Q .next s₃
        | .ret v => Q (.ret v) s₃) E s₂) E { s' with heap := h₁, toks := tk₁ })
    (done : ∀ s' h₁ tk₁, J n s' → (∀ b o, b ≠ I → s'.heap.get? b = some o → h₁.get? b = some o) → Q .next { s' with heap := h₁, toks := tk₁ })
    (hE : PassesOwn (model prog w) A env E := by passes_own) :
    codeAny (model prog w) A (.forLoop target (.ref I) body [] env) (fun r s' => match r with | .ok f => Q f s' | .error e => cameBackBy (model prog w) A env E e s') s := by
  refine for_range hh a n J ht hit (fun i s' t h₁ tk₁ hi hJ h1 h2 => ?_) done h0
  refine wpAny_mono (step i s' t h₁ tk₁ hi hJ h1 h2) (fun _ s₂ x => wpAny_mono (wpAny_passesOwn hE x) (fun f s₃ h₃ => ?_) fun _ _ e => e) hE
  cases f with
  | ret v => exact h₃
  | brk => exact h₃
  | next => exact h₃
  | cont => exact h₃
end
section
variable {prog : Program} {w : World} {A : Around} {E : Value → Shared → Prop} {s : Shared} {h₀ : Heap} {L : Addr} {news : List (Addr × Obj)}
theorem ne_sameK {a b : Addr} {vs us : List Value} {n1 n2 : Nat} {ns : List Int} {Q : Value → Shared → Prop} (N : News h₀ L s.heap news) (hl : (a, listOf vs.toArray n1) ∈ news) (hi : IntsAre vs ns) (hl' : (b, listOf us.toArray n2) ∈ news) (hi' : IntsAre us ns) (hu : A.units + 64 < cLine)
    (h : Q (.bool false) s) : wpAny (model prog w) A (compareOp .NotEq (.ref a) (.ref b)) Q E s :=
  ne_intsK (News.isList N hl) hi (News.isList N hl') hi' hu (by simpa using h)
end
def pickOf (xs es : List Int) (p : Int → Bool) : List Int := ((List.range xs.length).filter (fun k => p (es.getD k 0))).map (fun k => xs.getD k 0)
structure RLaw (xs ys : List Int) : Prop where
  d1 : ∀ i : Nat, (dif (pickOf xs (endsOf xs) (fun e => decide ((i : Int) < e))) ys).1 = pickOf xs (endsOf xs) (fun e => decide (1 + (i : Int) < e))
  d2 : ∀ i : Nat, (dif (pickOf xs (endsOf xs) (fun e => decide ((i : Int) < e))) ys).2 = ((List.range ys.length).filter (fun k => !decide (ys.getD k 0 ∈ pickOf xs (endsOf xs) (fun e => decide (e = 1 + (i : Int)))))).map (fun k => ys.getD k 0)
  n1 : ∀ i k : Nat, k + 1 < (pickOf xs (endsOf xs) (fun e => decide ((i : Int) < e))).length → (pickOf xs (endsOf xs) (fun e => decide ((i : Int) < e))).getD (k + 1) 0 ≠ (pickOf xs (endsOf xs) (fun e => decide ((i : Int) < e))).getD k 0
  n2 : ∀ k : Nat, k + 1 < ys.length → ys.getD (k + 1) 0 ≠ ys.getD k 0
  u1 : ∀ i : Nat, uldF (pickOf xs (endsOf xs) (fun e => decide (1 + (i : Int) < e))) (pickOf xs (endsOf xs) (fun e => decide ((i : Int) < e))) = pickOf xs (endsOf xs) (fun e => decide (e = 1 + (i : Int)))
  nd : ∀ i : Nat, (pickOf xs (endsOf xs) (fun e => decide (1 + (i : Int) < e))).Nodup
  sub : ∀ i : Nat, ∀ x ∈ pickOf xs (endsOf xs) (fun e => decide (1 + (i : Int) < e)), x ∈ pickOf xs (endsOf xs) (fun e => decide ((i : Int) < e))
  pos : pickOf xs (endsOf xs) (fun e => decide (((0 : Nat) : Int) < e)) = xs
  max : ∃ nM : Nat, maxL (endsOf xs) = nM ∧ nM < 200
theorem pickOf_length (xs es : List Int) (p : Int → Bool) : (pickOf xs es p).length ≤ xs.length := by
  unfold pickOf
  rw [List.length_map]
  have := List.length_filter_le (fun k => p (es.getD k 0)) (List.range xs.length)
  rwa [List.length_range] at this
theorem pick_next (xs es : List Int) (i : Nat) : pickOf xs es (fun e => decide (((i + 1 : Nat) : Int) < e)) = pickOf xs es (fun e => decide (1 + (i : Int) < e)) := by
  have : (((i + 1 : Nat) : Int)) = 1 + (i : Int) := by omega
  rw [this]
section
open PyProof.V PySem.SeqAt
theorem shaped_pair (ns : List Int) : shaped (.tuple [.list [], .list (ns.map PyData.int)]) = true := by
  have h1 := PySem.W.depthAll_ints ns
  show (PyData.canLay0 (.tuple [.list [], .list (ns.map PyData.int)]) && decide (PyData.depth (.tuple [.list [], .list (ns.map PyData.int)]) ≤ 64)) = true
  rw [Bool.and_eq_true]
  refine ⟨by simp only [PyData.canLay0, PyData.canLayAll0, canLayAll0_ints ns, Bool.and_true], decide_eq_true ?_⟩
  simp only [PyData.depth, PyData.depthAll]
  omega
section
variable {prog : Program} {w : World} {A : Around} {E : Value → Shared → Prop} {s : Shared} {h₀ : Heap} {L : Addr} {news : List (Addr × Obj)}
theorem reads_pair {t a b : Addr} {vs : List Value} {n1 n2 nt : Nat} {ns : List Int} (N : News h₀ L s.heap news) (ht : (t, ({ cls := .type "tuple", data := .seq [Value.ref a, Value.ref b].toArray nt } : Obj)) ∈ news) (ha : (a, listOf #[] n1) ∈ news) (hb : (b, listOf vs.toArray n2) ∈ news) (hi : IntsAre vs ns) :
    Reads s.heap (.ref t) (.tuple [.list [], .list (ns.map PyData.int)]) ([a] ++ ([b] ++ [])) := by
  have r1 : Reads s.heap (.ref a) (.list (([] : List Int).map PyData.int)) [a] := reads_of_ints (vs := []) (News.isList N ha) .nil
  have r2 : Reads s.heap (.ref b) (.list (ns.map PyData.int)) [b] := reads_of_ints (News.isList N hb) hi
  exact Reads.tuple (N _ ht).1 rfl rfl (.cons r1 (.cons r2 .nil))
theorem ne_pairK {t t' a a' b b' : Addr} {vs us : List Value} {n1 n2 n1' n2' nt nt' : Nat} {ns : List Int} {Q : Value → Shared → Prop} (N : News h₀ L s.heap news)
    (ht : (t, ({ cls := .type "tuple", data := .seq [Value.ref a, Value.ref b].toArray nt } : Obj)) ∈ news) (ha : (a, listOf #[] n1) ∈ news) (hb : (b, listOf vs.toArray n2) ∈ news) (hi : IntsAre vs ns)
    (ht' : (t', ({ cls := .type "tuple", data := .seq [Value.ref a', Value.ref b'].toArray nt' } : Obj)) ∈ news) (ha' : (a', listOf #[] n1') ∈ news) (hb' : (b', listOf us.toArray n2') ∈ news) (hi' : IntsAre us ns)
    (hu : A.units + 64 < cLine) (h : Q (.bool false) s) : wpAny (model prog w) A (compareOp .NotEq (.ref t) (.ref t')) Q E s :=
  ne_dataH_same (reads_pair N ht ha hb hi) (reads_pair N ht' ha' hb' hi') (shaped_pair ns) (shaped_pair ns) hu
    (by simp only [noMix, noMixAll, noMix_ints, Bool.and_true]) (by simp only [PySem.Spec.same, PySem.Spec.sameAll, same_ints, decide_true, Bool.and_true, Bool.not_true]; exact h)
end
theorem any_eq_mem (l : List Int) (x : Int) : (!(l.any fun y => y == x)) = !decide (x ∈ l) := by
  congr 1
  rw [Bool.eq_iff_iff, List.any_eq_true, decide_eq_true_eq]
  exact ⟨fun ⟨y, hy, e⟩ => (beq_iff_eq.mp e) ▸ hy, fun h => ⟨x, h, beq_self_eq_true x⟩⟩
end
def recs : Int → List Int → List Int
  | _, [] => []
  | c, x :: l => if c < x then x :: recs x l else recs c l
def nons : Int → List Int → List Int
  | _, [] => []
  | c, x :: l => if c < x then nons x l else x :: nons c l
theorem recs_gt : ∀ {l : List Int} {c x : Int}, x ∈ recs c l → c < x
  | [], _, _, h => nomatch h
  | y :: l, c, x, h => by
    rw [recs] at h
    by_cases hy : c < y
    · rw [if_pos hy] at h
      rcases List.mem_cons.mp h with rfl | h
      · exact hy
      · have := recs_gt h
        omega
    · rw [if_neg hy] at h
      exact recs_gt h
theorem recs_mem : ∀ {l : List Int} {c x : Int}, x ∈ recs c l → x ∈ l
  | [], _, _, h => nomatch h
  | y :: l, c, x, h => by
    rw [recs] at h
    by_cases hy : c < y
    · rw [if_pos hy] at h
      rcases List.mem_cons.mp h with rfl | h
      · exact List.mem_cons_self
      · exact List.mem_cons_of_mem _ (recs_mem h)
    · rw [if_neg hy] at h
      exact List.mem_cons_of_mem _ (recs_mem h)
theorem nons_of_none : ∀ {l : List Int} {c : Int}, (∀ x ∈ recs c l, False) → nons c l = l
  | [], _, _ => rfl
  | y :: l, c, h => by
    by_cases hy : c < y
    · exact (h y (by rw [recs, if_pos hy]; exact List.mem_cons_self)).elim
    · rw [nons, if_neg hy]
      rw [recs, if_neg hy] at h
      rw [nons_of_none h]
theorem dif_recs : ∀ (n : Nat) (l ys : List Int) (c : Int), l.length + ys.length = n → (∀ y ∈ ys, c < y) → ys.Pairwise (· < ·) → (∀ x ∈ recs c l, x ∈ ys) → dif l ys = (nons c l, ys.filter (fun y => !decide (y ∈ recs c l))) := by
  intro n
  induction n using Nat.strongRecOn with
  | ind n ih =>
    intro l ys c hn hc hs hr
    match l, ys with
    | [], ys =>
      rw [dif_nil_left]
      have : ys.filter (fun y => !decide (y ∈ recs c [])) = ys := List.filter_eq_self.mpr fun a _ => by simp [recs]
      rw [this]
      rfl
    | x :: l, [] =>
      rw [dif_nil_right, nons_of_none (fun y hy => nomatch hr y hy)]
      rfl
    | x :: l, y :: ys =>
      have hs' := List.pairwise_cons.mp hs
      rw [dif]
      by_cases h1 : x < y
      · rw [if_pos h1]
        have hx : ¬ c < x := fun q => by
          have hm := hr x (by rw [recs, if_pos q]; exact List.mem_cons_self)
          rcases List.mem_cons.mp hm with e | hm
          · omega
          · have := hs'.1 x hm
            omega
        have e1 : recs c (x :: l) = recs c l := by rw [recs, if_neg hx]
        have e2 : nons c (x :: l) = x :: nons c l := by rw [nons, if_neg hx]
        rw [e1] at hr ⊢
        rw [e2, ih (l.length + (y :: ys).length) (by rw [← hn]; simp only [List.length_cons]; omega) l (y :: ys) c rfl hc hs hr]
      · rw [if_neg h1]
        by_cases h2 : y < x
        · rw [if_pos h2]
          have hcy := hc y List.mem_cons_self
          have hx : c < x := by omega
          have hy : y ∉ recs c (x :: l) := fun q => by
            rw [recs, if_pos hx] at q
            rcases List.mem_cons.mp q with e | q
            · omega
            · have := recs_gt q
              omega
          have e3 := ih ((x :: l).length + ys.length) (by rw [← hn]; simp only [List.length_cons]; omega) (x :: l) ys c rfl (fun z hz => hc z (List.mem_cons_of_mem _ hz)) hs'.2 (fun z hz => by
            rcases List.mem_cons.mp (hr z hz) with e | h
            · exact (hy (e ▸ hz)).elim
            · exact h)
          rw [e3]
          rw [List.filter_cons_of_pos (by simpa using hy)]
        · rw [if_neg h2]
          have e : x = y := by omega
          subst e
          have hx : c < x := hc x List.mem_cons_self
          have e1 : recs c (x :: l) = x :: recs x l := by rw [recs, if_pos hx]
          have e2 : nons c (x :: l) = nons x l := by rw [nons, if_pos hx]
          rw [e1] at hr
          have e3 := ih (l.length + ys.length) (by rw [← hn]; simp only [List.length_cons]; omega) l ys x rfl hs'.1 hs'.2 (fun z hz => by
            rcases List.mem_cons.mp (hr z (List.mem_cons_of_mem _ hz)) with e | h
            · have := recs_gt hz
              omega
            · exact h)
          rw [e3, e1, e2]
          rw [List.filter_cons_of_neg (by simp)]
          refine Prod.ext rfl ?_
          show ys.filter _ = ys.filter _
          refine List.filter_congr fun z hz => ?_
          have hzx := hs'.1 z hz
          have : (z ∈ x :: recs x l) ↔ z ∈ recs x l := by
            rw [List.mem_cons]
            exact ⟨fun h => h.elim (fun e => by omega) id, .inr⟩
          simp only [this]
theorem recs_snoc : ∀ (l : List Int) (c x : Int), recs c (l ++ [x]) = recs c l ++ (if l.foldl max c < x then [x] else [])
  | [], c, x => by
    show recs c [x] = [] ++ (if c < x then [x] else [])
    simp [recs]
  | y :: l, c, x => by
    show (if c < y then y :: recs y (l ++ [x]) else recs c (l ++ [x])) = (if c < y then y :: recs y l else recs c l) ++ (if l.foldl max (max c y) < x then [x] else [])
    by_cases h : c < y
    · rw [if_pos h, if_pos h, recs_snoc l y x, show max c y = y by omega]
      rfl
    · rw [if_neg h, if_neg h, recs_snoc l c x, show max c y = c by omega]
theorem nons_snoc : ∀ (l : List Int) (c x : Int), nons c (l ++ [x]) = nons c l ++ (if l.foldl max c < x then [] else [x])
  | [], c, x => by
    show nons c [x] = [] ++ (if c < x then [] else [x])
    simp [nons]
  | y :: l, c, x => by
    show (if c < y then nons y (l ++ [x]) else y :: nons c (l ++ [x])) = (if c < y then nons y l else y :: nons c l) ++ (if l.foldl max (max c y) < x then [] else [x])
    by_cases h : c < y
    · rw [if_pos h, if_pos h, nons_snoc l y x, show max c y = y by omega]
    · rw [if_neg h, if_neg h, nons_snoc l c x, show max c y = c by omega]
      rfl
theorem getD_append_left' {l r : List Int} {k : Nat} (h : k < l.length) : (l ++ r).getD k 0 = l.getD k 0 := by
  simp [List.getD_eq_getElem?_getD, List.getElem?_append_left h]
theorem upTo_getD (row : List Int) : ∀ (m k : Nat), k < m → (endsUpTo row m).getD k 0 = endStep row (endsUpTo row k) k (row.getD k 0)
  | 0, k, h => absurd h (Nat.not_lt_zero k)
  | m + 1, k, h => by
    rw [endsUpTo]
    by_cases hk : k < m
    · rw [getD_append_left' (by rw [endsUpTo_length]; exact hk)]
      exact upTo_getD row m k hk
    · obtain rfl : k = m := by omega
      have e : (endsUpTo row k).length = k := endsUpTo_length row k
      simp [List.getD_eq_getElem?_getD, e]
abbrev ev (row : List Int) (k : Nat) : Int := (endsOf row).getD k 0
theorem ends_eq {row : List Int} {k : Nat} (hk : k < row.length) : ev row k = 1 + maxL (((List.range k).filter (fun j => decide (row.getD k 0 < row.getD j 0))).map (fun j => ev row j)) := by
  show (endsUpTo row row.length).getD k 0 = _
  rw [upTo_getD row _ k hk, endStep]
  congr 2
  refine List.map_congr_left fun j hj => ?_
  have hj' : j < k := List.mem_range.mp (List.mem_filter.mp hj).1
  show (endsUpTo row k).getD j 0 = (endsUpTo row row.length).getD j 0
  rw [upTo_getD row k j hj', upTo_getD row _ j (Nat.lt_trans hj' hk)]
theorem ends_ge {row : List Int} {k : Nat} (hk : k < row.length) : 1 ≤ ev row k := by
  rw [ends_eq hk]
  have := (maxL_ge (((List.range k).filter (fun j => decide (row.getD k 0 < row.getD j 0))).map (fun j => ev row j)) 0).1
  unfold maxL
  omega
theorem ends_up {row : List Int} {j k : Nat} (hj : j < k) (hk : k < row.length) (h : row.getD k 0 < row.getD j 0) : ev row j + 1 ≤ ev row k := by
  rw [ends_eq hk]
  have := (maxL_ge (((List.range k).filter (fun j => decide (row.getD k 0 < row.getD j 0))).map (fun j => ev row j)) 0).2 (ev row j) (List.mem_map.mpr ⟨j, List.mem_filter.mpr ⟨List.mem_range.mpr hj, decide_eq_true h⟩, rfl⟩)
  unfold maxL
  omega
theorem ends_ex {row : List Int} {k : Nat} (hk : k < row.length) : ev row k = 1 ∨ ∃ j, j < k ∧ row.getD k 0 < row.getD j 0 ∧ ev row k = 1 + ev row j := by
  have e := ends_eq hk
  rcases maxL_mem (((List.range k).filter (fun j => decide (row.getD k 0 < row.getD j 0))).map (fun j => ev row j)) 0 with h | h
  · left
    rw [e, maxL, h]
    rfl
  · right
    obtain ⟨j, hj, he⟩ := List.mem_map.mp h
    obtain ⟨h1, h2⟩ := List.mem_filter.mp hj
    refine ⟨j, List.mem_range.mp h1, of_decide_eq_true h2, ?_⟩
    rw [e, maxL, ← he]
theorem ends_le {row : List Int} : ∀ (k : Nat), k < row.length → ev row k ≤ k + 1 := by
  intro k
  induction k using Nat.strongRecOn with
  | ind k ih =>
    intro hk
    rcases ends_ex hk with h | ⟨j, hj, _, h⟩
    · omega
    · have := ih j hj (Nat.lt_trans hj hk)
      omega
theorem foldl_max_lt : ∀ {l : List Int} {c x : Int}, l.foldl max c < x ↔ c < x ∧ ∀ y ∈ l, y < x
  | [], c, x => ⟨fun h => ⟨h, fun _ h => nomatch h⟩, fun h => h.1⟩
  | y :: l, c, x => by
    rw [List.foldl_cons, foldl_max_lt (l := l), List.forall_mem_cons]
    constructor
    · rintro ⟨h1, h2⟩
      exact ⟨by omega, by omega, h2⟩
    · rintro ⟨h1, h2, h3⟩
      exact ⟨by omega, h3⟩
def pickN (xs : List Int) (n : Nat) (p : Int → Bool) : List Int := ((List.range n).filter (fun k => p (ev xs k))).map (fun k => xs.getD k 0)
theorem pickN_succ (xs : List Int) (n : Nat) (p : Int → Bool) : pickN xs (n + 1) p = pickN xs n p ++ (if p (ev xs n) = true then [xs.getD n 0] else []) := by
  unfold pickN
  rw [List.range_succ, List.filter_append, List.map_append]
  congr 1
  by_cases h : p (ev xs n) = true
  · rw [if_pos h, List.filter_cons_of_pos (by exact h)]; rfl
  · rw [if_neg h, List.filter_cons_of_neg (by exact h)]; rfl
theorem mem_pickN {xs : List Int} {n : Nat} {p : Int → Bool} {y : Int} : y ∈ pickN xs n p ↔ ∃ k, k < n ∧ p (ev xs k) = true ∧ xs.getD k 0 = y := by
  unfold pickN
  rw [List.mem_map]
  constructor
  · rintro ⟨k, hk, e⟩
    obtain ⟨h1, h2⟩ := List.mem_filter.mp hk
    exact ⟨k, List.mem_range.mp h1, h2, e⟩
  · rintro ⟨k, h1, h2, e⟩
    exact ⟨k, List.mem_filter.mpr ⟨List.mem_range.mpr h1, h2⟩, e⟩
theorem getD_inj {xs : List Int} (nd : xs.Nodup) {j k : Nat} (hj : j < xs.length) (hk : k < xs.length) (e : xs.getD j 0 = xs.getD k 0) : j = k := by
  have h1 : xs[j] = xs[k] := by simpa [hj, hk] using e
  have hp := List.pairwise_iff_getElem.mp nd
  rcases Nat.lt_trichotomy j k with h | h | h
  · exact absurd h1 (hp j k hj hk h)
  · exact h
  · exact absurd h1.symm (hp k j hk hj h)
theorem getD_mem {xs : List Int} {k : Nat} (hk : k < xs.length) : xs.getD k 0 ∈ xs := by
  have : xs.getD k 0 = xs[k] := by simp [hk]
  rw [this]
  exact List.getElem_mem hk
theorem rounds {xs : List Int} (nd : xs.Nodup) (i : Nat) (c : Int) (hc : ∀ x ∈ xs, c < x) : ∀ n, n ≤ xs.length →
    recs c (pickN xs n (fun e => decide ((i : Int) < e))) = pickN xs n (fun e => decide (e = 1 + (i : Int))) ∧ nons c (pickN xs n (fun e => decide ((i : Int) < e))) = pickN xs n (fun e => decide (1 + (i : Int) < e))
  | 0, _ => ⟨rfl, rfl⟩
  | n + 1, hn => by
    obtain ⟨h1, h2⟩ := rounds nd i c hc n (Nat.le_of_succ_le hn)
    have hlt : n < xs.length := hn
    rw [pickN_succ, pickN_succ, pickN_succ]
    by_cases hi : (i : Int) < ev xs n
    · have key : (pickN xs n (fun e => decide ((i : Int) < e))).foldl max c < xs.getD n 0 ↔ ev xs n = 1 + (i : Int) := by
        rw [foldl_max_lt]
        constructor
        · rintro ⟨_, h4⟩
          rcases ends_ex hlt with h | ⟨j, hj, hx, h⟩
          · omega
          · by_cases hij : (i : Int) < ev xs j
            · have := h4 _ (mem_pickN.mpr ⟨j, hj, decide_eq_true hij, rfl⟩)
              omega
            · omega
        · intro h
          refine ⟨hc _ (getD_mem hlt), fun y hy => ?_⟩
          obtain ⟨j, hj, hp, rfl⟩ := mem_pickN.mp hy
          have hij := of_decide_eq_true hp
          by_cases hx : xs.getD n 0 < xs.getD j 0
          · have := ends_up hj hlt hx
            omega
          · have : xs.getD j 0 ≠ xs.getD n 0 := fun e => by
              have := getD_inj nd (Nat.lt_trans hj hlt) hlt e
              omega
            omega
      rw [if_pos (decide_eq_true hi), recs_snoc, nons_snoc, h1, h2]
      by_cases he : ev xs n = 1 + (i : Int)
      · rw [if_pos (key.mpr he), if_pos (key.mpr he), if_pos (decide_eq_true he), if_neg (by rw [decide_eq_true_eq]; omega)]
        exact ⟨rfl, rfl⟩
      · have hne := fun q => he (key.mp q)
        rw [if_neg hne, if_neg hne, if_neg (by rw [decide_eq_true_eq]; exact he), if_pos (decide_eq_true (by omega))]
        exact ⟨rfl, rfl⟩
    · rw [if_neg (by rw [decide_eq_true_eq]; exact hi), if_neg (by rw [decide_eq_true_eq]; omega), if_neg (by rw [decide_eq_true_eq]; omega)]
      simp only [List.append_nil]
      exact ⟨h1, h2⟩
theorem map_getD (l : List Int) : (List.range l.length).map (fun k => l.getD k 0) = l := by
  apply List.ext_getElem
  · simp
  · intro i h1 h2
    simp [h2]
theorem filter_getD (l : List Int) (q : Int → Bool) : ((List.range l.length).filter (fun k => q (l.getD k 0))).map (fun k => l.getD k 0) = l.filter q := by
  conv => rhs; rw [← map_getD l, List.filter_map]
  rfl
theorem nodup_pickN {xs : List Int} (nd : xs.Nodup) (p : Int → Bool) : ∀ n, n ≤ xs.length → (pickN xs n p).Nodup
  | 0, _ => List.Pairwise.nil
  | n + 1, hn => by
    rw [pickN_succ, List.nodup_append]
    refine ⟨nodup_pickN nd p n (Nat.le_of_succ_le hn), by split <;> simp, fun a ha b hb e => ?_⟩
    obtain ⟨j, hj, _, rfl⟩ := mem_pickN.mp ha
    split at hb
    · rw [List.mem_singleton.mp hb] at e
      have := getD_inj nd (Nat.lt_trans hj hn) hn e
      omega
    · cases hb
theorem uldF_filter : ∀ {suf ys : List Int}, ys.Nodup → uldF suf ys = ys.filter (fun y => !decide (y ∈ suf))
  | [], ys, _ => by
    show ys = _
    exact (List.filter_eq_self.mpr fun a _ => by simp).symm
  | x :: suf, ys, nd => by
    show (uldF suf ys).erase x = _
    rw [uldF_filter nd, List.Nodup.erase_eq_filter (List.Pairwise.filter _ nd), List.filter_filter]
    refine List.filter_congr fun y _ => ?_
    by_cases h1 : y = x <;> by_cases h2 : y ∈ suf <;> simp [h1, h2]
theorem going_eq {xs : List Int} (nd : xs.Nodup) (i : Nat) : ∀ n, n ≤ xs.length →
    (pickN xs n (fun e => decide ((i : Int) < e))).filter (fun y => !decide (y ∈ pickN xs xs.length (fun e => decide (1 + (i : Int) < e)))) = pickN xs n (fun e => decide (e = 1 + (i : Int)))
  | 0, _ => rfl
  | n + 1, hn => by
    rw [pickN_succ, pickN_succ, List.filter_append, going_eq nd i n (Nat.le_of_succ_le hn)]
    congr 1
    have key : xs.getD n 0 ∈ pickN xs xs.length (fun e => decide (1 + (i : Int) < e)) ↔ 1 + (i : Int) < ev xs n := by
      rw [mem_pickN]
      constructor
      · rintro ⟨k, hk, hp, e⟩
        rw [← getD_inj nd hk hn e]
        exact of_decide_eq_true hp
      · exact fun h => ⟨n, hn, decide_eq_true h, rfl⟩
    by_cases h1 : (i : Int) < ev xs n
    · rw [if_pos (decide_eq_true h1)]
      by_cases h2 : 1 + (i : Int) < ev xs n
      · rw [List.filter_cons_of_neg (by simp only [key.mpr h2]; decide), if_neg (by rw [decide_eq_true_eq]; omega)]
        rfl
      · rw [List.filter_cons_of_pos (by simp only [show xs.getD n 0 ∈ pickN xs xs.length (fun e => decide (1 + (i : Int) < e)) ↔ False from ⟨fun q => h2 (key.mp q), False.elim⟩]; decide), if_pos (decide_eq_true (by omega))]
        rfl
    · rw [if_neg (by rw [decide_eq_true_eq]; exact h1), if_neg (by rw [decide_eq_true_eq]; omega)]
      rfl
theorem pickN_sub {xs : List Int} {n : Nat} {p q : Int → Bool} (h : ∀ e, p e = true → q e = true) : ∀ x ∈ pickN xs n p, x ∈ pickN xs n q := fun x hx => by
  obtain ⟨k, h1, h2, e⟩ := mem_pickN.mp hx
  exact mem_pickN.mpr ⟨k, h1, h _ h2, e⟩
theorem ne_next {l : List Int} (nd : l.Nodup) (k : Nat) (h : k + 1 < l.length) : l.getD (k + 1) 0 ≠ l.getD k 0 := fun e => by
  have := getD_inj nd h (Nat.lt_of_succ_lt h) e
  omega
theorem below_all : ∀ l : List Int, ∃ c : Int, ∀ y ∈ l, c < y
  | [] => ⟨0, fun _ h => nomatch h⟩
  | y :: l => by
    obtain ⟨c, hc⟩ := below_all l
    refine ⟨min c (y - 1), fun z hz => ?_⟩
    rcases List.mem_cons.mp hz with rfl | hz
    · omega
    · have := hc z hz
      omega
theorem rlaw_of {rs ls : List Int} (hnd : rs.Nodup) (hs : ls.Pairwise (· < ·)) (hsub : ∀ x ∈ rs, x ∈ ls) (hl : rs.length < 100) : RLaw rs ls := by
  have ndl : ls.Nodup := hs.imp fun {a b} h => by
    show a ≠ b
    omega
  obtain ⟨c, hc⟩ := below_all ls
  have hr := fun i => rounds hnd i c (fun x hx => hc x (hsub x hx)) rs.length (Nat.le_refl _)
  have hmem : ∀ (p : Int → Bool), ∀ x ∈ pickN rs rs.length p, x ∈ ls := fun p x hx => by
    obtain ⟨k, hk, _, rfl⟩ := mem_pickN.mp hx
    exact hsub _ (getD_mem hk)
  have hd := fun i : Nat => dif_recs _ (pickN rs rs.length (fun e => decide ((i : Int) < e))) ls c rfl hc hs (by
    rw [(hr i).1]
    exact hmem _)
  have pe : ∀ p, pickOf rs (endsOf rs) p = pickN rs rs.length p := fun _ => rfl
  refine ⟨fun i => ?_, fun i => ?_, fun i k h => ?_, fun k h => ne_next ndl k h, fun i => ?_, fun i => ?_, fun i x hx => ?_, ?_, ?_⟩
  · have := congrArg Prod.fst (hd i)
    rw [(hr i).2] at this
    exact this
  · have := congrArg Prod.snd (hd i)
    rw [(hr i).1] at this
    exact this.trans (filter_getD ls _).symm
  · rw [pe] at h ⊢
    exact ne_next (nodup_pickN hnd _ _ (Nat.le_refl _)) k h
  · rw [pe, pe, pe]
    rw [uldF_filter (nodup_pickN hnd _ _ (Nat.le_refl _))]
    exact going_eq hnd i rs.length (Nat.le_refl _)
  · rw [pe]
    exact nodup_pickN hnd _ _ (Nat.le_refl _)
  · rw [pe] at hx ⊢
    refine pickN_sub (n := rs.length) (p := fun e => decide (1 + (i : Int) < e)) (fun e he => ?_) x hx
    have := of_decide_eq_true he
    exact decide_eq_true (by omega)
  · show ((List.range rs.length).filter _).map _ = rs
    have e : (List.range rs.length).filter (fun k => decide (((0 : Nat) : Int) < ev rs k)) = List.range rs.length := List.filter_eq_self.mpr fun k hk => by
      have := ends_ge (List.mem_range.mp hk)
      exact decide_eq_true (by omega)
    rw [e]
    exact map_getD rs
  · have h0 := (maxL_ge (endsOf rs) 0).1
    refine ⟨(maxL (endsOf rs)).toNat, by unfold maxL; omega, ?_⟩
    rcases maxL_mem (endsOf rs) 0 with h | h
    · unfold maxL
      rw [h]
      decide
    · obtain ⟨k, hk, e⟩ := List.getElem_of_mem h
      have hk' : k < rs.length := by rwa [show (endsOf rs).length = rs.length from endsUpTo_length rs _] at hk
      have h1 := ends_le k hk'
      have h2 : ev rs k = (endsOf rs)[k] := by show (endsOf rs).getD k 0 = _; simp [hk]
      rw [h2, e] at h1
      unfold maxL
      omega
section
variable {prog : Program} {w : World} {A : Around} {E : Value → Shared → Prop} {s : Shared} {h₀ : Heap} {L : Addr} {m : Str → Option Value} {news : List (Addr × Obj)}
theorem slice3_led {value slice : PySem.Expr} {l : Addr} {vs : List Value} {ns : List Int} {a b : Int} {t1 t2 : Tok} {ops : List Value} {Q : Value → Shared → Prop}
    (F : Fr h₀ L s.heap m) (N : News h₀ L s.heap news) (hl : s.heap.IsList l vs.toArray) (hi : IntsAre vs ns) (h0 : b ≠ 0)
    (h : ∀ D ws h', Fr h₀ L h' m → News h₀ L h' ((D, listOf (List.toArray ws) 0) :: news) → IntsAre ws (pickNums ns (some a) none (some b)) → Q (.ref D) { s with heap := h' })
    (hs : subscripted slice false (.ref l) (.ref s.heap.objs.size) = operate ops (getItem (.ref l) (.ref s.heap.objs.size))) (ht : ∀ r, letTemporaryGo value (.ref l) r = pure ()) (hz : vs.length ≤ 1000) :
    wpAny (model prog w) A (subscriptTail value slice (.ref l) (.ref s.heap.objs.size)) Q E { s with heap := s.heap.push { cls := .type "slice", data := .fields #[.int a t1, .none, .int b t2] } } := by
  refine slice_list3 F N hl (IsPart.int _ _) IsPart.none (IsPart.int _ _) (fun e => h0 (Option.some.inj e)) (fun h' F' N' => h _ (slicePick vs.toArray (some a) none (some b)).toList h' F' ?_ (hi.pick _ _ _)) hs ht (by rw [List.size_toArray, sizeLine_eq]; omega)
  rw [Array.toArray_toList]
  exact N'
end
theorem min_if (n : Nat) : (if (10 : Int) < (n : Int) then (10 : Int) else (n : Int)) = ((min n 10 : Nat) : Int) := by
  split <;> omega
structure RInv (rs bs : List Int) : Prop where
  nd : rs.Nodup
  even : ∀ x ∈ rs, x % 2 = 0
  bnd : bs.Nodup
  odd : ∀ b ∈ bs, b % 2 = 1
  has : ∀ b ∈ bs, b - 1 ∈ rs
theorem RInv.nil : RInv [] [] := ⟨List.Pairwise.nil, (fun _ h => nomatch h), List.Pairwise.nil, (fun _ h => nomatch h), (fun _ h => nomatch h)⟩
theorem RInv.row {rs bs : List Int} {x : Int} (R : RInv rs bs) (hx : x ∉ rs) (he : x % 2 = 0) : RInv (rs ++ [x]) bs where
  nd := by
    rw [List.nodup_append]
    exact ⟨R.nd, by simp, fun a ha b hb e => hx (by rw [← List.mem_singleton.mp hb, ← e]; exact ha)⟩
  even := fun y hy => by
    rcases List.mem_append.mp hy with h | h
    · exact R.even y h
    · rw [List.mem_singleton.mp h]; exact he
  bnd := R.bnd
  odd := R.odd
  has := fun b hb => List.mem_append_left _ (R.has b hb)
theorem RInv.both {rs bs : List Int} {x : Int} (R : RInv rs bs) (hx : x ∉ rs) (he : x % 2 = 0) : RInv (rs ++ [x]) (bs ++ [x + 1]) where
  nd := (R.row hx he).nd
  even := (R.row hx he).even
  bnd := by
    rw [List.nodup_append]
    refine ⟨R.bnd, by simp, fun a ha b hb e => hx ?_⟩
    have h1 := R.has a ha
    rw [e, List.mem_singleton.mp hb] at h1
    have : x + 1 - 1 = x := by omega
    rwa [this] at h1
  odd := fun y hy => by
    rcases List.mem_append.mp hy with h | h
    · exact R.odd y h
    · rw [List.mem_singleton.mp h]; omega
  has := fun y hy => by
    rcases List.mem_append.mp hy with h | h
    · exact List.mem_append_left _ (R.has y h)
    · rw [List.mem_singleton.mp h]
      refine List.mem_append_right _ (List.mem_singleton.mpr ?_)
      omega
theorem valItems_at {vs : List Value} {i : Nat} {a : Itm} (h : (vs.map Itm.val)[i]? = some a) : ∃ v, vs[i]? = some v ∧ a = .val v := by
  rw [List.getElem?_map] at h
  cases e : vs[i]? with
  | none => rw [e] at h; cases h
  | some v => rw [e] at h; exact ⟨v, rfl, (Option.some.inj h).symm⟩
theorem notmem_any {l : List Int} {x : Int} (h : (l.any fun y => y == x) = false) : x ∉ l := fun hm => by
  have h2 : (l.any fun y => y == x) = true := List.any_eq_true.mpr ⟨x, hm, beq_self_eq_true x⟩
  exact absurd (h.symm.trans h2) (by decide)
theorem kst_self {m : Str → Option Value} (ps : List (Str × Value)) (hk : ∀ p ∈ ps, m p.1 = some p.2) : m = kstB m ps := (funext fun _ => kstB_eq hk fun _ => rfl).symm
theorem turn_nil {g g' h : Heap} {L : Addr} {m : Str → Option Value} {news : List (Addr × Obj)} (T : KtsTurn [] g g') (F : Fr g' L h m) (N : News g' L h news) : Fr g L h m ∧ News g L h news := by
  refine ⟨⟨F.ns, fun b o e => F.keep b o (T.other b o e (fun q => nomatch q)), by rw [← T.size]; exact F.above⟩, fun q hq => ⟨(N q hq).1, (N q hq).2.1, ?_⟩⟩
  cases e : g.get? q.1 with
  | none => rfl
  | some o =>
    have := T.other _ o e (fun q => nomatch q)
    rw [(N q hq).2.2] at this
    cases this
theorem neg_range (l : List Int) : (List.range l.length).map (fun k => -(l.getD k 0)) = l.map (fun x => -x) := by
  apply List.ext_getElem
  · simp
  · intro i h1 h2
    have hi : i < l.length := by simpa using h2
    simp [hi]
theorem strict_of {l : List Int} (h : l.Pairwise (· ≤ ·)) (nd : l.Nodup) : l.Pairwise (· < ·) := by
  have := List.Pairwise.and h nd
  exact this.imp fun {a b} ⟨h1, h2⟩ => by omega
theorem RInv.joint {rs bs : List Int} (R : RInv rs bs) : (rs ++ bs).Nodup := by
  rw [List.nodup_append]
  refine ⟨R.nd, R.bnd, fun a ha b hb e => ?_⟩
  have h1 := R.even a ha
  have h2 := R.odd b hb
  omega
theorem nodup_neg {l : List Int} (h : l.Nodup) : (l.map (fun x => -x)).Nodup := by
  refine List.Pairwise.map _ (fun a b hab e => hab ?_) h
  have e' : -a = -b := e
  omega
open_top hd for PySem.Challenge.rw_sr0101_01
def Stop (P : Prop) : Prop := P
def Halt (P : Prop) : Prop := P
theorem stop_here {P : Prop} (h : Stop P) : P := h
local macro_rules | `(tactic| k_mem) => `(tactic| first | exact List.mem_cons_self | (with_reducible assumption) | (refine' List.mem_cons_of_mem _ ?_; k_mem))
local macro_rules | `(tactic| k_all) => `(tactic| first | assumption | (refine ne_of_allLt ?_; assumption))
local macro_rules | `(tactic| walk_at "subscriptTail Name Name ref int") => `(tactic| (k_here; (with_unfolding_all refine' item_led_out_H ?kA ?kN ?kH ?km ?ki ?kk ?kb ?_ ?k6; (case kA => rfl); (case kN => k_asm); (case kH => assumption); (case km => k_mem); (case ki => assumption); (case kk => omega); (case kb => omega); (case k6 => with_unfolding_all rfl)); intro h' tk' e' oe' vs' x'))
local macro_rules | `(tactic| walk_at "subscriptTail Name Name ref int") => `(tactic| (k_here; (with_unfolding_all refine' item_led_out ?kA ?kN ?km ?ki ?kk ?kb ?_ ?k6; (case kA => rfl); (case kN => k_asm); (case km => k_mem); (case ki => assumption); (case kk => omega); (case kb => omega); (case k6 => with_unfolding_all rfl)); intro h' tk' e' x'))
local macro_rules | `(tactic| walk_at "subscriptTail Name Name ref int") => `(tactic| (k_here; (with_unfolding_all refine' item_led ?kN ?km ?ki ?k0 ?kk ?kb ?_ ?k6; (case kN => k_asm); (case km => k_mem); (case ki => assumption); (case k0 => omega); (case kk => omega); (case kb => omega); (case k6 => with_unfolding_all rfl)); intro t'))
local macro_rules | `(tactic| walk_at "noteFrame ref") => `(tactic| (k_here; first
  | ((with_reducible rename Heap.NewExc _ _ _ _ => nx'); (refine' noted_hereN ?kK nx' ?kF ?kN ?kX ?kT ?kD ?_; (case kK => assumption); (case kF => assumption); (case kN => k_asm); (case kX => assumption); (case kT => assumption); (case kD => assumption)); clear nx'; intro h' g' G' T' F' R' U' B' X' P' D'; (try dsimp only at R' U' ⊢))
  | ((with_reducible rename Heap.NewExc _ _ _ _ => nx'); (refine' noted_finH ?kK nx' ?kF ?kN ?kX ?kT ?kD ?_; (case kK => assumption); (case kF => assumption); (case kN => k_asm); (case kX => assumption); (case kT => assumption); (case kD => assumption)); clear nx'; intro h' g' oe' T' oT' Tn' F' N' H' ne' B' X' P' D'; (try (have ne1' := neN (ne' _ List.mem_cons_self).1; have ne2' := neN (ne' _ List.mem_cons_self).2; have ne3' := neN (ne' _ (List.mem_cons_of_mem _ List.mem_cons_self)).1; have ne4' := neN (ne' _ (List.mem_cons_of_mem _ List.mem_cons_self)).2; dsimp only at ne1' ne2' ne3' ne4')); (try dsimp only))
  | ((with_reducible rename NewX _ _ _ _ _ _ => nx'); (refine' noted_hereX ?kK nx' ?kF ?kN ?kX ?kT ?kD ?_; (case kK => assumption); (case kF => assumption); (case kN => k_asm); (case kX => assumption); (case kT => assumption); (case kD => assumption)); clear nx'; intro h' g' G' T' F' R' U' B' X' P' D'; (try dsimp only at R' U' ⊢))))
local macro_rules | `(tactic| walk_at "passOn") => `(tactic| (k_here; (refine' pass_onH ?kK ?kF ?kN ?kH ?kn ?_; (case kK => assumption); (case kF => assumption); (case kN => k_asm); (case kH => assumption); (case kn => assumption)); intro G' h' F' R' U'; (try dsimp only at R' U' ⊢)))
local macro_rules | `(tactic| walk_at "notedBy") => `(tactic| (refine (show PassesOwnAt _ _ _ _ _ from by passes_own) _ _ ?_))
local macro_rules | `(tactic| walk_at "call builtin:list.append") => `(tactic| (k_here; k_dflt (refine' app_led ?kF ?kN ?kU ?kz ?_; (case kF => k_asm); (case kN => k_asm); (case kU => k_upd); (case kz => omega)); intro h' F' N'))
local macro_rules | `(tactic| walk_at "call builtin:list.extend") => `(tactic| (k_here; k_dflt (refine' ext_led ?kF ?kN ?kb ?kU ?kz ?ky ?_; (case kF => k_asm); (case kN => k_asm); (case kb => k_mem); (case kU => (intro kk; k_upd)); (case kz => first | omega | (simp only [List.length_append, List.length_cons, List.length_nil]; omega) | (refine le_of_ints (by assumption) ?_; omega)); (case ky => first | omega | (refine le_of_ints (by assumption) ?_; omega))); intro k' h' F' N'; (try dsimp only at N')))
local macro_rules | `(tactic| walk_at "exec While Compare cons nil") => `(tactic| (k_dflt (refine while_once ?_ (by passes_own))))
local macro_rules | `(tactic| walk_at "False") => `(tactic| (exfalso; first | omega | (simp_all; done)))
local macro_rules | `(tactic| walk_at "subscriptTail Name Slice ref ref") => `(tactic| (k_here; (with_reducible show wpAny _ _ (subscriptTail _ (PySem.Expr.Slice (some _) none none _) (Value.ref _) (Value.ref _)) _ _ _); k_dflt (refine' kmk_slice_ints ?F ?N ?l ?p ?q ?i ?m ?c ?_ ?s ?t ?z; (case F => k_asm); (case N => k_asm); (case l => exact News.isList (by k_asm) (by k_mem)); (case p => kmk_part); (case q => kmk_part); (case i => assumption); (case m => exact kmk_from (by assumption) (by omega)); (case c => exact List.length_drop ..); (case s => with_unfolding_all rfl); (case t => kmk_pure); (case z => (rw [List.size_toArray, sizeLine_eq]; omega))); intro D' ws' h' F' N' l1 hI' hC' hL'; (try k_lt l1)))
local macro_rules | `(tactic| walk_at "truthy ref") => `(tactic| (k_here; k_dflt (first
  | (refine' truthy_led0 ?kN ?km ?ki ?_; (case kN => k_asm); (case km => k_mem); (case ki => assumption))
  | (refine' truthy_led ?kN ?km ?ki ?kz ?kne ?_; (case kN => k_asm); (case km => k_mem); (case ki => assumption); (case kz => omega); (case kne => assumption)))))
local macro_rules | `(tactic| walk_at "call builtin:list.pop") => `(tactic| (k_here; (with_reducible show wpAny _ _ (call (Value.builtin _) [Value.ref _]) _ _ _); k_dflt (refine' kpa_pop ?F ?N ?U ?i ?l ?z ?_; (case F => k_asm); (case N => k_asm); (case U => k_upd); (case i => assumption); (case l => omega); (case z => (rw [sizeLine_eq]; omega))); (intro h' t' F' N' hI')))
local macro_rules | `(tactic| walk_at "call builtin:list.remove") => `(tactic| (k_here; k_dflt (refine' rem_led ?kF ?kN ?ki ?kx ?kU ?kz ?_; (case kF => k_asm); (case kN => k_asm); (case kU => (intro us'; k_upd)); (case ki => assumption); (case kx => assumption); (case kz => omega)); intro us' h' F' N' hI'; (try dsimp only at N')))
local macro_rules | `(tactic| walk_at "binaryOp Add ref ref") => `(tactic| (k_here; (with_reducible show wpAny _ _ (binaryOp _ (Value.ref _) (Value.ref _)) _ _ _); k_dflt (refine' kmk_add_ints ?F ?N ?a ?b ?i ?j ?_ ?z; (case F => k_asm); (case N => k_asm); (case a => exact News.isList (by k_asm) (by k_mem)); (case b => exact News.isList (by k_asm) (by k_mem)); (case i => first | assumption | exact IntsAre.cons _ _ IntsAre.nil); (case j => first | assumption | exact IntsAre.cons _ _ IntsAre.nil); (case z => (rw [sizeLine_eq]; (try simp only [List.length_map, List.length_cons, List.length_nil]); omega))); intro D' ws' h' F' N' l1 hI'; (try k_lt l1)))
local macro_rules | `(tactic| walk_at "call builtin:max") => `(tactic| (k_here; (with_reducible show wpAny _ _ (call (Value.builtin _) [Value.ref _]) _ _ _); k_dflt (refine' kso_max ?k1 ?k2 ?k3 ?k4 ?k5 ?k6 ?_; (case k1 => k_asm); (case k2 => k_asm); (case k3 => exact News.isList (by k_asm) (by k_mem)); (case k4 => assumption); (case k5 => first | (simp; done) | omega); (case k6 => with_unfolding_all rfl)); intro h' M' t' k' F' N' a' b'))
local macro_rules | `(tactic| lcg_sub) => `(tactic| first | (with_reducible exact List.forall_mem_nil _) | (with_reducible exact fun _ hp => hp) | (with_reducible refine List.forall_mem_cons.mpr ?_; refine ⟨by first | with_reducible k_mem | k_mem, ?_⟩; lcg_sub) | (refine tail_mem ?_; lcg_sub))
local macro_rules | `(tactic| walk_at "subscriptTail Name Slice ref ref") => `(tactic| (k_here; (with_reducible show wpAny _ _ (subscriptTail _ (PySem.Expr.Slice none none none _) (Value.ref _) (Value.ref _)) _ _ _); k_dflt (refine' kmk_slice_ints ?F ?N ?l ?p ?q ?i ?m ?c ?_ ?s ?t ?z; (case F => k_asm); (case N => k_asm); (case l => exact News.isList (by k_asm) (by k_mem)); (case p => kmk_part); (case q => kmk_part); (case i => assumption); (case m => exact kmk_all (by assumption)); (case c => exact rfl); (case s => with_unfolding_all rfl); (case t => kmk_pure); (case z => (rw [List.size_toArray, sizeLine_eq]; omega))); intro D' ws' h' F' N' l1 hI' hC' hL'; (try k_lt l1)))
local macro_rules | `(tactic| walk_at "compareOp NotEq ref ref") => `(tactic| (k_here; (with_reducible show wpAny _ _ (compareOp CmpOp.NotEq (Value.ref _) (Value.ref _)) _ _ _); k_dflt (first
  | (refine' ne_pairK ?N ?t ?a ?b ?i ?t2 ?a2 ?b2 ?j ?u ?_; (case N => k_asm); (case t => with_reducible k_mem); (case a => k_mem); (case b => k_mem); (case i => assumption); (case t2 => with_reducible k_mem); (case a2 => k_mem); (case b2 => k_mem); (case j => assumption); (case u => first | assumption | ktr_units))
  | (refine' ne_sameK ?N ?a ?i ?b ?j ?u ?_; (case N => k_asm); (case a => k_mem); (case i => assumption); (case b => k_mem); (case j => assumption); (case u => first | assumption | ktr_units)))))
local macro_rules | `(tactic| walk_at "exec While Constant cons nil") => `(tactic| (refine stop_here ?_))
structure SS where
  i : Nat
  ti : Tok
  j : Nat
  tj : Tok
  vm : List Value
  nm : Nat
  am : List Int
  vu : List Value
  nu : Nat
  au : List Int
abbrev P0 : PySem.Program := PySem.Challenge.rw_sr0101_01.row.prog
abbrev SldRet (K : Frag) (loose : List Str) (mean : ExcName → Option Value) (mg mb : Str → Option Value) (A₀ : Around) (base : Heap) (outer : List Env) (h₀ : Heap) (L : Addr) (m : Str → Option Value) (news : List (Addr × Obj)) (s : Shared) (Q : Value → Shared → Prop) (xs ys : List Int) : Prop :=
  ∀ (h₀' : Heap) (t lm lu : Addr) (vm vu : List Value) (nm nu : Nat) (h' : Heap) (tk' : Nat), KtsTurn (outer.filterMap (·.frame)) h₀ h₀' → Fr h₀' L h' m → News h₀' L h' ((t, { cls := .type "tuple", data := .seq [Value.ref lm, Value.ref lu].toArray }) :: (lu, listOf vu.toArray nu) :: (lm, listOf vm.toArray nm) :: news) →
    Below A₀ base outer h₀' → K.In h₀' → Top hd.view_39 loose mean mg mb h₀' → KtsDicts (outer.filterMap (·.frame)) h₀' → IntsAre vm (dif xs ys).1 → IntsAre vu (dif xs ys).2 → (∀ p ∈ news, p.1 < lm) → lm < lu → Q (.ref t) { s with heap := h', toks := tk' }
theorem ksw_out {σ : Type} {h₀ : Heap} {L : Addr} {s : Shared} {Led : σ → List (Addr × Obj)} {ps : σ → List (Str × Value)} {Facts : σ → Prop} {stored : List Str} {m₀ m' : Str → Option Value} {P : σ → Prop} {μ : σ → Nat} {c : σ} {h' : Heap} {tk : Nat} {news' : List (Addr × Obj)} (c' : σ)
    (F : Fr h₀ L h' m') (N : News h₀ L h' news') (hn : news' = Led c') (hf : Facts c') (hp : P c') (hm : μ c' < μ c) (hk : ∀ p ∈ ps c', m' p.1 = some p.2) (hr : ∀ z, (∀ p ∈ ps c', z ≠ p.1) → stored.contains z = false → m' z = m₀ z) :
    KswEnd h₀ L s Led ps Facts stored m₀ P μ c { s with heap := h', toks := tk } := ksw_end c' F N (fun p hp => hn ▸ hp) hf hk hr hp hm
theorem ints_eq {vs : List Value} {ns ms : List Int} (h : IntsAre vs ns) (e : ns = ms) : IntsAre vs ms := e ▸ h
theorem sld_fin {K : Frag} {loose : List Str} {mean : ExcName → Option Value} {mg mb : Str → Option Value} {A₀ : Around} {base : Heap} {outer : List Env} {h₀ : Heap} {L : Addr} {m : Str → Option Value} {news : List (Addr × Obj)} {s : Shared} {Q : Value → Shared → Prop} {xs ys : List Int} {env : Env} {g g' h' : Heap} {L' t d1 d2 lm lu : Addr} {o1 o2 : Obj} {m' : Str → Option Value} {vm vu : List Value} {nm nu tk' : Nat}
    (hret : SldRet K loose mean mg mb A₀ base outer h₀ L m news s Q xs ys) (back : BackS A₀ base outer K hd.view_39 loose mean mg mb h₀ L m env g) (F : Fr g' L' h' m')
    (N : News g' L' h' ((t, { cls := .type "tuple", data := .seq [Value.ref lm, Value.ref lu].toArray }) :: (d1, o1) :: (d2, o2) :: (lu, listOf vu.toArray nu) :: (lm, listOf vm.toArray nm) :: news)) (T : KtsTurn ((env :: outer).filterMap (·.frame)) g g') (hm1 : ∀ p ∈ news, p.1 < lm) (hml : lm < lu) (h1 : IntsAre vm (dif xs ys).1) (h2 : IntsAre vu (dif xs ys).2) : Q (.ref t) { s with heap := h', toks := tk' } := by
  obtain ⟨h₀', a1, a2, a3, a4, a5, a6, a7⟩ := back _ _ _ _ _ T F N
  refine hret h₀' t lm lu vm vu nm nu h' tk' a1 a2 (fun q hq => a3 q ?_) a4 a5 a6 a7 h1 h2 hm1 hml
  rcases List.mem_cons.mp hq with rfl | hq
  · exact List.mem_cons_self
  · exact List.mem_cons_of_mem _ (List.mem_cons_of_mem _ (List.mem_cons_of_mem _ hq))
theorem sld_fin2 {K : Frag} {loose : List Str} {mean : ExcName → Option Value} {mg mb : Str → Option Value} {A₀ : Around} {base : Heap} {outer : List Env} {h₀ : Heap} {L : Addr} {m : Str → Option Value} {news : List (Addr × Obj)} {s : Shared} {Q : Value → Shared → Prop} {xs ys : List Int} {env : Env} {g g' h' : Heap} {L' t d1 d2 lm lu : Addr} {o1 o2 o3 o4 : Obj} {d3 d4 : Addr} {m' : Str → Option Value} {vm vu : List Value} {nm nu tk' : Nat}
    (hret : SldRet K loose mean mg mb A₀ base outer h₀ L m news s Q xs ys) (back : BackS A₀ base outer K hd.view_39 loose mean mg mb h₀ L m env g) (F : Fr g' L' h' m')
    (N : News g' L' h' ((t, { cls := .type "tuple", data := .seq [Value.ref lm, Value.ref lu].toArray }) :: (d1, o1) :: (d2, o2) :: (d3, o3) :: (d4, o4) :: (lu, listOf vu.toArray nu) :: (lm, listOf vm.toArray nm) :: news)) (T : KtsTurn ((env :: outer).filterMap (·.frame)) g g') (hm1 : ∀ p ∈ news, p.1 < lm) (hml : lm < lu) (h1 : IntsAre vm (dif xs ys).1) (h2 : IntsAre vu (dif xs ys).2) : Q (.ref t) { s with heap := h', toks := tk' } := by
  obtain ⟨h₀', a1, a2, a3, a4, a5, a6, a7⟩ := back _ _ _ _ _ T F N
  refine hret h₀' t lm lu vm vu nm nu h' tk' a1 a2 (fun q hq => a3 q ?_) a4 a5 a6 a7 h1 h2 hm1 hml
  rcases List.mem_cons.mp hq with rfl | hq
  · exact List.mem_cons_self
  · exact List.mem_cons_of_mem _ (List.mem_cons_of_mem _ (List.mem_cons_of_mem _ (List.mem_cons_of_mem _ (List.mem_cons_of_mem _ hq))))
theorem sld (w : World) (loose : List Str) (mean : ExcName → Option Value) (mg mb : Str → Option Value)
   (dp un : Nat) (gd : Option (List Code)) (cn : Str) (cs : Scope) (a : Addr) (ccd : Value) (cl : List (Str × Addr)) (outer : List Env) (A₀ : Around) (base h₀ : Heap) (L : Addr) (m : Str → Option Value) (news : List (Addr × Obj)) (s : Shared)
    (Q E : Value → Shared → Prop) (la lb : Addr) (va vb : List Value) (na nb : Nat) (xs ys : List Int)
    (B : Below A₀ base outer h₀) (F : Fr h₀ L s.heap m) (X : (hd.heap_39 w.params).In h₀) (N : News h₀ L s.heap news) (T : Top hd.view_39 loose mean mg mb h₀) (hk : cs.kind = .function)
    (XB : (hd.heap_39 w.params).In base) (TB : Top hd.view_39 loose mean mg mb base) (D : KtsDicts (outer.filterMap (·.frame)) h₀)
    (ha : (la, listOf va.toArray na) ∈ news) (hb : (lb, listOf vb.toArray nb) ∈ news)
    (hx : IntsAre va xs) (hy : IntsAre vb ys) (hlx : xs.length < 100) (hly : ys.length < 100)
    (hdx : ∀ k, k + 1 < xs.length → xs.getD (k + 1) 0 ≠ xs.getD k 0) (hdy : ∀ k, k + 1 < ys.length → ys.getD (k + 1) 0 ≠ ys.getD k 0)
    (hdp : dp + 4 < recursionLimit) (hun : un + 100 < cLine)
    (hret : SldRet (hd.heap_39 w.params) loose mean mg mb A₀ base outer h₀ L m news s Q xs ys) :
    wpAny (model PySem.Challenge.rw_sr0101_01.row.prog w) (ktrTop dp un gd cn cs L a ccd cl outer) (call (.ref 21) [.ref la, .ref lb]) Q E s := by
  refine wpAny_call ?_
  k_dflt (refine' call_S (env := envX cn cs L a ccd cl) B F X N T XB TB D ?kA ?kF hk ?k6 ?k7 ?k8 ?k9 ?kB ?_ ?c2 ?c3 ?c4 ?c5; (case kA => exact rfl); (case kF => exact rfl); (case k6 => k_is); (case k7 => k_is); (case k8 => ktr_room); (case k9 => exact BindsTo.of_eq rfl); (case kB => exact locs rfl); (case c2 => exact rfl); (case c3 => exact rfl); (case c4 => exact rfl); (case c5 => decide))
  intro g L' h₁ FG F' N' B' X' T' D' hlt back
  (try dsimp only)
  (try k_fold)
  k_steps
  unfold Stop
  rename_i lm h2 hm1 h2' lu h1 hm2 hh0 F0 N0
  obtain ⟨hml, hm3⟩ := hm2
  replace hm3 := allLt_out hm3
  refine ksw_while (σ := SS) (fun c => (lu, listOf c.vu.toArray c.nu) :: (lm, listOf c.vm.toArray c.nm) :: news)
     (fun c => [(Str.ofString "i", .int c.i c.ti), (Str.ofString "j", .int c.j c.tj), (Str.ofString "missing", .ref lm), (Str.ofString "unexpected", .ref lu), (Str.ofString "expected", .ref la), (Str.ofString "actual", .ref lb)])
     (fun c => IntsAre c.vm c.am ∧ IntsAre c.vu c.au) [Str.ofString "e", Str.ofString "a"]
     (fun c => DInv xs ys c.i c.j c.am c.au)
     (fun c => (xs.length - c.i) + (ys.length - c.j)) ⟨0, tk, 0, tk, [], 0, [], [], 0, []⟩ F0 N0 ?hf ?hk ?hp ?turn
  case hf => exact ⟨.nil, .nil⟩
  case hk => kst_all
  case hp => exact ⟨Nat.zero_le _, Nat.zero_le _, Nat.le_refl _, rfl, rfl⟩
  case turn =>
    clear F0 N0
    rintro ⟨i, ti, j, tj, vm, nm, am, vu, nu, au⟩ u h tk' ⟨hfm, hfu⟩ hI F1 N1
    dsimp only [kstB] at *
    obtain ⟨hi, hj, hlen, _⟩ := id hI
    have hvm := hfm.length
    have hvu := hfu.length
    have hva := hx.length
    have hvb := hy.length
    by_cases hi' : i < xs.length
    · by_cases hj' : j < ys.length
      · by_cases hi2 : i + 1 < xs.length
        · have hnx : ¬ (xs.getD ((i : Int) + 1).toNat 0 = xs.getD (i : Int).toNat 0) := hdx i hi2
          by_cases hj2 : j + 1 < ys.length
          · have hny : ¬ (ys.getD ((j : Int) + 1).toNat 0 = ys.getD (j : Int).toNat 0) := hdy j hj2
            k_steps
            · refine ksw_out ⟨i + 1, _, j, _, _, _, am ++ [xs.getD (i : Int).toNat 0], _, _, au⟩ (by assumption) (by assumption) rfl ⟨hfm.append (.cons _ _ .nil), hfu⟩ (dinv_lt hi' hj' (by assumption) hI) (by dsimp only; omega) (by kst_all) (by ksw_same)
            · refine ksw_out ⟨i, _, j + 1, _, _, _, am, _, _, au ++ [ys.getD (j : Int).toNat 0]⟩ (by assumption) (by assumption) rfl ⟨hfm, hfu.append (.cons _ _ .nil)⟩ (dinv_gt hi' hj' (by assumption) hI) (by dsimp only; omega) (by kst_all) (by ksw_same)
            · refine ksw_out ⟨i + 1, _, j + 1, _, _, _, am, _, _, au⟩ (by assumption) (by assumption) rfl ⟨hfm, hfu⟩ (dinv_eq hi' hj' (by assumption) (by assumption) hI) (by dsimp only; omega) (by kst_all) (by ksw_same)
          · have hj3 : j + 1 = ys.length := by omega
            k_steps
            · refine ksw_out ⟨i + 1, _, j, _, _, _, am ++ [xs.getD (i : Int).toNat 0], _, _, au⟩ (by assumption) (by assumption) rfl ⟨hfm.append (.cons _ _ .nil), hfu⟩ (dinv_lt hi' hj' (by assumption) hI) (by dsimp only; omega) (by kst_all) (by ksw_same)
            · have e := dinv_end (dinv_gt hi' hj' (by assumption) hI) (.inr (by omega)); first | exact sld_fin hret back (by assumption) (by assumption) (by first | assumption | (refine' KtsTurn.trans ?a ?b; (case b => assumption); (case a => assumption))) hm1 hml (ints_eq (hfm.append (by assumption)) e.1) (ints_eq ((hfu.append (.cons _ _ .nil)).append (by assumption)) e.2) | exact sld_fin2 hret back (by assumption) (by assumption) (by first | assumption | (refine' KtsTurn.trans ?a ?b; (case b => assumption); (case a => assumption))) hm1 hml (ints_eq (hfm.append (by assumption)) e.1) (ints_eq ((hfu.append (.cons _ _ .nil)).append (by assumption)) e.2)
            · have e := dinv_end (dinv_eq hi' hj' (by assumption) (by assumption) hI) (.inr (by omega)); first | exact sld_fin hret back (by assumption) (by assumption) (by first | assumption | (refine' KtsTurn.trans ?a ?b; (case b => assumption); (case a => assumption))) hm1 hml (ints_eq (hfm.append (by assumption)) e.1) (ints_eq (hfu.append (by assumption)) e.2) | exact sld_fin2 hret back (by assumption) (by assumption) (by first | assumption | (refine' KtsTurn.trans ?a ?b; (case b => assumption); (case a => assumption))) hm1 hml (ints_eq (hfm.append (by assumption)) e.1) (ints_eq (hfu.append (by assumption)) e.2)
        · have hi3 : i + 1 = xs.length := by omega
          by_cases hj2 : j + 1 < ys.length
          · have hny : ¬ (ys.getD ((j : Int) + 1).toNat 0 = ys.getD (j : Int).toNat 0) := hdy j hj2
            k_steps
            · have e := dinv_end (dinv_lt hi' hj' (by assumption) hI) (.inl (by omega)); first | exact sld_fin hret back (by assumption) (by assumption) (by first | assumption | (refine' KtsTurn.trans ?a ?b; (case b => assumption); (case a => assumption))) hm1 hml (ints_eq ((hfm.append (.cons _ _ .nil)).append (by assumption)) e.1) (ints_eq (hfu.append (by assumption)) e.2) | exact sld_fin2 hret back (by assumption) (by assumption) (by first | assumption | (refine' KtsTurn.trans ?a ?b; (case b => assumption); (case a => assumption))) hm1 hml (ints_eq ((hfm.append (.cons _ _ .nil)).append (by assumption)) e.1) (ints_eq (hfu.append (by assumption)) e.2)
            · refine ksw_out ⟨i, _, j + 1, _, _, _, am, _, _, au ++ [ys.getD (j : Int).toNat 0]⟩ (by assumption) (by assumption) rfl ⟨hfm, hfu.append (.cons _ _ .nil)⟩ (dinv_gt hi' hj' (by assumption) hI) (by dsimp only; omega) (by kst_all) (by ksw_same)
            · have e := dinv_end (dinv_eq hi' hj' (by assumption) (by assumption) hI) (.inl (by omega)); first | exact sld_fin hret back (by assumption) (by assumption) (by first | assumption | (refine' KtsTurn.trans ?a ?b; (case b => assumption); (case a => assumption))) hm1 hml (ints_eq (hfm.append (by assumption)) e.1) (ints_eq (hfu.append (by assumption)) e.2) | exact sld_fin2 hret back (by assumption) (by assumption) (by first | assumption | (refine' KtsTurn.trans ?a ?b; (case b => assumption); (case a => assumption))) hm1 hml (ints_eq (hfm.append (by assumption)) e.1) (ints_eq (hfu.append (by assumption)) e.2)
          · have hj3 : j + 1 = ys.length := by omega
            k_steps
            · have e := dinv_end (dinv_lt hi' hj' (by assumption) hI) (.inl (by omega)); first | exact sld_fin hret back (by assumption) (by assumption) (by first | assumption | (refine' KtsTurn.trans ?a ?b; (case b => assumption); (case a => assumption))) hm1 hml (ints_eq ((hfm.append (.cons _ _ .nil)).append (by assumption)) e.1) (ints_eq (hfu.append (by assumption)) e.2) | exact sld_fin2 hret back (by assumption) (by assumption) (by first | assumption | (refine' KtsTurn.trans ?a ?b; (case b => assumption); (case a => assumption))) hm1 hml (ints_eq ((hfm.append (.cons _ _ .nil)).append (by assumption)) e.1) (ints_eq (hfu.append (by assumption)) e.2)
            · have e := dinv_end (dinv_gt hi' hj' (by assumption) hI) (.inr (by omega)); first | exact sld_fin hret back (by assumption) (by assumption) (by first | assumption | (refine' KtsTurn.trans ?a ?b; (case b => assumption); (case a => assumption))) hm1 hml (ints_eq (hfm.append (by assumption)) e.1) (ints_eq ((hfu.append (.cons _ _ .nil)).append (by assumption)) e.2) | exact sld_fin2 hret back (by assumption) (by assumption) (by first | assumption | (refine' KtsTurn.trans ?a ?b; (case b => assumption); (case a => assumption))) hm1 hml (ints_eq (hfm.append (by assumption)) e.1) (ints_eq ((hfu.append (.cons _ _ .nil)).append (by assumption)) e.2)
            · have e := dinv_end (dinv_eq hi' hj' (by assumption) (by assumption) hI) (.inl (by omega)); first | exact sld_fin hret back (by assumption) (by assumption) (by first | assumption | (refine' KtsTurn.trans ?a ?b; (case b => assumption); (case a => assumption))) hm1 hml (ints_eq (hfm.append (by assumption)) e.1) (ints_eq (hfu.append (by assumption)) e.2) | exact sld_fin2 hret back (by assumption) (by assumption) (by first | assumption | (refine' KtsTurn.trans ?a ?b; (case b => assumption); (case a => assumption))) hm1 hml (ints_eq (hfm.append (by assumption)) e.1) (ints_eq (hfu.append (by assumption)) e.2)
      · have hj2 : j = ys.length := by omega
        k_steps
        have e := dinv_end (hI) (.inr (by omega)); first | exact sld_fin hret back (by assumption) (by assumption) (by first | assumption | (refine' KtsTurn.trans ?a ?b; (case b => assumption); (case a => assumption))) hm1 hml (ints_eq (hfm.append (by assumption)) e.1) (ints_eq (hfu.append (by assumption)) e.2) | exact sld_fin2 hret back (by assumption) (by assumption) (by first | assumption | (refine' KtsTurn.trans ?a ?b; (case b => assumption); (case a => assumption))) hm1 hml (ints_eq (hfm.append (by assumption)) e.1) (ints_eq (hfu.append (by assumption)) e.2)
    · have hi2 : i = xs.length := by omega
      k_steps
      have e := dinv_end (hI) (.inl (by omega)); first | exact sld_fin hret back (by assumption) (by assumption) (by first | assumption | (refine' KtsTurn.trans ?a ?b; (case b => assumption); (case a => assumption))) hm1 hml (ints_eq (hfm.append (by assumption)) e.1) (ints_eq (hfu.append (by assumption)) e.2) | exact sld_fin2 hret back (by assumption) (by assumption) (by first | assumption | (refine' KtsTurn.trans ?a ?b; (case b => assumption); (case a => assumption))) hm1 hml (ints_eq (hfm.append (by assumption)) e.1) (ints_eq (hfu.append (by assumption)) e.2)
local macro_rules | `(tactic| walk_at "exec While Name cons nil") => `(tactic| (refine stop_here ?_))
theorem uld (w : World) (loose : List Str) (mean : ExcName → Option Value) (mg mb : Str → Option Value)
   (dp un : Nat) (gd : Option (List Code)) (cn : Str) (cs : Scope) (a : Addr) (ccd : Value) (cl : List (Str × Addr)) (outer : List Env) (A₀ : Around) (base h₀ : Heap) (L : Addr) (m : Str → Option Value) (news : List (Addr × Obj)) (s : Shared)
    (Q E : Value → Shared → Prop) (la lb : Addr) (va vb : List Value) (na nb : Nat) (xs ys : List Int)
    (B : Below A₀ base outer h₀) (F : Fr h₀ L s.heap m) (X : (hd.heap_39 w.params).In h₀) (N : News h₀ L s.heap ((la, listOf va.toArray na) :: (lb, listOf vb.toArray nb) :: news)) (T : Top hd.view_39 loose mean mg mb h₀) (hk : cs.kind = .function)
    (hab : @Ne Nat la lb) (hfa : ∀ p ∈ news, p.1 ≠ la) (hfb : ∀ p ∈ news, p.1 ≠ lb)
    (hx : IntsAre va xs) (hy : IntsAre vb ys) (hlx : xs.length < 100) (hly : ys.length < 100) (hnd : xs.Nodup) (hsub : ∀ x ∈ xs, x ∈ ys)
    (hdp : dp + 4 < recursionLimit) (hun : un + 100 < cLine)
    (hret : ∀ (t lm : Addr) (na' : Nat) (vb' : List Value) (nb' : Nat) (h' : Heap) (tk' : Nat), Fr h₀ L h' m → News h₀ L h' ((t, { cls := .type "tuple", data := .seq [Value.ref lm, Value.ref lb].toArray }) :: (lm, listOf #[] 0) :: (la, listOf #[] na') :: (lb, listOf vb'.toArray nb') :: news) → IntsAre vb' (uldF xs ys) → Q (.ref t) { s with heap := h', toks := tk' }) :
    wpAny (model PySem.Challenge.rw_sr0101_01.row.prog w) (ktrTop dp un gd cn cs L a ccd cl outer) (call (.ref 28) [.ref la, .ref lb]) Q E s := by
  refine wpAny_call ?_
  k_dflt ktr_enter
  k_steps
  unfold Stop
  rename_i lm h2 hm1 h3 F0 N0
  refine ksw_while (σ := US) (fun c => (lm, listOf #[] 0) :: (la, listOf c.va.toArray c.na) :: (lb, listOf c.vb.toArray c.nb) :: news)
     (fun c => [(Str.ofString "expected", .ref la), (Str.ofString "actual", .ref lb), (Str.ofString "missing", .ref lm)])
     (fun c => IntsAre c.va c.xs ∧ IntsAre c.vb (uldF c.suf ys)) [Str.ofString "item"]
     (fun c => xs = c.xs ++ c.suf ∧ (uldF c.suf ys).length < 100) (fun c => c.xs.length) ⟨va, na, xs, vb, nb, []⟩ F0 N0 ⟨hx, hy⟩ (by kst_all) ⟨(List.append_nil _).symm, hly⟩ ?turn
  case turn =>
    clear F0 N0
    rintro ⟨va', na', xs', vb', nb', suf⟩ u h tk' ⟨hfa', hfb'⟩ ⟨hI, hL⟩ F1 N1
    dsimp only [kstB] at *
    have hva := hfa'.length
    have hvb := hfb'.length
    have hl' : xs'.length ≤ xs.length := by rw [hI]; simp
    by_cases hne : xs' = []
    · subst hne
      have hI' : xs = suf := by simpa using hI
      rw [← hI'] at hfb'
      cases hfa'
      k_steps
      exact hret _ lm na' vb' nb' _ _ (by assumption) (by assumption) hfb'
    · obtain ⟨hmem, e2, hlt⟩ := uld_turn hI hne hnd hsub
      have hlen : 0 < xs'.length := List.length_pos_iff.mpr hne
      have hle2 : ((uldF suf ys).erase (xs'.getLastD 0)).length ≤ (uldF suf ys).length := List.length_erase_le
      k_steps
      exact ksw_out ⟨_, _, xs'.dropLast, _, _, xs'.getLastD 0 :: suf⟩ (by assumption) (by assumption) rfl ⟨by assumption, by assumption⟩ ⟨e2, Nat.lt_of_le_of_lt hle2 hL⟩ hlt (by kst_all) (by ksw_same)
local macro_rules | `(tactic| walk_at "exec For Tuple Call cons nil") => `(tactic| (refine stop_here ?_))
local macro_rules | `(tactic| walk_at "eval ListComp") => `(tactic| (refine stop_here ?_))
local macro_rules | `(tactic| walk_at "CompSrcT") => `(tactic| (refine stop_here ?_))
theorem long (w : World) (loose : List Str) (mean : ExcName → Option Value) (mg mb : Str → Option Value)
   (dp un : Nat) (gd : Option (List Code)) (cn : Str) (cs : Scope) (a : Addr) (ccd : Value) (cl : List (Str × Addr)) (outer : List Env) (A₀ : Around) (base h₀ : Heap) (L : Addr) (m : Str → Option Value) (news : List (Addr × Obj)) (s : Shared)
    (Q E : Value → Shared → Prop) (la : Addr) (va : List Value) (na : Nat) (xs : List Int)
    (B : Below A₀ base outer h₀) (F : Fr h₀ L s.heap m) (X : (hd.heap_39 w.params).In h₀) (N : News h₀ L s.heap news) (T : Top hd.view_39 loose mean mg mb h₀) (hk : cs.kind = .function)
    (ha : (la, listOf va.toArray na) ∈ news)
    (hx : IntsAre va xs) (hlx : xs.length < 100)
    (hdp : dp + 4 < recursionLimit) (hun : un + 100 < cLine)
    (hret : ∀ (t : Addr) (vs : List Value) (n : Nat) (h' : Heap) (tk' : Nat), Fr h₀ L h' m → News h₀ L h' ((t, listOf vs.toArray n) :: news) → IntsAre vs (endsOf xs) → (∀ p ∈ news, @LT.lt Nat _ p.1 t) → Q (.ref t) { s with heap := h', toks := tk' }) :
    wpAny (model PySem.Challenge.rw_sr0101_01.row.prog w) (ktrTop dp un gd cn cs L a ccd cl outer) (call (.ref 33) [.ref la]) Q E s := by
  refine wpAny_call ?_
  k_dflt (refine' code_defC ?k1 ?k2 ?k3 ?k4 ?k5 ?kA ?kF ?kK ?k6 ?k7 ?k8 ?k9 ?kB ?kD ?_ ?c2 ?c3 ?c4; (case kA => exact rfl); (case kF => exact rfl); (case kK => assumption); (case k1 => k_asm); (case k2 => k_asm); (case k3 => k_asm); (case k4 => k_asm); (case k5 => k_asm); (case k6 => k_is); (case k7 => k_is); (case k8 => ktr_room); (case k9 => exact BindsTo.of_eq rfl); (case kB => exact rfl); (case kD => decide +kernel); (case c2 => exact rfl); (case c3 => exact rfl); (case c4 => exact rfl); k_whole; intro g' L' h' tk' cells' FG' F' N' Y' B' X' T' l1)
  k_cells Y'
  (try simp only [List.cons_append, List.nil_append] at N')
  (try dsimp only)
  (try k_fold)
  rename_i oV' oE' oR' d1' d2' d3'
  have nV : ∀ p ∈ news, p.1 ≠ L' + 1 + 1 + 1 := ne_of_all l1 (by omega)
  have nE2 : ∀ p ∈ news, p.1 ≠ L' + 1 + 1 := ne_of_all l1 (by omega)
  replace d3' : oR'.data = .cell (some (.ref la)) := d3'
  k_steps
  unfold Stop
  rename_i lE hh1 l2 hh2 oE F2 N2 d2
  have nlE : ∀ p ∈ news, p.1 ≠ lE := ne_of_allLt (allLt_out l2.2.2.2)
  replace d1' : ∃ c, oV'.data = .cell c := ⟨_, d1'⟩
  have hva := hx.length
  refine For_turns F2 ?_
  k_steps
  refine ktu_enum (lo := listOf va.toArray na) (vs := va) (xs := enumItems 0 va) rfl F2 N2 (by k_mem) rfl rfl rfl ?_
  intro I lI
  k_lt lI
  refine items_ind (fun i m' n' => ∃ es nE oV, n' = (lE, listOf es.toArray nE) :: (L' + 1 + 1 + 1, oV) :: (L' + 1 + 1, oE) :: (L' + 1, oR') :: news ∧ IntsAre es (endsUpTo xs i) ∧ ∃ c, oV.data = .cell c) _ ?zero ?step _ 0 (Nat.zero_add _) _ _ ⟨[], 0, oV', rfl, .nil, d1'⟩
  case zero =>
    clear N2 F2
    rintro m' _ ⟨es, nE, oV, rfl, hes, c, hV⟩ h3 tk3 F3 N3
    rw [enumItems_length] at hes
    rw [hva] at hes
    k_steps
    rename_i kF kN Tc kX
    exact hret lE es nE h3 tk3 kF (fun p hp => kN p ((by lcg_sub : ∀ p ∈ (lE, listOf es.toArray nE) :: news, p ∈ _) p hp)) hes (allLt_out l2.2.2.2)
  case step =>
    clear N2 F2
    rintro i a m' _ ha ⟨es, nE, oV, rfl, hes, c, hV⟩ v h3 tk3 hav F3
    obtain ⟨v, hv, rfl⟩ := enumItems_at va 0 i ha
    obtain ⟨T, t, rfl, hT⟩ := hav
    obtain ⟨t2, rfl⟩ := ints_getD hx hv
    have hi : i < va.length := (List.getElem?_eq_some_iff.mp hv).1
    have hes0 : IntsAre es (endsUpTo xs i) ∧ True := ⟨hes, trivial⟩
    have hel : es.length = i := by rw [hes.length, endsUpTo_length]
    rw [Nat.zero_add] at hT
    refine AllObj.cons fun o1 hc1 => AllObj.cons fun o2 hc2 => AllObj.nil fun N3 => ?_
    dsimp only [List.cons_append, List.nil_append] at N3 hc1 hc2
    k_steps
    unfold Stop
    refine LCt.ListComp_T (by assumption) (by with_unfolding_all rfl) (by decide) (by rfl) (by decide) (by rfl) ?_
    k_steps
    unfold Stop
    refine LCt.CompSrcT.range (n := i) rfl (by assumption) (by assumption) (by assumption) (range_small (by omega) (by omega) (by omega) (by omega)) (range0_size i) (by rw [sizeLine_eq]; omega) ?_
    intro gg
    refine restT_pure (fun k => decide (xs.getD i 0 < xs.getD k 0)) (fun k => (endsUpTo xs i).getD k 0) trivial ?turn ?elts ?fin
    case turn =>
      intro k v I2 oI C oC D ys m₂ h4 tk4 E' hk' hP hC hm₂ F4 N4 off ne
      obtain ⟨t5, rfl⟩ := hP
      rw [Int.zero_add] at hm₂
      k_steps
      exact Same.intro (by assumption) (by assumption)
    case elts =>
      intro k v I2 oI C oC D ys m₂ h4 tk4 E' hk' hpk hP hC hm₂ F4 N4 off ne
      obtain ⟨t5, rfl⟩ := hP
      rw [Int.zero_add] at hm₂
      k_steps
      exact Same.intro (by assumption) (by assumption)
    case fin =>
      intro ys hys
      intro D h5 tk5 F5 N5 off5
      have hl1 := List.length_filter_le (fun k => decide (xs.getD i 0 < xs.getD k 0)) (List.range i)
      rw [List.length_range] at hl1
      simp only [LCg.Off1] at off5
      k_steps
      rename_i h6 M t6 tk6 F6 N6 hM1 hM2 h7 F7 N7
      have hM := maxL_eq hM1 hM2
      refine unrEnd I (by assumption) (by assumption) ((lE, listOf (es ++ [Value.int (1 + M) _]).toArray (nE + 1)) :: (L' + 1 + 1 + 1, _) :: (L' + 1 + 1, oE) :: (L' + 1, oR') :: news) (by lcg_sub) (by lcg_sub) ?h3 ?h4 ⟨⟨by k_mem, trivial⟩, _, _, _, rfl, ?_, ⟨_, by assumption⟩⟩
      case h3 => exact List.forall_mem_cons.mpr ⟨lI.1, List.forall_mem_cons.mpr ⟨lI.2.1, List.forall_mem_cons.mpr ⟨lI.2.2.1, List.forall_mem_cons.mpr ⟨lI.2.2.2.1, allLt_out lI.2.2.2.2⟩⟩⟩⟩
      case h4 => exact List.forall_mem_cons.mpr ⟨Nat.le_succ _, List.forall_mem_cons.mpr ⟨Nat.le_refl _, List.forall_mem_nil _⟩⟩
      refine hes0.1.append ?_
      rw [hM]
      exact .cons _ _ .nil
local macro_rules | `(tactic| walk_at "call ref") => `(tactic| (refine stop_here ?_))
local macro_rules | `(tactic| walk_at "eval ListComp") => `(tactic| (refine stop_here ?_))
local macro_rules | `(tactic| walk_at "exec Assign cons ListComp") => `(tactic| (refine stop_here ?_))
local macro_rules | `(tactic| walk_at "call type:zip") => `(tactic| (refine stop_here ?_))
local macro_rules | `(tactic| walk_at "CompSrcT") => `(tactic| (refine stop_here ?_))
local macro_rules | `(tactic| walk_at "exec For Name Call cons nil") => `(tactic| (refine stop_here ?_))
theorem rh (w : World) (loose : List Str) (mean : ExcName → Option Value) (mg mb : Str → Option Value)
   (dp un : Nat) (gd : Option (List Code)) (cn : Str) (cs : Scope) (a : Addr) (ccd : Value) (cl : List (Str × Addr)) (outer : List Env) (A₀ : Around) (base h₀ : Heap) (L : Addr) (m : Str → Option Value) (news : List (Addr × Obj)) (s : Shared)
    (Q E : Value → Shared → Prop) (la lb : Addr) (va vb : List Value) (na nb : Nat) (xs ys : List Int)
    (B : Below A₀ base outer h₀) (F : Fr h₀ L s.heap m) (X : (hd.heap_39 w.params).In h₀) (N : News h₀ L s.heap news) (T : Top hd.view_39 loose mean mg mb h₀) (hk : cs.kind = .function)
    (XB : (hd.heap_39 w.params).In base) (TB : Top hd.view_39 loose mean mg mb base) (D : KtsDicts (outer.filterMap (·.frame)) h₀)
    (ha : (la, listOf va.toArray na) ∈ news) (hb : (lb, listOf vb.toArray nb) ∈ news)
    (hx : IntsAre va xs) (hy : IntsAre vb ys) (hlx : xs.length < 100) (hly : ys.length < 100)
    (law : RLaw xs ys)
    (hdp : dp + 8 < recursionLimit) (hun : un + 400 < cLine)
    (hret : ∀ (h₀' h' : Heap) (tk' : Nat), KtsTurn (outer.filterMap (·.frame)) h₀ h₀' → Fr h₀' L h' m → News h₀' L h' news → Below A₀ base outer h₀' → (hd.heap_39 w.params).In h₀' → Top hd.view_39 loose mean mg mb h₀' → KtsDicts (outer.filterMap (·.frame)) h₀' → Q (.bool true) { s with heap := h', toks := tk' }) :
    wpAny (model PySem.Challenge.rw_sr0101_01.row.prog w) (ktrTop dp un gd cn cs L a ccd cl outer) (call (.ref 38) [.ref la, .ref lb]) Q E s := by
  refine wpAny_call ?_
  k_dflt (refine' call_SC (env := envX cn cs L a ccd cl) B F X N T XB TB D ?kA ?kF hk ?k6 ?k7 ?k8 ?k9 ?kB ?kD ?_ ?c2 ?c3 ?c4; (case kA => exact rfl); (case kF => exact rfl); (case k6 => k_is); (case k7 => k_is); (case k8 => ktr_room); (case k9 => exact BindsTo.of_eq rfl); (case kB => exact rfl); (case kD => decide +kernel); (case c2 => exact rfl); (case c3 => exact rfl); (case c4 => exact rfl))
  intro g L' h₁ tk₁ cells FG F' N' Y' B' X' T' D' hlt back
  k_cells Y'
  (try simp only [List.cons_append, List.nil_append] at N')
  (try dsimp only)
  (try k_fold)
  rename_i oG' oT' d1' d2'
  have nT : ∀ p ∈ news, p.1 ≠ L' + 1 := ne_of_all hlt (by omega)
  have nG : ∀ p ∈ news, p.1 ≠ L' + 1 + 1 := ne_of_all hlt (by omega)
  replace d1' : oG'.data = .cell none := d1'
  replace d2' : oT'.data = .cell none := d2'
  k_steps
  unfold Stop
  have hd5 : dp + 1 + 4 < recursionLimit := by omega
  have hu5 : un + 3 + 100 < cLine := by omega
  have hu6 : un + 3 + 64 < cLine := by omega
  have hva := hx.length
  have hvb := hy.length
  have hN0 := N'
  k_dflt (refine' long w loose mean mg mb _ _ _ _ _ _ _ _ _ _ _ _ _ _ _ _ _ _ la va na xs B' F' X' N' T' rfl ?ha hx hlx ?hd ?hu ?_)
  case ha => with_reducible k_mem
  case hd => exact hd5
  case hu => exact hu5
  intro tE vE nE h2 tk2 F2 N2 hE fE
  k_lt fE
  have hvE := hE.length
  have hEl : (endsOf xs).length = xs.length := endsUpTo_length xs _
  clear F' N'
  k_steps
  unfold Stop
  rename_i lR vR hhR hIR hCR hLR lR1 hR1 F3 N3
  clear hCR hLR
  refine wpAny_For ?_
  k_steps
  rename_i l0 h0a F0a N0a l0l D0 ws0 h0b F0b N0b l0b h0c M tM kM F4 N4 hM1 hM2 eW h5 tk5 t1 u1 v1 hRng F5 N5 keep5
  have hM := maxL_eq hM1 hM2
  obtain ⟨nM, hnM, hnb⟩ := law.max
  rw [hM, hnM] at hRng
  clear hM1 hM2 N4 F4 keep5
  refine wpAny_pyIter_range hRng (range_small (by omega) (by omega) (by omega) (by omega)) ?_
  have hIs : Builtin.Range.rangeSize 1 ((nM : Int) + 2) 1 = ((nM + 1 : Nat) : Int) := by rw [rangeSize_nat]; omega
  rw [hIs]
  have hI1 : ∀ q ∈ (lR, listOf vR.toArray 0) :: (tE, listOf vE.toArray nE) :: (L' + 1 + 1, oG') :: (L' + 1, oT') :: news, q.1 < h5.objs.size := fun q hq => Heap.lt_size (N5 q ((by lcg_sub : ∀ p ∈ (lR, listOf vR.toArray 0) :: (tE, listOf vE.toArray nE) :: (L' + 1 + 1, oG') :: (L' + 1, oT') :: news, p ∈ _) q hq)).1
  have F6 := F5.push { cls := .type "range_iterator", data := .fields #[rawInt 1, rawInt ((nM + 1 : Nat) : Int), rawInt 1] }
  have N6 : News g L' (h5.push { cls := .type "range_iterator", data := .fields #[rawInt 1, rawInt ((nM + 1 : Nat) : Int), rawInt 1] }) ((h5.objs.size, rIt 1 ((nM + 1 : Nat) : Int)) :: (lR, listOf vR.toArray 0) :: (tE, listOf vE.toArray nE) :: (L' + 1 + 1, oG') :: (L' + 1, oT') :: news) := fun q hq => by
    rcases List.mem_cons.mp hq with rfl | hq
    · exact ⟨Heap.get?_push_size _ rfl, Ne.symm (Nat.ne_of_lt F5.ns.lt), next_is_new F5⟩
    · have z := N5 q ((by lcg_sub : ∀ p ∈ (lR, listOf vR.toArray 0) :: (tE, listOf vE.toArray nE) :: (L' + 1 + 1, oG') :: (L' + 1, oT') :: news, p ∈ _) q hq)
      exact ⟨Heap.get?_push_of_some _ z.1, z.2⟩
  have hF7 := fr_kst [(Str.ofString "row", Value.ref la), (Str.ofString "ladder", .ref lb), (Str.ofString "ends", .ref tE), (Str.ofString "rest", .ref lR)] F6 (by kst_all)
  clear eW F6
  generalize hI : h5.objs.size = I at *
  k_lt hI1
  clear F5 N5 hI F0a N0a l0l F0b N0b l0b
  refine for_rangeQ rfl 1 (nM + 1) (fun i s' => Halt (∃ g1 h' tk' u lR vR nR oG oT cG cT, s' = { s with heap := h', toks := tk' } ∧ KtsTurn (List.filterMap (fun x => x.frame) (envX cn cs L a ccd cl :: outer)) g g1 ∧
    Fr g1 L' h' (kstB u [(Str.ofString "row", Value.ref la), (Str.ofString "ladder", .ref lb), (Str.ofString "ends", .ref tE), (Str.ofString "rest", .ref lR)]) ∧
    News g1 L' h' ((I, rIt (1 + (i : Nat) * 1) (((nM + 1 : Nat) : Int) - (i : Nat))) :: (lR, listOf vR.toArray nR) :: (tE, listOf vE.toArray nE) :: (L' + 1 + 1, oG) :: (L' + 1, oT) :: news) ∧
    Below (ktrTop dp un gd cn cs L a ccd cl outer) base (envX cn cs L a ccd cl :: outer) g1 ∧ (hd.heap_39 w.params).In g1 ∧ Top hd.view_39 loose mean mg mb g1 ∧ KtsDicts (List.filterMap (fun x => x.frame) (envX cn cs L a ccd cl :: outer)) g1 ∧
    IntsAre vR (pickOf xs (endsOf xs) (fun e => decide ((i : Int) < e))) ∧ oG.data = .cell cG ∧ oT.data = .cell cT ∧ @LT.lt Nat _ tE lR ∧ AllLt lR news ∧ (@Ne Nat lR I))) (fun _ => rfl) ?hit ?h0 ?step ?done
  case hit =>
    intro i s' hJ1
    unfold Halt at hJ1
    obtain ⟨g1, h', tk', u, lR, vR, nR, oG, oT, cG, cT, rfl, T1, F1, N1, r⟩ := hJ1
    exact (N1 _ List.mem_cons_self).1
  case h0 =>
    unfold Halt
    refine ⟨g, _, _, _, lR, vR, 0, oG', oT', _, _, rfl, .refl, hF7, ?_, B', X', T', D', ?_, d1', d2', lR1.1, lR1.2.2.2, ?_⟩
    · have e1 : rIt (1 + ((0 : Nat) : Int) * 1) (((nM + 1 : Nat) : Int) - ((0 : Nat) : Int)) = rIt 1 ((nM + 1 : Nat) : Int) := by simp
      rw [e1]
      exact N6
    · exact law.pos.symm ▸ hIR
    · have := hI1.1
      exact Nat.ne_of_lt this
  case step =>
    clear hF7 N6
    intro i s' t h₁ tk₁ hi hJ1 hst hk
    unfold Halt at hJ1
    obtain ⟨g1, h', tk', u, lR, vR, nR, oG, oT, cG, cT, rfl, T1, F1, N1, B1, X1, Tp1, D1, hvR, hcG, hcT, f1, f2, f3⟩ := hJ1
    have hIoff : ∀ q ∈ (lR, listOf vR.toArray nR) :: (tE, listOf vE.toArray nE) :: (L' + 1 + 1, oG) :: (L' + 1, oT) :: news, q.1 ≠ I := List.forall_mem_cons.mpr ⟨f3, List.forall_mem_cons.mpr ⟨Nat.ne_of_lt hI1.2.1, List.forall_mem_cons.mpr ⟨Nat.ne_of_lt hI1.2.2.1, List.forall_mem_cons.mpr ⟨Nat.ne_of_lt hI1.2.2.2.1, ne_of_allLt (allLt_out hI1.2.2.2.2)⟩⟩⟩⟩
    have F2 := fr_iter F1 N1 hk
    have N2 : News g1 L' h₁ ((I, rIt (1 + ((i + 1 : Nat) : Nat) * 1) (((nM + 1 : Nat) : Int) - ((i + 1 : Nat) : Nat))) :: (lR, listOf vR.toArray nR) :: (tE, listOf vE.toArray nE) :: (L' + 1 + 1, oG) :: (L' + 1, oT) :: news) := news_iter N1 hIoff hst hk
    clear F1 N1 hk hst
    generalize hoI : rIt (1 + ((i + 1 : Nat) : Nat) * 1) (((nM + 1 : Nat) : Int) - ((i + 1 : Nat) : Nat)) = oI at N2
    dsimp only [kstB] at F2
    k_steps
    unfold Stop
    rename_i hT oT2 FT NT dT
    have hxl2 : xs.length = (endsOf xs).length := hEl.symm
    refine wpAny_Assign_Name ?_ (by with_unfolding_all rfl)
    refine ListComp_Z (by assumption) (by with_unfolding_all rfl) (by decide) (by rfl) (by decide) (by rfl) (by rfl) (by decide) ?_
    k_steps
    unfold Stop
    refine zip_call (lo1 := listOf va.toArray na) (lo2 := listOf vE.toArray nE) (xs := va) (ys := vE) (n1 := na) (n2 := nE) (fun k => decide ((endsOf xs).getD k 0 = 1 + (i : Int))) (fun k => xs.getD k 0) rfl (by assumption) (by assumption) (by with_reducible k_mem) rfl rfl (by with_reducible k_mem) rfl rfl hx hE hxl2 (by omega) ?turn1 ?elts1 ?fin1
    case turn1 =>
      intro k C oC m₂ t5 u5 s₂ E' hk' hC hm₂ hm₃ F8 N8
      k_steps
    case elts1 =>
      intro k C oC m₂ t5 u5 s₂ E' hk' hC hm₂ hm₃ F8 N8
      k_steps
    case fin1 =>
      intro h8 tk8 ys8 hys8
      intro D8 h9 tk9 F9 N9 off9
      k_lt off9
      (try clear N2); (try clear F2)
      k_steps
      unfold Stop
      rename_i hG oG2 FG2 NG2 dG
      refine Assign_ListComp_Z (by assumption) rfl (by with_unfolding_all rfl) (by with_unfolding_all rfl) (by decide) (by rfl) (by decide) (by rfl) (by rfl) (by decide) (by rfl) (by rfl) ?_
      k_steps
      unfold Stop
      refine zip_call (lo1 := listOf va.toArray na) (lo2 := listOf vE.toArray nE) (xs := va) (ys := vE) (n1 := na) (n2 := nE) (fun k => decide (1 + (i : Int) < (endsOf xs).getD k 0)) (fun k => xs.getD k 0) rfl (by assumption) (by assumption) (by with_reducible k_mem) rfl rfl (by with_reducible k_mem) rfl rfl hx hE hxl2 (by omega) ?turn2 ?elts2 ?fin2
      case turn2 =>
        intro k C oC m₂ t5 u5 s₂ E' hk' hC hm₂ hm₃ F8 N8
        k_steps
      case elts2 =>
        intro k C oC m₂ t5 u5 s₂ E' hk' hC hm₂ hm₃ F8 N8
        k_steps
      case fin2 =>
        intro h10 tk10 ys9 hys9
        intro D9 h11 tk11 F11 N11 off10
        k_lt off10
        (try clear N9); (try clear F9)
        k_steps
        unfold Stop
        have hl1 := pickOf_length xs (endsOf xs) (fun e => decide ((i : Int) < e))
        have hl2 := pickOf_length xs (endsOf xs) (fun e => decide (1 + (i : Int) < e))
        have hl3 := pickOf_length xs (endsOf xs) (fun e => decide (e = 1 + (i : Int)))
        replace hys8 : IntsAre ys8 (pickOf xs (endsOf xs) (fun e => decide (e = 1 + (i : Int)))) := hys8
        replace hys9 : IntsAre ys9 (pickOf xs (endsOf xs) (fun e => decide (1 + (i : Int) < e))) := hys9
        k_dflt (refine' sld w loose mean mg mb _ _ _ _ _ _ _ _ _ _ _ _ _ _ _ _ _ _ lR lb vR vb nR nb _ ys B1 F11 X1 N11 Tp1 rfl XB TB D1 ?ha ?hb hvR hy ?hlx hly ?hdx law.n2 ?hd ?hu ?_)
        case ha => with_reducible k_mem
        case hb => with_reducible k_mem
        case hlx => exact Nat.lt_of_le_of_lt hl1 hlx
        case hdx => exact law.n1 i
        case hd => exact hd5
        case hu => exact hu5
        intro g2 tS lm lu vm vu nm nu h12 tk12 T12 F12 N12 B12 X12 Tp12 D12 hvm hvu fm fu
        rw [law.d1 i] at hvm
        rw [law.d2 i] at hvu
        k_lt fm
        have fu := ltN fu
        clear F11 N11
        have hvml := hvm.length
        k_steps
        unfold Stop
        refine LCt.ListComp_T (by assumption) (by with_unfolding_all rfl) (by decide) (by rfl) (by decide) (by rfl) ?_
        k_steps
        unfold Stop
        refine LCt.CompSrcT.ledger (its := vb.toArray) (k := nb) rfl (by assumption) (by assumption) (by with_reducible k_mem) (by rw [List.size_toArray, sizeLine_eq]; omega) ?_
        intro gg
        refine restT_pure (fun k => !decide (ys.getD k 0 ∈ pickOf xs (endsOf xs) (fun e => decide (e = 1 + (i : Int))))) (fun k => ys.getD k 0) (Or.inr ⟨_, by with_reducible k_mem, rfl, _, rfl⟩) ?turn3 ?elts3 ?fin3
        case turn3 =>
          intro k v I2 oI2 C oC D ys7 m₂ h4 tk4 E' hk' hP hC hm₂ F4 N4 off ne
          obtain ⟨t7, rfl⟩ := ints_getD hy (i := k) (v := v) (by simpa using hP)
          k_steps
          all_goals first | exact Same.intro (by assumption) (by assumption) | exact any_eq_mem _ _
        case elts3 =>
          intro k v I2 oI2 C oC D ys7 m₂ h4 tk4 E' hk' hpk hP hC hm₂ F4 N4 off ne
          obtain ⟨t7, rfl⟩ := ints_getD hy (i := k) (v := v) (by simpa using hP)
          k_steps
          exact Same.intro (by assumption) (by assumption)
        case fin3 =>
          intro ys6 hys6
          intro D6 h13 tk13 F13 N13 off13
          have e6 : vb.toArray.size = ys.length := by rw [List.size_toArray]; exact hvb
          rw [e6] at hys6
          simp only [LCg.Off1] at off13
          k_steps
          unfold Stop
          rename_i D14 v14 h14 F14 N14 hI14 hC14 hL14 l14
          have N15 := fun q hq => N14 q ((by lcg_sub : ∀ p ∈ (D14, listOf v14.toArray 0) :: (lR, listOf vR.toArray nR) :: (lm, listOf vm.toArray nm) :: (D8, LCg.lst ys8) :: (I, oI) :: (tE, listOf vE.toArray nE) :: (L' + 1 + 1, oG2) :: (L' + 1, oT2) :: news, p ∈ _) q hq)
          have hlRD8 := off9.2.1
          clear N14; (try clear N13); (try clear N12)
          k_dflt (refine' uld w loose mean mg mb _ _ _ _ _ _ _ _ _ _ _ _ _ _ _ _ _ _ D14 lR v14 vR 0 nR _ _ B12 F14 X12 N15 Tp12 rfl ?hab ?hfa ?hfb hI14 hvR ?hlx ?hly (law.nd i) (law.sub i) ?hd ?hu ?_)
          case hab => exact Ne.symm (Nat.ne_of_lt l14.2.2.2.2.2.2.2.1)
          case hfa => exact List.forall_mem_cons.mpr ⟨Nat.ne_of_lt l14.2.2.2.1, List.forall_mem_cons.mpr ⟨Nat.ne_of_lt l14.2.2.2.2.2.1, List.forall_mem_cons.mpr ⟨Nat.ne_of_lt l14.2.2.2.2.2.2.1, List.forall_mem_cons.mpr ⟨Nat.ne_of_lt l14.2.2.2.2.2.2.2.2.1, List.forall_mem_cons.mpr ⟨Nat.ne_of_lt l14.2.2.2.2.2.2.2.2.2.1, List.forall_mem_cons.mpr ⟨Nat.ne_of_lt l14.2.2.2.2.2.2.2.2.2.2.1, ne_of_allLt (allLt_out l14.2.2.2.2.2.2.2.2.2.2.2)⟩⟩⟩⟩⟩⟩
          case hfb => exact List.forall_mem_cons.mpr ⟨Ne.symm (Nat.ne_of_lt fm.2.2.2.1), List.forall_mem_cons.mpr ⟨Ne.symm (Nat.ne_of_lt off9.2.1), List.forall_mem_cons.mpr ⟨Ne.symm f3, List.forall_mem_cons.mpr ⟨Nat.ne_of_lt f1, List.forall_mem_cons.mpr ⟨Nat.ne_of_lt (Nat.lt_trans fE.1 f1), List.forall_mem_cons.mpr ⟨Nat.ne_of_lt (Nat.lt_trans fE.2.1 f1), ne_of_allLt (allLt_out f2)⟩⟩⟩⟩⟩⟩
          case hlx => exact Nat.lt_of_le_of_lt hl2 hlx
          case hly => exact Nat.lt_of_le_of_lt hl1 hlx
          case hd => exact hd5
          case hu => exact hu5
          intro tU lm2 na2 vR2 nR2 h16 tk16 F16 N16 hvR2
          rw [law.u1 i] at hvR2
          k_steps
          rename_i h20 F20 N20
          subst hoI
          have F21 := fr_kst [(Str.ofString "row", Value.ref la), (Str.ofString "ladder", .ref lb), (Str.ofString "ends", .ref tE), (Str.ofString "rest", .ref lm)] F20 (by kst_all)
          unfold Halt
          refine ⟨g2, _, _, _, lm, vm, nm, oG2, oT2, _, _, rfl, T1.trans T12, F21, ?_, B12, X12, Tp12, D12, (pick_next xs _ i).symm ▸ hvm, dG, dT, fm.2.2.2.2.1, fm.2.2.2.2.2.2.2, Ne.symm (Nat.ne_of_lt fm.2.2.1)⟩
          exact fun q hq => N20 q ((by lcg_sub : ∀ p ∈ (I, rIt (1 + ((i + 1 : Nat) : Nat) * 1) (((nM + 1 : Nat) : Int) - ((i + 1 : Nat) : Nat))) :: (lm, listOf vm.toArray nm) :: (tE, listOf vE.toArray nE) :: (L' + 1 + 1, oG2) :: (L' + 1, oT2) :: news, p ∈ _) q hq)
  case done =>
    intro s' h₁ tk₁ hJ1 hk
    unfold Halt at hJ1
    obtain ⟨g1, h', tk', u, lR, vR, nR, oG, oT, cG, cT, rfl, T1, F1, N1, B1, X1, Tp1, D1, hvR, hcG, hcT, f1, f2, f3⟩ := hJ1
    have F2 := fr_iter F1 N1 hk
    have N2 : News g1 L' h₁ news := fun q hq => ⟨hk _ _ (ne_of_allLt (allLt_out hI1.2.2.2.2) q hq) (N1 q ((by lcg_sub : ∀ p ∈ news, p ∈ _) q hq)).1, (N1 q ((by lcg_sub : ∀ p ∈ news, p ∈ _) q hq)).2⟩
    clear hF7 N6 N1 F1
    k_steps
    obtain ⟨h₀', a1, a2, a3, a4, a5, a6, a7⟩ := back _ _ _ _ _ T1 F2 N2
    exact hret h₀' _ _ a1 a2 a3 a4 a5 a6 a7
local macro_rules | `(tactic| walk_at "call ref") => `(tactic| (refine stop_here ?_))
local macro_rules | `(tactic| walk_at "eval ListComp") => `(tactic| (refine stop_here ?_))
local macro_rules | `(tactic| walk_at "exec Assign cons ListComp") => `(tactic| (refine stop_here ?_))
local macro_rules | `(tactic| walk_at "CompSrcT") => `(tactic| (refine stop_here ?_))
local macro_rules | `(tactic| walk_at "CompSrc") => `(tactic| (refine stop_here ?_))
local macro_rules | `(tactic| walk_at "exec For Name Name cons nil") => `(tactic| (refine stop_here ?_))
local macro_rules | `(tactic| walk_at "subscriptTail Name Slice ref ref") => `(tactic| (k_here; (with_reducible show wpAny _ _ (subscriptTail _ (PySem.Expr.Slice (some _) none (some _) _) (Value.ref _) (Value.ref _)) _ _ _); k_dflt (refine' slice3_led ?F ?N ?l ?i ?m ?_ ?s ?t ?z; (case F => k_asm); (case N => k_asm); (case l => is_list); (case i => assumption); (case m => decide); (case s => with_unfolding_all rfl); (case t => kmk_pure); (case z => omega)); intro D' ws' h' F' N' hI'))
local macro_rules | `(tactic| walk_at "call builtin:sum") => `(tactic| (k_here; (with_reducible show wpAny _ _ (call (Value.builtin "sum") [Value.ref _]) _ _ _); (with_unfolding_all refine' sumK ?k0 ?k1 ?k2 ?k3 ?k4 ?_; (case k0 => with_unfolding_all rfl); (case k1 => k_asm); (case k2 => k_asm); (case k3 => exact News.isList (by k_asm) (by k_mem)); (case k4 => assumption)); intro h' tk' t' F' N'))
local macro_rules | `(tactic| walk_at "call builtin:sorted") => `(tactic| (k_here; (with_reducible show wpAny _ _ (call (Value.builtin "sorted") [Value.ref _]) _ _ _); (with_unfolding_all refine' kso_sorted ?k1 ?k2 ?k3 ?k4 ?k5 ?_; (case k1 => k_asm); (case k2 => k_asm); (case k3 => exact News.isList (by k_asm) (by k_mem)); (case k4 => assumption); (case k5 => first | omega | ((try rw [List.length_append]); omega))); intro D' vs' ns' c' h' F' N' l1 hi' hl' hp' ho' hf'; (try k_lt l1)))
theorem law_holds : PySem.Challenge.rw_sr0101_01.Holds := hd (by
  k_go0
  rename_i w0 s0 s1 mg mb G9 Y9 fa9 o9 pm9 doc9 ho9 hg9 KX X9 V9 GL9 T9 B9 TE9 TW9 wa9 wb9 M9 wc9 wd9 hcd9 nS hs hlay0 hL1 hr1 hl2 a5 a4 lS vS as1 hLs raS wS rS hIs hrS hlen hT K0 hDf h1 tk1 F0 oS dS N0 X0
  replace dS : oS.data = .cell (some (.ref lS)) := dS
  clear hT hDf X0 rS wS raS hrS hL1 hr1 hl2 hlay0 hs
  have hlS := hIs.length
  k_steps
  unfold Stop
  refine LCg.Assign_ListComp_U (F₀ := F0) (by rfl) (by with_unfolding_all rfl) (by with_unfolding_all rfl) (by decide) (by rfl) (by decide) (by rfl) (by rfl) (by rfl) ?_
  k_steps
  unfold Stop
  rename_i F1 N1 tk2 t1 u1 v1 hRng F2 N2 keep2
  rw [min_if] at hRng
  refine LCg.CompSrc.range (n := min nS.length 10) (by rfl) F2 N2 hRng (range_small (by omega) (by omega) (by omega) (by omega)) (range0_size _) (by rw [sizeLine_eq]; omega) ?_
  intro gg
  refine rest_pure (fun k => (pickNums nS (some (k : Int)) none (some 10)).sum) trivial ?elts ?fin
  case elts =>
    intro k v I oI C oC D ys m₂ h3 tk3 E' hk' hP hC hm₂ F3 N3 off ne
    obtain ⟨t3, rfl⟩ := hP
    rw [Int.zero_add] at hm₂
    k_steps
    rename_i h7 tk7 t7 F7 N7
    exact Same.intro F7 (fun q hq => N7 q (List.mem_cons_of_mem _ hq))
  case fin =>
    intro ys hys
    intro D h5 tk5 F5 N5 off5
    have hdl : ((List.range (min nS.length 10)).map (fun k : Nat => (pickNums nS (some (k : Int)) none (some 10)).sum)).length ≤ 10 := by rw [List.length_map, List.length_range]; omega
    generalize (List.range (min nS.length 10)).map (fun k : Nat => (pickNums nS (some (k : Int)) none (some 10)).sum) = ds at hys hdl
    clear F2 keep2 hRng
    k_steps
    unfold Stop
    rename_i lr ha lrl lbt hb lbl D9 hc ltl hd1 he hf F6 N6
    clear ltl off5
    refine For_turns F6 ?_
    k_steps
    have N6' := fun q hq => N6 q (List.mem_cons_of_mem _ hq)
    clear N6
    refine iter_listTurns (lo := LCg.lst ys) (vs := ys) (n := ys.length) rfl F6 N6' (by k_mem) rfl rfl ?_
    intro I lI
    k_lt lI
    have hysl := hys.length
    refine items_ind (fun i m' n' => Halt (∃ u vr nr rs vb nb bs, m' = kstB u [(Str.ofString "row", Value.ref lr), (Str.ofString "between", .ref lbt)] ∧ n' = (lbt, listOf (List.toArray vb) nb) :: (lr, listOf (List.toArray vr) nr) :: (D, LCg.lst ys) :: [(s1.heap.objs.size + 1, oS)] ∧ IntsAre vr rs ∧ IntsAre vb bs ∧ RInv rs bs ∧ rs.length ≤ i ∧ bs.length ≤ i)) (ys.map Itm.val) ?zero ?step _ 0 (Nat.zero_add _) _ _ ?init
    case init =>
      unfold Halt
      exact ⟨_, [], 0, [], [], 0, [], kst_self _ (by kst_all), rfl, .nil, .nil, RInv.nil, Nat.le_refl _, Nat.le_refl _⟩
    case zero =>
      clear N6' F6
      intro m' n' hI1 h8 tk8 F8 N8
      unfold Halt at hI1
      obtain ⟨u, vr, nr, rs, vb, nb, bs, rfl, rfl, hvr, hvb, hR, hl1, hl2⟩ := hI1
      rw [List.length_map] at hl1 hl2
      dsimp only [kstB] at F8
      have hvrl := hvr.length
      have hvbl := hvb.length
      k_steps
      unfold Stop
      rename_i Dw ws1 hw Fw Nw hIw lw lL vL nsL cL hx1 FX NX hiL hlL hpL hoL hfL l1L h12 F12 N12
      clear FX NX Fw Nw hfL
      have hjn := hR.joint
      have hndL : nsL.Nodup := hpL.nodup_iff.mpr hjn
      have hstL := strict_of hoL hndL
      rw [List.length_append] at hlL
      have hlaw : RLaw rs nsL := rlaw_of hR.nd hstL (fun x hx => hpL.mem_iff.mpr (List.mem_append_left _ hx)) (by omega)
      k_dflt (refine' rh w0 _ _ _ _ _ _ _ _ _ _ _ _ _ _ _ _ _ _ _ _ _ _ lr lL vr vL nr cL rs nsL K0 F12 KX N12 T9 rfl KX T9 ktsDicts_nil ?ha ?hb hvr hiL ?hlx ?hly hlaw ?hd ?hu ?_)
      case ha => k_mem
      case hb => k_mem
      case hlx => omega
      case hly => omega
      case hd => decide +kernel
      case hu => decide +kernel
      intro g2 h13 tk13 KT F13 N13 _ _ _ _
      obtain ⟨F14, N14⟩ := turn_nil KT F13 N13
      clear F13 N13 F12 N12 KT
      k_steps
      unfold Stop
      refine LCg.ListComp_U (F₀ := by k_asm) (by with_unfolding_all rfl) (by decide) (by rfl) (by decide) (by rfl) ?_
      k_steps
      unfold Stop
      refine LCg.CompSrc.ledger (its := vr.toArray) (k := nr) rfl (by assumption) (by assumption) (by k_mem) (by rw [List.size_toArray, sizeLine_eq]; omega) ?_
      intro gg2
      refine rest_pure (fun k => -(rs.getD k 0)) (Or.inr ⟨_, by k_mem, rfl, _, rfl⟩) ?elts2 ?fin2
      case elts2 =>
        intro k v I2 oI2 C oC D2 ys7 m₂ h4 tk4 E' hk' hP hC hm₂ F4 N4 off ne
        obtain ⟨t7, rfl⟩ := ints_getD hvr (i := k) (v := v) (by simpa using hP)
        k_steps
        exact Same.intro (by assumption) (by assumption)
      case fin2 =>
        intro ys6 hys6
        intro D6 h15 tk15 F15 N15 off15
        rw [show vr.toArray.size = rs.length by rw [List.size_toArray]; exact hvrl, neg_range] at hys6
        simp only [LCg.Off1] at off15
        clear F14 N14
        k_steps
        unfold Stop
        refine LCg.ListComp_U (F₀ := by k_asm) (by with_unfolding_all rfl) (by decide) (by rfl) (by decide) (by rfl) ?_
        k_steps
        unfold Stop
        refine LCg.CompSrc.ledger (its := vL.toArray) (k := cL) rfl (by assumption) (by assumption) (by k_mem) (by rw [List.size_toArray, sizeLine_eq, hiL.length]; omega) ?_
        intro gg3
        refine rest_pure (fun k => -(nsL.getD k 0)) (Or.inr ⟨_, by k_mem, rfl, _, rfl⟩) ?elts3 ?fin3
        case elts3 =>
          intro k v I2 oI2 C oC D2 ys7 m₂ h4 tk4 E' hk' hP hC hm₂ F4 N4 off ne
          obtain ⟨t7, rfl⟩ := ints_getD hiL (i := k) (v := v) (by simpa using hP)
          k_steps
          exact Same.intro (by assumption) (by assumption)
        case fin3 =>
          intro ys5 hys5
          intro D5 h16 tk16 F16 N16 off16
          rw [show vL.toArray.size = nsL.length by rw [List.size_toArray]; exact hiL.length, neg_range] at hys5
          have hn6 : (rs.map (fun x => -x)).length = rs.length := List.length_map _
          have hn5 : (nsL.map (fun x => -x)).length = nsL.length := List.length_map _
          simp only [LCg.Off1] at off16
          clear F15 N15
          k_steps
          unfold Stop
          rename_i lM vM nsM cM hx3 FX NX hiM hlM hpM hoM hfM l1M
          clear hfM
          have hndM : nsM.Nodup := hpM.nodup_iff.mpr (nodup_neg hndL)
          have hstM := strict_of hoM hndM
          have hlaw2 : RLaw (rs.map (fun x => -x)) nsM := rlaw_of (nodup_neg hR.nd) hstM (fun x hx => hpM.mem_iff.mpr (by
            obtain ⟨y, hy, e⟩ := List.mem_map.mp hx
            exact List.mem_map.mpr ⟨y, hpL.mem_iff.mpr (List.mem_append_left _ hy), e⟩)) (by omega)
          k_dflt (refine' rh w0 _ _ _ _ _ _ _ _ _ _ _ _ _ _ _ _ _ _ _ _ _ _ D6 lM ys6 vM _ cM _ nsM K0 FX KX NX T9 rfl KX T9 ktsDicts_nil ?ha ?hb hys6 hiM ?hlx ?hly hlaw2 ?hd ?hu ?_)
          case ha => k_mem
          case hb => k_mem
          case hlx => omega
          case hly => omega
          case hd => decide +kernel
          case hu => decide +kernel
          intro g3 h17 tk17 KT F17 N17 _ _ _ _
          obtain ⟨F18, N18⟩ := turn_nil KT F17 N17
          clear F17 N17 KT
          k_steps
    case step =>
      intro i a m' n' ha hI1 v h8 tk8 hav F8
      unfold Halt at hI1
      obtain ⟨u, vr, nr, rs, vb, nb, bs, rfl, rfl, hvr, hvb, hR, hl1, hl2⟩ := hI1
      obtain ⟨v, hv, rfl⟩ := valItems_at ha
      obtain ⟨t9, rfl⟩ := ints_getD hys hv
      have hi : i < ys.length := (List.getElem?_eq_some_iff.mp hv).1
      cases hav
      refine AllObj.cons fun o1 hc1 => AllObj.nil fun N8 => ?_
      dsimp only [List.cons_append, List.nil_append] at N8 hc1
      dsimp only [kstB] at F8
      have hvrl := hvr.length
      have hvbl := hvb.length
      have hv0 : IntsAre vr rs ∧ IntsAre vb bs := ⟨hvr, hvb⟩
      k_steps
      · unfold Halt
        exact ⟨_, vr, nr, rs, vb, nb, bs, kst_self _ (by kst_all), rfl, hv0.1, hv0.2, hR, Nat.le_succ_of_le hl1, Nat.le_succ_of_le hl2⟩
      · have hx : (ds.getD i 0).fmod 50 * 2 ∉ rs := notmem_any (by assumption)
        unfold Halt
        refine ⟨_, _, _, rs ++ [(ds.getD i 0).fmod 50 * 2], _, _, bs ++ [(ds.getD i 0).fmod 50 * 2 + 1], kst_self _ (by kst_all), rfl, hv0.1.append (.cons _ _ .nil), hv0.2.append (.cons _ _ .nil), hR.both hx (by omega), ?_, ?_⟩
        · rw [List.length_append]; exact Nat.succ_le_succ hl1
        · rw [List.length_append]; exact Nat.succ_le_succ hl2
      · have hx : (ds.getD i 0).fmod 50 * 2 ∉ rs := notmem_any (by assumption)
        unfold Halt
        refine ⟨_, _, _, rs ++ [(ds.getD i 0).fmod 50 * 2], vb, nb, bs, kst_self _ (by kst_all), rfl, hv0.1.append (.cons _ _ .nil), hv0.2, hR.row hx (by omega), ?_, Nat.le_succ_of_le hl2⟩
        rw [List.length_append]; exact Nat.succ_le_succ hl1)
end Mine
theorem PySem.Challenge.cw_sr0101_01_holds : PySem.Challenge.rw_sr0101_01.Holds :=
  Mine.law_holds
