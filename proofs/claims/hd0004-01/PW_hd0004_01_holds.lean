import PyProof.Rows.All
import Wide.All
import OpenK.AllK
import Wide.FinOn
import PySem.Challenge.RW_hd0004_01
set_option Elab.async false

section
open PySem PySem.W PyProof.Rows
set_option Elab.async false
set_option maxRecDepth 100000
set_option maxHeartbeats 8000000
namespace Mine
open_top hd for PySem.Challenge.rw_hd0004_01
end Mine
end
theorem Mine.off_HdA : True := by
  w_top off
  trivial

section
open PySem PySem.W PySem.Calls PyProof.Rows
set_option Elab.async false
set_option maxRecDepth 100000
namespace Mine

/-- the flow's value -/
def retV : Flow → Value
  | .ret v => v
  | _ => .none
@[simp] theorem retV_ret (v : Value) : retV (.ret v) = v := rfl
@[simp] theorem retV_next : retV .next = .none := rfl

abbrev SA (env : Env) (outer : List Env) : Around := { handled := none, depth := 600, frames := some (env :: outer), guards := some [], units := 500 }

structure AGood (A : Around) (env : Env) (outer : List Env) : Prop where
  hd : A.handled = none
  fr : A.frames = some (env :: outer)
  gd : A.guards = some []
  dp : A.depth ≤ 600
  un : A.units ≤ 500

theorem up {α : Type} {M : Model} {A : Around} {env : Env} {outer : List Env} {t : Sem α} {Q : α → Shared → Prop} {E : Value → Shared → Prop} {s : Shared} (g : AGood A env outer)
    (h : wpAny M (SA env outer) t Q E s) : wpAny M A t Q E s := fun Γ p hΓ =>
  h Γ p ⟨hΓ.1.trans g.hd, Nat.le_trans hΓ.2.1 g.dp, fun l hl => hΓ.2.2.1 l (g.fr.trans hl), fun l hl => hΓ.2.2.2.1 l (g.gd.trans hl), Nat.le_trans hΓ.2.2.2.2 g.un⟩

abbrev SN (d u : Nat) (env : Env) (outer : List Env) : Around := { handled := none, depth := d, frames := some (env :: outer), guards := some [], units := u }
theorem upN {α : Type} {M : Model} {A : Around} {env : Env} {outer : List Env} {t : Sem α} {Q : α → Shared → Prop} {E : Value → Shared → Prop} {s : Shared} (d u : Nat) (h1 : A.handled = none) (h2 : A.frames = some (env :: outer)) (h3 : A.guards = some []) (h4 : A.depth ≤ d) (h5 : A.units ≤ u)
    (h : wpAny M (SN d u env outer) t Q E s) : wpAny M A t Q E s := fun Γ p hΓ =>
  h Γ p ⟨hΓ.1.trans h1, Nat.le_trans hΓ.2.1 h4, fun l hl => hΓ.2.2.1 l (h2.trans hl), fun l hl => hΓ.2.2.2.1 l (h3.trans hl), Nat.le_trans hΓ.2.2.2.2 h5⟩

section
variable {prog : Program} {w : World} {A A₀ : Around} {E : Value → Shared → Prop} {s : Shared} {K : Frag} {L : Addr} {h₀ base : Heap} {m mg mb : Str → Option Value} {p : Program} {loose : List Str} {mean : ExcName → Option Value} {env : Env} {outer : List Env}

theorem below_at (B : Below A₀ base outer h₀) (F : Fr h₀ L s.heap m) (hA : A.frames = some (env :: outer)) (hf : env.frame = some L) (hke : env.scope.kind = .function) : Below A base (env :: outer) s.heap :=
  have B₁ := pushX (env := env) B F hf hke
  ⟨hA, B₁.stays, B₁.frames⟩

/-- a call whose callee stores into none of the caller's objects: the caller's whole heap is its ground -/
theorem callP {Q : Value → Shared → Prop} {name qual : Str} {params : Arguments} {body : List Stmt} {scope : Scope} {dV kV doc pm cdv ct oc : Value} {an od : Option Addr} {osl : Array (Option Value)} {f : Addr} {args : List Value} {kw : List (Str × Value)} {binds : List (Str × Value)}
    (B : Below A base (env :: outer) s.heap) (X : K.In s.heap) (T : Top p loose mean mg mb s.heap)
    (ho : K.lookup f = some ⟨oc, od, .func (fnOf name qual params body scope dV kV doc pm an cdv ct), osl⟩) (hcd : codeIn K cdv qual = true) (hroom : A.depth < recursionLimit)
    (hbind : BindsTo s (fnOf name qual params body scope dV kV doc pm an cdv ct) ⟨args, kw⟩ binds) (hloc : ∀ y ∈ binds, scope.names.lookup y.1 = some .local)
    (h : ∀ L' h₁, Fr s.heap L' h₁ (fun y => binds.reverse.lookup y) → News s.heap L' h₁ [] →
      wpAny (model prog w) (A.deeper (envOf qual scope L' f cdv)) (execs body (envOf qual scope L' f cdv))
        (fun fl s' => Q (retV fl) s') (fun _ _ => False) { s with heap := h₁, toks := s.toks + binds.length })
    (hco : scope.isCoroutine = false) (hgen : scope.isGenerator = false) (hk : scope.kind = .function)
    (hcell : ∀ x ∈ scope.names, x.2 ≠ .cell) : wpAny (model prog w) A (call (.ref f) args kw) Q E s := by
  refine wpAny_call ?_
  refine codeAny_call_def (fd := fnOf name qual params body scope dV kV doc pm an cdv ct) (body := body) (binds := binds) hroom (X _ _ ho) rfl T.nolimit (codeRec_of X hcd) rfl hbind hcell hloc (fun h₁ hns hk₁ => ?_) hco hgen hk
  exact wpAny_mono (h s.heap.objs.size h₁ ⟨hns, hk₁, Nat.le_refl _⟩ News.nil) (fun fl s' hl => by cases fl <;> exact hl) fun _ _ y => y.elim

theorem callPC {Q : Value → Shared → Prop} {name qual : Str} {params : Arguments} {body : List Stmt} {scope : Scope} {dV kV doc pm cdv ct oc : Value} {an od : Option Addr} {osl : Array (Option Value)} {f : Addr} {args : List Value} {kw : List (Str × Value)} {binds : List (Str × Value)}
    (B : Below A base (env :: outer) s.heap) (X : K.In s.heap) (T : Top p loose mean mg mb s.heap)
    (ho : K.lookup f = some ⟨oc, od, .func (fnOf name qual params body scope dV kV doc pm an cdv ct), osl⟩) (hcd : codeIn K cdv qual = true) (hroom : A.depth < recursionLimit)
    (hbind : BindsTo s (fnOf name qual params body scope dV kV doc pm an cdv ct) ⟨args, kw⟩ binds) (hkind : (binds.all fun y => scope.names.lookup y.1 == some .local || scope.names.lookup y.1 == some .cell) = true)
    (hnd : ((cellsFrom 0 scope.names []).map (·.1)).Nodup)
    (h : ∀ L' h₁ tk cells, Fr s.heap L' h₁ (bindL (envOfC qual scope L' f cdv).kindOf binds fun _ => none) → News s.heap L' h₁ cells →
      CellsAre (bindC (envOfC qual scope L' f cdv).kindOf binds fun _ => none) (cellsFrom (L' + 1) scope.names []) cells →
      wpAny (model prog w) (A.deeper (envOfC qual scope L' f cdv)) (execs body (envOfC qual scope L' f cdv))
        (fun fl s' => Q (retV fl) s') (fun _ _ => False) { s with heap := h₁, toks := tk })
    (hco : scope.isCoroutine = false) (hgen : scope.isGenerator = false) (hk : scope.kind = .function) : wpAny (model prog w) A (call (.ref f) args kw) Q E s := by
  refine wpAny_call ?_
  refine codeAny_call_function hroom (X _ _ ho) rfl hco hgen rfl (codeRec_of X hcd) (hbind _ _ _ _ ?_)
  refine wpAny_newFunctionEnv_cells hk (kindsX hkind _) fun env' he s' x => ?_
  subst he
  refine ⟨T.nolimit.keeps x.toInCall.keep, codeAny_func ?_⟩
  obtain ⟨h₁, tk, rfl, _⟩ := x.done
  have hk₁ := x.toInCall.keep
  obtain ⟨cells, NC, Y⟩ := Cl.news (h₀ := s.heap) (Nat.le_refl _) fun n c hm => ⟨x.cell n c (lookup_of_mem_nodup (cellsFrom_names scope.names 0 (s.heap.objs.size + 1) [] [] rfl ▸ hnd) hm), x.above n c hm⟩
  exact wpAny_mono (h s.heap.objs.size h₁ tk cells ⟨x.toInCall.ns, hk₁, Nat.le_refl _⟩ NC Y) (fun fl s' hl => by cases fl <;> exact hl) fun _ _ y => y.elim

theorem upd_ext {h h' : Heap} {m : Str → Option Value} {D : Addr} {o o' : Obj} {news news' : List (Addr × Obj)} (F : Fr h₀ L h m) (N : News h₀ L h news) (U : Upd D o o' news news')
    (hk : ∀ b x, b ≠ D → h.get? b = some x → h'.get? b = some x) (hD : h'.get? D = some o') : Fr h₀ L h' m ∧ News h₀ L h' news' := by
  obtain ⟨pre, post, rfl, rfl, h1, h2⟩ := U.split
  have z := N (D, o) (List.mem_append_right _ (.head _))
  refine ⟨⟨F.ns.at' fun x e => hk _ x (Ne.symm z.2.1) e, fun b x e => hk b x (fun q => ?_) (F.keep b x e), F.above⟩, fun p hp => ?_⟩
  · have z2 := z.2.2
    rw [q] at e
    rw [z2] at e
    cases e
  · rcases List.mem_append.mp hp with hp | hp
    · exact ⟨hk _ _ (h1 p hp) (N p (List.mem_append_left _ hp)).1, (N p (List.mem_append_left _ hp)).2⟩
    · rcases List.mem_cons.mp hp with rfl | hp
      · exact ⟨hD, z.2⟩
      · have y := N p (List.mem_append_right _ (.tail _ hp))
        exact ⟨hk _ _ (h2 p hp) y.1, y.2⟩

theorem fr_tab {h h' : Heap} {m : Str → Option Value} {tl : List (Addr × Obj)} (F : Fr h₀ L h m) (N : News h₀ L h tl) (hk : ∀ b x, b ∉ tl.map (·.1) → h.get? b = some x → h'.get? b = some x) : Fr h₀ L h' m := by
  have off : ∀ b, b ∈ tl.map (·.1) → b ≠ L ∧ h₀.get? b = none := fun b hb => by
    obtain ⟨q, hq, rfl⟩ := List.mem_map.mp hb
    exact (N q hq).2
  exact ⟨F.ns.at' fun x e => hk _ x (fun hm => (off _ hm).1 rfl) e, fun b x e => hk b x (fun hm => by rw [(off _ hm).2] at e; cases e) (F.keep b x e), F.above⟩
theorem news_fresh {h h' : Heap} {m : Str → Option Value} {b : Addr} {o : Obj} (F : Fr h₀ L h m) (hf : h.get? b = none) (hg : h'.get? b = some o) : h'.get? b = some o ∧ b ≠ L ∧ h₀.get? b = none := by
  refine ⟨hg, fun q => ?_, ?_⟩
  · obtain ⟨x, _, _, e, _⟩ := F.ns
    rw [q, e] at hf; cases hf
  · cases e : h₀.get? b with
    | none => rfl
    | some x => rw [F.keep b x e] at hf; cases hf
theorem news_tab {h h' : Heap} {m : Str → Option Value} {tl tl' : List (Addr × Obj)} (F : Fr h₀ L h m) (N : News h₀ L h tl) (hg : ∀ q ∈ tl', h'.get? q.1 = some q.2) (hf : ∀ q ∈ tl', q.1 ∈ tl.map (·.1) ∨ h.get? q.1 = none) : News h₀ L h' tl' := fun q hq => by
  rcases hf q hq with hm | hn
  · obtain ⟨r, hr, e⟩ := List.mem_map.mp hm
    have e' : r.1 = q.1 := e
    exact ⟨hg q hq, e' ▸ (N r hr).2⟩
  · exact news_fresh F hn (hg q hq)
theorem news_off {h h' : Heap} {pre tl : List (Addr × Obj)} (N : News h₀ L h pre) (hk : ∀ b x, b ∉ tl.map (·.1) → h.get? b = some x → h'.get? b = some x) (hs : ∀ p ∈ pre, ∀ q ∈ tl, p.1 ≠ q.1) : News h₀ L h' pre := fun p hp =>
  ⟨hk _ _ (fun hm => by obtain ⟨q, hq, e⟩ := List.mem_map.mp hm; exact hs p hp q hq e.symm) (N p hp).1, (N p hp).2⟩
theorem sep_tab {h : Heap} {pre tl tl' : List (Addr × Obj)} (N : News h₀ L h pre) (hs : ∀ p ∈ pre, ∀ q ∈ tl, p.1 ≠ q.1) (hf : ∀ q ∈ tl', q.1 ∈ tl.map (·.1) ∨ h.get? q.1 = none) : ∀ p ∈ pre, ∀ q ∈ tl', p.1 ≠ q.1 := fun p hp q hq e => by
  rcases hf q hq with hm | hn
  · obtain ⟨r, hr, e2⟩ := List.mem_map.mp hm
    exact hs p hp r hr (e.trans e2.symm)
  · rw [← e, (N p hp).1] at hn; cases hn

/-- the callee may store into the ledger's objects: they are hidden from its ground -/
def HideEnd (h : Heap) (news : List (Addr × Obj)) (g : Heap) (Q : Value → Shared → Prop) (fl : Flow) (s' : Shared) : Prop :=
  ∃ L' m' news', Fr g L' s'.heap m' ∧ News g L' s'.heap news' ∧ ((∀ b o, b ∉ news.map (·.1) → h.get? b = some o → s'.heap.get? b = some o) → Q (retV fl) s')

theorem callH {Q : Value → Shared → Prop} {news : List (Addr × Obj)} {name qual : Str} {params : Arguments} {body : List Stmt} {scope : Scope} {dV kV doc pm cdv ct oc : Value} {an od : Option Addr} {osl : Array (Option Value)} {f : Addr} {args : List Value} {kw : List (Str × Value)} {binds : List (Str × Value)}
    (B : Below A₀ base outer h₀) (F : Fr h₀ L s.heap m) (N : News h₀ L s.heap news) (X₀ : K.In h₀) (T : Top p loose mean mg mb h₀) (hA : A.frames = some (env :: outer)) (hf : env.frame = some L) (hke : env.scope.kind = .function)
    (ho : K.lookup f = some ⟨oc, od, .func (fnOf name qual params body scope dV kV doc pm an cdv ct), osl⟩) (hcd : codeIn K cdv qual = true) (hroom : A.depth < recursionLimit)
    (hbind : BindsTo s (fnOf name qual params body scope dV kV doc pm an cdv ct) ⟨args, kw⟩ binds) (hloc : ∀ y ∈ binds, scope.names.lookup y.1 = some .local)
    (h : ∀ g L' h₁, h₀.StaysIn g → (∀ b o, b ∉ news.map (·.1) → s.heap.get? b = some o → g.get? b = some o) → (∀ b, g.get? b = none → b ∉ news.map (·.1) → s.heap.get? b = none) →
      Fr g L' h₁ (fun y => binds.reverse.lookup y) → News g L' h₁ news → Below A base (env :: outer) g → K.In g → Top p loose mean mg mb g → (∀ p ∈ news, p.1 < L') →
      wpAny (model prog w) (A.deeper (envOf qual scope L' f cdv)) (execs body (envOf qual scope L' f cdv))
        (HideEnd s.heap news g Q) (fun _ _ => False) { s with heap := h₁, toks := s.toks + binds.length })
    (hco : scope.isCoroutine = false) (hgen : scope.isGenerator = false) (hk : scope.kind = .function)
    (hcell : ∀ x ∈ scope.names, x.2 ≠ .cell) : wpAny (model prog w) A (call (.ref f) args kw) Q E s := by
  obtain ⟨_, BG, st, _⟩ := groundX (R := fun _ _ => True) (A := A) B F N hA hf hke
  refine wpAny_call ?_
  refine codeAny_call_def (fd := fnOf name qual params body scope dV kV doc pm an cdv ct) (body := body) (binds := binds) hroom (X₀.keeps F.keep _ _ ho) rfl (T.nolimit.keeps F.keep) (codeRec_of (X₀.keeps F.keep) hcd) rfl hbind hcell hloc (fun h₁ hns hk₁ => ?_) hco hgen hk
  refine wpAny_mono (h _ s.heap.objs.size h₁ st (fun b o hb e => hideAll_get _ e hb) (fun b e hb => ?_) ⟨hns, fun b o e => hk₁ b o (of_hideAll _ e), Nat.le_of_eq (hideAll_size _ _)⟩
    (fun p hp => ⟨hk₁ _ _ (N p hp).1, Nat.ne_of_lt (Heap.lt_size (N p hp).1), hideAll_none _ (List.mem_map_of_mem hp)⟩) BG (X₀.keeps st) (T.keeps st) (fun p hp => Heap.lt_size (N p hp).1)) (fun fl s' hl => ?_) fun _ _ y => y.elim
  · cases q : s.heap.get? b with
    | none => rfl
    | some o => rw [hideAll_get _ q hb] at e; cases e
  · obtain ⟨L', m', news', F', N', k⟩ := hl
    have key := k fun b o hb e => F'.keep b o (hideAll_get _ e hb)
    cases fl <;> exact key

theorem callHC {Q : Value → Shared → Prop} {news : List (Addr × Obj)} {name qual : Str} {params : Arguments} {body : List Stmt} {scope : Scope} {dV kV doc pm cdv ct oc : Value} {an od : Option Addr} {osl : Array (Option Value)} {f : Addr} {args : List Value} {kw : List (Str × Value)} {binds : List (Str × Value)}
    (B : Below A₀ base outer h₀) (F : Fr h₀ L s.heap m) (N : News h₀ L s.heap news) (X₀ : K.In h₀) (T : Top p loose mean mg mb h₀) (hA : A.frames = some (env :: outer)) (hf : env.frame = some L) (hke : env.scope.kind = .function)
    (ho : K.lookup f = some ⟨oc, od, .func (fnOf name qual params body scope dV kV doc pm an cdv ct), osl⟩) (hcd : codeIn K cdv qual = true) (hroom : A.depth < recursionLimit)
    (hbind : BindsTo s (fnOf name qual params body scope dV kV doc pm an cdv ct) ⟨args, kw⟩ binds) (hkind : (binds.all fun y => scope.names.lookup y.1 == some .local || scope.names.lookup y.1 == some .cell) = true)
    (hnd : ((cellsFrom 0 scope.names []).map (·.1)).Nodup)
    (h : ∀ g L' h₁ tk cells, h₀.StaysIn g → (∀ b o, b ∉ news.map (·.1) → s.heap.get? b = some o → g.get? b = some o) → (∀ b, g.get? b = none → b ∉ news.map (·.1) → s.heap.get? b = none) →
      Fr g L' h₁ (bindL (envOfC qual scope L' f cdv).kindOf binds fun _ => none) → News g L' h₁ (cells ++ news) →
      CellsAre (bindC (envOfC qual scope L' f cdv).kindOf binds fun _ => none) (cellsFrom (L' + 1) scope.names []) cells → Below A base (env :: outer) g → K.In g → Top p loose mean mg mb g → (∀ p ∈ news, p.1 < L') →
      wpAny (model prog w) (A.deeper (envOfC qual scope L' f cdv)) (execs body (envOfC qual scope L' f cdv))
        (HideEnd s.heap news g Q) (fun _ _ => False) { s with heap := h₁, toks := tk })
    (hco : scope.isCoroutine = false) (hgen : scope.isGenerator = false) (hk : scope.kind = .function) : wpAny (model prog w) A (call (.ref f) args kw) Q E s := by
  obtain ⟨_, BG, st, _⟩ := groundX (R := fun _ _ => True) (A := A) B F N hA hf hke
  refine wpAny_call ?_
  refine codeAny_call_function hroom (X₀.keeps F.keep _ _ ho) rfl hco hgen rfl (codeRec_of (X₀.keeps F.keep) hcd) (hbind _ _ _ _ ?_)
  refine wpAny_newFunctionEnv_cells hk (kindsX hkind _) fun env' he s' x => ?_
  subst he
  refine ⟨(T.nolimit.keeps F.keep).keeps x.toInCall.keep, codeAny_func ?_⟩
  obtain ⟨h₁, tk, rfl, _⟩ := x.done
  have hk₁ := x.toInCall.keep
  obtain ⟨cells, NC, Y⟩ := Cl.news (h₀ := s.heap) (Nat.le_refl _) fun n c hm => ⟨x.cell n c (lookup_of_mem_nodup (cellsFrom_names scope.names 0 (s.heap.objs.size + 1) [] [] rfl ▸ hnd) hm), x.above n c hm⟩
  refine wpAny_mono (h _ s.heap.objs.size h₁ tk cells st (fun b o hb e => hideAll_get _ e hb) (fun b e hb => ?_) ⟨x.toInCall.ns, fun b o e => hk₁ b o (of_hideAll _ e), Nat.le_of_eq (hideAll_size _ _)⟩
    (fun p hp => ?_) Y BG (X₀.keeps st) (T.keeps st) (fun p hp => Heap.lt_size (N p hp).1)) (fun fl s' hl => ?_) fun _ _ y => y.elim
  · cases q : s.heap.get? b with
    | none => rfl
    | some o => rw [hideAll_get _ q hb] at e; cases e
  · rcases List.mem_append.mp hp with hp | hp
    · refine ⟨(NC p hp).1, (NC p hp).2.1, ?_⟩
      cases q : (hideAll s.heap (news.map (·.1))).get? p.1 with
      | none => rfl
      | some o => have := of_hideAll _ q; rw [(NC p hp).2.2] at this; cases this
    · exact ⟨hk₁ _ _ (N p hp).1, Nat.ne_of_lt (Heap.lt_size (N p hp).1), hideAll_none _ (List.mem_map_of_mem hp)⟩
  · obtain ⟨L', m', news', F', N', k⟩ := hl
    have key := k fun b o hb e => F'.keep b o (hideAll_get _ e hb)
    cases fl <;> exact key

theorem fr_ext {h h' : Heap} {m : Str → Option Value} (F : Fr h₀ L h m) (st : h.StaysIn h') : Fr h₀ L h' m := ⟨F.ns.keeps st, fun b o e => st b o (F.keep b o e), F.above⟩
theorem news_ext {h h' : Heap} {news : List (Addr × Obj)} (N : News h₀ L h news) (st : h.StaysIn h') : News h₀ L h' news := fun p hp => ⟨st _ _ (N p hp).1, (N p hp).2⟩

theorem item_news {l : Addr} {vs : List Value} {ns : List Int} {c : Nat} {k : Int} {u : Tok} {news : List (Addr × Obj)} {value slice : PySem.Expr} {Q : Value → Shared → Prop} (N : News h₀ L s.heap news) (hm : (l, listOf vs.toArray c) ∈ news) (hi : IntsAre vs ns) (h0 : 0 ≤ k) (h1 : k < (ns.length : Int)) (h2 : ns.length ≤ 1000)
    (h : ∀ t, Q (.int (ns.getD k.toNat 0) t) s)
    (hs : subscripted slice false (.ref l) (.int k u) = operate [.ref l, .int k u] (getItem (.ref l) (.int k u)) := by with_unfolding_all rfl) :
    wpAny (model prog w) A (subscriptTail value slice (.ref l) (.int k u)) Q E s := by
  have hl : s.heap.IsList l vs.toArray := ⟨_, (N _ hm).1, rfl, c, rfl⟩
  have hk : k.toNat < ns.length := by omega
  obtain ⟨t, ht⟩ := hi.get k.toNat (ns.getD k.toNat 0) (by rw [List.getD_eq_getElem?_getD, List.getElem?_eq_getElem hk]; rfl)
  exact tail_any hl.typeIs slot_list_getitem.lookup (wpAny_getItem_list hl h0 (by omega) (by simpa using ht) (h t)) hs

theorem item_val {l : Addr} {us : List Value} {k : Int} {u : Tok} {v : Value} {value slice : PySem.Expr} {Q : Value → Shared → Prop} (hl : s.heap.IsList l us.toArray) (h0 : 0 ≤ k) (h1 : k < 1000) (hx : us[k.toNat]? = some v) (h : Q v s)
    (hs : subscripted slice false (.ref l) (.int k u) = operate [.ref l, .int k u] (getItem (.ref l) (.int k u)) := by with_unfolding_all rfl) :
    wpAny (model prog w) A (subscriptTail value slice (.ref l) (.int k u)) Q E s :=
  tail_any hl.typeIs slot_list_getitem.lookup (wpAny_getItem_list hl h0 (by omega) (by simpa using hx) h) hs
theorem item_int {l : Addr} {vs : List Value} {ns : List Int} {k : Int} {u : Tok} {value slice : PySem.Expr} {Q : Value → Shared → Prop} (hl : s.heap.IsList l vs.toArray) (hi : IntsAre vs ns) (h0 : 0 ≤ k) (h1 : k < (ns.length : Int)) (h2 : ns.length ≤ 1000)
    (h : ∀ t, Q (.int (ns.getD k.toNat 0) t) s)
    (hs : subscripted slice false (.ref l) (.int k u) = operate [.ref l, .int k u] (getItem (.ref l) (.int k u)) := by with_unfolding_all rfl) :
    wpAny (model prog w) A (subscriptTail value slice (.ref l) (.int k u)) Q E s := by
  have hk : k.toNat < ns.length := by omega
  obtain ⟨t, ht⟩ := hi.get k.toNat (ns.getD k.toNat 0) (by rw [List.getD_eq_getElem?_getD, List.getElem?_eq_getElem hk]; rfl)
  exact tail_any hl.typeIs slot_list_getitem.lookup (wpAny_getItem_list hl h0 (by omega) (by simpa using ht) (h t)) hs
theorem len_is {D : Addr} {its : Array Value} {k : Int} (hl : s.heap.IsList D its) {Q : Value → Shared → Prop} (hs : (its.size : Int) = k) (hf : k < 2 ^ 62) (h : Q (.int k (s.toks + 1)) { s with toks := s.toks + 1 + 1 }) :
    wpAny (model prog w) A (call (.builtin "len") [.ref D]) Q E s := by
  refine Calls.call_len_list hl (by omega) ?_
  rw [hs]
  exact h

def Has (m : Str → Option Value) (ps : List (Str × Value)) : Prop := ∀ p ∈ ps, m p.1 = some p.2
theorem Has.nil {m : Str → Option Value} : Has m [] := fun _ h => nomatch h
theorem Has.cons {m : Str → Option Value} {x : Str} {v : Value} {ps : List (Str × Value)} (h : m x = some v) (r : Has m ps) : Has m ((x, v) :: ps) := fun p hp => by
  rcases List.mem_cons.mp hp with rfl | hp
  · exact h
  · exact r p hp
theorem fr_has {h : Heap} {m : Str → Option Value} {ps : List (Str × Value)} (F : Fr h₀ L h m) (H : Has m ps) : Fr h₀ L h (kstB m ps) := by
  have e : kstB m ps = m := funext fun z => kstB_eq H fun _ => rfl
  rw [e]; exact F
def BIf (b : Bool) (T F : Prop) : Prop := (b = true → T) ∧ (b = false → F)
def WPost (Q : Flow → Shared → Prop) (J : Shared → Prop) (f : Flow) (s : Shared) : Prop :=
  match f with
  | .next => J s
  | .cont => J s
  | .brk => Q .next s
  | .ret v => Q (.ret v) s
theorem my_while {test : Expr} {body : List Stmt} {pos : Pos} {Q : Flow → Shared → Prop} (I : Nat → Shared → Prop)
    (turn : ∀ n s, I n s → wpAny (model prog w) A (isTrue test env (eval test env)) (fun b s₂ =>
      BIf b (wpAny (model prog w) A (execs body env) (WPost Q fun s₃ => ∃ m, m < n ∧ I m s₃) (fun _ _ => False) s₂) (Q .next s₂)) (fun _ _ => False) s)
    (n : Nat) (h : I n s) : wpAny (model prog w) A (exec (.While test body [] pos) env) Q (fun _ _ => False) s := by
  refine wpAny_While (codeAny_whileLoop (R := fun r s' => match r with | .ok f => Q f s' | .error e => cameBackBy (model prog w) A env (fun _ _ => False) e s') I (fun n s hI => ?_) n h)
  refine wpAny_mono (turn n s hI) (fun b s₂ h₂ => ?_) fun _ _ x => x.elim
  cases b with
  | true =>
    rw [if_pos rfl]
    refine wpAny_mono (h₂.1 rfl) (fun f s₃ h₃ => ?_) fun _ _ x => x.elim
    cases f <;> exact h₃
  | false =>
    rw [if_neg Bool.false_ne_true]
    exact wpAny_execs_nil (h₂.2 rfl)
end
end Mine
end
theorem Mine.off_Fw : True := by
  w_top off
  trivial

section
open PySem PySem.W PySem.Calls PyProof.Rows
set_option Elab.async false
set_option maxRecDepth 100000
namespace Mine
local macro_rules | `(tactic| walk_at "m_steps") => `(tactic| repeat' ((fail_if_success (with_reducible show wpAny _ _ (exec (Stmt.While _ _ _ _) _) _ _ _)); first | (k_unfold; (try dsimp only)) | (k_end; wrow_close) | walk1 | (dsimp only; walk1) | (leave1; walk_say "STEP leave1"; try dsimp only) | fail "no step"))
local macro_rules | `(tactic| walk_at "m_has") => `(tactic| repeat' (first | exact Has.nil | (refine Has.cons (by rfl) ?_)))

/-- sorted, by places -/
def Srt (ns : List Int) : Prop := ∀ i j, i ≤ j → j < ns.length → ns.getD i 0 ≤ ns.getD j 0

theorem count_of_split (p : Int → Bool) : ∀ (ns : List Int) (k : Nat), k ≤ ns.length → (∀ i, i < k → p (ns.getD i 0) = true) → (∀ i, k ≤ i → i < ns.length → p (ns.getD i 0) = false) → (ns.filter p).length = k
  | [], k, hk, _, _ => by simp at hk; simp [hk]
  | n :: r, 0, _, _, h2 => by
    have e : (n :: r).filter p = [] := List.filter_eq_nil_iff.mpr fun y hy => by
      obtain ⟨i, hi, rfl⟩ := List.getElem_of_mem hy
      have := h2 i (Nat.zero_le _) hi
      rw [List.getD_eq_getElem?_getD, List.getElem?_eq_getElem hi] at this
      simpa using this
    rw [e]; rfl
  | n :: r, k + 1, hk, h1, h2 => by
    have e0 := h1 0 (Nat.succ_pos _)
    have ih := count_of_split p r k (by simp at hk; omega) (fun i hi => by simpa using h1 (i + 1) (by omega)) (fun i hi hl => by simpa using h2 (i + 1) (by omega) (by simp; omega))
    simp at e0
    rw [List.filter_cons_of_pos e0, List.length_cons, ih]

set_option maxHeartbeats 4000000 in
theorem bisR {w : World} {s : Shared} {base : Heap} {mg mb : Str → Option Value} {p : Program} {loose : List Str} {mean : ExcName → Option Value} {env : Env} {outer : List Env} {Q : Value → Shared → Prop}
    (B : Below (SA env outer) base (env :: outer) s.heap) (X : (hd.heap_39 w.params).In s.heap) (T : Top p loose mean mg mb s.heap)
    {a : Addr} {vs : List Value} {ns : List Int} {x : Int} {tx : Tok} (hl : s.heap.IsList a vs.toArray) (hi : IntsAre vs ns) (hn : ns.length ≤ 1000) (hsort : Srt ns)
    (hQ : ∀ t h' tk, s.heap.StaysIn h' → Q (.int ((ns.filter (· ≤ x)).length) t) { s with heap := h', toks := tk }) :
    wpAny (model PySem.Challenge.rw_hd0004_01.row.prog w) (SA env outer) (call (.ref 30) [.ref a, .int x tx]) Q (fun _ _ => False) s := by
  (revert X; k_fill; intro X)
  refine' callP (binds := [("a", .ref a), ("x", .int x tx), ("lo", .int 0 202), ("hi", .none), ("key", .none)]) B X T ?k6 ?k7 ?k8 ?k9 ?kB ?_ ?c2 ?c3 ?c4 ?c5; (case k6 => k_dflt k_is); (case k7 => k_dflt k_is); (case k8 => exact Nat.le_of_ble_eq_true rfl); (case k9 => exact kp_binds X (fun _ => rfl)); (case kB => exact locs rfl); (case c2 => exact rfl); (case c3 => exact rfl); (case c4 => exact rfl); (case c5 => decide); intro L' h' F' N'; dsimp only [List.length_cons, List.length_nil]
  k_fold
  walk_at "m_steps"
  rename Fr _ _ _ _ => F
  rename News _ _ _ _ => N
  refine my_while (fun k s' => ∃ lo hi tl th h tk m, s' = { s with heap := h, toks := tk } ∧ Fr s.heap L' h m ∧ News s.heap L' h [] ∧
     Has m [("a", .ref a), ("x", .int x tx), ("lo", .int (lo : Int) tl), ("hi", .int (hi : Int) th)] ∧ k = hi - lo ∧ (0:Int) ≤ lo ∧ lo ≤ hi ∧ hi ≤ (ns.length : Int) ∧
     (∀ i : Nat, (i : Int) < lo → ns.getD i 0 ≤ x) ∧ (∀ i : Nat, hi ≤ (i : Int) → i < ns.length → x < ns.getD i 0)) ?_ ns.length ?_
  · rintro k s' ⟨lo, hi, tl, th, h, tk, m, rfl, F, N, H, hk, h1, h2, h3, h4, h5⟩
    replace F := fr_has F H
    dsimp only [kstB] at F
    walk_at "m_steps"
    refine ⟨fun hb => ?_, fun hb => ?_⟩
    · have hb := of_decide_eq_true hb
      walk_at "m_steps"
      · rename x < _ => hx
        rename Fr _ _ _ _ => F
        rename News _ _ _ _ => N
        have hm : (lo + hi).fdiv 2 = (lo + hi) / 2 := Int.fdiv_eq_ediv_of_nonneg _ (by omega)
        rw [hm] at hx
        refine ⟨(((lo + hi) / 2) - lo).toNat, ?_, lo, (lo + hi) / 2, ?tl1, ?th1, _, _, _, rfl, F, N, ?hh1, ?_, ?_, ?_, ?_, h4, ?_⟩
        case hh1 => rw [hm]; walk_at "m_has"
        · omega
        · omega
        · omega
        · omega
        · omega
        · intro i hi1 hi2
          refine Int.lt_of_lt_of_le hx (hsort _ _ ?_ hi2)
          omega
      · rename ¬ x < _ => hx
        rename Fr _ _ _ _ => F
        rename News _ _ _ _ => N
        have hm : (lo + hi).fdiv 2 = (lo + hi) / 2 := Int.fdiv_eq_ediv_of_nonneg _ (by omega)
        rw [hm] at hx
        refine ⟨(hi - ((lo + hi) / 2 + 1)).toNat, ?_, (lo + hi) / 2 + 1, hi, ?tl2, ?th2, _, _, _, rfl, F, N, ?hh2, ?_, ?_, ?_, h3, ?_, h5⟩
        case hh2 => rw [hm]; walk_at "m_has"
        · omega
        · omega
        · omega
        · omega
        · intro i hi1
          refine Int.le_trans (hsort i ((lo + hi) / 2).toNat ?_ ?_) (Int.not_lt.mp hx)
          · omega
          · omega
    · have hb := of_decide_eq_false hb
      walk_at "m_steps"
      have e : lo = hi := by omega
      subst e
      have e2 : (((ns.filter (· ≤ x)).length : Nat) : Int) = lo := by
        rw [count_of_split (fun y => decide (y ≤ x)) ns lo.toNat (by omega) (fun i hi => by simpa using h4 i (by omega)) (fun i hi hl => by simpa using h5 i (by omega) hl)]
        omega
      show Q (.int lo tl) _
      rw [← e2]
      exact hQ _ _ _ F.keep
  · refine ⟨0, ns.length, ?tl3, ?th3, _, _, _, rfl, F, N, ?hh3, ?_⟩
    case hh3 => walk_at "m_has"
    · exact ⟨by omega, by omega, by omega, by omega, fun i hi => by omega, fun i hi hl => by omega⟩
set_option maxHeartbeats 4000000 in
theorem bisL {w : World} {s : Shared} {base : Heap} {mg mb : Str → Option Value} {p : Program} {loose : List Str} {mean : ExcName → Option Value} {env : Env} {outer : List Env} {Q : Value → Shared → Prop}
    (B : Below (SA env outer) base (env :: outer) s.heap) (X : (hd.heap_39 w.params).In s.heap) (T : Top p loose mean mg mb s.heap)
    {a : Addr} {vs : List Value} {ns : List Int} {x : Int} {tx t0 : Tok} (hl : s.heap.IsList a vs.toArray) (hi : IntsAre vs ns) (hn : ns.length ≤ 1000) (hsort : Srt ns)
    (hQ : ∀ t h' tk, s.heap.StaysIn h' → Q (.int ((ns.filter (· < x)).length) t) { s with heap := h', toks := tk }) :
    wpAny (model PySem.Challenge.rw_hd0004_01.row.prog w) (SA env outer) (call (.ref 48) [.ref a, .int x tx, .int 0 t0, .none]) Q (fun _ _ => False) s := by
  (revert X; k_fill; intro X)
  refine' callP (binds := [("a", .ref a), ("x", .int x tx), ("lo", .int 0 t0), ("hi", .none), ("key", .none)]) B X T ?k6 ?k7 ?k8 ?k9 ?kB ?_ ?c2 ?c3 ?c4 ?c5; (case k6 => k_dflt k_is); (case k7 => k_dflt k_is); (case k8 => exact Nat.le_of_ble_eq_true rfl); (case k9 => exact kp_binds X (fun _ => rfl)); (case kB => exact locs rfl); (case c2 => exact rfl); (case c3 => exact rfl); (case c4 => exact rfl); (case c5 => decide); intro L' h' F' N'; dsimp only [List.length_cons, List.length_nil]
  k_fold
  walk_at "m_steps"
  rename Fr _ _ _ _ => F
  rename News _ _ _ _ => N
  refine my_while (fun k s' => ∃ lo hi tl th h tk m, s' = { s with heap := h, toks := tk } ∧ Fr s.heap L' h m ∧ News s.heap L' h [] ∧
     Has m [("a", .ref a), ("x", .int x tx), ("lo", .int (lo : Int) tl), ("hi", .int (hi : Int) th)] ∧ k = hi - lo ∧ (0:Int) ≤ lo ∧ lo ≤ hi ∧ hi ≤ (ns.length : Int) ∧
     (∀ i : Nat, (i : Int) < lo → ns.getD i 0 < x) ∧ (∀ i : Nat, hi ≤ (i : Int) → i < ns.length → x ≤ ns.getD i 0)) ?_ ns.length ?_
  · rintro k s' ⟨lo, hi, tl, th, h, tk, m, rfl, F, N, H, hk, h1, h2, h3, h4, h5⟩
    replace F := fr_has F H
    dsimp only [kstB] at F
    walk_at "m_steps"
    refine ⟨fun hb => ?_, fun hb => ?_⟩
    · have hb := of_decide_eq_true hb
      walk_at "m_steps"
      · rename _ < x => hx
        rename Fr _ _ _ _ => F
        rename News _ _ _ _ => N
        have hm : (lo + hi).fdiv 2 = (lo + hi) / 2 := Int.fdiv_eq_ediv_of_nonneg _ (by omega)
        rw [hm] at hx
        refine ⟨(hi - ((lo + hi) / 2 + 1)).toNat, ?_, (lo + hi) / 2 + 1, hi, ?tl2, ?th2, _, _, _, rfl, F, N, ?hh2, ?_, ?_, ?_, h3, ?_, h5⟩
        case hh2 => rw [hm]; walk_at "m_has"
        · omega
        · omega
        · omega
        · omega
        · intro i hi1
          refine Int.lt_of_le_of_lt (hsort i ((lo + hi) / 2).toNat ?_ ?_) hx
          · omega
          · omega
      · rename ¬ _ < x => hx
        rename Fr _ _ _ _ => F
        rename News _ _ _ _ => N
        have hm : (lo + hi).fdiv 2 = (lo + hi) / 2 := Int.fdiv_eq_ediv_of_nonneg _ (by omega)
        rw [hm] at hx
        refine ⟨(((lo + hi) / 2) - lo).toNat, ?_, lo, (lo + hi) / 2, ?tl1, ?th1, _, _, _, rfl, F, N, ?hh1, ?_, ?_, ?_, ?_, h4, ?_⟩
        case hh1 => rw [hm]; walk_at "m_has"
        · omega
        · omega
        · omega
        · omega
        · omega
        · intro i hi1 hi2
          refine Int.le_trans (Int.not_lt.mp hx) (hsort _ _ ?_ hi2)
          omega
    · have hb := of_decide_eq_false hb
      walk_at "m_steps"
      have e : lo = hi := by omega
      subst e
      have e2 : (((ns.filter (· < x)).length : Nat) : Int) = lo := by
        rw [count_of_split (fun y => decide (y < x)) ns lo.toNat (by omega) (fun i hi => by simpa using h4 i (by omega)) (fun i hi hl => by simpa using h5 i (by omega) hl)]
        omega
      show Q (.int lo tl) _
      rw [← e2]
      exact hQ _ _ _ F.keep
  · refine ⟨0, ns.length, ?tl3, ?th3, _, _, _, rfl, F, N, ?hh3, ?_⟩
    case hh3 => walk_at "m_has"
    · exact ⟨by omega, by omega, by omega, by omega, fun i hi => by omega, fun i hi hl => by omega⟩
theorem bisR' {w : World} {s : Shared} {base h₀ : Heap} {Lf : Addr} {m : Str → Option Value} {mg mb : Str → Option Value} {p : Program} {loose : List Str} {mean : ExcName → Option Value} {A₀ A : Around} {env : Env} {outer : List Env} {Q : Value → Shared → Prop}
    (B : Below A₀ base outer h₀) (F : Fr h₀ Lf s.heap m) (X : (hd.heap_39 w.params).In h₀) (T : Top p loose mean mg mb h₀) (hf : env.frame = some Lf) (hke : env.scope.kind = .function) (G : AGood A env outer)
    {a : Addr} {vs : List Value} {ns : List Int} {x : Int} {tx : Tok} (hl : s.heap.IsList a vs.toArray) (hi : IntsAre vs ns) (hn : ns.length ≤ 1000) (hsort : Srt ns)
    (hQ : ∀ t h' tk, s.heap.StaysIn h' → Q (.int ((ns.filter (· ≤ x)).length) t) { s with heap := h', toks := tk }) :
    wpAny (model PySem.Challenge.rw_hd0004_01.row.prog w) A (call (.ref 30) [.ref a, .int x tx]) Q (fun _ _ => False) s :=
  up G (bisR (below_at (A := SA env outer) B F rfl hf hke) (X.keeps F.keep) (T.keeps F.keep) hl hi hn hsort hQ)
theorem bisL' {w : World} {s : Shared} {base h₀ : Heap} {Lf : Addr} {m : Str → Option Value} {mg mb : Str → Option Value} {p : Program} {loose : List Str} {mean : ExcName → Option Value} {A₀ A : Around} {env : Env} {outer : List Env} {Q : Value → Shared → Prop}
    (B : Below A₀ base outer h₀) (F : Fr h₀ Lf s.heap m) (X : (hd.heap_39 w.params).In h₀) (T : Top p loose mean mg mb h₀) (hf : env.frame = some Lf) (hke : env.scope.kind = .function) (G : AGood A env outer)
    {a : Addr} {vs : List Value} {ns : List Int} {x : Int} {tx t0 : Tok} (hl : s.heap.IsList a vs.toArray) (hi : IntsAre vs ns) (hn : ns.length ≤ 1000) (hsort : Srt ns)
    (hQ : ∀ t h' tk, s.heap.StaysIn h' → Q (.int ((ns.filter (· < x)).length) t) { s with heap := h', toks := tk }) :
    wpAny (model PySem.Challenge.rw_hd0004_01.row.prog w) A (call (.ref 48) [.ref a, .int x tx, .int 0 t0, .none]) Q (fun _ _ => False) s :=
  up G (bisL (below_at (A := SA env outer) B F rfl hf hke) (X.keeps F.keep) (T.keeps F.keep) hl hi hn hsort hQ)
end Mine
end
theorem Mine.off_T1 : True := by
  w_top off
  trivial

section
open PySem PySem.W PySem.Calls PyProof.Rows
set_option Elab.async false
set_option maxRecDepth 100000
namespace Mine
local macro_rules | `(tactic| walk_at "m_steps") => `(tactic| repeat' ((fail_if_success (with_reducible show wpAny _ _ (exec (Stmt.While _ _ _ _) _) _ _ _)); (fail_if_success (with_reducible show wpAny _ _ (PySem.call (Value.ref _) _ _) _ _ _)); (fail_if_success (with_reducible show wpAny _ _ (subscriptTail _ _ (Value.ref _) (Value.int _ _)) _ _ _)); first | (k_unfold; (try dsimp only)) | (k_end; wrow_close) | walk1 | (dsimp only; walk1) | (leave1; walk_say "STEP leave1"; try dsimp only) | fail "no step"))

theorem ints_take {vs : List Value} {ns : List Int} (h : IntsAre vs ns) : ∀ k : Nat, IntsAre (vs.take k) (ns.take k) := by
  induction h with
  | nil => intro k; rw [List.take_nil, List.take_nil]; exact .nil
  | cons i t _ ih =>
    intro k
    cases k with
    | zero => exact .nil
    | succ k => exact .cons i t (ih k)
theorem ints_drop {vs : List Value} {ns : List Int} (h : IntsAre vs ns) : ∀ k : Nat, IntsAre (vs.drop k) (ns.drop k) := by
  induction h with
  | nil => intro k; rw [List.drop_nil, List.drop_nil]; exact .nil
  | cons i t h ih =>
    intro k
    cases k with
    | zero => exact .cons i t h
    | succ k => exact ih k
theorem ins_ints {vs : List Value} {ns : List Int} {x : Int} {tx : Tok} (hi : IntsAre vs ns) (k : Nat) (hk : k ≤ ns.length) : IntsAre (kl_ins vs (k : Int) (.int x tx)) (ns.take k ++ x :: ns.drop k) := by
  have e : kl_ins vs (k : Int) (.int x tx) = vs.take k ++ .int x tx :: vs.drop k := by
    unfold kl_ins
    have h1 : ¬ ((k : Int) < 0) := by omega
    have h2 : min k vs.length = k := by have := hi.length; omega
    rw [if_neg h1, Int.toNat_natCast, h2]
  rw [e]
  exact IntsAre.append (ints_take hi k) (.cons x tx (ints_drop hi k))

set_option maxHeartbeats 1000000 in
theorem insort {w : World} {s : Shared} {base h₀ : Heap} {Lf : Addr} {m : Str → Option Value} {mg mb : Str → Option Value} {p : Program} {loose : List Str} {mean : ExcName → Option Value} {A₀ A : Around} {env : Env} {outer : List Env} {Q : Value → Shared → Prop}
    (B : Below A₀ base outer h₀) (F : Fr h₀ Lf s.heap m) (X : (hd.heap_39 w.params).In h₀) (T : Top p loose mean mg mb h₀) (hf : env.frame = some Lf) (hke : env.scope.kind = .function) (hA1 : A.handled = none) (hA2 : A.frames = some (env :: outer)) (hA3 : A.guards = some []) (hA4 : A.depth ≤ 480) (hA5 : A.units ≤ 380)
    {a : Addr} {vs : List Value} {ns : List Int} {c : Nat} {x : Int} {tx : Tok} (N : News h₀ Lf s.heap [(a, listOf vs.toArray c)]) (hi : IntsAre vs ns) (hn : ns.length ≤ 1000) (hsort : Srt ns)
    (hQ : ∀ h' tk vs' ns' c', (∀ b o, b ≠ a → s.heap.get? b = some o → h'.get? b = some o) → h'.get? a = some (listOf (List.toArray vs') c') → IntsAre vs' ns' → ns' = ns.take (ns.filter (· < x)).length ++ x :: ns.drop (ns.filter (· < x)).length → Q .none { s with heap := h', toks := tk }) :
    wpAny (model PySem.Challenge.rw_hd0004_01.row.prog w) A (call (.ref 39) [.ref a, .int x tx]) Q (fun _ _ => False) s := by
  (revert X; k_fill; intro X)
  refine upN 480 380 hA1 hA2 hA3 hA4 hA5 ?_
  refine' callH (binds := [("a", .ref a), ("x", .int x tx), ("lo", .int 0 216), ("hi", .none), ("key", .none)]) B F N X T rfl hf hke ?k6 ?k7 ?k8 ?k9 ?kB ?_ ?c2 ?c3 ?c4 ?c5; (case k6 => k_dflt k_is); (case k7 => k_dflt k_is); (case k8 => exact Nat.le_of_ble_eq_true rfl); (case k9 => exact kp_binds (X.keeps F.keep) (fun _ => rfl)); (case kB => exact locs rfl); (case c2 => exact rfl); (case c3 => exact rfl); (case c4 => exact rfl); (case c5 => decide); intro g L' h' stg kg ng F' N' B' X' T' l1; (try dsimp only)
  clear B F N X T
  walk_at "m_steps"
  rename News _ _ _ _ => N3
  rename Fr _ _ _ _ => F3
  refine' bisL' B' F3 X' T' ?hf1 ?hk1 ?ag1 (News.isList N3 (.head _)) hi hn hsort ?fin
  case ag1 => exact ⟨rfl, rfl, rfl, Nat.le_of_ble_eq_true rfl, Nat.le_of_ble_eq_true rfl⟩
  case hf1 => exact rfl
  case hk1 => exact rfl
  case fin =>
    intro t5 h5 tk5 st5
    have F5 := fr_ext F3 st5
    have N5 := news_ext N3 st5
    clear F3 N3
    walk_at "m_steps"
    rename News _ _ _ _ => N5
    rename Fr _ _ _ _ => F5
    have hk : (ns.filter (· < x)).length ≤ ns.length := List.length_filter_le _ _
    refine kl_insert F5 N5 (l := kl_ins vs ((ns.filter (· < x)).length : Int) (.int x tx)) (by simp [Builtin.List.listFitsIndex]; omega) rfl (.head (fun _ h => nomatch h)) (by have := hi.length; rw [PySem.sizeLine_eq]; simp; omega) ?_
    intro h6 F6 N6
    (try clear F5 N5)
    walk_at "m_steps"
    have hI := ins_ints (x := x) (tx := tx) hi _ hk
    exact ⟨L', _, _, F6, N6, fun hkeep => hQ _ _ _ _ _ (fun b o hb e => hkeep b o (by simpa using hb) e) (N6 _ (.head _)).1 hI rfl⟩
end Mine
end
theorem Mine.off_T2 : True := by
  w_top off
  trivial

section
open PySem PySem.W PySem.Calls PyProof.Rows
set_option Elab.async false
set_option maxRecDepth 100000
namespace Mine
local macro_rules | `(tactic| walk_at "m_steps") => `(tactic| repeat' ((fail_if_success (with_reducible show wpAny _ _ (exec (Stmt.While _ _ _ _) _) _ _ _)); first | (k_unfold; (try dsimp only)) | (k_end; wrow_close) | walk1 | (dsimp only; walk1) | (leave1; walk_say "STEP leave1"; try dsimp only) | fail "no step"))
local macro_rules | `(tactic| walk_at "m_item") => `(tactic| (k_here; (with_reducible show wpAny _ _ (subscriptTail _ _ (Value.ref _) (Value.int _ _)) _ _ _); k_dflt (refine' item_news ?N ?m ?i ?a ?b ?c ?_; (case N => k_asm); (case m => k_mem); (case i => assumption); (case a => omega); (case b => omega); (case c => omega)); intro ti'))
local macro_rules | `(tactic| walk_at "subscriptTail Name Name ref int") => `(tactic| walk_at "m_item")
local macro_rules | `(tactic| walk_at "subscriptTail Name BinOp ref int") => `(tactic| walk_at "m_item")
local macro_rules | `(tactic| walk_at "m_has") => `(tactic| repeat' (first | exact Has.nil | (refine Has.cons (by rfl) ?_)))

/-- the least of len items from i on (len 0: nought) -/
def wmin (ns : List Int) (i : Nat) : Nat → Int
  | 0 => 0
  | 1 => ns.getD i 0
  | len + 2 => min (wmin ns i (len + 1)) (ns.getD (i + len + 1) 0)
def IsMin (ns : List Int) (i len : Nat) (x : Int) : Prop := (∃ k, i ≤ k ∧ k < i + len ∧ ns.getD k 0 = x) ∧ ∀ k, i ≤ k → k < i + len → x ≤ ns.getD k 0
theorem wmin_is (ns : List Int) (i : Nat) : ∀ len, 1 ≤ len → IsMin ns i len (wmin ns i len)
  | 0, h => absurd h (by omega)
  | 1, _ => ⟨⟨i, by omega, by omega, rfl⟩, fun k h1 h2 => by
    have e : k = i := by omega
    subst e; exact Int.le_refl _⟩
  | len + 2, _ => by
    obtain ⟨⟨k, h1, h2, h3⟩, h4⟩ := wmin_is ns i (len + 1) (by omega)
    refine ⟨?_, fun k' h5 h6 => ?_⟩
    · show ∃ k, _ ∧ _ ∧ _ = min (wmin ns i (len + 1)) (ns.getD (i + len + 1) 0)
      by_cases c : wmin ns i (len + 1) ≤ ns.getD (i + len + 1) 0
      · exact ⟨k, h1, by omega, by rw [h3]; omega⟩
      · exact ⟨i + len + 1, by omega, by omega, by omega⟩
    · show min (wmin ns i (len + 1)) (ns.getD (i + len + 1) 0) ≤ _
      by_cases c : k' = i + len + 1
      · subst c; omega
      · have := h4 k' h5 (by omega)
        omega
theorem IsMin.uniq {ns : List Int} {i len : Nat} {x y : Int} (a : IsMin ns i len x) (b : IsMin ns i len y) : x = y := by
  obtain ⟨⟨k, k1, k2, k3⟩, ha⟩ := a
  obtain ⟨⟨j, j1, j2, j3⟩, hb⟩ := b
  have h1 := ha j j1 j2
  have h2 := hb k k1 k2
  omega
/-- two windows that cover -/
theorem wmin_cover {ns : List Int} {i p len : Nat} (h1 : 1 ≤ p) (h2 : p ≤ len) (h3 : len ≤ 2 * p) : min (wmin ns i p) (wmin ns (i + len - p) p) = wmin ns i len := by
  refine IsMin.uniq ?_ (wmin_is ns i len (by omega))
  obtain ⟨⟨k, k1, k2, k3⟩, ha⟩ := wmin_is ns i p h1
  obtain ⟨⟨j, j1, j2, j3⟩, hb⟩ := wmin_is ns (i + len - p) p h1
  refine ⟨?_, fun q q1 q2 => ?_⟩
  · by_cases c : wmin ns i p ≤ wmin ns (i + len - p) p
    · exact ⟨k, k1, by omega, by omega⟩
    · exact ⟨j, by omega, by omega, by omega⟩
  · by_cases c : q < i + p
    · have := ha q q1 c; omega
    · have := hb q (by omega) (by omega); omega

/-- row j of the kept table -/
def RowOk (ns : List Int) (j : Nat) (r : List Int) : Prop := r.length = ns.length + 1 - 2 ^ j ∧ ∀ k, k < r.length → r.getD k 0 = wmin ns k (2 ^ j)
theorem rowOk_zero (ns : List Int) : RowOk ns 0 ns := ⟨by simp, fun k _ => rfl⟩
theorem rowOk_succ {ns r r' : List Int} {j : Nat} (h : RowOk ns j r) (hp : 2 ^ (j + 1) ≤ ns.length) (hl : r'.length = ns.length + 1 - 2 ^ (j + 1)) (hr : ∀ k, k < r'.length → r'.getD k 0 = min (r.getD k 0) (r.getD (k + 2 ^ j) 0)) : RowOk ns (j + 1) r' := by
  have e2 : 2 ^ (j + 1) = 2 ^ j + 2 ^ j := by rw [Nat.pow_succ]; omega
  have hpos : 1 ≤ 2 ^ j := Nat.one_le_two_pow
  refine ⟨hl, fun k hk => ?_⟩
  rw [hr k hk, h.2 k (by rw [h.1]; omega), h.2 (k + 2 ^ j) (by rw [h.1]; omega)]
  have := wmin_cover (ns := ns) (i := k) (p := 2 ^ j) (len := 2 ^ (j + 1)) hpos (by omega) (by omega)
  rw [← this]
  congr 2
  omega

theorem rowOk_map {ns r : List Int} {j n : Nat} (g : Int → Int) (h : RowOk ns j r) (hp : 2 ^ (j + 1) ≤ ns.length) (hn : n = ns.length + 1 - 2 ^ (j + 1)) (hg : ∀ k : Nat, k < n → g (k : Int) = min (r.getD k 0) (r.getD (k + 2 ^ j) 0)) : RowOk ns (j + 1) ((rangeKs 0 n).map g) := by
  refine rowOk_succ h hp (by simp [rangeKs, hn]) fun k hk => ?_
  have hk' : k < n := by simpa [rangeKs] using hk
  rw [← hg k hk']
  simp [rangeKs, hk']
theorem min_if {a b : Int} : min a b = if b < a then b else a := by split <;> omega

inductive Rows (ns : List Int) (news : List (Addr × Obj)) : Nat → List Value → Prop
  | nil {j} : Rows ns news j []
  | cons {j a vs c r us} : (a, listOf (List.toArray vs) c) ∈ news → IntsAre vs r → RowOk ns j r → Rows ns news (j + 1) us → Rows ns news j (.ref a :: us)
theorem hb0 {n : Nat} {k : Int} (h0 : 0 ≤ k) (h : k < 0 + ((((n : Int) - 2 * 1 + 1 - 0).toNat : Nat) : Int)) : k + 1 < (n : Int) := by omega
theorem hb1 {n r : Nat} {k : Int} (h0 : 0 ≤ k) (h : k < 0 + ((((n : Int) - 2 * 2 + 1 - 0).toNat : Nat) : Int)) (hr : r = n + 1 - 2 ^ 1) : k + 2 < (r : Int) := by omega
theorem hb2 {n r : Nat} {k : Int} (h0 : 0 ≤ k) (h : k < 0 + ((((n : Int) - 2 * 4 + 1 - 0).toNat : Nat) : Int)) (hr : r = n + 1 - 2 ^ 2) : k + 4 < (r : Int) := by omega
theorem gl_le {r n q : Nat} (h : r = n + 1 - 2 ^ q) (hn : n ≤ 12) : r ≤ 12 := by have := Nat.one_le_two_pow (n := q); omega
theorem lev_lt {n q j : Nat} (h : n < 2 ^ q) (hj : 2 ^ j ≤ n) : j < q := Nat.pow_lt_pow_iff_right (a := 2) (by decide) |>.mp (Nat.lt_of_le_of_lt hj h)

set_option maxHeartbeats 8000000 in
theorem kept {w : World} {s : Shared} {base : Heap} {mg mb : Str → Option Value} {p : Program} {loose : List Str} {mean : ExcName → Option Value} {env : Env} {outer : List Env} {Q : Value → Shared → Prop}
    (B : Below (SA env outer) base (env :: outer) s.heap) (X : (hd.heap_39 w.params).In s.heap) (T : Top p loose mean mg mb s.heap)
    {a : Addr} {vs : List Value} {ns : List Int} (hl : s.heap.IsList a vs.toArray) (hi : IntsAre vs ns) (hn : ns.length ≤ 12)
    (hQ : ∀ t us c L m news h' tk, Fr s.heap L h' m → News s.heap L h' news → (t, listOf (List.toArray us) c) ∈ news → Rows ns news 0 us → (∀ j, 2 ^ j ≤ ns.length → j < us.length) → Q (.ref t) { s with heap := h', toks := tk }) :
    wpAny (model PySem.Challenge.rw_hd0004_01.row.prog w) (SA env outer) (call (.ref 53) [.ref a]) Q (fun _ _ => False) s := by
  (revert X; k_fill; intro X)
  refine' callPC (binds := [("row", .ref a)]) B X T ?k6 ?k7 ?k8 ?k9 ?kB ?kD ?_ ?c2 ?c3 ?c4; (case k6 => k_dflt k_is); (case k7 => k_dflt k_is); (case k8 => exact Nat.le_of_ble_eq_true rfl); (case k9 => exact kp_binds X (fun _ => rfl)); (case kB => exact rfl); (case kD => decide +kernel); (case c2 => exact rfl); (case c3 => exact rfl); (case c4 => exact rfl); intro L' h' tk' cells' F' N' Y'; k_cells Y'; (try dsimp only)
  (try k_fold)
  walk_at "m_steps"
  refine whl_start 100 ?_
  refine whl_turn (by passes_own) ?_
  walk_at "m_steps"
  by_cases h2 : 2 ≤ ns.length
  · refine WhlIf.yes (decide_eq_true (by simp; omega)) ?_
    walk_at "m_steps"
    have e2 : (2 : Int) ^ (1 - 1 : Int).toNat = 1 := by decide
    simp only [e2] at *
    refine LCg.CompSrc.range (by rfl) (by k_asm) (by k_asm) (by assumption) (small_one (by simp; try omega) (by simp; try omega) (by simp; try omega) (by simp; try omega)) (rangeSize_nat _ _) (by rw [PySem.sizeLine_eq]; simp; try omega) ?_
    intro g'
    refine kcf_range (fun k => min (ns.getD k.toNat 0) (ns.getD (k.toNat + 1) 0)) (fun k' t' I' oI' C' oC' D' m' ys' h' tk' E' hlo' hhi' hC' hx' F' N' off' ne' hMark' => ?_) ?_
    · simp only [LCg.Off3, and_true] at off'
      have hhi2 : k' + 1 < (ns.length : Int) := hb0 hlo' hhi'
      walk_at "m_steps"
      refine kcf_el ?_ rfl rfl
      show min _ _ = _
      rw [min_if, show (k' + 1).toNat = k'.toNat + 1 by omega]
    · unfold KPfDone
      intro ys1 hys1
      have R1 := rowOk_map (ns := ns) (j := 0) (n := ((ns.length : Int) - 2 * 1 + 1 - 0).toNat) (fun k : Int => min (ns.getD k.toNat 0) (ns.getD (k.toNat + 1) 0)) (rowOk_zero ns) (by omega) (by simp; omega) (fun k _ => by simp)
      have gl1 := gl_le R1.1 hn
      revert hys1 R1 gl1
      generalize List.map _ _ = r1
      intro hys1 R1 gl1
      walk_at "m_steps"
      by_cases h4 : 4 ≤ ns.length
      · refine WhlIf.yes (decide_eq_true (by simp; omega)) ?_
        walk_at "m_steps"
        have e4 : (2 : Int) ^ (2 - 1 : Int).toNat = 2 := by decide
        simp only [e4] at *
        refine LCg.CompSrc.range (by rfl) (by k_asm) (by k_asm) (by assumption) (small_one (by simp; try omega) (by simp; try omega) (by simp; try omega) (by simp; try omega)) (rangeSize_nat _ _) (by rw [PySem.sizeLine_eq]; simp; try omega) ?_
        intro g'
        refine kcf_range (fun k => min (r1.getD k.toNat 0) (r1.getD (k.toNat + 2) 0)) (fun k' t' I' oI' C' oC' D' m' ys' h' tk' E' hlo' hhi' hC' hx' F' N' off' ne' hMark' => ?_) ?_
        · simp only [LCg.Off3, and_true] at off'
          have hhi2 : k' + 2 < (r1.length : Int) := hb1 hlo' hhi' R1.1
          walk_at "m_steps"
          refine kcf_el ?_ rfl rfl
          show min _ _ = _
          rw [min_if, show (k' + 2).toNat = k'.toNat + 2 by omega]
        · unfold KPfDone
          intro ys2 hys2
          have R2 := rowOk_map (ns := ns) (j := 1) (n := ((ns.length : Int) - 2 * 2 + 1 - 0).toNat) (fun k : Int => min (r1.getD k.toNat 0) (r1.getD (k.toNat + 2) 0)) (R1) (by omega) (by simp; omega) (fun k _ => by simp)
          have gl2 := gl_le R2.1 hn
          revert hys2 R2 gl2
          generalize List.map _ _ = r2
          intro hys2 R2 gl2
          walk_at "m_steps"
          by_cases h8 : 8 ≤ ns.length
          · refine WhlIf.yes (decide_eq_true (by simp; omega)) ?_
            walk_at "m_steps"
            have e8 : (2 : Int) ^ (3 - 1 : Int).toNat = 4 := by decide
            simp only [e8] at *
            refine LCg.CompSrc.range (by rfl) (by k_asm) (by k_asm) (by assumption) (small_one (by simp; try omega) (by simp; try omega) (by simp; try omega) (by simp; try omega)) (rangeSize_nat _ _) (by rw [PySem.sizeLine_eq]; simp; try omega) ?_
            intro g'
            refine kcf_range (fun k => min (r2.getD k.toNat 0) (r2.getD (k.toNat + 4) 0)) (fun k' t' I' oI' C' oC' D' m' ys' h' tk' E' hlo' hhi' hC' hx' F' N' off' ne' hMark' => ?_) ?_
            · simp only [LCg.Off3, and_true] at off'
              have hhi2 : k' + 4 < (r2.length : Int) := hb2 hlo' hhi' R2.1
              walk_at "m_steps"
              refine kcf_el ?_ rfl rfl
              show min _ _ = _
              rw [min_if, show (k' + 4).toNat = k'.toNat + 4 by omega]
            · unfold KPfDone
              intro ys3 hys3
              have R3 := rowOk_map (ns := ns) (j := 2) (n := ((ns.length : Int) - 2 * 4 + 1 - 0).toNat) (fun k : Int => min (r2.getD k.toNat 0) (r2.getD (k.toNat + 4) 0)) (R2) (by omega) (by simp; omega) (fun k _ => by simp)
              have gl3 := gl_le R3.1 hn
              revert hys3 R3 gl3
              generalize List.map _ _ = r3
              intro hys3 R3 gl3
              walk_at "m_steps"
              refine WhlIf.no (decide_eq_false (by simp; omega)) ?_
              walk_at "m_steps"
              rename Fr _ _ _ _ => F
              rename News _ _ _ _ => N
              exact hQ _ _ _ _ _ _ _ _ F N (by k_mem) (Rows.cons (by k_mem) hi (rowOk_zero ns) (Rows.cons (by k_mem) hys1 R1 (Rows.cons (by k_mem) hys2 R2 (Rows.cons (by k_mem) hys3 R3 Rows.nil)))) (fun j hj => lev_lt (q := 4) (by omega) hj)
          · refine WhlIf.no (decide_eq_false (by simp; omega)) ?_
            walk_at "m_steps"
            rename Fr _ _ _ _ => F
            rename News _ _ _ _ => N
            exact hQ _ _ _ _ _ _ _ _ F N (by k_mem) (Rows.cons (by k_mem) hi (rowOk_zero ns) (Rows.cons (by k_mem) hys1 R1 (Rows.cons (by k_mem) hys2 R2 Rows.nil))) (fun j hj => lev_lt (q := 3) (by omega) hj)
      · refine WhlIf.no (decide_eq_false (by simp; omega)) ?_
        walk_at "m_steps"
        rename Fr _ _ _ _ => F
        rename News _ _ _ _ => N
        exact hQ _ _ _ _ _ _ _ _ F N (by k_mem) (Rows.cons (by k_mem) hi (rowOk_zero ns) (Rows.cons (by k_mem) hys1 R1 Rows.nil)) (fun j hj => lev_lt (q := 2) (by omega) hj)
  · refine WhlIf.no (decide_eq_false (by simp; omega)) ?_
    walk_at "m_steps"
    rename Fr _ _ _ _ => F
    rename News _ _ _ _ => N
    exact hQ _ _ _ _ _ _ _ _ F N (by k_mem) (Rows.cons (by k_mem) hi (rowOk_zero ns) Rows.nil) (fun j hj => lev_lt (q := 1) (by omega) hj)

theorem kept' {w : World} {s : Shared} {base h₀ : Heap} {Lf : Addr} {m : Str → Option Value} {mg mb : Str → Option Value} {p : Program} {loose : List Str} {mean : ExcName → Option Value} {A₀ A : Around} {env : Env} {outer : List Env} {Q : Value → Shared → Prop} {news : List (Addr × Obj)}
    (B : Below A₀ base outer h₀) (F : Fr h₀ Lf s.heap m) (N : News h₀ Lf s.heap news) (X : (hd.heap_39 w.params).In h₀) (T : Top p loose mean mg mb h₀) (hf : env.frame = some Lf) (hke : env.scope.kind = .function) (G : AGood A env outer)
    {a : Addr} {vs : List Value} {ns : List Int} (hl : s.heap.IsList a vs.toArray) (hi : IntsAre vs ns) (hn : ns.length ≤ 12)
    (hQ : ∀ t us c tn h' tk, Fr h₀ Lf h' m → News h₀ Lf h' (news ++ tn) → (∀ p ∈ news, ∀ q ∈ tn, p.1 ≠ q.1) → (∀ q ∈ tn, s.heap.get? q.1 = none) → s.heap.StaysIn h' → (t, listOf (List.toArray us) c) ∈ tn → Rows ns tn 0 us → (∀ j, 2 ^ j ≤ ns.length → j < us.length) → Q (.ref t) { s with heap := h', toks := tk }) :
    wpAny (model PySem.Challenge.rw_hd0004_01.row.prog w) A (call (.ref 53) [.ref a]) Q (fun _ _ => False) s :=
  up G (kept (below_at (A := SA env outer) B F rfl hf hke) (X.keeps F.keep) (T.keeps F.keep) hl hi hn fun t us c L m tn h' tk F2 N2 ht hr hlev => by
    refine hQ t us c tn h' tk (fr_ext F F2.keep) (fun p hp => ?_) (fun p hp q hq e => ?_) (fun q hq => (N2 q hq).2.2) F2.keep ht hr hlev
    · rcases List.mem_append.mp hp with hp | hp
      · exact news_ext N F2.keep p hp
      · exact news_fresh F (N2 p hp).2.2 (N2 p hp).1
    · have h1 := (N p hp).1
      rw [e, (N2 q hq).2.2] at h1
      cases h1)
end Mine
end
theorem Mine.off_T3 : True := by
  w_top off
  trivial

section
open PySem PySem.W PySem.Calls PyProof.Rows
set_option Elab.async false
set_option maxRecDepth 100000
namespace Mine
local macro_rules | `(tactic| walk_at "m_steps") => `(tactic| repeat' ((fail_if_success (with_reducible show wpAny _ _ (exec (Stmt.While _ _ _ _) _) _ _ _)); (fail_if_success (with_reducible show wpAny _ _ (PySem.call (Value.ref _) _ _) _ _ _)); first | (k_unfold; (try dsimp only)) | (k_end; wrow_close) | walk1 | (dsimp only; walk1) | (leave1; walk_say "STEP leave1"; try dsimp only) | fail "no step"))

/-- the constants' table of _int2digits's code: untouched, or with inner's code in it -/
def TabL (qual : Str) (tl : List (Addr × Obj)) : Prop :=
  tl = [(16, tabObj #[])] ∨ ∃ c' oc vs t, tl = [(16, tabObj #[rawInt 5, rawInt 4, .ref c']), (c', oc)] ∧ oc.data = .fields vs ∧ vs[1]? = some (.str qual t)

theorem upd_mid {d : Addr} {o : Obj} : ∀ {pre post : List (Addr × Obj)}, (∀ p ∈ pre, p.1 ≠ d) → (∀ p ∈ post, p.1 ≠ d) → UpdF d o (pre ++ (d, o) :: post) (fun o' => pre ++ (d, o') :: post)
  | [], _, _, h2 => .head h2
  | _ :: _, _, h1, h2 => .tail (h1 _ (.head _)) (upd_mid (fun q hq => h1 q (.tail _ hq)) h2)

section
variable {M : Model} {A : Around} {E : Value → Shared → Prop} {s : Shared} {h₀ : Heap} {L a : Addr} {m mg mb : Str → Option Value} {cn : Str} {cs : Scope} {ccd : Value} {cl : List (Str × Addr)}
  {p : Program} {loose : List Str} {mean : ExcName → Option Value} {name qual : Str} {params : Arguments} {body : List Stmt} {scope : Scope} {pos : Pos} {firstLine : Nat} {clos : List (Str × Addr)}
theorem nest_any {Q : Value → Shared → Prop} {pre tl : List (Addr × Obj)} (F : Fr h₀ L s.heap m) (N : News h₀ L s.heap (pre ++ tl)) (T : Top p loose mean mg mb h₀) (C : CodeHd h₀ c 16) (hcd : ccd = .ref c) (htl : TabL qual tl) (hsep : ∀ p ∈ pre, ∀ q ∈ tl, p.1 ≠ q.1)
    (hpos : pos.line = 5 ∧ pos.col = 4)
    (hcl : closureFor scope (envX cn cs L a ccd cl) = pure clos)
    (h : ∀ f c' oc vs t ctv doc h' tk tl', Fr h₀ L h' m →
      News h₀ L h' ((f, fnMade name qual params body scope clos doc ((mg "__name__").getD .none) c' ctv) :: (pre ++ tl')) → TabL qual tl' → (c', oc) ∈ tl' →
      oc.data = .fields vs → vs[1]? = some (.str qual t) → (∀ q ∈ pre, q.1 < f) → c' < f → (∀ p ∈ pre, ∀ q ∈ tl', p.1 ≠ q.1) → Q (.ref f) { s with heap := h', toks := tk }) :
    wpAny M A (makeFunction name qual params (.stmts body) scope (envX cn cs L a ccd cl) [] [] [] pos firstLine) Q E s := by
  rcases htl with rfl | ⟨c', oc, vs, t, rfl, hoc, hv⟩
  · refine nest_K F N T C hcd (upd_mid (post := []) (fun q hq => hsep q hq _ (.head _)) (fun _ h => nomatch h)) (by trivial) rfl hcl fun f c' oc vs t ctv doc h' tk F' N' hoc hv hlt hcf => ?_
    refine h f c' oc vs t ctv doc h' tk [(16, tabObj #[rawInt 5, rawInt 4, .ref c']), (c', oc)] F' (fun q hq => N' q ?_) (.inr ⟨c', oc, vs, t, rfl, hoc, hv⟩) (.tail _ (.head _)) hoc hv (fun q hq => Nat.lt_trans (hlt q (List.mem_append_left _ hq)) hcf) hcf (fun q hq r hr => ?_)
    rotate_left
    · rcases List.mem_cons.mp hr with rfl | hr
      · exact hsep q hq (16, tabObj #[]) (.head _)
      · rw [List.mem_singleton.mp hr]
        exact Nat.ne_of_lt (hlt q (List.mem_append_left _ hq))
    rw [hpos.1, hpos.2]
    simp only [List.mem_cons, List.mem_append, List.not_mem_nil, or_false] at hq ⊢
    rcases hq with h | h | h | h
    · exact .inl h
    · exact .inr (.inr (.inl h))
    · exact .inr (.inr (.inr (by simpa using h)))
    · exact .inr (.inl h)
  · have e : codeAmong pos (#[rawInt 5, rawInt 4, Value.ref c'] : Array Value).toList = some (.ref c') := by
      simp [codeAmong, rawInt, hpos.1, hpos.2]
    refine nestHit_K F N T C hcd (List.mem_append_right _ (.head _)) (by simp [TriplesOk, rawInt]) e hcl fun f ctv doc h' tk F' N' hlt => ?_
    exact h f c' oc vs t ctv doc h' tk _ F' N' (.inr ⟨c', oc, vs, t, rfl, hoc, hv⟩) (.tail _ (.head _)) hoc hv (fun q hq => hlt q (List.mem_append_left _ hq)) (hlt _ (List.mem_append_right _ (.tail _ (.head _)))) hsep
end

structure AGd (A : Around) (env : Env) (outer : List Env) (d : Nat) : Prop where
  hd : A.handled = none
  fr : A.frames = some (env :: outer)
  gd : A.guards = some []
  dp : A.depth + d ≤ 500
  un : A.units + 8 * d ≤ 500
theorem AGd.deeper {A : Around} {env env' : Env} {outer : List Env} {d d' : Nat} (g : AGd A env outer d) (h : d' < d) : AGd (A.deeper env') env' (env :: outer) d' := by
  have h1 := g.dp
  have h2 := g.un
  exact ⟨g.hd, by show A.frames.map _ = _; rw [g.fr]; rfl, g.gd, by show A.depth + 1 + d' ≤ 500; omega, by show A.units + 3 + 8 * d' ≤ 500; omega⟩

def InnerEnd (g : Heap) (facts : List (Addr × Obj)) (D : Addr) (n : Nat) (s : Shared) (fl : Flow) (s' : Shared) : Prop :=
  retV fl = .none ∧ ∃ h' tk L' m' vs' ns' c'', s' = { s with heap := h', toks := tk } ∧ Fr g L' h' m' ∧ News g L' h' (facts ++ [(D, listOf (List.toArray vs') c'')]) ∧ IntsAre vs' ns' ∧ ns'.length = n

def InnerSpec (prog : Program) (w : World) (K : Frag) (p : Program) (loose : List Str) (mean : ExcName → Option Value) (mg mb : Str → Option Value) (f D : Addr) (facts : List (Addr × Obj)) (n : Nat) (d : Nat) : Prop :=
  ∀ (A A₀ : Around) (env : Env) (outer : List Env) (base h₀ : Heap) (L : Addr) (m : Str → Option Value) (s : Shared) (x lo hi : Int) (tx tl th : Tok) (vs : List Value) (ns : List Int) (c : Nat) (Q : Value → Shared → Prop),
    Below A₀ base outer h₀ → Fr h₀ L s.heap m → Top p loose mean mg mb h₀ → K.In h₀ → env.frame = some L → env.scope.kind = .function → AGd A env outer d →
    News h₀ L s.heap (facts ++ [(D, listOf vs.toArray c)]) → IntsAre vs ns → ns.length = n → hi - lo = (d : Int) → 1 ≤ d → 0 ≤ lo → hi ≤ (n : Int) → 0 ≤ x → x < 2 ^ 60 →
    (∀ h' tk vs' ns' c'', (∀ b o, b ≠ D → s.heap.get? b = some o → h'.get? b = some o) → h'.get? D = some (listOf (List.toArray vs') c'') → IntsAre vs' ns' → ns'.length = n → Q .none { s with heap := h', toks := tk }) →
    wpAny (model prog w) A (call (.ref f) [.int x tx, .int lo tl, .int hi th]) Q (fun _ _ => False) s

section
variable {prog : Program} {w : World} {K : Frag} {mg mb : Str → Option Value} {p : Program} {loose : List Str} {mean : ExcName → Option Value}
theorem inner_rule {name qual : Str} {params : Arguments} {body : List Stmt} {scope : Scope} {cl : List (Str × Addr)} {doc pm ctv : Value} {c' f D : Addr} {oc : Obj} {vs0 : Array Value} {t0 : Tok} {facts : List (Addr × Obj)} {n : Nat}
    (hfm : (f, fnMade name qual params body scope cl doc pm c' ctv) ∈ facts) (hcm : (c', oc) ∈ facts) (hoc : oc.data = .fields vs0) (hv0 : vs0[1]? = some (.str qual t0))
    (hbind : ∀ s x tx lo tl hi th, BindsTo s (fnX name qual params body scope cl .none .none doc pm none (.ref c') ctv) ⟨[.int x tx, .int lo tl, .int hi th], []⟩ [("x", .int x tx), ("L", .int lo tl), ("R", .int hi th)])
    (hloc : ∀ x tx lo tl hi th, ∀ y ∈ ([("x", .int x tx), ("L", .int lo tl), ("R", .int hi th)] : List (Str × Value)), scope.names.lookup y.1 = some .local)
    (hco : scope.isCoroutine = false) (hgen : scope.isGenerator = false) (hk : scope.kind = .function) (hcell : ∀ x ∈ scope.names, x.2 ≠ .cell)
    (step : ∀ d, (∀ d' < d, InnerSpec prog w K p loose mean mg mb f D facts n d') → ∀ (A : Around) (env : Env) (outer : List Env) (base g : Heap) (L' : Addr) (h₁ : Heap) (tk : Nat) (s : Shared) (x lo hi : Int) (tx tl th : Tok) (vs : List Value) (ns : List Int) (c : Nat),
      Below A base (env :: outer) g → Top p loose mean mg mb g → K.In g → AGd A env outer d → Fr g L' h₁ (fun y => ([("x", .int x tx), ("L", .int lo tl), ("R", .int hi th)] : List (Str × Value)).reverse.lookup y) →
      News g L' h₁ (facts ++ [(D, listOf vs.toArray c)]) → IntsAre vs ns → ns.length = n → hi - lo = (d : Int) → 1 ≤ d → 0 ≤ lo → hi ≤ (n : Int) → 0 ≤ x → x < 2 ^ 60 →
      wpAny (model prog w) (A.deeper (envX qual scope L' f (.ref c') cl)) (execs body (envX qual scope L' f (.ref c') cl)) (InnerEnd g facts D n s) (fun _ _ => False) { s with heap := h₁, toks := tk }) :
    ∀ d, InnerSpec prog w K p loose mean mg mb f D facts n d := by
  intro d
  induction d using Nat.strongRecOn with
  | ind d ih =>
    intro A A₀ env outer base h₀ L m s x lo hi tx tl th vs ns c Q B F T X hf hke AG N hi' hn hd h1 h2 h3 h4 h5 hQ
    have hN : (f, fnMade name qual params body scope cl doc pm c' ctv) ∈ facts ++ [(D, listOf vs.toArray c)] := List.mem_append_left _ hfm
    obtain ⟨FG, BG, st, _⟩ := groundX (R := fun _ _ => True) (A := A) B F N AG.fr hf hke
    refine wpAny_call ?_
    refine codeAny_call_def (fd := fnX name qual params body scope cl .none .none doc pm none (.ref c') ctv) (body := body) (binds := [("x", .int x tx), ("L", .int lo tl), ("R", .int hi th)])
      (Nat.lt_of_le_of_lt (Nat.le_trans (Nat.le_add_right _ _) AG.dp) (by decide)) (N _ hN).1 rfl (T.nolimit.keeps F.keep) (codeRec_news N (List.mem_append_left _ hcm) hoc hv0) rfl (hbind _ _ _ _ _ _ _) hcell (hloc _ _ _ _ _ _) (fun h₁ hns hk₁ => ?_) hco hgen hk
    refine wpAny_mono (step d ih A env outer base _ s.heap.objs.size h₁ _ s x lo hi tx tl th vs ns c BG (T.keeps st) (X.keeps st) AG ⟨hns, fun b o e => hk₁ b o (of_hideAll _ e), Nat.le_of_eq (hideAll_size _ _)⟩
      (fun p hp => ⟨hk₁ _ _ (N p hp).1, Nat.ne_of_lt (Heap.lt_size (N p hp).1), hideAll_none _ (List.mem_map_of_mem hp)⟩) hi' hn hd h1 h2 h3 h4 h5) (fun fl s' hl => ?_) fun _ _ y => y.elim
    obtain ⟨hr, h', tk', L₂, m₂, vs', ns', c'', rfl, F₂, N₂, hi₂, hn₂⟩ := hl
    suffices key : Q .none { s with heap := h', toks := tk' } by
      cases fl with
      | ret v => have e : v = .none := hr; subst e; exact key
      | next => exact key
      | brk => exact key
      | cont => exact key
    refine hQ h' tk' vs' ns' c'' (fun b o hb eb => ?_) (N₂ (D, listOf (List.toArray vs') c'') (List.mem_append_right _ (.head _))).1 hi₂ hn₂
    by_cases hm : b ∈ (facts ++ [(D, listOf vs.toArray c)]).map (·.1)
    · obtain ⟨q, hq, e2⟩ := List.mem_map.mp hm
      have e2' : q.1 = b := e2
      subst e2'
      rcases List.mem_append.mp hq with hq | hq
      · have e3 := (N q (List.mem_append_left _ hq)).1
        rw [eb] at e3
        cases e3
        exact (N₂ q (List.mem_append_left _ hq)).1
      · rw [List.mem_singleton.mp hq] at hb
        exact absurd rfl hb
    · exact F₂.keep b o (hideAll_get _ eb hm)
end
end Mine
end
theorem Mine.off_T4 : True := by
  w_top off
  trivial

section
open PySem PySem.W PySem.Calls PyProof.Rows
set_option Elab.async false
set_option maxRecDepth 100000
namespace Mine
def i2dQual : Str := "_int2digits.<locals>.inner"
theorem ints_rep0 (n : Nat) (t : Tok) : IntsAre (List.replicate n (Value.int 0 t)) (List.replicate n 0) := by
  induction n with
  | zero => exact .nil
  | succ n ih => rw [List.replicate_succ, List.replicate_succ]; exact .cons 0 t ih
theorem off_up {tl : List (Addr × Obj)} {L : Addr} (h : ∀ q ∈ tl, q.1 < L) : OwnOff tl [L + 1, L + 1 + 1, L + 1 + 1 + 1] := fun q hq b hb => by
  have h3 : @LT.lt Nat _ q.1 L := h q hq
  have hb' : @LT.lt Nat _ L b := by
    rcases List.mem_cons.mp hb with rfl | hb
    · exact Nat.lt_succ_self _
    · rcases List.mem_cons.mp hb with rfl | hb
      · exact Nat.lt_succ_of_lt (Nat.lt_succ_self _)
      · rw [List.mem_singleton.mp hb]; exact Nat.lt_succ_of_lt (Nat.lt_succ_of_lt (Nat.lt_succ_self _))
  exact Nat.ne_of_lt (Nat.lt_trans h3 hb')
theorem sep4 {tl : List (Addr × Obj)} {D L : Addr} {o1 o2 o3 o4 : Obj} (l2 : AllLt D tl) (ho : OwnOff tl [L + 1, L + 1 + 1, L + 1 + 1 + 1]) :
    ∀ p ∈ ([(D, o1), (L + 1 + 1 + 1, o2), (L + 1 + 1, o3), (L + 1, o4)] : List (Addr × Obj)), ∀ q ∈ tl, p.1 ≠ q.1 := by
  intro q hq r hr
  rcases List.mem_cons.mp hq with rfl | hq
  · exact Nat.ne_of_gt (kst_ltOf l2 r hr)
  · refine Ne.symm (ho r hr _ ?_)
    simp only [List.mem_cons, List.not_mem_nil, or_false] at hq
    rcases hq with rfl | rfl | rfl <;> simp
theorem off4 {tl : List (Addr × Obj)} {D L : Addr} {o1 o2 o3 o4 : Obj} (h : ∀ p ∈ ([(D, o1), (L + 1 + 1 + 1, o2), (L + 1 + 1, o3), (L + 1, o4)] : List (Addr × Obj)), ∀ q ∈ tl, p.1 ≠ q.1) :
    OwnOff tl [L + 1, L + 1 + 1, L + 1 + 1 + 1, D] := fun q hq b hb => by
  simp only [List.mem_cons, List.not_mem_nil, or_false] at hb
  rcases hb with rfl | rfl | rfl | rfl
  · exact Ne.symm (h (L + 1, o4) (.tail _ (.tail _ (.tail _ (.head _)))) q hq)
  · exact Ne.symm (h (L + 1 + 1, o3) (.tail _ (.tail _ (.head _))) q hq)
  · exact Ne.symm (h (L + 1 + 1 + 1, o2) (.tail _ (.head _)) q hq)
  · exact Ne.symm (h _ (.head _) q hq)
theorem bits_eq {x : Int} (h : 1 ≤ x) : ((Builtin.Int.intBits x : Int) + 1 - 1).fdiv 1 = (x.toNat.log2 : Int) + 1 := by
  have e : (x == 0) = false := by simp; omega
  have e2 : x.natAbs = x.toNat := by omega
  rw [Int.fdiv_one]
  unfold Builtin.Int.intBits
  rw [e, e2]
  simp
theorem log_le {x : Int} (h : 1 ≤ x) (h2 : x ≤ 12) : x.toNat.log2 ≤ 3 := by
  have : x.toNat.log2 < 4 := (Nat.log2_lt (by omega)).mpr (by omega)
  omega
theorem and_nat (a b : Nat) : Builtin.bitAnd (a : Int) (b : Int) = ((a &&& b : Nat) : Int) := by
  unfold Builtin.bitAnd
  simp
theorem and_low (n s : Nat) : n &&& (n / 2 ^ s * 2 ^ s) = n / 2 ^ s * 2 ^ s := by
  rw [← Nat.shiftRight_eq_div_pow, ← Nat.shiftLeft_eq]
  apply Nat.eq_of_testBit_eq
  intro i
  simp only [Nat.testBit_and, Nat.testBit_shiftLeft, Nat.testBit_shiftRight]
  by_cases h : i ≥ s
  · simp [h, Nat.add_sub_cancel' h]
  · simp [h]
theorem low_ok {x : Int} {s : Nat} (h : 0 ≤ x) : 0 ≤ x.fdiv (2 ^ s) ∧ x.fdiv (2 ^ s) ≤ x ∧ 0 ≤ Builtin.bitXor x (x.fdiv (2 ^ s) * 2 ^ s) ∧ Builtin.bitXor x (x.fdiv (2 ^ s) * 2 ^ s) ≤ x := by
  obtain ⟨n, rfl⟩ := Int.eq_ofNat_of_zero_le h
  have hp : (0 : Int) ≤ 2 ^ s := Int.le_of_lt (Int.pow_pos (by decide))
  have e : ((n : Int)).fdiv (2 ^ s) = ((n / 2 ^ s : Nat) : Int) := by
    rw [Int.fdiv_eq_ediv_of_nonneg _ hp]
    norm_cast
  have e2 : ((n / 2 ^ s : Nat) : Int) * 2 ^ s = ((n / 2 ^ s * 2 ^ s : Nat) : Int) := by norm_cast
  have h1 : n / 2 ^ s ≤ n := Nat.div_le_self _ _
  have h2 : n / 2 ^ s * 2 ^ s ≤ n := Nat.div_mul_le_self _ _
  rw [e, e2, bitXor_and, and_nat, and_low]
  revert h1 h2
  generalize n / 2 ^ s * 2 ^ s = r
  generalize n / 2 ^ s = q
  intro h1 h2
  omega
end Mine
end
theorem Mine.off_T5a : True := by
  w_top off
  trivial

section
open PySem PySem.W PySem.Calls PyProof.Rows
set_option Elab.async false
set_option maxRecDepth 100000
namespace Mine
local macro_rules | `(tactic| walk_at "m_steps") => `(tactic| repeat' ((fail_if_success (with_reducible show wpAny _ _ (exec (Stmt.While _ _ _ _) _) _ _ _)); (fail_if_success (with_reducible show wpAny _ _ (PySem.call (Value.ref _) _ _) _ _ _)); first | (k_unfold; (try dsimp only)) | (k_end; wrow_close) | walk1 | (dsimp only; walk1) | (leave1; walk_say "STEP leave1"; try dsimp only) | fail "no step"))

set_option maxHeartbeats 1000000 in
theorem i2d {w : World} {s : Shared} {base h₀ : Heap} {L : Addr} {m : Str → Option Value} {mg mb : Str → Option Value} {p : Program} {loose : List Str} {mean : ExcName → Option Value} {A₀ A : Around} {env : Env} {outer : List Env} {tl : List (Addr × Obj)} {Q : Value → Shared → Prop}
    (B : Below A₀ base outer h₀) (F : Fr h₀ L s.heap m) (X : (hd.heap_39 w.params).In h₀) (T : Top p loose mean mg mb h₀) (hf : env.frame = some L) (hke : env.scope.kind = .function) (AG : AGd A env outer 9)
    (C : CodeHd h₀ 20 16) (htl : TabL i2dQual tl) (N : News h₀ L s.heap tl) {x : Int} {tx t1 : Tok} (h1 : 1 ≤ x) (h2 : x ≤ 12)
    (hQ : ∀ D vs c h' tk tl', (∀ b o, b ∉ tl.map (·.1) → s.heap.get? b = some o → h'.get? b = some o) → h'.get? D = some (listOf (List.toArray vs) c) → s.heap.get? D = none → (vs.length : Int) = (x.toNat.log2 : Int) + 1 → TabL i2dQual tl' → (∀ q ∈ tl', h'.get? q.1 = some q.2) →
      (∀ q ∈ tl', q.1 ∈ tl.map (·.1) ∨ s.heap.get? q.1 = none) → Q (.ref D) { s with heap := h', toks := tk }) :
    wpAny (model PySem.Challenge.rw_hd0004_01.row.prog w) A (call (.ref 21) [.int x tx, .int 1 t1]) Q (fun _ _ => False) s := by
  (revert X; k_fill; intro X)
  refine' callHC (binds := [("a", .int x tx), ("n", .int 1 t1)]) B F N X T AG.fr hf hke ?k6 ?k7 ?k8 ?k9 ?kB ?kD ?_ ?c2 ?c3 ?c4; (case k6 => k_dflt k_is); (case k7 => k_dflt k_is); (case k8 => exact Nat.lt_of_le_of_lt (Nat.le_trans (Nat.le_add_right _ _) AG.dp) (by decide)); (case k9 => exact BindsTo.of_eq rfl); (case kB => exact rfl); (case kD => decide +kernel); (case c2 => exact rfl); (case c3 => exact rfl); (case c4 => exact rfl); intro g L' h' tk' cells' stg kg ng F' N' Y' B' X' T' l1; k_cells Y'; (try simp only [List.cons_append, List.nil_append] at N'); (try dsimp only)
  (try k_fold)
  clear B F N X T
  have hoffc : OwnOff tl [L' + 1, L' + 1 + 1, L' + 1 + 1 + 1] := off_up l1
  have hMk := kstMark
  walk_at "m_steps"
  obtain ⟨y, hy, y1, y2, y3⟩ : ∃ y : Int, ((Builtin.Int.intBits x : Int) + 1 - 1).fdiv 1 = y ∧ y = (x.toNat.log2 : Int) + 1 ∧ 1 ≤ y ∧ y ≤ 4 := by
    have hl := log_le h1 h2
    exact ⟨(x.toNat.log2 : Int) + 1, bits_eq h1, rfl, by omega, by omega⟩
  rw [hy]
  rename News _ _ _ _ => N1
  rename Fr _ _ _ _ => F1
  refine KMa.mul (ws := List.replicate y.toNat (.int 0 tk')) F1 N1 (News.isList N1 (.head _)) (by omega) (by omega) (by simp only [List.length_cons, List.length_nil]; omega) (lm_rep_flat_one _ _) ?_
  intro D h2' F2 N2 l2
  k_lt l2
  clear N1 F1
  walk_at "m_steps"
  refine nestDef_K rfl rfl rfl ?_
  rename News _ _ _ _ => N3
  rename Fr _ _ _ _ => F3
  have N4 := kst_newsOf (l' := (D, _) :: (L' + 1 + 1 + 1, _) :: (L' + 1 + 1, _) :: (L' + 1, _) :: tl) N3 (fun q hq => by
    rcases List.mem_cons.mp hq with rfl | hq
    · exact .head _
    · exact .tail _ (.tail _ hq))
  refine nest_any (pre := [_, _, _, _]) F3 N4 T' (C.keeps stg) rfl htl (sep4 l2.2.2.2.2 hoffc) ⟨rfl, rfl⟩ rfl ?_
  intro f c' oc vs0 t0 ctv doc h5 tk5 tl' F5 N5 htl' hc' hoc hv0 l5 hcf hsep'
  simp only [List.cons_append, List.nil_append] at N5
  k_lt l5
  have hoff5 := off4 hsep'
  clear N3 F3 N4
  walk_at "m_steps"
  all_goals try (exfalso; have hx0 : x ≠ 0 := by omega
                 contradiction)
  rename News _ _ _ _ => N6
  rename Fr _ _ _ _ => F6
  refine KM.len_K (n := y.toNat) N6 (by k_mem) (by simp) (by omega) ?_
  walk_at "m_steps"
  have N7 := kst_newsOf (l' := [(f, _), (c', oc), (L' + 1 + 1 + 1, _), (L' + 1 + 1, _), (L' + 1, _)] ++ [(D, _)]) N6 (fun q hq => by
    simp only [List.cons_append, List.nil_append] at hq
    rcases List.mem_cons.mp hq with rfl | hq
    · exact .head _
    rcases List.mem_cons.mp hq with rfl | hq
    · exact List.Mem.tail _ (List.Mem.tail _ (List.Mem.tail _ (List.Mem.tail _ (List.Mem.tail _ hc'))))
    rcases List.mem_cons.mp hq with rfl | hq
    · exact .tail _ (.tail _ (.head _))
    rcases List.mem_cons.mp hq with rfl | hq
    · exact .tail _ (.tail _ (.tail _ (.head _)))
    rcases List.mem_cons.mp hq with rfl | hq
    · exact .tail _ (.tail _ (.tail _ (.tail _ (.head _))))
    rw [List.mem_singleton.mp hq]
    exact .tail _ (.head _))
  refine' inner_rule (facts := [(f, _), (c', oc), (L' + 1 + 1 + 1, _), (L' + 1 + 1, _), (L' + 1, _)]) (n := y.toNat) ?hfm ?hcm hoc hv0 ?hbi ?hlo ?hco ?hge ?hkf ?hce ?step y.toNat _ _ _ _ _ _ _ _ _ x 0 (y.toNat : Int) _ _ _ _ (List.replicate y.toNat 0) _ _ B' ?hF6 T' X' ?hf2 ?hk2 ?ag ?hN7 ?hints ?hle ?hdd ?hd1 ?h0 ?hyn ?hx0 ?hx1 ?fin
  case ag => exact AG.deeper (d' := y.toNat) (by omega)
  case hf2 => exact rfl
  case hk2 => exact rfl
  case hF6 => exact F6
  case hN7 => exact N7
  case hfm => exact .head _
  case hcm => exact .tail _ (.head _)
  case hbi => exact (fun _ _ _ _ _ _ _ => BindsTo.of_eq rfl)
  case hlo => exact (fun _ _ _ _ _ _ => locs rfl)
  case hco => exact rfl
  case hge => exact rfl
  case hkf => exact rfl
  case hce => decide
  case hle => simp
  case hdd => omega
  case hd1 => omega
  case h0 => omega
  case hyn => omega
  case hx0 => omega
  case hx1 => omega
  case hints => exact ints_rep0 _ _
  case fin =>
    intro h8 tk8 vs8 ns8 c8 hk8 hD8 hi8 hn8
    obtain ⟨F8, N8⟩ := upd_ext F6 N6 (D := D) (o' := listOf (List.toArray vs8) c8) (by k_upd) hk8 hD8
    clear F6 N6 N7
    walk_at "m_steps"
    have hN8 := fun q (hq : q ∈ tl') => N8 q (List.mem_cons_of_mem _ (List.mem_cons_of_mem _ (List.mem_cons_of_mem _ (List.mem_cons_of_mem _ (List.mem_cons_of_mem _ hq)))))
    refine ⟨L', _, _, F8, N8, fun hkeep => hQ D vs8 c8 _ _ tl' hkeep hD8 (ng _ (N8 (D, _) (.tail _ (.head _))).2.2 (fun hm => by
      obtain ⟨q, hq, e⟩ := List.mem_map.mp hm
      exact absurd e (Nat.ne_of_lt (kst_ltOf l2.2.2.2.2 q hq)))) ?_ htl' (fun q hq => (hN8 q hq).1) (fun q hq => ?_)⟩
    · have e8 := hi8.length
      omega
    · by_cases hm : q.1 ∈ tl.map (·.1)
      · exact .inl hm
      · exact .inr (ng _ (hN8 q hq).2.2 hm)
  case step =>
    intro d IH A2 env2 outer2 base2 g2 L2 h2 tk2 s2 x2 lo hi tx2 tlo thi vs2 ns2 c2 B2 T2 X2 AG2 F2 N2 hi2 hn2 hd hd1 hlo hhi hx0 hx1
    clear B' T' X' N7
    simp only [List.cons_append, List.nil_append] at N2
    walk_at "m_steps"
    · rename News _ _ _ _ => N3
      rename Fr _ _ _ _ => F3
      have hcD : c' ≠ D := hoff5 _ hc' D (by simp)
      refine ksa_set F3 N3 (by k_upd) hi2 (by omega) (by omega) (by omega) ?_
      intro h3 F4 N4 hi4 hl4 _
      walk_at "m_steps"
      exact ⟨rfl, _, _, _, _, _, _, _, rfl, F4, N4, hi4, by rw [hl4]; exact hn2⟩
    · have hgen : ∃ md : Int, (lo + hi).fdiv (2 ^ Int.toNat 1) = md ∧ lo < md ∧ md < hi := by
        refine ⟨_, rfl, ?_⟩
        rw [show ((2 : Int) ^ Int.toNat 1) = 2 by decide, Int.fdiv_eq_ediv_of_nonneg _ (by decide)]
        omega
      obtain ⟨md, hmd, m1, m2⟩ := hgen
      rw [hmd]
      rename News _ _ _ _ => N3
      rename Fr _ _ _ _ => F3
      rw [hmd] at F3
      have lk := low_ok (x := x2) (s := ((md - lo) * 1).toNat) hx0
      refine rshift_int (by omega) ?_
      walk_at "m_steps"
      (try clear N3 F3)
      rename News _ _ _ _ => N5
      rename Fr _ _ _ _ => F5
      have hcD : c' ≠ D := hoff5 _ hc' D (by simp)
      refine' IH (md - lo).toNat ?lt1 _ A2 _ (env2 :: outer2) base2 g2 L2 _ _ _ lo md _ _ _ vs2 ns2 c2 _ B2 ?F1 T2 X2 ?hf1 ?hk1 ?ag1 ?N1 hi2 hn2 ?q1 ?q2 hlo ?q3 ?q4 ?q5 ?fin1
      case ag1 => exact AG2.deeper (d' := (md - lo).toNat) (by omega)
      case hf1 => exact rfl
      case hk1 => exact rfl
      case F1 => exact F5
      case N1 => exact N5
      case lt1 => omega
      case q1 => omega
      case q2 => omega
      case q3 => omega
      case q4 => exact lk.2.2.1
      case q5 => exact Int.lt_of_le_of_lt lk.2.2.2 hx1
      case fin1 =>
        intro h6 tk6 vs6 ns6 c6 hk6 hD6 hi6 hn6
        obtain ⟨F6, N6⟩ := upd_ext F5 N5 (D := D) (o' := listOf (List.toArray vs6) c6) (by k_upd) hk6 hD6
        clear F5 N5
        walk_at "m_steps"
        rename News _ _ _ _ => N7
        rename Fr _ _ _ _ => F7
        refine' IH (hi - md).toNat ?lt2 _ A2 _ (env2 :: outer2) base2 g2 L2 _ _ _ md hi _ _ _ vs6 ns6 c6 _ B2 ?F2 T2 X2 ?hf2 ?hk2 ?ag2 ?N2 hi6 hn6 ?r1 ?r2 ?r6 ?r3 ?r4 ?r5 ?fin2
        case ag2 => exact AG2.deeper (d' := (hi - md).toNat) (by omega)
        case hf2 => exact rfl
        case hk2 => exact rfl
        case F2 => exact F7
        case N2 => exact N7
        case lt2 => omega
        case r1 => omega
        case r2 => omega
        case r3 => omega
        case r6 => omega
        case r4 => exact lk.1
        case r5 => exact Int.lt_of_le_of_lt lk.2.1 hx1
        case fin2 =>
          intro h8 tk8 vs8 ns8 c8 hk8 hD8 hi8 hn8
          obtain ⟨F8, N8⟩ := upd_ext F7 N7 (D := D) (o' := listOf (List.toArray vs8) c8) (by k_upd) hk8 hD8
          walk_at "m_steps"
          exact ⟨rfl, _, _, _, _, _, _, _, rfl, F8, N8, hi8, hn8⟩
end Mine
end
theorem Mine.off_T5 : True := by
  w_top off
  trivial

section
open PySem PySem.W PySem.Calls PyProof.Rows
set_option Elab.async false
set_option maxRecDepth 100000
namespace Mine
local macro_rules | `(tactic| walk_at "m_steps") => `(tactic| repeat' ((fail_if_success (with_reducible show wpAny _ _ (exec (Stmt.While _ _ _ _) _) _ _ _)); (fail_if_success (with_reducible show wpAny _ _ (PySem.call (Value.ref _) _ _) _ _ _)); (fail_if_success (with_reducible show wpAny _ _ (subscriptTail _ _ (Value.ref _) (Value.int _ _)) _ _ _)); first | (k_unfold; (try dsimp only)) | (k_end; wrow_close) | walk1 | (dsimp only; walk1) | (leave1; walk_say "STEP leave1"; try dsimp only) | fail "no step"))

theorem Rows.get {ns : List Int} {tn : List (Addr × Obj)} : ∀ {us : List Value} {j : Nat}, Rows ns tn j us → ∀ i, i < us.length → ∃ a vs c r, us[i]? = some (.ref a) ∧ (a, listOf (List.toArray vs) c) ∈ tn ∧ IntsAre vs r ∧ RowOk ns (j + i) r
  | _, _, .nil, i, h => absurd h (Nat.not_lt_zero _)
  | _, _, .cons hm hi hr _, 0, _ => ⟨_, _, _, _, rfl, hm, hi, hr⟩
  | _, j, .cons _ _ _ rest, i + 1, h => by
    obtain ⟨a, vs, c, r, e, hm, hi, hr⟩ := rest.get i (by simpa using h)
    exact ⟨a, vs, c, r, e, hm, hi, by rw [show j + (i + 1) = j + 1 + i by omega]; exact hr⟩
theorem least_val {ns r : List Int} {z : Nat} {lo hi : Int} {p : Int} (hr : RowOk ns z r) (hp : p = ((2 ^ z : Nat) : Int)) (h0 : 0 ≤ lo) (h1 : lo < hi) (h2 : hi ≤ (ns.length : Int)) (h3 : p ≤ hi - lo) (h4 : hi - lo ≤ 2 * p) :
    (if r.getD (hi - p).toNat 0 < r.getD lo.toNat 0 then r.getD (hi - p).toNat 0 else r.getD lo.toNat 0) = wmin ns lo.toNat (hi - lo).toNat := by
  have hpos : 1 ≤ 2 ^ z := Nat.one_le_two_pow
  rw [← min_if]
  have hl := hr.1
  rw [hr.2 lo.toNat (by omega), hr.2 (hi - p).toNat (by omega)]
  have := wmin_cover (ns := ns) (i := lo.toNat) (p := 2 ^ z) (len := (hi - lo).toNat) hpos (by omega) (by omega)
  rw [← this]
  congr 2
  omega
theorem log_cases {d : Nat} (h1 : 1 ≤ d) (h2 : d ≤ 12) : (d.log2 = 0 ∧ 1 ≤ d ∧ d ≤ 2) ∨ (d.log2 = 1 ∧ 2 ≤ d ∧ d ≤ 4) ∨ (d.log2 = 2 ∧ 4 ≤ d ∧ d ≤ 8) ∨ (d.log2 = 3 ∧ 8 ≤ d ∧ d ≤ 16) := by
  have h : d = 1 ∨ d = 2 ∨ d = 3 ∨ d = 4 ∨ d = 5 ∨ d = 6 ∨ d = 7 ∨ d = 8 ∨ d = 9 ∨ d = 10 ∨ d = 11 ∨ d = 12 := by omega
  rcases h with rfl | rfl | rfl | rfl | rfl | rfl | rfl | rfl | rfl | rfl | rfl | rfl <;> decide

set_option maxHeartbeats 1000000 in
theorem least {w : World} {s : Shared} {base h₀ : Heap} {L : Addr} {m : Str → Option Value} {mg mb : Str → Option Value} {p : Program} {loose : List Str} {mean : ExcName → Option Value} {A₀ A : Around} {env : Env} {outer : List Env} {tl : List (Addr × Obj)} {Q : Value → Shared → Prop}
    (B : Below A₀ base outer h₀) (F : Fr h₀ L s.heap m) (X : (hd.heap_39 w.params).In h₀) (T : Top p loose mean mg mb h₀) (hf : env.frame = some L) (hke : env.scope.kind = .function) (AG : AGd A env outer 12)
    (C : CodeHd h₀ 20 16) (htl : TabL i2dQual tl) (N : News h₀ L s.heap tl)
    {t : Addr} {us : List Value} {c : Nat} {ns : List Int} {tn : List (Addr × Obj)} (htn : ∀ q ∈ tn, s.heap.get? q.1 = some q.2) (hsep : ∀ p ∈ tn, ∀ q ∈ tl, p.1 ≠ q.1) (ht : (t, listOf us.toArray c) ∈ tn) (hrow : Rows ns tn 0 us) (hlev : ∀ j, 2 ^ j ≤ ns.length → j < us.length)
    {lo hi : Int} {tlo thi : Tok} (h0 : 0 ≤ lo) (h1 : lo < hi) (h2 : hi ≤ (ns.length : Int)) (hn : ns.length ≤ 12)
    (hQ : ∀ t h' tk tl', (∀ b o, b ∉ tl.map (·.1) → s.heap.get? b = some o → h'.get? b = some o) → TabL i2dQual tl' → (∀ q ∈ tl', h'.get? q.1 = some q.2) →
      (∀ q ∈ tl', q.1 ∈ tl.map (·.1) ∨ s.heap.get? q.1 = none) → Q (.int (wmin ns lo.toNat (hi - lo).toNat) t) { s with heap := h', toks := tk }) :
    wpAny (model PySem.Challenge.rw_hd0004_01.row.prog w) A (call (.ref 60) [.ref t, .int lo tlo, .int hi thi]) Q (fun _ _ => False) s := by
  (revert X; k_fill; intro X)
  have AG1 := AG.dp
  have AG2 := AG.un
  refine upN 488 404 AG.hd AG.fr AG.gd (by omega) (by omega) ?_
  replace AG : AGd (SN 488 404 env outer) env outer 12 := ⟨rfl, rfl, rfl, Nat.le_of_ble_eq_true rfl, Nat.le_of_ble_eq_true rfl⟩
  clear AG1 AG2
  refine' callH (binds := [("table", .ref t), ("low", .int lo tlo), ("high", .int hi thi)]) B F N X T AG.fr hf hke ?k6 ?k7 ?k8 ?k9 ?kB ?_ ?c2 ?c3 ?c4 ?c5; (case k6 => k_dflt k_is); (case k7 => k_dflt k_is); (case k8 => exact Nat.le_of_ble_eq_true rfl); (case k9 => exact BindsTo.of_eq rfl); (case kB => exact locs rfl); (case c2 => exact rfl); (case c3 => exact rfl); (case c4 => exact rfl); (case c5 => decide); intro g L' h' stg kg ng F' N' B' X' T' l1; (try dsimp only)
  have htg : ∀ q ∈ tn, g.get? q.1 = some q.2 := fun q hq => kg _ _ (fun hm => by obtain ⟨r, hr, e⟩ := List.mem_map.mp hm; exact hsep q hq r hr e.symm) (htn q hq)
  clear B F N X T
  walk_at "m_steps"
  refine' i2d B' F' X' T' ?hf1 ?hk1 ?ag1 (C.keeps stg) htl N' ?q1 ?q2 ?fin
  case ag1 => exact AG.deeper (d' := 9) (by omega)
  case hf1 => exact rfl
  case hk1 => exact rfl
  case q1 => omega
  case q2 => omega
  case fin =>
    intro D vs5 c5 h5 tk5 tl5 hk5 hD5 hDf5 hlen5 htl5 hg5 hf5
    have N5 := news_tab F' N' hg5 hf5
    have F5 := fr_tab F' N' hk5
    have ND : News g L' h5 ((D, listOf (List.toArray vs5) c5) :: tl5) := fun q hq => by
      rcases List.mem_cons.mp hq with rfl | hq
      · exact news_fresh F' hDf5 hD5
      · exact N5 q hq
    clear F' N' N5
    walk_at "m_steps"
    have hD := News.isList ND (.head _)
    rcases log_cases (d := (hi - lo).toNat) (by omega) (by omega) with ⟨hz, z1, z2⟩ | ⟨hz, z1, z2⟩ | ⟨hz, z1, z2⟩ | ⟨hz, z1, z2⟩
    all_goals (rw [hz] at hlen5)
    · obtain ⟨a0, vs0, c0, r0, hu0, hm0, hi0, hr0⟩ := hrow.get 0 (hlev 0 (by omega))
      have hl0 : (r0.length : Int) = (ns.length : Int) + 1 - 1 := by have := hr0.1; omega
      refine len_is (k := 1) hD (by rw [List.size_toArray]; omega) (by decide) ?_
      walk_at "m_steps"
      rename Fr _ _ _ _ => F6
      refine item_val (us := us) (v := .ref a0) ⟨_, F6.keep _ _ (htg _ ht), rfl, c, rfl⟩ (by decide) (by decide) hu0 ?_
      walk_at "m_steps"
      refine item_int ⟨_, F6.keep _ _ (htg _ hm0), rfl, c0, rfl⟩ hi0 h0 (by omega) (by omega) ?_
      intro ta
      walk_at "m_steps"
      rename Fr _ _ _ _ => F7
      refine item_val (us := us) (v := .ref a0) ⟨_, F7.keep _ _ (htg _ ht), rfl, c, rfl⟩ (by decide) (by decide) hu0 ?_
      walk_at "m_steps"
      have e2 : (2 : Int) ^ (if (1 - 1 : Int) > 0 then 1 - 1 else 0 : Int).toNat = 1 := by decide
      rw [e2]
      rename Fr _ _ _ _ => F8
      refine item_int ⟨_, F8.keep _ _ (htg _ hm0), rfl, c0, rfl⟩ hi0 (by omega) (by omega) (by omega) ?_
      intro tb
      walk_at "m_steps"
      have ev := least_val (p := 1) hr0 rfl h0 h1 h2 (by omega) (by omega)
      rename News _ _ _ _ => N9
      rename Fr _ _ _ _ => F9
      refine ⟨L', _, _, F9, N9, fun hkeep => ?_⟩
      show Q (.int (if r0.getD (hi - 1).toNat 0 < r0.getD lo.toNat 0 then r0.getD (hi - 1).toNat 0 else r0.getD lo.toNat 0) _) _
      rw [ev]
      refine hQ _ _ _ tl5 hkeep htl5 (fun q hq => (N9 q (List.mem_cons_of_mem _ hq)).1) (fun q hq => ?_)
      by_cases hm : q.1 ∈ tl.map (·.1)
      · exact .inl hm
      · exact .inr (ng _ (N9 q (List.mem_cons_of_mem _ hq)).2.2 hm)
    · obtain ⟨a0, vs0, c0, r0, hu0, hm0, hi0, hr0⟩ := hrow.get 1 (hlev 1 (by omega))
      have hl0 : (r0.length : Int) = (ns.length : Int) + 1 - 2 := by have := hr0.1; omega
      refine len_is (k := 2) hD (by rw [List.size_toArray]; omega) (by decide) ?_
      walk_at "m_steps"
      rename Fr _ _ _ _ => F6
      refine item_val (us := us) (v := .ref a0) ⟨_, F6.keep _ _ (htg _ ht), rfl, c, rfl⟩ (by decide) (by decide) hu0 ?_
      walk_at "m_steps"
      refine item_int ⟨_, F6.keep _ _ (htg _ hm0), rfl, c0, rfl⟩ hi0 h0 (by omega) (by omega) ?_
      intro ta
      walk_at "m_steps"
      rename Fr _ _ _ _ => F7
      refine item_val (us := us) (v := .ref a0) ⟨_, F7.keep _ _ (htg _ ht), rfl, c, rfl⟩ (by decide) (by decide) hu0 ?_
      walk_at "m_steps"
      have e2 : (2 : Int) ^ (if (2 - 1 : Int) > 0 then 2 - 1 else 0 : Int).toNat = 2 := by decide
      rw [e2]
      rename Fr _ _ _ _ => F8
      refine item_int ⟨_, F8.keep _ _ (htg _ hm0), rfl, c0, rfl⟩ hi0 (by omega) (by omega) (by omega) ?_
      intro tb
      walk_at "m_steps"
      have ev := least_val (p := 2) hr0 rfl h0 h1 h2 (by omega) (by omega)
      rename News _ _ _ _ => N9
      rename Fr _ _ _ _ => F9
      refine ⟨L', _, _, F9, N9, fun hkeep => ?_⟩
      show Q (.int (if r0.getD (hi - 2).toNat 0 < r0.getD lo.toNat 0 then r0.getD (hi - 2).toNat 0 else r0.getD lo.toNat 0) _) _
      rw [ev]
      refine hQ _ _ _ tl5 hkeep htl5 (fun q hq => (N9 q (List.mem_cons_of_mem _ hq)).1) (fun q hq => ?_)
      by_cases hm : q.1 ∈ tl.map (·.1)
      · exact .inl hm
      · exact .inr (ng _ (N9 q (List.mem_cons_of_mem _ hq)).2.2 hm)
    · obtain ⟨a0, vs0, c0, r0, hu0, hm0, hi0, hr0⟩ := hrow.get 2 (hlev 2 (by omega))
      have hl0 : (r0.length : Int) = (ns.length : Int) + 1 - 4 := by have := hr0.1; omega
      refine len_is (k := 3) hD (by rw [List.size_toArray]; omega) (by decide) ?_
      walk_at "m_steps"
      rename Fr _ _ _ _ => F6
      refine item_val (us := us) (v := .ref a0) ⟨_, F6.keep _ _ (htg _ ht), rfl, c, rfl⟩ (by decide) (by decide) hu0 ?_
      walk_at "m_steps"
      refine item_int ⟨_, F6.keep _ _ (htg _ hm0), rfl, c0, rfl⟩ hi0 h0 (by omega) (by omega) ?_
      intro ta
      walk_at "m_steps"
      rename Fr _ _ _ _ => F7
      refine item_val (us := us) (v := .ref a0) ⟨_, F7.keep _ _ (htg _ ht), rfl, c, rfl⟩ (by decide) (by decide) hu0 ?_
      walk_at "m_steps"
      have e2 : (2 : Int) ^ (if (3 - 1 : Int) > 0 then 3 - 1 else 0 : Int).toNat = 4 := by decide
      rw [e2]
      rename Fr _ _ _ _ => F8
      refine item_int ⟨_, F8.keep _ _ (htg _ hm0), rfl, c0, rfl⟩ hi0 (by omega) (by omega) (by omega) ?_
      intro tb
      walk_at "m_steps"
      have ev := least_val (p := 4) hr0 rfl h0 h1 h2 (by omega) (by omega)
      rename News _ _ _ _ => N9
      rename Fr _ _ _ _ => F9
      refine ⟨L', _, _, F9, N9, fun hkeep => ?_⟩
      show Q (.int (if r0.getD (hi - 4).toNat 0 < r0.getD lo.toNat 0 then r0.getD (hi - 4).toNat 0 else r0.getD lo.toNat 0) _) _
      rw [ev]
      refine hQ _ _ _ tl5 hkeep htl5 (fun q hq => (N9 q (List.mem_cons_of_mem _ hq)).1) (fun q hq => ?_)
      by_cases hm : q.1 ∈ tl.map (·.1)
      · exact .inl hm
      · exact .inr (ng _ (N9 q (List.mem_cons_of_mem _ hq)).2.2 hm)
    · obtain ⟨a0, vs0, c0, r0, hu0, hm0, hi0, hr0⟩ := hrow.get 3 (hlev 3 (by omega))
      have hl0 : (r0.length : Int) = (ns.length : Int) + 1 - 8 := by have := hr0.1; omega
      refine len_is (k := 4) hD (by rw [List.size_toArray]; omega) (by decide) ?_
      walk_at "m_steps"
      rename Fr _ _ _ _ => F6
      refine item_val (us := us) (v := .ref a0) ⟨_, F6.keep _ _ (htg _ ht), rfl, c, rfl⟩ (by decide) (by decide) hu0 ?_
      walk_at "m_steps"
      refine item_int ⟨_, F6.keep _ _ (htg _ hm0), rfl, c0, rfl⟩ hi0 h0 (by omega) (by omega) ?_
      intro ta
      walk_at "m_steps"
      rename Fr _ _ _ _ => F7
      refine item_val (us := us) (v := .ref a0) ⟨_, F7.keep _ _ (htg _ ht), rfl, c, rfl⟩ (by decide) (by decide) hu0 ?_
      walk_at "m_steps"
      have e2 : (2 : Int) ^ (if (4 - 1 : Int) > 0 then 4 - 1 else 0 : Int).toNat = 8 := by decide
      rw [e2]
      rename Fr _ _ _ _ => F8
      refine item_int ⟨_, F8.keep _ _ (htg _ hm0), rfl, c0, rfl⟩ hi0 (by omega) (by omega) (by omega) ?_
      intro tb
      walk_at "m_steps"
      have ev := least_val (p := 8) hr0 rfl h0 h1 h2 (by omega) (by omega)
      rename News _ _ _ _ => N9
      rename Fr _ _ _ _ => F9
      refine ⟨L', _, _, F9, N9, fun hkeep => ?_⟩
      show Q (.int (if r0.getD (hi - 8).toNat 0 < r0.getD lo.toNat 0 then r0.getD (hi - 8).toNat 0 else r0.getD lo.toNat 0) _) _
      rw [ev]
      refine hQ _ _ _ tl5 hkeep htl5 (fun q hq => (N9 q (List.mem_cons_of_mem _ hq)).1) (fun q hq => ?_)
      by_cases hm : q.1 ∈ tl.map (·.1)
      · exact .inl hm
      · exact .inr (ng _ (N9 q (List.mem_cons_of_mem _ hq)).2.2 hm)
end Mine
end
theorem Mine.off_T6 : True := by
  w_top off
  trivial

section
open PySem PySem.W PySem.Calls PyProof.Rows
set_option Elab.async false
set_option maxRecDepth 100000
namespace Mine

/-- a loop's end of a turn -/
def TurnEnd (h₀ : Heap) (L : Addr) (I : Addr) (oI : Obj) (S : List (Addr × Obj) → Prop) (J : (Str → Option Value) → List (Addr × Obj) → Prop) (Q : Flow → Shared → Prop) (s₁ : Shared) (f : Flow) (s₂ : Shared) : Prop :=
  WPost Q (fun s' => ∃ h' tk m' nx', s' = { s₁ with heap := h', toks := tk } ∧ Fr h₀ L h' m' ∧ News h₀ L h' ((I, oI) :: nx') ∧ (∀ p ∈ nx', p.1 ≠ I) ∧ S nx' ∧ J m' nx') f s₂

section
variable {prog : Program} {w : World} {A : Around} {s : Shared} {env : Env} {h₀ : Heap} {m : Str → Option Value} {news : List (Addr × Obj)} {x : Str} {px : Pos} {body : List Stmt} {Q : Flow → Shared → Prop}
theorem for_gen {I : Addr} {fp : List Addr} {n : Nat} {P : Nat → Value → Prop} {St : Nat → Heap → Prop} {S : List (Addr × Obj) → Prop}
    (W : Walks prog w A I fp [I] n P St) (hIo : ∀ i h, St i h → ∃ o, h.get? I = some o)
    (hSt : ∀ i h h' o nw, St i h → h.get? I = some o → h'.get? I = some o → (∀ b o, h₀.get? b = some o → h'.get? b = some o) → News h₀ env.locals h' nw → S nw → St i h')
    (hst : St 0 s.heap) (F : Fr h₀ env.locals s.heap m) (N : News h₀ env.locals s.heap news) (hIL : env.locals ≠ I) (hI₀ : h₀.get? I = none) (off : ∀ p ∈ news, p.1 ≠ I) (hS : S news)
    (J : Nat → (Str → Option Value) → List (Addr × Obj) → Prop) (J' : Nat → Value → (Str → Option Value) → List (Addr × Obj) → Prop) (hj : J 0 m news)
    (put : ∀ i v m₁ nx h tk oI, i < n → P i v → J i m₁ nx → S nx → (∀ p ∈ nx, p.1 ≠ I) → Fr h₀ env.locals h m₁ → News h₀ env.locals h ((I, oI) :: nx) →
      wpAny (model prog w) A (storeName env x v) (fun _ s' => ∃ h' tk' m' nx', s' = { s with heap := h', toks := tk' } ∧ Fr h₀ env.locals h' m' ∧ News h₀ env.locals h' ((I, oI) :: nx') ∧ (∀ p ∈ nx', p.1 ≠ I) ∧ S nx' ∧ J' i v m' nx') (fun _ _ => False) { s with heap := h, toks := tk })
    (turn : ∀ i v m₁ nx h tk oI, i < n → P i v → J' i v m₁ nx → S nx → (∀ p ∈ nx, p.1 ≠ I) → Fr h₀ env.locals h m₁ → News h₀ env.locals h ((I, oI) :: nx) →
      wpAny (model prog w) A (execs body env) (TurnEnd h₀ env.locals I oI S (J (i + 1)) Q { s with heap := h, toks := tk }) (fun _ _ => False) { s with heap := h, toks := tk })
    (done : ∀ m₁ nx h tk, J n m₁ nx → Fr h₀ env.locals h m₁ → News h₀ env.locals h nx → Q .next { s with heap := h, toks := tk }) :
    codeAny (model prog w) A (.forLoop (.Name x px) (.ref I) body [] env) (fun r s' => match r with | .ok f => Q f s' | .error e => cameBackBy (model prog w) A env (fun _ _ => False) e s') s := by
  refine codeAny_forLoop
    (fun k s' => ∃ h' tk m' nx i, s' = { s with heap := h', toks := tk } ∧ St i h' ∧ Fr h₀ env.locals h' m' ∧ News h₀ env.locals h' nx ∧ (∀ p ∈ nx, p.1 ≠ I) ∧ S nx ∧ J i m' nx ∧ i ≤ n ∧ k = n + 1 - i) ?_ (n + 1)
    ⟨s.heap, s.toks, m, news, 0, rfl, hst, F, N, off, hS, hj, Nat.zero_le _, rfl⟩
  rintro k s' ⟨h', tk, m', nx, i, rfl, hst', F', N', off', hS', hJ, hi, rfl⟩
  by_cases hlt : i < n
  · refine W.item i _ _ _ hlt hst' fun v h₁ tk₁ hP hst₁ hk₁ => ?_
    have F₁ := LCg.fr_but F' hk₁ hIL hI₀
    have N₁ := LCg.news_but N' hk₁ off'
    obtain ⟨oI, heI⟩ := hIo _ _ hst₁
    have N₁' : News h₀ env.locals h₁ ((I, oI) :: nx) := fun p hp => by
      rcases List.mem_cons.mp hp with rfl | hp
      · exact ⟨heI, Ne.symm hIL, hI₀⟩
      · exact N₁ p hp
    refine wpAny_assign_Name (wpAny_mono (put i v m' nx h₁ tk₁ oI hlt hP hJ hS' off' F₁ N₁') (fun _ s₂ h₂ => ?_) fun _ _ e => e.elim)
    obtain ⟨h₂, tk₂, m₂, nx₂, rfl, F₂, N₂, off₂, hS₂, hJ₂⟩ := h₂
    have N₂' : News h₀ env.locals h₂ nx₂ := fun p hp => N₂ p (.tail _ hp)
    have hst₂ : St (i + 1) h₂ := hSt _ _ _ _ _ hst₁ heI (N₂ (I, oI) (.head _)).1 F₂.keep N₂' hS₂
    refine wpAny_mono (turn i v m₂ nx₂ h₂ tk₂ oI hlt hP hJ₂ hS₂ off₂ F₂ N₂) (fun f s₃ h₃ => ?_) fun _ _ e => e.elim
    have fin : (∃ h' tk m' nx', s₃ = { s with heap := h', toks := tk } ∧ Fr h₀ env.locals h' m' ∧ News h₀ env.locals h' ((I, oI) :: nx') ∧ (∀ p ∈ nx', p.1 ≠ I) ∧ S nx' ∧ J (i + 1) m' nx') →
        ∃ m, m < n + 1 - i ∧ ∃ h' tk m' nx j, s₃ = { s with heap := h', toks := tk } ∧ St j h' ∧ Fr h₀ env.locals h' m' ∧ News h₀ env.locals h' nx ∧ (∀ p ∈ nx, p.1 ≠ I) ∧ S nx ∧ J j m' nx ∧ j ≤ n ∧ m = n + 1 - j := by
      rintro ⟨h₄, tk₄, m₄, nx₄, rfl, F₄, N₄, off₄, hS₄, hJ₄⟩
      have N₄' : News h₀ env.locals h₄ nx₄ := fun p hp => N₄ p (.tail _ hp)
      exact ⟨n + 1 - (i + 1), by omega, h₄, tk₄, m₄, nx₄, i + 1, rfl, hSt _ _ _ _ _ hst₂ (N₂ (I, oI) (.head _)).1 (N₄ (I, oI) (.head _)).1 F₄.keep N₄' hS₄, F₄, N₄', off₄, hS₄, hJ₄, hlt, rfl⟩
    cases f with
    | next => exact fin h₃
    | cont => exact fin h₃
    | brk => exact h₃
    | ret v => exact h₃
  · obtain rfl : i = n := by omega
    refine W.done _ _ _ hst' fun h₁ tk₁ hk₁ => wpAny_execs_nil ?_
    exact done m' nx h₁ tk₁ hJ (LCg.fr_but F' hk₁ hIL hI₀) (LCg.news_but N' hk₁ off')

/-- for x in range(a, b), x a local or a cell (put) -/
theorem for_range {r : Addr} {a b : Int} {t u v : Tok} {n : Nat} (hh : A.handled = none) (hr : IsRange s.heap r a b 1 t u v) (hsm : Builtin.Range.small a b 1 = true) (hn : Builtin.Range.rangeSize a b 1 = ((n : Nat) : Int))
    (F : Fr h₀ env.locals s.heap m) (N : News h₀ env.locals s.heap news)
    (J : Nat → (Str → Option Value) → List (Addr × Obj) → Prop) (J' : Nat → Int → Tok → (Str → Option Value) → List (Addr × Obj) → Prop) (hj : J 0 m news)
    (put : ∀ i t I oI m₁ nx h tk s', i < n → J i m₁ nx → (∀ p ∈ nx, p.1 ≠ I) → Fr h₀ env.locals h m₁ → News h₀ env.locals h ((I, oI) :: nx) → s' = { s with heap := h, toks := tk } →
      wpAny (model prog w) A (storeName env x (.int (a + (i : Int)) t)) (fun _ s'' => ∃ h' tk' m' nx', s'' = { s' with heap := h', toks := tk' } ∧ Fr h₀ env.locals h' m' ∧ News h₀ env.locals h' ((I, oI) :: nx') ∧ (∀ p ∈ nx', p.1 ≠ I) ∧ J' i (a + (i : Int)) t m' nx') (fun _ _ => False) s')
    (turn : ∀ i t I oI m₁ nx h tk s', i < n → J' i (a + (i : Int)) t m₁ nx → (∀ p ∈ nx, p.1 ≠ I) → Fr h₀ env.locals h m₁ → News h₀ env.locals h ((I, oI) :: nx) → s' = { s with heap := h, toks := tk } →
      wpAny (model prog w) A (execs body env) (TurnEnd h₀ env.locals I oI (fun _ => True) (J (i + 1)) Q s') (fun _ _ => False) s')
    (done : ∀ m₁ nx h tk, J n m₁ nx → Fr h₀ env.locals h m₁ → News h₀ env.locals h nx → Q .next { s with heap := h, toks := tk }) :
    wpAny (model prog w) A (pyIter (.ref r)) (fun it s₂ => codeAny (model prog w) A (.forLoop (.Name x px) it body [] env) (fun r s' => match r with | .ok f => Q f s' | .error e => cameBackBy (model prog w) A env (fun _ _ => False) e s') s₂) (fun _ _ => False) s := by
  refine wpAny_pyIter_range hr hsm ?_
  refine for_gen (S := fun _ => True) (P := fun i v => ∃ t, v = .int (a + (i : Int)) t) (LCg.range_walks hh a n) (fun i h st => ⟨_, st⟩) LCg.range_st (by show IsRangeIter _ _ _ _ _; rw [hn]; simpa using Heap.get?_push_size _ rfl)
    (F.keeps fun _ _ e => Heap.get?_push_of_some _ e) (N.grown fun _ _ e => Heap.get?_push_of_some _ e) (Nat.ne_of_lt F.ns.lt) (next_is_new F) (fun p hp => Nat.ne_of_lt (Heap.lt_size (N p hp).1)) trivial J
    (fun i v m nx => ∃ t, v = .int (a + (i : Int)) t ∧ J' i (a + (i : Int)) t m nx) hj ?_ ?_ ?_
  · rintro i v m₁ nx h tk oI hi ⟨t, rfl⟩ hJ _ off F₁ N₁
    refine wpAny_mono (put i t _ oI m₁ nx h tk _ hi hJ off F₁ N₁ rfl) (fun _ s₂ h₂ => ?_) fun _ _ e => e
    obtain ⟨h₂, tk₂, m₂, nx₂, rfl, F₂, N₂, off₂, hJ₂⟩ := h₂
    exact ⟨h₂, tk₂, m₂, nx₂, rfl, F₂, N₂, off₂, trivial, t, rfl, hJ₂⟩
  · rintro i v m₁ nx h tk oI hi _ ⟨t, rfl, hJ⟩ _ off F₁ N₁
    exact turn i t _ oI m₁ nx h tk _ hi hJ off F₁ N₁ rfl
  · exact done

/-- x a local that J does not name -/
theorem for_range_local {r : Addr} {a b : Int} {t u v : Tok} {n : Nat} (hh : A.handled = none) (hr : IsRange s.heap r a b 1 t u v) (hsm : Builtin.Range.small a b 1 = true) (hn : Builtin.Range.rangeSize a b 1 = ((n : Nat) : Int))
    (F : Fr h₀ env.locals s.heap m) (N : News h₀ env.locals s.heap news) (hk : env.scope.kind = .function) (hx : env.kindOf x = some .local)
    (J : Nat → (Str → Option Value) → List (Addr × Obj) → Prop) (hJx : ∀ i m nx w, J i m nx → J i (fun y => if y = x then some w else m y) nx) (hj : J 0 m news)
    (turn : ∀ i t I oI m₁ nx h tk s', i < n → J i m₁ nx → m₁ x = some (.int (a + (i : Int)) t) → (∀ p ∈ nx, p.1 ≠ I) → Fr h₀ env.locals h m₁ → News h₀ env.locals h ((I, oI) :: nx) → s' = { s with heap := h, toks := tk } →
      wpAny (model prog w) A (execs body env) (TurnEnd h₀ env.locals I oI (fun _ => True) (J (i + 1)) Q s') (fun _ _ => False) s')
    (done : ∀ m₁ nx h tk, J n m₁ nx → Fr h₀ env.locals h m₁ → News h₀ env.locals h nx → Q .next { s with heap := h, toks := tk }) :
    wpAny (model prog w) A (pyIter (.ref r)) (fun it s₂ => codeAny (model prog w) A (.forLoop (.Name x px) it body [] env) (fun r s' => match r with | .ok f => Q f s' | .error e => cameBackBy (model prog w) A env (fun _ _ => False) e s') s₂) (fun _ _ => False) s := by
  refine for_range hh hr hsm hn F N J (fun i k t m nx => J i m nx ∧ m x = some (.int k t)) hj ?_ ?_ done
  · rintro i t I oI m₁ nx h tk s' hi hJ off F₁ N₁ rfl
    refine wpAny_storeName_local hx F₁.ns (fun h' hn' hs' => ⟨h', _, _, nx, rfl, F₁.set hn' hs', N₁.set hs', off, hJx _ _ _ _ hJ, by simp⟩) ?_
    rw [hk]; rfl
  · rintro i t I oI m₁ nx h tk s' hi ⟨hJ, hm⟩ off F₁ N₁ e
    exact turn i t I oI m₁ nx h tk s' hi hJ hm off F₁ N₁ e

/-- for x in a list of ints of the ledger, x a cell (put) -/
theorem for_list {l : Addr} {vs : List Value} {ns : List Int} {c : Nat} (hh : A.handled = none) (hi : IntsAre vs ns)
    (F : Fr h₀ env.locals s.heap m) (N : News h₀ env.locals s.heap news)
    (J : Nat → (Str → Option Value) → List (Addr × Obj) → Prop) (J' : Nat → Int → Tok → (Str → Option Value) → List (Addr × Obj) → Prop) (hj : J 0 m news) (hm : (l, listOf vs.toArray c) ∈ news)
    (put : ∀ i t I oI m₁ nx h tk s', i < ns.length → J i m₁ nx → (l, listOf vs.toArray c) ∈ nx → (∀ p ∈ nx, p.1 ≠ I) → Fr h₀ env.locals h m₁ → News h₀ env.locals h ((I, oI) :: nx) → s' = { s with heap := h, toks := tk } →
      wpAny (model prog w) A (storeName env x (.int (ns.getD i 0) t)) (fun _ s'' => ∃ h' tk' m' nx', s'' = { s' with heap := h', toks := tk' } ∧ Fr h₀ env.locals h' m' ∧ News h₀ env.locals h' ((I, oI) :: nx') ∧ (∀ p ∈ nx', p.1 ≠ I) ∧ (l, listOf vs.toArray c) ∈ nx' ∧ J' i (ns.getD i 0) t m' nx') (fun _ _ => False) s')
    (turn : ∀ i t I oI m₁ nx h tk s', i < ns.length → J' i (ns.getD i 0) t m₁ nx → (l, listOf vs.toArray c) ∈ nx → (∀ p ∈ nx, p.1 ≠ I) → Fr h₀ env.locals h m₁ → News h₀ env.locals h ((I, oI) :: nx) → s' = { s with heap := h, toks := tk } →
      wpAny (model prog w) A (execs body env) (TurnEnd h₀ env.locals I oI (fun nx => (l, listOf vs.toArray c) ∈ nx) (J (i + 1)) Q s') (fun _ _ => False) s')
    (done : ∀ m₁ nx h tk, J ns.length m₁ nx → Fr h₀ env.locals h m₁ → News h₀ env.locals h nx → Q .next { s with heap := h, toks := tk }) :
    wpAny (model prog w) A (pyIter (.ref l)) (fun it s₂ => codeAny (model prog w) A (.forLoop (.Name x px) it body [] env) (fun r s' => match r with | .ok f => Q f s' | .error e => cameBackBy (model prog w) A env (fun _ _ => False) e s') s₂) (fun _ _ => False) s := by
  have hl : s.heap.IsList l vs.toArray := News.isList N hm
  have hlt : l < s.heap.objs.size := by obtain ⟨_, e, _⟩ := hl; exact Heap.lt_size e
  have hsz : vs.toArray.size = ns.length := by rw [List.size_toArray]; exact hi.length
  have val : ∀ (i : Nat) (v : Value), vs.toArray[i]? = some v → ∃ t, v = .int (ns.getD i 0) t := fun i v hv => by
    obtain ⟨k, t, e, hk⟩ := IntsAre.at hi i v (by simpa using hv)
    exact ⟨t, by rw [e, List.getD_eq_getElem?_getD, hk]; rfl⟩
  refine wpAny_pyIter_list hl ?_
  have up : ∀ b o, s.heap.get? b = some o → (s.heap.push { cls := .type "list_iterator", data := .fields #[.ref l, .int 0 0] }).get? b = some o := fun b o e => Heap.get?_push_of_some _ e
  have W := Walks.list (prog := prog) (w := w) hh s.heap.objs.size l (Nat.ne_of_lt hlt) vs.toArray
  rw [hsz] at W
  refine for_gen (S := fun nx => (l, listOf vs.toArray c) ∈ nx) W (fun i h st => by obtain ⟨o, e, _⟩ := st.1; exact ⟨o, e⟩)
    (fun i h h' o nw st e e' k N S => ⟨by obtain ⟨o', q, r⟩ := st.1; rw [e] at q; cases q; exact ⟨o, e', r⟩, News.isList N S⟩) ⟨⟨_, Heap.get?_push_size _ rfl, rfl, rfl⟩, hl.push _⟩
    (F.keeps up) (N.grown up) (Nat.ne_of_lt F.ns.lt) (next_is_new F) (fun p hp => Nat.ne_of_lt (Heap.lt_size (N p hp).1)) hm J
    (fun i v m nx => ∃ t, v = .int (ns.getD i 0) t ∧ J' i (ns.getD i 0) t m nx) hj ?_ ?_ ?_
  · intro i v m₁ nx h tk oI hi' hP hJ hS off F₁ N₁
    obtain ⟨t, rfl⟩ := val i v hP
    refine wpAny_mono (put i t _ oI m₁ nx h tk _ hi' hJ hS off F₁ N₁ rfl) (fun _ s₂ h₂ => ?_) fun _ _ e => e
    obtain ⟨h₂, tk₂, m₂, nx₂, rfl, F₂, N₂, off₂, hS₂, hJ₂⟩ := h₂
    exact ⟨h₂, tk₂, m₂, nx₂, rfl, F₂, N₂, off₂, hS₂, t, rfl, hJ₂⟩
  · rintro i v m₁ nx h tk oI hi' _ ⟨t, rfl, hJ⟩ hS off F₁ N₁
    exact turn i t _ oI m₁ nx h tk _ hi' hJ hS off F₁ N₁ rfl
  · exact done
end
end Mine
end
theorem Mine.off_T7a : True := by
  w_top off
  trivial

section
open PySem PySem.W PySem.Calls PyProof.Rows
set_option Elab.async false
set_option maxRecDepth 100000
namespace Mine

/-- the least of all stretches that begin ahead of lo, and of the first d that begin at lo -/
def Ms (row : List Int) (lo d : Nat) : List Int :=
  (List.range lo).flatMap (fun i => (List.range (row.length - i)).map fun e => wmin row i (e + 1)) ++ (List.range d).map fun e => wmin row lo (e + 1)
theorem Ms_zero (row : List Int) : Ms row 0 0 = [] := rfl
theorem Ms_step (row : List Int) (lo d : Nat) : Ms row lo (d + 1) = Ms row lo d ++ [wmin row lo (d + 1)] := by
  unfold Ms
  rw [List.range_succ, List.map_append, List.append_assoc]
  rfl
theorem Ms_next (row : List Int) (lo : Nat) : Ms row lo (row.length - lo) = Ms row (lo + 1) 0 := by
  unfold Ms
  rw [List.range_succ, List.flatMap_append]
  simp
theorem Ms_len (row : List Int) (hn : row.length ≤ 12) : ∀ lo d, lo ≤ 12 → d ≤ 12 → (Ms row lo d).length ≤ 12 * lo + d := by
  intro lo
  induction lo with
  | zero => intro d _ _; simp [Ms]
  | succ lo ih =>
    intro d h1 h2
    have h3 := ih (row.length - lo) (by omega) (by omega)
    rw [Ms_next] at h3
    have e : (Ms row (lo + 1) d).length = (Ms row (lo + 1) 0).length + d := by simp [Ms]
    rw [e]
    omega

theorem ins_perm (ns : List Int) (x : Int) (k : Nat) : (ns.take k ++ x :: ns.drop k).Perm (ns ++ [x]) := by
  have h1 : (ns.take k ++ x :: ns.drop k).Perm (x :: (ns.take k ++ ns.drop k)) := List.perm_middle
  rw [List.take_append_drop] at h1
  exact h1.trans (List.perm_append_comm (l₁ := [x]) (l₂ := ns))
theorem filt_lt (x : Int) : ∀ (ns : List Int), Srt ns → (∀ i, i < (ns.filter (· < x)).length → ns.getD i 0 < x) ∧ (∀ i, (ns.filter (· < x)).length ≤ i → i < ns.length → x ≤ ns.getD i 0)
  | [], _ => ⟨fun i h => absurd h (Nat.not_lt_zero _), fun i _ h => absurd h (Nat.not_lt_zero _)⟩
  | n :: r, hs => by
    have hr : Srt r := fun i j h1 h2 => by simpa using hs (i + 1) (j + 1) (by omega) (by simpa using h2)
    obtain ⟨h1, h2⟩ := filt_lt x r hr
    by_cases c : n < x
    · rw [List.filter_cons_of_pos (by simpa using c), List.length_cons]
      refine ⟨fun i hi => ?_, fun i hi hl => ?_⟩
      · cases i with
        | zero => simpa using c
        | succ i => simpa using h1 i (by omega)
      · cases i with
        | zero => omega
        | succ i => simpa using h2 i (by omega) (by simpa using hl)
    · have e : (n :: r).filter (· < x) = [] := List.filter_eq_nil_iff.mpr fun y hy => by
        obtain ⟨i, hi, rfl⟩ := List.getElem_of_mem hy
        have := hs 0 i (Nat.zero_le _) hi
        rw [List.getD_eq_getElem?_getD, List.getD_eq_getElem?_getD, List.getElem?_eq_getElem hi] at this
        simp at this ⊢
        omega
      rw [e]
      refine ⟨fun i hi => absurd hi (Nat.not_lt_zero _), fun i _ hl => ?_⟩
      have := hs 0 i (Nat.zero_le _) hl
      simp at this ⊢
      omega
theorem ins_srt {ns : List Int} (x : Int) (hs : Srt ns) : Srt (ns.take (ns.filter (· < x)).length ++ x :: ns.drop (ns.filter (· < x)).length) := by
  obtain ⟨h1, h2⟩ := filt_lt x ns hs
  have hk : (ns.filter (· < x)).length ≤ ns.length := List.length_filter_le _ _
  revert h1 h2 hk
  generalize (ns.filter (· < x)).length = k
  intro h1 h2 hk
  have val : ∀ i, i < ns.length + 1 → (ns.take k ++ x :: ns.drop k).getD i 0 = if i < k then ns.getD i 0 else if i = k then x else ns.getD (i - 1) 0 := by
    intro i hi
    have ht : (ns.take k).length = k := by rw [List.length_take]; omega
    simp only [List.getD_eq_getElem?_getD]
    by_cases c1 : i < k
    · rw [if_pos c1, List.getElem?_append_left (by omega), List.getElem?_take_of_lt c1]
    · rw [if_neg c1, List.getElem?_append_right (by omega), ht]
      by_cases c2 : i = k
      · subst c2; simp
      · rw [if_neg c2]
        obtain ⟨j, hj⟩ : ∃ j, i - k = j + 1 := ⟨i - k - 1, by omega⟩
        rw [hj, List.getElem?_cons_succ, List.getElem?_drop]
        congr 2
        omega
  have hl : (ns.take k ++ x :: ns.drop k).length = ns.length + 1 := by simp; omega
  intro i j hij hj
  rw [hl] at hj
  rw [val i (by omega), val j hj]
  by_cases a1 : i < k
  · rw [if_pos a1]
    by_cases b1 : j < k
    · rw [if_pos b1]; exact hs i j hij (by omega)
    · rw [if_neg b1]
      have := h1 i a1
      by_cases b2 : j = k
      · rw [if_pos b2]; omega
      · rw [if_neg b2]
        have := hs i (j - 1) (by omega) (by omega)
        exact this
  · rw [if_neg a1]
    by_cases b1 : j < k
    · omega
    · rw [if_neg b1]
      by_cases a2 : i = k
      · rw [if_pos a2]
        by_cases b2 : j = k
        · rw [if_pos b2]; exact Int.le_refl _
        · rw [if_neg b2]
          exact h2 (j - 1) (by omega) (by omega)
      · rw [if_neg a2]
        by_cases b2 : j = k
        · omega
        · rw [if_neg b2]
          exact hs (i - 1) (j - 1) (by omega) (by omega)

def Sep (a b : List (Addr × Obj)) : Prop := ∀ p ∈ a, ∀ q ∈ b, p.1 ≠ q.1
theorem step_tab {h₀ h h' : Heap} {L : Addr} {m : Str → Option Value} {pre tl tl' : List (Addr × Obj)} (F : Fr h₀ L h m) (N : News h₀ L h (pre ++ tl)) (hs : Sep pre tl) (hk : ∀ b x, b ∉ tl.map (·.1) → h.get? b = some x → h'.get? b = some x)
    (hg : ∀ q ∈ tl', h'.get? q.1 = some q.2) (hf : ∀ q ∈ tl', q.1 ∈ tl.map (·.1) ∨ h.get? q.1 = none) : Fr h₀ L h' m ∧ News h₀ L h' (pre ++ tl') ∧ Sep pre tl' := by
  have Nt : News h₀ L h tl := fun q hq => N q (List.mem_append_right _ hq)
  have Np : News h₀ L h pre := fun q hq => N q (List.mem_append_left _ hq)
  refine ⟨fr_tab F Nt hk, fun q hq => ?_, sep_tab Np hs hf⟩
  rcases List.mem_append.mp hq with hq | hq
  · exact news_off Np hk hs q hq
  · exact news_tab F Nt hg hf q hq

theorem reord1 {h₀ h : Heap} {L : Addr} {x1 x2 x3 c6 c5 c4 c3 c2 c1 tb : Addr × Obj} {tn : List (Addr × Obj)} (N : News h₀ L h (x1 :: x2 :: x3 :: c6 :: c5 :: c4 :: c3 :: c2 :: c1 :: tb :: tn)) :
    News h₀ L h (x2 :: ((x3 :: c6 :: c5 :: c4 :: c3 :: c2 :: c1 :: tn) ++ [tb])) := fun q hq => N q (by
  simp only [List.cons_append, List.mem_cons, List.mem_append, List.not_mem_nil, or_false] at hq ⊢
  rcases hq with h | h | h | h | h | h | h | h | h | h <;> simp [h])
theorem reord_in {h₀ h : Heap} {L : Addr} {I l : Addr × Obj} {rest tl : List (Addr × Obj)} (N : News h₀ L h (I :: l :: (rest ++ tl))) : News h₀ L h (l :: ((I :: rest) ++ tl)) := fun q hq => N q (by
  simp only [List.cons_append, List.mem_cons, List.mem_append] at hq ⊢
  rcases hq with h | h | h | h <;> simp [h])
theorem reord_out {h₀ h : Heap} {L : Addr} {I l : Addr × Obj} {rest tl : List (Addr × Obj)} (N : News h₀ L h (l :: ((I :: rest) ++ tl))) : News h₀ L h (I :: l :: (rest ++ tl)) := fun q hq => N q (by
  simp only [List.cons_append, List.mem_cons, List.mem_append] at hq ⊢
  rcases hq with h | h | h | h <;> simp [h])
/-- the first loops' state -/
def OrdSt (rest : List (Addr × Obj)) (l : Addr) (row : List Int) (lo d : Nat) (m : Str → Option Value) (nx : List (Addr × Obj)) : Prop :=
  (∀ p ∈ rest, p.1 ≠ l) ∧ ∃ vo no co tl wh tw, nx = (l, listOf (List.toArray vo) co) :: (rest ++ tl) ∧ TabL i2dQual tl ∧ Sep ((l, listOf (List.toArray vo) co) :: rest) tl ∧ IntsAre vo no ∧ Srt no ∧ no.Perm (Ms row lo d) ∧ wh = (Ms row lo d).sum ∧
    Has m [("order", .ref l), ("whole", .int wh tw)]
theorem min_slice {row : List Int} {lo hi : Nat} {M : Int} {k : Nat} (h1 : lo < hi) (h2 : hi ≤ row.length) (hk : k = hi - lo) (ha : M ∈ (row.drop lo).take k) (hb : ∀ a ∈ (row.drop lo).take k, M ≤ a) : wmin row lo (hi - lo) = M := by
  subst hk
  refine IsMin.uniq (wmin_is row lo (hi - lo) (by omega)) ⟨?_, fun j j1 j2 => ?_⟩
  · obtain ⟨i, hi', e⟩ := List.getElem_of_mem ha
    have hl : i < hi - lo := by simp at hi'; omega
    refine ⟨lo + i, by omega, by omega, ?_⟩
    rw [← e, List.getElem_take, List.getElem_drop, List.getD_eq_getElem?_getD, List.getElem?_eq_getElem (by omega)]
    rfl
  · refine hb _ ?_
    refine List.mem_iff_getElem.mpr ⟨j - lo, by simp; omega, ?_⟩
    rw [List.getElem_take, List.getElem_drop, List.getD_eq_getElem?_getD, List.getElem?_eq_getElem (by omega)]
    simp only [Option.getD_some]
    congr 1
    omega
theorem min_slice2 {row : List Int} {i d : Nat} {M : Int} (h : i + 1 + d ≤ row.length) (ha : M ∈ List.take (min ((i : Int) + 1 + (d : Int)).toNat row.length - (i : Int).toNat) (List.drop (i : Int).toNat row))
    (hb : ∀ a ∈ List.take (min ((i : Int) + 1 + (d : Int)).toNat row.length - (i : Int).toNat) (List.drop (i : Int).toNat row), M ≤ a) : wmin row (i : Int).toNat ((i : Int) + 1 + (d : Int) - (i : Int)).toNat = M := by
  have e1 : (i : Int).toNat = i := by omega
  have e2 : ((i : Int) + 1 + (d : Int) - (i : Int)).toNat = i + 1 + d - i := by omega
  have e3 : min ((i : Int) + 1 + (d : Int)).toNat row.length - (i : Int).toNat = i + 1 + d - i := by omega
  rw [e3, e1] at ha hb
  rw [e1, e2]
  exact min_slice (by omega) h rfl ha hb
theorem OrdSt.other {rest : List (Addr × Obj)} {l : Addr} {row : List Int} {lo d : Nat} {m : Str → Option Value} {nx : List (Addr × Obj)} {x : Str} {v : Value} (h1 : x ≠ "order") (h2 : x ≠ "whole") (h : OrdSt rest l row lo d m nx) : OrdSt rest l row lo d (fun y => if y = x then some v else m y) nx := by
  obtain ⟨hlr, vo, no, co, tl, wh, tw, e, a1, a2, a3, a4, a5, a6, H⟩ := h
  refine ⟨hlr, vo, no, co, tl, wh, tw, e, a1, a2, a3, a4, a5, a6, fun p hp => ?_⟩
  have e2 := H p hp
  simp only [List.mem_cons, List.not_mem_nil, or_false] at hp
  have hne : p.1 ≠ x := by
    rcases hp with rfl | rfl
    · exact Ne.symm h1
    · exact Ne.symm h2
  show (if p.1 = x then some v else m p.1) = _
  rw [if_neg hne]; exact e2
end Mine
end
theorem Mine.off_T7b : True := by
  w_top off
  trivial

section
open PySem PySem.W PySem.Calls PyProof.Rows
set_option Elab.async false
set_option maxRecDepth 100000
namespace Mine
structure Hold (p : Prop) : Prop where
  out : p
theorem hold {p : Prop} (h : p) : Hold p := ⟨h⟩
theorem news_same {h₀ h h' : Heap} {L : Addr} {news news' : List (Addr × Obj)} (_h : Hold (News h₀ L h news)) (N : News h₀ L h' news') (e : news = news') : News h₀ L h' news := e ▸ N
theorem fr_unhas {h₀ h : Heap} {L : Addr} (m : Str → Option Value) (ps : List (Str × Value)) (H : Has m ps) (F : Fr h₀ L h (kstB m ps)) : Fr h₀ L h m := by
  have e : kstB m ps = m := funext fun z => kstB_eq H fun _ => rfl
  rw [e] at F; exact F
section
variable {prog : Program} {w : World} {A : Around} {s : Shared} {env : Env} {h₀ : Heap} {m : Str → Option Value} {px : Pos} {body : List Stmt} {Q : Flow → Shared → Prop}
theorem loopA {rest : List (Addr × Obj)} {l r : Addr} {row : List Int} {t u v : Tok} {tw : Tok} (hh : A.handled = none) (hr : IsRange s.heap r 0 (row.length : Int) 1 t u v) (hn : row.length ≤ 12)
    (F : Fr h₀ env.locals s.heap m) (N : News h₀ env.locals s.heap ((l, listOf #[] 0) :: (rest ++ [(16, tabObj #[])]))) (hsep : Sep ((l, listOf #[] 0) :: rest) [(16, tabObj #[])]) (hlr : ∀ p ∈ rest, p.1 ≠ l) (hk : env.scope.kind = .function) (hx : env.kindOf "low" = some .local)
    (H : Has m [("order", .ref l), ("whole", .int 0 tw)])
    (turn : ∀ (i : Nat) t I oI m₁ nx h tk s', i < row.length → OrdSt rest l row i 0 m₁ nx → m₁ "low" = some (.int (i : Int) t) → (∀ p ∈ nx, p.1 ≠ I) → Fr h₀ env.locals h m₁ → News h₀ env.locals h ((I, oI) :: nx) → s' = { s with heap := h, toks := tk } →
      wpAny (model prog w) A (execs body env) (TurnEnd h₀ env.locals I oI (fun _ => True) (OrdSt rest l row (i + 1) 0) Q s') (fun _ _ => False) s')
    (done : ∀ m₁ nx h tk, OrdSt rest l row row.length 0 m₁ nx → Fr h₀ env.locals h m₁ → News h₀ env.locals h nx → Q .next { s with heap := h, toks := tk }) :
    wpAny (model prog w) A (pyIter (.ref r)) (fun it s₂ => codeAny (model prog w) A (.forLoop (.Name "low" px) it body [] env) (fun r s' => match r with | .ok f => Q f s' | .error e => cameBackBy (model prog w) A env (fun _ _ => False) e s') s₂) (fun _ _ => False) s := by
  refine for_range_local (n := row.length) hh hr (small_one (by omega) (by omega) (by omega) (by omega)) (by rw [rangeSize_nat]; simp) F N hk hx (fun i m nx => OrdSt rest l row i 0 m nx) (fun i m nx w h => h.other (by decide) (by decide))
    ⟨hlr, [], [], 0, [(16, tabObj #[])], 0, tw, rfl, .inl rfl, hsep, .nil, fun i j _ h => absurd h (Nat.not_lt_zero _), by rw [Ms_zero], by rw [Ms_zero]; rfl, H⟩ ?_ done
  intro i t I oI m₁ nx h tk s' hi hO hm off F₁ N₁ e
  rw [Int.zero_add] at hm
  exact turn i t I oI m₁ nx h tk s' hi hO hm off F₁ N₁ e

theorem loopB {rest : List (Addr × Obj)} {l r : Addr} {row : List Int} {lo : Nat} {t u v : Tok} {tlo : Tok} {I : Addr} {oI : Obj} {nx : List (Addr × Obj)} {b0 b1 : Int} (hh : A.handled = none) (hr : IsRange s.heap r b0 b1 1 t u v) (hb0 : b0 = (lo : Int) + 1) (hb1 : b1 = (row.length : Int) + 1) (hn : row.length ≤ 12) (hlo : lo < row.length)
    (F : Fr h₀ env.locals s.heap m) (N : News h₀ env.locals s.heap ((I, oI) :: nx)) (off : ∀ p ∈ nx, p.1 ≠ I) (hO : OrdSt rest l row lo 0 m nx) (hlow : m "low" = some (.int (lo : Int) tlo)) (hk : env.scope.kind = .function) (hx : env.kindOf "high" = some .local)
    (turn : ∀ (d : Nat) t I2 oI2 m₁ vo no co tl wh tw h tk s', d < row.length - lo → (∀ p ∈ (I, oI) :: rest, p.1 ≠ l) → TabL i2dQual tl → Sep ((l, listOf (List.toArray vo) co) :: (I, oI) :: rest) tl → IntsAre vo no → Srt no → no.Perm (Ms row lo d) → wh = (Ms row lo d).sum →
      Has m₁ [("order", .ref l), ("whole", .int wh tw), ("low", .int (lo : Int) tlo), ("high", .int ((lo : Int) + 1 + (d : Int)) t)] → Sep ((l, listOf (List.toArray vo) co) :: (I, oI) :: rest) [(I2, oI2)] → (∀ p ∈ tl, p.1 ≠ I2) →
      Fr h₀ env.locals h m₁ → News h₀ env.locals h ((I2, oI2) :: (l, listOf (List.toArray vo) co) :: (I, oI) :: (rest ++ tl)) → s' = { s with heap := h, toks := tk } →
      wpAny (model prog w) A (execs body env) (TurnEnd h₀ env.locals I2 oI2 (fun _ => True) (fun m nx => OrdSt ((I, oI) :: rest) l row lo (d + 1) m nx ∧ m "low" = some (.int (lo : Int) tlo)) Q s') (fun _ _ => False) s')
    (done : ∀ m₁ nx' h tk, OrdSt ((I, oI) :: rest) l row lo (row.length - lo) m₁ nx' → Fr h₀ env.locals h m₁ → News h₀ env.locals h nx' → Q .next { s with heap := h, toks := tk }) :
    wpAny (model prog w) A (pyIter (.ref r)) (fun it s₂ => codeAny (model prog w) A (.forLoop (.Name "high" px) it body [] env) (fun r s' => match r with | .ok f => Q f s' | .error e => cameBackBy (model prog w) A env (fun _ _ => False) e s') s₂) (fun _ _ => False) s := by
  obtain ⟨hlr, vo, no, co, tl, wh, tw, rfl, htl, hsep, hi, hs, hp, hw, H⟩ := hO
  subst hb0 hb1
  have hlr' : ∀ p ∈ (I, oI) :: rest, p.1 ≠ l := fun p hp => by
    rcases List.mem_cons.mp hp with rfl | hp
    · exact Ne.symm (off _ (.head _))
    · exact hlr p hp
  have hsep' : Sep ((l, listOf (List.toArray vo) co) :: (I, oI) :: rest) tl := fun p hp q hq => by
    rcases List.mem_cons.mp hp with rfl | hp
    · exact hsep _ (.head _) q hq
    · rcases List.mem_cons.mp hp with rfl | hp
      · exact Ne.symm (off q (.tail _ (List.mem_append_right _ hq)))
      · exact hsep p (.tail _ hp) q hq
  refine for_range_local (n := row.length - lo) hh hr (small_one (by omega) (by omega) (by omega) (by omega)) (by rw [rangeSize_nat]; omega) F (reord_in N) hk hx (fun i m nx => OrdSt ((I, oI) :: rest) l row lo i m nx ∧ m "low" = some (.int (lo : Int) tlo))
    (fun i m nx w h => ⟨h.1.other (by decide) (by decide), by show (if _ then _ else _) = _; rw [if_neg (by decide)]; exact h.2⟩)
    ⟨⟨hlr', vo, no, co, tl, wh, tw, rfl, htl, hsep', hi, hs, hp, hw, H⟩, hlow⟩ ?_ (fun m₁ nx h tk hO F₁ N₁ => done m₁ nx h tk hO.1 F₁ N₁)
  rintro d t I2 oI2 m₁ nx h tk s' hd ⟨⟨_, vo, no, co, tl, wh, tw, rfl, htl, hsep, hi, hs, hp, hw, H⟩, hlow⟩ hm off2 F₁ N₁ e
  refine turn d t I2 oI2 m₁ vo no co tl wh tw h tk s' hd hlr' htl hsep hi hs hp hw (.cons (H _ (.head _)) (.cons (H _ (.tail _ (.head _))) (.cons hlow (.cons hm .nil)))) ?_ ?_ F₁ N₁ e
  · intro p hp q hq
    rw [List.mem_singleton.mp hq]
    exact off2 p (by
      rcases List.mem_cons.mp hp with rfl | hp
      · exact .head _
      · exact .tail _ (List.mem_append_left _ hp))
  · exact fun p hp => off2 p (.tail _ (List.mem_append_right _ hp))

theorem sep_one {a : List (Addr × Obj)} {b : Addr} {o : Obj} (h : ∀ p ∈ a, p.1 ≠ b) : Sep a [(b, o)] := fun p hp q hq => by
  rw [List.mem_singleton.mp hq]
  exact h p hp
theorem updB {rest tl : List (Addr × Obj)} {l I I2 : Addr} {o o' oI oI2 : Obj} (hlr : ∀ p ∈ (I, oI) :: rest, p.1 ≠ l) (hsepI : Sep ((l, o) :: (I, oI) :: rest) [(I2, oI2)]) (hsep : Sep ((I2, oI2) :: (l, o) :: (I, oI) :: rest) tl) :
    Upd l o o' (((I2, oI2) :: (l, o) :: (I, oI) :: rest) ++ tl) (((I2, oI2) :: (l, o') :: (I, oI) :: rest) ++ tl) :=
  .tail (Ne.symm (hsepI _ (.head _) _ (.head _))) (.head fun p hp => by
    have hp : p ∈ ((I, oI) :: rest) ++ tl := hp
    rcases List.mem_append.mp hp with hp | hp
    · exact hlr p hp
    · exact Ne.symm (hsep _ (.tail _ (.head _)) p hp))
/-- the inner turn's end -/
theorem endB {rest : List (Addr × Obj)} {l : Addr} {row : List Int} {lo d : Nat} {I I2 L : Addr} {oI oI2 : Obj} {m₁ : Str → Option Value} {h : Heap} {tk : Nat} {s' : Shared} {Q : Flow → Shared → Prop} {vo no : List Int} {vs vs0 : List Value} {c c0 : Nat} {tl : List (Addr × Obj)} {x wh : Int} {tw tlo : Tok}
    (hlr : ∀ p ∈ (I, oI) :: rest, p.1 ≠ l) (htl : TabL i2dQual tl) (hsep : Sep ((I2, oI2) :: (l, listOf (List.toArray vs0) c0) :: (I, oI) :: rest) tl) (hsepI : Sep ((l, listOf (List.toArray vs0) c0) :: (I, oI) :: rest) [(I2, oI2)])
    (hi : IntsAre vs no) (hno : no = vo.take (vo.filter (· < x)).length ++ x :: vo.drop (vo.filter (· < x)).length) (hs : Srt vo) (hp : vo.Perm (Ms row lo d)) (hw : wh = (Ms row lo d).sum) (hx : x = wmin row lo (d + 1))
    (H : Has m₁ [("order", .ref l), ("whole", .int (wh + x) tw), ("low", .int (lo : Int) tlo)]) (F : Fr h₀ L h m₁) (N : News h₀ L h ((I2, oI2) :: (l, listOf (List.toArray vs) c) :: (I, oI) :: (rest ++ tl))) :
    TurnEnd h₀ L I2 oI2 (fun _ => True) (fun m nx => OrdSt ((I, oI) :: rest) l row lo (d + 1) m nx ∧ m "low" = some (.int (lo : Int) tlo)) Q s' .next { s' with heap := h, toks := tk } := by
  refine ⟨h, tk, m₁, _, rfl, F, N, fun p hp => ?_, trivial, ⟨hlr, vs, no, c, tl, wh + x, tw, rfl, htl, fun p hp q hq => ?_, hi, ?_, ?_, ?_, .cons (H _ (.head _)) (.cons (H _ (.tail _ (.head _))) .nil)⟩, H _ (.tail _ (.tail _ (.head _)))⟩
  · rcases List.mem_cons.mp hp with rfl | hp
    · exact hsepI _ (.head _) _ (.head _)
    · rcases List.mem_cons.mp hp with rfl | hp
      · exact hsepI _ (.tail _ (.head _)) _ (.head _)
      · rcases List.mem_append.mp hp with hp | hp
        · exact hsepI _ (.tail _ (.tail _ hp)) _ (.head _)
        · exact Ne.symm (hsep _ (.head _) p hp)
  · rcases List.mem_cons.mp hp with rfl | hp
    · exact hsep _ (.tail _ (.head _)) q hq
    · exact hsep p (.tail _ (.tail _ hp)) q hq
  · rw [hno]; exact ins_srt x hs
  · rw [hno, Ms_step, ← hx]
    exact (ins_perm vo x _).trans (hp.append_right [x])
  · rw [Ms_step, List.sum_append, hw, ← hx]
    simp
/-- the inner loop's end is the outer turn's -/
theorem endA {rest : List (Addr × Obj)} {l : Addr} {row : List Int} {lo : Nat} {I L : Addr} {oI : Obj} {m₁ : Str → Option Value} {nx' : List (Addr × Obj)} {h : Heap} {tk : Nat} {s' : Shared} {Q : Flow → Shared → Prop}
    (hl : l ≠ I) (hr : ∀ p ∈ rest, p.1 ≠ I) (hO : OrdSt ((I, oI) :: rest) l row lo (row.length - lo) m₁ nx') (F : Fr h₀ L h m₁) (N : News h₀ L h nx') :
    TurnEnd h₀ L I oI (fun _ => True) (OrdSt rest l row (lo + 1) 0) Q s' .next { s' with heap := h, toks := tk } := by
  obtain ⟨hlr, vo, no, co, tl, wh, tw, rfl, htl, hsep, hi, hs, hp, hw, H⟩ := hO
  refine ⟨h, tk, m₁, _, rfl, F, reord_out N, fun p hp => ?_, trivial, fun p hp => hlr p (.tail _ hp), vo, no, co, tl, wh, tw, rfl, htl, fun p hp q hq => ?_, hi, hs, ?_, ?_, H⟩
  · rcases List.mem_cons.mp hp with rfl | hp
    · exact hl
    · rcases List.mem_append.mp hp with hp | hp
      · exact hr p hp
      · exact Ne.symm (hsep (I, oI) (.tail _ (.head _)) p hp)
  · rcases List.mem_cons.mp hp with rfl | hp
    · exact hsep _ (.head _) q hq
    · exact hsep p (.tail _ (.tail _ hp)) q hq
  · rw [← Ms_next]; exact hp
  · rw [← Ms_next]; exact hw
end
theorem sep_full {rest tl : List (Addr × Obj)} {x y z : Addr × Obj} (h : Sep (y :: z :: rest) tl) (h2 : ∀ p ∈ tl, p.1 ≠ x.1) : Sep (x :: y :: z :: rest) tl := fun p hp q hq => by
  rcases List.mem_cons.mp hp with rfl | hp
  · exact Ne.symm (h2 q hq)
  · exact h p hp q hq
/-- _law_least behind the ledger pre ++ tl, tn a part of pre -/
theorem least' {w : World} {s : Shared} {base h₀ : Heap} {L : Addr} {m : Str → Option Value} {mg mb : Str → Option Value} {p : Program} {loose : List Str} {mean : ExcName → Option Value} {A₀ A : Around} {env : Env} {outer : List Env} {pre tl : List (Addr × Obj)} {Q : Value → Shared → Prop}
    (B : Below A₀ base outer h₀) (F : Fr h₀ L s.heap m) (X : (hd.heap_39 w.params).In h₀) (T : Top p loose mean mg mb h₀) (hf : env.frame = some L) (hke : env.scope.kind = .function) (AG : AGd A env outer 12)
    (C : CodeHd h₀ 20 16) (htl : TabL i2dQual tl) (N : News h₀ L s.heap (pre ++ tl)) (hs : Sep pre tl)
    {t : Addr} {us : List Value} {c : Nat} {ns : List Int} {tn : List (Addr × Obj)} (htn : ∀ q ∈ tn, q ∈ pre) (ht : (t, listOf us.toArray c) ∈ tn) (hrow : Rows ns tn 0 us) (hlev : ∀ j, 2 ^ j ≤ ns.length → j < us.length)
    {lo hi : Int} {tlo thi : Tok} (h0 : 0 ≤ lo) (h1 : lo < hi) (h2 : hi ≤ (ns.length : Int)) (hn : ns.length ≤ 12)
    (hQ : ∀ t h' tk tl', Fr h₀ L h' m → News h₀ L h' (pre ++ tl') → Sep pre tl' → TabL i2dQual tl' → (∀ b o, b ∉ tl.map (·.1) → s.heap.get? b = some o → h'.get? b = some o) → Q (.int (wmin ns lo.toNat (hi - lo).toNat) t) { s with heap := h', toks := tk }) :
    wpAny (model PySem.Challenge.rw_hd0004_01.row.prog w) A (call (.ref 60) [.ref t, .int lo tlo, .int hi thi]) Q (fun _ _ => False) s :=
  least B F X T hf hke AG C htl (fun q hq => N q (List.mem_append_right _ hq)) (fun q hq => (N q (List.mem_append_left _ (htn q hq))).1) (fun p hp => hs p (htn p hp)) ht hrow hlev h0 h1 h2 hn fun t' h' tk tl' hk htl' hg hf' => by
    obtain ⟨F', N', S'⟩ := step_tab F N hs hk hg hf'
    exact hQ t' h' tk tl' F' N' S' htl' hk
end Mine
end
theorem Mine.off_T7c : True := by
  w_top off
  trivial

section
open PySem PySem.W PySem.Calls PyProof.Rows
set_option Elab.async false
set_option maxRecDepth 100000
namespace Mine

theorem minRun_le : ∀ (f n r : Nat), r ≤ 1 → minRun' f n r ≤ n + r
  | 0, n, r, _ => Nat.le_refl _
  | f + 1, n, r, hr => by
    rw [minRun'_succ]
    split
    · exact Nat.le_refl _
    · have hm : max r (n % 2) ≤ 1 := by omega
      have := minRun_le f (n / 2) (max r (n % 2)) hm
      omega

theorem sortedTo_of {vs : List Value} {ns : List Int} (hI : IntsAre vs ns) (hs : ns.Pairwise (· ≤ ·)) : SortedTo (pairsOf vs) (pairsOf vs).size := by
  intro i j hij hj
  have hi : i < (pairsOf vs).size := by omega
  rw [K_eq hi, K_eq hj]
  have e : ∀ (k : Nat) (h : k < (pairsOf vs).size) (h2 : k < ns.length), numOf (pairsOf vs)[k].1 = ns[k] := by
    intro k h h2
    have h3 : k < vs.length := by rw [pairsOf_size] at h; exact h
    have e1 : (pairsOf vs)[k].1 = vs[k] := by simp [pairsOf]
    rw [e1]
    have e2 := hI.nums
    subst e2
    simp
  have hl : ns.length = (pairsOf vs).size := by rw [pairsOf_size]; exact (IntsAre.length hI).symm
  rw [e i hi (by omega), e j hj (by omega)]
  by_cases h : i = j
  · subst h; exact Int.le_refl _
  · exact List.pairwise_iff_getElem.mp hs i j (by omega) (by omega) (by omega)

section
variable {prog : Program} {w : World} {A : Around} {E : Value → Shared → Prop} {s : Shared} {a₀ : Array Keyed}

theorem run_same {st : SortSt} {Q : Option Nat → SortSt → Prop} (h0 : IntKeys a₀) (h1 : 1 ≤ a₀.size) (hB : SBase a₀ st) (hs : SortedTo (arrOf st) a₀.size)
    (h : Q (some a₀.size) st) : wpS (model prog w) A E s (countRun' 0 a₀.size) Q st := by
  rw [countRun0_eq]
  refine wpS_bind (wpS_ascLoop h0 (Nat.le_refl _) (Nat.le_refl 1) h1 hB (fun i j hij hj => hs i j hij (by omega)) fun n hn1 hn2 _ hor => ?_)
  have hn : n = a₀.size := by
    rcases hor with e | hlt
    · exact e
    · by_cases hlt' : n < a₀.size
      · have := hs (n - 1) n (by omega) hlt'
        omega
      · omega
  subst hn
  dsimp only
  rw [if_pos (by simp)]
  exact wpS_pure h

theorem sort_same {st : SortSt} {Q : Unit → SortSt → Prop} (h0 : IntKeys a₀) (hB : SBase a₀ st) (h2 : 2 ≤ a₀.size) (hs : SortedTo (arrOf st) a₀.size)
    (h : ∀ st', arrOf st' = arrOf st → failedOf st' = none → Q () st') : wpS (model prog w) A E s sortRuns' Q st := by
  rw [sortRuns'_eq]
  refine wpS_bind (wpS_get ?_)
  dsimp only
  have hmr : minRun' a₀.size a₀.size 0 ≤ a₀.size := minRun_le _ _ 0 (Nat.zero_le _)
  simp only [hB.size]
  refine wpS_bind (wpS_mono (wpS_forRange
    (I := fun x c st' => (x = 0 ∧ c = (none, 0) ∧ st' = st) ∨ (1 ≤ x ∧ c = (none, a₀.size) ∧ st' = setPending st #[(0, a₀.size, 0)]))
    (Q := fun c st' => c = (none, a₀.size) ∧ st' = setPending st #[(0, a₀.size, 0)]) ?step ?fin (.inl ⟨rfl, rfl, rfl⟩)) ?post)
  case fin =>
    rintro c st' (⟨hx, _, _⟩ | ⟨_, hc, hD⟩)
    · omega
    · exact ⟨hc, hD⟩
  case step =>
    rintro x c st' _ hx (⟨rfl, rfl, rfl⟩ | ⟨hx1, rfl, rfl⟩)
    · dsimp only
      rw [if_neg (by omega)]
      simp only [Nat.sub_zero, Nat.zero_add]
      refine wpS_bind (run_same h0 (by omega) hB hs ?_)
      dsimp only
      rw [if_neg (by omega)]
      refine wpS_bind (wpS_get ?_)
      have hb : (pendingOf st').back? = none := by rw [hB.pend]; rfl
      rw [hb]
      dsimp only
      refine wpS_bind (wpS_modify (wpS_pure (.inr ⟨by omega, rfl, ?_⟩)))
      rw [hB.pend]; rfl
    · dsimp only
      rw [if_pos (Nat.le_refl _)]
      exact wpS_pure ⟨rfl, rfl⟩
  case post =>
    rintro c st' ⟨rfl, rfl⟩
    dsimp only
    refine wpS_bind (wpS_mono (wpS_forRange (I := fun _ c st'' => st'' = setPending st #[(0, a₀.size, 0)] ∧ c = (none, ())) (Q := fun c st'' => st'' = setPending st #[(0, a₀.size, 0)] ∧ c = (none, ())) ?_ (fun _ _ hh => hh) ⟨rfl, rfl⟩) ?_)
    · rintro x c st'' _ _ ⟨rfl, rfl⟩
      refine wpS_bind (wpS_get ?_)
      rw [if_pos (show (pendingOf (setPending st #[(0, a₀.size, 0)])).size ≤ 1 from Nat.le_refl 1)]
      exact wpS_pure ⟨rfl, rfl⟩
    · rintro c st'' ⟨rfl, rfl⟩
      exact wpS_pure (h _ rfl hB.failed)
end

section
variable {prog : Program} {w : World} {A : Around} {E : Value → Shared → Prop} {s : Shared}

theorem sort_tree_same {a : Addr} {vs : List Value} {ns : List Int} {n : Nat} {P : Fin → Shared → Prop} (ho : s.heap.get? a = some (seqObj "list" vs.toArray n))
    (hI : IntsAre vs ns) (hs : ns.Pairwise (· ≤ ·)) (hlen : vs.length ≤ 1000)
    (h : P (.done (.ret .none)) { s with heap := sortedHeap s.heap a vs vs.toArray }) :
    wpAny (model prog w) A (Builtin.«list.sort» ⟨[.ref a], []⟩) P E s := by
  rw [list_sort_plain]
  have ha : a < s.heap.objs.size := Heap.lt_size ho
  have hL : vs.length ≤ sizeLine := by rw [sizeLine_eq]; omega
  refine wpAny_bind (listItems_at ho rfl ?_)
  refine wpAny_bind (listUpdate_at ho rfl ?_ (by simpa using hL))
  obtain ⟨e1, ho1⟩ : ∃ e1, (s.heap.update a (Obj.mapSeq fun _ => #[])).get? a = some (seqObj "list" #[] e1) := ⟨_, get?_update_seq ho (fun _ => #[])⟩
  refine wpAny_bind (seqEpoch_at ho1 rfl ?_)
  refine wpAny_bind (wpAny_newTuple ?_)
  refine wpAny_bind (wpAny_newList ?_)
  refine wpAny_holding ?_
  have ho6 : (((s.heap.update a (Obj.mapSeq fun _ => #[])).push (seqObj "tuple" vs.toArray 0)).push (seqObj "list" #[] 0)).get? a = some (seqObj "list" #[] e1) := by
    rw [Heap.get?_push_ne _ _ _ (by rw [size_push', Heap.size_update]; exact Nat.ne_of_lt (Nat.lt_succ_of_lt ha)), Heap.get?_push_ne _ _ _ (by rw [Heap.size_update]; exact Nat.ne_of_lt ha)]
    exact ho1
  show wpAny (model prog w) A _ P E { s with heap := ((s.heap.update a (Obj.mapSeq fun _ => #[])).push (seqObj "tuple" vs.toArray 0)).push (seqObj "list" #[] 0) }
  dsimp only
  have hsz : vs.toArray.size = vs.length := by simp
  have hmap : (pairsOf vs).map (·.2) = vs.toArray := by
    apply Array.toList_inj.mp
    rw [Array.toList_map, pairsOf_toList]
    exact List.map_snd_zip (Nat.le_refl _)
  by_cases h2 : vs.toArray.size < 2
  · rw [if_pos h2, if_pos h2]
    refine wpAny_bind (wpAny_pure ?_)
    rw [StateT.run_pure]
    refine wpAny_bind (wpAny_pure ?_)
    dsimp only
    refine wpAny_bind (seqEpoch_at ho6 rfl ?_)
    have e : (arrOf (SortSt.mk' general' (vs.toArray.zip vs.toArray) #[] 7 none)).map (·.2) = vs.toArray := hmap
    rw [e]
    refine wpAny_bind (listUpdate_at ho6 rfl ?_ (hsz2 := by show vs.toArray.size ≤ _; omega))
    simp only [bne_self_eq_false, Bool.false_eq_true, if_false]
    exact wpAny_pure h
  · rw [if_neg h2, if_neg h2]
    obtain ⟨v₁, v₂, rest, rfl⟩ : ∃ v₁ v₂ rest, vs = v₁ :: v₂ :: rest := by
      match vs, hsz, h2 with
      | [], _, h2 => simp at h2
      | [_], _, h2 => simp at h2
      | v₁ :: v₂ :: rest, _, _ => exact ⟨v₁, v₂, rest, rfl⟩
    rw [keyKind_ints hI]
    refine wpAny_bind (wpAny_pure ?_)
    refine wpAny_bind (wpAny_mono (sort_same (a₀ := pairsOf (v₁ :: v₂ :: rest)) (st := SortSt.mk' oneType' ((v₁ :: v₂ :: rest).toArray.zip (v₁ :: v₂ :: rest).toArray) #[] 7 none)
      (Q := fun _ st' => arrOf st' = pairsOf (v₁ :: v₂ :: rest) ∧ failedOf st' = none)
      hI.intKeys ⟨Array.Perm.refl _, rfl, rfl, rfl⟩ (by rw [pairsOf_size]; simp) (sortedTo_of hI hs) fun st' a1 a2 => ⟨a1, a2⟩) ?_ fun _ _ e => e)
    rintro ⟨⟨⟩, st'⟩ s' ⟨rfl, hp, hf⟩
    dsimp only
    refine wpAny_bind (seqEpoch_at ho6 rfl ?_)
    rw [hp, hmap]
    refine wpAny_bind (listUpdate_at ho6 rfl ?_ (hsz2 := by show (v₁ :: v₂ :: rest).toArray.size ≤ _; omega))
    rw [hf]
    simp only [bne_self_eq_false, Bool.false_eq_true, if_false]
    exact wpAny_pure h

theorem sorted_same {h₀ : Heap} {L : Addr} {m : Str → Option Value} {news : List (Addr × Obj)} {l : Addr} {vs : List Value} {ns : List Int} {Q : Value → Shared → Prop}
    (F : Fr h₀ L s.heap m) (N : News h₀ L s.heap news) (hl : s.heap.IsList l vs.toArray) (hI : IntsAre vs ns) (hs : ns.Pairwise (· ≤ ·)) (hlen : vs.length ≤ 1000)
    (h : ∀ (D : Addr) (h' : Heap) (e : Nat), (∀ q ∈ news, q.1 < D) → Fr h₀ L h' m → News h₀ L h' ((D, PySem.W.listOf vs.toArray e) :: news) → Q (.ref D) { s with heap := h' }) :
    wpAny (model prog w) A (call (.builtin "sorted") [.ref l]) Q E s := by
  have fin : ∀ out, out = vs.toArray → Q (.ref (s.heap.objs.size + 1)) { s with heap := sortedAll s.heap vs out } := by
    rintro out rfl
    obtain ⟨e, he⟩ := sortedAll_at s.heap vs vs.toArray
    exact h _ _ e (fun p hp => Nat.lt_succ_of_lt (Heap.lt_size (N p hp).1)) (F.kept fun _ _ => sortedAll_old) (N.kept_cons F (fun _ _ => sortedAll_old) (Nat.le_succ _) he)
  refine Calls.call_function_entry kind_sorted plain_sorted entry_sorted (args_sorted1 _) ?_
  unfold Builtin.«sorted»
  refine wpAny_bind (m := checkCount "sorted" 1 1 _) (wpAny_pure ?_)
  refine wpAny_bind (collect_list hl ?_ (by rw [sizeLine_eq]; omega))
  refine wpAny_bind (wpAny_newList ?_)
  have hsz : ((s.heap.push (seqObj "list" #[] 0)).update s.heap.objs.size (Obj.mapSeq (· ++ vs.toArray))).objs.size = s.heap.objs.size + 1 := by
    rw [Heap.size_update, size_push']
  have hoL : (((s.heap.push (seqObj "list" #[] 0)).update s.heap.objs.size (Obj.mapSeq (· ++ vs.toArray))).push (seqObj "list" vs.toArray 0)).get? (s.heap.objs.size + 1) = some (seqObj "list" vs.toArray 0) := by
    rw [← hsz]; exact Heap.get?_push_size _ rfl
  show wpAny _ _ _ _ _ { s with heap := ((s.heap.push (seqObj "list" #[] 0)).update s.heap.objs.size (Obj.mapSeq (· ++ vs.toArray))).push (seqObj "list" vs.toArray 0) }
  rw [hsz]
  refine wpAny_bind (wpAny_holding (wpAny_call_entry slot_list_sort ⟨_, hoL, rfl⟩ entry_list_sort (sort_tree_same hoL hI hs hlen ⟨_, rfl, ?_⟩) (args_list_sort _)))
  exact wpAny_pure ⟨_, rfl, fin _ rfl⟩
end
end Mine
namespace Mine
theorem srt_pw {ns : List Int} (h : ∀ i j, i ≤ j → j < ns.length → ns.getD i 0 ≤ ns.getD j 0) : ns.Pairwise (· ≤ ·) := by
  rw [List.pairwise_iff_getElem]
  intro i j hi hj hij
  have := h i j (Nat.le_of_lt hij) hj
  simpa [hi, hj] using this
end Mine
namespace Mine
theorem off_join {l : Addr} {o : Obj} {cs tn tl : List (Addr × Obj)} {adr : List Addr} (hlr : ∀ p ∈ cs ++ tn, p.1 ≠ l) (h : OwnOff tn adr) (hs : ∀ b ∈ cs.map (·.1), b ∈ adr)
    (hsep : ∀ p ∈ (l, o) :: (cs ++ tn), ∀ q ∈ tl, p.1 ≠ q.1) : OwnOff (tn ++ tl) (l :: cs.map (·.1)) := by
  intro p hp b hb
  rcases List.mem_append.mp hp with hp | hp
  · rcases List.mem_cons.mp hb with rfl | hb
    · exact hlr p (List.mem_append_right _ hp)
    · exact h p hp b (hs b hb)
  · rcases List.mem_cons.mp hb with rfl | hb
    · exact (hsep _ (.head _) p hp).symm
    · obtain ⟨c, hc, rfl⟩ := List.mem_map.mp hb
      exact (hsep c (.tail _ (List.mem_append_left _ hc)) p hp).symm
end Mine
end
theorem Mine.off_T9 : True := by
  w_top off
  trivial

section
set_option Elab.async false
namespace Mine

theorem Ms_count_gen (row : List Int) : ∀ lo, lo ≤ row.length → (Ms row lo 0).length * 2 + (row.length - lo) * (row.length - lo + 1) = row.length * (row.length + 1) := by
  intro lo
  induction lo with
  | zero => intro _; simp [Ms]
  | succ lo ih =>
    intro h
    have h1 := ih (by omega)
    have e : (Ms row (lo + 1) 0).length = (Ms row lo 0).length + (row.length - lo) := by
      rw [← Ms_next]; simp [Ms]
    rw [e]
    obtain ⟨q, hq⟩ : ∃ q, row.length - lo = q + 1 := ⟨row.length - lo - 1, by omega⟩
    rw [hq] at h1 ⊢
    rw [show row.length - (lo + 1) = q by omega]
    have : (q + 1) * (q + 1 + 1) = q * (q + 1) + 2 * (q + 1) := by
      rw [Nat.mul_add, Nat.add_mul, Nat.mul_one, Nat.mul_add]; simp [Nat.add_mul]; omega
    omega

theorem Ms_count (row : List Int) : (Ms row row.length 0).length * 2 = row.length * (row.length + 1) := by
  have := Ms_count_gen row row.length (Nat.le_refl _)
  simpa using this

theorem ord_count {row no : List Int} (h : no.Perm (Ms row row.length 0)) : (no.length : Int) = ((row.length : Int) * ((row.length : Int) + 1)).fdiv 2 := by
  have h1 := Ms_count row
  have h2 := h.length_eq
  have e : (row.length : Int) * ((row.length : Int) + 1) = (no.length : Int) * 2 := by
    rw [h2]
    exact_mod_cast h1.symm
  rw [e, Int.mul_fdiv_cancel _ (by decide)]
end Mine
end
theorem Mine.off_P1 : True := by
  w_top off
  trivial

section
open PySem PySem.W PySem.Calls PyProof.Rows
set_option Elab.async false
set_option maxRecDepth 100000
namespace Mine

/-- the comprehensions of the loop over k -/
def lfs (row : List Int) (k : Int) (n : Nat) : List Int := (rangeKs 0 n).foldl (fun l j => if row.getD j.toNat 0 ≤ row.getD k.toNat 0 then l ++ [j] else l) []
def rts (row : List Int) (k : Int) (n : Nat) : List Int := (rangeKs (k + 1) n).foldl (fun l j => if row.getD j.toNat 0 < row.getD k.toNat 0 then l ++ [j] else l) []
def oft (row : List Int) (k : Nat) : Int := ((k : Int) - (lfs row k k).getLastD (-1)) * ((rts row k (row.length - (k + 1))).headD row.length - (k : Int))
def ofts (row : List Int) (n : Nat) : List Int := (List.range n).map (oft row)
theorem ofts_succ (row : List Int) (n : Nat) : ofts row (n + 1) = ofts row n ++ [oft row n] := by simp [ofts, List.range_succ]

/-- the state of the loop over k -/
def KSt (rest : List (Addr × Obj)) (o kc l : Addr) (row : List Int) (wh : Int) (tw : Tok) (i : Nat) (m : Str → Option Value) (nx : List (Addr × Obj)) : Prop :=
  ∃ vf cf ok x, nx = (o, listOf (List.toArray vf) cf) :: (kc, ok) :: rest ∧ ok.data = .cell x ∧ IntsAre vf (ofts row i) ∧ Has m [("order", .ref l), ("whole", .int wh tw)]
section
variable {prog : Program} {w : World} {A : Around} {s : Shared} {env : Env} {h₀ : Heap} {m : Str → Option Value} {px : Pos} {body : List Stmt} {Q : Flow → Shared → Prop}

/-- a cell of the ledger is stored into -/
theorem put_cell {x : Str} {c : Addr} {ok : Obj} {x0 : Option Value} {v : Value} {pre rest : List (Addr × Obj)} {R : Unit → Shared → Prop} (hk : env.scope.kind = .function) (hx : env.kindOf x = some .cell) (hc : env.cells.lookup x = some c)
    (F : Fr h₀ env.locals s.heap m) (N : News h₀ env.locals s.heap (pre ++ (c, ok) :: rest)) (hd : ok.data = .cell x0) (h1 : ∀ p ∈ pre, p.1 ≠ c) (h2 : ∀ p ∈ rest, p.1 ≠ c)
    (h : ∀ h' ok', ok'.data = .cell (some v) → Fr h₀ env.locals h' m → News h₀ env.locals h' (pre ++ (c, ok') :: rest) → R () { s with heap := h' }) :
    wpAny (model prog w) A (storeName env x v) R (fun _ _ => False) s := by
  have hmem := N (c, ok) (List.mem_append_right _ (.head _))
  refine wpAny_storeName_cell hk hx hc ⟨ok, hmem.1, hd⟩ fun h' hv hs => ?_
  obtain ⟨o', ho', hd'⟩ := hv
  refine h h' o' hd' ⟨F.ns.sameBut hs (Ne.symm hmem.2.1), fun b ob e => (hs.2 b (fun q => ?_)).trans (F.keep b ob e), F.above⟩ (N.setAt h1 h2 hs ho')
  rw [q, hmem.2.2] at e; cases e

theorem loopK {rest : List (Addr × Obj)} {o kc l r : Addr} {row : List Int} {wh : Int} {tw : Tok} {ok : Obj} {x0 : Option Value} {t u v : Tok} (hh : A.handled = none) (hr : IsRange s.heap r 0 (row.length : Int) 1 t u v) (hn : row.length ≤ 12)
    (F : Fr h₀ env.locals s.heap m) (N : News h₀ env.locals s.heap ((o, listOf #[] 0) :: (kc, ok) :: rest)) (hd : ok.data = .cell x0) (hko : kc ≠ o) (hrk : ∀ p ∈ rest, p.1 ≠ kc) (hro : ∀ p ∈ rest, p.1 ≠ o)
    (hk : env.scope.kind = .function) (hx : env.kindOf "k" = some .cell) (hc : env.cells.lookup (Str.ofString "k") = some kc) (H : Has m [("order", .ref l), ("whole", .int wh tw)])
    (turn : ∀ (i : Nat) t I oI vf cf ok m₁ h tk s', i < row.length → IntsAre vf (ofts row i) → ok.data = .cell (some (.int (i : Int) t)) → Has m₁ [("order", .ref l), ("whole", .int wh tw)] → (∀ p ∈ (o, listOf (List.toArray vf) cf) :: (kc, ok) :: rest, p.1 ≠ I) → (∀ p ∈ (kc, ok) :: rest, p.1 ≠ o) →
      Fr h₀ env.locals h m₁ → News h₀ env.locals h ((I, oI) :: (o, listOf (List.toArray vf) cf) :: (kc, ok) :: rest) → s' = { s with heap := h, toks := tk } →
      wpAny (model prog w) A (execs body env) (TurnEnd h₀ env.locals I oI (fun _ => True) (KSt rest o kc l row wh tw (i + 1)) Q s') (fun _ _ => False) s')
    (done : ∀ m₁ vf cf ok x h tk, IntsAre vf (ofts row row.length) → ok.data = .cell x → Has m₁ [("order", .ref l), ("whole", .int wh tw)] → Fr h₀ env.locals h m₁ → News h₀ env.locals h ((o, listOf (List.toArray vf) cf) :: (kc, ok) :: rest) → Q .next { s with heap := h, toks := tk }) :
    wpAny (model prog w) A (pyIter (.ref r)) (fun it s₂ => codeAny (model prog w) A (.forLoop (.Name "k" px) it body [] env) (fun r s' => match r with | .ok f => Q f s' | .error e => cameBackBy (model prog w) A env (fun _ _ => False) e s') s₂) (fun _ _ => False) s := by
  refine for_range (n := row.length) hh hr (small_one (by omega) (by omega) (by omega) (by omega)) (by rw [rangeSize_nat]; simp) F N (fun i m nx => KSt rest o kc l row wh tw i m nx)
    (fun i k t m nx => ∃ vf cf ok, nx = (o, listOf (List.toArray vf) cf) :: (kc, ok) :: rest ∧ ok.data = .cell (some (.int (i : Int) t)) ∧ IntsAre vf (ofts row i) ∧ Has m [("order", .ref l), ("whole", .int wh tw)])
    ⟨[], 0, ok, x0, rfl, hd, .nil, H⟩ ?_ ?_ ?_
  · rintro i t I oI m₁ nx h tk s' hi ⟨vf, cf, ok, x, rfl, hd, hv, H⟩ off F₁ N₁ rfl
    refine put_cell (pre := [(I, oI), (o, listOf (List.toArray vf) cf)]) hk hx hc F₁ N₁ hd ?_ hrk fun h' ok' hd' F₂ N₂ => ⟨h', tk, m₁, _, rfl, F₂, N₂, ?_, vf, cf, ok', rfl, by rw [hd', Int.zero_add], hv, H⟩
    · intro p hp
      rcases List.mem_cons.mp hp with rfl | hp
      · exact Ne.symm (off (kc, ok) (.tail _ (.head _)))
      · rw [List.mem_singleton.mp hp]; exact Ne.symm hko
    · intro p hp
      rcases List.mem_cons.mp hp with rfl | hp
      · exact off (o, _) (.head _)
      · rcases List.mem_cons.mp hp with rfl | hp
        · exact off (kc, ok) (.tail _ (.head _))
        · exact off p (.tail _ (.tail _ hp))
  · rintro i t I oI m₁ nx h tk s' hi ⟨vf, cf, ok, rfl, hd, hv, H⟩ off F₁ N₁ e
    exact turn i t I oI vf cf ok m₁ h tk s' hi hv hd H off (fun p hp => by
      rcases List.mem_cons.mp hp with rfl | hp
      · exact hko
      · exact hro p hp) F₁ N₁ e
  · rintro m₁ nx h tk ⟨vf, cf, ok, x, rfl, hd, hv, H⟩ F₁ N₁
    exact done m₁ vf cf ok x h tk hv hd H F₁ N₁

/-- the end of a turn of the loop over k -/
theorem endK {rest : List (Addr × Obj)} {o kc l I L : Addr} {oI ok : Obj} {x : Option Value} {row : List Int} {i : Nat} {wh y : Int} {tw : Tok} {m₁ : Str → Option Value} {vs : List Value} {c : Nat} {ns : List Int} {h : Heap} {tk : Nat} {s' : Shared}
    (off : ∀ p ∈ (o, listOf (List.toArray vs) c) :: (kc, ok) :: rest, p.1 ≠ I) (hd : ok.data = .cell x) (hv : IntsAre vs ns) (hns : ns = ofts row i ++ [y]) (hy : y = oft row i) (H : Has m₁ [("order", .ref l), ("whole", .int wh tw)])
    (F : Fr h₀ L h m₁) (N : News h₀ L h ((I, oI) :: (o, listOf (List.toArray vs) c) :: (kc, ok) :: rest)) :
    TurnEnd h₀ L I oI (fun _ => True) (KSt rest o kc l row wh tw (i + 1)) Q s' .next { s' with heap := h, toks := tk } :=
  ⟨h, tk, m₁, _, rfl, F, N, off, trivial, vs, c, ok, x, rfl, hd, by rw [ofts_succ, ← hy, ← hns]; exact hv, H⟩
end
end Mine
namespace Mine
theorem reordK {h₀ h : Heap} {L : Addr} {a b c d e f g : Addr × Obj} {r : List (Addr × Obj)} (N : News h₀ L h (a :: b :: c :: d :: e :: f :: g :: r)) : News h₀ L h (a :: g :: c :: d :: e :: f :: r) := fun p hp => N p (by
  simp only [List.mem_cons] at hp ⊢
  rcases hp with h | h | h | h | h | h | h
  · exact .inl h
  · exact .inr (.inr (.inr (.inr (.inr (.inr (.inl h))))))
  · exact .inr (.inr (.inl h))
  · exact .inr (.inr (.inr (.inl h)))
  · exact .inr (.inr (.inr (.inr (.inl h))))
  · exact .inr (.inr (.inr (.inr (.inr (.inl h)))))
  · exact .inr (.inr (.inr (.inr (.inr (.inr (.inr h)))))))
end Mine
end
theorem Mine.off_T10 : True := by
  w_top off
  trivial

section
set_option Elab.async false
namespace Mine
open PySem.W

/-- the sum over i < n -/
def Sg : Nat → (Nat → Int) → Int
  | 0, _ => 0
  | n + 1, g => Sg n g + g n
theorem Sg_ext {g h : Nat → Int} : ∀ {n : Nat}, (∀ i, i < n → g i = h i) → Sg n g = Sg n h
  | 0, _ => rfl
  | n + 1, e => by
    show Sg n g + g n = Sg n h + h n
    rw [Sg_ext (n := n) fun i hi => e i (by omega), e n (by omega)]
theorem Sg_add (g h : Nat → Int) : ∀ n, Sg n (fun i => g i + h i) = Sg n g + Sg n h
  | 0 => rfl
  | n + 1 => by
    show Sg n (fun i => g i + h i) + (g n + h n) = (Sg n g + g n) + (Sg n h + h n)
    rw [Sg_add g h n]; omega
theorem Sg_zero : ∀ n, Sg n (fun _ => 0) = 0
  | 0 => rfl
  | n + 1 => by
    show Sg n (fun _ => 0) + 0 = 0
    rw [Sg_zero n]; rfl
theorem Sg_swap (m : Nat) (g : Nat → Nat → Int) : ∀ n, Sg n (fun i => Sg m (g i)) = Sg m (fun j => Sg n (fun i => g i j))
  | 0 => (Sg_zero m).symm
  | n + 1 => by
    show Sg n (fun i => Sg m (g i)) + Sg m (g n) = Sg m (fun j => Sg n (fun i => g i j) + g n j)
    rw [Sg_swap m g n, Sg_add]
theorem Sg_mul (c : Int) (g : Nat → Int) : ∀ n, Sg n (fun i => g i * c) = Sg n g * c
  | 0 => (Int.zero_mul c).symm
  | n + 1 => by
    show Sg n (fun i => g i * c) + g n * c = (Sg n g + g n) * c
    rw [Sg_mul c g n, Int.add_mul]
theorem Sg_none {g : Nat → Int} {n : Nat} (h : ∀ i, i < n → g i = 0) : Sg n g = 0 := (Sg_ext h).trans (Sg_zero n)
theorem Sg_one {g : Nat → Int} {k : Nat} {c : Int} (hc : g k = c) : ∀ {n : Nat}, k < n → (∀ i, i < n → i ≠ k → g i = 0) → Sg n g = c
  | 0, h, _ => absurd h (by omega)
  | n + 1, h, e => by
    show Sg n g + g n = c
    by_cases q : k = n
    · subst q
      rw [Sg_none fun i hi => e i (by omega) (by omega), hc]; omega
    · rw [Sg_one hc (n := n) (by omega) fun i hi hk => e i (by omega) hk, e n (by omega) (by omega)]; omega
theorem Sg_map (g : Nat → Int) : ∀ n, ((List.range n).map g).sum = Sg n g
  | 0 => rfl
  | n + 1 => by
    rw [List.range_succ, List.map_append, List.sum_append, Sg_map g n]
    show Sg n g + (g n + 0) = Sg n g + g n
    omega
theorem Sg_count {a b : Nat} (hab : a ≤ b) : ∀ n, Sg n (fun i => if a ≤ i ∧ i < b then 1 else 0) = ((min n b : Nat) : Int) - ((min n a : Nat) : Int)
  | 0 => by simp [Sg]
  | n + 1 => by
    show Sg n (fun i => if a ≤ i ∧ i < b then 1 else 0) + (if a ≤ n ∧ n < b then 1 else 0) = _
    rw [Sg_count hab n]
    split <;> omega
theorem Sg_shift (g : Nat → Int) {lo : Nat} : ∀ d, Sg d g = Sg (lo + d) (fun h => if lo ≤ h then g (h - lo) else 0)
  | 0 => by
    refine (Sg_none fun i hi => ?_).symm
    rw [if_neg (by omega)]
  | d + 1 => by
    show Sg d g + g d = Sg (lo + d) _ + (if lo ≤ lo + d then g (lo + d - lo) else 0)
    rw [← Sg_shift g d, if_pos (by omega), show lo + d - lo = d by omega]

theorem Ms_sum (row : List Int) (f : Int → Int) : ((Ms row row.length 0).map f).sum = Sg row.length (fun i => Sg row.length (fun h => if i ≤ h then f (wmin row i (h - i + 1)) else 0)) := by
  have e : ∀ n, n ≤ row.length → ((Ms row n 0).map f).sum = Sg n (fun i => Sg row.length (fun h => if i ≤ h then f (wmin row i (h - i + 1)) else 0)) := by
    intro n
    induction n with
    | zero => intro _; rfl
    | succ n ih =>
      intro hn
      have h1 : Ms row (n + 1) 0 = Ms row n 0 ++ (List.range (row.length - n)).map (fun e => wmin row n (e + 1)) := by
        rw [← Ms_next]; unfold Ms; simp
      rw [h1, List.map_append, List.sum_append, ih (by omega), List.map_map]
      show _ = Sg n _ + _
      congr 1
      have h2 := Sg_map (fun e => f (wmin row n (e + 1))) (row.length - n)
      have h3 := Sg_shift (fun e => f (wmin row n (e + 1))) (lo := n) (row.length - n)
      rw [show n + (row.length - n) = row.length by omega] at h3
      exact h2.trans h3
  exact e row.length (Nat.le_refl _)

def ArgA (row : List Int) (k lo : Nat) : Prop := lo ≤ k ∧ ∀ j, lo ≤ j → j < k → row.getD k 0 < row.getD j 0
def ArgB (row : List Int) (k h : Nat) : Prop := k ≤ h ∧ ∀ j, k < j → j ≤ h → row.getD k 0 ≤ row.getD j 0
theorem arg_ex (row : List Int) (lo : Nat) : ∀ len, ∃ k, ArgA row k lo ∧ ArgB row k (lo + len)
  | 0 => ⟨lo, ⟨Nat.le_refl _, fun j h1 h2 => by omega⟩, ⟨Nat.le_refl _, fun j h1 h2 => by omega⟩⟩
  | len + 1 => by
    obtain ⟨k, ⟨a1, a2⟩, ⟨b1, b2⟩⟩ := arg_ex row lo len
    by_cases c : row.getD (lo + (len + 1)) 0 < row.getD k 0
    · refine ⟨lo + (len + 1), ⟨by omega, fun j h1 h2 => ?_⟩, ⟨Nat.le_refl _, fun j h1 h2 => by omega⟩⟩
      by_cases q : j = k
      · subst q; exact c
      · by_cases q2 : j < k
        · have := a2 j h1 q2; omega
        · have := b2 j (by omega) (by omega); omega
    · refine ⟨k, ⟨a1, a2⟩, ⟨by omega, fun j h1 h2 => ?_⟩⟩
      by_cases q : j = lo + (len + 1)
      · subst q; omega
      · exact b2 j h1 (by omega)
theorem arg_one {row : List Int} {lo h k k' : Nat} (a : ArgA row k lo) (b : ArgB row k h) (a' : ArgA row k' lo) (b' : ArgB row k' h) : k = k' := by
  by_cases c : k < k'
  · have h1 := b.2 k' c b'.1
    have h2 := a'.2 k a.1 c
    omega
  · by_cases c2 : k' < k
    · have h1 := b'.2 k c2 b.1
      have h2 := a.2 k' a'.1 c2
      omega
    · omega
theorem arg_min {row : List Int} {lo h k : Nat} (a : ArgA row k lo) (b : ArgB row k h) : wmin row lo (h - lo + 1) = row.getD k 0 := by
  have h1 := a.1
  have h2 := b.1
  refine IsMin.uniq (wmin_is row lo (h - lo + 1) (by omega)) ⟨⟨k, by omega, by omega, rfl⟩, fun j j1 j2 => ?_⟩
  by_cases c : j < k
  · have := a.2 j j1 c; omega
  · by_cases c2 : j = k
    · subst c2; exact Int.le_refl _
    · exact b.2 j (by omega) (by omega)

open Classical in
/-- a stretch's least, told by the place where it is met first -/
theorem cell_sum (row : List Int) (f : Int → Int) {lo h : Nat} (hh : h < row.length) :
    (if lo ≤ h then f (wmin row lo (h - lo + 1)) else 0) = Sg row.length (fun k => ((if ArgA row k lo then (1 : Int) else 0) * (if ArgB row k h then 1 else 0)) * f (row.getD k 0)) := by
  by_cases c : lo ≤ h
  · rw [if_pos c]
    obtain ⟨k, a, b⟩ := arg_ex row lo (h - lo)
    rw [show lo + (h - lo) = h by omega] at b
    refine (Sg_one (k := k) ?_ (by have := b.1; omega) fun i hi hk => ?_).symm
    · rw [if_pos a, if_pos b, arg_min a b]; simp
    · by_cases a' : ArgA row i lo
      · by_cases b' : ArgB row i h
        · exact absurd (arg_one a' b' a b) hk
        · rw [if_neg b']; simp
      · rw [if_neg a']; simp
  · rw [if_neg c]
    refine (Sg_none fun i hi => ?_).symm
    by_cases a' : ArgA row i lo
    · by_cases b' : ArgB row i h
      · exact absurd (Nat.le_trans a'.1 b'.1) c
      · rw [if_neg b']; simp
    · rw [if_neg a']; simp

structure LeftAt (row : List Int) (k : Nat) (L : Int) : Prop where
  lo : -1 ≤ L
  hi : L < (k : Int)
  le : ∀ j : Nat, L = (j : Int) → row.getD j 0 ≤ row.getD k 0
  out : ∀ j : Nat, L < (j : Int) → j < k → row.getD k 0 < row.getD j 0
structure RightAt (row : List Int) (k : Nat) (R : Int) : Prop where
  lo : (k : Int) < R
  hi : R ≤ (row.length : Int)
  lt : ∀ j : Nat, R = (j : Int) → j < row.length → row.getD j 0 < row.getD k 0
  out : ∀ j : Nat, k < j → (j : Int) < R → row.getD k 0 ≤ row.getD j 0
theorem LeftAt.iff {row : List Int} {k : Nat} {L : Int} (h : LeftAt row k L) (lo : Nat) : ArgA row k lo ↔ ((L + 1).toNat ≤ lo ∧ lo < k + 1) := by
  have h1 := h.lo
  have h2 := h.hi
  constructor
  · rintro ⟨a, b⟩
    refine ⟨?_, by omega⟩
    by_cases c : (L + 1).toNat ≤ lo
    · exact c
    · exfalso
      have e : L = ((L.toNat : Nat) : Int) := by omega
      have h3 := h.le L.toNat e
      have h4 := b L.toNat (by omega) (by omega)
      omega
  · rintro ⟨a, b⟩
    exact ⟨by omega, fun j j1 j2 => h.out j (by omega) j2⟩
theorem RightAt.iff {row : List Int} {k : Nat} {R : Int} (h : RightAt row k R) {hi : Nat} (hh : hi < row.length) : ArgB row k hi ↔ (k ≤ hi ∧ hi < R.toNat) := by
  have h1 := h.lo
  have h2 := h.hi
  constructor
  · rintro ⟨a, b⟩
    refine ⟨a, ?_⟩
    by_cases c : hi < R.toNat
    · exact c
    · exfalso
      have e : R = ((R.toNat : Nat) : Int) := by omega
      have h3 := h.lt R.toNat e (by omega)
      have h4 := b R.toNat (by omega) (by omega)
      omega
  · rintro ⟨a, b⟩
    exact ⟨a, fun j j1 j2 => h.out j j1 (by omega)⟩

theorem rangeKs_succ (a : Int) (n : Nat) : rangeKs a (n + 1) = rangeKs a n ++ [a + (n : Int)] := by
  unfold rangeKs
  rw [List.range_succ, List.map_append]; rfl
theorem lfs_succ (row : List Int) (k : Int) (n : Nat) : lfs row k (n + 1) = if row.getD n 0 ≤ row.getD k.toNat 0 then lfs row k n ++ [(n : Int)] else lfs row k n := by
  unfold lfs
  rw [rangeKs_succ, List.foldl_append]
  simp
theorem rts_succ (row : List Int) (k n : Nat) : rts row (k : Int) (n + 1) = if row.getD (k + 1 + n) 0 < row.getD k 0 then rts row k n ++ [((k + 1 + n : Nat) : Int)] else rts row k n := by
  unfold rts
  rw [rangeKs_succ, List.foldl_append]
  have e : ((k : Int) + 1 + (n : Int)).toNat = k + 1 + n := by omega
  have e2 : ((k : Int) + 1 + (n : Int)) = ((k + 1 + n : Nat) : Int) := by omega
  simp only [List.foldl_cons, List.foldl_nil, e, e2, Int.toNat_natCast]
theorem left_gen (row : List Int) (k : Nat) : ∀ n, (-1 ≤ (lfs row k n).getLastD (-1) ∧ (lfs row k n).getLastD (-1) < (n : Int)) ∧ (∀ j : Nat, (lfs row k n).getLastD (-1) = (j : Int) → row.getD j 0 ≤ row.getD k 0) ∧ (∀ j : Nat, (lfs row k n).getLastD (-1) < (j : Int) → j < n → row.getD k 0 < row.getD j 0)
  | 0 => by
    have e : (lfs row k 0).getLastD (-1) = -1 := rfl
    rw [e]
    exact ⟨⟨by omega, by omega⟩, fun j h => by omega, fun j _ h => absurd h (Nat.not_lt_zero _)⟩
  | n + 1 => by
    obtain ⟨⟨a1, a2⟩, a3, a4⟩ := left_gen row k n
    rw [lfs_succ]
    by_cases c : row.getD n 0 ≤ row.getD (k : Int).toNat 0
    · rw [if_pos c]
      have c' : row.getD n 0 ≤ row.getD k 0 := by simpa using c
      have e : (lfs row k n ++ [(n : Int)]).getLastD (-1) = (n : Int) := by simp
      rw [e]
      refine ⟨⟨by omega, by omega⟩, fun j h => ?_, fun j h h2 => by omega⟩
      have h' : n = j := by omega
      subst h'; exact c'
    · rw [if_neg c]
      have c' : ¬ row.getD n 0 ≤ row.getD k 0 := by simpa using c
      refine ⟨⟨a1, by omega⟩, a3, fun j h h2 => ?_⟩
      by_cases q : j = n
      · subst q; omega
      · exact a4 j h (by omega)
theorem left_at (row : List Int) (k : Nat) : LeftAt row k ((lfs row k k).getLastD (-1)) := by
  obtain ⟨⟨a1, a2⟩, a3, a4⟩ := left_gen row k k
  exact ⟨a1, a2, a3, a4⟩
theorem right_gen (row : List Int) (k : Nat) : ∀ n, k + 1 + n ≤ row.length → ((k : Int) < (rts row k n).headD row.length ∧ (rts row k n).headD row.length ≤ (row.length : Int)) ∧
    (∀ j : Nat, (rts row k n).headD row.length = (j : Int) → j < row.length → row.getD j 0 < row.getD k 0) ∧ (∀ j : Nat, k < j → j < k + 1 + n → (j : Int) < (rts row k n).headD row.length → row.getD k 0 ≤ row.getD j 0)
  | 0, hl => by
    have e : (rts row k 0).headD row.length = row.length := rfl
    rw [e]
    exact ⟨⟨by omega, by omega⟩, fun j h h2 => by omega, fun j h h2 => by omega⟩
  | n + 1, hl => by
    obtain ⟨⟨a1, a2⟩, a3, a4⟩ := right_gen row k n (by omega)
    rw [rts_succ]
    by_cases c : row.getD (k + 1 + n) 0 < row.getD k 0
    · rw [if_pos c]
      cases hq : rts row k n with
      | nil =>
        rw [hq] at a4
        have a4' : ∀ j : Nat, k < j → j < k + 1 + n → (j : Int) < (row.length : Int) → row.getD k 0 ≤ row.getD j 0 := a4
        have e : (([] : List Int) ++ [((k + 1 + n : Nat) : Int)]).headD row.length = ((k + 1 + n : Nat) : Int) := rfl
        rw [e]
        refine ⟨⟨by omega, by omega⟩, fun j h h2 => ?_, fun j h h2 h3 => ?_⟩
        · have h' : k + 1 + n = j := by omega
          subst h'; exact c
        · exact a4' j h (by omega) (by omega)
      | cons x r =>
        rw [hq] at a1 a2 a3 a4
        have e : ((x :: r) ++ [((k + 1 + n : Nat) : Int)]).headD row.length = x := rfl
        have e2 : (x :: r).headD (row.length : Int) = x := rfl
        rw [e2] at a1 a2 a3 a4
        rw [e]
        refine ⟨⟨a1, a2⟩, a3, fun j h h2 h3 => ?_⟩
        by_cases q : j = k + 1 + n
        · subst q
          by_cases q2 : ((k + 1 + n : Nat) : Int) < x
          · exfalso
            have hx : x ∈ rts row k n := by rw [hq]; exact .head _
            have : ∀ (m : Nat) (y : Int), y ∈ rts row k m → y < ((k + 1 + m : Nat) : Int) := by
              intro m
              induction m with
              | zero => intro y hy; exact absurd hy (by simp [rts, rangeKs])
              | succ m ih =>
                intro y hy
                rw [rts_succ] at hy
                split at hy
                · rcases List.mem_append.mp hy with hy | hy
                  · have := ih y hy; omega
                  · rw [List.mem_singleton.mp hy]; omega
                · have := ih y hy; omega
            have := this n x hx
            omega
          · exact absurd h3 q2
        · exact a4 j h (by omega) h3
    · rw [if_neg c]
      refine ⟨⟨a1, a2⟩, a3, fun j h h2 h3 => ?_⟩
      by_cases q : j = k + 1 + n
      · subst q; omega
      · exact a4 j h (by omega) h3
theorem right_at (row : List Int) {k : Nat} (hk : k < row.length) : RightAt row k ((rts row k (row.length - (k + 1))).headD row.length) := by
  obtain ⟨⟨a1, a2⟩, a3, a4⟩ := right_gen row k (row.length - (k + 1)) (by omega)
  exact ⟨a1, a2, a3, fun j h h2 => a4 j h (by omega) h2⟩

open Classical in
/-- all stretches' least together: each number so often -/
theorem often_sum (row : List Int) (f : Int → Int) : ((Ms row row.length 0).map f).sum = Sg row.length (fun k => oft row k * f (row.getD k 0)) := by
  rw [Ms_sum]
  have e1 : Sg row.length (fun i => Sg row.length (fun h => if i ≤ h then f (wmin row i (h - i + 1)) else 0)) =
      Sg row.length (fun i => Sg row.length (fun h => Sg row.length (fun k => ((if ArgA row k i then (1 : Int) else 0) * (if ArgB row k h then 1 else 0)) * f (row.getD k 0)))) :=
    Sg_ext fun i _ => Sg_ext fun h hh => cell_sum row f hh
  rw [e1]
  have e2 : Sg row.length (fun i => Sg row.length (fun h => Sg row.length (fun k => ((if ArgA row k i then (1 : Int) else 0) * (if ArgB row k h then 1 else 0)) * f (row.getD k 0)))) =
      Sg row.length (fun k => Sg row.length (fun i => Sg row.length (fun h => ((if ArgA row k i then (1 : Int) else 0) * (if ArgB row k h then 1 else 0)) * f (row.getD k 0)))) := by
    rw [Sg_ext fun i _ => Sg_swap row.length (fun h k => ((if ArgA row k i then (1 : Int) else 0) * (if ArgB row k h then 1 else 0)) * f (row.getD k 0)) row.length]
    exact Sg_swap row.length (fun i k => Sg row.length (fun h => ((if ArgA row k i then (1 : Int) else 0) * (if ArgB row k h then 1 else 0)) * f (row.getD k 0))) row.length
  rw [e2]
  refine Sg_ext fun k hk => ?_
  have hL := left_at row k
  have hR := right_at row hk
  have c1 : Sg row.length (fun i => if ArgA row k i then (1 : Int) else 0) = (k : Int) - (lfs row k k).getLastD (-1) := by
    have h1 := hL.lo
    have h2 := hL.hi
    have e : Sg row.length (fun i => if ArgA row k i then (1 : Int) else 0) = Sg row.length (fun i => if ((lfs row k k).getLastD (-1) + 1).toNat ≤ i ∧ i < k + 1 then 1 else 0) :=
      Sg_ext fun i _ => by simp only [hL.iff]
    rw [e, Sg_count (by omega)]
    omega
  have c2 : Sg row.length (fun h => if ArgB row k h then (1 : Int) else 0) = (rts row k (row.length - (k + 1))).headD row.length - (k : Int) := by
    have h1 := hR.lo
    have h2 := hR.hi
    have e : Sg row.length (fun h => if ArgB row k h then (1 : Int) else 0) = Sg row.length (fun h => if k ≤ h ∧ h < ((rts row k (row.length - (k + 1))).headD row.length).toNat then 1 else 0) :=
      Sg_ext fun i hi => by simp only [hR.iff hi]
    rw [e, Sg_count (by omega)]
    omega
  unfold oft
  rw [← c1, ← c2, ← Sg_mul, ← Sg_mul]
  refine Sg_ext fun i _ => ?_
  rw [Sg_mul]
  congr 1
  have e3 : Sg row.length (fun h => (if ArgA row k i then (1 : Int) else 0) * (if ArgB row k h then 1 else 0)) = Sg row.length (fun h => (if ArgB row k h then (1 : Int) else 0) * (if ArgA row k i then (1 : Int) else 0)) :=
    Sg_ext fun h _ => Int.mul_comm _ _
  rw [e3, Sg_mul, Int.mul_comm]

theorem ofts_len (row : List Int) (n : Nat) : (ofts row n).length = n := by simp [ofts]
theorem ofts_get (row : List Int) {n k : Nat} (h : k < n) : (ofts row n).getD k 0 = oft row k := by simp [ofts, h]
theorem sum_one (l : List Int) : (l.map fun _ => (1 : Int)).sum = (l.length : Int) := by
  induction l with
  | nil => rfl
  | cons a l ih => rw [List.map_cons, List.sum_cons, ih, List.length_cons]; omega
theorem sum_le (l : List Int) (x : Int) : (l.map fun y => if y ≤ x then (1 : Int) else 0).sum = ((l.filter (· ≤ x)).length : Int) := by
  induction l with
  | nil => rfl
  | cons a l ih =>
    rw [List.map_cons, List.sum_cons, ih]
    by_cases c : a ≤ x
    · rw [if_pos c, List.filter_cons_of_pos (by simpa using c), List.length_cons]; omega
    · rw [if_neg c, List.filter_cons_of_neg (by simpa using c)]; omega
theorem Sg_rangeKs (g : Int → Int) (n : Nat) : ((rangeKs 0 n).map g).sum = Sg n (fun i => g i) := by
  rw [← Sg_map]
  unfold rangeKs
  rw [List.map_map]
  congr 1
  refine List.map_congr_left fun i _ => ?_
  simp
theorem Sg_fold (c : Int → Bool) (g : Int → Int) : ∀ n, ((rangeKs 0 n).foldl (fun l k => if c k = true then l ++ [g k] else l) []).sum = Sg n (fun i => if c i = true then g i else 0)
  | 0 => rfl
  | n + 1 => by
    rw [rangeKs_succ, List.foldl_append]
    show _ = Sg n _ + _
    rw [← Sg_fold c g n]
    simp only [Int.zero_add, List.foldl_cons, List.foldl_nil]
    split <;> simp
/-- the places multiplied come to all stretches -/
theorem often_one (row : List Int) : (ofts row row.length).sum = ((Ms row row.length 0).length : Int) := by
  rw [← sum_one, often_sum row fun _ => 1]
  unfold ofts
  rw [Sg_map]
  exact Sg_ext fun i _ => (Int.mul_one _).symm
theorem often_row (row : List Int) : ((rangeKs 0 row.length).map fun k => (ofts row row.length).getD k.toNat 0 * row.getD k.toNat 0).sum = (Ms row row.length 0).sum := by
  have h := often_sum row fun y => y
  rw [List.map_id'] at h
  rw [h, Sg_rangeKs]
  refine Sg_ext fun i hi => ?_
  rw [Int.toNat_natCast, ofts_get row hi]
theorem often_le (row : List Int) (x : Int) : ((rangeKs 0 row.length).foldl (fun l k => if row.getD k.toNat 0 ≤ x then l ++ [(ofts row row.length).getD k.toNat 0] else l) []).sum = (((Ms row row.length 0).filter (· ≤ x)).length : Int) := by
  have h := Sg_fold (fun k => decide (row.getD k.toNat 0 ≤ x)) (fun k => (ofts row row.length).getD k.toNat 0) row.length
  simp only [decide_eq_true_eq] at h
  rw [h, ← sum_le, often_sum row fun y => if y ≤ x then 1 else 0]
  refine Sg_ext fun i hi => ?_
  rw [Int.toNat_natCast, ofts_get row hi]
  split <;> simp
theorem filt_perm {a b : List Int} (h : a.Perm b) (x : Int) : (a.filter (· ≤ x)).length = (b.filter (· ≤ x)).length := (h.filter _).length_eq
end Mine
end
theorem Mine.off_P2 : True := by
  w_top off
  trivial

section
open PySem PySem.W PySem.Calls PyProof.Rows
set_option Elab.async false
set_option maxRecDepth 100000
namespace Mine
section
variable {prog : Program} {w : World} {A : Around} {E : Value → Shared → Prop} {s : Shared}
theorem item_last {l : Addr} {vs : List Value} {ns : List Int} {u : Tok} {d : Int} {value slice : PySem.Expr} {Q : Value → Shared → Prop} (hl : s.heap.IsList l vs.toArray) (hi : IntsAre vs ns) (h1 : ns ≠ [])
    (h : ∀ t, Q (.int (ns.getLastD d) t) s)
    (hs : subscripted slice false (.ref l) (.int (-1) u) = operate [.ref l, .int (-1) u] (getItem (.ref l) (.int (-1) u)) := by with_unfolding_all rfl) :
    wpAny (model prog w) A (subscriptTail value slice (.ref l) (.int (-1) u)) Q E s := by
  have hlen := hi.length
  have hpos : 0 < ns.length := List.length_pos_iff.mpr h1
  obtain ⟨t, ht⟩ := hi.get (ns.length - 1) (ns.getLastD d) (by
    rw [← List.getLast?_eq_getElem?, List.getLastD_eq_getLast?]
    obtain ⟨y, hy⟩ : ∃ y, ns.getLast? = some y := ⟨ns.getLast h1, List.getLast?_eq_some_getLast h1⟩
    rw [hy]; rfl)
  refine tail_any hl.typeIs slot_list_getitem.lookup (wpAny_getItem_list_neg hl (by decide) (by rw [List.size_toArray]; omega) (by decide) ?_ (h t)) hs
  rw [List.size_toArray, show ((-1 : Int) + (vs.length : Int)).toNat = ns.length - 1 by omega]
  simpa using ht
theorem item_head {l : Addr} {vs : List Value} {ns : List Int} {u : Tok} {d : Int} {value slice : PySem.Expr} {Q : Value → Shared → Prop} (hl : s.heap.IsList l vs.toArray) (hi : IntsAre vs ns) (h1 : ns ≠ [])
    (h : ∀ t, Q (.int (ns.headD d) t) s)
    (hs : subscripted slice false (.ref l) (.int 0 u) = operate [.ref l, .int 0 u] (getItem (.ref l) (.int 0 u)) := by with_unfolding_all rfl) :
    wpAny (model prog w) A (subscriptTail value slice (.ref l) (.int 0 u)) Q E s := by
  obtain ⟨t, ht⟩ := hi.get 0 (ns.headD d) (by
    cases ns with
    | nil => exact absurd rfl h1
    | cons a r => rfl)
  exact tail_any hl.typeIs slot_list_getitem.lookup (wpAny_getItem_list hl (by decide) (by decide) (by simpa using ht) (h t)) hs
end
theorem oft_eq {row l r : List Int} {k : Nat} {a b : Int} (hl : l = lfs row k k) (hr : r = rts row k (row.length - (k + 1))) (ha : a = l.getLastD (-1)) (hb : b = r.headD row.length) : ((k : Int) - a) * (b - (k : Int)) = oft row k := by
  subst hl hr ha hb; rfl
theorem lfs_grows (row : List Int) (x : Int) : KPfGrows (fun l (j : Int) => if row.getD j.toNat 0 ≤ x then l ++ [j] else l) := fun l k => by
  dsimp only; split <;> simp
theorem rts_grows (row : List Int) (x : Int) : KPfGrows (fun l (j : Int) => if row.getD j.toNat 0 < x then l ++ [j] else l) := fun l k => by
  dsimp only; split <;> simp
end Mine
namespace Mine
theorem last_nil {l : List Int} (h : decide (l = []) = true) : (0 - 1 : Int) = l.getLastD (-1) := by
  rw [of_decide_eq_true h]; rfl
theorem head_nil {r : List Int} {n : Nat} (h : decide (r = []) = true) : (n : Int) = r.headD n := by
  rw [of_decide_eq_true h]; rfl
theorem ne_nil {r : List Int} (h : ¬ decide (r = []) = true) : r ≠ [] := fun e => h (decide_eq_true e)
theorem ne_nil' {r : List Int} (h : decide (r = []) = false) : r ≠ [] := of_decide_eq_false h
theorem off_same {o I : Addr} {a b : Obj} {r : List (Addr × Obj)} (h : ∀ p ∈ (o, a) :: r, p.1 ≠ I) : ∀ p ∈ (o, b) :: r, p.1 ≠ I := fun p hp => by
  rcases List.mem_cons.mp hp with rfl | hp
  · exact h (o, a) (.head _)
  · exact h p (.tail _ hp)
theorem ints_push {vs : List Value} {ns : List Int} {x : Int} {t : Tok} (h : IntsAre vs ns) : IntsAre (vs ++ [.int x t]) (ns ++ [x]) := IntsAre.append h (.cons x t .nil)
section
variable {prog : Program} {w : World} {A : Around} {E : Value → Shared → Prop} {s : Shared}
/-- a list of ints of the ledger grows by one -/
theorem append_int {h₀ : Heap} {L D : Addr} {m : Str → Option Value} {news : List (Addr × Obj)} {pre post : List (Addr × Obj)} {vs : List Value} {ns : List Int} {n : Nat} {x : Int} {t : Tok} {Q : Value → Shared → Prop}
    (F : Fr h₀ L s.heap m) (N : News h₀ L s.heap news) (hn : news = pre ++ (D, listOf vs.toArray n) :: post) (h1 : ∀ p ∈ pre, p.1 ≠ D) (h2 : ∀ p ∈ post, p.1 ≠ D) (hi : IntsAre vs ns) (hl : ns.length ≤ 1000)
    (h : ∀ h', Fr h₀ L h' m → News h₀ L h' (pre ++ (D, listOf (List.toArray (vs ++ [.int x t])) (n + 1)) :: post) → IntsAre (vs ++ [.int x t]) (ns ++ [x]) → Q .none { s with heap := h' }) :
    wpAny (model prog w) A (call (.builtin "list.append") [.ref D, .int x t]) Q E s := by
  subst hn
  have U : Upd D (listOf vs.toArray n) (listOf (vs.toArray.push (.int x t)) (n + 1)) (pre ++ (D, listOf vs.toArray n) :: post) (pre ++ (D, listOf (vs.toArray.push (.int x t)) (n + 1)) :: post) := by
    clear N h
    induction pre with
    | nil => exact Upd.head h2
    | cons q r ih => exact Upd.tail (h1 q (.head _)) (ih fun p hp => h1 p (.tail _ hp))
  refine append_K F N U (fun h' F' N' => ?_) ?_
  · rw [List.push_toArray] at N'
    exact h h' F' N' (ints_push hi)
  · rw [sizeLine_eq, List.size_toArray, hi.length]; omega
end
end Mine
namespace Mine
theorem mulL_ok {row : List Int} {k : Nat} {b : Int} (hk : k < row.length) (hn : row.length ≤ 12) : IntMulOk ((k : Int) - (lfs row k k).getLastD (-1)) b := by
  have h := left_at row k
  have h1 := h.lo
  have h2 := h.hi
  exact IntMulOk.of_left (intBits_le_64 (by omega) (by omega))
theorem oft_bound {row : List Int} {k : Nat} (hk : k < row.length) (hn : row.length ≤ 12) : 0 ≤ oft row k ∧ oft row k ≤ 144 := by
  have h := left_at row k
  have h1 := h.lo
  have h2 := h.hi
  have g := right_at row hk
  have g1 := g.lo
  have g2 := g.hi
  unfold oft
  revert h1 h2 g1 g2
  generalize (lfs row k k).getLastD (-1) = L
  generalize (rts row k (row.length - (k + 1))).headD row.length = R
  intro h1 h2 g1 g2
  have a1 : 0 ≤ (k : Int) - L := by omega
  have a2 : (k : Int) - L ≤ 12 := by omega
  have b1 : 0 ≤ R - (k : Int) := by omega
  have b2 : R - (k : Int) ≤ 12 := by omega
  refine ⟨Int.mul_nonneg a1 b1, ?_⟩
  calc _ ≤ 12 * (R - (k : Int)) := Int.mul_le_mul_of_nonneg_right a2 b1
    _ ≤ 144 := by omega
theorem mulO_ok {row : List Int} {k : Nat} {b : Int} (hk : k < row.length) (hn : row.length ≤ 12) : IntMulOk (oft row k) b := by
  have h := oft_bound hk hn
  exact IntMulOk.of_left (intBits_le_64 (by omega) (by omega))
end Mine
end
theorem Mine.off_T11 : True := by
  w_top off
  trivial

section
open PySem PySem.W PySem.Calls PyProof.Rows
set_option Elab.async false
set_option maxRecDepth 100000
namespace Mine

theorem compTurn_two0 (elt t1 i1 t2 i2 ct : PySem.Expr) (scope : Scope) (pos : Pos) (it acc : Value) (env : Env) :
    compTurn (.ListComp elt [⟨t1, i1, [], 0⟩, ⟨t2, i2, [ct], 0⟩] scope pos) 0 it acc env = (do
      standAt i1.pos
      match ← pyNext it with
      | none => pure (.done .next)
      | some v =>
        letOwnedTupleGo t1 it v
        assign t1 env v
        let mut ok := true
        for c in ([] : List PySem.Expr) do
          if ok then ok ← isTrue c env (eval c env)
        if ok then
          let x ← eval i2 env
          standAt i2.pos
          let x ← foldedSetIterable i2 env x
          let _ ← runOwn (.compStart (.ListComp elt [⟨t1, i1, [], 0⟩, ⟨t2, i2, [ct], 0⟩] scope pos) 1 (← holding [x] (pyIter x)) acc env) env
        again (.compLoop (.ListComp elt [⟨t1, i1, [], 0⟩, ⟨t2, i2, [ct], 0⟩] scope pos) 0 it acc env)) := by rfl
theorem compTurn_two1 (elt t1 i1 t2 i2 ct : PySem.Expr) (scope : Scope) (pos : Pos) (it acc : Value) (env : Env) :
    compTurn (.ListComp elt [⟨t1, i1, [], 0⟩, ⟨t2, i2, [ct], 0⟩] scope pos) 1 it acc env = (do
      standAt i2.pos
      match ← pyNext it with
      | none => pure (.done .next)
      | some v =>
        letOwnedTupleGo t2 it v
        assign t2 env v
        let mut ok := true
        for c in [ct] do
          if ok then ok ← isTrue c env (eval c env)
        if ok then
          (do let _ ← call (.builtin "list.append") [acc, ← eval elt env])
        again (.compLoop (.ListComp elt [⟨t1, i1, [], 0⟩, ⟨t2, i2, [ct], 0⟩] scope pos) 1 it acc env)) := by rfl

section
variable {prog : Program} {w : World} {A : Around} {R : Result → Shared → Prop} {s : Shared} {elt t1 i1 t2 i2 ct : PySem.Expr} {scope : Scope} {pos : Pos} {it acc : Value} {env : Env}
theorem codeAny_two1 (I : Nat → Shared → Prop)
    (turn : ∀ n s, I n s → wpAny (model prog w) A (pyNext it) (fun r s₁ => match r with
      | none => R (.ok .next) s₁
      | some v => wpAny (model prog w) A (assign t2 env v) (fun _ s₂ =>
          wpAny (model prog w) A (isTrue ct env (eval ct env)) (fun ok s₃ => ok = false ∧ ∃ m, m < n ∧ I m s₃) (notedBy (model prog w) A env fun e s' => R (.error e) s') s₂)
          (notedBy (model prog w) A env fun e s' => R (.error e) s') s₁) (notedBy (model prog w) A env fun e s' => R (.error e) s') s)
    (n : Nat) (h : I n s) (ht : ∀ v, letOwnedTupleGo t2 it v = pure ()) :
    codeAny (model prog w) A (.compLoop (.ListComp elt [⟨t1, i1, [], 0⟩, ⟨t2, i2, [ct], 0⟩] scope pos) 1 it acc env) R s := by
  refine codeAny_loop rfl I (fun n s hI => ?_) n h
  show wpAny _ A ((compTurn (.ListComp elt [⟨t1, i1, [], 0⟩, ⟨t2, i2, [ct], 0⟩] scope pos) 1 it acc env).onRaise (fun x => do noteFrame x env; theTreesLotGoes x)) _ _ s
  refine wpAny_noted ?_
  rw [compTurn_two1]
  refine wpAny_bind (wpAny_standAt (wpAny_bind (wpAny_mono (turn n s hI) (fun r s₁ h₁ => ?_) fun _ _ h' => h')))
  cases r with
  | none => exact wpAny_pure h₁
  | some v =>
    refine wpAny_bind (wpAny_of_eq (ht v) ?_)
    refine wpAny_bind (wpAny_mono h₁ (fun _ s₂ h₂ => wpAny_bind (wpAny_tests_one (wpAny_mono h₂ (fun ok s₃ h₃ => ?_) fun _ _ h' => h'))) fun _ _ h' => h')
    obtain ⟨rfl, h₃⟩ := h₃
    exact wpAny_pure ⟨rfl, h₃⟩
theorem codeAny_two0 (I : Nat → Shared → Prop)
    (turn : ∀ n s, I n s → wpAny (model prog w) A (pyNext it) (fun r s₁ => match r with
      | none => R (.ok .next) s₁
      | some v => wpAny (model prog w) A (assign t1 env v) (fun _ s₂ =>
          wpAny (model prog w) A (eval i2 env) (fun y s₃ => wpAny (model prog w) A (pyIter y) (fun it2 s₄ =>
            codeAny (model prog w) A (.compStart (.ListComp elt [⟨t1, i1, [], 0⟩, ⟨t2, i2, [ct], 0⟩] scope pos) 1 it2 acc env) (fun r s₅ => r = .ok .next ∧ ∃ m, m < n ∧ I m s₅) s₄)
            (notedBy (model prog w) A env fun e s' => R (.error e) s') s₃) (notedBy (model prog w) A env fun e s' => R (.error e) s') s₂)
          (notedBy (model prog w) A env fun e s' => R (.error e) s') s₁) (notedBy (model prog w) A env fun e s' => R (.error e) s') s)
    (n : Nat) (h : I n s) (ht : ∀ v, letOwnedTupleGo t1 it v = pure ()) (hs : ∀ x, foldedSetIterable i2 env x = pure x) :
    codeAny (model prog w) A (.compLoop (.ListComp elt [⟨t1, i1, [], 0⟩, ⟨t2, i2, [ct], 0⟩] scope pos) 0 it acc env) R s := by
  refine codeAny_loop rfl I (fun n s hI => ?_) n h
  show wpAny _ A ((compTurn (.ListComp elt [⟨t1, i1, [], 0⟩, ⟨t2, i2, [ct], 0⟩] scope pos) 0 it acc env).onRaise (fun x => do noteFrame x env; theTreesLotGoes x)) _ _ s
  refine wpAny_noted ?_
  rw [compTurn_two0]
  refine wpAny_bind (wpAny_standAt (wpAny_bind (wpAny_mono (turn n s hI) (fun r s₁ h₁ => ?_) fun _ _ h' => h')))
  cases r with
  | none => exact wpAny_pure h₁
  | some v =>
    refine wpAny_bind (wpAny_of_eq (ht v) ?_)
    refine wpAny_bind (wpAny_mono h₁ (fun _ s₂ h₂ => wpAny_bind (wpAny_tests_nil ?_)) fun _ _ h' => h')
    refine wpAny_bind (wpAny_mono h₂ (fun y s₃ h₃ => wpAny_bind (wpAny_standAt (wpAny_bind (wpAny_of_eq (hs y) (wpAny_bind (wpAny_holding (wpAny_mono h₃ (fun it2 s₄ h₄ => ?_) fun _ _ h' => h'))))))) fun _ _ h' => h')
    refine wpAny_bind (wpAny_runOwn (codeAny_mono h₄ fun r s₅ h₅ => ?_))
    obtain ⟨rfl, h₅⟩ := h₅
    exact wpAny_pure ⟨rfl, h₅⟩
theorem codeAny_start1
    (h0 : codeAny (model prog w) A (.compLoop (.ListComp elt [⟨t1, i1, [], 0⟩, ⟨t2, i2, [ct], 0⟩] scope pos) 1 it acc env) R s)
    (h : wpAny (model prog w) A (pyIter it) (fun it' s' => codeAny (model prog w) A (.compLoop (.ListComp elt [⟨t1, i1, [], 0⟩, ⟨t2, i2, [ct], 0⟩] scope pos) 1 it' acc env) R s')
      (notedBy (model prog w) A env fun x s' => R (.error x) s') s) :
    codeAny (model prog w) A (.compStart (.ListComp elt [⟨t1, i1, [], 0⟩, ⟨t2, i2, [ct], 0⟩] scope pos) 1 it acc env) R s := by
  refine codeAny_of_tree ?_
  show wpAny _ _ ((compStart (.ListComp elt [⟨t1, i1, [], 0⟩, ⟨t2, i2, [ct], 0⟩] scope pos) 1 it acc env).onRaise (fun x => do noteFrame x env; standAt theWindowsPlace)) _ _ s
  refine wpAny_notedAt ?_
  unfold compStart
  show wpAny _ _ (ask >>= _) _ _ s
  refine wpAny_bind (wpAny_askSetting (wpAny_ite ?_))
  split
  · first
      | exact wpAny_bind (wpAny_pure (wpAny_pure (And.intro rfl h0)))
      | exact wpAny_pure (And.intro rfl h0)
  · first
      | exact wpAny_bind (wpAny_rule (wpAny_bind (wpAny_standAt (wpAny_bind (wpAny_mono h (fun it' s' h' => wpAny_pure (And.intro rfl h')) fun _ _ x => x)))))
      | (refine wpAny_bind (wpAny_rule ?_); show wpAny _ _ (standAt i2.pos >>= _) _ _ s; exact wpAny_bind (wpAny_standAt (wpAny_bind (wpAny_mono h (fun it' s' h' => wpAny_pure (And.intro rfl h')) fun _ _ x => x))))
end
end Mine
end
theorem Mine.off_T13 : True := by
  w_top off
  trivial

section
open PySem PySem.W PySem.Calls PyProof.Rows
set_option Elab.async false
set_option maxRecDepth 100000
namespace Mine
def Off4 (I2 I C D : Addr) (nx : List (Addr × Obj)) : Prop := ∀ q ∈ nx, q.1 ≠ I2 ∧ q.1 ≠ I ∧ q.1 ≠ C ∧ q.1 ≠ D
def OffC (I C D : Addr) (nx : List (Addr × Obj)) : Prop := ∀ q ∈ nx, q.1 ≠ I ∧ q.1 ≠ C ∧ q.1 ≠ D
/-- behind the test -/
def TstPost (h₀ : Heap) (L : Addr) (m : Str → Option Value) (J : List (Addr × Obj) → Prop) (s₁ : Shared) (I2 : Addr) (oI2 : Obj) (I : Addr) (oI : Obj) (C : Addr) (oC : Obj) (D : Addr) (b : Bool) (s₄ : Shared) : Prop :=
  b = false ∧ ∃ h' tk' nx', s₄ = { s₁ with heap := h', toks := tk' } ∧ Fr h₀ L h' m ∧ News h₀ L h' ((I2, oI2) :: (I, oI) :: (C, oC) :: (D, LCg.lst []) :: nx') ∧ Off4 I2 I C D nx' ∧ J nx'
/-- the test of the inner clause, always false -/
def TestNo (prog : Program) (w : World) (A : Around) (h₀ : Heap) (L : Addr) (m : Str → Option Value) (env : Env) (ct : PySem.Expr) (x1 x2 : Str) (scope : Scope) (cl : List (Str × Addr)) (J : List (Addr × Obj) → Prop) (s₁ : Shared) (i : Nat) (t : Tok) (b0 : Int) (n2 : Nat) : Prop :=
  ∀ (j : Nat) t2 I2 oI2 I oI C oC D m₃ nx h tk, j < n2 → LCg.NsObj oC m₃ → m₃ x1 = some (.int (i : Int) t) → m₃ x2 = some (.int (b0 + (j : Int)) t2) → Fr h₀ L h m → News h₀ L h ((I2, oI2) :: (I, oI) :: (C, oC) :: (D, LCg.lst []) :: nx) → Off4 I2 I C D nx → J nx →
    wpAny (model prog w) A (isTrue ct (compEnvC scope cl C env) (eval ct (compEnvC scope cl C env)))
      (TstPost h₀ L m J s₁ I2 oI2 I oI C oC D) (fun _ _ => False) { s₁ with heap := h, toks := tk }
/-- behind the inner clause's range -/
def InnPost (prog : Program) (w : World) (A : Around) (h₀ : Heap) (L : Addr) (m : Str → Option Value) (env : Env) (ct : PySem.Expr) (x1 x2 : Str) (scope : Scope) (cl : List (Str × Addr)) (J : List (Addr × Obj) → Prop) (s₁ : Shared) (i : Nat) (t : Tok) (I : Addr) (oI : Obj) (C : Addr) (oC : Obj) (D : Addr) (nx : List (Addr × Obj)) (yv : Value) (s₃ : Shared) : Prop :=
  ∃ r2 b0 b1 n2 t' u v h' tk', yv = .ref r2 ∧ s₃ = { s₁ with heap := h', toks := tk' } ∧ Fr h₀ L h' m ∧ News h₀ L h' ((I, oI) :: (C, oC) :: (D, LCg.lst []) :: nx) ∧ IsRange h' r2 b0 b1 1 t' u v ∧ b1 = b0 + ((n2 : Nat) : Int) ∧ 0 ≤ b0 ∧ b1 ≤ 1000 ∧
        TestNo prog w A h₀ L m env ct x1 x2 scope cl J s₁ i t b0 n2
/-- the inner clause's range -/
def InnerR (prog : Program) (w : World) (A : Around) (h₀ : Heap) (L : Addr) (m : Str → Option Value) (env : Env) (i2 ct : PySem.Expr) (x1 x2 : Str) (scope : Scope) (cl : List (Str × Addr)) (J : List (Addr × Obj) → Prop) (s₁ : Shared) (n : Nat) : Prop :=
  ∀ (i : Nat) t I oI C oC D m₂ nx h tk, i < n → LCg.NsObj oC m₂ → m₂ x1 = some (.int (i : Int) t) → Fr h₀ L h m → News h₀ L h ((I, oI) :: (C, oC) :: (D, LCg.lst []) :: nx) → OffC I C D nx → J nx →
    wpAny (model prog w) A (eval i2 (compEnvC scope cl C env))
      (InnPost prog w A h₀ L m env ct x1 x2 scope cl J s₁ i t I oI C oC D nx) (fun _ _ => False) { s₁ with heap := h, toks := tk }
section
variable {prog : Program} {w : World} {A : Around} {E : Value → Shared → Prop} {s : Shared} {h₀ : Heap} {L : Addr} {m : Str → Option Value} {env : Env}

theorem inner_loop {elt i1 i2 ct : PySem.Expr} {x1 x2 : Str} {p1 p2 : Pos} {scope : Scope} {cl : List (Str × Addr)} {pos : Pos} {J : List (Addr × Obj) → Prop} {s₁ : Shared} {i n2 : Nat} {t : Tok} {b0 : Int} {acc : Value} {I C D I2 : Addr} {oI : Obj} {h' : Heap} {tk : Nat} {nx : List (Addr × Obj)} {mC : Str → Option Value} {R : Shared → Prop}
    (hh : A.handled = none) (hkind : scope.kind = .function) (hx2 : scope.names.lookup x2 = some .local) (hxx : x1 ≠ x2)
    (test : TestNo prog w A h₀ L m env ct x1 x2 scope cl J s₁ i t b0 n2)
    (hst : IsRangeIter h' I2 (b0 + ((0 : Nat) : Int) * 1) ((n2 : Int) - ((0 : Nat) : Int)) 1) (F : Fr h₀ L h' m) (hC : h'.Ns C mC) (hm : mC x1 = some (.int (i : Int) t)) (N : News h₀ L h' ((I, oI) :: (D, LCg.lst []) :: nx)) (off : Off4 I2 I C D nx) (hJ : J nx)
    (hI2L : L ≠ I2) (hI20 : h₀.get? I2 = none) (hCL : C ≠ L) (hC0 : h₀.get? C = none) (hII : I ≠ I2) (hCI2 : C ≠ I2) (hDI2 : D ≠ I2) (hIC : I ≠ C) (hDC : D ≠ C)
    (hR : ∀ h' tk nx mC, Fr h₀ L h' m → h'.Ns C mC → News h₀ L h' ((I, oI) :: (D, LCg.lst []) :: nx) → OffC I C D nx → J nx → R { s₁ with heap := h', toks := tk }) :
    codeAny (model prog w) A (.compLoop (.ListComp elt [⟨.Name x1 p1, i1, [], 0⟩, ⟨.Name x2 p2, i2, [ct], 0⟩] scope pos) 1 (.ref I2) acc (compEnvC scope cl C env)) (fun r s₅ => r = .ok .next ∧ R s₅) { s₁ with heap := h', toks := tk } := by
  have W := LCg.range_walks (prog := prog) (w := w) (I := I2) hh b0 n2
  refine codeAny_two1
    (fun k s' => ∃ h' tk j mC nx, s' = { s₁ with heap := h', toks := tk } ∧ j ≤ n2 ∧ k = n2 + 1 - j ∧ IsRangeIter h' I2 (b0 + ((j : Nat) : Int) * 1) ((n2 : Int) - ((j : Nat) : Int)) 1 ∧ Fr h₀ L h' m ∧ h'.Ns C mC ∧ mC x1 = some (.int (i : Int) t) ∧
      News h₀ L h' ((I, oI) :: (D, LCg.lst []) :: nx) ∧ Off4 I2 I C D nx ∧ J nx) ?_ (n2 + 1)
    ⟨h', tk, 0, mC, nx, rfl, Nat.zero_le _, rfl, hst, F, hC, hm, N, off, hJ⟩ (fun _ => rfl)
  rintro k s' ⟨h', tk, j, mC, nx, rfl, hj, rfl, hst', F', hC', hm', N', off', hJ'⟩
  by_cases hlt : j < n2
  · refine W.item j _ _ _ hlt hst' fun v h₂ tk₂ hPv hst₂ hk₂ => ?_
    obtain ⟨t2, rfl⟩ := hPv
    refine wpAny_assign_Name (wpAny_storeName_local (lookup_relabel_local hx2) (hC'.at' fun o e => hk₂ _ o (by simpa using hCI2) e) (fun h₃ hn₃ hs₃ => ?_) (by simp [compEnvC, relabel, hkind]))
    have hst₃ : IsRangeIter h₃ I2 (b0 + ((j + 1 : Nat) : Int) * 1) ((n2 : Int) - ((j + 1 : Nat) : Int)) 1 := W.frame _ _ _ hst₂ fun b hb o e => hs₃.extBut b o (fun q => hCI2 ((show b = C from q).symm.trans (List.mem_singleton.mp hb))) e
    obtain ⟨oI2, heI2⟩ : ∃ o, h₃.get? I2 = some o := ⟨_, hst₃⟩
    obtain ⟨oC, heC, hoC⟩ := LCg.ns_obj hn₃
    have F₃ : Fr h₀ L h₃ m := (LCg.fr_but F' hk₂ hI2L hI20).change hs₃ hCL hC0
    have N₂ := LCg.news_but N' hk₂ (fun p hp => by
      rcases List.mem_cons.mp hp with rfl | hp
      · exact hII
      · rcases List.mem_cons.mp hp with rfl | hp
        · exact hDI2
        · exact (off' p hp).1)
    have N₃ : News h₀ L h₃ ((I2, oI2) :: (I, oI) :: (C, oC) :: (D, LCg.lst []) :: nx) := fun p hp => by
      rcases List.mem_cons.mp hp with rfl | hp
      · exact ⟨heI2, Ne.symm hI2L, hI20⟩
      · rcases List.mem_cons.mp hp with rfl | hp
        · have z := N₂ (I, oI) (.head _)
          exact ⟨hs₃.extBut _ _ hIC z.1, z.2⟩
        · rcases List.mem_cons.mp hp with rfl | hp
          · exact ⟨heC, hCL, hC0⟩
          · have z := N₂ p (.tail _ hp)
            refine ⟨hs₃.extBut _ _ ?_ z.1, z.2⟩
            rcases List.mem_cons.mp hp with rfl | hp
            · exact hDC
            · exact (off' p hp).2.2.1
    refine wpAny_mono (test j t2 I2 oI2 I oI C oC D _ nx h₃ _ hlt hoC (by simp [hxx, hm']) (by simp) F₃ N₃ off' hJ') (fun b s₄ h₄ => ?_) fun _ _ e => e.elim
    obtain ⟨rfl, h₅, tk₅, nx₅, rfl, F₅, N₅, off₅, hJ₅⟩ := h₄
    have zI2 := (N₅ (I2, oI2) (.head _)).1
    have zC := (N₅ (C, oC) (.tail _ (.tail _ (.head _)))).1
    have N₅' : News h₀ L h₅ ((I, oI) :: (D, LCg.lst []) :: nx₅) := fun p hp => by
      rcases List.mem_cons.mp hp with rfl | hp
      · exact N₅ _ (.tail _ (.head _))
      · exact N₅ p (.tail _ (.tail _ (.tail _ hp)))
    have hst₅ := LCg.range_st (j + 1) h₃ h₅ oI2 _ hst₃ heI2 zI2 F₅.keep N₅' trivial
    exact ⟨rfl, n2 + 1 - (j + 1), by omega, h₅, tk₅, j + 1, _, nx₅, rfl, hlt, rfl, hst₅, F₅, hoC.ns zC, by simp [hxx, hm'], N₅', off₅, hJ₅⟩
  · obtain rfl : j = n2 := Nat.le_antisymm hj (Nat.not_lt.mp hlt)
    refine W.done _ _ _ hst' fun h₂ tk₂ hk₂ => ⟨rfl, ?_⟩
    exact hR h₂ tk₂ nx mC (LCg.fr_but F' hk₂ hI2L hI20) (hC'.at' fun o e => hk₂ _ o (by simpa using hCI2) e) (LCg.news_but N' hk₂ fun p hp => by
      rcases List.mem_cons.mp hp with rfl | hp
      · exact hII
      · rcases List.mem_cons.mp hp with rfl | hp
        · exact hDI2
        · exact (off' p hp).1) (fun q hq => (off' q hq).2) hJ'

theorem block2 {elt i1 i2 ct : PySem.Expr} {x1 x2 : Str} {p1 p2 : Pos} {scope : Scope} {cl : List (Str × Addr)} {pos : Pos} {J : List (Addr × Obj) → Prop} {Q : Value → Shared → Prop} {s₁ : Shared} {H1 : Heap} {I : Addr} {n : Nat} {news : List (Addr × Obj)} (hh : A.handled = none)
    (hcell : ∀ y ∈ scope.names, y.2 ≠ .cell) (hkind : scope.kind = .function) (hx1 : scope.names.lookup x1 = some .local) (hx2 : scope.names.lookup x2 = some .local) (hxx : x1 ≠ x2)
    (hst : IsRangeIter H1 I (0 + ((0 : Nat) : Int) * 1) ((n : Int) - ((0 : Nat) : Int)) 1) (F : Fr h₀ L H1 m) (N : News h₀ L H1 news) (hIL : L ≠ I) (hI₀ : h₀.get? I = none) (off : ∀ p ∈ news, p.1 ≠ I) (hJ : J news)
    (inner : InnerR prog w A h₀ L m env i2 ct x1 x2 scope cl J s₁ n) (fin : ∀ D nx h tk, Fr h₀ L h m → News h₀ L h ((D, LCg.lst []) :: nx) → J nx → Q (.ref D) { s₁ with heap := h, toks := tk })
    (hs2 : ∀ e x, foldedSetIterable i2 e x = pure x) :
    wpAny (model prog w) A (newList []) (fun acc s₃ => wpAny (model prog w) A (newFunctionEnv scope env.globals cl [] env.qual none .none (some env)) (fun cenv s₄ =>
      codeAny (model prog w) A (.compStart (.ListComp elt [⟨.Name x1 p1, i1, [], 0⟩, ⟨.Name x2 p2, i2, [ct], 0⟩] scope pos) 0 (.ref I) acc { cenv with scope := relabel scope env }) (compPost (model prog w) A E none Q acc cenv.locals) s₄) E s₃) E { s₁ with heap := H1 } := by
  refine wpAny_newObj_type (wpAny_newFunctionEnv hcell (by intro y hy; simp at hy) (fun h₁ hns₁ hsb₁ => ?_) hkind)
  dsimp only at hns₁ hsb₁ ⊢
  generalize hH2 : H1.push { cls := .type "list", dict := none, data := .seq ([] : List Value).toArray } = H2 at hns₁ hsb₁ ⊢
  have hC : H2.objs.size = H1.objs.size + 1 := by rw [← hH2, Heap.size_push]
  have hDC : H1.objs.size ≠ H2.objs.size := by rw [hC]; exact Nat.ne_of_lt (Nat.lt_succ_self _)
  have below : ∀ b, b < H1.objs.size → b ≠ H2.objs.size ∧ b ≠ H1.objs.size := fun b hb => ⟨by rw [hC]; exact Nat.ne_of_lt (Nat.lt_succ_of_lt hb), Nat.ne_of_lt hb⟩
  have hIlt : I < H1.objs.size := by have e : H1.get? I = some _ := hst; exact Heap.lt_size e
  have old : ∀ b o, H1.get? b = some o → h₁.get? b = some o := fun b o e => hsb₁.extBut b o (below b (Heap.lt_size e)).1 (Heap.get?_push_of_some _ (hH2 ▸ Heap.get?_push_of_some _ e))
  have hacc : h₁.get? H1.objs.size = some (LCg.lst []) := hsb₁.extBut _ _ hDC (Heap.get?_push_of_some _ (hH2 ▸ Heap.get?_push_size _ rfl))
  have hst₁ : IsRangeIter h₁ I (0 + ((0 : Nat) : Int) * 1) ((n : Int) - ((0 : Nat) : Int)) 1 := by have e : H1.get? I = some _ := hst; exact old _ _ e
  have fresh : ∀ a, H1.objs.size ≤ a → H1.get? a = none := fun a ha => by
    cases e : H1.get? a with
    | none => rfl
    | some o' => exact absurd (Heap.lt_size e) (Nat.not_lt.mpr ha)
  have fresh₀ : ∀ a, H1.objs.size ≤ a → h₀.get? a = none := fun a ha => by
    cases e : h₀.get? a with
    | none => rfl
    | some o' => have := F.keep a o' e; rw [fresh a ha] at this; cases this
  have hD₀ : h₀.get? H1.objs.size = none := fresh₀ _ (Nat.le_refl _)
  have hC₀ : h₀.get? H2.objs.size = none := fresh₀ _ (by rw [hC]; exact Nat.le_succ _)
  have hLlt : L < H1.objs.size := F.ns.lt
  have hDL : H1.objs.size ≠ L := Ne.symm (below L hLlt).2
  have hCL : H2.objs.size ≠ L := Ne.symm (below L hLlt).1
  have hCI : I ≠ H2.objs.size := (below I hIlt).1
  have hDI : I ≠ H1.objs.size := (below I hIlt).2
  have off₀ : OffC I H2.objs.size H1.objs.size news := fun p hp => ⟨off p hp, (below _ (Heap.lt_size (N p hp).1)).1, (below _ (Heap.lt_size (N p hp).1)).2⟩
  have W := LCg.range_walks (prog := prog) (w := w) (I := I) hh 0 n
  have loop : ∀ s₃ : Shared, s₃ = { s₁ with heap := h₁, toks := s₁.toks + ([] : List (Str × Value)).length } →
      codeAny (model prog w) A (.compLoop (.ListComp elt [⟨.Name x1 p1, i1, [], 0⟩, ⟨.Name x2 p2, i2, [ct], 0⟩] scope pos) 0 (.ref I) (.ref H1.objs.size) (compEnvC scope cl H2.objs.size env))
        (compPost (model prog w) A E none Q (.ref H1.objs.size) H2.objs.size) s₃ := by
    rintro s₃ rfl
    refine codeAny_two0
      (fun k s' => ∃ h' tk i m' news', s' = { s₁ with heap := h', toks := tk } ∧ i ≤ n ∧ k = n + 1 - i ∧ IsRangeIter h' I (0 + ((i : Nat) : Int) * 1) ((n : Int) - ((i : Nat) : Int)) 1 ∧ Fr h₀ L h' m ∧ h'.Ns H2.objs.size m' ∧ News h₀ L h' ((H1.objs.size, LCg.lst []) :: news') ∧
        OffC I H2.objs.size H1.objs.size news' ∧ J news') ?_ (n + 1)
      ⟨h₁, _, 0, _, news, rfl, Nat.zero_le _, rfl, hst₁, F.keeps old, hns₁, fun p hp => ?_, off₀, hJ⟩ (fun _ => rfl) (fun x => hs2 _ x)
    · rintro k s' ⟨h', tk, i, m', news', rfl, hi, rfl, hst', F', hn', N', off', hJ'⟩
      by_cases hlt : i < n
      · refine W.item i _ _ _ hlt hst' fun v h₂ tk₂ hPv hst₂ hk₂ => ?_
        obtain ⟨t, rfl⟩ := hPv
        rw [Int.zero_add]
        refine wpAny_assign_Name (wpAny_storeName_local (lookup_relabel_local hx1) (hn'.at' fun o e => hk₂ _ o (by simpa using Ne.symm hCI) e) (fun h₃ hn₃ hs₃ => ?_) (by simp [compEnvC, relabel, hkind]))
        have hst₃ : IsRangeIter h₃ I (0 + ((i + 1 : Nat) : Int) * 1) ((n : Int) - ((i + 1 : Nat) : Int)) 1 := W.frame _ _ _ hst₂ fun b hb o e => hs₃.extBut b o (fun q => hCI ((List.mem_singleton.mp hb).symm.trans (show b = H2.objs.size from q))) e
        obtain ⟨oI, heI⟩ : ∃ o, h₃.get? I = some o := ⟨_, hst₃⟩
        obtain ⟨oC, heC, hoC⟩ := LCg.ns_obj hn₃
        have F₃ : Fr h₀ L h₃ m := (LCg.fr_but F' hk₂ hIL hI₀).change hs₃ hCL hC₀
        have N₂ : News h₀ L h₂ ((H1.objs.size, LCg.lst []) :: news') := LCg.news_but N' hk₂ fun p hp => by
          rcases List.mem_cons.mp hp with rfl | hp
          · exact Ne.symm hDI
          · exact (off' p hp).1
        have N₃ : News h₀ L h₃ ((I, oI) :: (H2.objs.size, oC) :: (H1.objs.size, LCg.lst []) :: news') := fun p hp => by
          rcases List.mem_cons.mp hp with rfl | hp
          · exact ⟨heI, Ne.symm hIL, hI₀⟩
          · rcases List.mem_cons.mp hp with rfl | hp
            · exact ⟨heC, hCL, hC₀⟩
            · have z := N₂ p hp
              refine ⟨hs₃.extBut _ _ ?_ z.1, z.2⟩
              rcases List.mem_cons.mp hp with rfl | hp
              · exact hDC
              · exact (off' p hp).2.1
        refine wpAny_mono (inner i t I oI H2.objs.size oC H1.objs.size _ news' h₃ _ hlt hoC (by simp) F₃ N₃ off' hJ') (fun yv s₄ h₄ => ?_) fun _ _ e => e.elim
        obtain ⟨r2, b0, b1, n2, t', u, v, h₅, tk₅, rfl, rfl, F₅, N₅, hr₅, rfl, hb0, hb1, test⟩ := h₄
        refine wpAny_pyIter_range hr₅ (small_one (by omega) (by omega) (by omega) (by omega)) ?_
        have hsz : Builtin.Range.rangeSize b0 (b0 + (n2 : Int)) 1 = ((n2 : Nat) : Int) := by rw [rangeSize_nat]; omega
        dsimp only
        rw [hsz]
        have up₅ : ∀ b o, h₅.get? b = some o → (h₅.push { cls := .type "range_iterator", data := .fields #[rawInt b0, rawInt (n2 : Int), rawInt 1] }).get? b = some o := fun b o e => Heap.get?_push_of_some _ e
        have lt₅ : ∀ {b : Addr} {o : Obj}, h₅.get? b = some o → b ≠ h₅.objs.size := fun e => Nat.ne_of_lt (Heap.lt_size e)
        have zI := N₅ (I, oI) (.head _)
        have zC := N₅ (H2.objs.size, oC) (.tail _ (.head _))
        have zD := N₅ (H1.objs.size, LCg.lst []) (.tail _ (.tail _ (.head _)))
        have N₅' : News h₀ L h₅ ((I, oI) :: (H1.objs.size, LCg.lst []) :: news') := fun p hp => by
          rcases List.mem_cons.mp hp with rfl | hp
          · exact zI
          · exact N₅ p (.tail _ (.tail _ hp))
        have hst₆ : IsRangeIter (h₅.push { cls := .type "range_iterator", data := .fields #[rawInt b0, rawInt (n2 : Int), rawInt 1] }) h₅.objs.size (b0 + ((0 : Nat) : Int) * 1) ((n2 : Int) - ((0 : Nat) : Int)) 1 := by
          simpa using Heap.get?_push_size _ rfl
        have go : ∀ s₆ : Shared, s₆ = { s₁ with heap := h₅.push { cls := .type "range_iterator", data := .fields #[rawInt b0, rawInt (n2 : Int), rawInt 1] }, toks := tk₅ } →
            codeAny (model prog w) A (.compLoop (.ListComp elt [⟨.Name x1 p1, i1, [], 0⟩, ⟨.Name x2 p2, i2, [ct], 0⟩] scope pos) 1 (.ref h₅.objs.size) (.ref H1.objs.size) (compEnvC scope cl H2.objs.size env))
              (fun r s₅ => r = .ok .next ∧ ∃ m_1, m_1 < n + 1 - i ∧ ∃ h' tk i m' news', s₅ = { s₁ with heap := h', toks := tk } ∧ i ≤ n ∧ m_1 = n + 1 - i ∧ IsRangeIter h' I (0 + ((i : Nat) : Int) * 1) ((n : Int) - ((i : Nat) : Int)) 1 ∧ Fr h₀ L h' m ∧ h'.Ns H2.objs.size m' ∧ News h₀ L h' ((H1.objs.size, LCg.lst []) :: news') ∧
                OffC I H2.objs.size H1.objs.size news' ∧ J news') s₆ := by
          rintro s₆ rfl
          refine inner_loop hh hkind hx2 hxx test hst₆ (F₅.keeps up₅) (hoC.ns (up₅ _ _ zC.1)) (by simp) (N₅'.grown up₅) (fun q hq => ⟨lt₅ (N₅' q (.tail _ (.tail _ hq))).1, off' q hq⟩) hJ' (Nat.ne_of_lt F₅.ns.lt) (next_is_new F₅) hCL hC₀ (lt₅ zI.1) (lt₅ zC.1) (lt₅ zD.1) hCI hDC ?_
          intro h₇ tk₇ nx₇ mC₇ F₇ hC₇ N₇ off₇ hJ₇
          have hst₇ := LCg.range_st (i + 1) h₃ h₇ oI _ hst₃ heI (N₇ (I, oI) (.head _)).1 F₇.keep N₇ trivial
          exact ⟨n + 1 - (i + 1), by omega, h₇, tk₇, i + 1, mC₇, nx₇, rfl, hlt, rfl, hst₇, F₇, hC₇, fun p hp => N₇ p (.tail _ hp), off₇, hJ₇⟩
        exact codeAny_start1 (go _ rfl) (wpAny_pyIter_rangeiter hst₆ (go _ rfl))
      · obtain rfl : i = n := Nat.le_antisymm hi (Nat.not_lt.mp hlt)
        refine W.done _ _ _ hst' fun h₂ tk₂ hk₂ => ?_
        have F₂ := LCg.fr_but F' hk₂ hIL hI₀
        have N₂ : News h₀ L h₂ ((H1.objs.size, LCg.lst []) :: news') := LCg.news_but N' hk₂ fun p hp => by
          rcases List.mem_cons.mp hp with rfl | hp
          · exact Ne.symm hDI
          · exact (off' p hp).1
        refine ⟨m', hn'.at' fun o e => hk₂ _ o (by simpa using Ne.symm hCI) e, fun h'' hs'' => fin _ news' h'' tk₂ (F₂.change hs'' hCL hC₀) (fun p hp => ?_) hJ'⟩
        refine ⟨hs''.extBut _ _ ?_ (N₂ p hp).1, (N₂ p hp).2⟩
        rcases List.mem_cons.mp hp with rfl | hp
        · exact hDC
        · exact (off' p hp).2.1
    · rcases List.mem_cons.mp hp with rfl | hp
      · exact ⟨hacc, hDL, hD₀⟩
      · exact ⟨old _ _ (N p hp).1, (N p hp).2⟩
  exact codeAny_compStart_list (loop _ rfl) (wpAny_pyIter_rangeiter hst₁ (loop _ rfl))

/-- behind the outer clause's range -/
def SrcTwo (prog : Program) (w : World) (A : Around) (h₀ : Heap) (L : Addr) (m : Str → Option Value) (env : Env) (i2 ct : PySem.Expr) (x1 x2 : Str) (scope : Scope) (cl : List (Str × Addr)) (J : List (Addr × Obj) → Prop) (Q : Value → Shared → Prop) (xv : Value) (s₁ : Shared) : Prop :=
  ∃ r n t u v news, xv = .ref r ∧ Fr h₀ L s₁.heap m ∧ News h₀ L s₁.heap news ∧ J news ∧ IsRange s₁.heap r 0 ((n : Nat) : Int) 1 t u v ∧ n ≤ 1000 ∧
      InnerR prog w A h₀ L m env i2 ct x1 x2 scope cl J s₁ n ∧ (∀ D nx h tk, Fr h₀ L h m → News h₀ L h ((D, LCg.lst []) :: nx) → J nx → Q (.ref D) { s₁ with heap := h, toks := tk })
theorem comp2 {elt i1 i2 ct : PySem.Expr} {x1 x2 : Str} {p1 p2 : Pos} {scope : Scope} {cl : List (Str × Addr)} {pos : Pos} {J : List (Addr × Obj) → Prop} {Q : Value → Shared → Prop} (hh : A.handled = none)
    (hclos : closureFor scope env = pure cl) (hcell : ∀ y ∈ scope.names, y.2 ≠ .cell) (hkind : scope.kind = .function)
    (hnames : ∀ y ∈ scope.names, y.2 = .local → scope.names.lookup y.1 = some .local) (hx1 : scope.names.lookup x1 = some .local) (hx2 : scope.names.lookup x2 = some .local) (hxx : x1 ≠ x2)
    (h : wpAny (model prog w) A (eval i1 env) (SrcTwo prog w A h₀ L m env i2 ct x1 x2 scope cl J Q) E s)
    (hs1 : ∀ x, foldedSetIterable i1 env x = pure x := by intro _; rfl) (hs2 : ∀ e x, foldedSetIterable i2 e x = pure x := by intro _ _; rfl) :
    wpAny (model prog w) A (eval (.ListComp elt [⟨.Name x1 p1, i1, [], 0⟩, ⟨.Name x2 p2, i2, [ct], 0⟩] scope pos) env) Q E s := by
  rw [eval_ListComp]
  refine wpAny_comprehension_free (use := none) rfl hs1 hclos hkind hnames (wpAny_mono h (fun xv s₁ h₁ => ?_) fun _ _ e => e)
  obtain ⟨r, n, t, u, v, news, rfl, F, N, hJ, hr, hn, inner, fin⟩ := h₁
  refine wpAny_pyIter_range hr (small_one (by omega) (by omega) (by omega) (by omega)) ?_
  have hsz : Builtin.Range.rangeSize 0 (n : Int) 1 = ((n : Nat) : Int) := by rw [rangeSize_nat]; simp
  rw [hsz]
  exact block2 hh hcell hkind hx1 hx2 hxx (by simpa using Heap.get?_push_size _ rfl) (F.keeps fun _ _ e => Heap.get?_push_of_some _ e) (N.grown fun _ _ e => Heap.get?_push_of_some _ e) (Nat.ne_of_lt F.ns.lt) (next_is_new F) (fun p hp => Nat.ne_of_lt (Heap.lt_size (N p hp).1)) hJ inner fin hs2
end
end Mine
end
theorem Mine.off_T14 : True := by
  w_top off
  trivial

section
open PySem PySem.W PySem.Calls PyProof.Rows
set_option Elab.async false
set_option maxRecDepth 100000
namespace Mine
theorem mulG_ok {row : List Int} {k : Int} {b : Int} (h0 : 0 ≤ k) (hk : k < (row.length : Int)) (hn : row.length ≤ 12) : IntMulOk ((ofts row row.length).getD k.toNat 0) b := by
  rw [ofts_get row (by omega)]
  exact mulO_ok (by omega) hn
theorem le_grows (row : List Int) (f : List Int) (x : Int) : KPfGrows (fun l (j : Int) => if row.getD j.toNat 0 ≤ x then l ++ [f.getD j.toNat 0] else l) := fun l k => by
  dsimp only; split <;> simp
section
variable {prog : Program} {w : World} {A : Around} {s : Shared} {env : Env} {h₀ : Heap} {m : Str → Option Value} {px : Pos} {body : List Stmt} {Q : Flow → Shared → Prop}
/-- for number in row, number a cell, nothing else stored -/
theorem loopN {rest : List (Addr × Obj)} {nc l : Addr} {vs : List Value} {ns : List Int} {c : Nat} {okn : Obj} {x0 : Option Value} {ps : List (Str × Value)} (hh : A.handled = none) (hi : IntsAre vs ns)
    (F : Fr h₀ env.locals s.heap m) (N : News h₀ env.locals s.heap ((nc, okn) :: rest)) (hd : okn.data = .cell x0) (hrn : ∀ p ∈ rest, p.1 ≠ nc) (hm : (l, listOf vs.toArray c) ∈ rest)
    (hk : env.scope.kind = .function) (hx : env.kindOf "number" = some .cell) (hc : env.cells.lookup (Str.ofString "number") = some nc) (H : Has m ps)
    (turn : ∀ (i : Nat) t I oI okn m₁ h tk s', i < ns.length → okn.data = .cell (some (.int (ns.getD i 0) t)) → Has m₁ ps → (∀ p ∈ (nc, okn) :: rest, p.1 ≠ I) →
      Fr h₀ env.locals h m₁ → News h₀ env.locals h ((I, oI) :: (nc, okn) :: rest) → s' = { s with heap := h, toks := tk } →
      wpAny (model prog w) A (execs body env) (TurnEnd h₀ env.locals I oI (fun nx => (l, listOf vs.toArray c) ∈ nx) (fun m nx => ∃ okn x, nx = (nc, okn) :: rest ∧ okn.data = .cell x ∧ Has m ps) Q s') (fun _ _ => False) s')
    (done : ∀ m₁ okn x h tk, okn.data = .cell x → Has m₁ ps → Fr h₀ env.locals h m₁ → News h₀ env.locals h ((nc, okn) :: rest) → Q .next { s with heap := h, toks := tk }) :
    wpAny (model prog w) A (pyIter (.ref l)) (fun it s₂ => codeAny (model prog w) A (.forLoop (.Name "number" px) it body [] env) (fun r s' => match r with | .ok f => Q f s' | .error e => cameBackBy (model prog w) A env (fun _ _ => False) e s') s₂) (fun _ _ => False) s := by
  refine for_list hh hi F N (fun _ m nx => ∃ okn x, nx = (nc, okn) :: rest ∧ okn.data = .cell x ∧ Has m ps)
    (fun _ k t m nx => ∃ okn, nx = (nc, okn) :: rest ∧ okn.data = .cell (some (.int k t)) ∧ Has m ps) ⟨okn, x0, rfl, hd, H⟩ (.tail _ hm) ?_ ?_ ?_
  · rintro i t I oI m₁ nx h tk s' hi' ⟨okn, x, rfl, hd, H⟩ hS off F₁ N₁ rfl
    refine put_cell (pre := [(I, oI)]) hk hx hc F₁ N₁ hd ?_ hrn fun h' ok' hd' F₂ N₂ => ⟨h', tk, m₁, _, rfl, F₂, N₂, ?_, .tail _ hm, ok', rfl, hd', H⟩
    · intro p hp
      rw [List.mem_singleton.mp hp]; exact Ne.symm (off (nc, okn) (.head _))
    · intro p hp
      rcases List.mem_cons.mp hp with rfl | hp
      · exact off (nc, okn) (.head _)
      · exact off p (.tail _ hp)
  · rintro i t I oI m₁ nx h tk s' hi' ⟨okn, rfl, hd, H⟩ _ off F₁ N₁ e
    exact turn i t I oI okn m₁ h tk s' hi' hd H off F₁ N₁ e
  · rintro m₁ nx h tk ⟨okn, x, rfl, hd, H⟩ F₁ N₁
    exact done m₁ okn x h tk hd H F₁ N₁
theorem endN {rest : List (Addr × Obj)} {nc l I L : Addr} {vs : List Value} {c : Nat} {oI okn : Obj} {x : Option Value} {ps : List (Str × Value)} {m₁ : Str → Option Value} {h : Heap} {tk : Nat} {s' : Shared}
    (hm : (l, listOf vs.toArray c) ∈ rest) (off : ∀ p ∈ (nc, okn) :: rest, p.1 ≠ I) (hd : okn.data = .cell x) (H : Has m₁ ps) (F : Fr h₀ L h m₁) (N : News h₀ L h ((I, oI) :: (nc, okn) :: rest)) :
    TurnEnd h₀ L I oI (fun nx => (l, listOf vs.toArray c) ∈ nx) (fun m nx => ∃ okn x, nx = (nc, okn) :: rest ∧ okn.data = .cell x ∧ Has m ps) Q s' .next { s' with heap := h, toks := tk } :=
  ⟨h, tk, m₁, _, rfl, F, N, off, .tail _ hm, okn, x, rfl, hd, H⟩
end
theorem often_one' {row no : List Int} (h : no.Perm (Ms row row.length 0)) : (ofts row row.length).sum = (no.length : Int) := by
  rw [often_one, h.length_eq]
theorem often_le' {row no : List Int} (h : no.Perm (Ms row row.length 0)) (x : Int) : ((no.filter (· ≤ x)).length : Int) = ((rangeKs 0 row.length).foldl (fun l k => if row.getD k.toNat 0 ≤ x then l ++ [(ofts row row.length).getD k.toNat 0] else l) []).sum := by
  rw [often_le, filt_perm h]
end Mine
namespace Mine
theorem reordN {h₀ h : Heap} {L : Addr} {a b c d e f g h1 i j : Addr × Obj} {r : List (Addr × Obj)} (N : News h₀ L h (a :: b :: c :: d :: e :: f :: g :: h1 :: i :: j :: r)) : News h₀ L h (g :: b :: c :: d :: e :: f :: h1 :: i :: j :: r) := fun p hp => N p (by
  simp only [List.mem_cons] at hp ⊢
  rcases hp with h | h | h | h | h | h | h | h | h | h <;> simp [h])
end Mine
end
theorem Mine.off_T12 : True := by
  w_top off
  trivial

section
open PySem PySem.W PySem.Calls PyProof.Rows
set_option Elab.async false
namespace Mine
theorem getD_rev (ns : List Int) {k : Nat} (h : k < ns.length) : ns.reverse.getD k 0 = ns.getD (ns.length - 1 - k) 0 := by
  rw [List.getD_eq_getElem?_getD, List.getD_eq_getElem?_getD, List.getElem?_reverse h]
theorem wmin_rev {ns : List Int} {lo len : Nat} (h : lo + len ≤ ns.length) (h1 : 1 ≤ len) : wmin ns.reverse (ns.length - (lo + len)) len = wmin ns lo len := by
  obtain ⟨⟨k, k1, k2, k3⟩, ha⟩ := wmin_is ns.reverse (ns.length - (lo + len)) len h1
  refine IsMin.uniq ⟨⟨ns.length - 1 - k, by omega, by omega, ?_⟩, fun q q1 q2 => ?_⟩ (wmin_is ns lo len h1)
  · rw [← k3, getD_rev ns (by omega)]
  · have h3 := ha (ns.length - 1 - q) (by omega) (by omega)
    rw [getD_rev ns (by omega), show ns.length - 1 - (ns.length - 1 - q) = q by omega] at h3
    exact h3
theorem rev_least {ns : List Int} {lo hi : Int} (h0 : 0 ≤ lo) (h1 : lo < hi) (h2 : hi ≤ (ns.length : Int)) :
    wmin ns.reverse ((ns.length : Int) - hi).toNat ((ns.length : Int) - lo - ((ns.length : Int) - hi)).toNat = wmin ns lo.toNat (hi - lo).toNat := by
  have := wmin_rev (ns := ns) (lo := lo.toNat) (len := (hi - lo).toNat) (by omega) (by omega)
  rw [← this]
  congr 1 <;> omega
theorem sep_app {a b c : List (Addr × Obj)} (h1 : Sep a c) (h2 : Sep b c) : Sep (a ++ b) c := fun p hp q hq => by
  rcases List.mem_append.mp hp with hp | hp
  · exact h1 p hp q hq
  · exact h2 p hp q hq
theorem sep_cons {x : Addr × Obj} {b c : List (Addr × Obj)} (h1 : ∀ q ∈ c, x.1 ≠ q.1) (h2 : Sep b c) : Sep (x :: b) c := fun p hp q hq => by
  rcases List.mem_cons.mp hp with rfl | hp
  · exact h1 q hq
  · exact h2 p hp q hq
/-- the ledger of the last comprehension: fixed, and the constants' table behind it -/
def TabSt (pre0 nx : List (Addr × Obj)) : Prop := ∃ tl, nx = pre0 ++ tl ∧ TabL i2dQual tl ∧ Sep pre0 tl
end Mine
namespace Mine
theorem reordB {h₀ h : Heap} {L : Addr} {a b c d e f g h1 i j : Addr × Obj} {r : List (Addr × Obj)} (N : News h₀ L h (a :: b :: c :: d :: e :: f :: g :: h1 :: i :: j :: r)) : News h₀ L h (g :: f :: i :: j :: r) := fun p hp => N p (by
  simp only [List.mem_cons] at hp ⊢
  rcases hp with h | h | h | h | h <;> simp [h])
theorem reordT {h₀ h : Heap} {L : Addr} {a b c d : Addr × Obj} {T tn tn2 tl : List (Addr × Obj)} (hT : T = tn ++ tl) (N : News h₀ L h (a :: b :: c :: d :: (T ++ tn2))) : News h₀ L h ((a :: b :: c :: d :: (tn ++ tn2)) ++ tl) := fun p hp => N p (by
  subst hT
  simp only [List.mem_cons, List.cons_append, List.mem_append] at hp ⊢
  rcases hp with h | h | h | h | (h | h) | h <;> simp [h])
end Mine
namespace Mine
section
variable {prog : Program} {w : World} {A : Around} {E : Value → Shared → Prop} {s : Shared} {h₀ : Heap} {L : Addr} {m : Str → Option Value} {env : Env}
theorem comp2T {elt i1 i2 ct : PySem.Expr} {x1 x2 : Str} {p1 p2 : Pos} {scope : Scope} {cl : List (Str × Addr)} {pos : Pos} {pre0 tl : List (Addr × Obj)} {Q : Value → Shared → Prop} (_F : Fr h₀ L s.heap m) (_N : News h₀ L s.heap (pre0 ++ tl)) (hh : A.handled = none)
    (hclos : closureFor scope env = pure cl) (hcell : ∀ y ∈ scope.names, y.2 ≠ .cell) (hkind : scope.kind = .function)
    (hnames : ∀ y ∈ scope.names, y.2 = .local → scope.names.lookup y.1 = some .local) (hx1 : scope.names.lookup x1 = some .local) (hx2 : scope.names.lookup x2 = some .local) (hxx : x1 ≠ x2)
    (h : wpAny (model prog w) A (eval i1 env) (SrcTwo prog w A h₀ L m env i2 ct x1 x2 scope cl (TabSt pre0) Q) E s)
    (hs1 : ∀ x, foldedSetIterable i1 env x = pure x := by intro _; rfl) (hs2 : ∀ e x, foldedSetIterable i2 e x = pure x := by intro _ _; rfl) :
    wpAny (model prog w) A (eval (.ListComp elt [⟨.Name x1 p1, i1, [], 0⟩, ⟨.Name x2 p2, i2, [ct], 0⟩] scope pos) env) Q E s :=
  comp2 hh hclos hcell hkind hnames hx1 hx2 hxx h hs1 hs2
end
end Mine
namespace Mine
theorem sep4P {h₀ h : Heap} {L : Addr} {a b c d : Addr × Obj} {T tn tn2 tl : List (Addr × Obj)} {adr : List Addr} (hT : T = tn ++ tl) (_N : News h₀ L h (a :: b :: c :: d :: (T ++ tn2))) (ho : OwnOff T adr) (hs1 : Sep tn tl) (hs2 : Sep tn2 tl)
    (ha : a.1 ∈ adr) (hb : b.1 ∈ adr) (hc : c.1 ∈ adr) (hd : d.1 ∈ adr) : Sep (a :: b :: c :: d :: (tn ++ tn2)) tl := by
  have hTl : ∀ q ∈ tl, q ∈ T := fun q hq => by rw [hT]; exact List.mem_append_right _ hq
  have f : ∀ x : Addr × Obj, x.1 ∈ adr → ∀ q ∈ tl, x.1 ≠ q.1 := fun x hx q hq => Ne.symm (ho q (hTl q hq) x.1 hx)
  exact sep_cons (f a ha) (sep_cons (f b hb) (sep_cons (f c hc) (sep_cons (f d hd) (sep_app hs1 hs2))))
end Mine
namespace Mine
section
variable {prog : Program} {w : World} {A : Around} {s₁ : Shared} {h₀ : Heap} {L : Addr} {m : Str → Option Value} {env : Env}
theorem SrcTwo.intro {i2 ct : PySem.Expr} {x1 x2 : Str} {scope : Scope} {cl : List (Str × Addr)} {J : List (Addr × Obj) → Prop} {Q : Value → Shared → Prop} {r : Addr} {n : Nat} {t u v : Tok} {news : List (Addr × Obj)} (F : Fr h₀ L s₁.heap m) (N : News h₀ L s₁.heap news) (hJ : J news) (hr : IsRange s₁.heap r 0 ((n : Nat) : Int) 1 t u v) (hn : n ≤ 1000)
    (inner : InnerR prog w A h₀ L m env i2 ct x1 x2 scope cl J s₁ n) (fin : ∀ D nx h tk, Fr h₀ L h m → News h₀ L h ((D, LCg.lst []) :: nx) → J nx → Q (.ref D) { s₁ with heap := h, toks := tk }) : SrcTwo prog w A h₀ L m env i2 ct x1 x2 scope cl J Q (.ref r) s₁ :=
  ⟨r, n, t, u, v, news, rfl, F, N, hJ, hr, hn, inner, fin⟩
theorem InnPost.intro {ct : PySem.Expr} {x1 x2 : Str} {scope : Scope} {cl : List (Str × Addr)} {J : List (Addr × Obj) → Prop} {i : Nat} {t : Tok} {I C D r2 : Addr} {oI oC : Obj} {nx : List (Addr × Obj)} {b0 b1 : Int} {n2 : Nat} {t' u v : Tok} {h' : Heap} {tk' : Nat} (F : Fr h₀ L h' m) (N : News h₀ L h' ((I, oI) :: (C, oC) :: (D, LCg.lst []) :: nx)) (hr : IsRange h' r2 b0 b1 1 t' u v) (h1 : b1 = b0 + ((n2 : Nat) : Int)) (h2 : 0 ≤ b0) (h3 : b1 ≤ 1000)
    (test : TestNo prog w A h₀ L m env ct x1 x2 scope cl J s₁ i t b0 n2) : InnPost prog w A h₀ L m env ct x1 x2 scope cl J s₁ i t I oI C oC D nx (.ref r2) { s₁ with heap := h', toks := tk' } :=
  ⟨r2, b0, b1, n2, t', u, v, h', tk', rfl, rfl, F, N, hr, h1, h2, h3, test⟩
theorem TstPost.intro {J : List (Addr × Obj) → Prop} {I2 I C D : Addr} {oI2 oI oC : Obj} {b : Bool} {h' : Heap} {tk' : Nat} {nx' : List (Addr × Obj)} (hb : b = false) (F : Fr h₀ L h' m) (N : News h₀ L h' ((I2, oI2) :: (I, oI) :: (C, oC) :: (D, LCg.lst []) :: nx')) (off : Off4 I2 I C D nx') (hJ : J nx') :
    TstPost h₀ L m J s₁ I2 oI2 I oI C oC D b { s₁ with heap := h', toks := tk' } := ⟨hb, h', tk', nx', rfl, F, N, off, hJ⟩
end
end Mine
namespace Mine
theorem sepA {I7 I8 C8 D8 : Addr} {o1 o2 o3 o4 : Obj} {pre0 tl : List (Addr × Obj)} (off : Off4 I7 I8 C8 D8 (pre0 ++ tl)) (hs : Sep pre0 tl) : Sep ((I7, o1) :: (I8, o2) :: (C8, o3) :: (D8, o4) :: pre0) tl := by
  have f : ∀ q ∈ tl, q ∈ pre0 ++ tl := fun q hq => List.mem_append_right _ hq
  exact sep_cons (fun q hq => Ne.symm (off q (f q hq)).1) (sep_cons (fun q hq => Ne.symm (off q (f q hq)).2.1) (sep_cons (fun q hq => Ne.symm (off q (f q hq)).2.2.1) (sep_cons (fun q hq => Ne.symm (off q (f q hq)).2.2.2) hs)))
theorem offB {I7 I8 C8 D8 : Addr} {o1 o2 o3 o4 : Obj} {pre0 tl tl' : List (Addr × Obj)} (off : Off4 I7 I8 C8 D8 (pre0 ++ tl)) (hs : Sep ((I7, o1) :: (I8, o2) :: (C8, o3) :: (D8, o4) :: pre0) tl') : Off4 I7 I8 C8 D8 (pre0 ++ tl') := fun q hq => by
  rcases List.mem_append.mp hq with hq | hq
  · exact off q (List.mem_append_left _ hq)
  · exact ⟨Ne.symm (hs _ (.head _) q hq), Ne.symm (hs _ (.tail _ (.head _)) q hq), Ne.symm (hs _ (.tail _ (.tail _ (.head _))) q hq), Ne.symm (hs _ (.tail _ (.tail _ (.tail _ (.head _)))) q hq)⟩
theorem sepP {I7 I8 C8 D8 : Addr} {o1 o2 o3 o4 : Obj} {pre0 tl : List (Addr × Obj)} (hs : Sep ((I7, o1) :: (I8, o2) :: (C8, o3) :: (D8, o4) :: pre0) tl) : Sep pre0 tl := fun p hp q hq => hs p (.tail _ (.tail _ (.tail _ (.tail _ hp)))) q hq
end Mine
namespace Mine
theorem grown_tab {h : Heap} {qual : Str} {tl : List (Addr × Obj)} (htl : TabL qual tl) (hg : ∀ q ∈ tl, h.get? q.1 = some q.2) : GrownAll [(20, 16)] h := by
  rcases htl with rfl | ⟨c', oc, vs, t, rfl, _, _⟩
  · exact ⟨⟨_, hg _ (.head _)⟩, trivial⟩
  · exact ⟨⟨_, hg _ (.head _)⟩, trivial⟩
end Mine
end
theorem Mine.off_P3 : True := by
  w_top off
  trivial

section
open PySem PySem.W PySem.Calls PyProof.Rows
set_option Elab.async false
set_option maxRecDepth 100000
namespace Mine
theorem off_of_sep {pre tn : List (Addr × Obj)} (h : ∀ p ∈ pre, ∀ q ∈ tn, p.1 ≠ q.1) : OwnOff tn (pre.map (·.1)) := fun q hq b hb e => by
  obtain ⟨p, hp, rfl⟩ := List.mem_map.mp hb
  exact h p hp q hq e.symm
theorem len_take12 {vs : List Value} (ns : List Int) (_h : IntsAre vs (List.take 12 ns)) : (List.take 12 ns).length ≤ 12 := by simp; omega
local macro_rules | `(tactic| walk_at "m_steps") => `(tactic| repeat' ((fail_if_success (with_reducible show wpAny _ _ (PySem.call (Value.builtin "list.append") _ _) _ _ _)); (fail_if_success (with_reducible show LCt.CompSrcT _ _ _ _ _ _ _ _ _ _ _ _ _ _ _)); (fail_if_success (with_reducible show LCg.CompSrc _ _ _ _ _ _ _ _ _ _ _ _ _ _)); (fail_if_success (with_reducible show wpAny _ _ (exec (Stmt.Return _ _) _) _ _ _)); (fail_if_success (with_reducible show wpAny _ _ (exec (Stmt.While _ _ _ _) _) _ _ _)); (fail_if_success (with_reducible show wpAny _ _ (exec (Stmt.For _ _ _ _ _) _) _ _ _)); (fail_if_success (with_reducible show wpAny _ _ (PySem.call (Value.ref _) _ _) _ _ _)); (fail_if_success (with_reducible show wpAny _ _ (PySem.call (Value.builtin "sorted") _ _) _ _ _)); (fail_if_success (with_reducible show wpAny _ _ (subscriptTail _ _ (Value.ref _) (Value.int _ _)) _ _ _)); first | (k_unfold; (try dsimp only)) | (k_end; wrow_close) | walk1 | (dsimp only; walk1) | (leave1; walk_say "STEP leave1"; try dsimp only) | fail "no step"))
local macro_rules | `(tactic| walk_at "m_stepl") => `(tactic| repeat' ((fail_if_success (with_reducible show LCt.CompSrcT _ _ _ _ _ _ _ _ _ _ _ _ _ _ _)); (fail_if_success (with_reducible show LCg.CompSrc _ _ _ _ _ _ _ _ _ _ _ _ _ _)); (fail_if_success (with_reducible show wpAny _ _ (exec (Stmt.Return _ _) _) _ _ _)); (fail_if_success (with_reducible show wpAny _ _ (exec (Stmt.While _ _ _ _) _) _ _ _)); (fail_if_success (with_reducible show wpAny _ _ (exec (Stmt.For _ _ _ _ _) _) _ _ _)); (fail_if_success (with_reducible show wpAny _ _ (PySem.call (Value.ref _) _ _) _ _ _)); (fail_if_success (with_reducible show wpAny _ _ (PySem.call (Value.builtin "sorted") _ _) _ _ _)); (fail_if_success (with_reducible show wpAny _ _ (PySem.call (Value.builtin "len") _ _) _ _ _)); (fail_if_success (with_reducible show wpAny _ _ (subscriptTail _ _ (Value.ref _) (Value.int _ _)) _ _ _)); first | (k_unfold; (try dsimp only)) | (k_end; wrow_close) | walk1 | (dsimp only; walk1) | (leave1; walk_say "STEP leave1"; try dsimp only) | fail "no step"))
local macro_rules | `(tactic| walk_at "eval ListComp") => `(tactic| (k_here; lct_look; lcg_calm; k_dflt (refine LCt.ListComp_T (F₀ := by k_asm) (by with_unfolding_all rfl) (by decide) (by rfl) (by decide) (by rfl) ?_)))
local macro_rules | `(tactic| walk_at "exec Assign cons ListComp") => `(tactic| (k_here; lct_look; lcg_calm; k_dflt (refine LCt.Assign_ListComp_T (F₀ := by k_asm) (by rfl) (by with_unfolding_all rfl) (by with_unfolding_all rfl) (by decide) (by rfl) (by decide) (by rfl) (by rfl) (by rfl) ?_)))
local macro_rules | `(tactic| walk_at "m_stepx") => `(tactic| repeat' ((fail_if_success (with_reducible show GrownAll _ _)); (fail_if_success (with_reducible show wpAny _ _ (PySem.binaryOp PySem.Operator.Mult (Value.int _ _) (Value.int _ _)) _ _ _)); (fail_if_success (with_reducible show wpAny _ _ (PySem.call (Value.builtin "list.append") _ _) _ _ _)); (fail_if_success (with_reducible show LCt.CompSrcT _ _ _ _ _ _ _ _ _ _ _ _ _ _ _)); (fail_if_success (with_reducible show LCg.CompSrc _ _ _ _ _ _ _ _ _ _ _ _ _ _)); (fail_if_success (with_reducible show wpAny _ _ (exec (Stmt.Return _ _) _) _ _ _)); (fail_if_success (with_reducible show wpAny _ _ (exec (Stmt.While _ _ _ _) _) _ _ _)); (fail_if_success (with_reducible show wpAny _ _ (exec (Stmt.For _ _ _ _ _) _) _ _ _)); (fail_if_success (with_reducible show wpAny _ _ (PySem.call (Value.ref _) _ _) _ _ _)); (fail_if_success (with_reducible show wpAny _ _ (PySem.call (Value.builtin "sorted") _ _) _ _ _)); (fail_if_success (with_reducible show wpAny _ _ (subscriptTail _ _ (Value.ref _) (Value.int _ _)) _ _ _)); first | (k_unfold; (try dsimp only)) | (k_end; wrow_close) | walk1 | (dsimp only; walk1) | (leave1; walk_say "STEP leave1"; try dsimp only) | fail "no step"))
set_option maxHeartbeats 40000000
theorem law : PySem.Challenge.rw_hd0004_01.Holds := hd (by
  first
    | k_go0
      (rename CellsAre _ _ _ => z1; clear z1)
      (rename Dflts _ _ _ _ _ _ => z1; clear z1)
      (rename Heap.CodeRec _ _ _ => z1; clear z1)
      (all_goals try k_fold)
      refine wpAny_mono (E := fun _ _ => False) ?_ (fun _ _ h => h) (fun _ _ h => h.elim)
      walk_at "m_steps"
      rename Frag.In _ (ghostOf _ _) => X'
      rename Top _ _ _ _ _ (ghostOf _ _) => T'
      rename Below callerA _ _ _ => K'
      rename Fr _ _ _ _ => F1
      rename News _ _ _ _ => N1
      rename IntsAre _ (List.take 12 _) => hI
      have hn12 := len_take12 _ hI
      revert hI hn12
      generalize List.take 12 _ = row
      intro hI hn12
      refine' kept' K' F1 N1 X' T' rfl rfl ⟨rfl, rfl, rfl, Nat.le_of_ble_eq_true rfl, Nat.le_of_ble_eq_true rfl⟩ (News.isList N1 (by k_mem)) hI hn12 ?_
      intro t us ct tn h5 tk5 F5 N5 sep5 fr5 st5 ht hrow hlev
      clear F1 N1
      simp only [List.cons_append, List.nil_append] at N5
      have hoff := off_of_sep sep5
      simp only [List.map_cons, List.map_nil] at hoff
      have hMk := kstMark
      walk_at "m_steps"
      refine wpAny_For ?_
      walk_at "m_steps"
      rename IsRange _ _ _ _ _ _ _ _ => hr1
      rename News _ _ _ _ => N6
      rename Fr _ _ _ _ => F6
      have N7 := reord1 N6
      refine' loopA rfl hr1 hn12 F6 N7 ?sep1 ?hlr1 rfl rfl ?has1 ?turn1 ?done1
      case sep1 => exact sep_one (by k_all)
      case hlr1 => k_all
      case has1 => exact .cons (by rfl) (.cons (by rfl) .nil)
      case turn1 =>
        clear N6 N7 F6
        rintro i t1 I oI m1 nx h7 tk7 s7 hi7 hO7 hm7 off7 F7 N7 rfl
        have hO7' := hO7
        obtain ⟨hlr7, vo, no, co, tl, wh, tw, rfl, htl, hsep, hivo, hsno, hpno, hwno, H7⟩ := hO7'
        have N7' := N7
        simp only [List.cons_append] at N7'
        have Hlow : Has m1 [("low", .int (i : Int) t1)] := .cons hm7 .nil
        replace F7 := fr_has F7 Hlow
        dsimp only [kstB] at F7
        walk_at "m_steps"
        refine wpAny_For ?_
        walk_at "m_steps"
        (try clear F7 N7')
        rename IsRange _ _ _ _ _ _ _ _ => hr2
        rename News _ _ _ _ => N8
        rename Fr _ _ _ _ => F8
        refine' loopB rfl hr2 rfl rfl hn12 hi7 (fr_unhas m1 _ Hlow F8) N8 off7 hO7 hm7 rfl rfl ?turn2 ?done2
        case done2 =>
          intro m3 nx3 h3 tk3 hO3 F3 N3
          walk_at "m_steps"
          exact endA (off7 _ (.head _)) (fun p hp => off7 p (.tail _ (List.mem_append_left _ hp))) hO3 F3 N3
        case turn2 =>
          rintro d t2 I2 oI2 m2 vo2 no2 co2 tl2 wh2 tw2 h9 tk9 s9 hd9 hlr9 htl9 hsep9 hi9 hs9 hp9 hw9 H9 hsepI9 hoffI9 F9 N9 rfl
          have hN9 := hold N9
          replace F9 := fr_has F9 H9
          dsimp only [kstB] at F9
          simp only [List.cons_append] at N9
          walk_at "m_steps"
          rename News _ _ _ _ => N10
          rename Fr _ _ _ _ => F10
          rename Hold _ => hN9
          have N11 := news_same hN9 N10 rfl
          refine' least' K' F10 X' T' rfl rfl ⟨rfl, rfl, rfl, Nat.le_of_ble_eq_true rfl, Nat.le_of_ble_eq_true rfl⟩ (by assumption) htl9 (pre := (I2, oI2) :: (_, _) :: (I, oI) :: _) N11 (sep_full hsep9 hoffI9) (tn := tn) ?htn ht hrow hlev ?q0 ?q1 ?q2 hn12 ?fin
          case htn => exact fun q hq => by repeat (first | exact hq | apply List.mem_cons_of_mem)
          case q0 => omega
          case q1 => omega
          case q2 => omega
          case fin =>
            intro ta h10 tk10 tl3 F12 N12 S12 htl3 _
            have hN12 := hold N12
            simp only [List.cons_append] at N12
            clear hN9 N11 N10 F10 N8 F8
            walk_at "m_steps"
            · have hx := min_slice2 (row := row) (i := i) (d := d) (by omega) (by assumption) (by assumption)
              contradiction
            · have hx : wmin row (i : Int).toNat ((i : Int) + 1 + (d : Int) - (i : Int)).toNat = wmin row i (d + 1) := by
                rw [show (i : Int).toNat = i by omega, show ((i : Int) + 1 + (d : Int) - (i : Int)).toNat = d + 1 by omega]
              have hlen := Ms_len row hn12 i d (by omega) (by omega)
              rename News _ _ _ _ => N14
              rename Fr _ _ _ _ => F14
              refine' insort K' F14 X' T' rfl rfl rfl rfl rfl (Nat.le_of_ble_eq_true rfl) (Nat.le_of_ble_eq_true rfl) (kst_newsOf N14 (fun q hq => by rw [List.mem_singleton.mp hq]; k_mem)) hi9 (by rw [hp9.length_eq]; omega) hs9 ?fin2
              intro h12 tk12 vs12 ns12 c12 hk12 hl12 hi12 hn12'
              rename Hold _ => hN12
              have N15 := news_same hN12 (kst_newsOf N14 (fun q hq => List.Mem.tail _ hq)) rfl
              obtain ⟨F16, N16⟩ := upd_ext F14 N15 (updB hlr9 hsepI9 S12) hk12 hl12
              clear N14 F14 N15 hN12
              have hN16 := hold N16
              simp only [List.cons_append] at N16
              walk_at "m_steps"
              rename News _ _ _ _ => N17
              rename Fr _ _ _ _ => F17
              exact endB hlr9 htl3 S12 hsepI9 hi12 hn12' hs9 hp9 hw9 hx (.cons (by rfl) (.cons (by rfl) (.cons (by rfl) .nil))) F17 (news_same hN16 N17 rfl)
      case done1 =>
        clear N6 N7 F6
        rintro m1 nx1 h7 tk7 ⟨hlr7, vo, no, co, tl, wh, tw, rfl, htl, hsep, hivo, hsno, hpno, hwno, H7⟩ F7 N7
        replace F7 := fr_has F7 H7
        dsimp only [kstB] at F7
        have hoffT := off_join (cs := [_, _, _, _, _, _, _]) hlr7 hoff (by simp) hsep
        clear hoff
        simp only [List.map_cons, List.map_nil, List.nil_append, List.cons_append] at hoffT
        simp only [List.cons_append, List.nil_append, List.append_assoc] at N7
        obtain ⟨T, hT⟩ : ∃ T, T = tn ++ tl := ⟨_, rfl⟩
        rw [← hT] at N7 hoffT
        have hnol : no.length ≤ 150 := Nat.le_trans (Nat.le_of_eq hpno.length_eq) (Nat.le_trans (Ms_len row hn12 row.length 0 hn12 (Nat.zero_le _)) (by omega))
        walk_at "m_steps"
        rename News _ _ _ _ => N20
        rename Fr _ _ _ _ => F20
        refine' sorted_same F20 N20 (News.isList N20 (by k_mem)) hivo (srt_pw hsno) (by rw [hivo.length]; omega) ?_
        intro D2 h21 e21 hlt21 F21 N21
        clear F20 N20
        k_lt hlt21
        walk_at "m_stepl"
        refine len_is (News.isList N21 (by k_mem)) (k := (no.length : Int)) (by simp [hivo.length]) (by omega) ?_
        walk_at "m_steps"
        · exact absurd (ord_count hpno) (by assumption)
        · refine wpAny_For ?_
          walk_at "m_steps"
          rename News _ _ _ _ => N22
          rename Fr _ _ _ _ => F22
          rename IsRange _ _ _ _ _ _ _ _ => hr3
          have H22 : Has m1 [("order", .ref _), ("whole", .int wh tw)] := H7
          have N23 := reordK N22
          refine' loopK rfl hr3 hn12 (fr_unhas m1 _ H22 F22) N23 ?hd3 ?hko3 ?hrk3 ?hro3 rfl rfl rfl H22 ?turn3 ?done3
          case hd3 => assumption
          case hko3 => k_ne
          case hrk3 => k_all
          case hro3 => k_all
          case turn3 =>
            clear N22 N23 F22 hr3
            intro i3 t3 I3 oI3 vf3 cf3 ok3 m3 h3 tk3 s3 hi3 hv3 hd3 H3 off3 hro3 F3 N3 e3
            subst e3
            have hN3 := hold N3
            have hne3 : @Ne Nat _ _ := off3 _ (.head _)
            dsimp only at hne3
            have H3' : Has m3 [("order", .ref _)] := .cons (H3 _ (.head _)) .nil
            replace F3 := fr_has F3 H3
            dsimp only [kstB] at F3
            walk_at "m_steps"
            refine LCt.CompSrcT.range (n := i3) (by rfl) (by k_asm) (by k_asm) (by assumption) (small_one (by omega) (by omega) (by omega) (by omega)) (by rw [rangeSize_nat]; simp) (by rw [PySem.sizeLine_eq]; omega) ?_
            intro g'
            refine' kci_range (fun l j => if row.getD j.toNat 0 ≤ row.getD (i3 : Int).toNat 0 then l ++ [j] else l) (fun k' t' I' oI' C' oC' D' m' ys' l' h' tk' E' hlo' hhi' hI' hC' hx' F' N' off' ne' hMark' => ?tL) ?fL (lfs_grows row _)
            case tL =>
              walk_at "m_steps"
              refine item_news (by k_asm) (by k_mem) hI (by omega) (by omega) (by omega) ?_
              intro ta
              walk_at "m_steps"
              refine item_news (by k_asm) (by k_mem) hI (by omega) (by omega) (by omega) ?_
              intro tb
              walk_at "m_steps"
              · exact LCg.CompEnd.intro (by assumption) (by assumption) _ (fun _ hp => hp) off' trivial (kci_el (if_pos (by assumption)) rfl rfl)
              · exact LCg.CompEnd.intro (by assumption) (by assumption) _ (fun _ hp => hp) off' trivial (kci_no (if_neg (by assumption)) rfl)
            case fL =>
              unfold KPfDone
              intro ysL hysL hlL
              replace hysL : IntsAre ysL (lfs row i3 i3) := hysL
              walk_at "m_steps"
              refine LCt.CompSrcT.range (n := row.length - (i3 + 1)) (by rfl) (by k_asm) (by k_asm) (by assumption) (small_one (by omega) (by omega) (by omega) (by omega)) (by rw [rangeSize_nat]; omega) (by rw [PySem.sizeLine_eq]; omega) ?_
              intro g'
              refine' kci_range (fun l j => if row.getD j.toNat 0 < row.getD (i3 : Int).toNat 0 then l ++ [j] else l) (fun k' t' I' oI' C' oC' D' m' ys' l' h' tk' E' hlo' hhi' hI' hC' hx' F' N' off' ne' hMark' => ?tR) ?fR (rts_grows row _)
              case tR =>
                walk_at "m_steps"
                refine item_news (by k_asm) (by k_mem) hI (by omega) (by omega) (by omega) ?_
                intro ta
                walk_at "m_steps"
                refine item_news (by k_asm) (by k_mem) hI (by omega) (by omega) (by omega) ?_
                intro tb
                walk_at "m_steps"
                · exact LCg.CompEnd.intro (by assumption) (by assumption) _ (fun _ hp => hp) off' trivial (kci_el (if_pos (by assumption)) rfl rfl)
                · exact LCg.CompEnd.intro (by assumption) (by assumption) _ (fun _ hp => hp) off' trivial (kci_no (if_neg (by assumption)) rfl)
              case fR =>
                unfold KPfDone
                intro ysR hysR hlR
                replace hysR : IntsAre ysR (rts row i3 (row.length - (i3 + 1))) := hysR
                walk_at "m_steps"
                · refine' append_int (pre := [_, _, _, _, _]) (by k_asm) (by k_asm) rfl ?ca hro3 hv3 (by rw [ofts_len]; omega) ?cb
                  case ca => k_all
                  case cb =>
                    intro h9 F9 N9 hi9
                    simp only [List.cons_append, List.nil_append] at N9
                    walk_at "m_steps"
                    exact endK (off_same off3) hd3 hi9 rfl (oft_eq rfl rfl (last_nil (by assumption)) (head_nil (by assumption))) (.cons (by rfl) (.cons (by rfl) .nil)) F9 (fun p hp => N9 p (by repeat (first | exact hp | apply List.mem_cons_of_mem)))
                · refine item_head (d := row.length) (News.isList (by assumption) (by k_mem)) hysR (ne_nil' (by assumption)) ?_
                  intro tc
                  walk_at "m_steps"
                  refine' append_int (pre := [_, _, _, _, _]) (by k_asm) (by k_asm) rfl ?da hro3 hv3 (by rw [ofts_len]; omega) ?db
                  case da => k_all
                  case db =>
                    intro h9 F9 N9 hi9
                    simp only [List.cons_append, List.nil_append] at N9
                    walk_at "m_steps"
                    exact endK (off_same off3) hd3 hi9 rfl (oft_eq rfl rfl (last_nil (by assumption)) rfl) (.cons (by rfl) (.cons (by rfl) .nil)) F9 (fun p hp => N9 p (by repeat (first | exact hp | apply List.mem_cons_of_mem)))
                · refine item_last (d := -1) (News.isList (by assumption) (by k_mem)) hysL (ne_nil' (by assumption)) ?_
                  intro tc
                  walk_at "m_steps"
                  · refine' append_int (pre := [_, _, _, _, _]) (by k_asm) (by k_asm) rfl ?ea hro3 hv3 (by rw [ofts_len]; omega) ?eb
                    case ea => k_all
                    case eb =>
                      intro h9 F9 N9 hi9
                      simp only [List.cons_append, List.nil_append] at N9
                      walk_at "m_steps"
                      exact endK (off_same off3) hd3 hi9 rfl (oft_eq rfl rfl rfl (head_nil (by assumption))) (.cons (by rfl) (.cons (by rfl) .nil)) F9 (fun p hp => N9 p (by repeat (first | exact hp | apply List.mem_cons_of_mem)))
                  · refine item_head (d := row.length) (News.isList (by assumption) (by k_mem)) hysR (ne_nil' (by assumption)) ?_
                    intro td
                    walk_at "m_steps"
                    refine mul_int ?_ (mulL_ok hi3 hn12)
                    walk_at "m_steps"
                    refine' append_int (pre := [_, _, _, _, _]) (by k_asm) (by k_asm) rfl ?fa hro3 hv3 (by rw [ofts_len]; omega) ?fb
                    case fa => k_all
                    case fb =>
                      intro h9 F9 N9 hi9
                      simp only [List.cons_append, List.nil_append] at N9
                      walk_at "m_steps"
                      exact endK (off_same off3) hd3 hi9 rfl (oft_eq rfl rfl rfl rfl) (.cons (by rfl) (.cons (by rfl) .nil)) F9 (fun p hp => N9 p (by repeat (first | exact hp | apply List.mem_cons_of_mem)))
          case done3 =>
            clear N22 N23 F22 hr3
            intro m3 vf3 cf3 ok3 x3 h3 tk3 hv3 hd3 H3 F3 N3
            have H3' : Has m3 [("order", .ref _)] := .cons (H3 _ (.head _)) .nil
            replace F3 := fr_has F3 H3
            dsimp only [kstB] at F3
            walk_at "m_stepx"
            · exact absurd (often_one' hpno) (by assumption)
            · refine LCg.CompSrc.range (n := row.length) (by rfl) (by k_asm) (by k_asm) (by assumption) (small_one (by omega) (by omega) (by omega) (by omega)) (by rw [rangeSize_nat]; simp) (by rw [PySem.sizeLine_eq]; omega) ?_
              intro g'
              refine' kcf_range (fun k => (ofts row row.length).getD k.toNat 0 * row.getD k.toNat 0) (fun k' t' I' oI' C' oC' D' m' ys' h' tk' E' hlo' hhi' hC' hx' F' N' off' ne' hMark' => ?tS) ?fS
              case tS =>
                have hhi2 : k' < (row.length : Int) := by omega
                walk_at "m_stepx"
                refine item_news (by k_asm) (by k_mem) hv3 (by omega) (by rw [ofts_len]; omega) (by rw [ofts_len]; omega) ?_
                intro ta
                walk_at "m_stepx"
                refine item_news (by k_asm) (by k_mem) hI (by omega) (by omega) (by omega) ?_
                intro tb
                walk_at "m_stepx"
                refine mul_int ?_ (mulG_ok hlo' hhi2 hn12)
                walk_at "m_stepx"
              case fS =>
                unfold KPfDone
                intro ysS hysS
                have hsS := often_row row
                have glS : (List.map (fun k : Int => (ofts row row.length).getD k.toNat 0 * row.getD k.toNat 0) (rangeKs 0 row.length)).length ≤ 12 := by simp [rangeKs]; omega
                revert hysS hsS glS
                generalize List.map _ (rangeKs 0 row.length) = rS
                intro hysS hsS glS
                walk_at "m_stepx"
                · exact absurd (hsS.trans hwno.symm) (by assumption)
                · refine wpAny_For ?_
                  walk_at "m_stepx"
                  rename Fr _ _ _ _ => F32
                  rename News _ _ _ _ => N32
                  have N33 := reordN N32
                  have H31 : Has m3 [("order", .ref _), ("whole", .int wh tw)] := H3
                  refine' loopN rfl hI (fr_unhas m3 _ H31 F32) N33 ?hd4 ?hrn4 ?hm4 rfl rfl rfl H31 ?turn4 ?done4
                  case hd4 => assumption
                  case hrn4 => k_all
                  case hm4 => k_mem
                  case turn4 =>
                    clear N32 N33 F32
                    intro i4 t4 I4 oI4 okn4 m4 h4 tk4 s4 hi4 hd4 H4 off4 F4 N4 e4
                    subst e4
                    have H4' := H4
                    replace F4 := fr_has F4 H4
                    dsimp only [kstB] at F4
                    walk_at "m_stepx"
                    rename Fr _ _ _ _ => F41
                    rename News _ _ _ _ => N41
                    refine' bisR' K' F41 X' T' rfl rfl ⟨rfl, rfl, rfl, Nat.le_of_ble_eq_true rfl, Nat.le_of_ble_eq_true rfl⟩ (News.isList N41 (by k_mem)) hivo (by omega) hsno ?_
                    intro t5 h5' tk5' st5
                    have F42 := fr_ext F41 st5
                    have N42 := news_ext N41 st5
                    clear F41 N41
                    walk_at "m_stepx"
                    refine LCt.CompSrcT.range (n := row.length) (by rfl) (by k_asm) (by k_asm) (by assumption) (small_one (by omega) (by omega) (by omega) (by omega)) (by rw [rangeSize_nat]; simp) (by rw [PySem.sizeLine_eq]; omega) ?_
                    intro g'
                    refine' kci_range (fun l j => if row.getD j.toNat 0 ≤ row.getD i4 0 then l ++ [(ofts row row.length).getD j.toNat 0] else l) (fun k' t' I' oI' C' oC' D' m' ys' l' h' tk' E' hlo' hhi' hI' hC' hx' F' N' off' ne' hMark' => ?tL4) ?fL4 (le_grows row _ _)
                    case tL4 =>
                      have hhi2 : k' < (row.length : Int) := by omega
                      walk_at "m_stepx"
                      refine item_news (by k_asm) (by k_mem) hI (by omega) (by omega) (by omega) ?_
                      intro ta
                      walk_at "m_stepx"
                      · refine item_news (by k_asm) (by k_mem) hv3 (by omega) (by rw [ofts_len]; omega) (by rw [ofts_len]; omega) ?_
                        intro tb
                        walk_at "m_stepx"
                        exact LCg.CompEnd.intro (by assumption) (by assumption) _ (fun _ hp => hp) off' trivial (kci_el (if_pos (by assumption)) rfl rfl)
                      · exact LCg.CompEnd.intro (by assumption) (by assumption) _ (fun _ hp => hp) off' trivial (kci_no (if_neg (by assumption)) rfl)
                    case fL4 =>
                      unfold KPfDone
                      intro ysB hysB hlB
                      have hsB := often_le' hpno (row.getD i4 0)
                      revert hysB hsB
                      generalize List.foldl _ _ (rangeKs 0 row.length) = rB
                      intro hysB hsB
                      walk_at "m_stepx"
                      · exact absurd hsB (by assumption)
                      · rename Fr _ _ _ _ => F49
                        rename News _ _ _ _ => N49
                        exact endN (by k_mem) off4 hd4 (.cons (by rfl) (.cons (by rfl) .nil)) F49 (fun p hp => N49 p (by repeat (first | exact hp | apply List.mem_cons_of_mem)))
                  case done4 =>
                    clear N32 N33 F32
                    intro m5 okn5 x5 h5n tk5n hd5 H5 F5n N5n
                    have H5' := H5
                    replace F5n := fr_has F5n H5
                    dsimp only [kstB] at F5n
                    walk_at "m_stepx"
                    rename News _ _ _ _ => N51
                    rename Fr _ _ _ _ => F51
                    rename IntsAre _ (List.reverse row) => hIr
                    refine' kept' K' F51 N51 X' T' rfl rfl ⟨rfl, rfl, rfl, Nat.le_of_ble_eq_true rfl, Nat.le_of_ble_eq_true rfl⟩ (News.isList N51 (by k_mem)) hIr (by rw [List.length_reverse]; exact hn12) ?_
                    intro t2 us2 ct2 tn2 h6 tk6 F6n N6n sep6 fr6 st6 ht2 hrow2 hlev2
                    clear F51 N51
                    have hTl : ∀ q ∈ tl, q ∈ T := fun q hq => by rw [hT]; exact List.mem_append_right _ hq
                    have hTn : ∀ q ∈ tn, q ∈ T := fun q hq => by rw [hT]; exact List.mem_append_left _ hq
                    have hs2 : Sep tn2 tl := fun p hp q hq => Ne.symm (sep6 q (by repeat (first | exact hTl q hq | apply List.mem_cons_of_mem)) p hp)
                    have hs1 : Sep tn tl := fun p hp q hq => hsep p (by repeat (first | exact hp | apply List.mem_cons_of_mem)) q hq
                    simp only [List.cons_append] at N6n
                    have N7n := reordB N6n
                    clear N6n
                    walk_at "m_stepx"
                    refine put_cell (pre := []) rfl rfl rfl F6n N7n (by assumption) (fun p hp => nomatch hp) ?h2b ?_
                    case h2b =>
                      refine List.forall_mem_cons.mpr ⟨by k_ne, List.forall_mem_cons.mpr ⟨by k_ne, List.forall_mem_cons.mpr ⟨by k_ne, List.forall_mem_append.mpr ⟨hoffT.ne (by simp), fun q hq => Ne.symm (sep6 (_, _) (by k_mem) q hq)⟩⟩⟩⟩
                    intro h8n okb hdb F8n N8n
                    simp only [List.nil_append] at N8n
                    walk_at "m_stepx"
                    refine wpAny_Return_some ?_
                    walk_at "m_stepx"
                    have N9n := reordT hT N8n
                    have hsP := sep4P hT N8n hoffT hs1 hs2 (by simp) (by simp) (by simp) (by simp)
                    refine comp2T F8n N9n (by rfl) (by with_unfolding_all rfl) (by decide) (by rfl) (by decide) (by rfl) (by rfl) (by decide) ?_
                    simp only [List.cons_append] at N9n
                    clear N8n
                    walk_at "m_stepx"
                    rename Fr _ _ _ _ => F91
                    rename News _ _ _ _ => N91
                    refine SrcTwo.intro F91 N91 ⟨tl, rfl, htl, hsP⟩ (by assumption) (by omega) ?inner5 ?fin5
                    case fin5 =>
                      rintro D9 nx9 h9n tk9n F9x N9x ⟨tl9, rfl, htl9, hs9⟩
                      simp only [List.cons_append] at N9x
                      clear F91 N91
                      walk_at "m_stepx"
                      rename News _ _ _ _ => N99
                      exact grown_tab htl9 fun q hq => (N99 q (by repeat (first | exact List.mem_append_right _ hq | apply List.mem_cons_of_mem))).1
                    case inner5 =>
                      unfold InnerR
                      rintro i6 t6 I6 oI6 C6 oC6 D6 m6 nx6 h6n tk6n hi6 hoC6 hm6 F6x N6x off6 ⟨tl6, rfl, htl6, hs6⟩
                      simp only [List.cons_append] at N6x
                      clear F91 N91
                      walk_at "m_stepx"
                      rename Fr _ _ _ _ => F92
                      rename News _ _ _ _ => N92
                      refine InnPost.intro (n2 := row.length - i6) F92 N92 (by assumption) (by omega) (by omega) (by omega) ?test5
                      case test5 =>
                        unfold TestNo
                        rintro j7 t7 I7 oI7 I8 oI8 C8 oC8 D8 m7 nx7 h7n tk7n hj7 hoC7 hm71 hm72 F7x N7x off7 ⟨tl7, rfl, htl7, hs7⟩
                        have hN7 := hold N7x
                        have hsA := sepA (o1 := oI7) (o2 := oI8) (o3 := oC8) (o4 := LCg.lst []) off7 hs7
                        simp only [List.cons_append] at N7x
                        walk_at "m_stepx"
                        rename Fr _ _ _ _ => F71
                        rename News _ _ _ _ => N71
                        have N72 := news_same hN7 N71 rfl
                        refine' least' K' F71 X' T' rfl rfl ⟨rfl, rfl, rfl, Nat.le_of_ble_eq_true rfl, Nat.le_of_ble_eq_true rfl⟩ (by assumption) htl7 (pre := (I7, oI7) :: (I8, oI8) :: (C8, oC8) :: (D8, LCg.lst []) :: _) N72 hsA (tn := tn2) ?htnA ht2 hrow2 hlev2 ?qA0 ?qA1 ?qA2 (by rw [List.length_reverse]; exact hn12) ?finA
                        case htnA => exact fun q hq => by repeat (first | exact List.mem_append_right _ hq | apply List.mem_cons_of_mem)
                        case qA0 => omega
                        case qA1 => omega
                        case qA2 => rw [List.length_reverse]; omega
                        case finA =>
                          intro ta h10 tk10 tl9 F12 N12 S12 htl9 _
                          have hN12 := hold N12
                          clear N71 N72 F71 hN7
                          simp only [List.cons_append] at N12
                          walk_at "m_stepx"
                          rename Fr _ _ _ _ => F73
                          rename News _ _ _ _ => N73
                          have N74 := news_same hN12 N73 rfl
                          refine' least' K' F73 X' T' rfl rfl ⟨rfl, rfl, rfl, Nat.le_of_ble_eq_true rfl, Nat.le_of_ble_eq_true rfl⟩ (by assumption) htl9 (pre := (I7, oI7) :: (I8, oI8) :: (C8, oC8) :: (D8, LCg.lst []) :: _) N74 S12 (tn := tn) ?htnB ht hrow hlev ?qB0 ?qB1 ?qB2 hn12 ?finB
                          case htnB => exact fun q hq => by repeat (first | exact List.mem_append_left _ hq | apply List.mem_cons_of_mem)
                          case qB0 => omega
                          case qB1 => omega
                          case qB2 => omega
                          case finB =>
                            intro tb h11 tk11 tl11 F14 N14 S14 htl11 _
                            have hN14 := hold N14
                            clear N73 N74 F73 hN12
                            have hrl := rev_least (ns := row) (lo := (i6 : Int)) (hi := (i6 : Int) + 1 + (j7 : Int)) (by omega) (by omega) (by omega)
                            simp only [List.cons_append] at N14
                            walk_at "m_stepx"
                            exact TstPost.intro (by rw [hrl]; simp) F14 hN14.out (offB off7 S14) ⟨tl11, rfl, htl11, sepP S14⟩
    | fail "law")
end Mine
end

theorem PySem.Challenge.cw_hd0004_01_holds : PySem.Challenge.rw_hd0004_01.Holds :=
  Mine.law
