import PyProof.Rows.All
import Wide.All
import OpenK.AllK
import Wide.FinOn
import PySem.Challenge.RW_pd0108_01
open PySem PySem.W PyProof.Rows
set_option Elab.async false
set_option maxRecDepth 100000
set_option maxHeartbeats 8000000
open PySem.Calls PySem.Spec
namespace Mine

/-- a heap's objects laid into a tree -/
def treeFrom : List Obj → BT → Nat → Option (BT × Nat)
  | [], t, n => some (t, n)
  | o :: l, t, n => match ((t.ins n o).get n).isSome with
    | true => treeFrom l (t.ins n o) (n + 1)
    | false => none
theorem treeFrom_spec (life : Life) : ∀ (l : List Obj) (t : BT) (n : Nat) (r : BT × Nat), treeFrom l t n = some r → absHeap r.1 r.2 life = ⟨(absHeap t n life).objs ++ l.toArray, life⟩
  | [], t, n, r, h => by
    obtain rfl : (t, n) = r := Option.some.inj h
    simp [absHeap]
  | o :: l, t, n, r, h => by
    unfold treeFrom at h
    cases g : ((t.ins n o).get n).isSome with
    | false => rw [g] at h; cases h
    | true =>
      rw [g] at h
      have e := treeFrom_spec life l _ _ r h
      rw [absHeap_ins g] at e
      rw [e]
      simp [Heap.push, absHeap]

/-- the top's run over a tree of objects, by any stepper -/
def runT (st : SharedT → Thread → Option (SharedT × Thread)) (ok : Thread → Bool) : Nat → SharedT → Thread → Option SharedT
  | 0, _, _ => none
  | n + 1, s, t => match through t with
    | true => some s
    | false => match ok t with
      | false => none
      | true => match st s t with
        | some (s', t') => runT st ok n s' t'
        | none => none
theorem runT_spec {tb : String → Option Builtin} {p : Program} {w : World} {n₀ : Nat} {ann : Option Value} : ∀ (n : Nat) (s s' : SharedT) (t : Thread), runT (stepT (denote tb) p w) (stepOk n₀ ann) n s t = some s' → topRun tb p w n₀ ann n s.abs t = some s'.abs
  | 0, _, _, _, h => by cases h
  | n + 1, s, s', t, h => by
    unfold runT at h
    unfold topRun
    cases ht : through t with
    | true => rw [ht] at h; cases h; rfl
    | false =>
      rw [ht] at h
      cases hk : stepOk n₀ ann t with
      | false => rw [hk] at h; cases h
      | true =>
        rw [hk] at h
        cases hs : stepT (denote tb) p w s t with
        | none => rw [hs] at h; cases h
        | some r =>
          obtain ⟨s₂, t₂⟩ := r
          rw [hs] at h
          rw [stepT_spec hs]
          exact runT_spec n s₂ s' t₂ h
def topT (st : SharedT → Thread → Option (SharedT × Thread)) (ok : Nat → Option Value → Thread → Bool) (p : Program) (N : Nat) (s : Shared) : Option SharedT :=
  (treeFrom s.heap.objs.toList .nil 0).bind fun r => runT st (ok s.heap.objs.size (s.heap.nsMap mainGlobals "__annotations__")) N ⟨r.1, r.2, s.heap.life, s.gens, s.drawn, s.toks, s.os⟩ (topStub p)
theorem topT_spec {tb : String → Option Builtin} {p : Program} {w : World} {N : Nat} {s : Shared} {s' : SharedT} (h : topT (stepT (denote tb) p w) stepOk p N s = some s') :
    topRun tb p w s.heap.objs.size (s.heap.nsMap mainGlobals "__annotations__") N s (topStub p) = some s'.abs := by
  obtain ⟨r, e, k⟩ := Option.bind_eq_some_iff.mp h
  have z := treeFrom_spec s.heap.life _ _ _ r e
  have k' := runT_spec _ _ _ _ k
  have y : (SharedT.abs ⟨r.1, r.2, s.heap.life, s.gens, s.drawn, s.toks, s.os⟩) = s := by
    unfold SharedT.abs
    dsimp only
    rw [z]
    obtain ⟨⟨objs, life⟩, gens, drawn, toks, os⟩ := s
    simp [absHeap, BT.list]
  rw [y] at k'
  exact k'

/-- one check of the whole top, by the library's quick twins of its own words -/
theorem left_quick {p q : Program} {loose : List Str} {Xt : Shared → Bool} {α : Type} {Yf : Shared → α} {Ya : World → α} {N : Nat}
    (h : ∀ w, ((fencedOpening treeTable p w N).bind fun s => match s.heap.isNs mainGlobals && s.gens.size == 0 with
      | true => (topT (Fast.tw10156331382660048174 (Fast.tw11892475500146522536 Fast.tw14364793385576792824) p w) Fast.tw6613529449190102663 p N s).map fun s₁ =>
          (staticsOk (importedModules p.main.body) s.heap s₁.abs.heap && namesBound p s₁.abs.heap && gensDone s₁.abs && laidKept s.heap s₁.abs.heap, Fast.tw4187177175401517315 q loose (importedModules p.main.body) Xt true s₁.abs, Yf s₁.abs)
      | false => none) = some (true, openGood q loose, Ya w)) : LeftO p q loose Xt Yf Ya N := fun w => by
  have h := h w
  rw [← Fast.te10156331382660048174, ← Fast.te11892475500146522536, ← Fast.te14364793385576792824, ← Fast.te6613529449190102663, ← Fast.te4187177175401517315] at h
  obtain ⟨s, e, k⟩ := Option.bind_eq_some_iff.mp h
  unfold openEnds
  rw [e]
  show (topFrom treeTable p w N s).map _ = _
  unfold topFrom
  cases c : s.heap.isNs mainGlobals && s.gens.size == 0 with
  | false => rw [c] at k; cases k
  | true =>
    rw [c] at k
    obtain ⟨s₁, e₁, k₁⟩ := Option.map_eq_some_iff.mp k
    obtain ⟨g1, g2⟩ := Prod.mk.inj k₁
    dsimp only
    rw [topT_spec e₁]
    show Option.map _ (match staticsOk (importedModules p.main.body) s.heap s₁.abs.heap && namesBound p s₁.abs.heap && gensDone s₁.abs && laidKept s.heap s₁.abs.heap with | true => some s₁.abs | false => none) = _
    rw [g1]
    exact congrArg some g2

/-- the top's statements that the walk sees: every one but the stores of __name__ -/
def seenStmt : Stmt → Bool
  | .Assign .. => false
  | _ => true
def view : Program := { PySem.Challenge.pw_pd0108_01 with main := { PySem.Challenge.pw_pd0108_01.main with body := PySem.Challenge.pw_pd0108_01.main.body.filter seenStmt } }

/-- the library's head, its looks shown; what is left: the run, the witness, the walk -/
theorem head_of (H : Hook) {d : DefRec} {kwd : List (Str × PySem.Expr)} (said : (OpenLaw.row PySem.Challenge.rw_pd0108_01).wellSaid = true)
    (hl : LeftO PySem.Challenge.pw_pd0108_01 view [] (fun s => xlAt view [] s && recOk (RowW.records (OpenRow.toRowW (OpenLaw.row PySem.Challenge.rw_pd0108_01))) s) H.obs H.val 3170)
    (hdef : defOf view (OpenLaw.row PySem.Challenge.rw_pd0108_01).name = some (d, kwd)) (hp : PySem.Challenge.pw_pd0108_01.theDef (OpenLaw.row PySem.Challenge.rw_pd0108_01).name = some (d.params, d.body, d.scope))
    (hk : kwWritten? d.params.kwonlyargs d.params.kw_defaults = some kwd) (hw : (OpenRow.toRowW (OpenLaw.row PySem.Challenge.rw_pd0108_01)).promised)
    (hc : WalkO view [] (XL view []) H.says (OpenRow.toRowW (OpenLaw.row PySem.Challenge.rw_pd0108_01)) d kwd fun f vs => PySem.call f vs) : (OpenLaw.row PySem.Challenge.rw_pd0108_01).Holds :=
  holds_open hl H.of H.keeps (fun s e => xl_of s (Bool.and_eq_true_iff.mp e).1) XL.keeps hdef hp hk (fun s e => recFacts_of (Bool.and_eq_true_iff.mp e).2) rfl said (by decide +kernel) ⟨rfl, rfl, rfl, rfl, rfl, by decide +kernel⟩ hw hc

-- the head by hand: the whole top in one check of the kernel, no twins of the program's own objects (they weighed 20 MB)
local macro_rules | `(tactic| o_head $H) => do
  let (hw, hc) := (Lean.mkIdent `hw, Lean.mkIdent `hc)
  `(tactic| refine head_of $H (by assumption) (left_quick (by intro w; kernel_rfl)) (by rfl) (by rfl) (by rfl) ?$hw ?$hc)
open_top hd for PySem.Challenge.rw_pd0108_01
theorem top_off : True := by
  w_top off
  trivial
end Mine

namespace Mine
theorem sub_tt : isSubtype (.type "tuple") (.type "tuple") = pure true := by kernel_rfl
theorem sub_ss : isSubtype (.type "str") (.type "str") = pure true := by kernel_rfl
theorem kind_isn : builtinKind "issubclass.nested" = none := by decide +kernel
theorem plain_isn : plainId "issubclass.nested" = true := by decide +kernel
theorem args_isn (a b c : Value) : argsOk "issubclass.nested" ⟨[a, b, c], []⟩ := by unfold argsOk; kernel_rfl
section
variable {prog : Program} {w : World} {A : Around} {E : Value → Shared → Prop} {s : Shared}
theorem issub_nested1 {k : Value} {dep : Int} {tk : Tok} {Q : PySem.Fin → Shared → Prop} (hk : k = .int dep tk) (hq : Q (.done (.ret (.bool true))) s) :
    wpAny (model prog w) A (Builtin.«issubclass.nested» ⟨[.type "str", .type "str", k], []⟩) Q E s := by
  subst hk
  have hself := sub_ss
  repeat (any_goals (first | assumption | (rw [hself]) | wp_step))
theorem issub_nested {tp : Addr} {Q : PySem.Fin → Shared → Prop} (h : IsTup s.heap tp #[.type "str", .type "bytes"]) (hq : Q (.done (.ret (.bool true))) s) :
    wpAny (model prog w) A (Builtin.«issubclass.nested» ⟨[.type "str", .ref tp, rawInt 0], []⟩) Q E s := by
  obtain ⟨o, ho, hc, n, hd⟩ := h
  have hT : s.TypeIs (.ref tp) "tuple" := ⟨o, ho, hc⟩
  have h1 := sub_tt
  repeat (any_goals (first | assumption | (rw [h1]) | wp_step))
  rw [hd]
  refine wpAny_pure ?_
  simp only [Option.getD_some]
  rw [← Array.forIn_toList]
  simp only [List.forIn_cons]
  refine wpAny_bind (wpAny_bind (wpAny_bind ?_))
  refine call_function_meets (S := fun _ R s => R (.ok (.ret (.bool true))) s) kind_isn plain_isn F.entry_issubclass_nested (args_isn _ _ _) (fun _ _ _ _ _ hs => issub_nested1 rfl hs) ?_
  refine wpAny_bind (wpAny_truthy_bool ?_)
  simp only [if_true]
  repeat (any_goals (first | assumption | wp_step))
theorem issub_tup {tp : Addr} {Q : Value → Shared → Prop} (h : IsTup s.heap tp #[.type "str", .type "bytes"]) (hq : Q (.bool true) s) :
    wpAny (model prog w) A (call (.builtin "issubclass") [.type "str", .ref tp]) Q E s :=
  call_issubclass (S := fun _ R s => IsTup s.heap tp #[.type "str", .type "bytes"] ∧ R (.ok (.ret (.bool true))) s) (fun _ _ _ _ _ hs => issubclass_outer (issub_nested hs.1 hs.2)) ⟨h, hq⟩
end
end Mine

namespace Mine

theorem fr_up {h₀ h h' : Heap} {L : Addr} {m : Str → Option Value} (F : Fr h₀ L h m) (st : h.StaysIn h') : Fr h₀ L h' m := by
  obtain ⟨oL, a1, a2, hL, a3⟩ := F.ns
  exact ⟨⟨oL, a1, a2, st _ _ hL, a3⟩, fun b o e => st _ _ (F.keep b o e), F.above⟩
theorem news_up {h₀ h h' : Heap} {L : Addr} {news : List (Addr × Obj)} (N : News h₀ L h news) (st : h.StaysIn h') : News h₀ L h' news :=
  fun p hp => ⟨st _ _ (N p hp).1, (N p hp).2⟩

/-- what a call hands back new goes onto the caller's ledger -/
theorem news_ret {h₀ h h' : Heap} {L D : Addr} {o : Obj} {m : Str → Option Value} {news : List (Addr × Obj)} (F : Fr h₀ L h m) (N : News h₀ L h news) (st : h.StaysIn h') (hD : h'.get? D = some o) (hD0 : h.get? D = none) :
    News h₀ L h' ((D, o) :: news) ∧ LCg.Off1 D news := by
  obtain ⟨oL, _, _, hL, _⟩ := F.ns
  constructor
  · intro p hp
    rcases List.mem_cons.mp hp with rfl | hp
    · refine ⟨hD, fun e => ?_, ?_⟩
      · have e : D = L := e
        rw [e, hL] at hD0; cases hD0
      · show h₀.get? D = none
        cases q : h₀.get? D with
        | none => rfl
        | some o' => have := F.keep _ _ q; rw [hD0] at this; cases this
    · exact news_up N st p hp
  · have : ∀ (l : List (Addr × Obj)), (∀ p ∈ l, h.get? p.1 = some p.2) → LCg.Off1 D l := by
      intro l
      induction l with
      | nil => intro _; trivial
      | cons p r ih =>
        intro H
        refine ⟨fun e => ?_, ih fun q hq => H q (List.mem_cons_of_mem _ hq)⟩
        have e : p.1 = D := e
        have := H p List.mem_cons_self
        rw [e, hD0] at this; cases this
    exact this news fun p hp => (N p hp).1

theorem off1_mem {D : Addr} {l : List (Addr × Obj)} (h : LCg.Off1 D l) : ∀ p ∈ l, p.1 ≠ D := by
  induction l with
  | nil => intro p hp; cases hp
  | cons q r ih =>
    intro p hp
    rcases List.mem_cons.mp hp with e | hp
    · rw [e]; exact h.1
    · exact ih h.2 p hp
theorem off1_of {D : Addr} {l : List (Addr × Obj)} (h : ∀ p ∈ l, p.1 ≠ D) : LCg.Off1 D l := by
  induction l with
  | nil => trivial
  | cons q r ih => exact ⟨h q List.mem_cons_self, ih fun p hp => h p (List.mem_cons_of_mem _ hp)⟩

section
variable {prog : Program} {w : World} {A : Around} {E : Value → Shared → Prop} {s : Shared} {env : Env} {h₀ : Heap} {x : Str} {body : List Stmt} {Q : Flow → Shared → Prop}

/-- the end of a turn -/
def TurnTo (h₀ : Heap) (L : Addr) (l I : Addr) (oI : Obj) (h : Heap) (s : Shared) (Jn : (Str → Option Value) → List (Addr × Obj) → Prop) (s₂ : Shared) : Prop :=
  ∃ h' tk' m' news', s₂ = { s with heap := h', toks := tk' } ∧ Fr h₀ L h' m' ∧ News h₀ L h' ((I, oI) :: news') ∧ LCg.Off1 I news' ∧ (∀ o, h.get? l = some o → h'.get? l = some o) ∧ Jn m' news'

/-- a for over any list that stands: by what holds between the turns -/
theorem iter_L {l : Addr} {vs : List Value} {m₀ : Str → Option Value} {news : List (Addr × Obj)} (J : Nat → (Str → Option Value) → List (Addr × Obj) → Prop)
    (hh : A.handled = none) (hl : s.heap.IsList l vs.toArray) (hlL : l ≠ env.locals) (F : Fr h₀ env.locals s.heap m₀) (N : News h₀ env.locals s.heap news) (hj : J 0 m₀ news)
    (turn : ∀ i v m₁ news₁ I oI h tk, vs[i]? = some v → J i m₁ news₁ → LCg.Off1 I news₁ → (@Ne Nat l I) → h.IsList l vs.toArray → Fr h₀ env.locals h (fun y => if y = x then some v else m₁ y) → News h₀ env.locals h ((I, oI) :: news₁) →
      wpAny (model prog w) A (execs body env) (fun f s₂ => match f with | .ret v => Q (.ret v) s₂ | .brk => Q .next s₂ | _ => TurnTo h₀ env.locals l I oI h s (J (i + 1)) s₂) E { s with heap := h, toks := tk })
    (done : ∀ m' news' h tk, J vs.length m' news' → Fr h₀ env.locals h m' → News h₀ env.locals h news' → Q .next { s with heap := h, toks := tk }) :
    wpAny (model prog w) A (pyIter (.ref l)) (fun it s₂ => LoopAtV prog w A h₀ env x body Q E it s₂) E s := by
  obtain ⟨ol, hol, _⟩ := id hl
  have hlt : l < s.heap.objs.size := Heap.lt_size hol
  refine wpAny_pyIter_list hl ?_
  have W := Walks.list (prog := prog) (w := w) hh s.heap.objs.size l (Nat.ne_of_lt hlt) vs.toArray
  refine ⟨_, _, _, vs.toArray.size, _, _, m₀, news, J, rfl, W, ?_, ?_, ?_, ⟨⟨_, Heap.get?_push_size _ rfl, rfl, rfl⟩, hl.at fun o e => Heap.get?_push_of_some _ e⟩, F.push _, (fun p hp => ⟨Heap.get?_push_of_some _ (N p hp).1, (N p hp).2⟩), hj, ?_, ?_⟩
  · intro hm
    rcases List.mem_cons.mp hm with e | hm
    · exact absurd F.ns.lt (e ▸ Nat.lt_irrefl _)
    · exact hlL (List.mem_singleton.mp hm).symm
  · intro b hb
    rw [List.mem_singleton.mp hb]
    exact next_is_new F
  · intro p hp hI
    exact absurd (Heap.lt_size (N p hp).1) ((List.mem_singleton.mp hI) ▸ Nat.lt_irrefl _)
  · rintro i v m₁ news₁ s₁ own ⟨hh', tk', rfl⟩ hin hP hJ hoff hown hown2 hown3 hst F₁ N₁
    obtain ⟨⟨oI, hI, hI2⟩, hL1⟩ := id hst
    have hI0 : h₀.get? s.heap.objs.size = none := next_is_new F
    have hmI : (s.heap.objs.size, oI) ∈ own := hown3 _ List.mem_cons_self hI0 _ hI
    have hIN := N₁ _ (List.mem_append_left _ hmI)
    have N₂ : News h₀ env.locals hh' ((s.heap.objs.size, oI) :: news₁) := fun p hp => by
      rcases List.mem_cons.mp hp with rfl | hp
      · exact hIN
      · exact N₁ p (List.mem_append_right _ hp)
    have ho1 : LCg.Off1 s.heap.objs.size news₁ := off1_of fun p hp e => hoff p hp (List.mem_singleton.mpr e)
    refine wpAny_mono (turn i v m₁ news₁ s.heap.objs.size oI hh' tk' (by simpa using hP) hJ ho1 (Nat.ne_of_lt hlt) hL1 F₁ N₂) (fun f s₂ p => ?_) fun _ _ e => e
    have fin : TurnTo h₀ env.locals l s.heap.objs.size oI hh' s (J (i + 1)) s₂ → LoopStepU h₀ env.locals [s.heap.objs.size] own (J (i + 1)) { s with heap := hh', toks := tk' } .next s₂ := by
      rintro ⟨h', tk, m', news', e, F', N', ho', hk', hm⟩
      refine ⟨rfl, h', tk, m', news', e, F', fun p hp => ?_, fun p hp e => off1_mem ho' p hp (List.mem_singleton.mp e), hm⟩
      rcases List.mem_append.mp hp with hp | hp
      · refine ⟨?_, (N₁ p (List.mem_append_left _ hp)).2⟩
        rcases List.mem_cons.mp (hown p hp) with e1 | e1
        · have := hown2 p hp
          rw [e1] at this ⊢
          have hI' : hh'.get? s.heap.objs.size = some oI := hI
          have this' : hh'.get? s.heap.objs.size = some p.2 := this
          rw [hI'] at this'; cases this'
          exact (N' _ List.mem_cons_self).1
        · have e2 := List.mem_singleton.mp e1
          have := hown2 p hp
          rw [e2] at this ⊢
          exact hk' _ this
      · exact N' p (List.mem_cons_of_mem _ hp)
    cases f with
    | ret v => exact .ret p
    | brk => exact .brk p
    | next => exact .next (fin p)
    | cont => exact .cont (fin p)
  · intro h' tk m' news' F' N' _ hJ
    refine done m' news' h' tk ?_ F' N'
    simpa using hJ
end
end Mine

namespace Mine

/-- what a test or an element keeps -/
abbrev CompTurn (prog : Program) (w : World) (A : Around) (elt : Expr) (ifs : List Expr) (cenv : Env) (s₂ : Shared) (h : Heap) (tk : Nat) (nw : List (Addr × Obj)) (Jy : Value → List (Addr × Obj) → Prop) (Jn : Prop) (E' : Value → Shared → Prop) : Prop :=
  wpAny (model prog w) A (forIn ifs true fun c r => if r = true then do let ok ← isTrue c cenv (eval c cenv); pure (ForInStep.yield ok) else pure (ForInStep.yield r))
    (fun ok s₃ => ∃ h₃ tk₃, s₃ = { s₂ with heap := h₃, toks := tk₃ } ∧ h.StaysIn h₃ ∧
      if ok = true then wpAny (model prog w) A (eval elt cenv) (fun y s₄ => ∃ h₄ tk₄ nw', s₄ = { s₂ with heap := h₄, toks := tk₄ } ∧ h.StaysIn h₄ ∧ (∀ p ∈ nw', h₄.get? p.1 = some p.2 ∧ (p ∈ nw ∨ h.get? p.1 = none)) ∧ Jy y nw') E' s₃
      else Jn) E' { s₂ with heap := h, toks := tk }

section
variable {prog : Program} {w : World} {A : Around} {E : Value → Shared → Prop} {s : Shared} {env : Env}

theorem block_H {elt iter : Expr} {x : Str} {px : Pos} {ifs : List Expr} {scope : Scope} {cl : List (Str × Addr)} {pos : Pos} {s₂ : Shared} {I : Addr} {fp : List Addr} {n : Nat} {P : Nat → Value → Prop} {St : Nat → Heap → Prop}
    {RR : Value → Addr → Result → Shared → Prop} (hb : Heap) (J : Nat → List Value → List (Addr × Obj) → Prop)
    (W : Walks prog w A I fp [I] n P St) (hsz : n ≤ sizeLine) (hIo : ∀ i h, St i h → ∃ o, h.get? I = some o)
    (hcell : ∀ y ∈ scope.names, y.2 ≠ .cell) (hkind : scope.kind = .function) (hx : scope.names.lookup x = some .local) (hst : St 0 s₂.heap) (hfp : ∀ b ∈ fp, b < s₂.heap.objs.size)
    (hbs : ∀ b o, hb.get? b = some o → s₂.heap.get? b = some o) (hbI : hb.get? I = none) (hJ : J 0 [] [])
    (turn : ∀ i v ys nw C oC m₂ h tk (E' : Value → Shared → Prop), i < n → P i v → hb.StaysIn h → h.get? C = some oC → LCg.NsObj oC m₂ → m₂ x = some v → hb.get? C = none → (∀ p ∈ nw, h.get? p.1 = some p.2) → J i ys nw →
      CompTurn prog w A elt ifs (compEnvC scope cl C env) s₂ h tk nw (fun y nw' => J (i + 1) (ys ++ [y]) nw') (J (i + 1) ys nw) E')
    (hRR : ∀ D C h tk m' ys nw, hb.StaysIn h → h.get? D = some (LCg.lst ys) → hb.get? D = none → h.Ns C m' → hb.get? C = none → C ≠ D → (∀ p ∈ nw, h.get? p.1 = some p.2 ∧ p.1 ≠ C) → J n ys nw → RR (.ref D) C (.ok .next) { s₂ with heap := h, toks := tk }) :
    wpAny (model prog w) A (newList []) (fun acc s₃ => wpAny (model prog w) A (newFunctionEnv scope env.globals cl [] env.qual none .none (some env)) (fun cenv s₄ =>
      codeAny (model prog w) A (.compStart (.ListComp elt [⟨.Name x px, iter, ifs, 0⟩] scope pos) 0 (.ref I) acc { cenv with scope := relabel scope env }) (RR acc cenv.locals) s₄) E s₃) E s₂ := by
  refine wpAny_newObj_type (wpAny_newFunctionEnv hcell (by intro y hy; simp at hy) (fun h₁ hns₁ hsb₁ => ?_) hkind)
  dsimp only at hns₁ hsb₁ ⊢
  generalize hH2 : s₂.heap.push { cls := .type "list", dict := none, data := .seq ([] : List Value).toArray } = H2 at hns₁ hsb₁ ⊢
  have hC : H2.objs.size = s₂.heap.objs.size + 1 := by rw [← hH2, Heap.size_push]
  have hDC : s₂.heap.objs.size ≠ H2.objs.size := by rw [hC]; exact Nat.ne_of_lt (Nat.lt_succ_self _)
  have below : ∀ b, b < s₂.heap.objs.size → b ≠ H2.objs.size ∧ b ≠ s₂.heap.objs.size := fun b hb => ⟨by rw [hC]; exact Nat.ne_of_lt (Nat.lt_succ_of_lt hb), Nat.ne_of_lt hb⟩
  have hDf : s₂.heap.objs.size ∉ fp := fun hm => Nat.lt_irrefl _ (hfp _ hm)
  have hCf : H2.objs.size ∉ fp := fun hm => by have := hfp _ hm; rw [hC] at this; exact Nat.lt_irrefl _ (Nat.lt_of_succ_lt this)
  have hIf : I ∈ fp := W.sub I (List.mem_singleton.mpr rfl)
  have hIlt : I < s₂.heap.objs.size := hfp I hIf
  have old : ∀ b o, s₂.heap.get? b = some o → h₁.get? b = some o := fun b o e => hsb₁.extBut b o (below b (Heap.lt_size e)).1 (Heap.get?_push_of_some _ (hH2 ▸ Heap.get?_push_of_some _ e))
  have hacc : h₁.get? s₂.heap.objs.size = some (LCg.lst []) := hsb₁.extBut _ _ hDC (Heap.get?_push_of_some _ (hH2 ▸ Heap.get?_push_size _ rfl))
  have hst₁ : St 0 h₁ := W.frame _ _ _ hst fun b _ o e => old b o e
  have fresh : ∀ a, s₂.heap.objs.size ≤ a → hb.get? a = none := fun a ha => by
    cases e : hb.get? a with
    | none => rfl
    | some o' => exact absurd (Heap.lt_size (hbs a o' e)) (Nat.not_lt.mpr ha)
  have hD₀ : hb.get? s₂.heap.objs.size = none := fresh _ (Nat.le_refl _)
  have hC₀ : hb.get? H2.objs.size = none := fresh _ (by rw [hC]; exact Nat.le_succ _)
  have hCI : I ≠ H2.objs.size := (below I hIlt).1
  have hDI : I ≠ s₂.heap.objs.size := (below I hIlt).2
  have loop : ∀ s₃ : Shared, s₃ = { s₂ with heap := h₁, toks := s₂.toks + ([] : List (Str × Value)).length } →
      codeAny (model prog w) A (.compLoop (.ListComp elt [⟨.Name x px, iter, ifs, 0⟩] scope pos) 0 (.ref I) (.ref s₂.heap.objs.size) (compEnvC scope cl H2.objs.size env))
        (RR (.ref s₂.heap.objs.size) H2.objs.size) s₃ := by
    rintro s₃ rfl
    refine codeAny_compLoop_tests
      (fun k s' => ∃ h' tk i ys m' nw, s' = { s₂ with heap := h', toks := tk } ∧ i ≤ n ∧ k = n + 1 - i ∧ ys.length ≤ i ∧ St i h' ∧ hb.StaysIn h' ∧ h'.Ns H2.objs.size m' ∧ h'.get? s₂.heap.objs.size = some (LCg.lst ys) ∧
        (∀ p ∈ nw, h'.get? p.1 = some p.2 ∧ p.1 ≠ I ∧ p.1 ≠ H2.objs.size ∧ p.1 ≠ s₂.heap.objs.size) ∧ J i ys nw) ?_ (n + 1)
      ⟨h₁, _, 0, [], _, [], rfl, Nat.zero_le _, rfl, Nat.le_refl _, hst₁, fun b o e => old b o (hbs b o e), hns₁, hacc, (fun p hp => nomatch hp), hJ⟩
    rintro k s' ⟨h', tk, i, ys, m', nw, rfl, hi, rfl, hyl, hst', hkeep, hn', hD', hnw, hJ'⟩
    by_cases hlt : i < n
    · refine W.item i _ _ _ hlt hst' fun v h₂ tk₂ hPv hst₂ hk₂ => ?_
      have hk₂' : ∀ b o, b ≠ I → h'.get? b = some o → h₂.get? b = some o := fun b o hbI e => hk₂ b o (by simpa using hbI) e
      refine wpAny_assign_Name (wpAny_storeName_local (lookup_relabel_local hx) (hn'.at' fun o e => hk₂' _ o (Ne.symm hCI) e) (fun h₃ hn₃ hs₃ => ?_) (by simp [compEnvC, relabel, hkind]))
      have hst₃ : St (i + 1) h₃ := W.frame _ _ _ hst₂ fun b hb o e => hs₃.extBut b o (fun q => hCf (by have q' : b = H2.objs.size := q; rw [← q']; exact hb)) e
      have k₃ : ∀ b o, b ≠ I → b ≠ H2.objs.size → h'.get? b = some o → h₃.get? b = some o := fun b o h1 h2 e => hs₃.extBut b o h2 (hk₂' b o h1 e)
      have hkeep₃ : hb.StaysIn h₃ := fun b o e => k₃ b o (fun q => by rw [q, hbI] at e; cases e) (fun q => by rw [q, hC₀] at e; cases e) (hkeep b o e)
      obtain ⟨oI, heI⟩ := hIo _ _ hst₃
      obtain ⟨oC, heC, hoC⟩ := LCg.ns_obj hn₃
      have heC : h₃.get? H2.objs.size = some oC := heC
      have heD : h₃.get? s₂.heap.objs.size = some (LCg.lst ys) := k₃ _ _ (Ne.symm hDI) hDC hD'
      have hnw₃ : ∀ p ∈ nw, h₃.get? p.1 = some p.2 := fun p hp => k₃ _ _ (hnw p hp).2.1 (hnw p hp).2.2.1 (hnw p hp).1
      have T := turn i v ys nw H2.objs.size oC _ h₃ (tk₂ + 1) (notedBy (model prog w) A (compEnvC scope cl H2.objs.size env) fun e s' => RR (.ref s₂.heap.objs.size) H2.objs.size (.error e) s') hlt hPv hkeep₃ heC hoC (by simp) hC₀ hnw₃ hJ'
      refine wpAny_mono T (fun ok s₃ h₃' => ?_) fun _ _ e => e
      obtain ⟨h₄, tk₄, rfl, st₄, hif⟩ := h₃'
      have offI : ∀ p : Addr × Obj, (p ∈ nw ∨ h₃.get? p.1 = none) → p.1 ≠ I ∧ p.1 ≠ H2.objs.size ∧ p.1 ≠ s₂.heap.objs.size := fun p hp => by
        rcases hp with hp | hp
        · exact (hnw p hp).2
        · exact ⟨(fun q => by rw [q, heI] at hp; cases hp), (fun q => by rw [q, heC] at hp; cases hp), (fun q => by rw [q, heD] at hp; cases hp)⟩
      by_cases hok : ok = true
      · rw [if_pos hok] at hif
        rw [if_pos hok]
        refine wpAny_mono hif (fun y s₄ hy => ?_) fun _ _ e => e
        obtain ⟨h₅, tk₅, nw', rfl, st₅, hnw', hJ''⟩ := hy
        refine append_at (hsz := by show ys.toArray.size ≤ sizeLine; rw [List.size_toArray]; exact Nat.le_trans hyl (Nat.le_trans hi hsz)) (st₅ _ _ heD) fun h₆ hs₆ hD₆ => ?_
        refine ⟨n + 1 - (i + 1), by omega, h₆, tk₅, i + 1, ys ++ [y], fun z => if z = x then some v else m' z, nw', rfl, hlt, rfl, by rw [List.length_append, List.length_singleton]; omega, ?_, ?_, ?_, hD₆.trans (congrArg some (LCg.lst_snoc ys y)), ?_, hJ''⟩
        · exact W.frame _ _ _ hst₃ fun b hb o e => hs₆.extBut b o (fun q => hDf (q ▸ hb)) (st₅ _ _ e)
        · exact fun b o e => hs₆.extBut b o (fun q => by rw [q, hD₀] at e; cases e) (st₅ _ _ (hkeep₃ b o e))
        · exact (hoC.ns (st₅ _ _ heC)).sameBut hs₆ (Ne.symm hDC)
        · intro p hp
          have h1 := offI p (hnw' p hp).2
          exact ⟨hs₆.extBut _ _ h1.2.2 (hnw' p hp).1, h1⟩
      · rw [if_neg hok] at hif
        rw [if_neg hok]
        refine ⟨n + 1 - (i + 1), by omega, h₄, tk₄, i + 1, ys, fun z => if z = x then some v else m' z, nw, rfl, hlt, rfl, Nat.le_succ_of_le hyl, ?_, ?_, hoC.ns (st₄ _ _ heC), st₄ _ _ heD, fun p hp => ⟨st₄ _ _ (hnw₃ p hp), (hnw p hp).2⟩, hif⟩
        · exact W.frame _ _ _ hst₃ fun b hb o e => st₄ _ _ e
        · exact fun b o e => st₄ _ _ (hkeep₃ b o e)
    · obtain rfl : i = n := Nat.le_antisymm hi (Nat.not_lt.mp hlt)
      refine W.done _ _ _ hst' fun h₂ tk₂ hk₂ => ?_
      have hk₂' : ∀ b o, b ≠ I → h'.get? b = some o → h₂.get? b = some o := fun b o hbI e => hk₂ b o (by simpa using hbI) e
      exact hRR _ _ h₂ tk₂ _ ys nw (fun b o e => hk₂' b o (fun q => by rw [q, hbI] at e; cases e) (hkeep b o e)) (hk₂' _ _ (Ne.symm hDI) hD') hD₀ (hn'.at' fun o e => hk₂' _ o (Ne.symm hCI) e) hC₀ (Ne.symm hDC)
        (fun p hp => ⟨hk₂' _ _ (hnw p hp).2.1 (hnw p hp).1, (hnw p hp).2.2.1⟩) hJ'
  exact codeAny_compStart_list (loop _ rfl) (W.self 0 _ _ _ hst₁ (loop _ rfl))

/-- the source of a comprehension, its turns, its end -/
def SrcH (prog : Program) (w : World) (A : Around) (env : Env) (elt : Expr) (x : Str) (ifs : List Expr) (scope : Scope) (cl : List (Str × Addr)) (Q : Value → Shared → Prop) (xv : Value) (s₁ : Shared) : Prop :=
  ∃ ax its, ∃ J : Nat → List Value → List (Addr × Obj) → Prop, xv = .ref ax ∧ A.handled = none ∧ (s₁.heap.IsList ax its ∨ s₁.heap.IsTuple ax its) ∧ its.size ≤ sizeLine ∧ J 0 [] [] ∧
    (∀ i v ys nw C oC m₂ h tk (E' : Value → Shared → Prop), its[i]? = some v → s₁.heap.StaysIn h → h.get? C = some oC → LCg.NsObj oC m₂ → m₂ x = some v → s₁.heap.get? C = none → (∀ p ∈ nw, h.get? p.1 = some p.2) → J i ys nw →
      CompTurn prog w A elt ifs (compEnvC scope cl C env) s₁ h tk nw (fun y nw' => J (i + 1) (ys ++ [y]) nw') (J (i + 1) ys nw) E') ∧
    (∀ D ys nw h tk, s₁.heap.StaysIn h → h.get? D = some (LCg.lst ys) → s₁.heap.get? D = none → (∀ p ∈ nw, h.get? p.1 = some p.2) → J its.size ys nw → Q (.ref D) { s₁ with heap := h, toks := tk })

theorem src_go {elt iter : Expr} {x : Str} {px : Pos} {ifs : List Expr} {scope : Scope} {cl : List (Str × Addr)} {pos : Pos} {xv : Value} {s₁ : Shared} {QD : Value → Shared → Prop} {RR : Value → Addr → Result → Shared → Prop}
    (hcell : ∀ y ∈ scope.names, y.2 ≠ .cell) (hkind : scope.kind = .function) (hx : scope.names.lookup x = some .local)
    (h : SrcH prog w A env elt x ifs scope cl QD xv s₁)
    (hRR : ∀ D C h tk m', s₁.heap.StaysIn h → s₁.heap.get? D = none → h.Ns C m' → s₁.heap.get? C = none → C ≠ D → (∀ h' tk', Heap.ExtBut C h h' → QD (.ref D) { s₁ with heap := h', toks := tk' }) → RR (.ref D) C (.ok .next) { s₁ with heap := h, toks := tk }) :
    wpAny (model prog w) A (pyIter xv) (fun it s₂ => wpAny (model prog w) A (newList []) (fun acc s₃ => wpAny (model prog w) A (newFunctionEnv scope env.globals cl [] env.qual none .none (some env)) (fun cenv s₄ =>
      codeAny (model prog w) A (.compStart (.ListComp elt [⟨.Name x px, iter, ifs, 0⟩] scope pos) 0 it acc { cenv with scope := relabel scope env }) (RR acc cenv.locals) s₄) E s₃) E s₂) E s₁ := by
  obtain ⟨ax, its, J, rfl, hh, hsrc, hsz, hJ, turn, done⟩ := h
  have hlt : ax < s₁.heap.objs.size := by
    rcases hsrc with ⟨o, ho, _⟩ | ⟨o, ho, _⟩ <;> exact Heap.lt_size ho
  have hnew : s₁.heap.get? s₁.heap.objs.size = none := Heap.get?_none_of_le (Nat.le_refl _)
  have fin : ∀ D C h tk m' ys nw, s₁.heap.StaysIn h → h.get? D = some (LCg.lst ys) → s₁.heap.get? D = none → h.Ns C m' → s₁.heap.get? C = none → C ≠ D → (∀ p ∈ nw, h.get? p.1 = some p.2 ∧ p.1 ≠ C) → J its.size ys nw →
      RR (.ref D) C (.ok .next) { s₁ with heap := h, toks := tk } := by
    intro D C h tk m' ys nw st hD hD0 hn hC0 hCD hnw hJ'
    refine hRR D C h tk m' st hD0 hn hC0 hCD fun h' tk' hs => done D ys nw h' tk' ?_ ?_ hD0 ?_ hJ'
    · exact fun b o e => hs b o (fun q => by rw [q, hC0] at e; cases e) (st b o e)
    · exact hs D _ (Ne.symm hCD) hD
    · exact fun p hp => hs _ _ (hnw p hp).2 (hnw p hp).1
  have hfp : ∀ b ∈ [s₁.heap.objs.size, ax], ∀ ob, b < (s₁.heap.push ob).objs.size := by
    intro b hb ob
    rw [Heap.size_push]
    rcases List.mem_cons.mp hb with rfl | hb
    · exact Nat.lt_succ_self _
    · rw [List.mem_singleton.mp hb]; exact Nat.lt_succ_of_lt hlt
  rcases hsrc with hl | hl
  · refine wpAny_pyIter_list hl ?_
    refine block_H s₁.heap J (Walks.list hh s₁.heap.objs.size ax (Nat.ne_of_lt hlt) its) hsz (fun i h st => by obtain ⟨o, e, _⟩ := st.1; exact ⟨o, e⟩) hcell hkind hx ⟨⟨_, Heap.get?_push_size _ rfl, rfl, rfl⟩, hl.push _⟩ (fun b hb => hfp b hb _)
      (fun b o e => Heap.get?_push_of_some _ e) hnew hJ ?_ ?_
    · intro i v ys nw C oC m₂ h tk E' _ hv st hC hoC hx' hC0 hnw hJ'
      exact turn i v ys nw C oC m₂ h tk E' hv st hC hoC hx' hC0 hnw hJ'
    · intro D C h tk m' ys nw st hD hD0 hn hC0 hCD hnw hJ'
      exact fin D C h tk m' ys nw st hD hD0 hn hC0 hCD hnw hJ'
  · refine wpAny_pyIter_tuple hl ?_
    refine block_H s₁.heap J (Walks.tuple hh s₁.heap.objs.size ax (Nat.ne_of_lt hlt) its) hsz (fun i h st => by obtain ⟨o, e, _⟩ := st.1; exact ⟨o, e⟩) hcell hkind hx ⟨⟨_, Heap.get?_push_size _ rfl, rfl, rfl⟩, hl.at fun o e => Heap.get?_push_of_some _ e⟩ (fun b hb => hfp b hb _)
      (fun b o e => Heap.get?_push_of_some _ e) hnew hJ ?_ ?_
    · intro i v ys nw C oC m₂ h tk E' _ hv st hC hoC hx' hC0 hnw hJ'
      exact turn i v ys nw C oC m₂ h tk E' hv st hC hoC hx' hC0 hnw hJ'
    · intro D C h tk m' ys nw st hD hD0 hn hC0 hCD hnw hJ'
      exact fin D C h tk m' ys nw st hD hD0 hn hC0 hCD hnw hJ'

theorem ListComp_H {elt iter : Expr} {x : Str} {px : Pos} {ifs : List Expr} {scope : Scope} {cl : List (Str × Addr)} {pos : Pos} {Q : Value → Shared → Prop}
    (hclos : closureFor scope env = pure cl) (hcell : ∀ y ∈ scope.names, y.2 ≠ .cell) (hkind : scope.kind = .function)
    (hnames : ∀ y ∈ scope.names, y.2 = .local → scope.names.lookup y.1 = some .local) (hx : scope.names.lookup x = some .local)
    (h : wpAny (model prog w) A (eval iter env) (SrcH prog w A env elt x ifs scope cl Q) E s)
    (hs : ∀ x, foldedSetIterable iter env x = pure x := by intro _; rfl) :
    wpAny (model prog w) A (eval (.ListComp elt [⟨.Name x px, iter, ifs, 0⟩] scope pos) env) Q E s := by
  rw [eval_ListComp]
  refine wpAny_comprehension_free (use := none) rfl hs hclos hkind hnames (wpAny_mono h (fun xv s₁ h₁ => ?_) fun _ _ e => e)
  refine src_go hcell hkind hx h₁ ?_
  intro D C h tk m' st hD0 hn hC0 hCD fin
  exact ⟨m', hn, fun h'' hs'' => fin h'' tk hs''.extBut⟩

theorem Assign_ListComp_H {m : Str → Option Value} {elt iter : Expr} {x y : Str} {px py : Pos} {ifs : List Expr} {scope : Scope} {cl : List (Str × Addr)} {pos spos : Pos} {Q : Flow → Shared → Prop}
    (hsw : swapsWith (.ListComp elt [⟨.Name x px, iter, ifs, 0⟩] scope pos) (some (.Name y py)) spos.line env = pure true)
    (hclos : closureFor scope env = pure cl) (hcell : ∀ z ∈ scope.names, z.2 ≠ .cell) (hkind : scope.kind = .function)
    (hnames : ∀ z ∈ scope.names, z.2 = .local → scope.names.lookup z.1 = some .local) (hx : scope.names.lookup x = some .local)
    (hy : env.kindOf y = some .local) (hp : (env.scope.kind == .class || (env.scope.kind == .module && env.locals != env.globals)) = false)
    (h : wpAny (model prog w) A (eval iter env) (fun xv s₁ => s₁.heap.Ns env.locals m ∧ SrcH prog w A env elt x ifs scope cl (fun v s₂ => ∀ h' tk', h'.Ns env.locals (fun z => if z = y then some v else m z) → Heap.SameBut env.locals s₂.heap h' → Q .next { s₂ with heap := h', toks := tk' }) xv s₁) E s)
    (hs : ∀ x, foldedSetIterable iter env x = pure x := by intro _; rfl) :
    wpAny (model prog w) A (exec (.Assign [.Name y py] (.ListComp elt [⟨.Name x px, iter, ifs, 0⟩] scope pos) spos) env) Q E s := by
  rw [exec_Assign_Name_used _ _ _ _ hsw]
  refine wpAny_bind (wpAny_standAt (wpAny_bind ?_))
  show wpAny _ A (do let _ ← comprehension (.ListComp elt [⟨.Name x px, iter, ifs, 0⟩] scope pos) scope env _ (newList []) false (eval iter env) (some (assign (.Name y py) env))) _ _ s
  refine wpAny_bind (wpAny_mono (wpAny_comprehension_free (use := some (assign (.Name y py) env)) (Q := fun _ s' => Q .next s') rfl hs hclos hkind hnames
    (wpAny_mono h (fun xv s₁ h₁ => ?_) fun _ _ e => e)) (fun _ s' hq => wpAny_pure (wpAny_pure hq)) fun _ _ e => e)
  obtain ⟨hm, h₁⟩ := h₁
  refine src_go hcell hkind hx h₁ ?_
  intro D C h tk m' st hD0 hn hC0 hCD fin
  show wpAny _ A (assign (.Name y py) env (.ref D)) _ _ _
  have hmh : h.Ns env.locals m := by
    obtain ⟨o, es, ep, ho, r⟩ := hm
    exact ⟨o, es, ep, st _ _ ho, r⟩
  obtain ⟨oL, es, ep, hoL, hdL, hkL, hfL⟩ := id hmh
  have hCL : C ≠ env.locals := fun q => by
    obtain ⟨o, _, _, ho, _⟩ := hm
    rw [q, ho] at hC0; cases hC0
  refine wpAny_assign_Name (wpAny_storeName_local hy hmh (fun h₂ hn₂ hs₂ => ?_) hp)
  refine ⟨m', hn.sameBut hs₂ hCL, fun h'' hs'' => ?_⟩
  have hL'' : ∃ o, h''.get? env.locals = some o := by
    obtain ⟨o, _, _, ho, _⟩ := hn₂
    exact ⟨o, (hs''.2 _ (Ne.symm hCL)).trans ho⟩
  obtain ⟨o2, ho2⟩ := hL''
  have hfr : oL.isFreed = false := by
    obtain ⟨c, d, dt, sl⟩ := oL
    have hdL : dt = _ := hdL
    subst hdL
    rfl
  have hup := Heap.get?_update_self (fun _ => oL) ho2 hfr
  have hsu := Heap.SameBut.update h'' env.locals (fun _ => oL)
  refine fin (h''.update env.locals fun _ => oL) tk ?_ h'' _ ?_ ⟨hsu.1.symm, fun b hb => (hsu.2 b hb).symm⟩
  · intro b o hb e
    by_cases hbL : b = env.locals
    · subst hbL
      rw [hoL] at e; cases e
      exact hup
    · exact (hsu.2 b hbL).trans (hs''.extBut b o hb ((hs₂.2 b hbL).trans e))
  · exact hn₂.sameBut hs'' (Ne.symm hCL)
end
end Mine

namespace Mine
section
variable {prog : Program} {w : World} {A : Around} {E : Value → Shared → Prop} {s : Shared} {env : Env} {h₀ : Heap} {x : Str} {body : List Stmt} {Q : Flow → Shared → Prop}

def TurnR (h₀ : Heap) (L : Addr) (I : Addr) (oI : Obj) (s : Shared) (Jn : (Str → Option Value) → List (Addr × Obj) → Prop) (s₂ : Shared) : Prop :=
  ∃ h' tk' m' news', s₂ = { s with heap := h', toks := tk' } ∧ Fr h₀ L h' m' ∧ News h₀ L h' ((I, oI) :: news') ∧ LCg.Off1 I news' ∧ Jn m' news'
theorem TurnR.mk' {h₀ h' : Heap} {L I : Addr} {oI : Obj} {s : Shared} {Jn : (Str → Option Value) → List (Addr × Obj) → Prop} {tk' : Nat} {m' : Str → Option Value} {all : List (Addr × Obj)} (news' : List (Addr × Obj))
    (F : Fr h₀ L h' m') (N : News h₀ L h' all) (hs : ∀ p ∈ (I, oI) :: news', p ∈ all) (ho : LCg.Off1 I news') (hj : Jn m' news') : TurnR h₀ L I oI s Jn { s with heap := h', toks := tk' } :=
  ⟨h', tk', m', news', rfl, F, fun p hp => N p (hs p hp), ho, hj⟩

/-- a for over range(b): by what holds between the turns -/
theorem iter_R {r : Addr} {b : Int} {t₀ u₀ v₀ : Tok} {n : Nat} {m₀ : Str → Option Value} {news : List (Addr × Obj)} (J : Nat → (Str → Option Value) → List (Addr × Obj) → Prop)
    (hh : A.handled = none) (hr : IsRange s.heap r 0 b 1 t₀ u₀ v₀) (hsm : Builtin.Range.small 0 b 1 = true) (hn : Builtin.Range.rangeSize 0 b 1 = (n : Int)) (F : Fr h₀ env.locals s.heap m₀) (N : News h₀ env.locals s.heap news) (hj : J 0 m₀ news)
    (turn : ∀ i t m₁ news₁ I oI h tk, i < n → J i m₁ news₁ → LCg.Off1 I news₁ → Fr h₀ env.locals h (fun y => if y = x then some (.int (i : Int) t) else m₁ y) → News h₀ env.locals h ((I, oI) :: news₁) →
      wpAny (model prog w) A (execs body env) (fun f s₂ => match f with | .ret v => Q (.ret v) s₂ | .brk => Q .next s₂ | _ => TurnR h₀ env.locals I oI s (J (i + 1)) s₂) E { s with heap := h, toks := tk })
    (done : ∀ m' news' h tk, J n m' news' → Fr h₀ env.locals h m' → News h₀ env.locals h news' → Q .next { s with heap := h, toks := tk }) :
    wpAny (model prog w) A (pyIter (.ref r)) (fun it s₂ => LoopAtV prog w A h₀ env x body Q E it s₂) E s := by
  refine wpAny_pyIter_range hr hsm ?_
  have W : Walks prog w A s.heap.objs.size [s.heap.objs.size] [s.heap.objs.size] n (fun i v => i < n ∧ ∃ t, v = .int (0 + i * 1) t)
      (fun i h => IsRangeIter h s.heap.objs.size (0 + (i : Nat) * 1) ((n : Int) - (i : Nat)) 1) := (Walks.range hh _ 0 1 n).bound
  refine ⟨_, _, _, n, _, _, m₀, news, J, rfl, W, ?_, ?_, ?_, by show IsRangeIter _ _ _ _ _; rw [hn]; simpa using Heap.get?_push_size _ rfl, F.push _, (fun p hp => ⟨Heap.get?_push_of_some _ (N p hp).1, (N p hp).2⟩), hj, ?_, ?_⟩
  · intro hm
    exact absurd F.ns.lt ((List.mem_singleton.mp hm) ▸ Nat.lt_irrefl _)
  · intro b hb
    rw [List.mem_singleton.mp hb]
    exact next_is_new F
  · intro p hp hI
    exact absurd (Heap.lt_size (N p hp).1) ((List.mem_singleton.mp hI) ▸ Nat.lt_irrefl _)
  · rintro i v m₁ news₁ s₁ own ⟨hh', tk', rfl⟩ hin hP hJ hoff hown hown2 hown3 hst F₁ N₁
    obtain ⟨_, t, rfl⟩ := hP
    have hI0 : h₀.get? s.heap.objs.size = none := next_is_new F
    obtain ⟨oI, hI⟩ : ∃ oI, hh'.get? s.heap.objs.size = some oI := ⟨_, hst⟩
    have hmI : (s.heap.objs.size, oI) ∈ own := hown3 _ List.mem_cons_self hI0 _ hI
    have hIN := N₁ _ (List.mem_append_left _ hmI)
    have N₂ : News h₀ env.locals hh' ((s.heap.objs.size, oI) :: news₁) := fun p hp => by
      rcases List.mem_cons.mp hp with rfl | hp
      · exact hIN
      · exact N₁ p (List.mem_append_right _ hp)
    have ho1 : LCg.Off1 s.heap.objs.size news₁ := off1_of fun p hp e => hoff p hp (List.mem_singleton.mpr e)
    have e1 : (0 : Int) + (i : Int) * 1 = (i : Int) := by omega
    rw [e1] at F₁
    refine wpAny_mono (turn i t m₁ news₁ s.heap.objs.size oI hh' tk' hin hJ ho1 F₁ N₂) (fun f s₂ p => ?_) fun _ _ e => e
    have fin : TurnR h₀ env.locals s.heap.objs.size oI s (J (i + 1)) s₂ → LoopStepU h₀ env.locals [s.heap.objs.size] own (J (i + 1)) { s with heap := hh', toks := tk' } .next s₂ := by
      rintro ⟨h', tk, m', news', e, F', N', ho', hm⟩
      refine ⟨rfl, h', tk, m', news', e, F', fun p hp => ?_, fun p hp e => off1_mem ho' p hp (List.mem_singleton.mp e), hm⟩
      rcases List.mem_append.mp hp with hp | hp
      · refine ⟨?_, (N₁ p (List.mem_append_left _ hp)).2⟩
        have e1 := List.mem_singleton.mp (hown p hp)
        have := hown2 p hp
        rw [e1] at this ⊢
        have this' : hh'.get? s.heap.objs.size = some p.2 := this
        rw [hI] at this'; cases this'
        exact (N' _ List.mem_cons_self).1
      · exact N' p (List.mem_cons_of_mem _ hp)
    cases f with
    | ret v => exact .ret p
    | brk => exact .brk p
    | next => exact .next (fin p)
    | cont => exact .cont (fin p)
  · intro h' tk m' news' F' N' _ hJ
    exact done m' news' h' tk hJ F' N'

/-- range(n), onto the ledger -/
theorem range_K {L : Addr} {m : Str → Option Value} {news : List (Addr × Obj)} {n : Int} {t : Tok} {Q : Value → Shared → Prop} (F : Fr h₀ L s.heap m) (N : News h₀ L s.heap news)
    (h : ∀ R h' t1 t2 tk', Fr h₀ L h' m → News h₀ L h' ((R, { cls := .type "range", data := .fields #[.int 0 t1, .int n t, .int 1 t2] }) :: news) → (∀ p ∈ news, p.1 < R) → IsRange h' R 0 n 1 t1 t t2 → Q (.ref R) { s with heap := h', toks := tk' }) :
    wpAny (model prog w) A (call (.type "range") [.int n t]) Q E s :=
  call_range_1 (h _ _ _ _ _ (F.push _) (N.push F _) (fun p hp => Heap.lt_size (N p hp).1) (Heap.get?_push_size _ rfl))
end
end Mine

namespace Mine

/-- the ledger inside a turn of a comprehension -/
abbrev inComp (I : Addr) (oI : Obj) (C : Addr) (oC : Obj) (D : Addr) (ys : List Value) (news : List (Addr × Obj)) : List (Addr × Obj) := (I, oI) :: (C, oC) :: (D, LCg.lst ys) :: news

/-- behind an element (by the ledger) -/
def EltN (h₀ : Heap) (L : Addr) (m : Str → Option Value) (s₂ : Shared) (I : Addr) (oI : Obj) (C : Addr) (oC : Obj) (D : Addr) (ys : List Value) (news : List (Addr × Obj)) (Jy : Value → List (Addr × Obj) → Prop) (y : Value) (s₄ : Shared) : Prop :=
  ∃ h₄ tk₄ nw', s₄ = { s₂ with heap := h₄, toks := tk₄ } ∧ Fr h₀ L h₄ m ∧ News h₀ L h₄ (inComp I oI C oC D ys (nw' ++ news)) ∧ (∀ p ∈ nw', p.1 ≠ I ∧ p.1 ≠ C ∧ p.1 ≠ D) ∧ Jy y nw'
/-- behind a test (by the ledger) -/
def TestN (prog : Program) (w : World) (A : Around) (elt : Expr) (cenv : Env) (h₀ : Heap) (L : Addr) (m : Str → Option Value) (s₂ : Shared) (I : Addr) (oI : Obj) (C : Addr) (oC : Obj) (D : Addr) (ys : List Value) (nw news : List (Addr × Obj)) (Jy : Value → List (Addr × Obj) → Prop) (Jn : Prop) (E' : Value → Shared → Prop) (ok : Bool) (s₃ : Shared) : Prop :=
  if ok = true then wpAny (model prog w) A (eval elt cenv) (EltN h₀ L m s₂ I oI C oC D ys news Jy) E' s₃
  else ∃ h₃ tk₃, s₃ = { s₂ with heap := h₃, toks := tk₃ } ∧ Fr h₀ L h₃ m ∧ News h₀ L h₃ (inComp I oI C oC D ys (nw ++ news)) ∧ Jn
def CompN (prog : Program) (w : World) (A : Around) (elt : Expr) (ifs : List Expr) (cenv : Env) (h₀ : Heap) (L : Addr) (m : Str → Option Value) (s₂ : Shared) (h : Heap) (tk : Nat) (I : Addr) (oI : Obj) (C : Addr) (oC : Obj) (D : Addr) (ys : List Value) (nw news : List (Addr × Obj)) (Jy : Value → List (Addr × Obj) → Prop) (Jn : Prop) (E' : Value → Shared → Prop) : Prop :=
  wpAny (model prog w) A (forIn ifs true fun c r => if r = true then do let ok ← isTrue c cenv (eval c cenv); pure (ForInStep.yield ok) else pure (ForInStep.yield r))
    (TestN prog w A elt cenv h₀ L m s₂ I oI C oC D ys nw news Jy Jn E') E' { s₂ with heap := h, toks := tk }

section
variable {prog : Program} {w : World} {A : Around} {E : Value → Shared → Prop} {s : Shared} {env : Env} {h₀ : Heap} {L : Addr} {m : Str → Option Value} {news : List (Addr × Obj)}

theorem block_N {elt iter : Expr} {x : Str} {px : Pos} {ifs : List Expr} {scope : Scope} {cl : List (Str × Addr)} {pos : Pos} {s₂ : Shared} {I : Addr} {fp : List Addr} {n : Nat} {P : Nat → Value → Prop} {St : Nat → Heap → Prop}
    {RR : Value → Addr → Result → Shared → Prop} (J : Nat → List Value → List (Addr × Obj) → Prop)
    (W : Walks prog w A I fp [I] n P St) (hsz : n ≤ sizeLine) (hIo : ∀ i h, St i h → ∃ o, h.get? I = some o)
    (hSt : ∀ i h h' o, St i h → h.get? I = some o → h'.get? I = some o → Fr h₀ L h' m → News h₀ L h' news → St i h')
    (hcell : ∀ y ∈ scope.names, y.2 ≠ .cell) (hkind : scope.kind = .function) (hx : scope.names.lookup x = some .local) (hst : St 0 s₂.heap) (hfp : ∀ b ∈ fp, b < s₂.heap.objs.size)
    (F : Fr h₀ L s₂.heap m) (N : News h₀ L s₂.heap news) (hIL : L ≠ I) (hI₀ : h₀.get? I = none) (offI : ∀ p ∈ news, p.1 ≠ I) (hJ : J 0 [] [])
    (turn : ∀ i v ys nw I oI C oC D m₂ h tk (E' : Value → Shared → Prop), i < n → P i v → LCg.NsObj oC m₂ → m₂ x = some v → Fr h₀ L h m → News h₀ L h (inComp I oI C oC D ys (nw ++ news)) → LCg.Off3 I C D (nw ++ news) → ((@Ne Nat I C) ∧ (@Ne Nat I D) ∧ (@Ne Nat C D)) → J i ys nw →
      CompN prog w A elt ifs (compEnvC scope cl C env) h₀ L m s₂ h tk I oI C oC D ys nw news (fun y nw' => J (i + 1) (ys ++ [y]) nw') (J (i + 1) ys nw) E')
    (hRR : ∀ D C h tk m' ys nw, Fr h₀ L h m → News h₀ L h ((D, LCg.lst ys) :: (nw ++ news)) → LCg.Off1 D (nw ++ news) → h.Ns C m' → h₀.get? C = none → C ≠ L → C ≠ D → (∀ p ∈ nw ++ news, p.1 ≠ C) → J n ys nw → RR (.ref D) C (.ok .next) { s₂ with heap := h, toks := tk }) :
    wpAny (model prog w) A (newList []) (fun acc s₃ => wpAny (model prog w) A (newFunctionEnv scope env.globals cl [] env.qual none .none (some env)) (fun cenv s₄ =>
      codeAny (model prog w) A (.compStart (.ListComp elt [⟨.Name x px, iter, ifs, 0⟩] scope pos) 0 (.ref I) acc { cenv with scope := relabel scope env }) (RR acc cenv.locals) s₄) E s₃) E s₂ := by
  refine wpAny_newObj_type (wpAny_newFunctionEnv hcell (by intro y hy; simp at hy) (fun h₁ hns₁ hsb₁ => ?_) hkind)
  dsimp only at hns₁ hsb₁ ⊢
  generalize hH2 : s₂.heap.push { cls := .type "list", dict := none, data := .seq ([] : List Value).toArray } = H2 at hns₁ hsb₁ ⊢
  have hC : H2.objs.size = s₂.heap.objs.size + 1 := by rw [← hH2, Heap.size_push]
  have hDC : s₂.heap.objs.size ≠ H2.objs.size := by rw [hC]; exact Nat.ne_of_lt (Nat.lt_succ_self _)
  have below : ∀ b, b < s₂.heap.objs.size → b ≠ H2.objs.size ∧ b ≠ s₂.heap.objs.size := fun b hb => ⟨by rw [hC]; exact Nat.ne_of_lt (Nat.lt_succ_of_lt hb), Nat.ne_of_lt hb⟩
  have hDf : s₂.heap.objs.size ∉ fp := fun hm => Nat.lt_irrefl _ (hfp _ hm)
  have hCf : H2.objs.size ∉ fp := fun hm => by have := hfp _ hm; rw [hC] at this; exact Nat.lt_irrefl _ (Nat.lt_of_succ_lt this)
  have hIf : I ∈ fp := W.sub I (List.mem_singleton.mpr rfl)
  have hIlt : I < s₂.heap.objs.size := hfp I hIf
  have old : ∀ b o, s₂.heap.get? b = some o → h₁.get? b = some o := fun b o e => hsb₁.extBut b o (below b (Heap.lt_size e)).1 (Heap.get?_push_of_some _ (hH2 ▸ Heap.get?_push_of_some _ e))
  have hacc : h₁.get? s₂.heap.objs.size = some (LCg.lst []) := hsb₁.extBut _ _ hDC (Heap.get?_push_of_some _ (hH2 ▸ Heap.get?_push_size _ rfl))
  have hst₁ : St 0 h₁ := W.frame _ _ _ hst fun b _ o e => old b o e
  have fresh₀ : ∀ a, s₂.heap.objs.size ≤ a → h₀.get? a = none := fun a ha => by
    cases e : h₀.get? a with
    | none => rfl
    | some o' => exact absurd (Heap.lt_size (F.keep a o' e)) (Nat.not_lt.mpr ha)
  have hD₀ : h₀.get? s₂.heap.objs.size = none := fresh₀ _ (Nat.le_refl _)
  have hC₀ : h₀.get? H2.objs.size = none := fresh₀ _ (by rw [hC]; exact Nat.le_succ _)
  have hLlt : L < s₂.heap.objs.size := F.ns.lt
  have hDL : s₂.heap.objs.size ≠ L := Ne.symm (below L hLlt).2
  have hCL : H2.objs.size ≠ L := Ne.symm (below L hLlt).1
  have hCI : I ≠ H2.objs.size := (below I hIlt).1
  have hDI : I ≠ s₂.heap.objs.size := (below I hIlt).2
  have off0 : ∀ p ∈ news, p.1 ≠ I ∧ p.1 ≠ H2.objs.size ∧ p.1 ≠ s₂.heap.objs.size := fun p hp => ⟨offI p hp, (below _ (Heap.lt_size (N p hp).1)).1, (below _ (Heap.lt_size (N p hp).1)).2⟩
  have loop : ∀ s₃ : Shared, s₃ = { s₂ with heap := h₁, toks := s₂.toks + ([] : List (Str × Value)).length } →
      codeAny (model prog w) A (.compLoop (.ListComp elt [⟨.Name x px, iter, ifs, 0⟩] scope pos) 0 (.ref I) (.ref s₂.heap.objs.size) (compEnvC scope cl H2.objs.size env))
        (RR (.ref s₂.heap.objs.size) H2.objs.size) s₃ := by
    rintro s₃ rfl
    refine codeAny_compLoop_tests
      (fun k s' => ∃ h' tk i ys m' nw, s' = { s₂ with heap := h', toks := tk } ∧ i ≤ n ∧ k = n + 1 - i ∧ ys.length ≤ i ∧ St i h' ∧ Fr h₀ L h' m ∧ h'.Ns H2.objs.size m' ∧ News h₀ L h' ((s₂.heap.objs.size, LCg.lst ys) :: (nw ++ news)) ∧
        (∀ p ∈ nw, p.1 ≠ I ∧ p.1 ≠ H2.objs.size ∧ p.1 ≠ s₂.heap.objs.size) ∧ J i ys nw) ?_ (n + 1)
      ⟨h₁, _, 0, [], _, [], rfl, Nat.zero_le _, rfl, Nat.le_refl _, hst₁, F.keeps old, hns₁, ?_, (fun p hp => nomatch hp), hJ⟩
    · rintro k s' ⟨h', tk, i, ys, m', nw, rfl, hi, rfl, hyl, hst', F', hn', N', hnw, hJ'⟩
      have offA : ∀ p ∈ nw ++ news, p.1 ≠ I ∧ p.1 ≠ H2.objs.size ∧ p.1 ≠ s₂.heap.objs.size := fun p hp => (List.mem_append.mp hp).elim (hnw p) (off0 p)
      by_cases hlt : i < n
      · refine W.item i _ _ _ hlt hst' fun v h₂ tk₂ hPv hst₂ hk₂ => ?_
        refine wpAny_assign_Name (wpAny_storeName_local (lookup_relabel_local hx) (hn'.at' fun o e => hk₂ _ o (by simpa using Ne.symm hCI) e) (fun h₃ hn₃ hs₃ => ?_) (by simp [compEnvC, relabel, hkind]))
        have hst₃ : St (i + 1) h₃ := W.frame _ _ _ hst₂ fun b hb o e => hs₃.extBut b o (fun q => hCf (by have q' : b = H2.objs.size := q; rw [← q']; exact hb)) e
        obtain ⟨oI, heI⟩ := hIo _ _ hst₃
        obtain ⟨oC, heC, hoC⟩ := LCg.ns_obj hn₃
        have heC : h₃.get? H2.objs.size = some oC := heC
        have F₃ : Fr h₀ L h₃ m := (LCg.fr_but F' hk₂ hIL hI₀).change hs₃ hCL hC₀
        have N₂ : News h₀ L h₂ ((s₂.heap.objs.size, LCg.lst ys) :: (nw ++ news)) := LCg.news_but N' hk₂ fun p hp => by
          rcases List.mem_cons.mp hp with rfl | hp
          · exact Ne.symm hDI
          · exact (offA p hp).1
        have N₃ : News h₀ L h₃ (inComp I oI H2.objs.size oC s₂.heap.objs.size ys (nw ++ news)) := fun p hp => by
          rcases List.mem_cons.mp hp with rfl | hp
          · exact ⟨heI, Ne.symm hIL, hI₀⟩
          · rcases List.mem_cons.mp hp with rfl | hp
            · exact ⟨heC, hCL, hC₀⟩
            · have z := N₂ p hp
              refine ⟨hs₃.extBut _ _ ?_ z.1, z.2⟩
              rcases List.mem_cons.mp hp with rfl | hp
              · exact hDC
              · exact (offA p hp).2.1
        have T := turn i v ys nw I oI H2.objs.size oC s₂.heap.objs.size _ h₃ (tk₂ + 1) (notedBy (model prog w) A (compEnvC scope cl H2.objs.size env) fun e s' => RR (.ref s₂.heap.objs.size) H2.objs.size (.error e) s') hlt hPv hoC (by simp) F₃ N₃ (LCg.Off3.of offA) ⟨hCI, hDI, Ne.symm hDC⟩ hJ'
        refine wpAny_mono T (fun ok s₃ h₃' => ?_) fun _ _ e => e
        unfold TestN at h₃'
        by_cases hok : ok = true
        · rw [if_pos hok] at h₃'
          rw [if_pos hok]
          refine wpAny_mono h₃' (fun y s₄ hy => ?_) fun _ _ e => e
          obtain ⟨h₄, tk₄, nw', rfl, F₄, N₄, off₄, hJ''⟩ := hy
          have zI := (N₄ (I, oI) List.mem_cons_self).1
          have zC := (N₄ (H2.objs.size, oC) (List.mem_cons_of_mem _ List.mem_cons_self)).1
          have zD := (N₄ (s₂.heap.objs.size, LCg.lst ys) (List.mem_cons_of_mem _ (List.mem_cons_of_mem _ List.mem_cons_self))).1
          have N₄' : News h₀ L h₄ (nw' ++ news) := fun p hp => N₄ p (List.mem_cons_of_mem _ (List.mem_cons_of_mem _ (List.mem_cons_of_mem _ hp)))
          have offB : ∀ p ∈ nw' ++ news, p.1 ≠ I ∧ p.1 ≠ H2.objs.size ∧ p.1 ≠ s₂.heap.objs.size := fun p hp => (List.mem_append.mp hp).elim (off₄ p) (off0 p)
          have hst₄ : St (i + 1) h₄ := hSt _ _ _ _ hst₃ heI zI F₄ fun p hp => N₄' p (List.mem_append_right _ hp)
          refine append_at (hsz := by show ys.toArray.size ≤ sizeLine; rw [List.size_toArray]; exact Nat.le_trans hyl (Nat.le_trans hi hsz)) zD fun h₅ hs₅ hD₅ => ?_
          refine ⟨n + 1 - (i + 1), by omega, h₅, tk₄, i + 1, ys ++ [y], fun z => if z = x then some v else m' z, nw', rfl, hlt, rfl, by rw [List.length_append, List.length_singleton]; omega, W.frame _ _ _ hst₄ fun b hb o e => hs₅.extBut b o (fun q => hDf (q ▸ hb)) e, F₄.change hs₅ hDL hD₀,
            (hoC.ns zC).sameBut hs₅ (Ne.symm hDC), fun p hp => ?_, off₄, hJ''⟩
          rcases List.mem_cons.mp hp with rfl | hp
          · exact ⟨hD₅.trans (congrArg some (LCg.lst_snoc ys y)), hDL, hD₀⟩
          · exact ⟨hs₅.extBut _ _ (offB p hp).2.2 (N₄' p hp).1, (N₄' p hp).2⟩
        · rw [if_neg hok] at h₃'
          rw [if_neg hok]
          obtain ⟨h₄, tk₄, rfl, F₄, N₄, hJ''⟩ := h₃'
          have zI := (N₄ (I, oI) List.mem_cons_self).1
          have zC := (N₄ (H2.objs.size, oC) (List.mem_cons_of_mem _ List.mem_cons_self)).1
          have N₄' : News h₀ L h₄ (nw ++ news) := fun p hp => N₄ p (List.mem_cons_of_mem _ (List.mem_cons_of_mem _ (List.mem_cons_of_mem _ hp)))
          have hst₄ : St (i + 1) h₄ := hSt _ _ _ _ hst₃ heI zI F₄ fun p hp => N₄' p (List.mem_append_right _ hp)
          exact ⟨n + 1 - (i + 1), by omega, h₄, tk₄, i + 1, ys, fun z => if z = x then some v else m' z, nw, rfl, hlt, rfl, Nat.le_succ_of_le hyl, hst₄, F₄, hoC.ns zC, fun p hp => N₄ p (List.mem_cons_of_mem _ (List.mem_cons_of_mem _ hp)), hnw, hJ''⟩
      · obtain rfl : i = n := Nat.le_antisymm hi (Nat.not_lt.mp hlt)
        refine W.done _ _ _ hst' fun h₂ tk₂ hk₂ => ?_
        have N₂ : News h₀ L h₂ ((s₂.heap.objs.size, LCg.lst ys) :: (nw ++ news)) := LCg.news_but N' hk₂ fun p hp => by
          rcases List.mem_cons.mp hp with rfl | hp
          · exact Ne.symm hDI
          · exact (offA p hp).1
        exact hRR _ _ h₂ tk₂ _ ys nw (LCg.fr_but F' hk₂ hIL hI₀) N₂ (off1_of fun p hp => (offA p hp).2.2) (hn'.at' fun o e => hk₂ _ o (by simpa using Ne.symm hCI) e) hC₀ hCL (Ne.symm hDC) (fun p hp => (offA p hp).2.1) hJ'
    · intro p hp
      rcases List.mem_cons.mp hp with rfl | hp
      · exact ⟨hacc, hDL, hD₀⟩
      · exact ⟨old _ _ (N p hp).1, (N p hp).2⟩
  exact codeAny_compStart_list (loop _ rfl) (W.self 0 _ _ _ hst₁ (loop _ rfl))

/-- the source of a comprehension, its turns, its end (by the ledger) -/
def SrcN (prog : Program) (w : World) (A : Around) (h₀ : Heap) (L : Addr) (m : Str → Option Value) (env : Env) (elt : Expr) (x : Str) (ifs : List Expr) (scope : Scope) (cl : List (Str × Addr)) (QD : Addr → List Value → List (Addr × Obj) → Heap → Shared → Nat → Prop) (xv : Value) (s₁ : Shared) : Prop :=
  ∃ ax its news, ∃ J : Nat → List Value → List (Addr × Obj) → Prop, xv = .ref ax ∧ A.handled = none ∧ (s₁.heap.IsList ax its ∨ s₁.heap.IsTuple ax its) ∧ ((∃ o, h₀.get? ax = some o) ∨ ∃ o, (ax, o) ∈ news) ∧ its.size ≤ sizeLine ∧ Fr h₀ L s₁.heap m ∧ News h₀ L s₁.heap news ∧ J 0 [] [] ∧
    (∀ s₂ : Shared, (∃ g, s₂ = { s₁ with heap := g }) → ∀ i v ys nw I oI C oC D m₂ h tk (E' : Value → Shared → Prop), its[i]? = some v → LCg.NsObj oC m₂ → m₂ x = some v → Fr h₀ L h m → News h₀ L h (inComp I oI C oC D ys (nw ++ news)) → LCg.Off3 I C D (nw ++ news) → ((@Ne Nat I C) ∧ (@Ne Nat I D) ∧ (@Ne Nat C D)) → J i ys nw →
      CompN prog w A elt ifs (compEnvC scope cl C env) h₀ L m s₂ h tk I oI C oC D ys nw news (fun y nw' => J (i + 1) (ys ++ [y]) nw') (J (i + 1) ys nw) E') ∧
    (∀ s₂ : Shared, (∃ g, s₂ = { s₁ with heap := g }) → ∀ D ys nw h tk, News h₀ L h ((D, LCg.lst ys) :: (nw ++ news)) → LCg.Off1 D (nw ++ news) → J its.size ys nw → QD D ys (nw ++ news) h s₂ tk)

theorem srcN_go {elt iter : Expr} {x : Str} {px : Pos} {ifs : List Expr} {scope : Scope} {cl : List (Str × Addr)} {pos : Pos} {xv : Value} {s₁ : Shared} {QD : Addr → List Value → List (Addr × Obj) → Heap → Shared → Nat → Prop} {RR : Value → Addr → Result → Shared → Prop}
    (hcell : ∀ y ∈ scope.names, y.2 ≠ .cell) (hkind : scope.kind = .function) (hx : scope.names.lookup x = some .local)
    (h : SrcN prog w A h₀ L m env elt x ifs scope cl QD xv s₁)
    (hRR : ∀ (s₂ : Shared) D C h tk m' ys nws, (∃ g, s₂ = { s₁ with heap := g }) → Fr h₀ L h m → News h₀ L h ((D, LCg.lst ys) :: nws) → LCg.Off1 D nws → h.Ns C m' → h₀.get? C = none → C ≠ L → C ≠ D → (∀ p ∈ nws, p.1 ≠ C) → (∀ h' tk', News h₀ L h' ((D, LCg.lst ys) :: nws) → QD D ys nws h' s₂ tk') → RR (.ref D) C (.ok .next) { s₂ with heap := h, toks := tk }) :
    wpAny (model prog w) A (pyIter xv) (fun it s₂ => wpAny (model prog w) A (newList []) (fun acc s₃ => wpAny (model prog w) A (newFunctionEnv scope env.globals cl [] env.qual none .none (some env)) (fun cenv s₄ =>
      codeAny (model prog w) A (.compStart (.ListComp elt [⟨.Name x px, iter, ifs, 0⟩] scope pos) 0 it acc { cenv with scope := relabel scope env }) (RR acc cenv.locals) s₄) E s₃) E s₂) E s₁ := by
  obtain ⟨ax, its, news, J, rfl, hh, hsrc, hbase, hsz, F, N, hJ, turn, done⟩ := h
  have hlt : ax < s₁.heap.objs.size := by
    rcases hsrc with ⟨o, ho, _⟩ | ⟨o, ho, _⟩ <;> exact Heap.lt_size ho
  have hkeep : ∀ h', Fr h₀ L h' m → News h₀ L h' news → ∀ o, s₁.heap.get? ax = some o → h'.get? ax = some o := by
    intro h' F' N' o e
    rcases hbase with ⟨o', ho'⟩ | ⟨o', ho'⟩
    · have := F.keep _ _ ho'
      rw [e] at this; cases this
      exact F'.keep _ _ ho'
    · have := (N _ ho').1
      rw [e] at this; cases this
      exact (N' _ ho').1
  have hfp : ∀ b ∈ [s₁.heap.objs.size, ax], ∀ ob, b < (s₁.heap.push ob).objs.size := by
    intro b hb ob
    rw [Heap.size_push]
    rcases List.mem_cons.mp hb with rfl | hb
    · exact Nat.lt_succ_self _
    · rw [List.mem_singleton.mp hb]; exact Nat.lt_succ_of_lt hlt
  have up : ∀ (ob : Obj) b o, s₁.heap.get? b = some o → (s₁.heap.push ob).get? b = some o := fun ob b o e => Heap.get?_push_of_some _ e
  have offI : ∀ p ∈ news, p.1 ≠ s₁.heap.objs.size := fun p hp => Nat.ne_of_lt (Heap.lt_size (N p hp).1)
  rcases hsrc with hl | hl
  · refine wpAny_pyIter_list hl ?_
    refine block_N J (Walks.list hh s₁.heap.objs.size ax (Nat.ne_of_lt hlt) its) hsz (fun i h st => by obtain ⟨o, e, _⟩ := st.1; exact ⟨o, e⟩) ?_ hcell hkind hx ⟨⟨_, Heap.get?_push_size _ rfl, rfl, rfl⟩, hl.push _⟩ (fun b hb => hfp b hb _)
      (F.keeps (up _)) (N.grown (up _)) (Nat.ne_of_lt F.ns.lt) (next_is_new F) offI hJ ?_ ?_
    · intro i h h' o st e e' F' N'
      refine ⟨?_, hl.at (hkeep h' F' N')⟩
      obtain ⟨o', q, r⟩ := st.1
      rw [e] at q; cases q
      exact ⟨o, e', r⟩
    · intro i v ys nw I oI C oC D m₂ h tk E' _ hv hoC hx' F' N' off ne hJ'
      exact turn _ ⟨_, rfl⟩ i v ys nw I oI C oC D m₂ h tk E' hv hoC hx' F' N' off ne hJ'
    · intro D C h tk m' ys nw F' N' o1 hn hC0 hCL hCD offC hJ'
      exact hRR _ D C h tk m' ys _ ⟨_, rfl⟩ F' N' o1 hn hC0 hCL hCD offC fun h' tk' N'' => done _ ⟨_, rfl⟩ D ys nw h' tk' N'' o1 hJ'
  · refine wpAny_pyIter_tuple hl ?_
    refine block_N J (Walks.tuple hh s₁.heap.objs.size ax (Nat.ne_of_lt hlt) its) hsz (fun i h st => by obtain ⟨o, e, _⟩ := st.1; exact ⟨o, e⟩) ?_ hcell hkind hx ⟨⟨_, Heap.get?_push_size _ rfl, rfl, rfl⟩, hl.at fun o e => Heap.get?_push_of_some _ e⟩ (fun b hb => hfp b hb _)
      (F.keeps (up _)) (N.grown (up _)) (Nat.ne_of_lt F.ns.lt) (next_is_new F) offI hJ ?_ ?_
    · intro i h h' o st e e' F' N'
      refine ⟨?_, hl.at (hkeep h' F' N')⟩
      obtain ⟨o', q, r⟩ := st.1
      rw [e] at q; cases q
      exact ⟨o, e', r⟩
    · intro i v ys nw I oI C oC D m₂ h tk E' _ hv hoC hx' F' N' off ne hJ'
      exact turn _ ⟨_, rfl⟩ i v ys nw I oI C oC D m₂ h tk E' hv hoC hx' F' N' off ne hJ'
    · intro D C h tk m' ys nw F' N' o1 hn hC0 hCL hCD offC hJ'
      exact hRR _ D C h tk m' ys _ ⟨_, rfl⟩ F' N' o1 hn hC0 hCL hCD offC fun h' tk' N'' => done _ ⟨_, rfl⟩ D ys nw h' tk' N'' o1 hJ'

theorem ListComp_N {elt iter : Expr} {x : Str} {px : Pos} {ifs : List Expr} {scope : Scope} {cl : List (Str × Addr)} {pos : Pos} {Q : Value → Shared → Prop} (F₀ : Fr h₀ L s.heap m)
    (hclos : closureFor scope env = pure cl) (hcell : ∀ y ∈ scope.names, y.2 ≠ .cell) (hkind : scope.kind = .function)
    (hnames : ∀ y ∈ scope.names, y.2 = .local → scope.names.lookup y.1 = some .local) (hx : scope.names.lookup x = some .local)
    (h : wpAny (model prog w) A (eval iter env) (SrcN prog w A h₀ L m env elt x ifs scope cl fun D ys nws h s₂ tk => Fr h₀ L h m → Q (.ref D) { s₂ with heap := h, toks := tk }) E s)
    (hs : ∀ x, foldedSetIterable iter env x = pure x := by intro _; rfl) :
    wpAny (model prog w) A (eval (.ListComp elt [⟨.Name x px, iter, ifs, 0⟩] scope pos) env) Q E s := by
  rw [eval_ListComp]
  refine wpAny_comprehension_free (use := none) rfl hs hclos hkind hnames (wpAny_mono h (fun xv s₁ h₁ => ?_) fun _ _ e => e)
  refine srcN_go hcell hkind hx h₁ ?_
  intro s₂ D C h tk m' ys nws hg F' N' o1 hn hC0 hCL hCD offC fin
  refine ⟨m', hn, fun h'' hs'' => fin h'' tk (fun p hp => ?_) (F'.change hs'' hCL hC0)⟩
  refine ⟨hs''.extBut _ _ ?_ (N' p hp).1, (N' p hp).2⟩
  rcases List.mem_cons.mp hp with rfl | hp
  · exact Ne.symm hCD
  · exact offC p hp

theorem Assign_ListComp_N {elt iter : Expr} {x y : Str} {px py : Pos} {ifs : List Expr} {scope : Scope} {cl : List (Str × Addr)} {pos spos : Pos} {Q : Flow → Shared → Prop} (F₀ : Fr h₀ L s.heap m) (hLe : env.locals = L)
    (hsw : swapsWith (.ListComp elt [⟨.Name x px, iter, ifs, 0⟩] scope pos) (some (.Name y py)) spos.line env = pure true)
    (hclos : closureFor scope env = pure cl) (hcell : ∀ z ∈ scope.names, z.2 ≠ .cell) (hkind : scope.kind = .function)
    (hnames : ∀ z ∈ scope.names, z.2 = .local → scope.names.lookup z.1 = some .local) (hx : scope.names.lookup x = some .local)
    (hy : env.kindOf y = some .local) (hp : (env.scope.kind == .class || (env.scope.kind == .module && env.locals != env.globals)) = false)
    (h : wpAny (model prog w) A (eval iter env) (SrcN prog w A h₀ L m env elt x ifs scope cl fun D ys nws h s₂ tk => Fr h₀ L h (fun z => if z = y then some (.ref D) else m z) → Q .next { s₂ with heap := h, toks := tk }) E s)
    (hs : ∀ x, foldedSetIterable iter env x = pure x := by intro _; rfl) :
    wpAny (model prog w) A (exec (.Assign [.Name y py] (.ListComp elt [⟨.Name x px, iter, ifs, 0⟩] scope pos) spos) env) Q E s := by
  subst hLe
  rw [exec_Assign_Name_used _ _ _ _ hsw]
  refine wpAny_bind (wpAny_standAt (wpAny_bind ?_))
  show wpAny _ A (do let _ ← comprehension (.ListComp elt [⟨.Name x px, iter, ifs, 0⟩] scope pos) scope env _ (newList []) false (eval iter env) (some (assign (.Name y py) env))) _ _ s
  refine wpAny_bind (wpAny_mono (wpAny_comprehension_free (use := some (assign (.Name y py) env)) (Q := fun _ s' => Q .next s') rfl hs hclos hkind hnames
    (wpAny_mono h (fun xv s₁ h₁ => ?_) fun _ _ e => e)) (fun _ s' hq => wpAny_pure (wpAny_pure hq)) fun _ _ e => e)
  refine srcN_go hcell hkind hx h₁ ?_
  intro s₂ D C h tk m' ys nws hg F' N' o1 hn hC0 hCL hCD offC fin
  show wpAny _ A (assign (.Name y py) env (.ref D)) _ _ _
  refine wpAny_assign_Name (wpAny_storeName_local hy F'.ns (fun h₂ hn₂ hs₂ => ?_) hp)
  have hL₀ : h₀.get? env.locals = none := Heap.get?_none_of_le F'.above
  have F₂ : Fr h₀ env.locals h₂ (fun z => if z = y then some (.ref D) else m z) := ⟨hn₂, fun b o e => hs₂.extBut b o (fun q => by rw [q, hL₀] at e; cases e) (F'.keep b o e), F'.above⟩
  refine ⟨m', hn.sameBut hs₂ hCL, fun h'' hs'' => fin h'' _ (fun p hp => ?_) (F₂.change hs'' hCL hC0)⟩
  have z : h₂.get? p.1 = some p.2 := hs₂.extBut _ _ (N' p hp).2.1 (N' p hp).1
  refine ⟨hs''.extBut _ _ ?_ z, (N' p hp).2⟩
  rcases List.mem_cons.mp hp with rfl | hp
  · exact Ne.symm hCD
  · exact offC p hp

theorem compN_one {elt c : Expr} {cenv : Env} {s₂ : Shared} {h : Heap} {tk : Nat} {I C D : Addr} {oI oC : Obj} {ys : List Value} {nw : List (Addr × Obj)} {Jy : Value → List (Addr × Obj) → Prop} {Jn : Prop} {E' : Value → Shared → Prop}
    (H : wpAny (model prog w) A (isTrue c cenv (eval c cenv)) (TestN prog w A elt cenv h₀ L m s₂ I oI C oC D ys nw news Jy Jn E') E' { s₂ with heap := h, toks := tk }) : CompN prog w A elt [c] cenv h₀ L m s₂ h tk I oI C oC D ys nw news Jy Jn E' := wpAny_tests_one H
theorem compN_nil {elt : Expr} {cenv : Env} {s₂ : Shared} {h : Heap} {tk : Nat} {I C D : Addr} {oI oC : Obj} {ys : List Value} {nw : List (Addr × Obj)} {Jy : Value → List (Addr × Obj) → Prop} {Jn : Prop} {E' : Value → Shared → Prop}
    (H : wpAny (model prog w) A (eval elt cenv) (EltN h₀ L m s₂ I oI C oC D ys news Jy) E' { s₂ with heap := h, toks := tk }) : CompN prog w A elt [] cenv h₀ L m s₂ h tk I oI C oC D ys nw news Jy Jn E' := wpAny_tests_nil (by unfold TestN; rw [if_pos rfl]; exact H)
theorem TestN.yes {elt : Expr} {cenv : Env} {s₂ s₃ : Shared} {I C D : Addr} {oI oC : Obj} {ys : List Value} {nw : List (Addr × Obj)} {Jy : Value → List (Addr × Obj) → Prop} {Jn : Prop} {E' : Value → Shared → Prop} {ok : Bool} (e : ok = true)
    (H : wpAny (model prog w) A (eval elt cenv) (EltN h₀ L m s₂ I oI C oC D ys news Jy) E' s₃) : TestN prog w A elt cenv h₀ L m s₂ I oI C oC D ys nw news Jy Jn E' ok s₃ := by unfold TestN; rw [if_pos e]; exact H
theorem TestN.no {elt : Expr} {cenv : Env} {s₂ : Shared} {h₃ : Heap} {tk₃ : Nat} {I C D : Addr} {oI oC : Obj} {ys : List Value} {nw all : List (Addr × Obj)} {Jy : Value → List (Addr × Obj) → Prop} {Jn : Prop} {E' : Value → Shared → Prop} {ok : Bool} (e : ok = false)
    (F : Fr h₀ L h₃ m) (N : News h₀ L h₃ all) (hs : ∀ p ∈ inComp I oI C oC D ys (nw ++ news), p ∈ all) (H : Jn) : TestN prog w A elt cenv h₀ L m s₂ I oI C oC D ys nw news Jy Jn E' ok { s₂ with heap := h₃, toks := tk₃ } := by
  unfold TestN
  rw [e, if_neg (by decide)]
  exact ⟨h₃, tk₃, rfl, F, fun p hp => N p (hs p hp), H⟩
theorem EltN.mk' {s₂ : Shared} {h₄ : Heap} {tk₄ : Nat} {I C D : Addr} {oI oC : Obj} {ys : List Value} {all : List (Addr × Obj)} {Jy : Value → List (Addr × Obj) → Prop} {y : Value} (nw' : List (Addr × Obj))
    (F : Fr h₀ L h₄ m) (N : News h₀ L h₄ all) (hs : ∀ p ∈ inComp I oI C oC D ys (nw' ++ news), p ∈ all) (off : ∀ p ∈ nw', p.1 ≠ I ∧ p.1 ≠ C ∧ p.1 ≠ D) (H : Jy y nw') : EltN h₀ L m s₂ I oI C oC D ys news Jy y { s₂ with heap := h₄, toks := tk₄ } :=
  ⟨h₄, tk₄, nw', rfl, F, fun p hp => N p (hs p hp), off, H⟩
end
end Mine

namespace Mine

/-- a plain def entered; all that stood stays -/
theorem enterS {prog : Program} {w : World} {A A₀ : Around} {s : Shared} {K : Frag} {L : Addr} {h₀ base : Heap} {m mg mb : Str → Option Value} {p : Program} {loose : List Str} {mean : ExcName → Option Value}
    {env : Env} {outer : List Env} {R : Result → Shared → Prop} {name qual : Str} {params : Arguments} {body : List Stmt} {scope : Scope} {dV kV doc pm cdv ct oc : Value} {an od : Option Addr} {osl : Array (Option Value)} {f : Addr} {args : Args} (binds : List (Str × Value))
    (B : Below A₀ base outer h₀) (F : Fr h₀ L s.heap m) (X₀ : K.In h₀) (T : Top p loose mean mg mb h₀) (hA : A.frames = some (env :: outer)) (hf : env.frame = some L) (hke : env.scope.kind = .function)
    (ho : K.lookup f = some ⟨oc, od, .func (fnOf name qual params body scope dV kV doc pm an cdv ct), osl⟩) (hcd : codeIn K cdv qual = true) (hroom : A.depth < recursionLimit)
    (hbind : BindsTo s (fnOf name qual params body scope dV kV doc pm an cdv ct) args binds) (hloc : ∀ y ∈ binds, scope.names.lookup y.1 = some .local)
    (h : ∀ L' h₁, Fr s.heap L' h₁ (fun y => binds.reverse.lookup y) → News s.heap L' h₁ [] → Below A base (env :: outer) s.heap → K.In s.heap → Top p loose mean mg mb s.heap →
      wpAny (model prog w) (A.deeper (envOf qual scope L' f cdv)) (execs body (envOf qual scope L' f cdv))
        (fun fl s' => R (.ok (.ret (match fl with | .ret v => v | _ => .none))) s')
        (fun e s' => wpAny (model prog w) (A.deeper (envOf qual scope L' f cdv)) (leaving (envOf qual scope L' f cdv) e) (fun _ s'' => R (.error e) s'') (fun e' s'' => R (.error e') s'') s')
        { s with heap := h₁, toks := s.toks + binds.length })
    (hco : scope.isCoroutine = false) (hgen : scope.isGenerator = false) (hk : scope.kind = .function)
    (hcell : ∀ x ∈ scope.names, x.2 ≠ .cell) : codeAny (model prog w) A (.call (.ref f) args) R s := by
  have X := X₀.keeps F.keep
  have T' := T.keeps F.keep
  refine codeAny_call_def (fd := fnOf name qual params body scope dV kV doc pm an cdv ct) (body := body) (binds := binds) hroom (X _ _ ho) rfl T'.nolimit (codeRec_of X hcd) rfl hbind hcell hloc (fun h₁ hns hk₁ => ?_) hco hgen hk
  have B1 := pushX B F hf hke
  exact h s.heap.objs.size h₁ ⟨hns, hk₁, Nat.le_refl _⟩ News.nil ⟨hA, B1.stays, B1.frames⟩ X T'

/-- a def with *rest entered -/
theorem peekS {α : Type} {K : Frag} {M : Model} {A : Around} {E : Value → Shared → Prop} {Q : α → Shared → Prop} {s : Shared} {o : Obj} {r : Addr → α} (X : K.In s.heap) (hf : o.isFreed = false)
    (q : ∀ D h', s.heap.StaysIn h' → s.heap.objs.size ≤ h'.objs.size → h'.get? D = some o → s.heap.get? D = none → Q (r D) { s with heap := h' }) :
    ∀ (t : Sem α) (g : Addr → Option α), peek1 K ⟨M.prog, M.w.params⟩ t = some (o, g) → (∀ D, g D = some (r D)) → wpAny M A t Q E s := by
  intro t
  induction t with
  | rule _ k ih => intro g e hg Γ p hΓ; exact ih () g e hg Γ p hΓ
  | point _ k ih => intro g e hg Γ p hΓ; exact ih () g e hg Γ p hΓ
  | ask k ih => intro g e hg Γ p hΓ; exact ih _ g e hg Γ p hΓ
  | load a _ k ih =>
    intro g e hg Γ p hΓ
    simp only [peek1] at e
    split at e
    · rename_i ob ho; exact ⟨ob, X _ _ ho, ih ob g e hg Γ p hΓ⟩
    · cases e
  | alloc ob k _ =>
    intro g e hg
    have e : some (ob, fun D => peek K ⟨M.prog, M.w.params⟩ (k D)) = some (o, g) := e
    obtain ⟨e1, e2⟩ := Prod.mk.inj (Option.some.inj e)
    subst e1
    subst e2
    have up : s.heap.StaysIn (s.heap.push ob) := fun b x hb => Heap.get?_push_of_some _ hb
    show wpAny M A (alloc ob >>= k) Q E s
    refine wpAny_bind (wpAny_alloc ?_)
    exact (Looks.of_peek (M := M) (h := s.heap.push ob) (X.keeps up) (hg s.heap.objs.size)).here (s := { s with heap := s.heap.push ob }) (q _ _ up (by rw [Heap.size_push]; exact Nat.le_succ _) (Heap.get?_push_size _ hf) (Heap.get?_none_of_le (Nat.le_refl _)))
  | _ => intro g e; cases e

theorem enterR {prog : Program} {w : World} {A A₀ : Around} {s : Shared} {K : Frag} {L : Addr} {h₀ base : Heap} {m mg mb : Str → Option Value} {p : Program} {loose : List Str} {mean : ExcName → Option Value}
    {env : Env} {outer : List Env} {R : Result → Shared → Prop} {name qual : Str} {params : Arguments} {body : List Stmt} {scope : Scope} {dV kV doc pm cdv ct oc : Value} {an od : Option Addr} {osl : Array (Option Value)} {f : Addr} {args : Args} (vs : List Value) (binds : Addr → List (Str × Value)) {g₁ : Addr → Option (List (Str × Value))}
    (B : Below A₀ base outer h₀) (F : Fr h₀ L s.heap m) (X₀ : K.In h₀) (T : Top p loose mean mg mb h₀) (hA : A.frames = some (env :: outer)) (hf : env.frame = some L) (hke : env.scope.kind = .function)
    (ho : K.lookup f = some ⟨oc, od, .func (fnOf name qual params body scope dV kV doc pm an cdv ct), osl⟩) (hcd : codeIn K cdv qual = true) (hroom : A.depth < recursionLimit)
    (hp : peek1 K ⟨prog, w.params⟩ (bindArgs (fnOf name qual params body scope dV kV doc pm an cdv ct) args) = some (({ cls := .type "tuple", data := .seq vs.toArray } : Obj), g₁))
    (hg : ∀ D, g₁ D = some (binds D)) (hloc : ∀ D, ∀ y ∈ binds D, scope.names.lookup y.1 = some .local)
    (h : ∀ D L' h₁, Fr s.heap L' h₁ (fun y => (binds D).reverse.lookup y) → News s.heap L' h₁ [(D, ({ cls := .type "tuple", data := .seq vs.toArray } : Obj))] → Below A base (env :: outer) s.heap → K.In s.heap → Top p loose mean mg mb s.heap →
      wpAny (model prog w) (A.deeper (envOf qual scope L' f cdv)) (execs body (envOf qual scope L' f cdv))
        (fun fl s' => R (.ok (.ret (match fl with | .ret v => v | _ => .none))) s')
        (fun e s' => wpAny (model prog w) (A.deeper (envOf qual scope L' f cdv)) (leaving (envOf qual scope L' f cdv) e) (fun _ s'' => R (.error e) s'') (fun e' s'' => R (.error e') s'') s')
        { s with heap := h₁, toks := s.toks + (binds D).length })
    (hco : scope.isCoroutine = false) (hgen : scope.isGenerator = false) (hk : scope.kind = .function)
    (hcell : ∀ x ∈ scope.names, x.2 ≠ .cell) : codeAny (model prog w) A (.call (.ref f) args) R s := by
  have X := X₀.keeps F.keep
  refine codeAny_call_function (fd := fnOf name qual params body scope dV kV doc pm an cdv ct) (body := body) hroom (X _ _ ho) rfl hco hgen rfl (codeRec_of X hcd) ?_
  refine peekS (o := ({ cls := .type "tuple", data := .seq vs.toArray } : Obj)) X rfl (r := binds) (fun D g st hsz hD hD0 => ?_) _ g₁ hp hg
  have T' := T.keeps F.keep
  have B1 := pushX B F hf hke
  refine wpAny_newFunctionEnv hcell (hloc D) (fun h₁ hns hsb => ⟨(T'.keeps st).nolimit.fresh _ hsb, codeAny_func ?_⟩) hk
  have hk₁ : ∀ b o, g.get? b = some o → h₁.get? b = some o := fun b o e => hsb.extBut b o (Nat.ne_of_lt (Heap.lt_size e)) (Heap.get?_push_of_some _ e)
  refine h D g.objs.size h₁ ⟨hns, fun b o e => hk₁ b o (st b o e), hsz⟩ (fun p hp => ?_) ⟨hA, B1.stays, B1.frames⟩ X T'
  rw [List.mem_singleton.mp hp]
  exact ⟨hk₁ _ _ hD, Nat.ne_of_lt (Heap.lt_size hD), hD0⟩

theorem fill : PySem.Challenge.rw_pd0108_01 = PySem.Challenge.rw_pd0108_01 ∧ Mine.hd.heap_39 = Mine.hd.heap_39 := by
  k_fill
  exact ⟨rfl, rfl⟩

section
variable {w : World} {dp un : Nat} {gd : Option (List Code)} {cn : Str} {cs : Scope} {a : Addr} {ccd : Value} {cl : List (Str × Addr)} {outer : List Env} {A₀ : Around} {base h₀ : Heap} {L : Addr} {m mg mb : Str → Option Value} {s : Shared} {Q E : Value → Shared → Prop}
  {p : Program} {loose : List Str} {mean : ExcName → Option Value} {news : List (Addr × Obj)}

local macro_rules | `(tactic| walk_at "call builtin:issubclass") => `(tactic| (k_here; (with_reducible show wpAny _ _ (call (Value.builtin _) [Value.type _, Value.ref _]) _ _ _); k_dflt (refine' issub_tup ?k1 ?_; (case k1 => exact News.isTup (by k_asm) (by k_mem)); k_whole)))

theorem fspath_spec {x : Str} {t : Tok} (B : Below A₀ base outer h₀) (F : Fr h₀ L s.heap m) (N : News h₀ L s.heap news) (X : (Mine.hd.heap_39 w.params).In h₀) (T : Top p loose mean mg mb h₀) (hk : cs.kind = .function) (hd : dp + 1 < recursionLimit) (hu : un + 20 < cLine)
    (hret : ∀ t h' tk', s.heap.StaysIn h' → Fr h₀ L h' m → News h₀ L h' news → Q (.str x t) { s with heap := h', toks := tk' }) :
    wpAny (model Challenge.pw_pd0108_01 w) (ktrTop dp un gd cn cs L a ccd cl outer) (call (.ref 94) [.str x t]) Q E s := by
  refine wpAny_call ?_
  refine enterS [(Str.ofString "path", .str x t)] B F X T rfl rfl hk (by k_is) (by k_is) (by ktr_room) (BindsTo.of_eq rfl) (locs rfl) ?_ rfl rfl rfl (by decide)
  intro L' h' F' N' B' X' T'
  k_steps
  all_goals (have st := Fr.keep (h₀ := s.heap) (L := L') (by assumption); exact hret _ _ _ st (fr_up F st) (news_up N st))

theorem getsep_spec {x : Str} {t : Tok} (B : Below A₀ base outer h₀) (F : Fr h₀ L s.heap m) (N : News h₀ L s.heap news) (X : (Mine.hd.heap_39 w.params).In h₀) (T : Top p loose mean mg mb h₀) (hk : cs.kind = .function) (hd : dp + 1 < recursionLimit) (hu : un + 20 < cLine)
    (hret : ∀ t h' tk', s.heap.StaysIn h' → Fr h₀ L h' m → News h₀ L h' news → Q (.str (Str.ofString "/") t) { s with heap := h', toks := tk' }) :
    wpAny (model Challenge.pw_pd0108_01 w) (ktrTop dp un gd cn cs L a ccd cl outer) (call (.ref 108) [.str x t]) Q E s := by
  refine wpAny_call ?_
  refine enterS [(Str.ofString "path", .str x t)] B F X T rfl rfl hk (by k_is) (by k_is) (by ktr_room) (BindsTo.of_eq rfl) (locs rfl) ?_ rfl rfl rfl (by decide)
  intro L' h' F' N' B' X' T'
  k_steps
  all_goals (have st := Fr.keep (h₀ := s.heap) (L := L') (by assumption); exact hret _ _ _ st (fr_up F st) (news_up N st))
end
end Mine

namespace Mine

abbrev S0 : Str := Str.ofString "/"
/-- what dirname gives -/
def dirF (x : Str) : Str :=
  let h := Txt.slice x none (some (Txt.rfind x (Str.ofString "/") + 1))
  if (h.length : Int) ≠ 0 ∧ (h != Txt.mul (Str.ofString "/") (h.length : Int)) = true then Txt.rstripChars h (Str.ofString "/") else h

def tupObj (vs : List Value) : Obj := { cls := .type "tuple", data := .seq vs.toArray }

section
variable {w : World} {dp un : Nat} {gd : Option (List Code)} {cn : Str} {cs : Scope} {a : Addr} {ccd : Value} {cl : List (Str × Addr)} {outer : List Env} {A₀ : Around} {base h₀ : Heap} {L : Addr} {m mg mb : Str → Option Value} {s : Shared} {Q E : Value → Shared → Prop}
  {p : Program} {loose : List Str} {mean : ExcName → Option Value} {news : List (Addr × Obj)}

local macro_rules | `(tactic| walk_at "call ref") => `(tactic| (k_here; (with_reducible show wpAny _ _ (call (Value.ref 94) [Value.str _ _]) _ _ _); k_dflt (refine' fspath_spec ?k1 ?k2 ?k3 ?k4 ?k5 ?k6 ?k7 ?k8 ?_; (case k1 => k_asm); (case k2 => k_asm); (case k3 => k_asm); (case k4 => k_asm); (case k5 => k_asm); (case k6 => first | exact rfl | assumption); (case k7 => ktr_room); (case k8 => ktr_units)); intro t' h' tk' st' F' N'; (try k_sweep)))
local macro_rules | `(tactic| walk_at "call ref") => `(tactic| (k_here; (with_reducible show wpAny _ _ (call (Value.ref 108) [Value.str _ _]) _ _ _); k_dflt (refine' getsep_spec ?k1 ?k2 ?k3 ?k4 ?k5 ?k6 ?k7 ?k8 ?_; (case k1 => k_asm); (case k2 => k_asm); (case k3 => k_asm); (case k4 => k_asm); (case k5 => k_asm); (case k6 => first | exact rfl | assumption); (case k7 => ktr_room); (case k8 => ktr_units)); intro t' h' tk' st' F' N'; (try k_sweep)))

theorem splitroot_spec {x : Str} {t : Tok} (hx : x.length < 1000) (h1 : Txt.slice x none (some 1) = Str.ofString "/") (h2 : Txt.slice x (some 1) (some 2) ≠ Str.ofString "/")
    (B : Below A₀ base outer h₀) (F : Fr h₀ L s.heap m) (N : News h₀ L s.heap news) (X : (Mine.hd.heap_39 w.params).In h₀) (T : Top p loose mean mg mb h₀) (hk : cs.kind = .function) (hd : dp + 2 < recursionLimit) (hu : un + 40 < cLine)
    (hret : ∀ D t1 t2 t3 h' tk', s.heap.StaysIn h' → Fr h₀ L h' m → News h₀ L h' ((D, { cls := .type "tuple", data := .seq #[.str (Str.ofString "") t1, .str (Str.ofString "/") t2, .str (Txt.slice x (some 1) none) t3] }) :: news) → LCg.Off1 D news → Q (.ref D) { s with heap := h', toks := tk' }) :
    wpAny (model Challenge.pw_pd0108_01 w) (ktrTop dp un gd cn cs L a ccd cl outer) (call (.ref 122) [.str x t]) Q E s := by
  refine wpAny_call ?_
  refine enterS [(Str.ofString "p", .str x t)] B F X T rfl rfl hk (by k_is) (by k_is) (by ktr_room) (BindsTo.of_eq rfl) (locs rfl) ?_ rfl rfl rfl (by decide)
  intro L' h' F' N' B' X' T'
  k_steps
  · rename (Txt.slice x none (some 1) != Str.ofString "/") = true => hc
    rw [h1] at hc; exact absurd hc (by decide)
  · rename Fr s.heap L' _ _ => F9
    rename News s.heap L' _ _ => N9
    have st := F9.keep
    have z := news_ret F N st (N9.get List.mem_cons_self) (N9.fresh List.mem_cons_self)
    exact hret _ _ _ _ _ _ st (fr_up F st) z.1 z.2
  · rename Fr s.heap L' _ _ => F9
    rename News s.heap L' _ _ => N9
    have st := F9.keep
    have z := news_ret F N st (N9.get List.mem_cons_self) (N9.fresh List.mem_cons_self)
    exact hret _ _ _ _ _ _ st (fr_up F st) z.1 z.2
  · exfalso
    apply h2
    have hq : (Txt.slice x (some 1) (some 2) != Str.ofString "/") = false := by assumption
    simpa using hq

theorem dirname_spec {x : Str} {t : Tok} (hx : x.length < 1000) (B : Below A₀ base outer h₀) (F : Fr h₀ L s.heap m) (N : News h₀ L s.heap news) (X : (Mine.hd.heap_39 w.params).In h₀) (T : Top p loose mean mg mb h₀) (hk : cs.kind = .function) (hd : dp + 2 < recursionLimit) (hu : un + 40 < cLine)
    (hret : ∀ t h' tk', s.heap.StaysIn h' → Fr h₀ L h' m → News h₀ L h' news → Q (.str (dirF x) t) { s with heap := h', toks := tk' }) :
    wpAny (model Challenge.pw_pd0108_01 w) (ktrTop dp un gd cn cs L a ccd cl outer) (call (.ref 129) [.str x t]) Q E s := by
  unfold dirF at hret
  refine wpAny_call ?_
  refine enterS [(Str.ofString "p", .str x t)] B F X T rfl rfl hk (by k_is) (by k_is) (by ktr_room) (BindsTo.of_eq rfl) (locs rfl) ?_ rfl rfl rfl (by decide)
  intro L' h' F' N' B' X' T'
  k_steps
  · rename Fr s.heap L' _ _ => F9
    have st := F9.keep
    rw [if_pos (by exact ⟨by assumption, by assumption⟩)] at hret
    exact hret _ _ _ st (fr_up F st) (news_up N st)
  · rename Fr s.heap L' _ _ => F9
    have st := F9.keep
    rw [if_neg (by rintro ⟨_, hq⟩; simp_all)] at hret
    exact hret _ _ _ st (fr_up F st) (news_up N st)
  · rename Fr s.heap L' _ _ => F9
    have st := F9.keep
    rw [if_neg (by rintro ⟨hq, _⟩; simp_all)] at hret
    exact hret _ _ _ st (fr_up F st) (news_up N st)

def joinF (x y : Str) : Str := if Txt.endswith x (Str.ofString "/") = true then x ++ y else x ++ (Str.ofString "/" ++ y)

theorem join_spec {x y : Str} {t u : Tok} (hx : x.length < 1000) (hy : y.length < 1000) (hx0 : x.length ≠ 0) (hy0 : Txt.startswith y (Str.ofString "/") = false) (B : Below A₀ base outer h₀) (F : Fr h₀ L s.heap m) (N : News h₀ L s.heap news) (X : (Mine.hd.heap_39 w.params).In h₀) (T : Top p loose mean mg mb h₀) (hk : cs.kind = .function) (hd : dp + 2 < recursionLimit) (hu : un + 40 < cLine)
    (hret : ∀ t h' tk', s.heap.StaysIn h' → Fr h₀ L h' m → News h₀ L h' news → Q (.str (joinF x y) t) { s with heap := h', toks := tk' }) :
    wpAny (model Challenge.pw_pd0108_01 w) (ktrTop dp un gd cn cs L a ccd cl outer) (call (.ref 115) [.str x t, .str y u]) Q E s := by
  unfold joinF at hret
  refine wpAny_call ?_
  refine enterR [.str y u] (fun D => [(Str.ofString "a", .str x t), (Str.ofString "p", .ref D)]) B F X T rfl rfl hk (by k_is) (by k_is) (by ktr_room) rfl (fun _ => rfl) (fun _ => locs rfl) ?_ rfl rfl rfl (by decide)
  intro D' L' h' F' N' B' X' T'
  k_steps
  · rename Fr s.heap L' _ _ => F9
    have st := F9.keep
    rw [if_pos (by assumption)] at hret
    exact hret _ _ _ st (fr_up F st) (news_up N st)
  · rename Fr s.heap L' _ _ => F9
    have st := F9.keep
    rw [if_neg (by rename Txt.endswith x (Str.ofString "/") = false => hc; rw [hc]; decide)] at hret
    exact hret _ _ _ st (fr_up F st) (news_up N st)
  · exfalso
    omega

theorem inst_up {h h' : Heap} {x C : Addr} {ox : Obj} {od : Obj} (I : InstAt h x ox C (some od)) (k : ∀ b o, h.get? b = some o → h'.get? b = some o) : InstAt h' x ox C (some od) := by
  obtain ⟨h1, h2, h3, h4⟩ := I
  refine ⟨k _ _ h1, h2, h3, ?_⟩
  split at h4
  · exact k _ _ h4
  · trivial
  · exact h4.elim

local macro_rules | `(tactic| walk_at "call ref") => `(tactic| (k_here; (with_reducible show wpAny _ _ (call (Value.ref 184) _) _ _ _); k_dflt (refine wpAny_call ?_; refine' code_def ?k1 ?k2 ?k3 ?k4 ?k5 ?kA ?kF ?kK ?k6 ?k7 ?k8 ?k9 ?kB ?_ ?c2 ?c3 ?c4 ?c5; (case kA => exact rfl); (case kF => exact rfl); (case kK => exact rfl); (case k1 => k_asm); (case k2 => k_asm); (case k3 => k_asm); (case k4 => k_asm); (case k5 => k_asm); (case k6 => k_is); (case k7 => k_is); (case k8 => ktr_room); (case k9 => exact BindsTo.of_eq rfl); (case c5 => decide); (case kB => exact locs rfl); (case c2 => exact rfl); (case c3 => exact rfl); (case c4 => exact rfl); k_whole; intro g' L' h' FG' F' N' B' X' T'; (try dsimp only); (try k_lift B'); (try k_fold))))
theorem shaped_h {x : Str} (h : PyData.strOk x = true) : SeqAt.shaped (.tuple [.str (Str.ofString "h"), .str x]) = true := by
  unfold SeqAt.shaped
  have h1 : PyData.strOk (Str.ofString "h") = true := by decide +kernel
  simp [PyData.canLay0, PyData.canLayAll0, h, h1, PyData.depth, PyData.depthAll]
local macro_rules | `(tactic| ke_shaped) => `(tactic| exact shaped_h (by assumption))
local macro_rules | `(tactic| ke_room) => `(tactic| ktr_units)
local macro_rules | `(tactic| k_inst) => `(tactic| (refine' inst_up (by assumption) (Fr.keep (by k_asm))))

/-- what _law_covers gives -/
def covF (x y : Str) : Bool :=
  if (x == y) = true then true
  else if (Txt.slice x (some (-1)) none != Str.ofString "/") = true then Txt.startswith y (x ++ Str.ofString "/") else Txt.startswith y x

theorem covers_spec {mng : Addr} {x y : Str} {t u : Tok} {dx : Addr} {hs : Int} {ptk : Tok} {pv : Value} (hx : x.length < 1000) (hy : y.length < 1000) (hsx : PyData.strOk x = true) (hsy : PyData.strOk y = true) (hI : InstAt s.heap mng (instObj 187 dx) 187 (some (dictOf [⟨hs, .str (Str.ofString "passwd") ptk, pv⟩] 1)))
    (B : Below A₀ base outer h₀) (F : Fr h₀ L s.heap m) (N : News h₀ L s.heap news) (X : (Mine.hd.heap_39 w.params).In h₀) (T : Top p loose mean mg mb h₀) (hk : cs.kind = .function) (hd : dp + 2 < recursionLimit) (hu : un + 200 < cLine)
    (hret : ∀ h' tk', s.heap.StaysIn h' → Fr h₀ L h' m → News h₀ L h' news → Q (.bool (covF x y)) { s with heap := h', toks := tk' }) :
    wpAny (model Challenge.pw_pd0108_01 w) (ktrTop dp un gd cn cs L a ccd cl outer) (call (.ref 226) [.ref mng, .str x t, .str y u]) Q E s := by
  unfold covF at hret
  refine wpAny_call ?_
  refine enterS [(Str.ofString "manager", .ref mng), (Str.ofString "rule", .str x t), (Str.ofString "place", .str y u)] B F X T rfl rfl hk (by k_is) (by k_is) (by ktr_room) (BindsTo.of_eq rfl) (locs rfl) ?_ rfl rfl rfl (by decide)
  intro L' h' F' N' B' X' T'
  k_steps
  · rename Fr s.heap L' _ _ => F9
    have st := F9.keep
    rw [if_pos (by assumption)] at hret
    exact hret _ _ st (fr_up F st) (news_up N st)
  · rename Fr s.heap L' _ _ => F9
    have st := F9.keep
    rw [if_neg (by rename (x == y) = false => hc; rw [hc]; decide)] at hret
    rw [if_pos (by assumption)] at hret
    exact hret _ _ st (fr_up F st) (news_up N st)
  · rename Fr s.heap L' _ _ => F9
    have st := F9.keep
    rw [if_neg (by rename (x == y) = false => hc; rw [hc]; decide)] at hret
    rw [if_neg (by rename (Txt.slice x (some (-1)) none != Str.ofString "/") = false => hc; rw [hc]; decide)] at hret
    exact hret _ _ st (fr_up F st) (news_up N st)
end
end Mine

namespace Mine

theorem strs_get {vs : List Value} {xs : List Str} (h : StrsAre vs xs) : ∀ {i : Nat} {v : Value}, vs[i]? = some v → ∃ c t, xs[i]? = some c ∧ v = .str c t := by
  induction h with
  | nil => intro i v e; simp at e
  | cons y t _ ih =>
    intro i v e
    cases i with
    | zero => exact ⟨y, t, rfl, by simpa using e.symm⟩
    | succ i => exact ih (by simpa using e)

theorem strs_last {vs : List Value} {xs : List Str} (h : StrsAre vs xs) : vs ≠ [] → ∃ t, vs = vs.dropLast ++ [.str (xs.getLastD Str.empty) t] ∧ StrsAre vs.dropLast xs.dropLast := by
  induction h with
  | nil => intro e; exact absurd rfl e
  | cons y t r ih =>
    intro _
    cases r with
    | nil => exact ⟨t, rfl, .nil⟩
    | cons y' t' r' =>
      obtain ⟨u, h1, h2⟩ := ih (by intro e; cases e)
      exact ⟨u, congrArg (List.cons (Value.str y t)) h1, .cons y t h2⟩

theorem item_last {prog : Program} {w : World} {A : Around} {E : Value → Shared → Prop} {s : Shared} {value slice : Expr} {l : Addr} {its : Array Value} {ys : List Str} {u : Tok} {Q : Value → Shared → Prop} (hl : s.heap.IsList l its) (hi : StrsAre its.toList ys)
    (hne : its.isEmpty = false) (h : ∀ t, Q (.str (ys.getLastD Str.empty) t) s)
    (hs : subscripted slice false (.ref l) (.int (-1) u) = operate [.ref l, .int (-1) u] (getItem (.ref l) (.int (-1) u))) (hg : ∀ r, letTemporaryGo value (.ref l) r = pure ()) :
    wpAny (model prog w) A (subscriptTail value slice (.ref l) (.int (-1) u)) Q E s := by
  have hlen := hi.length
  have hpos : 0 < ys.length := by
    rw [← hlen]
    cases q : its.toList with
    | nil => rw [Array.isEmpty_eq_false_iff] at hne; exact absurd (by simpa using q) hne
    | cons => simp
  refine item_strs_neg (vs := its.toList) (ys := ys) hl hi (by decide) (by omega) (by decide) (fun t => ?_) hs hg
  have e : ys.getD ((-1 : Int) + ys.length).toNat Str.empty = ys.getLastD Str.empty := by
    have e1 : ((-1 : Int) + ys.length).toNat = ys.length - 1 := by omega
    rw [e1, List.getD_eq_getElem?_getD, List.getLastD_eq_getLast?, List.getLast?_eq_getElem?]
  rw [e]
  exact h t

theorem pop_strs {prog : Program} {w : World} {A : Around} {E : Value → Shared → Prop} {s : Shared} {h₀ : Heap} {L D : Addr} {m : Str → Option Value} {news news' : List (Addr × Obj)} {n : Nat} {its : Array Value} {ys : List Str} {Q : Value → Shared → Prop}
    (F : Fr h₀ L s.heap m) (N : News h₀ L s.heap news) (U : Upd D (W.listOf its n) (W.listOf its.toList.dropLast.toArray (n + 1)) news news') (hi : StrsAre its.toList ys) (hne : its.isEmpty = false) (hz : its.size ≤ sizeLine)
    (h : ∀ h' t, Fr h₀ L h' m → News h₀ L h' news' → StrsAre its.toList.dropLast ys.dropLast → Q (.str (ys.getLastD Str.empty) t) { s with heap := h' }) : wpAny (model prog w) A (call (.builtin "list.pop") [.ref D]) Q E s := by
  have hne' : its.toList ≠ [] := by
    intro q
    rw [Array.isEmpty_eq_false_iff] at hne
    exact hne (by simpa using q)
  obtain ⟨t, h1, h2⟩ := strs_last hi hne'
  refine kl_pop F N (p := its.toList.dropLast) (y := .str (ys.getLastD Str.empty) t) ?_ U (by simpa using hz) fun h' F' N' => h h' t F' N' h2
  have e := kpa_last (.str (ys.getLastD Str.empty) t) its.toList.dropLast
  rw [← h1] at e
  exact e

/-- the end of such a turn -/
def StrsEnd (h₀ : Heap) (L : Addr) (nc : Addr) (x : Str) (m₀ : Str → Option Value) (I : Addr) (oI : Obj) (l : Addr) (lobj : Obj) (s : Shared) (acc : List Str) (s₂ : Shared) : Prop :=
  ∃ h' tk' m' its' n', s₂ = { s with heap := h', toks := tk' } ∧ Fr h₀ L h' m' ∧ (∀ y, y ≠ x → m' y = m₀ y) ∧ News h₀ L h' [(nc, W.listOf its' n'), (I, oI), (l, lobj)] ∧ StrsAre its'.toList acc

theorem StrsEnd.mk' {h₀ h' : Heap} {L nc : Addr} {x : Str} {m₀ m' : Str → Option Value} {I : Addr} {oI : Obj} {l : Addr} {lobj : Obj} {s : Shared} {acc : List Str} {tk' n' : Nat} {its' : Array Value}
    (F : Fr h₀ L h' m') (hm : ∀ y, y ≠ x → m' y = m₀ y) (N : News h₀ L h' [(nc, W.listOf its' n'), (I, oI), (l, lobj)]) (hs : StrsAre its'.toList acc) : StrsEnd h₀ L nc x m₀ I oI l lobj s acc { s with heap := h', toks := tk' } :=
  ⟨h', tk', m', its', n', rfl, F, hm, N, hs⟩
/-- a for over a list of texts that turns one list of texts -/
theorem iter_strs {prog : Program} {w : World} {A : Around} {E : Value → Shared → Prop} {s : Shared} {env : Env} {h₀ : Heap} {x : Str} {body : List Stmt} {Q : Flow → Shared → Prop}
    {l nc : Addr} {vs : List Value} {xs : List Str} {m₀ : Str → Option Value} {k : Nat} {lobj : Obj} {rest : List (Addr × Obj)} (step : List Str → Str → List Str)
    (hh : A.handled = none) (hl : lobj = { cls := .type "list", data := .seq vs.toArray k }) (hi : StrsAre vs xs) (hne : @Ne Nat nc l)
    (F : Fr h₀ env.locals s.heap m₀) (N : News h₀ env.locals s.heap ((nc, W.listOf #[] 0) :: (l, lobj) :: rest))
    (turn : ∀ c t acc its n I oI h tk, c ∈ xs → StrsAre its.toList acc → acc.length ≤ xs.length → (@Ne Nat nc I) → (@Ne Nat l I) →
      Fr h₀ env.locals h (fun y => if y = x then some (.str c t) else m₀ y) → News h₀ env.locals h [(nc, W.listOf its n), (I, oI), (l, lobj)] →
      wpAny (model prog w) A (execs body env) (fun f s₂ => match f with
        | .ret v => Q (.ret v) s₂ | .brk => Q .next s₂
        | _ => StrsEnd h₀ env.locals nc x m₀ I oI l lobj s (step acc c) s₂) E { s with heap := h, toks := tk })
    (hstep : ∀ acc c, (step acc c).length ≤ acc.length + 1)
    (done : ∀ u its n h tk, StrsAre its.toList (xs.foldl step []) → (xs.foldl step []).length ≤ xs.length → Fr h₀ env.locals h (fun y => if y = x then u else m₀ y) → News h₀ env.locals h [(nc, W.listOf its n), (l, lobj)] → Q .next { s with heap := h, toks := tk }) :
    wpAny (model prog w) A (pyIter (.ref l)) (fun it s₂ => LoopAtV prog w A h₀ env x body Q E it s₂) E s := by
  subst hl
  have N0 := N (l, _) (List.mem_cons_of_mem _ List.mem_cons_self)
  have hlen : ∀ i, i ≤ xs.length → ((xs.take i).foldl step []).length ≤ i := by
    intro i
    induction i with
    | zero => intro _; simp
    | succ i ih =>
      intro hi
      have hlt : i < xs.length := hi
      rw [List.take_add_one, List.getElem?_eq_getElem hlt, List.foldl_append]
      have h1 := ih (Nat.le_of_lt hlt)
      have h2 := hstep ((xs.take i).foldl step []) xs[i]
      simp only [Option.toList_some, List.foldl_cons, List.foldl_nil]
      omega
  have e0 : ∀ m : Str → Option Value, (∀ y, y ≠ x → m y = m₀ y) → m = fun y => if y = x then m x else m₀ y := fun m h => by
    funext y
    by_cases hy : y = x
    · subst hy; simp
    · simp only [if_neg hy]; exact h y hy
  refine iter_L (l := l) (vs := vs) (news := [(nc, W.listOf #[] 0), (l, _)]) (fun i m₁ news₁ => ∃ its n, i ≤ xs.length ∧ (∀ y, y ≠ x → m₁ y = m₀ y) ∧ news₁ = [(nc, W.listOf its n), (l, { cls := .type "list", data := .seq vs.toArray k })] ∧ StrsAre its.toList ((xs.take i).foldl step []))
    hh ⟨_, N0.1, rfl, _, rfl⟩ N0.2.1 F (fun p hp => N p ?_) ⟨#[], 0, Nat.zero_le _, fun _ _ => rfl, rfl, .nil⟩ ?_ ?_
  · rcases List.mem_cons.mp hp with rfl | hp
    · exact List.mem_cons_self
    · rw [List.mem_singleton.mp hp]; exact List.mem_cons_of_mem _ List.mem_cons_self
  · rintro i v m₁ news₁ I oI h tk hv ⟨its, n, hile, hm, rfl, hits⟩ ho hlI hl' F₁ N₁
    obtain ⟨c, t, hc, rfl⟩ := strs_get hi hv
    have hF : (fun y => if y = x then some (Value.str c t) else m₁ y) = fun y => if y = x then some (.str c t) else m₀ y := by
      funext y
      by_cases hy : y = x
      · simp [hy]
      · simp only [if_neg hy]; exact hm y hy
    rw [hF] at F₁
    have hlt : i < xs.length := by
      rcases Nat.lt_or_ge i xs.length with h | h
      · exact h
      · rw [List.getElem?_eq_none h] at hc; cases hc
    have N₂ : News h₀ env.locals h [(nc, W.listOf its n), (I, oI), (l, { cls := .type "list", data := .seq vs.toArray k })] := fun p hp => N₁ p (by
      simp only [List.mem_cons, List.not_mem_nil, or_false] at hp ⊢
      rcases hp with h | h | h
      · exact .inr (.inl h)
      · exact .inl h
      · exact .inr (.inr h))
    refine wpAny_mono (turn c t _ its n I oI h tk (List.mem_of_getElem? hc) hits (Nat.le_trans (hlen i hile) hile) ho.1 hlI F₁ N₂) (fun f s₂ q => ?_) fun _ _ e => e
    have fin : (∃ h' tk' m' its' n', s₂ = { s with heap := h', toks := tk' } ∧ Fr h₀ env.locals h' m' ∧ (∀ y, y ≠ x → m' y = m₀ y) ∧ News h₀ env.locals h' [(nc, W.listOf its' n'), (I, oI), (l, { cls := .type "list", data := .seq vs.toArray k })] ∧ StrsAre its'.toList (step ((xs.take i).foldl step []) c)) →
        TurnTo h₀ env.locals l I oI h s (fun m₁ news₁ => ∃ its n, i + 1 ≤ xs.length ∧ (∀ y, y ≠ x → m₁ y = m₀ y) ∧ news₁ = [(nc, W.listOf its n), (l, { cls := .type "list", data := .seq vs.toArray k })] ∧ StrsAre its.toList ((xs.take (i + 1)).foldl step [])) s₂ := by
      rintro ⟨h', tk', m', its', n', e, F', hm', N', hs'⟩
      refine ⟨h', tk', m', [(nc, W.listOf its' n'), (l, _)], e, F', fun p hp => N' p ?_, ⟨ho.1, hlI, trivial⟩, fun o e => ?_, its', n', hlt, hm', rfl, ?_⟩
      · simp only [List.mem_cons, List.not_mem_nil, or_false] at hp ⊢
        rcases hp with h | h | h
        · exact .inr (.inl h)
        · exact .inl h
        · exact .inr (.inr h)
      · have h1 := (N₂ (l, _) (List.mem_cons_of_mem _ (List.mem_cons_of_mem _ List.mem_cons_self))).1
        have h2 := (N' (l, _) (List.mem_cons_of_mem _ (List.mem_cons_of_mem _ List.mem_cons_self))).1
        rw [e] at h1; cases h1
        exact h2
      · rw [List.take_add_one, hc, List.foldl_append]; exact hs'
    cases f with
    | ret v => exact q
    | brk => exact q
    | next => exact fin q
    | cont => exact fin q
  · rintro m' news' h tk ⟨its, n, _, hm, rfl, hits⟩ F₁ N₁
    have hvl : vs.length = xs.length := hi.length
    rw [hvl, List.take_length] at hits
    rw [e0 m' hm] at F₁
    exact done _ its n h tk hits (by have := hlen xs.length (Nat.le_refl _); rwa [List.take_length] at this) F₁ N₁

section
variable {w : World} {dp un : Nat} {gd : Option (List Code)} {cn : Str} {cs : Scope} {a : Addr} {ccd : Value} {cl : List (Str × Addr)} {outer : List Env} {A₀ : Around} {base h₀ : Heap} {L : Addr} {m mg mb : Str → Option Value} {s : Shared} {Q E : Value → Shared → Prop}
  {p : Program} {loose : List Str} {mean : ExcName → Option Value} {news : List (Addr × Obj)}

local macro_rules | `(tactic| walk_at "call ref") => `(tactic| (k_here; (with_reducible show wpAny _ _ (call (Value.ref 94) [Value.str _ _]) _ _ _); k_dflt (refine' fspath_spec ?k1 ?k2 ?k3 ?k4 ?k5 ?k6 ?k7 ?k8 ?_; (case k1 => k_asm); (case k2 => k_asm); (case k3 => k_asm); (case k4 => k_asm); (case k5 => k_asm); (case k6 => first | exact rfl | assumption); (case k7 => ktr_room); (case k8 => ktr_units)); intro t' h' tk' st' F' N'; (try k_sweep)))
local macro_rules | `(tactic| walk_at "call ref") => `(tactic| (k_here; (with_reducible show wpAny _ _ (call (Value.ref 122) [Value.str _ _]) _ _ _); k_dflt (refine' splitroot_spec ?kx ?ky ?kz ?k1 ?k2 ?k3 ?k4 ?k5 ?k6 ?k7 ?k8 ?_; (case kx => assumption); (case ky => assumption); (case kz => assumption); (case k1 => k_asm); (case k2 => k_asm); (case k3 => k_asm); (case k4 => k_asm); (case k5 => k_asm); (case k6 => first | exact rfl | assumption); (case k7 => ktr_room); (case k8 => ktr_units)); intro D' t1' t2' t3' h' tk' st' F' N' l1'; (try simp only [LCg.Off1, and_true] at l1'); (try k_sweep)))

local macro_rules | `(tactic| walk_at "call builtin:str.join") => `(tactic| (k_here; (with_reducible show wpAny _ _ (call (Value.builtin _) [Value.str _ _, Value.ref _]) _ _ _); k_dflt (refine' join_listW ?k1 ?k2 ?k3 ?k4 ?_; (case k1 => exact News.isList (by k_asm) (by k_mem)); (case k2 => assumption); (case k3 => decide); (case k4 => assumption)); intro t' k'))

local macro_rules | `(tactic| walk_at "subscriptTail") => `(tactic| (k_here; (with_reducible show wpAny _ _ (subscriptTail _ _ (Value.ref _) (Value.int (-1) _)) _ _ _); k_dflt (refine' item_last ?k1 ?k2 ?k3 ?_ ?k5 ?k6; (case k1 => exact News.isList (by k_asm) (by k_mem)); (case k2 => assumption); (case k3 => assumption); (case k5 => with_unfolding_all rfl); (case k6 => (intro _; with_unfolding_all rfl))); intro t'))
local macro_rules | `(tactic| walk_at "call builtin:list.pop") => `(tactic| (k_here; (with_reducible show wpAny _ _ (call (Value.builtin _) [Value.ref _]) _ _ _); k_dflt (refine' pop_strs ?F ?N ?U ?i ?l ?z ?_; (case F => k_asm); (case N => k_asm); (case U => k_upd); (case i => assumption); (case l => assumption); (case z => (rw [PySem.sizeLine_eq]; omega))); intro h' t' F' N' hI'))

/-- one turn of normpath's loop, the slash ahead -/
def normStep (acc : List Str) (c : Str) : List Str :=
  if (c.length : Int) = 0 ∨ (c == Str.ofString ".") = true then acc
  else if (c != Str.ofString "..") = true ∨ (acc.getLastD Str.empty == Str.ofString "..") = true then acc ++ [c] else acc.dropLast
theorem normStep_len (acc : List Str) (c : Str) : (normStep acc c).length ≤ acc.length + 1 := by
  unfold normStep
  split
  · omega
  · split
    · simp
    · simp only [List.length_dropLast]; omega

def normF (x : Str) : List Str := (Txt.split (Txt.slice x (some 1) none) (Str.ofString "/")).foldl normStep []

theorem normpath_spec {x : Str} {t : Tok} (hx : x.length < 1000) (hx0 : x.length ≠ 0) (h1 : Txt.slice x none (some 1) = Str.ofString "/") (h2 : Txt.slice x (some 1) (some 2) ≠ Str.ofString "/") (h3 : (Txt.split (Txt.slice x (some 1) none) (Str.ofString "/")).length < 1000) (h4 : ((normF x).map (·.length)).sum + (normF x).length ≤ 1048576) (h5 : (Txt.join (Str.ofString "/") (normF x)).length < 1000000)
    (B : Below A₀ base outer h₀) (F : Fr h₀ L s.heap m) (N : News h₀ L s.heap news) (X : (Mine.hd.heap_39 w.params).In h₀) (T : Top p loose mean mg mb h₀) (hk : cs.kind = .function) (hd : dp + 4 < recursionLimit) (hu : un + 80 < cLine)
    (hret : ∀ t h' tk', s.heap.StaysIn h' → Fr h₀ L h' m → News h₀ L h' news → Q (.str (Str.ofString "/" ++ Txt.join (Str.ofString "/") (normF x)) t) { s with heap := h', toks := tk' }) :
    wpAny (model Challenge.pw_pd0108_01 w) (ktrTop dp un gd cn cs L a ccd cl outer) (call (.ref 136) [.str x t]) Q E s := by
  refine wpAny_call ?_
  refine enterS [(Str.ofString "path", .str x t)] B F X T rfl rfl hk (by k_is) (by k_is) (by ktr_room) (BindsTo.of_eq rfl) (locs rfl) ?_ rfl rfl rfl (by decide)
  intro L' h' F' N' B' X' T'
  k_steps
  · rename Fr s.heap L' _ _ => F9
    rename News s.heap L' _ _ => N9
    rename StrsAre _ _ => hS
    rename List.map _ _ = Txt.split _ _ => hE
    rename _ ∧ _ => hlt
    rename ∀ (a : Str), a ∈ List.map _ _ → a.length ≤ _ => hB
    have hB2 : (Txt.slice x (some 1) none).length ≤ x.length := by
      exact Txt.slice_le _ _ _
    have hsl : (Str.ofString "/").length = 1 := by decide +kernel
    unfold normF at h4 h5 hret
    rw [← hE] at h3 h4 h5 hret
    refine iter_strs normStep rfl rfl hS (Nat.ne_of_gt hlt.1) F9 N9 ?_ normStep_len ?_
    · intro c t' acc its n I oI h tk hc hits hacc hncI hlI F' N'
      have hcl := hB c hc
      have hcl2 : c.length < 1000 := by omega
      have hsz : its.size = acc.length := by have := hits.length; simpa using this
      have hsz2 : its.size < 1000 := by omega
      replace F' : Fr s.heap L' _ _ := F'
      replace N' : News s.heap L' _ _ := N'
      k_steps
      · rename Fr s.heap L' _ _ => F8
        rename News s.heap L' _ _ => N8
        refine StrsEnd.mk' F8 (fun y hy => if_neg hy) N8 ?_
        rw [normStep, if_pos (Or.inr (by assumption))]; exact hits
      · rename Fr s.heap L' _ _ => F8
        rename News s.heap L' _ _ => N8
        refine StrsEnd.mk' F8 (fun y hy => if_neg hy) N8 ?_
        have hc1 : (c == Str.ofString ".") = false := by assumption
        rw [normStep, if_neg (by rw [hc1]; rintro (q | q); exact absurd q (by assumption); cases q), if_pos (Or.inl (by assumption))]
        exact strsAre_push hits
      · rename Fr s.heap L' _ _ => F8
        rename News s.heap L' _ _ => N8
        refine StrsEnd.mk' F8 (fun y hy => if_neg hy) N8 ?_
        have hc1 : (c == Str.ofString ".") = false := by assumption
        have hc2 : (c != Str.ofString "..") = false := by assumption
        have hc3 : its.isEmpty = true := by assumption
        have hc4 : its = #[] := by simpa using hc3
        subst hc4
        cases hits
        rw [normStep, if_neg (by rw [hc1]; rintro (q | q); exact absurd q (by assumption); cases q), if_neg (by rw [hc2]; rintro (q | q); cases q; exact absurd q (by decide))]
        exact .nil
      · rename Fr s.heap L' _ _ => F8
        rename News s.heap L' _ _ => N8
        refine StrsEnd.mk' F8 (fun y hy => if_neg hy) N8 ?_
        have hc1 : (c == Str.ofString ".") = false := by assumption
        rw [normStep, if_neg (by rw [hc1]; rintro (q | q); exact absurd q (by assumption); cases q), if_pos (Or.inr (by assumption))]
        exact strsAre_push hits
      · rename Fr s.heap L' _ _ => F8
        rename News s.heap L' _ _ => N8
        refine StrsEnd.mk' F8 (fun y hy => if_neg hy) N8 ?_
        have hc1 : (c == Str.ofString ".") = false := by assumption
        have hc2 : (c != Str.ofString "..") = false := by assumption
        have hc3 : (acc.getLastD Str.empty == Str.ofString "..") = false := by assumption
        rw [normStep, if_neg (by rw [hc1]; rintro (q | q); exact absurd q (by assumption); cases q), if_neg (by rw [hc2, hc3]; rintro (q | q) <;> cases q)]
        assumption
      · rename Fr s.heap L' _ _ => F8
        rename News s.heap L' _ _ => N8
        refine StrsEnd.mk' F8 (fun y hy => if_neg hy) N8 ?_
        rw [normStep, if_pos (Or.inl (by assumption))]; exact hits
    · intro u its n h tk hits hlen F' N'
      replace F' : Fr s.heap L' _ _ := F'
      replace N' : News s.heap L' _ _ := N'
      k_steps
      · rename Fr s.heap L' _ _ => F8
        have st := F8.keep
        exact hret _ _ _ st (fr_up F st) (news_up N st)
      · exfalso
        rename _ ∧ _ => hq
        omega
  all_goals (exfalso; omega)
end
end Mine

namespace Mine

def pieceAt (k : Int) : Str := if k = 0 then Str.ofString "a" else if k = 1 then Str.ofString "b" else if k = 2 then Str.ofString ".." else if k = 3 then Str.ofString "a" else if k = 4 then Str.ofString "." else Str.ofString "ab"
def piecesR : Nat → Int → List Str
  | 0, _ => []
  | k + 1, r => pieceAt (Int.fmod r 6) :: piecesR k (Int.fdiv r 6)
/-- what _law_pieces gives -/
def piecesF (n : Int) : List Str := piecesR (Int.fmod n 5).toNat (Int.fmod (Int.fdiv n 5) 1296)
theorem piecesR_length : ∀ k r, (piecesR k r).length = k := by
  intro k
  induction k with
  | zero => intro _; rfl
  | succ k ih => intro r; simp [piecesR, ih]

/-- the end of a turn of _law_pieces -/
def PcEnd (h₀ : Heap) (L : Addr) (pc : Addr) (m₀ : Str → Option Value) (I : Addr) (oI : Obj) (s : Shared) (r : Int) (acc : List Str) (s₂ : Shared) : Prop :=
  ∃ h' tk' m' its' k' tr', s₂ = { s with heap := h', toks := tk' } ∧ Fr h₀ L h' m' ∧ m' (Str.ofString "rest") = some (.int r tr') ∧ (∀ y, y ≠ Str.ofString "rest" → y ≠ Str.ofString "turn" → m' y = m₀ y) ∧ News h₀ L h' [(pc, W.listOf its' k'), (I, oI)] ∧ StrsAre its'.toList acc
theorem PcEnd.mk' {h₀ h' : Heap} {L pc : Addr} {m₀ m' : Str → Option Value} {I : Addr} {oI : Obj} {s : Shared} {acc : List Str} {tk' k' : Nat} {its' : Array Value} {r : Int} {tr' : Tok} {all : List (Addr × Obj)}
    (F : Fr h₀ L h' m') (hr : m' (Str.ofString "rest") = some (.int r tr')) (hm : ∀ y, y ≠ Str.ofString "rest" → y ≠ Str.ofString "turn" → m' y = m₀ y) (N : News h₀ L h' all) (hs : ∀ p ∈ [(pc, W.listOf its' k'), (I, oI)], p ∈ all) (hS : StrsAre its'.toList acc) : PcEnd h₀ L pc m₀ I oI s r acc { s with heap := h', toks := tk' } :=
  ⟨h', tk', m', its', k', tr', rfl, F, hr, hm, fun p hp => N p (hs p hp), hS⟩

theorem iter_pieces {prog : Program} {w : World} {A : Around} {E : Value → Shared → Prop} {s : Shared} {env : Env} {h₀ : Heap} {body : List Stmt} {Q : Flow → Shared → Prop}
    {R pc : Addr} {b : Int} {t₁ t₂ t₃ : Tok} {n : Nat} {robj : Obj} {m₀ : Str → Option Value} {r₀ : Int} {t₀ : Tok}
    (hh : A.handled = none) (hr : IsRange s.heap R 0 b 1 t₁ t₂ t₃) (hsm : Builtin.Range.small 0 b 1 = true) (hn : Builtin.Range.rangeSize 0 b 1 = (n : Int))
    (F : Fr h₀ env.locals s.heap m₀) (N : News h₀ env.locals s.heap [(R, robj), (pc, W.listOf #[] 0)]) (hr0 : m₀ (Str.ofString "rest") = some (.int r₀ t₀))
    (turn : ∀ (i : Nat) r t tr acc its k I oI h tk, i < n → StrsAre its.toList acc → acc.length = i → (@Ne Nat pc I) →
      Fr h₀ env.locals h (fun y => if y = Str.ofString "turn" then some (.int (i : Int) t) else if y = Str.ofString "rest" then some (.int r tr) else m₀ y) → News h₀ env.locals h [(pc, W.listOf its k), (I, oI)] →
      wpAny (model prog w) A (execs body env) (fun f s₂ => match f with
        | .ret v => Q (.ret v) s₂ | .brk => Q .next s₂
        | _ => PcEnd h₀ env.locals pc m₀ I oI s (Int.fdiv r 6) (acc ++ [pieceAt (Int.fmod r 6)]) s₂) E { s with heap := h, toks := tk })
    (done : ∀ m' its k h tk, StrsAre its.toList (piecesR n r₀) → Fr h₀ env.locals h m' → (∀ y, y ≠ Str.ofString "rest" → y ≠ Str.ofString "turn" → m' y = m₀ y) → News h₀ env.locals h [(pc, W.listOf its k)] → Q .next { s with heap := h, toks := tk }) :
    wpAny (model prog w) A (pyIter (.ref R)) (fun it s₂ => LoopAtV prog w A h₀ env (Str.ofString "turn") body Q E it s₂) E s := by
  refine iter_R (news := [(pc, W.listOf #[] 0)]) (fun i m₁ news₁ => ∃ its k acc r tr, i ≤ n ∧ acc.length = i ∧ m₁ (Str.ofString "rest") = some (.int r tr) ∧ (∀ y, y ≠ Str.ofString "rest" → y ≠ Str.ofString "turn" → m₁ y = m₀ y) ∧ news₁ = [(pc, W.listOf its k)] ∧ StrsAre its.toList acc ∧ acc ++ piecesR (n - i) r = piecesR n r₀)
    hh hr hsm hn F (fun p hp => N p (List.mem_cons_of_mem _ hp)) ⟨#[], 0, [], r₀, t₀, Nat.zero_le _, rfl, hr0, fun _ _ _ => rfl, rfl, .nil, rfl⟩ ?_ ?_
  · rintro i t m₁ news₁ I oI h tk hi ⟨its, k, acc, r, tr, hile, hlen, hmr, hm, rfl, hits, hacc⟩ ho F₁ N₁
    have hF : (fun y => if y = Str.ofString "turn" then some (Value.int (i : Int) t) else m₁ y) = fun y => if y = Str.ofString "turn" then some (.int (i : Int) t) else if y = Str.ofString "rest" then some (.int r tr) else m₀ y := by
      funext y
      by_cases hy : y = Str.ofString "turn"
      · simp [hy]
      · simp only [if_neg hy]
        by_cases hz : y = Str.ofString "rest"
        · subst hz; simp [hmr]
        · simp only [if_neg hz]; exact hm y hz hy
    rw [hF] at F₁
    have N₂ : News h₀ env.locals h [(pc, W.listOf its k), (I, oI)] := fun p hp => N₁ p (by
      simp only [List.mem_cons, List.not_mem_nil, or_false] at hp ⊢
      exact hp.symm)
    refine wpAny_mono (turn i r t tr acc its k I oI h tk hi hits hlen ho.1 F₁ N₂) (fun f s₂ q => ?_) fun _ _ e => e
    have fin : PcEnd h₀ env.locals pc m₀ I oI s (Int.fdiv r 6) (acc ++ [pieceAt (Int.fmod r 6)]) s₂ →
        TurnR h₀ env.locals I oI s (fun m₁ news₁ => ∃ its k acc r tr, i + 1 ≤ n ∧ acc.length = i + 1 ∧ m₁ (Str.ofString "rest") = some (.int r tr) ∧ (∀ y, y ≠ Str.ofString "rest" → y ≠ Str.ofString "turn" → m₁ y = m₀ y) ∧ news₁ = [(pc, W.listOf its k)] ∧ StrsAre its.toList acc ∧ acc ++ piecesR (n - (i + 1)) r = piecesR n r₀) s₂ := by
      rintro ⟨h', tk', m', its', k', tr', e, F', hr', hm', N', hs'⟩
      refine ⟨h', tk', m', [(pc, W.listOf its' k')], e, F', fun p hp => N' p ?_, ⟨ho.1, trivial⟩, its', k', _, _, tr', hi, ?_, hr', hm', rfl, hs', ?_⟩
      · simp only [List.mem_cons, List.not_mem_nil, or_false] at hp ⊢
        exact hp.symm
      · simp [hlen]
      · rw [← hacc, show n - i = (n - (i + 1)) + 1 by omega, piecesR]
        simp
    cases f with
    | ret v => exact q
    | brk => exact q
    | next => exact fin q
    | cont => exact fin q
  · rintro m' news' h tk ⟨its, k, acc, r, tr, _, hlen, hmr, hm, rfl, hits, hacc⟩ F₁ N₁
    rw [Nat.sub_self, piecesR, List.append_nil] at hacc
    rw [hacc] at hits
    exact done m' its k h tk hits F₁ hm N₁

section
variable {w : World} {dp un : Nat} {gd : Option (List Code)} {cn : Str} {cs : Scope} {a : Addr} {ccd : Value} {cl : List (Str × Addr)} {outer : List Env} {A₀ : Around} {base h₀ : Heap} {L : Addr} {m mg mb : Str → Option Value} {s : Shared} {Q E : Value → Shared → Prop}
  {p : Program} {loose : List Str} {mean : ExcName → Option Value} {news : List (Addr × Obj)}

local macro_rules | `(tactic| walk_at "call type:range") => `(tactic| (k_here; (with_reducible show wpAny _ _ (call _ [Value.int _ _]) _ _ _); k_dflt (refine' range_K ?F ?N ?_; (case F => k_asm); (case N => k_asm)); intro R' h' t1' t2' tk' F' N' l1' hR'; (try k_lt l1'); (try k_sweep)))

theorem pieces_spec {n : Int} {t : Tok} (B : Below A₀ base outer h₀) (F : Fr h₀ L s.heap m) (N : News h₀ L s.heap news) (X : (Mine.hd.heap_39 w.params).In h₀) (T : Top p loose mean mg mb h₀) (hk : cs.kind = .function) (hd : dp + 4 < recursionLimit) (hu : un + 80 < cLine)
    (hret : ∀ D its k h' tk', s.heap.StaysIn h' → Fr h₀ L h' m → StrsAre its.toList (piecesF n) → News h₀ L h' ((D, W.listOf its k) :: news) → LCg.Off1 D news → Q (.ref D) { s with heap := h', toks := tk' }) :
    wpAny (model Challenge.pw_pd0108_01 w) (ktrTop dp un gd cn cs L a ccd cl outer) (call (.ref 198) [.int n t]) Q E s := by
  refine wpAny_call ?_
  refine enterS [(Str.ofString "number", .int n t)] B F X T rfl rfl hk (by k_is) (by k_is) (by ktr_room) (BindsTo.of_eq rfl) (locs rfl) ?_ rfl rfl rfl (by decide)
  intro L' h' F' N' B' X' T'
  repeat' ((fail_if_success (with_reducible show wpAny _ _ (pyIter _) _ _ _)); first | (k_unfold; (try dsimp only)) | (k_end; wrow_close) | walk1 | (dsimp only; walk1) | (leave1; walk_say "STEP leave1"; try dsimp only) | fail "no step")
  rename Fr s.heap L' _ _ => F9
  rename News s.heap L' _ _ => N9
  rename IsRange _ _ _ _ _ _ _ _ => hR
  have hb : n.fmod 5 = 0 ∨ n.fmod 5 = 1 ∨ n.fmod 5 = 2 ∨ n.fmod 5 = 3 ∨ n.fmod 5 = 4 := by
    have h1 := Int.fmod_nonneg_of_pos n (show (0 : Int) < 5 by decide)
    have h2 := Int.fmod_lt_of_pos n (show (0 : Int) < 5 by decide)
    omega
  have hn5 : (n.fmod 5).toNat < 5 := by omega
  refine iter_pieces (n := (n.fmod 5).toNat) rfl hR (by rcases hb with h | h | h | h | h <;> rw [h] <;> decide) (by rcases hb with h | h | h | h | h <;> rw [h] <;> decide) F9 N9 rfl ?_ ?_
  · intro i r t tr acc its k I oI h tk hi hits hlen hpI F' N'
    have hsz : its.size = acc.length := by have := hits.length; simpa using this
    replace F' : Fr s.heap L' _ _ := F'
    replace N' : News s.heap L' _ _ := N'
    k_steps
    all_goals
      rename Fr s.heap L' _ _ => F8
      rename News s.heap L' _ _ => N8
      rename r.fmod 6 = _ => hr6
      refine PcEnd.mk' F8 rfl ?_ N8 (fun p hp => List.mem_cons_of_mem _ hp) ?_
      · intro y h1 h2
        simp only [if_neg h1, if_neg h2]
      · rw [hr6]
        exact strsAre_push hits
  · intro m' its k h tk hits F' hm N'
    replace F' : Fr s.heap L' _ _ := F'
    replace N' : News s.heap L' _ _ := N'
    have e : m' = fun y => if y = Str.ofString "pieces" then m' (Str.ofString "pieces") else m' y := by
      funext y
      by_cases hy : y = Str.ofString "pieces"
      · subst hy; simp
      · simp [hy]
    rw [hm _ (by decide) (by decide)] at e
    rw [e] at F'
    k_steps
    have st := F'.keep
    have z := news_ret F N st (N'.get List.mem_cons_self) (N'.fresh List.mem_cons_self)
    exact hret _ _ _ _ _ st (fr_up F st) hits z.1 z.2
end
end Mine

namespace Mine
/-- code points parted at one of them: what split gives, quick in the kernel -/
def cut (c : Nat) : List Nat → List (List Nat)
  | [] => [[]]
  | a :: r => match Nat.beq a c with
    | true => [] :: cut c r
    | false => match cut c r with
      | [] => [[a]]
      | p :: q => (a :: p) :: q
theorem cut_free {c : Nat} : ∀ p : List Nat, c ∉ p → cut c p = [p]
  | [], _ => rfl
  | a :: r, h => by
    have h1 : Nat.beq a c = false := by
      cases e : Nat.beq a c with
      | false => rfl
      | true => exact absurd (Nat.eq_of_beq_eq_true e ▸ List.mem_cons_self) h
    unfold cut
    rw [h1, cut_free r fun x => h (List.mem_cons_of_mem _ x)]
theorem cut_app {c : Nat} : ∀ p r : List Nat, c ∉ p → cut c (p ++ c :: r) = p :: cut c r
  | [], r, _ => by
    show (match Nat.beq c c with | true => [] :: cut c r | false => _) = _
    rw [Nat.beq_refl]
  | a :: p, r, h => by
    have h1 : Nat.beq a c = false := by
      cases e : Nat.beq a c with
      | false => rfl
      | true => exact absurd (Nat.eq_of_beq_eq_true e ▸ List.mem_cons_self) h
    show cut c (a :: (p ++ c :: r)) = _
    rw [cut, h1, cut_app p r fun x => h (List.mem_cons_of_mem _ x)]
theorem cut_join {c : Nat} : ∀ L : List Str, L ≠ [] → (∀ p ∈ L, c ∉ p.cps.toList) → cut c (Str.join ⟨#[c]⟩ L).cps.toList = L.map fun p => p.cps.toList
  | [], h, _ => absurd rfl h
  | [x], _, h => cut_free _ (h x List.mem_cons_self)
  | x :: y :: r, _, h => by
    have e : (Str.join ⟨#[c]⟩ (x :: y :: r)).cps.toList = x.cps.toList ++ c :: (Str.join ⟨#[c]⟩ (y :: r)).cps.toList := by
      show (x ++ ⟨#[c]⟩ ++ Str.join ⟨#[c]⟩ (y :: r)).cps.toList = _
      show (x.cps ++ #[c] ++ (Str.join ⟨#[c]⟩ (y :: r)).cps).toList = _
      simp
    rw [e, cut_app _ _ (h x List.mem_cons_self), cut_join (y :: r) (by simp) fun p hp => h p (List.mem_cons_of_mem _ hp)]
    rfl
def cutS (x : Str) : List Str := (cut 47 x.cps.toList).map fun l => ⟨l.toArray⟩
theorem slash_is : Str.ofString "/" = ⟨#[47]⟩ := by decide +kernel
theorem cutS_eq (x : Str) : cutS x = Txt.split x (Str.ofString "/") := by
  rw [slash_is]
  have hne : Txt.split x ⟨#[47]⟩ ≠ [] := by
    intro e
    have := (fact_split x ⟨#[47]⟩).1
    rw [e] at this
    exact absurd this (by decide)
  have h := cut_join _ hne (StrLaws.split_free x 47)
  rw [StrLaws.join_split] at h
  unfold cutS
  rw [h, List.map_map]
  exact List.map_id'' (fun _ => rfl) _
def dotsS (x : Str) : Str := Str.join (Str.ofString "/./") (cutS x)
theorem dotsS_eq (x : Str) : dotsS x = Txt.replace x (Str.ofString "/") (Str.ofString "/./") := by
  unfold dotsS
  rw [cutS_eq, slash_is, StrLaws.replace_one]
end Mine

namespace Mine
def alphaP : List Str := [Str.ofString "a", Str.ofString "b", Str.ofString "..", Str.ofString ".", Str.ofString "ab"]
def listsN (al : List Str) : Nat → List (List Str)
  | 0 => [[]]
  | n + 1 => [] :: (al.flatMap fun c => (listsN al n).map (c :: ·))
theorem mem_listsN {al : List Str} : ∀ (n : Nat) (ps : List Str), ps.length ≤ n → (∀ c ∈ ps, c ∈ al) → ps ∈ listsN al n := by
  intro n
  induction n with
  | zero => intro ps h _; cases ps with | nil => exact List.mem_cons_self | cons => simp at h
  | succ n ih =>
    intro ps h hc
    cases ps with
    | nil => exact List.mem_cons_self
    | cons c r =>
      refine List.mem_cons_of_mem _ (List.mem_flatMap.mpr ⟨c, hc c List.mem_cons_self, List.mem_map.mpr ⟨r, ih r ?_ fun d hd => hc d (List.mem_cons_of_mem _ hd), rfl⟩⟩)
      simp at h; omega
/-- pieces as the law makes them -/
def OkP (ps : List Str) : Prop := ps.length ≤ 4 ∧ ∀ c ∈ ps, c ∈ alphaP

def namesStep (acc : List Str) (c : Str) : List Str := if (c == Str.ofString "..") = true then acc.dropLast else if (c != Str.ofString ".") = true then acc ++ [c] else acc
def namesF (ps : List Str) : List Str := ps.foldl namesStep []
def render (ns : List Str) : Str := Str.ofString "/" ++ Txt.join (Str.ofString "/") ns
def pathF (ps : List Str) : Str := ps.foldl joinF (Str.ofString "/")
def normQ (x : Str) : List Str := (cutS (Txt.slice x (some 1) none)).foldl normStep []
theorem normQ_eq (x : Str) : normQ x = normF x := by unfold normQ normF; rw [cutS_eq]
def chk (ps : List Str) : Bool :=
  let x := pathF ps
  decide (x.length < 900) && decide (x.length ≠ 0) && (Txt.slice x none (some 1) == Str.ofString "/") && (Txt.slice x (some 1) (some 2) != Str.ofString "/")
   && decide ((cutS (Txt.slice x (some 1) none)).length < 1000) && (normQ x == namesF ps)
   && decide (((normQ x).map (·.length)).sum + (normQ x).length ≤ 1048576) && decide ((Txt.join (Str.ofString "/") (normQ x)).length < 1000)
/-- a check of all short lists, parted by the first two words: each part is a small check of the kernel -/
theorem all_two {al : List Str} {f : List Str → Bool} (h0 : (listsN al 1).all f = true) (h2 : ∀ c ∈ al, ∀ d ∈ al, ((listsN al 2).map fun r => c :: d :: r).all f = true) {ps : List Str} (hl : ps.length ≤ 4) (hc : ∀ c ∈ ps, c ∈ al) : f ps = true := by
  rcases ps with _ | ⟨c, _ | ⟨d, r⟩⟩
  · exact List.all_eq_true.mp h0 _ List.mem_cons_self
  · exact List.all_eq_true.mp h0 _ (mem_listsN 1 [c] (Nat.le_refl 1) hc)
  · refine List.all_eq_true.mp (h2 c (hc c List.mem_cons_self) d (hc d (List.mem_cons_of_mem _ List.mem_cons_self))) _ (List.mem_map.mpr ⟨r, mem_listsN 2 r ?_ fun x hx => hc x (List.mem_cons_of_mem _ (List.mem_cons_of_mem _ hx)), rfl⟩)
    simp only [List.length_cons] at hl
    omega
theorem chk_short : (listsN alphaP 1).all chk = true := by decide +kernel
theorem chk_two : ∀ c ∈ alphaP, ∀ d ∈ alphaP, ((listsN alphaP 2).map fun r => c :: d :: r).all chk = true := by
  intro c hc d hd
  simp only [alphaP, List.mem_cons, List.not_mem_nil, or_false] at hc hd
  rcases hc with rfl | rfl | rfl | rfl | rfl <;> rcases hd with rfl | rfl | rfl | rfl | rfl <;> decide +kernel
theorem chk_all {ps : List Str} (h : OkP ps) : chk ps = true := all_two chk_short chk_two h.1 h.2
structure PathOk (ps : List Str) : Prop where
  len : (pathF ps).length < 900
  pos : (pathF ps).length ≠ 0
  s1 : Txt.slice (pathF ps) none (some 1) = Str.ofString "/"
  s2 : Txt.slice (pathF ps) (some 1) (some 2) ≠ Str.ofString "/"
  sp : (Txt.split (Txt.slice (pathF ps) (some 1) none) (Str.ofString "/")).length < 1000
  nm : normF (pathF ps) = namesF ps
  sm : ((normF (pathF ps)).map (·.length)).sum + (normF (pathF ps)).length ≤ 1048576
  jl : (Txt.join (Str.ofString "/") (normF (pathF ps))).length < 1000
theorem path_ok {ps : List Str} (h : OkP ps) : PathOk ps := by
  have := chk_all h
  simp only [chk, cutS_eq, normQ_eq, Bool.and_eq_true, decide_eq_true_eq, beq_iff_eq, bne_iff_ne] at this
  obtain ⟨⟨⟨⟨⟨⟨⟨h1, h2⟩, h3⟩, h4⟩, h5⟩, h6⟩, h7⟩, h8⟩ := this
  exact ⟨h1, h2, h3, h4, h5, h6, h7, h8⟩
theorem okP_take {ps : List Str} (h : OkP ps) (i : Nat) : OkP (ps.take i) := ⟨Nat.le_trans (by simp; omega) h.1, fun c hc => h.2 c (List.mem_of_mem_take hc)⟩
theorem piece_ok {c : Str} (h : c ∈ alphaP) : c.length < 10 ∧ Txt.startswith c (Str.ofString "/") = false := by
  have : alphaP.all (fun c => decide (c.length < 10) && !Txt.startswith c (Str.ofString "/")) = true := by decide +kernel
  have := List.all_eq_true.mp this c h
  simpa using this

end Mine

namespace Mine

/-- the end of a turn that stores one text -/
def FoldEnd (h₀ : Heap) (L : Addr) (x v : Str) (m₀ : Str → Option Value) (I : Addr) (oI : Obj) (s : Shared) (acc : Str) (s₂ : Shared) : Prop :=
  ∃ h' tk' m' tr', s₂ = { s with heap := h', toks := tk' } ∧ Fr h₀ L h' m' ∧ m' v = some (.str acc tr') ∧ (∀ y, y ≠ v → y ≠ x → m' y = m₀ y) ∧ News h₀ L h' [(I, oI)]
theorem FoldEnd.mk' {h₀ h' : Heap} {L : Addr} {x v : Str} {m₀ m' : Str → Option Value} {I : Addr} {oI : Obj} {s : Shared} {acc : Str} {tk' : Nat} {tr' : Tok} {all : List (Addr × Obj)}
    (F : Fr h₀ L h' m') (hr : m' v = some (.str acc tr')) (hm : ∀ y, y ≠ v → y ≠ x → m' y = m₀ y) (N : News h₀ L h' all) (hs : (I, oI) ∈ all) : FoldEnd h₀ L x v m₀ I oI s acc { s with heap := h', toks := tk' } :=
  ⟨h', tk', m', tr', rfl, F, hr, hm, fun p hp => N p (by rw [List.mem_singleton.mp hp]; exact hs)⟩

theorem iter_fold {prog : Program} {w : World} {A : Around} {E : Value → Shared → Prop} {s : Shared} {env : Env} {h₀ : Heap} {body : List Stmt} {Q : Flow → Shared → Prop}
    {l : Addr} {vs : List Value} {xs : List Str} {m₀ : Str → Option Value} {x v : Str} {a₀ : Str} {t₀ : Tok} (step : Str → Str → Str)
    (hh : A.handled = none) (hl : h₀.IsList l vs.toArray) (hi : StrsAre vs xs) (hxv : v ≠ x)
    (F : Fr h₀ env.locals s.heap m₀) (hr0 : m₀ v = some (.str a₀ t₀))
    (turn : ∀ (i : Nat) c t acc ta I oI h tk, i < xs.length → c ∈ xs → acc = (xs.take i).foldl step a₀ →
      Fr h₀ env.locals h (fun y => if y = x then some (.str c t) else if y = v then some (.str acc ta) else m₀ y) → News h₀ env.locals h [(I, oI)] →
      wpAny (model prog w) A (execs body env) (fun f s₂ => match f with
        | .ret v => Q (.ret v) s₂ | .brk => Q .next s₂
        | _ => FoldEnd h₀ env.locals x v m₀ I oI s (step acc c) s₂) E { s with heap := h, toks := tk })
    (done : ∀ t u h tk, Fr h₀ env.locals h (fun y => if y = v then some (.str (xs.foldl step a₀) t) else if y = x then u else m₀ y) → News h₀ env.locals h [] → Q .next { s with heap := h, toks := tk }) :
    wpAny (model prog w) A (pyIter (.ref l)) (fun it s₂ => LoopAtV prog w A h₀ env x body Q E it s₂) E s := by
  obtain ⟨ol, hol, hol2⟩ := id hl
  have hlL : l ≠ env.locals := fun e => absurd (Nat.lt_of_lt_of_le (Heap.lt_size hol) F.above) (e ▸ Nat.lt_irrefl _)
  refine iter_L (l := l) (vs := vs) (news := []) (fun i m₁ news₁ => i ≤ xs.length ∧ (∃ tr, m₁ v = some (.str ((xs.take i).foldl step a₀) tr)) ∧ (∀ y, y ≠ v → y ≠ x → m₁ y = m₀ y) ∧ news₁ = [])
    hh ⟨ol, F.keep _ _ hol, hol2⟩ hlL F News.nil ⟨Nat.zero_le _, ⟨t₀, hr0⟩, fun _ _ _ => rfl, rfl⟩ ?_ ?_
  · rintro i v' m₁ news₁ I oI h tk hv ⟨hile, ⟨tr, hmr⟩, hm, rfl⟩ ho hlI hl' F₁ N₁
    obtain ⟨c, t, hc, rfl⟩ := strs_get hi hv
    have hF : (fun y => if y = x then some (Value.str c t) else m₁ y) = fun y => if y = x then some (.str c t) else if y = v then some (.str ((xs.take i).foldl step a₀) tr) else m₀ y := by
      funext y
      by_cases hy : y = x
      · simp [hy]
      · simp only [if_neg hy]
        by_cases hz : y = v
        · subst hz; simp [hmr]
        · simp only [if_neg hz]; exact hm y hz hy
    rw [hF] at F₁
    have hlt : i < xs.length := by
      rcases Nat.lt_or_ge i xs.length with h | h
      · exact h
      · rw [List.getElem?_eq_none h] at hc; cases hc
    refine wpAny_mono (turn i c t _ tr I oI h tk hlt (List.mem_of_getElem? hc) rfl F₁ N₁) (fun f s₂ q => ?_) fun _ _ e => e
    have fin : FoldEnd h₀ env.locals x v m₀ I oI s (step ((xs.take i).foldl step a₀) c) s₂ →
        TurnTo h₀ env.locals l I oI h s (fun m₁ news₁ => i + 1 ≤ xs.length ∧ (∃ tr, m₁ v = some (.str ((xs.take (i + 1)).foldl step a₀) tr)) ∧ (∀ y, y ≠ v → y ≠ x → m₁ y = m₀ y) ∧ news₁ = []) s₂ := by
      rintro ⟨h', tk', m', tr', e, F', hr', hm', N'⟩
      refine ⟨h', tk', m', [], e, F', N', trivial, fun o e => ?_, hlt, ⟨tr', ?_⟩, hm', rfl⟩
      · have h1 := F₁.keep _ _ hol
        rw [e] at h1; cases h1
        exact F'.keep _ _ hol
      · rw [List.take_add_one, hc, List.foldl_append]; exact hr'
    cases f with
    | ret v => exact q
    | brk => exact q
    | next => exact fin q
    | cont => exact fin q
  · rintro m' news' h tk ⟨_, ⟨tr, hmr⟩, hm, rfl⟩ F₁ N₁
    have hvl : vs.length = xs.length := hi.length
    rw [hvl, List.take_length] at hmr
    have e : m' = fun y => if y = v then some (.str (xs.foldl step a₀) tr) else if y = x then m' x else m₀ y := by
      funext y
      by_cases hy : y = v
      · simp [hy, hmr]
      · simp only [if_neg hy]
        by_cases hz : y = x
        · subst hz; simp
        · simp only [if_neg hz]; exact hm y hy hz
    rw [e] at F₁
    exact done tr _ h tk F₁ N₁

section
variable {w : World} {dp un : Nat} {gd : Option (List Code)} {cn : Str} {cs : Scope} {a : Addr} {ccd : Value} {cl : List (Str × Addr)} {outer : List Env} {A₀ : Around} {base h₀ : Heap} {L : Addr} {m mg mb : Str → Option Value} {s : Shared} {Q E : Value → Shared → Prop}
  {p : Program} {loose : List Str} {mean : ExcName → Option Value} {news : List (Addr × Obj)}

local macro_rules | `(tactic| walk_at "call ref") => `(tactic| (k_here; (with_reducible show wpAny _ _ (call (Value.ref 115) [Value.str _ _, Value.str _ _]) _ _ _); k_dflt (refine' join_spec ?ka ?kb ?kc ?kd ?k1 ?k2 ?k3 ?k4 ?k5 ?k6 ?k7 ?k8 ?_; (case ka => assumption); (case kb => assumption); (case kc => assumption); (case kd => assumption); (case k1 => k_asm); (case k2 => k_asm); (case k3 => k_asm); (case k4 => k_asm); (case k5 => k_asm); (case k6 => first | exact rfl | assumption); (case k7 => ktr_room); (case k8 => ktr_units)); intro t' h' tk' st' F' N'; (try k_sweep)))
local macro_rules | `(tactic| walk_at "call ref") => `(tactic| (k_here; (with_reducible show wpAny _ _ (call (Value.ref 136) [Value.str _ _]) _ _ _); k_dflt (refine' normpath_spec ?ka ?kb ?kc ?kd ?ke ?kf ?kg ?k1 ?k2 ?k3 ?k4 ?k5 ?k6 ?k7 ?k8 ?_; (case ka => assumption); (case kb => assumption); (case kc => assumption); (case kd => assumption); (case ke => assumption); (case kf => assumption); (case kg => assumption); (case k1 => k_asm); (case k2 => k_asm); (case k3 => k_asm); (case k4 => k_asm); (case k5 => k_asm); (case k6 => first | exact rfl | assumption); (case k7 => ktr_room); (case k8 => ktr_units)); intro t' h' tk' st' F' N'; (try k_sweep)))

theorem place_spec {l : Addr} {its : Array Value} {ps : List Str} (hl : s.heap.IsList l its) (hS : StrsAre its.toList ps) (hok : OkP ps)
    (B : Below A₀ base outer h₀) (F : Fr h₀ L s.heap m) (N : News h₀ L s.heap news) (X : (Mine.hd.heap_39 w.params).In h₀) (T : Top p loose mean mg mb h₀) (hk : cs.kind = .function) (hd : dp + 6 < recursionLimit) (hu : un + 120 < cLine)
    (hret : ∀ t h' tk', s.heap.StaysIn h' → Fr h₀ L h' m → News h₀ L h' news → Q (.str (render (namesF ps)) t) { s with heap := h', toks := tk' }) :
    wpAny (model Challenge.pw_pd0108_01 w) (ktrTop dp un gd cn cs L a ccd cl outer) (call (.ref 205) [.ref l]) Q E s := by
  have hSh := PySem.Flt.Hid.mk hS
  clear hS
  refine wpAny_call ?_
  refine enterS [(Str.ofString "pieces", .ref l)] B F X T rfl rfl hk (by k_is) (by k_is) (by ktr_room) (BindsTo.of_eq rfl) (locs rfl) ?_ rfl rfl rfl (by decide)
  intro L' h' F' N' B' X' T'
  repeat' ((fail_if_success (with_reducible show wpAny _ _ (pyIter _) _ _ _)); first | (k_unfold; (try dsimp only)) | (k_end; wrow_close) | walk1 | (dsimp only; walk1) | (leave1; walk_say "STEP leave1"; try dsimp only) | fail "no step")
  refine For_invV s.heap rfl rfl ?_ (by intro _; rfl) (by passes_own)
  repeat' ((fail_if_success (with_reducible show wpAny _ _ (pyIter _) _ _ _)); first | (k_unfold; (try dsimp only)) | (k_end; wrow_close) | walk1 | (dsimp only; walk1) | (leave1; walk_say "STEP leave1"; try dsimp only) | fail "no step")
  rename Fr s.heap L' _ _ => F9
  refine iter_fold (v := Str.ofString "path") (vs := its.toList) joinF rfl hl hSh.out (by decide) F9 rfl ?_ ?_
  · intro i c t acc ta I oI h tk hi hc hacc F' N'
    replace F' : Fr s.heap L' _ _ := F'
    replace N' : News s.heap L' _ _ := N'
    have P := path_ok (okP_take hok i)
    have hacc' : acc = pathF (ps.take i) := hacc
    have hp := piece_ok (hok.2 c hc)
    have h1 : acc.length < 1000 := by have := P.len; rw [← hacc'] at this; omega
    have h2 : acc.length ≠ 0 := by have := P.pos; rw [← hacc'] at this; exact this
    have h3 : c.length < 1000 := by omega
    have h4 := hp.2
    k_steps
    rename Fr s.heap L' _ _ => F8
    rename News s.heap L' _ _ => N8
    refine FoldEnd.mk' F8 rfl ?_ N8 List.mem_cons_self
    intro y h1 h2
    simp only [if_neg h1, if_neg h2]
  · intro t u h tk F' N'
    replace F' : Fr s.heap L' _ _ := F'
    replace N' : News s.heap L' _ _ := N'
    have P := path_ok hok
    have e : ps.foldl joinF (Str.ofString "/") = pathF ps := rfl
    rw [e] at F'
    have h1 : (pathF ps).length < 1000 := by have := P.len; omega
    have h2 := P.pos
    have h3 := P.s1
    have h4 := P.s2
    have h5 := P.sp
    have h6 := P.sm
    have h7 : (Txt.join (Str.ofString "/") (normF (pathF ps))).length < 1000000 := by have := P.jl; omega
    k_steps
    rename Fr s.heap L' _ _ => F8
    have st := F8.keep
    rw [P.nm]
    exact hret _ _ _ st (fr_up F st) (news_up N st)
end
end Mine

namespace Mine

theorem add_K {prog : Program} {w : World} {A : Around} {E : Value → Shared → Prop} {s : Shared} {h₀ : Heap} {L : Addr} {m : Str → Option Value} {news : List (Addr × Obj)} {l b : Addr} {its its2 : Array Value} {Q : Value → Shared → Prop} (F : Fr h₀ L s.heap m) (N : News h₀ L s.heap news) (hl : s.heap.IsList l its) (hb : s.heap.IsList b its2)
    (h : ∀ D h', Fr h₀ L h' m → News h₀ L h' ((D, W.listOf (its.toList ++ its2.toList).toArray 0) :: news) → (∀ p ∈ news, p.1 < D) → Q (.ref D) { s with heap := h' })
    (hsz : its.size + its2.size ≤ sizeLine) : wpAny (model prog w) A (binaryOp .Add (.ref l) (.ref b)) Q E s :=
  add_arrays F N hl hb (fun h' F' N' => h _ h' F' N' fun p hp => Heap.lt_size (N p hp).1) hsz

theorem pick_dropLast (its : Array Value) : slicePick its none (some (-1)) none = its.toList.dropLast.toArray := by
  have e : sliceBounds none (some (-1)) none its.size = (((0 : Nat) : Int), ((its.size - 1 : Nat) : Int), 1) := by
    simp only [sliceBounds, Option.getD_none, show (1 : Int) > 0 by decide, if_true, show (-1 : Int) < 0 by decide]
    congr 1
    congr 1
    omega
  rw [kmk_pick_nat _ e, List.drop_zero, Nat.sub_zero, List.dropLast_eq_take, Array.length_toList]
theorem strs_dropLast {vs : List Value} {xs : List Str} (h : StrsAre vs xs) : StrsAre vs.dropLast xs.dropLast := by
  by_cases e : vs = []
  · subst e; cases h; exact .nil
  · obtain ⟨t, _, h2⟩ := strs_last h e
    exact h2
theorem strs_append {vs ws : List Value} {xs ys : List Str} (h : StrsAre vs xs) (h' : StrsAre ws ys) : StrsAre (vs ++ ws) (xs ++ ys) := strsAre_append h h'

/-- the end of a turn that stores a new list of texts -/
def NewEnd (h₀ : Heap) (L : Addr) (x v : Str) (m₀ : Str → Option Value) (I : Addr) (oI : Obj) (s : Shared) (acc : List Str) (s₂ : Shared) : Prop :=
  ∃ h' tk' m' a its k, s₂ = { s with heap := h', toks := tk' } ∧ Fr h₀ L h' m' ∧ m' v = some (.ref a) ∧ (∀ y, y ≠ v → y ≠ x → m' y = m₀ y) ∧ News h₀ L h' [(a, W.listOf its k), (I, oI)] ∧ (@Ne Nat a I) ∧ StrsAre its.toList acc
theorem NewEnd.mk' {h₀ h' : Heap} {L : Addr} {x v : Str} {m₀ m' : Str → Option Value} {I : Addr} {oI : Obj} {s : Shared} {acc : List Str} {tk' : Nat} {all : List (Addr × Obj)} {a : Addr} {its : Array Value} {k : Nat}
    (F : Fr h₀ L h' m') (hr : m' v = some (.ref a)) (hm : ∀ y, y ≠ v → y ≠ x → m' y = m₀ y) (N : News h₀ L h' all) (h1 : (a, W.listOf its k) ∈ all) (h2 : (I, oI) ∈ all) (hne : @Ne Nat a I) (hS : StrsAre its.toList acc) : NewEnd h₀ L x v m₀ I oI s acc { s with heap := h', toks := tk' } :=
  ⟨h', tk', m', a, its, k, rfl, F, hr, hm, fun p hp => N p (by
    simp only [List.mem_cons, List.not_mem_nil, or_false] at hp
    rcases hp with e | e
    · rw [e]; exact h1
    · rw [e]; exact h2), hne, hS⟩

theorem iter_new {prog : Program} {w : World} {A : Around} {E : Value → Shared → Prop} {s : Shared} {env : Env} {h₀ : Heap} {body : List Stmt} {Q : Flow → Shared → Prop}
    {l : Addr} {vs : List Value} {xs : List Str} {m₀ : Str → Option Value} {x v : Str} {a₀ : Addr} {its₀ : Array Value} {k₀ : Nat} {acc₀ : List Str} {rest : List (Addr × Obj)} (step : List Str → Str → List Str)
    (hh : A.handled = none) (hl : h₀.IsList l vs.toArray) (hi : StrsAre vs xs) (hxv : v ≠ x)
    (F : Fr h₀ env.locals s.heap m₀) (N : News h₀ env.locals s.heap ((a₀, W.listOf its₀ k₀) :: rest)) (hr0 : m₀ v = some (.ref a₀)) (hS0 : StrsAre its₀.toList acc₀)
    (turn : ∀ (i : Nat) c t acc a its k I oI h tk, i < xs.length → c ∈ xs → acc = (xs.take i).foldl step acc₀ → StrsAre its.toList acc → (@Ne Nat a I) →
      Fr h₀ env.locals h (fun y => if y = x then some (.str c t) else if y = v then some (.ref a) else m₀ y) → News h₀ env.locals h [(a, W.listOf its k), (I, oI)] →
      wpAny (model prog w) A (execs body env) (fun f s₂ => match f with
        | .ret v => Q (.ret v) s₂ | .brk => Q .next s₂
        | _ => NewEnd h₀ env.locals x v m₀ I oI s (step acc c) s₂) E { s with heap := h, toks := tk })
    (done : ∀ a its k u h tk, StrsAre its.toList (xs.foldl step acc₀) → Fr h₀ env.locals h (fun y => if y = v then some (.ref a) else if y = x then u else m₀ y) → News h₀ env.locals h [(a, W.listOf its k)] → Q .next { s with heap := h, toks := tk }) :
    wpAny (model prog w) A (pyIter (.ref l)) (fun it s₂ => LoopAtV prog w A h₀ env x body Q E it s₂) E s := by
  obtain ⟨ol, hol, hol2⟩ := id hl
  have hlL : l ≠ env.locals := fun e => absurd (Nat.lt_of_lt_of_le (Heap.lt_size hol) F.above) (e ▸ Nat.lt_irrefl _)
  refine iter_L (l := l) (vs := vs) (news := [(a₀, W.listOf its₀ k₀)]) (fun i m₁ news₁ => i ≤ xs.length ∧ (∀ y, y ≠ v → y ≠ x → m₁ y = m₀ y) ∧ ∃ a its k, m₁ v = some (.ref a) ∧ news₁ = [(a, W.listOf its k)] ∧ StrsAre its.toList ((xs.take i).foldl step acc₀))
    hh ⟨ol, F.keep _ _ hol, hol2⟩ hlL F (fun p hp => N p (by rw [List.mem_singleton.mp hp]; exact List.mem_cons_self)) ⟨Nat.zero_le _, fun _ _ _ => rfl, a₀, its₀, k₀, hr0, rfl, hS0⟩ ?_ ?_
  · rintro i v' m₁ news₁ I oI h tk hv ⟨hile, hm, a, its, k, hmr, rfl, hits⟩ ho hlI hl' F₁ N₁
    obtain ⟨c, t, hc, rfl⟩ := strs_get hi hv
    have hF : (fun y => if y = x then some (Value.str c t) else m₁ y) = fun y => if y = x then some (.str c t) else if y = v then some (.ref a) else m₀ y := by
      funext y
      by_cases hy : y = x
      · simp [hy]
      · simp only [if_neg hy]
        by_cases hz : y = v
        · subst hz; simp [hmr]
        · simp only [if_neg hz]; exact hm y hz hy
    rw [hF] at F₁
    have hlt : i < xs.length := by
      rcases Nat.lt_or_ge i xs.length with h | h
      · exact h
      · rw [List.getElem?_eq_none h] at hc; cases hc
    have N₂ : News h₀ env.locals h [(a, W.listOf its k), (I, oI)] := fun p hp => N₁ p (by
      simp only [List.mem_cons, List.not_mem_nil, or_false] at hp ⊢
      exact hp.symm)
    refine wpAny_mono (turn i c t _ a its k I oI h tk hlt (List.mem_of_getElem? hc) rfl hits ho.1 F₁ N₂) (fun f s₂ q => ?_) fun _ _ e => e
    have fin : NewEnd h₀ env.locals x v m₀ I oI s (step ((xs.take i).foldl step acc₀) c) s₂ →
        TurnTo h₀ env.locals l I oI h s (fun m₁ news₁ => i + 1 ≤ xs.length ∧ (∀ y, y ≠ v → y ≠ x → m₁ y = m₀ y) ∧ ∃ a its k, m₁ v = some (.ref a) ∧ news₁ = [(a, W.listOf its k)] ∧ StrsAre its.toList ((xs.take (i + 1)).foldl step acc₀)) s₂ := by
      rintro ⟨h', tk', m', a', its', k', e, F', hr', hm', N', hne, hS'⟩
      refine ⟨h', tk', m', [(a', W.listOf its' k')], e, F', fun p hp => N' p ?_, ⟨hne, trivial⟩, fun o e => ?_, hlt, hm', a', its', k', hr', rfl, ?_⟩
      · simp only [List.mem_cons, List.not_mem_nil, or_false] at hp ⊢
        exact hp.symm
      · have h1 := F₁.keep _ _ hol
        rw [e] at h1; cases h1
        exact F'.keep _ _ hol
      · rw [List.take_add_one, hc, List.foldl_append]; exact hS'
    cases f with
    | ret v => exact q
    | brk => exact q
    | next => exact fin q
    | cont => exact fin q
  · rintro m' news' h tk ⟨_, hm, a, its, k, hmr, rfl, hits⟩ F₁ N₁
    have hvl : vs.length = xs.length := hi.length
    rw [hvl, List.take_length] at hits
    have e : m' = fun y => if y = v then some (.ref a) else if y = x then m' x else m₀ y := by
      funext y
      by_cases hy : y = v
      · simp [hy, hmr]
      · simp only [if_neg hy]
        by_cases hz : y = x
        · subst hz; simp
        · simp only [if_neg hz]; exact hm y hy hz
    rw [e] at F₁
    exact done a its k _ h tk hits F₁ N₁

section
variable {w : World} {dp un : Nat} {gd : Option (List Code)} {cn : Str} {cs : Scope} {a : Addr} {ccd : Value} {cl : List (Str × Addr)} {outer : List Env} {A₀ : Around} {base h₀ : Heap} {L : Addr} {m mg mb : Str → Option Value} {s : Shared} {Q E : Value → Shared → Prop}
  {p : Program} {loose : List Str} {mean : ExcName → Option Value} {news : List (Addr × Obj)}

local macro_rules | `(tactic| walk_at "subscriptTail") => `(tactic| (k_here; (with_reducible show wpAny _ _ (subscriptTail _ (Expr.Slice _ _ none _) (Value.ref _) (Value.ref _)) _ _ _); k_dflt (refine' kmk_slice ?F ?N ?l ?pl ?pu ?_ ?hs ?ht ?z; (case F => k_asm); (case N => k_asm); (case l => exact News.isList (by k_asm) (by k_mem)); (case pl => first | exact IsPart.none | exact IsPart.int _ _); (case pu => first | exact IsPart.none | exact IsPart.int _ _); (case hs => with_unfolding_all rfl); (case ht => (intro _; with_unfolding_all rfl)); (case z => (rw [PySem.sizeLine_eq]; omega))); intro D' h' F' N' l1'; (try k_lt l1')))
local macro_rules | `(tactic| walk_at "subscriptTail Name Slice ref ref") => `(tactic| (k_here; (with_reducible show wpAny _ _ (subscriptTail _ (Expr.Slice _ _ none _) (Value.ref _) (Value.ref _)) _ _ _); k_dflt (refine' kmk_slice ?F ?N ?l ?pl ?pu ?_ ?hs ?ht ?z; (case F => k_asm); (case N => k_asm); (case l => exact News.isList (by k_asm) (by k_mem)); (case pl => first | exact IsPart.none | exact IsPart.int _ _); (case pu => first | exact IsPart.none | exact IsPart.int _ _); (case hs => with_unfolding_all rfl); (case ht => (intro _; with_unfolding_all rfl)); (case z => (rw [PySem.sizeLine_eq]; omega))); intro D' h' F' N' l1'; (try k_lt l1')))
local macro_rules | `(tactic| walk_at "binaryOp Add ref ref") => `(tactic| (k_here; (with_reducible show wpAny _ _ (binaryOp _ (Value.ref _) (Value.ref _)) _ _ _); k_dflt (refine' add_K ?F ?N ?l ?b ?_ ?z; (case F => k_asm); (case N => k_asm); (case l => exact News.isList (by k_asm) (by k_mem)); (case b => exact News.isList (by k_asm) (by k_mem)); (case z => (rw [PySem.sizeLine_eq]; (try simp only [List.size_toArray, List.length_cons, List.length_nil]); omega))); intro D' h' F' N' l1'; (try k_lt l1')))

theorem names_len : ∀ (ps acc : List Str), (ps.foldl namesStep acc).length ≤ acc.length + ps.length := by
  intro ps
  induction ps with
  | nil => intro acc; simp
  | cons c r ih =>
    intro acc
    have h1 := ih (namesStep acc c)
    have h2 : (namesStep acc c).length ≤ acc.length + 1 := by
      unfold namesStep
      split
      · simp only [List.length_dropLast]; omega
      · split
        · simp
        · omega
    simp only [List.foldl_cons, List.length_cons]
    omega

theorem names_spec {l : Addr} {its : Array Value} {ps : List Str} (hl : s.heap.IsList l its) (hS : StrsAre its.toList ps) (hok : OkP ps)
    (B : Below A₀ base outer h₀) (F : Fr h₀ L s.heap m) (N : News h₀ L s.heap news) (X : (Mine.hd.heap_39 w.params).In h₀) (T : Top p loose mean mg mb h₀) (hk : cs.kind = .function) (hd : dp + 6 < recursionLimit) (hu : un + 120 < cLine)
    (hret : ∀ D its k h' tk', s.heap.StaysIn h' → Fr h₀ L h' m → StrsAre its.toList (namesF ps) → News h₀ L h' ((D, W.listOf its k) :: news) → LCg.Off1 D news → Q (.ref D) { s with heap := h', toks := tk' }) :
    wpAny (model Challenge.pw_pd0108_01 w) (ktrTop dp un gd cn cs L a ccd cl outer) (call (.ref 212) [.ref l]) Q E s := by
  have hSh := PySem.Flt.Hid.mk hS
  clear hS
  refine wpAny_call ?_
  refine enterS [(Str.ofString "pieces", .ref l)] B F X T rfl rfl hk (by k_is) (by k_is) (by ktr_room) (BindsTo.of_eq rfl) (locs rfl) ?_ rfl rfl rfl (by decide)
  intro L' h' F' N' B' X' T'
  repeat' ((fail_if_success (with_reducible show wpAny _ _ (pyIter _) _ _ _)); first | (k_unfold; (try dsimp only)) | (k_end; wrow_close) | walk1 | (dsimp only; walk1) | (leave1; walk_say "STEP leave1"; try dsimp only) | fail "no step")
  refine For_invV s.heap rfl rfl ?_ (by intro _; rfl) (by passes_own)
  repeat' ((fail_if_success (with_reducible show wpAny _ _ (pyIter _) _ _ _)); first | (k_unfold; (try dsimp only)) | (k_end; wrow_close) | walk1 | (dsimp only; walk1) | (leave1; walk_say "STEP leave1"; try dsimp only) | fail "no step")
  rename Fr s.heap L' _ _ => F9
  rename News s.heap L' _ _ => N9
  refine iter_new (v := Str.ofString "names") (vs := its.toList) (acc₀ := []) namesStep rfl hl hSh.out (by decide) F9 N9 rfl .nil ?_ ?_
  · intro i c t acc a its k I oI h tk hi hc hacc hits hne F' N'
    replace F' : Fr s.heap L' _ _ := F'
    replace N' : News s.heap L' _ _ := N'
    have hp := piece_ok (hok.2 c hc)
    have h3 : c.length < 1000 := by omega
    have hsz : its.size = acc.length := by have := hits.length; simpa using this
    have hacc2 : acc.length ≤ 4 := by
      have h1 := names_len (ps.take i) []
      have h2 := (okP_take hok i).1
      rw [← hacc] at h1
      simp only [List.length_nil] at h1
      omega
    k_steps
    · rename Fr s.heap L' _ _ => F8
      rename News s.heap L' _ _ => N8
      rename _ ∧ _ => hlt
      refine NewEnd.mk' F8 rfl ?_ N8 List.mem_cons_self (by k_mem) (Nat.ne_of_gt hlt.2) ?_
      · intro y h1 h2
        simp only [if_neg h1, if_neg h2]
      · rw [namesStep, if_pos (by assumption), pick_dropLast]
        exact strs_dropLast hits
    · rename Fr s.heap L' _ _ => F8
      rename News s.heap L' _ _ => N8
      rename _ ∧ _ ∧ _ => hlt
      refine NewEnd.mk' F8 rfl ?_ N8 List.mem_cons_self (by k_mem) (Nat.ne_of_gt hlt.2.2) ?_
      · intro y h1 h2
        simp only [if_neg h1, if_neg h2]
      · have hc1 : (c == Str.ofString "..") = false := by assumption
        rw [namesStep, if_neg (by rw [hc1]; decide), if_pos (by assumption)]
        exact strs_append hits (.cons _ _ .nil)
    · rename Fr s.heap L' _ _ => F8
      rename News s.heap L' _ _ => N8
      refine NewEnd.mk' F8 rfl ?_ N8 List.mem_cons_self (by k_mem) hne ?_
      · intro y h1 h2
        simp only [if_neg h1, if_neg h2]
      · have hc1 : (c == Str.ofString "..") = false := by assumption
        have hc2 : (c != Str.ofString ".") = false := by assumption
        rw [namesStep, if_neg (by rw [hc1]; decide), if_neg (by rw [hc2]; decide)]
        exact hits
  · intro a its k u h tk hits F' N'
    replace F' : Fr s.heap L' _ _ := F'
    replace N' : News s.heap L' _ _ := N'
    k_steps
    have st := F'.keep
    have z := news_ret F N st (N'.get List.mem_cons_self) (N'.fresh List.mem_cons_self)
    exact hret _ _ _ _ _ st (fr_up F st) hits z.1 z.2
end
end Mine

namespace Mine
def alphaN : List Str := [Str.ofString "a", Str.ofString "b", Str.ofString "ab"]
/-- names as the law makes them -/
def OkN (ns : List Str) : Prop := ns.length ≤ 4 ∧ ∀ c ∈ ns, c ∈ alphaN
def dots (x : Str) : Str := Txt.replace x (Str.ofString "/") (Str.ofString "/./")
theorem dots_eq (x : Str) : dotsS x = dots x := dotsS_eq x
def keepF (cs : List Str) : List Str := cs.filter fun c => decide (c.length ≠ 0) && (c != Str.ofString ".")
def chkN (ns : List Str) : Bool :=
  let x := render ns
  let y := dotsS x
  decide (x.length < 900) && PyData.strOk x && (x != Str.ofString "/") == (ns != []) && (dirF x == render ns.dropLast)
   && Txt.startswith x (Str.ofString "/") && (keepF (cutS x) == ns) && decide ((cutS x).length < 100)
   && decide (y.length < 900) && PyData.strOk y && Txt.startswith y (Str.ofString "/") && (keepF (cutS y) == ns) && decide ((cutS y).length < 100)
   && decide ((ns.map (·.length)).sum + ns.length ≤ 1000) && decide ((Txt.join (Str.ofString "/") ns).length < 900)
theorem chkN_short : (listsN alphaN 1).all chkN = true := by decide +kernel
theorem chkN_two : ∀ c ∈ alphaN, ∀ d ∈ alphaN, ((listsN alphaN 2).map fun r => c :: d :: r).all chkN = true := by
  intro c hc d hd
  simp only [alphaN, List.mem_cons, List.not_mem_nil, or_false] at hc hd
  rcases hc with rfl | rfl | rfl <;> rcases hd with rfl | rfl | rfl <;> decide +kernel
structure NamesOk (ns : List Str) : Prop where
  len : (render ns).length < 900
  ok : PyData.strOk (render ns) = true
  root : (render ns != Str.ofString "/") = (ns != [])
  dir : dirF (render ns) = render ns.dropLast
  sw : Txt.startswith (render ns) (Str.ofString "/") = true
  sp : keepF (Txt.split (render ns) (Str.ofString "/")) = ns
  spl : (Txt.split (render ns) (Str.ofString "/")).length < 100
  dlen : (dots (render ns)).length < 900
  dok : PyData.strOk (dots (render ns)) = true
  dsw : Txt.startswith (dots (render ns)) (Str.ofString "/") = true
  dsp : keepF (Txt.split (dots (render ns)) (Str.ofString "/")) = ns
  dspl : (Txt.split (dots (render ns)) (Str.ofString "/")).length < 100
  sm : (ns.map (·.length)).sum + ns.length ≤ 1000
  jl : (Txt.join (Str.ofString "/") ns).length < 900
theorem names_ok {ns : List Str} (h : OkN ns) : NamesOk ns := by
  have := all_two chkN_short chkN_two h.1 h.2
  simp only [chkN, cutS_eq, dots_eq, Bool.and_eq_true, decide_eq_true_eq, beq_iff_eq] at this
  obtain ⟨⟨⟨⟨⟨⟨⟨⟨⟨⟨⟨⟨⟨h1, h2⟩, h3⟩, h4⟩, h5⟩, h6⟩, h7⟩, h8⟩, h9⟩, h10⟩, h11⟩, h12⟩, h13⟩, h14⟩ := this
  exact ⟨h1, h2, h3, h4, h5, h6, h7, h8, h9, h10, h11, h12, h13, h14⟩
theorem okN_take {ns : List Str} (h : OkN ns) (i : Nat) : OkN (ns.take i) := ⟨Nat.le_trans (by simp; omega) h.1, fun c hc => h.2 c (List.mem_of_mem_take hc)⟩
theorem render_inj {a b : List Str} (ha : OkN a) (hb : OkN b) (e : render a = render b) : a = b := by
  have h1 := (names_ok ha).sp
  have h2 := (names_ok hb).sp
  rw [e, h2] at h1
  exact h1.symm
theorem names_okN {ps : List Str} (h : OkP ps) : OkN (namesF ps) := by
  have hlen : ∀ (ps acc : List Str), (ps.foldl namesStep acc).length ≤ acc.length + ps.length := by
    intro ps
    induction ps with
    | nil => intro acc; simp
    | cons c r ih =>
      intro acc
      have h1 := ih (namesStep acc c)
      have h2 : (namesStep acc c).length ≤ acc.length + 1 := by
        unfold namesStep
        split
        · simp only [List.length_dropLast]; omega
        · split
          · simp
          · omega
      simp only [List.foldl_cons, List.length_cons]
      omega
  have hmem : ∀ (ps acc : List Str), (∀ c ∈ ps, c ∈ alphaP) → (∀ c ∈ acc, c ∈ alphaN) → ∀ c ∈ ps.foldl namesStep acc, c ∈ alphaN := by
    intro ps
    induction ps with
    | nil => intro acc _ h; exact h
    | cons c r ih =>
      intro acc hp ha
      refine ih (namesStep acc c) (fun d hd => hp d (List.mem_cons_of_mem _ hd)) ?_
      have hc := hp c List.mem_cons_self
      unfold namesStep
      split
      · exact fun d hd => ha d (List.dropLast_subset _ hd)
      · rename_i h1
        split
        · rename_i h2
          intro d hd
          rcases List.mem_append.mp hd with hd | hd
          · exact ha d hd
          · rw [List.mem_singleton.mp hd]
            simp only [alphaP, List.mem_cons, List.not_mem_nil, or_false] at hc
            simp only [alphaN, List.mem_cons, List.not_mem_nil, or_false]
            rcases hc with e | e | e | e | e
            · exact .inl e
            · exact .inr (.inl e)
            · subst e; exact absurd (by decide +kernel) h1
            · subst e; exact absurd h2 (by decide +kernel)
            · exact .inr (.inr e)
        · exact ha
  refine ⟨?_, hmem ps [] h.2 (fun c hc => nomatch hc)⟩
  have := hlen ps []
  have h4 := h.1
  simp only [List.length_nil] at this
  unfold namesF
  omega
end Mine

namespace Mine

/-- the fronts of a list of names, the longest first, so many and one -/
def frontNs (ns : List Str) (j : Nat) : List (List Str) := (List.range (j + 1)).map fun i => ns.take (ns.length - i)
/-- what _law_fronts gives -/
def frontsF (ns : List Str) : List Str := (frontNs ns ns.length).map render
theorem frontNs_succ (ns : List Str) (j : Nat) : frontNs ns (j + 1) = frontNs ns j ++ [ns.take (ns.length - (j + 1))] := by
  unfold frontNs
  rw [List.range_succ, List.map_append]
  rfl
theorem frontNs_last (ns : List Str) (j : Nat) : ((frontNs ns j).map render).getLastD Str.empty = render (ns.take (ns.length - j)) := by
  have e : frontNs ns j = (List.range j).map (fun i => ns.take (ns.length - i)) ++ [ns.take (ns.length - j)] := by
    unfold frontNs
    rw [List.range_succ, List.map_append]
    rfl
  rw [e, List.map_append, List.getLastD_eq_getLast?]
  simp
theorem frontNs_len (ns : List Str) (j : Nat) : (frontNs ns j).length = j + 1 := by simp [frontNs]

/-- the end of a turn of _law_fronts -/
def FrEnd (h₀ : Heap) (L : Addr) (fc : Addr) (m₀ : Str → Option Value) (s : Shared) (xs : List Str) (f : Flow) (s₂ : Shared) : Prop :=
  f = .next ∧ ∃ h' tk' its' k', s₂ = { s with heap := h', toks := tk' } ∧ Fr h₀ L h' m₀ ∧ News h₀ L h' [(fc, W.listOf its' k')] ∧ StrsAre its'.toList xs
theorem FrEnd.mk' {h₀ h' : Heap} {L fc : Addr} {m₀ : Str → Option Value} {s : Shared} {xs : List Str} {tk' k' : Nat} {its' : Array Value} {rest : List (Addr × Obj)} (F : Fr h₀ L h' m₀) (N : News h₀ L h' ((fc, W.listOf its' k') :: rest)) (hS : StrsAre its'.toList xs) :
    FrEnd h₀ L fc m₀ s xs .next { s with heap := h', toks := tk' } := ⟨rfl, h', tk', its', k', rfl, F, fun p hp => N p (by rw [List.mem_singleton.mp hp]; exact List.mem_cons_self), hS⟩

theorem while_fronts {prog : Program} {w : World} {A : Around} {E : Value → Shared → Prop} {s : Shared} {env : Env} {h₀ : Heap} {L : Addr} {test : Expr} {body : List Stmt} {pos : Pos} {Q : Flow → Shared → Prop}
    {fc : Addr} {m₀ : Str → Option Value} {its₀ : Array Value} {k₀ : Nat} {ns : List Str} {rest : List (Addr × Obj)}
    (F : Fr h₀ L s.heap m₀) (N : News h₀ L s.heap ((fc, W.listOf its₀ k₀) :: rest)) (hS0 : StrsAre its₀.toList ((frontNs ns 0).map render))
    (turn : ∀ j its k h tk, j ≤ ns.length → StrsAre its.toList ((frontNs ns j).map render) → Fr h₀ L h m₀ → News h₀ L h [(fc, W.listOf its k)] →
      wpAny (model prog w) A (isTrue test env (eval test env)) (fun b s₂ =>
        if b = true then j < ns.length ∧ wpAny (model prog w) A (execs body env) (FrEnd h₀ L fc m₀ s ((frontNs ns (j + 1)).map render)) E s₂
        else j = ns.length ∧ Q .next s₂) E { s with heap := h, toks := tk })
    (hE : PassesOwn (model prog w) A env E := by passes_own) :
    wpAny (model prog w) A (exec (.While test body [] pos) env) Q E s := by
  refine While_inv (n₀ := ns.length) (news := [(fc, W.listOf its₀ k₀)]) (fun n m₁ news₁ => ∃ j its k, j ≤ ns.length ∧ n = ns.length - j ∧ m₁ = m₀ ∧ news₁ = [(fc, W.listOf its k)] ∧ StrsAre its.toList ((frontNs ns j).map render))
    F (fun p hp => N p (by rw [List.mem_singleton.mp hp]; exact List.mem_cons_self)) ⟨0, its₀, k₀, Nat.zero_le _, rfl, rfl, rfl, hS0⟩ ?_ hE
  rintro n m₁ news₁ h₁ tk₁ F₁ N₁ ⟨j, its, k, hj, rfl, rfl, rfl, hits⟩
  refine wpAny_mono (turn j its k h₁ tk₁ hj hits F₁ N₁) (fun b s₂ h₂ => ?_) fun _ _ e => e
  cases b with
  | true =>
    simp only [if_true] at h₂ ⊢
    refine wpAny_mono h₂.2 (fun f s₃ h₃ => ?_) fun _ _ e => e
    obtain ⟨rfl, h', tk', its', k', rfl, F', N', hS'⟩ := h₃
    exact WhileStep.intro F' N' (n' := ns.length - (j + 1)) (by omega) ⟨j + 1, its', k', h₂.1, rfl, rfl, rfl, hS'⟩
  | false =>
    simp only [Bool.false_eq_true, if_false] at h₂ ⊢
    exact h₂.2

section
variable {w : World} {dp un : Nat} {gd : Option (List Code)} {cn : Str} {cs : Scope} {a : Addr} {ccd : Value} {cl : List (Str × Addr)} {outer : List Env} {A₀ : Around} {base h₀ : Heap} {L : Addr} {m mg mb : Str → Option Value} {s : Shared} {Q E : Value → Shared → Prop}
  {p : Program} {loose : List Str} {mean : ExcName → Option Value} {news : List (Addr × Obj)}

local macro_rules | `(tactic| walk_at "call ref") => `(tactic| (k_here; (with_reducible show wpAny _ _ (call (Value.ref 129) [Value.str _ _]) _ _ _); k_dflt (refine' dirname_spec ?ka ?k1 ?k2 ?k3 ?k4 ?k5 ?k6 ?k7 ?k8 ?_; (case ka => assumption); (case k1 => k_asm); (case k2 => k_asm); (case k3 => k_asm); (case k4 => k_asm); (case k5 => k_asm); (case k6 => first | exact rfl | assumption); (case k7 => ktr_room); (case k8 => ktr_units)); intro t' h' tk' st' F' N'; (try k_sweep)))
local macro_rules | `(tactic| walk_at "subscriptTail") => `(tactic| (k_here; (with_reducible show wpAny _ _ (subscriptTail _ _ (Value.ref _) (Value.int (-1) _)) _ _ _); k_dflt (refine' item_last ?k1 ?k2 ?k3 ?_ ?k5 ?k6; (case k1 => exact News.isList (by k_asm) (by k_mem)); (case k2 => assumption); (case k3 => assumption); (case k5 => with_unfolding_all rfl); (case k6 => (intro _; with_unfolding_all rfl))); intro t'))

theorem fronts_spec {ns : List Str} {t : Tok} (hok : OkN ns)
    (B : Below A₀ base outer h₀) (F : Fr h₀ L s.heap m) (N : News h₀ L s.heap news) (X : (Mine.hd.heap_39 w.params).In h₀) (T : Top p loose mean mg mb h₀) (hk : cs.kind = .function) (hd : dp + 6 < recursionLimit) (hu : un + 120 < cLine)
    (hret : ∀ D its k h' tk', s.heap.StaysIn h' → Fr h₀ L h' m → StrsAre its.toList (frontsF ns) → News h₀ L h' ((D, W.listOf its k) :: news) → LCg.Off1 D news → Q (.ref D) { s with heap := h', toks := tk' }) :
    wpAny (model Challenge.pw_pd0108_01 w) (ktrTop dp un gd cn cs L a ccd cl outer) (call (.ref 219) [.str (render ns) t]) Q E s := by
  refine wpAny_call ?_
  refine enterS [(Str.ofString "place", .str (render ns) t)] B F X T rfl rfl hk (by k_is) (by k_is) (by ktr_room) (BindsTo.of_eq rfl) (locs rfl) ?_ rfl rfl rfl (by decide)
  intro L' h' F' N' B' X' T'
  repeat' ((fail_if_success (with_reducible show wpAny _ _ (exec (Stmt.While _ _ _ _) _) _ _ _)); first | (k_unfold; (try dsimp only)) | (k_end; wrow_close) | walk1 | (dsimp only; walk1) | (leave1; walk_say "STEP leave1"; try dsimp only) | fail "no step")
  rename Fr s.heap L' _ _ => F9
  rename News s.heap L' _ _ => N9
  refine while_fronts (ns := ns) F9 N9 ?_ ?_ (by passes_own)
  · have e : (frontNs ns 0).map render = [render ns] := by
      simp [frontNs]
    rw [e]
    exact .cons _ _ .nil
  · intro j its k h tk hj hits F' N'
    have P := names_ok (okN_take hok (ns.length - j))
    have hsz : its.size = j + 1 := by have := hits.length; rw [List.length_map, frontNs_len] at this; simpa using this
    have hne : its.isEmpty = false := by simp; intro e; rw [e] at hsz; simp at hsz
    have hlast := frontNs_last ns j
    have hlen : (((frontNs ns j).map render).getLastD Str.empty).length < 1000 := by rw [hlast]; have := P.len; omega
    have h4 := hok.1
    have hroot := P.root
    k_steps
    · rename (_ != Str.ofString "/") = true => hc
      rw [hlast, hroot] at hc
      rcases Nat.lt_or_ge j ns.length with h | h
      · exact h
      · have e : ns.length - j = 0 := by omega
        rw [e] at hc
        simp at hc
    · rename Fr s.heap L' _ _ => F8
      rename News s.heap L' _ _ => N8
      refine FrEnd.mk' F8 N8 ?_
      have hd := P.dir
      rw [frontNs_succ, List.map_append, hlast, hd]
      have e : (ns.take (ns.length - j)).dropLast = ns.take (ns.length - (j + 1)) := by
        rw [List.dropLast_eq_take, List.take_take, List.length_take]
        congr 1
        omega
      rw [e]
      exact strsAre_push hits
    · rename (_ != Str.ofString "/") = false => hc
      rw [hlast, hroot] at hc
      have e : ns.take (ns.length - j) = [] := by simpa using hc
      have e2 : (ns.take (ns.length - j)).length = 0 := by rw [e]; rfl
      rw [List.length_take] at e2
      omega
    · rename (_ != Str.ofString "/") = false => hc
      rw [hlast, hroot] at hc
      have e : ns.take (ns.length - j) = [] := by simpa using hc
      have e2 : (ns.take (ns.length - j)).length = 0 := by rw [e]; rfl
      rw [List.length_take] at e2
      have e3 : j = ns.length := by omega
      subst e3
      rename Fr s.heap L' _ _ => F8
      rename News s.heap L' _ _ => N8
      have st := F8.keep
      have z := news_ret F N st (N8.get List.mem_cons_self) (N8.fresh List.mem_cons_self)
      exact hret _ _ _ _ _ st (fr_up F st) hits z.1 z.2
end
end Mine

namespace Mine

/-- a def with captured names entered; all that stood stays -/
theorem enterC {prog : Program} {w : World} {A A₀ : Around} {s : Shared} {K : Frag} {L : Addr} {h₀ base : Heap} {m mg mb : Str → Option Value} {p : Program} {loose : List Str} {mean : ExcName → Option Value}
    {env : Env} {outer : List Env} {R : Result → Shared → Prop} {name qual : Str} {params : Arguments} {body : List Stmt} {scope : Scope} {dV kV doc pm cdv ct oc : Value} {an od : Option Addr} {osl : Array (Option Value)} {f : Addr} {args : Args} (binds : List (Str × Value))
    (B : Below A₀ base outer h₀) (F : Fr h₀ L s.heap m) (X₀ : K.In h₀) (T : Top p loose mean mg mb h₀) (hA : A.frames = some (env :: outer)) (hf : env.frame = some L) (hke : env.scope.kind = .function)
    (ho : K.lookup f = some ⟨oc, od, .func (fnOf name qual params body scope dV kV doc pm an cdv ct), osl⟩) (hcd : codeIn K cdv qual = true) (hroom : A.depth < recursionLimit)
    (hbind : BindsTo s (fnOf name qual params body scope dV kV doc pm an cdv ct) args binds) (hkind : (binds.all fun y => scope.names.lookup y.1 == some .local || scope.names.lookup y.1 == some .cell) = true)
    (hnd : ((cellsFrom 0 scope.names []).map (·.1)).Nodup)
    (h : ∀ L' h₁ tk cells, Fr s.heap L' h₁ (bindL (envOfC qual scope L' f cdv).kindOf binds fun _ => none) → News s.heap L' h₁ cells →
      CellsAre (bindC (envOfC qual scope L' f cdv).kindOf binds fun _ => none) (cellsFrom (L' + 1) scope.names []) cells → Below A base (env :: outer) s.heap → K.In s.heap → Top p loose mean mg mb s.heap →
      wpAny (model prog w) (A.deeper (envOfC qual scope L' f cdv)) (execs body (envOfC qual scope L' f cdv))
        (fun fl s' => R (.ok (.ret (match fl with | .ret v => v | _ => .none))) s')
        (fun e s' => wpAny (model prog w) (A.deeper (envOfC qual scope L' f cdv)) (leaving (envOfC qual scope L' f cdv) e) (fun _ s'' => R (.error e) s'') (fun e' s'' => R (.error e') s'') s')
        { s with heap := h₁, toks := tk })
    (hco : scope.isCoroutine = false) (hgen : scope.isGenerator = false) (hk : scope.kind = .function) : codeAny (model prog w) A (.call (.ref f) args) R s := by
  have X := X₀.keeps F.keep
  have T' := T.keeps F.keep
  have B1 := pushX B F hf hke
  refine codeAny_call_function (fd := fnOf name qual params body scope dV kV doc pm an cdv ct) (body := body) hroom (X _ _ ho) rfl hco hgen rfl (codeRec_of X hcd) (hbind _ _ _ _ ?_)
  refine wpAny_newFunctionEnv_cells hk (kindsX hkind _) fun env' he s' x => ?_
  subst he
  refine ⟨T'.nolimit.keeps x.toInCall.keep, codeAny_func ?_⟩
  obtain ⟨h₁, tk, rfl, _⟩ := x.done
  have hk₁ := x.toInCall.keep
  obtain ⟨cells, NC, Y⟩ := Cl.news (h₀ := s.heap) (Nat.le_refl _) fun n c hm => ⟨x.cell n c (lookup_of_mem_nodup (cellsFrom_names scope.names 0 (s.heap.objs.size + 1) [] [] rfl ▸ hnd) hm), x.above n c hm⟩
  exact h s.heap.objs.size h₁ tk cells ⟨x.toInCall.ns, hk₁, Nat.le_refl _⟩ NC Y ⟨hA, B1.stays, B1.frames⟩ X T'

theorem pick_upto (its : Array Value) (k : Nat) : slicePick its none (some (k : Int)) none = (its.toList.take k).toArray := by
  have e : sliceBounds none (some (k : Int)) none its.size = (((0 : Nat) : Int), ((min k its.size : Nat) : Int), 1) := by
    simp only [sliceBounds, Option.getD_none, show (1 : Int) > 0 by decide, if_true, if_neg (show ¬ ((k : Int) < 0) by omega)]
    congr 1
    congr 1
    omega
  rw [kmk_pick_nat _ e, List.drop_zero, Nat.sub_zero]
  congr 1
  have := kmk_take_min its.toList k
  rw [Array.length_toList] at this
  exact this
theorem strs_take {vs : List Value} {xs : List Str} (h : StrsAre vs xs) : ∀ k : Nat, StrsAre (vs.take k) (xs.take k) := by
  induction h with
  | nil => intro k; simp; exact .nil
  | cons y t _ ih =>
    intro k
    cases k with
    | zero => exact .nil
    | succ k => exact .cons y t (ih k)

/-- behind an element -/
def EltEnd (s₂ : Shared) (h : Heap) (nw : List (Addr × Obj)) (Jy : Value → List (Addr × Obj) → Prop) (y : Value) (s₄ : Shared) : Prop :=
  ∃ h₄ tk₄ nw', s₄ = { s₂ with heap := h₄, toks := tk₄ } ∧ h.StaysIn h₄ ∧ (∀ p ∈ nw', h₄.get? p.1 = some p.2 ∧ (p ∈ nw ∨ h.get? p.1 = none)) ∧ Jy y nw'
theorem EltEnd.old {s₂ : Shared} {h h₄ : Heap} {nw : List (Addr × Obj)} {Jy : Value → List (Addr × Obj) → Prop} {y : Value} {tk₄ : Nat} (st : h.StaysIn h₄) (hn : ∀ p ∈ nw, h.get? p.1 = some p.2) (hj : Jy y nw) : EltEnd s₂ h nw Jy y { s₂ with heap := h₄, toks := tk₄ } :=
  ⟨h₄, tk₄, nw, rfl, st, fun p hp => ⟨st _ _ (hn p hp), .inl hp⟩, hj⟩
theorem EltEnd.one {s₂ : Shared} {h h₄ : Heap} {nw : List (Addr × Obj)} {Jy : Value → List (Addr × Obj) → Prop} {y : Value} {tk₄ : Nat} {D : Addr} {o : Obj} (st : h.StaysIn h₄) (hn : ∀ p ∈ nw, h.get? p.1 = some p.2) (hD : h₄.get? D = some o) (hD0 : h.get? D = none) (hj : Jy y ((D, o) :: nw)) :
    EltEnd s₂ h nw Jy y { s₂ with heap := h₄, toks := tk₄ } :=
  ⟨h₄, tk₄, (D, o) :: nw, rfl, st, fun p hp => by
    rcases List.mem_cons.mp hp with rfl | hp
    · exact ⟨hD, .inr hD0⟩
    · exact ⟨st _ _ (hn p hp), .inl hp⟩, hj⟩
/-- behind a test -/
def TestEnd (prog : Program) (w : World) (A : Around) (elt : Expr) (cenv : Env) (s₂ : Shared) (h : Heap) (nw : List (Addr × Obj)) (Jy : Value → List (Addr × Obj) → Prop) (Jn : Prop) (E' : Value → Shared → Prop) (ok : Bool) (s₃ : Shared) : Prop :=
  ∃ h₃ tk₃, s₃ = { s₂ with heap := h₃, toks := tk₃ } ∧ h.StaysIn h₃ ∧ if ok = true then wpAny (model prog w) A (eval elt cenv) (EltEnd s₂ h nw Jy) E' s₃ else Jn
theorem compTurn_one {prog : Program} {w : World} {A : Around} {elt c : Expr} {cenv : Env} {s₂ : Shared} {h : Heap} {tk : Nat} {nw : List (Addr × Obj)} {Jy : Value → List (Addr × Obj) → Prop} {Jn : Prop} {E' : Value → Shared → Prop}
    (H : wpAny (model prog w) A (isTrue c cenv (eval c cenv)) (TestEnd prog w A elt cenv s₂ h nw Jy Jn E') E' { s₂ with heap := h, toks := tk }) : CompTurn prog w A elt [c] cenv s₂ h tk nw Jy Jn E' := wpAny_tests_one H
theorem compTurn_nil {prog : Program} {w : World} {A : Around} {elt : Expr} {cenv : Env} {s₂ : Shared} {h : Heap} {tk : Nat} {nw : List (Addr × Obj)} {Jy : Value → List (Addr × Obj) → Prop} {Jn : Prop} {E' : Value → Shared → Prop}
    (H : wpAny (model prog w) A (eval elt cenv) (EltEnd s₂ h nw Jy) E' { s₂ with heap := h, toks := tk }) : CompTurn prog w A elt [] cenv s₂ h tk nw Jy Jn E' := wpAny_tests_nil ⟨h, tk, rfl, (fun _ _ e => e), by rw [if_pos rfl]; exact H⟩
theorem TestEnd.yes {prog : Program} {w : World} {A : Around} {elt : Expr} {cenv : Env} {s₂ : Shared} {h h₃ : Heap} {tk₃ : Nat} {nw : List (Addr × Obj)} {Jy : Value → List (Addr × Obj) → Prop} {Jn : Prop} {E' : Value → Shared → Prop} {ok : Bool} (e : ok = true) (st : h.StaysIn h₃)
    (H : wpAny (model prog w) A (eval elt cenv) (EltEnd s₂ h nw Jy) E' { s₂ with heap := h₃, toks := tk₃ }) : TestEnd prog w A elt cenv s₂ h nw Jy Jn E' ok { s₂ with heap := h₃, toks := tk₃ } := ⟨h₃, tk₃, rfl, st, by rw [if_pos e]; exact H⟩
theorem TestEnd.no {prog : Program} {w : World} {A : Around} {elt : Expr} {cenv : Env} {s₂ : Shared} {h h₃ : Heap} {tk₃ : Nat} {nw : List (Addr × Obj)} {Jy : Value → List (Addr × Obj) → Prop} {Jn : Prop} {E' : Value → Shared → Prop} {ok : Bool} (e : ok = false) (st : h.StaysIn h₃)
    (H : Jn) : TestEnd prog w A elt cenv s₂ h nw Jy Jn E' ok { s₂ with heap := h₃, toks := tk₃ } := ⟨h₃, tk₃, rfl, st, by rw [e]; exact H⟩

section
variable {w : World} {dp un : Nat} {gd : Option (List Code)} {cn : Str} {cs : Scope} {a : Addr} {ccd : Value} {cl : List (Str × Addr)} {outer : List Env} {A₀ : Around} {base h₀ : Heap} {L : Addr} {m mg mb : Str → Option Value} {s : Shared} {Q E : Value → Shared → Prop}
  {p : Program} {loose : List Str} {mean : ExcName → Option Value} {news : List (Addr × Obj)}

-- one line more than the text ahead: in one file the walk keeps its lines by their number alone
local macro_rules | `(tactic| walk_at "no such key") => `(tactic| skip)
local macro_rules | `(tactic| walk_at "subscriptTail") => `(tactic| (k_here; (with_reducible show wpAny _ _ (subscriptTail _ (Expr.Slice _ _ none _) (Value.ref _) (Value.ref _)) _ _ _); k_dflt (refine' kmk_slice ?F ?N ?l ?pl ?pu ?_ ?hs ?ht ?z; (case F => k_asm); (case N => k_asm); (case l => exact News.isList (by k_asm) (by k_mem)); (case pl => first | exact IsPart.none | exact IsPart.int _ _); (case pu => first | exact IsPart.none | exact IsPart.int _ _); (case hs => with_unfolding_all rfl); (case ht => (intro _; with_unfolding_all rfl)); (case z => (rw [PySem.sizeLine_eq]; omega))); intro D' h' F' N' l1'; (try k_lt l1')))
local macro_rules | `(tactic| walk_at "call ref") => `(tactic| (k_here; (with_reducible show wpAny _ _ (call (Value.ref 226) [Value.ref _, Value.str _ _, Value.str _ _]) _ _ _); k_dflt (refine' covers_spec ?ka ?kb ?kc ?kd ?ke ?k1 ?k2 ?k3 ?k4 ?k5 ?k6 ?k7 ?k8 ?_; (case ka => assumption); (case kb => assumption); (case kc => assumption); (case kd => assumption); (case ke => assumption); (case k1 => k_asm); (case k2 => k_asm); (case k3 => k_asm); (case k4 => k_asm); (case k5 => k_asm); (case k6 => first | exact rfl | assumption); (case k7 => ktr_room); (case k8 => ktr_units)); intro h' tk' st' F' N'))

theorem first_spec {mng rl dx : Addr} {its : Array Value} {rs : List (List Str)} {pn : List Str} {u : Tok} {hs : Int} {ptk : Tok} {pv : Value} (hI : InstAt s.heap mng (instObj 187 dx) 187 (some (dictOf [⟨hs, .str (Str.ofString "passwd") ptk, pv⟩] 1)))
    (hl : s.heap.IsList rl its) (hS : StrsAre its.toList (rs.map render)) (hok : ∀ r ∈ rs, OkN r) (hrl : rs.length ≤ 8) (hp : OkN pn)
    (B : Below A₀ base outer h₀) (F : Fr h₀ L s.heap m) (N : News h₀ L s.heap news) (X : (Mine.hd.heap_39 w.params).In h₀) (T : Top p loose mean mg mb h₀) (hk : cs.kind = .function) (hd : dp + 6 < recursionLimit) (hu : un + 300 < cLine)
    (hret : ∀ D its k h' tk', s.heap.StaysIn h' → Fr h₀ L h' m → StrsAre its.toList (((rs.map render).filter fun r => covF r (render pn)).take 1) → News h₀ L h' ((D, W.listOf its k) :: news) → LCg.Off1 D news → Q (.ref D) { s with heap := h', toks := tk' }) :
    wpAny (model Challenge.pw_pd0108_01 w) (ktrTop dp un gd cn cs L a ccd cl outer) (call (.ref 231) [.ref mng, .ref rl, .str (render pn) u]) Q E s := by
  have hSh := PySem.Flt.Hid.mk hS
  clear hS
  refine wpAny_call ?_
  refine enterC [(Str.ofString "manager", .ref mng), (Str.ofString "rules", .ref rl), (Str.ofString "place", .str (render pn) u)] B F X T rfl rfl hk (by k_is) (by k_is) (by ktr_room) (BindsTo.of_eq rfl) rfl (by decide +kernel) ?_ rfl rfl rfl
  intro L' h' tk' cells' F' N' Y' B' X' T'
  k_cells Y'
  try dsimp only at N'
  repeat' ((fail_if_success (with_reducible show wpAny _ _ (eval (Expr.ListComp _ _ _ _) _) _ _ _)); first | (k_unfold; (try dsimp only)) | (k_end; wrow_close) | walk1 | (dsimp only; walk1) | (leave1; walk_say "STEP leave1"; try dsimp only) | fail "no step")
  refine ListComp_H (by with_unfolding_all rfl) (by decide) rfl (by decide) rfl ?_ (by intro _; rfl)
  repeat' (first | (k_unfold; (try dsimp only)) | walk1 | (dsimp only; walk1))
  have hS := hSh.out
  have hlen := hS.length
  have hsz : its.size = rs.length := by simpa using hlen
  refine ⟨rl, its, fun i ys nw => nw = [] ∧ StrsAre ys (((rs.map render).take i).filter fun r => covF r (render pn)), rfl, rfl, .inl (hl.at fun o e => F'.keep _ _ e), by rw [PySem.sizeLine_eq]; omega, ⟨rfl, .nil⟩, ?_, ?_⟩
  · rintro i v ys nw C oC m₂ h tk E' hv st hC hoC hx hC0 hnw ⟨rfl, hys⟩
    obtain ⟨c, t, hc, rfl⟩ := strs_get hS (show its.toList[i]? = some v by simpa using hv)
    clear hS
    have hc' := List.mem_of_getElem? hc
    obtain ⟨r, hr, rfl⟩ := List.mem_map.mp hc'
    have P := names_ok (hok r hr)
    have Pp := names_ok hp
    have h1 : (render r).length < 1000 := by have := P.len; omega
    have h2 : (render pn).length < 1000 := by have := Pp.len; omega
    have h3 := P.ok
    have h4 := Pp.ok
    have F2 := fr_up F' st
    have N2 : News s.heap L' h [(C, oC), (L' + 1 + 1, _), (L' + 1, _)] := fun p hp => by
      rcases List.mem_cons.mp hp with rfl | hp
      · refine ⟨hC, fun e => ?_, ?_⟩
        · have e : C = L' := e
          obtain ⟨oL, _, _, hL, _⟩ := F'.ns
          rw [e, hL] at hC0; cases hC0
        · show s.heap.get? C = none
          cases q : s.heap.get? C with
          | none => rfl
          | some o' => have := F'.keep _ _ q; rw [hC0] at this; cases this
      · exact news_up N' st p hp
    clear hC0
    have hI2 := inst_up hI F2.keep
    refine compTurn_one ?_
    k_steps
    rename Fr s.heap L' _ _ => F8
    rename News s.heap L' _ _ => N8
    rename Heap.StaysIn _ _ => st8
    replace st8 : h.StaysIn _ := st8
    have hstep : ((rs.map render).take (i + 1)).filter (fun r => covF r (render pn)) = ((rs.map render).take i).filter (fun r => covF r (render pn)) ++ (if covF (render r) (render pn) = true then [render r] else []) := by
      rw [List.take_add_one, hc, List.filter_append]
      simp only [Option.toList_some, List.filter_cons, List.filter_nil]
    rw [hstep]
    cases hcov : covF (render r) (render pn) with
    | true =>
      refine TestEnd.yes rfl st8 ?_
      k_steps
      refine EltEnd.old st8 hnw ⟨rfl, ?_⟩
      rw [if_pos rfl]
      exact strs_append hys (.cons _ _ .nil)
    | false =>
      refine TestEnd.no rfl st8 ⟨rfl, ?_⟩
      rw [if_neg (by decide), List.append_nil]
      exact hys
  · rintro D ys nw h tk st hD hD0 hnw ⟨rfl, hys⟩
    have F2 := fr_up F' st
    have N2 := (news_ret F' N' st hD hD0).1
    clear N'
    rw [← hsz] at hrl
    have hsz2 : ys.length ≤ 8 := by
      have h1 := hys.length
      have h2 := List.length_filter_le (fun r => covF r (render pn)) ((rs.map render).take its.size)
      rw [List.length_take, List.length_map] at h2
      omega
    have hsz3 : ys.toArray.size ≤ 8 := by simpa using hsz2
    have hys' := PySem.Flt.Hid.mk hys
    clear hS hys
    k_steps
    rename Fr s.heap L' _ _ => F8
    rename News s.heap L' _ _ => N8
    have st8 := F8.keep
    have z := news_ret F N st8 (N8.get List.mem_cons_self) (N8.fresh List.mem_cons_self)
    refine hret _ _ _ _ _ st8 (fr_up F st8) ?_ z.1 z.2
    have e := pick_upto ys.toArray 1
    rw [show ((1 : Nat) : Int) = 1 from rfl] at e
    rw [e]
    have h1 := strs_take hys'.out 1
    have e2 : (rs.map render).take its.size = rs.map render := by rw [hsz, ← List.length_map (f := render), List.take_length]
    rw [e2] at h1
    exact h1
end
end Mine

namespace Mine

theorem eqvAll_strs : ∀ xs ys : List Str, PyData.eqvAll (xs.map PyData.str) (ys.map PyData.str) = decide (xs = ys) := by
  intro xs
  induction xs with
  | nil => intro ys; cases ys <;> simp [PyData.eqvAll]
  | cons x r ih =>
    intro ys
    cases ys with
    | nil => simp [PyData.eqvAll]
    | cons y r' =>
      simp only [List.map_cons, PyData.eqvAll, PyData.eqv, ih, List.cons.injEq]
      by_cases h1 : x = y <;> by_cases h2 : r = r' <;> simp [h1, h2]
theorem canLay_strs : ∀ xs : List Str, (∀ x ∈ xs, PyData.strOk x = true) → PyData.canLayAll0 (xs.map PyData.str) = true := by
  intro xs
  induction xs with
  | nil => intro _; simp [PyData.canLayAll0]
  | cons x r ih =>
    intro h
    simp only [List.map_cons, PyData.canLayAll0, PyData.canLay0, Bool.and_eq_true]
    exact ⟨h x List.mem_cons_self, ih fun y hy => h y (List.mem_cons_of_mem _ hy)⟩
theorem depth_strs : ∀ xs : List Str, PyData.depthAll (xs.map PyData.str) = 0 := by
  intro xs
  induction xs with
  | nil => simp [PyData.depthAll]
  | cons x r ih => simp [PyData.depthAll, PyData.depth, ih]
theorem shaped_strs {xs : List Str} (h : ∀ x ∈ xs, PyData.strOk x = true) : SeqAt.shaped (.list (xs.map PyData.str)) = true := by
  unfold SeqAt.shaped
  simp only [PyData.canLay0, canLay_strs xs h, Bool.true_and, PyData.depth, depth_strs]
  decide
section
variable {prog : Program} {w : World} {A : Around} {E : Value → Shared → Prop} {s : Shared} {a b : Addr} {its its2 : Array Value} {xs ys : List Str} {Q : Value → Shared → Prop}
theorem reads_strs {h : Heap} (ha : h.IsList a its) (h1 : StrsAre its.toList xs) : Reads h (.ref a) (.list (xs.map PyData.str)) [a] := by
  obtain ⟨o, ho, hc, n, hd⟩ := ha
  exact reads_list_at ho hc hd (strs_readAll h h1)
theorem eq_strs (ha : s.heap.IsList a its) (hb : s.heap.IsList b its2) (h1 : StrsAre its.toList xs) (h2 : StrsAre its2.toList ys) (k1 : ∀ x ∈ xs, PyData.strOk x = true) (k2 : ∀ x ∈ ys, PyData.strOk x = true) (hu : A.units + 64 < cLine)
    (h : Q (.bool (decide (xs = ys))) s) : wpAny (model prog w) A (compareOp .Eq (.ref a) (.ref b)) Q E s :=
  eq_dataH (reads_strs ha h1) (reads_strs hb h2) (shaped_strs k1) (shaped_strs k2) hu (by rw [PyData.eqv, eqvAll_strs]; exact h)
theorem ne_strs (ha : s.heap.IsList a its) (hb : s.heap.IsList b its2) (h1 : StrsAre its.toList xs) (h2 : StrsAre its2.toList ys) (k1 : ∀ x ∈ xs, PyData.strOk x = true) (k2 : ∀ x ∈ ys, PyData.strOk x = true) (hu : A.units + 64 < cLine)
    (h : Q (.bool (!decide (xs = ys))) s) : wpAny (model prog w) A (compareOp .NotEq (.ref a) (.ref b)) Q E s :=
  ne_dataH (reads_strs ha h1) (reads_strs hb h2) (shaped_strs k1) (shaped_strs k2) hu (by rw [PyData.eqv, eqvAll_strs]; exact h)
theorem any_strs (x : Str) : ∀ xs : List Str, ((xs.map PyData.str).any fun y => PyData.eqv y (.str x)) = xs.contains x := by
  intro xs
  induction xs with
  | nil => rfl
  | cons y r ih =>
    simp only [List.map_cons, List.any_cons, ih, PyData.eqv, List.contains_cons]
    congr 1
    exact Bool.beq_comm
theorem in_strs {x : Str} {t : Tok} (ha : s.heap.IsList a its) (h1 : StrsAre its.toList xs) (k1 : ∀ x ∈ xs, PyData.strOk x = true) (k2 : PyData.strOk x = true) (hu : A.units + 1 < cLine)
    (h : Q (.bool (xs.contains x)) s) : wpAny (model prog w) A (compareOp .In (.str x t) (.ref a)) Q E s :=
  SeqAt.in_list_reads (reads_strs ha h1) (.str x t) (canLay_strs xs k1) (by rw [PyData.canLay0]; exact k2) (by rw [depth_strs]; simpa using hu) (by rw [any_strs]; exact h)
end

/-- a list of lists of texts, in a heap -/
inductive RowsAre (h : Heap) : List Value → List (List Str) → Prop
  | nil : RowsAre h [] []
  | cons {a : Addr} {its : Array Value} {r : List Str} {vs : List Value} {rs : List (List Str)} : h.IsList a its → StrsAre its.toList r → RowsAre h vs rs → RowsAre h (.ref a :: vs) (r :: rs)
theorem RowsAre.up {h h' : Heap} {vs : List Value} {rs : List (List Str)} (x : RowsAre h vs rs) (st : h.StaysIn h') : RowsAre h' vs rs := by
  induction x with
  | nil => exact .nil
  | cons hl hS _ ih => exact .cons (hl.at fun o e => st _ _ e) hS ih
theorem RowsAre.length {h : Heap} {vs : List Value} {rs : List (List Str)} (x : RowsAre h vs rs) : vs.length = rs.length := by
  induction x with
  | nil => rfl
  | cons _ _ _ ih => simp [ih]
theorem RowsAre.get {h : Heap} {vs : List Value} {rs : List (List Str)} (x : RowsAre h vs rs) : ∀ {i : Nat} {v : Value}, vs[i]? = some v → ∃ a its r, rs[i]? = some r ∧ v = .ref a ∧ h.IsList a its ∧ StrsAre its.toList r := by
  induction x with
  | nil => intro i v e; simp at e
  | cons hl hS _ ih =>
    intro i v e
    cases i with
    | zero => exact ⟨_, _, _, rfl, by simpa using e.symm, hl, hS⟩
    | succ i => exact ih (by simpa using e)
theorem RowsAre.append {h : Heap} {vs ws : List Value} {rs qs : List (List Str)} (x : RowsAre h vs rs) (y : RowsAre h ws qs) : RowsAre h (vs ++ ws) (rs ++ qs) := by
  induction x with
  | nil => exact y
  | cons hl hS _ ih => exact .cons hl hS ih

end Mine

namespace Mine

section
variable {w : World} {dp un : Nat} {gd : Option (List Code)} {cn : Str} {cs : Scope} {a : Addr} {ccd : Value} {cl : List (Str × Addr)} {outer : List Env} {A₀ : Around} {base h₀ : Heap} {L : Addr} {m mg mb : Str → Option Value} {s : Shared} {Q E : Value → Shared → Prop}
  {p : Program} {loose : List Str} {mean : ExcName → Option Value} {news : List (Addr × Obj)}

theorem alphaN_ok {c : Str} (h : c ∈ alphaN) : PyData.strOk c = true ∧ c.length < 10 := by
  have : alphaN.all (fun c => PyData.strOk c && decide (c.length < 10)) = true := by decide +kernel
  have := List.all_eq_true.mp this c h
  simpa using this

local macro_rules | `(tactic| walk_at "subscriptTail") => `(tactic| (k_here; (with_reducible show wpAny _ _ (subscriptTail _ (Expr.Slice _ _ none _) (Value.ref _) (Value.ref _)) _ _ _); k_dflt (refine' kmk_slice ?F ?N ?l ?pl ?pu ?_ ?hs ?ht ?z; (case F => k_asm); (case N => k_asm); (case l => first | assumption | exact News.isList (by k_asm) (by k_mem)); (case pl => first | exact IsPart.none | exact IsPart.int _ _); (case pu => first | exact IsPart.none | exact IsPart.int _ _); (case hs => with_unfolding_all rfl); (case ht => (intro _; with_unfolding_all rfl)); (case z => (rw [PySem.sizeLine_eq]; omega))); intro D' h' F' N' l1'; (try k_lt l1')))
local macro_rules | `(tactic| walk_at "subscriptTail Name Slice ref ref") => `(tactic| (k_here; (with_reducible show wpAny _ _ (subscriptTail _ (Expr.Slice _ _ none _) (Value.ref _) (Value.ref _)) _ _ _); k_dflt (refine' kmk_slice ?F ?N ?l ?pl ?pu ?_ ?hs ?ht ?z; (case F => k_asm); (case N => k_asm); (case l => first | assumption | exact News.isList (by k_asm) (by k_mem)); (case pl => first | exact IsPart.none | exact IsPart.int _ _); (case pu => first | exact IsPart.none | exact IsPart.int _ _); (case hs => with_unfolding_all rfl); (case ht => (intro _; with_unfolding_all rfl)); (case z => (rw [PySem.sizeLine_eq]; omega))); intro D' h' F' N' l1'; (try k_lt l1')))
local macro_rules | `(tactic| walk_at "call builtin:len") => `(tactic| (k_here; (with_reducible show wpAny _ _ (call (Value.builtin "len") [Value.ref _]) _ _ _); k_dflt (refine' len_list ?l ?f ?_; (case l => assumption); (case f => omega))))

local macro_rules | `(tactic| walk_at "call builtin:str.join") => `(tactic| (k_here; (with_reducible show wpAny _ _ (call (Value.builtin _) [Value.str _ _, Value.ref _]) _ _ _); k_dflt (refine' join_listW ?k1 ?k2 ?k3 ?k4 ?_; (case k1 => assumption); (case k2 => assumption); (case k3 => decide); (case k4 => assumption)); intro t' k'))

theorem due_spec {rl nl : Addr} {its nits : Array Value} {rs : List (List Str)} {ns : List Str} (hl : s.heap.IsList rl its) (hR : RowsAre s.heap its.toList rs) (hok : ∀ r ∈ rs, OkN r) (hrl : rs.length ≤ 8)
    (hnl : s.heap.IsList nl nits) (hN : StrsAre nits.toList ns) (hn : OkN ns)
    (B : Below A₀ base outer h₀) (F : Fr h₀ L s.heap m) (N : News h₀ L s.heap news) (X : (Mine.hd.heap_39 w.params).In h₀) (T : Top p loose mean mg mb h₀) (hk : cs.kind = .function) (hd : dp + 6 < recursionLimit) (hu : un + 300 < cLine)
    (hret : ∀ D its k h' tk', s.heap.StaysIn h' → Fr h₀ L h' m → StrsAre its.toList (((rs.filter fun r => decide (ns.take r.length = r)).map render).take 1) → News h₀ L h' ((D, W.listOf its k) :: news) → LCg.Off1 D news → Q (.ref D) { s with heap := h', toks := tk' }) :
    wpAny (model Challenge.pw_pd0108_01 w) (ktrTop dp un gd cn cs L a ccd cl outer) (call (.ref 236) [.ref rl, .ref nl]) Q E s := by
  have hSh := PySem.Flt.Hid.mk hN
  clear hN
  refine wpAny_call ?_
  refine enterC [(Str.ofString "rules", .ref rl), (Str.ofString "names", .ref nl)] B F X T rfl rfl hk (by k_is) (by k_is) (by ktr_room) (BindsTo.of_eq rfl) rfl (by decide +kernel) ?_ rfl rfl rfl
  intro L' h' tk' cells' F' N' Y' B' X' T'
  k_cells Y'
  try dsimp only at N'
  repeat' ((fail_if_success (with_reducible show wpAny _ _ (eval (Expr.ListComp _ _ _ _) _) _ _ _)); first | (k_unfold; (try dsimp only)) | (k_end; wrow_close) | walk1 | (dsimp only; walk1) | (leave1; walk_say "STEP leave1"; try dsimp only) | fail "no step")
  refine ListComp_N F' (by with_unfolding_all rfl) (by decide) rfl (by decide) rfl ?_ (by intro _; rfl)
  repeat' (first | (k_unfold; (try dsimp only)) | walk1 | (dsimp only; walk1))
  have hlen := hR.length
  have hsz : its.size = rs.length := by simpa using hlen
  refine ⟨rl, its, _, fun i ys nw => nw = [] ∧ StrsAre ys (((rs.take i).filter fun r => decide (ns.take r.length = r)).map render), rfl, rfl, .inl (hl.at fun o e => F'.keep _ _ e), .inl (by obtain ⟨o, ho, _⟩ := hl; exact ⟨o, ho⟩), by rw [PySem.sizeLine_eq]; omega, F', N', ⟨rfl, .nil⟩, ?_, ?_⟩
  · rintro s₂ ⟨g2, rfl⟩ i v ys nw I oI C oC D m₂ h tk E' hv hoC hx F2 N2 off ne ⟨rfl, hys⟩
    obtain ⟨ra, rits, r, hc, rfl, hrl', hrS⟩ := hR.get (show its.toList[i]? = some v by simpa using hv)
    have hr := List.mem_of_getElem? hc
    have P := names_ok (hok r hr)
    have hrS' := PySem.Flt.Hid.mk hrS
    have hrsz : rits.size = r.length := by have := hrS.length; simpa using this
    have hnsz : nits.size = ns.length := by have := hSh.out.length; simpa using this
    have hr4 := (hok r hr).1
    have hn4 := hn.1
    clear hrS
    replace N2 : News s.heap L' h [(I, oI), (C, oC), (D, LCg.lst ys), (L' + 1, _)] := N2
    simp only [LCg.Off3, List.nil_append, and_true] at off
    have hl2 : h.IsList ra rits := hrl'.at fun o e => F2.keep _ _ e
    have hnl2 : h.IsList nl nits := hnl.at fun o e => F2.keep _ _ e
    refine compN_one ?_
    repeat' ((fail_if_success (with_reducible show wpAny _ _ (compareOp _ _ _) _ _ _)); first | (k_unfold; (try dsimp only)) | (k_end; wrow_close) | walk1 | (dsimp only; walk1) | (leave1; walk_say "STEP leave1"; try dsimp only) | fail "no step")
    rename Fr s.heap L' _ _ => F8
    rename News s.heap L' _ _ => N8
    refine eq_strs (xs := ns.take r.length) (ys := r) (News.isList N8 List.mem_cons_self) (hrl'.at fun o e => F8.keep _ _ e) ?_ hrS'.out ?_ ?_ (by ktr_units) ?_
    · rw [pick_upto, hrsz]
      exact strs_take hSh.out _
    · exact fun x hx => (alphaN_ok (hn.2 x (List.mem_of_mem_take hx))).1
    · exact fun x hx => (alphaN_ok ((hok r hr).2 x hx)).1
    have hstep : ((rs.take (i + 1)).filter (fun r => decide (ns.take r.length = r))).map render = ((rs.take i).filter (fun r => decide (ns.take r.length = r))).map render ++ (if decide (ns.take r.length = r) = true then [render r] else []) := by
      rw [List.take_add_one, hc, List.filter_append, List.map_append]
      congr 1
      simp only [Option.toList_some, List.filter_cons, List.filter_nil]
      split <;> rfl
    k_steps
    rw [hstep]
    have h0 : ∀ p ∈ ([] : List (Addr × Obj)), p.1 ≠ I ∧ p.1 ≠ C ∧ p.1 ≠ D := fun p hp => nomatch hp
    cases hcov : decide (ns.take r.length = r) with
    | true =>
      refine TestN.yes rfl ?_
      have hl3 : Heap.IsList _ ra rits := hrl'.at fun o e => F8.keep _ _ e
      have hrS2 := hrS'.out
      have hsm : (r.map (·.length)).sum + r.length ≤ 1048576 := by have := P.sm; omega
      have hjl : (Txt.join (Str.ofString "/") r).length < 900 := P.jl
      k_steps
      rename Fr s.heap L' _ _ => F7
      rename News s.heap L' _ _ => N7
      refine EltN.mk' [] F7 N7 (fun p hp => List.mem_cons_of_mem _ hp) h0 ⟨rfl, ?_⟩
      rw [if_pos rfl]
      exact strs_append hys (.cons _ _ .nil)
    | false =>
      refine TestN.no rfl F8 N8 (fun p hp => List.mem_cons_of_mem _ hp) ⟨by trivial, ?_⟩
      rw [if_neg (by decide), List.append_nil]
      exact hys
  · rintro s₂ ⟨g2, rfl⟩ D ys nw h tk N2 o1 ⟨rfl, hys⟩ F2
    have hsz2 : ys.length ≤ 8 := by
      have h1 := hys.length
      have h2 := List.length_filter_le (fun r => decide (ns.take r.length = r)) (rs.take its.size)
      rw [List.length_take] at h2
      rw [List.length_map] at h1
      omega
    have hsz3 : ys.toArray.size ≤ 8 := by simpa using hsz2
    have hys' := PySem.Flt.Hid.mk hys
    clear hys N' F'
    replace N2 : News s.heap L' h [(D, LCg.lst ys), (L' + 1, _)] := N2
    k_steps
    rename Fr s.heap L' _ _ => F8
    rename News s.heap L' _ _ => N8
    have st8 := F8.keep
    have z := news_ret F N st8 (N8.get List.mem_cons_self) (N8.fresh List.mem_cons_self)
    refine hret _ _ _ _ _ st8 (fr_up F st8) ?_ z.1 z.2
    have e := pick_upto ys.toArray 1
    rw [show ((1 : Nat) : Int) = 1 from rfl] at e
    rw [e]
    have h1 := strs_take hys'.out 1
    rw [hsz, List.take_length] at h1
    exact h1
end
end Mine

namespace Mine
theorem mro_map : mroOf (.type "map") = pure [.type "map", .type "object"] := by rw [mroOf_type]; kernel_rfl
theorem lookup_map_new : typeLookup (.type "map") "__new__" = pure (some (.builtin "map.__new__")) := by rw [typeLookup_type, builtinLookup_eq_fast]; kernel_rfl
theorem slot_map_init : Slot "map" "__init__" "object.__init__" :=
  .of (owner := "object") (n := "__init__") (by rw [typeLookup_type, builtinLookup_eq_fast]; kernel_rfl) (by decide +kernel) (by decide +kernel) (by decide +kernel)
    (by first | exact .inl (by decide +kernel) | exact .inr (by decide +kernel)) (by rw [isSubtype_type]; kernel_rfl)
theorem slot_map_next : Slot "map" "__next__" "map.__next__" :=
  .of (owner := "map") (n := "__next__") (by rw [typeLookup_type, builtinLookup_eq_fast]; kernel_rfl) (by decide +kernel) (by decide +kernel) (by decide +kernel)
    (by first | exact .inl (by decide +kernel) | exact .inr (by decide +kernel)) (by rw [isSubtype_type]; kernel_rfl)
theorem slot_map_iter : Slot "map" "__iter__" "map.__iter__" :=
  .of (owner := "map") (n := "__iter__") (by rw [typeLookup_type, builtinLookup_eq_fast]; kernel_rfl) (by decide +kernel) (by decide +kernel) (by decide +kernel)
    (by first | exact .inl (by decide +kernel) | exact .inr (by decide +kernel)) (by rw [isSubtype_type]; kernel_rfl)
theorem entry_map_iter : entryFor table "map.__iter__" = some Builtin.«dict_keyiterator.__iter__» :=
  entryFor_alias (id' := "dict_keyiterator.__iter__") (by kernel_rfl) (by first | rfl | decide +kernel | (unfold String.splitOn; simp +decide [String.splitOnAux])) (by decide +kernel) (by kernel_rfl)
theorem entry_map_next : entryFor table "map.__next__" = some Builtin.«map.__next__» := entryFor_of_tree (by kernel_rfl)
theorem entry_map_new : entryFor table "map.__new__" = some Builtin.«map.__new__» := entryFor_of_tree (by kernel_rfl)
theorem args_map_next (a : Value) : argsOk "map.__next__" ⟨[a], []⟩ := by unfold argsOk; kernel_rfl
theorem args_map_iter (a : Value) : argsOk "map.__iter__" ⟨[a], []⟩ := by unfold argsOk; kernel_rfl
theorem called_map : TypeCalled "map" "map.__new__" "object.__init__" :=
  ⟨by decide +kernel, by decide +kernel, ⟨_, _, mro_map⟩, madeBy_type mro_map lookup_map_new (by decide +kernel), by decide +kernel, by rw [isSubtype_type]; kernel_rfl, slot_map_init⟩
theorem typeCall_map (a b : Value) : checkTypeCall "map" ⟨[a, b], []⟩ = pure () := by kernel_rfl
theorem newCall_map (a b : Value) : checkBuiltinCall "map.__new__" ⟨[.type "map", a, b], []⟩ = pure () := by kernel_rfl
theorem initArgs_map (obj a b : Value) : argsOk "object.__init__" ⟨[obj, a, b], []⟩ := by unfold argsOk; kernel_rfl
theorem map_no_len : typeLookup (.type "map") "__len__" = pure none := by rw [typeLookup_type, builtinLookup_eq_fast]; kernel_rfl
theorem map_no_hint : typeLookup (.type "map") "__length_hint__" = pure none := by rw [typeLookup_type, builtinLookup_eq_fast]; kernel_rfl

theorem meets_map_new (f : Value) (l : Addr) (items : Array Value) :
    Meets (Builtin.«map.__new__» ⟨[.type "map", f, .ref l], []⟩) (fun _ R s => s.heap.IsList l items ∧
      R (.ok (.ret (.ref (s.heap.objs.size + 2))))
        { s with heap := ((s.heap.push { cls := .type "list_iterator", data := .fields #[.ref l, .int 0 0] }).push { cls := .type "tuple", data := .seq #[.ref s.heap.objs.size] }).push { cls := .type "map", data := .fields #[.ref (s.heap.objs.size + 1), f] } }) :=
  .of_wp fun prog w A R s h => by
    obtain ⟨hp, g, d, tk, os⟩ := s
    obtain ⟨hL, h⟩ := h
    have hsub := called_map.sub
    unfold Builtin.«map.__new__»
    wp_walk using wpAny_pyIter_list hL
    refine ⟨_, rfl, ?_⟩
    simp only [Heap.size_push]
    exact h

section
variable {prog : Program} {w : World} {A : Around} {E : Value → Shared → Prop} {s : Shared}
theorem call_map {f : Value} {l : Addr} {items : Array Value} {Q : Value → Shared → Prop} (hl : s.heap.IsList l items)
    (h : ∀ h', s.heap.StaysIn h' → h'.get? s.heap.objs.size = some { cls := .type "list_iterator", data := .fields #[.ref l, .int 0 0] } → h'.get? (s.heap.objs.size + 1) = some { cls := .type "tuple", data := .seq #[.ref s.heap.objs.size] } →
      h'.get? (s.heap.objs.size + 2) = some { cls := .type "map", data := .fields #[.ref (s.heap.objs.size + 1), f] } → h'.objs.size = s.heap.objs.size + 3 → Q (.ref (s.heap.objs.size + 2)) { s with heap := h' }) :
    wpAny (model prog w) A (call (.type "map") [f, .ref l]) Q E s := by
  refine callType_new called_map (by decide) (typeCall_map _ _) (newCall_map _ _) (fun obj => initArgs_map obj _ _) entry_map_new (meets_map_new f l items) ⟨hl, ?_⟩
  generalize hH : ((s.heap.push { cls := .type "list_iterator", data := .fields #[.ref l, .int 0 0] }).push { cls := .type "tuple", data := .seq #[.ref s.heap.objs.size] }).push { cls := .type "map", data := .fields #[.ref (s.heap.objs.size + 1), f] } = H
  have h1 : H.get? s.heap.objs.size = some { cls := .type "list_iterator", data := .fields #[.ref l, .int 0 0] } := by
    rw [← hH]; exact Heap.get?_push_of_some _ (Heap.get?_push_of_some _ (Heap.get?_push_size _ rfl))
  have h2 : H.get? (s.heap.objs.size + 1) = some { cls := .type "tuple", data := .seq #[.ref s.heap.objs.size] } := by
    rw [← hH]
    refine Heap.get?_push_of_some _ ?_
    have := Heap.get?_push_size (s.heap.push { cls := .type "list_iterator", data := .fields #[.ref l, .int 0 0] }) (o := { cls := .type "tuple", data := .seq #[.ref s.heap.objs.size] }) rfl
    rw [Heap.size_push] at this
    exact this
  have h3 : H.get? (s.heap.objs.size + 2) = some { cls := .type "map", data := .fields #[.ref (s.heap.objs.size + 1), f] } := by
    rw [← hH]
    have := Heap.get?_push_size ((s.heap.push { cls := .type "list_iterator", data := .fields #[.ref l, .int 0 0] }).push { cls := .type "tuple", data := .seq #[.ref s.heap.objs.size] }) (o := { cls := .type "map", data := .fields #[.ref (s.heap.objs.size + 1), f] }) rfl
    rw [Heap.size_push, Heap.size_push] at this
    exact this
  exact ⟨⟨_, h3, rfl⟩, h H (fun b o e => by rw [← hH]; exact Heap.get?_push_of_some _ (Heap.get?_push_of_some _ (Heap.get?_push_of_some _ e))) h1 h2 h3 (by rw [← hH, Heap.size_push, Heap.size_push, Heap.size_push])⟩

/-- a map over a list, item by item -/
theorem map_walks (hh : A.handled = none) {hb : Heap} {M T it l : Addr} {f : Value} {items : Array Value} (res : Value → Tok → Value)
    (hM : hb.get? M = some { cls := .type "map", data := .fields #[.ref T, f] }) (hT : hb.get? T = some { cls := .type "tuple", data := .seq #[.ref it] }) (hl : hb.IsList l items) (hit : ∃ o, hb.get? it = some o)
    (hMi : M ≠ it) (hTi : T ≠ it) (hli : l ≠ it)
    (hcall : ∀ v, v ∈ items → ∀ (s : Shared) (Q E : Value → Shared → Prop), (∀ b o, b ≠ it → hb.get? b = some o → s.heap.get? b = some o) → (∀ t h' tk', s.heap.StaysIn h' → Q (res v t) { s with heap := h', toks := tk' }) → wpAny (model prog w) A.in1 (call f [v]) Q E s) :
    Walks prog w A M (List.range hb.objs.size) [it] items.size (fun i v => ∃ u t, items[i]? = some u ∧ v = res u t) (fun i h => (∀ b o, b ≠ it → hb.get? b = some o → h.get? b = some o) ∧ h.IsListIter it l i) where
  sub := fun b hb' => by
    rw [List.mem_singleton.mp hb']
    obtain ⟨o, ho⟩ := hit
    exact List.mem_range.mpr (Heap.lt_size ho)
  frame := fun i h h' st hk => by
    obtain ⟨o, ho⟩ := hit
    exact ⟨fun b o hbi e => hk b (List.mem_range.mpr (Heap.lt_size e)) o (st.1 b o hbi e), st.2.at fun o' e => hk it (List.mem_range.mpr (Heap.lt_size ho)) o' e⟩
  item := fun i s Q E hi st hQ => by
    have zM := st.1 _ _ hMi hM
    have zT := st.1 _ _ hTi hT
    have hTy : s.TypeIs (.ref M) "map" := ⟨_, zM, rfl⟩
    unfold pyNext
    refine wpAny_bind (wpAny_attempt (wpAny_callSpecial?_slot (name := Str.ofString "__next__") hTy slot_map_next (wpAny_call_entry slot_map_next hTy entry_map_next ?_ (args_map_next _))))
    show wpAny _ _ (field (.ref M) 0 >>= _) _ _ s
    refine wpAny_bind (wpAny_field zM rfl (x := .ref T) rfl ?_)
    refine wpAny_bind (wpAny_seqItems zT rfl ?_)
    dsimp only
    rw [← Array.forIn_toList]
    simp only [List.forIn_cons, List.forIn_nil]
    have hLs : s.heap.IsList l items := hl.at fun o e => st.1 _ _ hli e
    have D := Draws.list (prog := prog) (w := w) (A := A.in1) hh it l hli items
    refine wpAny_bind (wpAny_bind (wpAny_bind (wpAny_holding (D.item i s _ _ hi ⟨st.2, hLs⟩ fun x h1 tk1 hx st1 hs1 => ?_))))
    refine wpAny_pure (wpAny_pure ?_)
    have keep1 : ∀ b o, b ≠ it → hb.get? b = some o → h1.get? b = some o := fun b o hbi e => (hs1.2 b hbi).trans (st.1 b o hbi e)
    refine wpAny_bind (wpAny_field (keep1 _ _ hMi hM) rfl (x := f) rfl ?_)
    have hx' : x ∈ items := by
      have : items.toList[i]? = some x := by simpa using hx
      exact Array.mem_def.mpr (List.mem_of_getElem? this)
    refine wpAny_bind (wpAny_holding (hcall x hx' _ _ _ keep1 fun t h2 tk2 st2 => ?_))
    refine wpAny_bind (wpAny_letGo ?_)
    refine wpAny_pure ⟨_, rfl, ?_⟩
    refine wpAny_pure (hQ _ h2 tk2 ⟨x, t, hx, rfl⟩ ⟨fun b o hbi e => st2 _ _ (keep1 b o hbi e), st1.1.at fun o e => st2 _ _ e⟩ fun b o hbi e => ?_)
    exact st2 _ _ ((hs1.2 b (by simpa using hbi)).trans e)
  done := fun s Q E st hQ => by
    have zM := st.1 _ _ hMi hM
    have zT := st.1 _ _ hTi hT
    have hTy : s.TypeIs (.ref M) "map" := ⟨_, zM, rfl⟩
    unfold pyNext
    refine wpAny_bind (wpAny_attempt (wpAny_callSpecial?_slot (name := Str.ofString "__next__") hTy slot_map_next (wpAny_call_entry slot_map_next hTy entry_map_next ?_ (args_map_next _))))
    show wpAny _ _ (field (.ref M) 0 >>= _) _ _ s
    refine wpAny_bind (wpAny_field zM rfl (x := .ref T) rfl ?_)
    refine wpAny_bind (wpAny_seqItems zT rfl ?_)
    dsimp only
    rw [← Array.forIn_toList]
    simp only [List.forIn_cons, List.forIn_nil]
    have hLs : s.heap.IsList l items := hl.at fun o e => st.1 _ _ hli e
    have D := Draws.list (prog := prog) (w := w) (A := A.in1) hh it l hli items
    refine wpAny_bind (wpAny_bind (wpAny_bind (wpAny_holding (D.done s _ _ ⟨st.2, hLs⟩ fun h1 e ext he => ?_))))
    obtain ⟨oe, hoe, hce⟩ := he
    have hTe : ({ s with heap := h1 } : Shared).TypeIs (.ref e) "StopIteration" := ⟨oe, hoe, hce⟩
    refine wpAny_bind (wpAny_isInstance hTe (b := true) (by rw [isSubtype_type]; kernel_rfl) ?_)
    simp only [if_true]
    exact wpAny_pure (hQ h1 _ fun b o hbi e => ext b o (by simpa using hbi) e)
  self := fun i s Q E st hQ => by
    have zM := st.1 _ _ hMi hM
    have hTy : s.TypeIs (.ref M) "map" := ⟨_, zM, rfl⟩
    refine wpAny_pyIter_slot hTy slot_map_iter (wpAny_call_entry slot_map_iter hTy entry_map_iter ?_ (args_map_iter _))
    show wpAny _ _ (ret (.ref M)) _ _ s
    exact wpAny_pure ⟨_, rfl, "map", _, hTy, slot_map_next.lookup, hQ⟩
end
end Mine

namespace Mine
open AutoSeq1 (wpAny_loadPart')
section
variable {prog : Program} {w : World} {A : Around} {E : Value → Shared → Prop} {s : Shared}
variable {I : Addr} {fp wr : List Addr} {G : Array GenState → Array GenState → Prop} {n : Nat} {P : Nat → Value → Prop} {St : Nat → Shared → Prop}

/-- a map walked to its end into a list of the machine's own -/
theorem collect_map {Q : List Value → Shared → Prop} (W : WalksS prog w A.in1 I fp wr G n P St) (hT : ∀ i s, St i s → s.TypeIs (.ref I) "map") (hst : St 0 s) (hfp : ∀ b ∈ fp, b < s.heap.objs.size) (hI : I ∈ fp)
    (hQ : ∀ s' acc, Moved wr G s s' → ItemsOf P acc n → Q acc.toList s') (hn : n ≤ sizeLine) : wpAny (model prog w) A (collect (.ref I)) Q E s := by
  have hSf : s.heap.objs.size ∉ fp := fun hm => Nat.lt_irrefl _ (hfp _ hm)
  have hSI : s.heap.objs.size ≠ I := fun e => hSf (e ▸ hI)
  unfold collect
  refine wpAny_bind (wpAny_runValue (codeAny_builtin F.entry_proto_collect ?_))
  rw [Around.under_plainId F.plain_proto_collect _]
  show wpAny _ A.in1 (newList [] >>= fun l => again (.builtin "list.__iadd__" ⟨[l, .ref I], []⟩)) _ _ s
  refine wpAny_bind (wpAny_newObj_type ?_)
  refine wpAny_pure ⟨plainId_quiet F.plain_list_iadd _, codeAny_builtin F.entry_list_iadd ?_⟩
  rw [Around.under_plainId F.plain_list_iadd _]
  have hst₁ := W.frame 0 s (s.heap.push { cls := .type "list", data := .seq ([] : List Value).toArray }) s.toks hst (Nat.le_refl _) fun b _ o e => Heap.get?_push_of_some _ e
  show wpAny _ A.in1 (Builtin.List.listExtendWith (.ref s.heap.objs.size) (.ref I) (.ref s.heap.objs.size)) _ _ _
  unfold Builtin.List.listExtendWith
  refine wpAny_bind (wpAny_typeOf (hT 0 _ hst₁) ?_)
  have h1 : Builtin.List.listSameRef (.ref s.heap.objs.size) (.ref I) = false := by simp [Builtin.List.listSameRef, hSI]
  have h2 : (Value.type "map" == Value.type "list") = false := by decide
  have h3 : (Value.type "map" == Value.type "tuple") = false := by decide
  simp only [h1, h2, h3, Bool.or_false, Bool.false_eq_true, if_false]
  refine wpAny_bind (W.self 0 _ _ _ hst₁ ?_)
  refine wpAny_bind (wpAny_holding ?_)
  unfold Builtin.List.listLengthHint
  refine wpAny_bind (wpAny_specialOf (hT 0 _ hst₁) map_no_len ?_)
  show wpAny _ A.in1 (specialOf (Value.ref I) (Str.ofString "__length_hint__") >>= _) _ _ _
  refine wpAny_bind (wpAny_specialOf (hT 0 _ hst₁) map_no_hint ?_)
  refine wpAny_pure ?_
  show wpAny _ A.in1 (rule "list.extend.makes-room" >>= fun _ => Builtin.List.listTouch (.ref s.heap.objs.size) >>= fun _ =>
    again (.builtin "list.extend.loop" ⟨[.ref s.heap.objs.size, .ref I, .ref s.heap.objs.size], []⟩)) _ _ _
  refine wpAny_bind (wpAny_rule ?_)
  have hS₁ : (s.heap.push { cls := .type "list", data := .seq ([] : List Value).toArray }).get? s.heap.objs.size = some { cls := .type "list", data := .seq ([] : List Value).toArray } := Heap.get?_push_size _ rfl
  refine wpAny_bind ?_
  show wpAny _ A.in1 (updateSeq s.heap.objs.size (·.push .none) >>= fun _ => updateSeq s.heap.objs.size (·.pop)) _ _ _
  refine wpAny_bind (wpAny_updateSeq hS₁ rfl ?_)
  have hS₂ := Heap.get?_update_self (Obj.mapSeq (·.push Value.none)) hS₁ rfl
  refine wpAny_updateSeq hS₂ rfl ?_
  have hS₃ := Heap.get?_update_self (Obj.mapSeq (·.pop)) hS₂ rfl
  have oth : ∀ b o, b ≠ s.heap.objs.size → (s.heap.push { cls := .type "list", data := .seq ([] : List Value).toArray }).get? b = some o →
      (((s.heap.push { cls := .type "list", data := .seq ([] : List Value).toArray }).update s.heap.objs.size (Obj.mapSeq (·.push Value.none))).update s.heap.objs.size (Obj.mapSeq (·.pop))).get? b = some o :=
    fun b o hb e => (Heap.get?_update_other _ _ (Ne.symm hb)).trans ((Heap.get?_update_other _ _ (Ne.symm hb)).trans e)
  refine wpAny_pure ⟨plainId_quiet F.plain_extend_loop _, codeAny_extend_loopS W hn _ hSf _ n 0 _ _ _ rfl (Nat.zero_le _)
    (W.frame 0 ({ s with heap := s.heap.push { cls := .type "list", data := .seq ([] : List Value).toArray } } : Shared) _ s.toks hst₁ (Nat.le_refl _) fun b hb o e => oth b o (fun h => hSf (h ▸ hb)) e) hS₃ (ItemsOf.nil P) fun s' acc' c' hm hS' hacc => ?_⟩
  show wpAny _ A (load s.heap.objs.size >>= _) _ _ s'
  refine wpAny_bind (wpAny_load hS' ?_)
  refine wpAny_pure (hQ s' acc' (Moved.drop_new (o := { cls := .type "list", data := .seq ([] : List Value).toArray }) (tk := s.toks) (Moved.trans W.gtrans ((Moved.refl W.grefl).then_heap (by first | exact Nat.le_refl _ | exact Nat.le_succ _ | omega) fun b o hb e => ?_) hm) (Nat.le_refl _)) hacc)
  exact oth b o (fun h => hb (h ▸ List.mem_cons_self)) e

theorem code_tuple_map {Q₁ : Value → Shared → Prop} (W : WalksS prog w A.in1.in1 I fp wr G n P St) (hT : ∀ i s, St i s → s.TypeIs (.ref I) "map") (hst : St 0 s) (hfp : ∀ b ∈ fp, b < s.heap.objs.size) (hI : I ∈ fp)
    (h : ∀ s' acc, Moved wr G s s' → ItemsOf P acc n → Q₁ (.ref s'.heap.objs.size) { s' with heap := s'.heap.push { cls := .type "tuple", data := .seq acc } }) (hsz : n ≤ sizeLine) :
    codeAny (model prog w) A (.call (.builtin "tuple.__new__") ⟨[.type "tuple", .ref I], []⟩) (wants Q₁ E) s := by
  refine codeAny_of_tree ?_
  show wpAny _ A.in1 (do checkBuiltinCall "tuple.__new__" ⟨[.type "tuple", .ref I], []⟩; again (.builtin "tuple.__new__" ⟨[.type "tuple", .ref I], []⟩)) _ _ s
  refine wpAny_bind (wpAny_of_eq (F.newCall_tuple_1 _) (wpAny_pure ⟨plainId_quiet F.plain_tuple_new _, codeAny_builtin F.entry_tuple_new ?_⟩))
  rw [Around.under_plainId F.plain_tuple_new _]
  have hsub := sub_tuple_self
  have hinit := init_tuple_lookup
  have hmh := madeHere_tuple
  have hTI := hT 0 s hst
  wp_walk using wpAny_typeOf hTI, collect_map (hn := hsz) W hT hst hfp hI
  intro s' acc hm hacc
  show wpAny _ _ (Builtin.Tuple.tupleExact acc.toList.toArray >>= fun v => ret v) _ _ _
  unfold Builtin.Tuple.tupleExact
  refine wpAny_bind (wpAny_newObj_type ?_ (by show acc.toList.toArray.size ≤ sizeLine; simp only [Array.toArray_toList]; rw [hacc.1]; exact hsz))
  refine wpAny_pure ?_
  have e : acc.toList.toArray = acc := by simp
  rw [e]
  exact h s' acc hm hacc

theorem call_tuple_map {Q : Value → Shared → Prop} (W : WalksS prog w A.in1.in1.in1 I fp wr G n P St) (hT : ∀ i s, St i s → s.TypeIs (.ref I) "map") (hst : St 0 s) (hfp : ∀ b ∈ fp, b < s.heap.objs.size) (hI : I ∈ fp)
    (hQ : ∀ s' acc, Moved wr G s s' → ItemsOf P acc n → Q (.ref s'.heap.objs.size) { s' with heap := s'.heap.push { cls := .type "tuple", data := .seq acc } }) (hsz : n ≤ sizeLine) :
    wpAny (model prog w) A (call (.type "tuple") [.ref I]) Q E s := by
  refine callType_codes (Q₁ := fun obj s₁ => s₁.TypeIs obj "tuple" ∧ Q obj s₁) F.called_tuple (F.typeCall_tuple_1 _) F.entry_object_init
    (code_tuple_map (hsz := hsz) W hT hst hfp hI fun s' acc hm hacc => ⟨⟨_, Heap.get?_push_size _ rfl, rfl⟩, hQ s' acc hm hacc⟩) fun obj s₁ h₁ => ?_
  exact ⟨h₁.1, F.args_object_init_2 obj _, object_init_meets F.called_tuple.init.lookup F.called_tuple.made (by decide) prog w A.in1 _ s₁ ⟨h₁.1, rfl, h₁.2⟩⟩
end
end Mine

namespace Mine
abbrev mapO (T : Addr) (f : Value) : Obj := { cls := .type "map", data := .fields #[.ref T, f] }
abbrev tupO (vs : Array Value) : Obj := { cls := .type "tuple", data := .seq vs }
abbrev litO (l : Addr) : Obj := { cls := .type "list_iterator", data := .fields #[.ref l, .int 0 0] }
theorem strs_get' {vs : List Value} {xs : List Str} (h : StrsAre vs xs) : ∀ {i : Nat} {v : Value}, vs[i]? = some v → ∃ c t, xs[i]? = some c ∧ v = .str c t := by
  induction h with
  | nil => intro i v e; simp at e
  | cons y t _ ih =>
    intro i v e
    cases i with
    | zero => exact ⟨y, t, rfl, by simpa using e.symm⟩
    | succ i => exact ih (by simpa using e)
def strRes (u : Value) (t : Tok) : Value := match u with | .str x _ => .str x t | _ => .none
section
variable {w : World} {dp un : Nat} {gd : Option (List Code)} {cn : Str} {cs : Scope} {a : Addr} {ccd : Value} {cl : List (Str × Addr)} {outer : List Env} {A₀ : Around} {base h₀ : Heap} {L : Addr} {m mg mb : Str → Option Value} {s : Shared} {Q E : Value → Shared → Prop}
  {p : Program} {loose : List Str} {mean : ExcName → Option Value} {news : List (Addr × Obj)}

theorem map_K {prog : Program} {A : Around} {f : Value} {l : Addr} {items : Array Value} (F : Fr h₀ L s.heap m) (N : News h₀ L s.heap news) (hl : s.heap.IsList l items)
    (h : ∀ M T it h', Fr h₀ L h' m → News h₀ L h' ((M, mapO T f) :: (T, tupO #[.ref it]) :: (it, litO l) :: news) → (@LT.lt Nat _ it T ∧ @LT.lt Nat _ T M) → (∀ p ∈ news, p.1 < it) → (@LT.lt Nat _ l it) → Q (.ref M) { s with heap := h' }) :
    wpAny (model prog w) A (call (.type "map") [f, .ref l]) Q E s := by
  refine call_map hl fun h' st h1 h2 h3 hsz => ?_
  have hL := F.ns.lt
  have F' := fr_up F st
  have hnone : ∀ a, s.heap.objs.size ≤ a → h₀.get? a = none := fun a ha => Heap.get?_none_of_le (Nat.le_trans (Nat.le_trans F.above (Nat.le_of_lt hL)) ha)
  have hll : l < s.heap.objs.size := by obtain ⟨o, ho, _⟩ := hl; exact Heap.lt_size ho
  refine h _ _ _ h' F' (fun p hp => ?_) ⟨Nat.lt_succ_self _, Nat.lt_succ_self _⟩ (fun p hp => Heap.lt_size (N p hp).1) hll
  rcases List.mem_cons.mp hp with rfl | hp
  · exact ⟨h3, Nat.ne_of_gt (Nat.lt_of_lt_of_le hL (Nat.le_add_right _ _)), hnone _ (Nat.le_add_right _ _)⟩
  · rcases List.mem_cons.mp hp with rfl | hp
    · exact ⟨h2, Nat.ne_of_gt (Nat.lt_of_lt_of_le hL (Nat.le_succ _)), hnone _ (Nat.le_succ _)⟩
    · rcases List.mem_cons.mp hp with rfl | hp
      · exact ⟨h1, Nat.ne_of_gt hL, hnone _ (Nat.le_refl _)⟩
      · exact news_up N st p hp

theorem tuple_fspath {M T it l : Addr} {items : Array Value} {xs : List Str} (hl : s.heap.IsList l items) (hS : StrsAre items.toList xs) (hsz : items.size ≤ 1000) (hli : l ≠ it) (hMi : M ≠ it) (hTi : T ≠ it) (hoff : ∀ p ∈ news, p.1 ≠ it)
    (B : Below A₀ base outer h₀) (F : Fr h₀ L s.heap m) (N : News h₀ L s.heap ((M, mapO T (.ref 94)) :: (T, tupO #[.ref it]) :: (it, litO l) :: news)) (X : (Mine.hd.heap_39 w.params).In h₀) (Tp : Top p loose mean mg mb h₀) (hk : cs.kind = .function) (hd : dp + 2 < recursionLimit) (hu : un + 40 < cLine)
    (h : ∀ D acc h' tk', Fr h₀ L h' m → News h₀ L h' ((D, tupO acc) :: news) → (∀ p ∈ news, p.1 < D) → StrsAre acc.toList xs → Q (.ref D) { s with heap := h', toks := tk' }) :
    wpAny (model Challenge.pw_pd0108_01 w) (ktrTop dp un gd cn cs L a ccd cl outer) (call (.type "tuple") [.ref M]) Q E s := by
  have zM := N (M, _) List.mem_cons_self
  have zT := N (T, _) (List.mem_cons_of_mem _ List.mem_cons_self)
  have zi := N (it, _) (List.mem_cons_of_mem _ (List.mem_cons_of_mem _ List.mem_cons_self))
  have hLi : L ≠ it := Ne.symm zi.2.1
  have frOf : ∀ h', (∀ b o, b ≠ it → s.heap.get? b = some o → h'.get? b = some o) → Fr h₀ L h' m := fun h' k => by
    obtain ⟨oL, a1, a2, hL, a3⟩ := F.ns
    exact ⟨⟨oL, a1, a2, k _ _ hLi hL, a3⟩, fun b o e => k b o (fun q => by rw [q, zi.2.2] at e; cases e) (F.keep b o e), F.above⟩
  have W := map_walks (prog := Challenge.pw_pd0108_01) (w := w) (A := (ktrTop dp un gd cn cs L a ccd cl outer).in1.in1.in1) rfl (hb := s.heap) (M := M) (T := T) (it := it) (l := l) (f := .ref 94) (items := items) strRes zM.1 zT.1 hl ⟨_, zi.1⟩ hMi hTi hli ?_
  · refine call_tuple_map W.toS (fun i s' st => ⟨_, st.1 _ _ hMi zM.1, rfl⟩) ⟨fun b o _ e => e, ⟨_, zi.1, rfl, rfl⟩⟩ (fun b hb => List.mem_range.mp hb) (List.mem_range.mpr (Heap.lt_size zM.1)) (fun s' acc hm hacc => ?_) (by rw [PySem.sizeLine_eq]; omega)
    obtain ⟨hk', hg, hd', ho', htk⟩ := hm
    obtain ⟨h', g', d', tk', os'⟩ := s'
    dsimp only at hk' hg hd' ho' htk ⊢
    subst hg
    subst hd'
    subst ho'
    have keep : ∀ b o, b ≠ it → s.heap.get? b = some o → h'.get? b = some o := fun b o hb e => hk' b o (by simpa using hb) e
    have F' := frOf h' keep
    have N' : News h₀ L h' news := fun q hq => by
      have z := N q (List.mem_cons_of_mem _ (List.mem_cons_of_mem _ (List.mem_cons_of_mem _ hq)))
      exact ⟨keep _ _ (hoff q hq) z.1, z.2⟩
    refine h _ acc _ tk' (F'.push _) (N'.push F' _) (fun q hq => Heap.lt_size (N' q hq).1) ?_
    have hlen := hS.length
    refine kdy_strs (by rw [Array.length_toList, hacc.1, ← Array.length_toList]; exact hlen) fun j v hv => ?_
    obtain ⟨u, t, hu', rfl⟩ := hacc.2 j v (by simpa using hv)
    obtain ⟨c, t', hc, rfl⟩ := strs_get' hS (show items.toList[j]? = some u by simpa using hu')
    exact ⟨c, hc, t, rfl⟩
  · intro v hv s1 Q1 E1 keep hk1
    obtain ⟨j, hj, hj'⟩ := List.getElem_of_mem (Array.mem_def.mp hv)
    obtain ⟨c, t', hc, rfl⟩ := strs_get' hS (show items.toList[j]? = some v by rw [List.getElem?_eq_getElem hj, hj'])
    exact fspath_spec B (frOf _ keep) News.nil X Tp hk (show dp + 1 < recursionLimit by omega) (show un + 1 + 1 + 1 + 1 + 20 < cLine by omega) fun t h' tk' st _ _ => hk1 t h' tk' st
end
end Mine

namespace Mine
theorem slot_seti_next : Slot "set_iterator" "__next__" "set_iterator.__next__" :=
  .of (owner := "set_iterator") (n := "__next__") (by rw [typeLookup_type, builtinLookup_eq_fast]; kernel_rfl) (by decide +kernel) (by decide +kernel) (by decide +kernel)
    (by first | exact .inl (by decide +kernel) | exact .inr (by decide +kernel)) (by rw [isSubtype_type]; kernel_rfl)
theorem entry_seti_next : entryFor table "set_iterator.__next__" = some Builtin.«set_iterator.__next__» := entryFor_of_tree (by kernel_rfl)
theorem args_seti_next (a : Value) : argsOk "set_iterator.__next__" ⟨[a], []⟩ := by unfold argsOk; kernel_rfl
theorem entry_set_iter : entryFor table "set.__iter__" = some Builtin.«frozenset.__iter__» :=
  entryFor_alias (id' := "frozenset.__iter__") (by kernel_rfl) rfl (by decide +kernel) (by kernel_rfl)
theorem args_set_iter (a : Value) : argsOk "set.__iter__" ⟨[a], []⟩ := by unfold argsOk; kernel_rfl

/-- the set table that holds True -/
def tabT (led : Bool) : SetTable := { mask := 7, place := #[1], dummies := #[], finger := 0, led := led, moves := 0, plain := true }
def set0 (led : Bool) : Obj := { cls := .type "set", dict := none, data := .set #[] 0 (.fresh 0 0 led) }
def set1 (led : Bool) : Obj := { cls := .type "set", dict := none, data := .set #[(1, .bool true)] 1 (tabT led) }
/-- a set of True's: empty, or not -/
def setT (led : Bool) : Nat → Obj
  | 0 => set0 led
  | _ + 1 => set1 led

section
variable {prog : Program} {w : World} {A : Around} {E : Value → Shared → Prop} {s : Shared}

theorem pyHash_true {Q : Int → Shared → Prop} (h : Q 1 { s with toks := s.toks + 1 }) : wpAny (model prog w) A (pyHash (.bool true)) Q E s := by
  have hT : s.TypeIs (.bool true) "bool" := rfl
  show wpAny _ _ (pyHashByItsType (.bool true)) Q E s
  unfold pyHashByItsType
  have hv : [Value.bool true].any Value.onHeap = false := rfl
  refine wpAny_bind ?_
  rw [cRoomFor, if_neg (by rw [hv]; exact Bool.false_ne_true)]; refine wpAny_pure ?_
  refine wpAny_bind (wpAny_specialOf hT F.slot_bool_hash.lookup ?_)
  show wpAny _ _ (if (some (Value.builtin "int.__hash__") == some Value.none) = true then _ else _) Q E s
  rw [if_neg (by rw [beq_builtin_none]; exact Bool.false_ne_true)]
  refine wpAny_bind (wpAny_specialOf hT F.slot_bool_hash.lookup ?_)
  show wpAny _ _ (callSpecialIfBoundUnlessNone? (.bool true) "__hash__" _ >>= _) Q E s
  refine wpAny_bind (wpAny_callSpecialIfBoundUnlessNone?_slot hT F.slot_bool_hash
    (wpAny_call_entry F.slot_bool_hash hT F.entry_int_hash
      (show wpAny _ _ (do ret (← mkInt 1)) _ _ s from wpAny_ret_mkInt ?_) (F.args_int_hash_1 _)))
  show wpAny _ _ (if (decide (-(2 : Int) ^ 63 ≤ 1) && decide ((1 : Int) < 2 ^ 63)) = true then _ else _) Q E _
  rw [if_pos (by decide)]
  exact wpAny_pure h

theorem set_add_first {a : Addr} {led : Bool} {Q : Value → Shared → Prop} (hS : s.heap.get? a = some (set0 led))
    (h : ∀ h', Heap.SameBut a s.heap h' → h'.get? a = some (set1 led) → Q .none { s with heap := h', toks := s.toks + 1 }) :
    wpAny (model prog w) A (call (.builtin "set.add") [.ref a, .bool true]) Q E s := by
  have hT : s.TypeIs (.ref a) "set" := ⟨_, hS, rfl⟩
  refine wpAny_call_entry F.slot_set_add hT F.entry_set_add ?_ (F.args_set_add_2 _ _)
  unfold Builtin.«set.add» Builtin.Frozenset.oneOther
  simp only [List.isEmpty_nil, bind_assoc]
  unfold Builtin.Frozenset.addrOf setAdd
  refine wpAny_bind (wpAny_pure ?_)
  try dsimp only
  refine wpAny_bind (wpAny_pure ?_)
  try dsimp only
  refine wpAny_bind ?_
  refine wpAny_holding ?_
  refine wpAny_bind (pyHash_true ?_)
  unfold setAddHashed setAddHashedIn
  refine wpAny_holding (wpAny_bind (wpAny_setState_of (s := { s with toks := s.toks + 1 }) hS rfl rfl ?_))
  dsimp only
  rw [show byScan (.bool true) #[] = true by decide +kernel]
  simp only [↓reduceIte]
  unfold setAddByScan
  refine wpAny_bind ?_
  refine wpAny_bind (wpAny_rule ?_)
  refine wpAny_bind (wpAny_pure ?_)
  dsimp only
  have hl : layNew (.fresh 0 0 led) #[] 1 (.bool true) = (#[(1, .bool true)], tabT led, false, false) := by cases led <;> decide +kernel
  rw [hl]
  dsimp only
  refine wpAny_bind (wpAny_pure ?_)
  show wpAny _ _ (hashByValue 8 (.bool true) >>= _) _ _ _
  refine wpAny_bind (wpAny_pure ?_)
  simp only [if_true]
  refine wpAny_bind (wpAny_storeSet_of (o := set0 led) (s := { s with toks := s.toks + 1 }) hS rfl ?_ (by decide))
  rw [show (!false && (tabT led).tooFull) = false by cases led <;> rfl]
  simp only [Bool.false_eq_true, if_false]
  refine wpAny_pure (wpAny_pure ?_)
  show wpAny _ _ (ret Value.none) _ _ _
  refine wpAny_pure ⟨_, rfl, h _ (Heap.SameBut.update ..) ?_⟩
  have := Heap.get?_update_self (Obj.putSet #[(1, Value.bool true)] (tabT led)) hS rfl
  exact this

theorem set_add_again {a : Addr} {led : Bool} {Q : Value → Shared → Prop} (hS : s.heap.get? a = some (set1 led))
    (h : Q .none { s with toks := s.toks + 1 }) :
    wpAny (model prog w) A (call (.builtin "set.add") [.ref a, .bool true]) Q E s := by
  have hT : s.TypeIs (.ref a) "set" := ⟨_, hS, rfl⟩
  refine wpAny_call_entry F.slot_set_add hT F.entry_set_add ?_ (F.args_set_add_2 _ _)
  unfold Builtin.«set.add» Builtin.Frozenset.oneOther
  simp only [List.isEmpty_nil, bind_assoc]
  unfold Builtin.Frozenset.addrOf setAdd
  refine wpAny_bind (wpAny_pure ?_)
  try dsimp only
  refine wpAny_bind (wpAny_pure ?_)
  try dsimp only
  refine wpAny_bind ?_
  refine wpAny_holding ?_
  refine wpAny_bind (pyHash_true ?_)
  unfold setAddHashed setAddHashedIn
  refine wpAny_holding (wpAny_bind (wpAny_setState_of (s := { s with toks := s.toks + 1 }) hS rfl (by cases led <;> rfl) ?_))
  dsimp only
  rw [show byScan (.bool true) #[(1, .bool true)] = true by decide +kernel]
  simp only [↓reduceIte]
  unfold setAddByScan
  refine wpAny_bind ?_
  refine wpAny_bind (wpAny_rule ?_)
  refine wpAny_bind ?_
  show wpAny _ _ (setEpoch a >>= fun before => eqBool (.bool true) (.bool true) >>= _) _ _ _
  refine wpAny_bind (wpAny_setEpoch_of (s := { s with toks := s.toks + 1 }) hS rfl (by cases led <;> rfl) ?_)
  unfold eqBool
  refine wpAny_bind (wpAny_holding ?_)
  show wpAny _ _ (if (Value.bool true == Value.bool true) = true then _ else _) _ _ _
  rw [if_pos (beq_self_eq_true _)]
  refine wpAny_bind (wpAny_rule (wpAny_pure ?_))
  show wpAny _ _ (pure _) _ _ _
  refine wpAny_pure (wpAny_pure (wpAny_pure ?_))
  show wpAny _ _ (ret Value.none) _ _ _
  exact wpAny_pure ⟨_, rfl, h⟩

theorem set_add_T {a : Addr} {led : Bool} {n : Nat} {Q : Value → Shared → Prop} (hS : s.heap.get? a = some (setT led n))
    (h : ∀ h', Heap.SameBut a s.heap h' → h'.get? a = some (setT led (n + 1)) → Q .none { s with heap := h', toks := s.toks + 1 }) :
    wpAny (model prog w) A (call (.builtin "set.add") [.ref a, .bool true]) Q E s := by
  cases n with
  | zero => exact set_add_first hS h
  | succ n => exact set_add_again hS (by have := h s.heap (Heap.SameBut.refl ..) hS; exact this)

/-- a set iterator over a set of one -/
def setI (a : Addr) (j i : Nat) : Obj := { cls := .type "set_iterator", data := .fields #[.int j 0, .int i 0, .ref a, .int 1 0, .int 1 0] }

theorem pyIter_T {a : Addr} {led : Bool} {Q : Value → Shared → Prop} (hS : s.heap.get? a = some (set1 led))
    (h : Q (.ref s.heap.objs.size) { s with heap := s.heap.push (setI a 0 0) }) : wpAny (model prog w) A (pyIter (.ref a)) Q E s := by
  have hT : s.TypeIs (.ref a) "set" := ⟨_, hS, rfl⟩
  have hf : (tabT led).fits (#[((1 : Int), Value.bool true)]).size = true := by cases led <;> rfl
  refine wpAny_pyIter_slot hT F.slot_set_iter (wpAny_call_entry F.slot_set_iter hT entry_set_iter ?_ (args_set_iter _))
  unfold Builtin.«frozenset.__iter__» Builtin.Frozenset.slot0 slotArgs
  simp only [List.isEmpty_nil, Bool.not_true, Bool.false_eq_true, ↓reduceIte, bind_assoc, List.length_nil, bne_self_eq_false]
  unfold Builtin.Frozenset.addrOf Builtin.Frozenset.sizeOf
  refine wpAny_bind (wpAny_pure ?_)
  try dsimp only
  refine wpAny_bind (wpAny_pure ?_)
  refine wpAny_bind (wpAny_bind (wpAny_setEntries_of hS rfl hf (wpAny_pure ?_)))
  unfold setDrawn setsByText
  simp only [bind_assoc]
  refine wpAny_bind (wpAny_setState_of hS rfl hf ?_)
  dsimp only
  refine wpAny_bind (wpAny_askSetting ?_)
  refine wpAny_bind (wpAny_pure ?_)
  refine wpAny_bind (wpAny_pure ?_)
  rw [if_neg (by intro e; rw [Bool.and_eq_true] at e; exact absurd e.2 (by cases led <;> decide))]
  refine wpAny_bind (wpAny_pure ?_)
  refine wpAny_bind (wpAny_setEpoch_of hS rfl hf ?_)
  exact wpAny_bind (wpAny_newObj_type (wpAny_pure ⟨_, rfl, "set_iterator", _, ⟨_, Heap.get?_push_size _ rfl, rfl⟩, slot_seti_next.lookup, h⟩))

theorem pick_one (f : Nat → Nat) (x : Int × Value) : pickOrder f #[x] = #[x] := by
  simp [pickOrder, pickOrder.go, Nat.mod_one]

theorem setNext_T {a : Addr} {i : Nat} {Q : Option (Value × Nat) → Shared → Prop} (hS : s.heap.get? a = some (set1 !(w.params.followText "set-order"))) (hi : i = 0 ∨ i = 1)
    (j : Nat) (h : ∀ j, (w.params.followText "set-order" = false → j = 2) → Q (if i = 0 then some (.bool true, j) else none) s) (hj : w.params.followText "set-order" = false → j = i * 2) : wpAny (model prog w) A (setNext a j i 1) Q E s := by
  have hf : (tabT !(w.params.followText "set-order")).fits (#[((1 : Int), Value.bool true)]).size = true := by cases w.params.followText "set-order" <;> rfl
  unfold setNext setsByText
  simp only [bind_assoc]
  refine wpAny_bind (wpAny_setState_of hS rfl hf ?_)
  dsimp only
  refine wpAny_bind (wpAny_askSetting ?_)
  refine wpAny_bind (wpAny_pure ?_)
  cases hb : w.params.followText "set-order" with
  | true =>
    rw [hb] at hS hf
    have hb' : ({ program := (model prog w).prog, params := (model prog w).w.params } : Setting).params.followText "set-order" = true := hb
    rw [hb']
    simp only [if_true]
    rw [if_neg (by simp)]
    unfold setWalk setsByText
    simp only [bind_assoc]
    refine wpAny_bind (wpAny_setState_of hS rfl hf ?_)
    dsimp only
    refine wpAny_bind (wpAny_askSetting ?_)
    refine wpAny_bind (wpAny_pure ?_)
    rw [hb']
    simp only [if_true, bind_assoc]
    refine wpAny_bind (wpAny_askSetting ?_)
    refine wpAny_bind (wpAny_pure ?_)
    rw [pick_one]
    refine wpAny_pure ?_
    rcases hi with rfl | rfl
    · exact h _ (fun e => by rw [hb] at e; cases e)
    · exact h 2 (fun _ => rfl)
  | false =>
    rw [hb] at hS hf
    have hb' : ({ program := (model prog w).prog, params := (model prog w).w.params } : Setting).params.followText "set-order" = false := hb
    rw [hb']
    simp only [Bool.false_eq_true, if_false]
    refine wpAny_pure ?_
    obtain rfl := hj hb
    rcases hi with rfl | rfl
    · exact h _ (fun _ => rfl)
    · exact h 2 (fun _ => rfl)

theorem pyNext_T_item {a I : Addr} {Q : Option Value → Shared → Prop} (hS : s.heap.get? a = some (set1 !(w.params.followText "set-order"))) (hI : s.heap.get? I = some (setI a 0 0)) 
    (h : ∀ h' j, Heap.SameBut I s.heap h' → h'.get? I = some (setI a j 1) → (w.params.followText "set-order" = false → j = 2) → Q (some (.bool true)) { s with heap := h' }) : wpAny (model prog w) A (pyNext (.ref I)) Q E s := by
  have hf : (tabT !(w.params.followText "set-order")).fits (#[((1 : Int), Value.bool true)]).size = true := by cases w.params.followText "set-order" <;> rfl
  have hT : s.TypeIs (.ref I) "set_iterator" := ⟨_, hI, rfl⟩
  unfold pyNext
  refine wpAny_bind (wpAny_attempt (wpAny_callSpecial?_slot (name := Str.ofString "__next__") hT slot_seti_next
    (wpAny_call_entry slot_seti_next hT entry_seti_next ?_ (args_seti_next _))))
  unfold Builtin.«set_iterator.__next__» slotArgs
  simp only [List.isEmpty_nil, Bool.not_true, Bool.false_eq_true, ↓reduceIte, List.length_nil, bne_self_eq_false]
  refine wpAny_bind (wpAny_pure ?_)
  dsimp only
  refine wpAny_bind (wpAny_fieldsOf hI rfl ?_)
  dsimp only
  refine wpAny_bind (wpAny_setEntries_of hS rfl hf ?_)
  rw [if_neg (by decide)]
  refine wpAny_bind (setNext_T hS (.inl rfl) (j := 0) ?_ (fun _ => rfl))
  intro j hj
  skip
  refine wpAny_bind (wpAny_setField hI rfl (by simp) ?_)
  refine wpAny_bind (wpAny_setField (Heap.get?_update_self _ hI rfl) rfl (by simp) ?_)
  refine wpAny_pure ⟨_, rfl, wpAny_pure (h _ j ((Heap.SameBut.update ..).trans (Heap.SameBut.update ..)) ?_ hj)⟩
  exact Heap.get?_update_self _ (Heap.get?_update_self _ hI rfl) rfl

theorem pyNext_T_end {a I : Addr} {j : Nat} {Q : Option Value → Shared → Prop} (hh : A.handled = none) (hS : s.heap.get? a = some (set1 !(w.params.followText "set-order"))) (hI : s.heap.get? I = some (setI a j 1)) (hj : w.params.followText "set-order" = false → j = 2)
    (hQ : ∀ h', Heap.ExtBut I s.heap h' → Q none { s with heap := h' }) : wpAny (model prog w) A (pyNext (.ref I)) Q E s := by
  have hf : (tabT !(w.params.followText "set-order")).fits (#[((1 : Int), Value.bool true)]).size = true := by cases w.params.followText "set-order" <;> rfl
  have hT : s.TypeIs (.ref I) "set_iterator" := ⟨_, hI, rfl⟩
  unfold pyNext
  refine wpAny_bind (wpAny_attempt (wpAny_callSpecial?_slot (name := Str.ofString "__next__") hT slot_seti_next
    (wpAny_call_entry slot_seti_next hT entry_seti_next ?_ (args_seti_next _))))
  unfold Builtin.«set_iterator.__next__» slotArgs
  simp only [List.isEmpty_nil, Bool.not_true, Bool.false_eq_true, ↓reduceIte, List.length_nil, bne_self_eq_false]
  refine wpAny_bind (wpAny_pure ?_)
  dsimp only
  refine wpAny_bind (wpAny_fieldsOf hI rfl ?_)
  dsimp only
  refine wpAny_bind (wpAny_setEntries_of hS rfl hf ?_)
  rw [if_neg (by decide)]
  refine wpAny_bind (setNext_T hS (.inr rfl) (j := j) ?_ hj)
  intro _ _
  skip
  rw [if_neg (by decide)]
  refine wpAny_bind (wpAny_setField hI rfl (by simp) ?_)
  refine wpAny_bind ?_
  simp only [newExc, newTuple]
  refine wpAny_bind (wpAny_newObj_type ?_ (by size_fits))
  refine wpAny_bind (m := firstArgMember _ _) (wpAny_of_eq (a := Value.none) (by first | rfl | (simp only [firstArgMember]; rfl)) ?_)
  refine wpAny_newObj_type ?_ (by size_fits)
  simp only [raiseNew]
  refine wpAny_bind (wpAny_handled ?_)
  first | rw [show A.in1.handled = none from hh] | rw [hh]
  refine wpAny_bind (wpAny_pure (wpAny_throw ?_))
  refine wpAny_bind (wpAny_isInstance (T := "StopIteration") (b := true) ⟨_, Heap.get?_push_size _ rfl, rfl⟩ isSubtype_stop ?_)
  exact wpAny_pure (hQ _ (((Heap.SameBut.update ..).extBut.push _).push _))

theorem unpack_T {a : Addr} {Q : List Value → Shared → Prop} (hh : A.handled = none) (hS : s.heap.get? a = some (set1 !(w.params.followText "set-order")))
    (hQ : ∀ h', Heap.ExtBut s.heap.objs.size s.heap h' → Q [.bool true] { s with heap := h' }) : wpAny (model prog w) A (unpackItems (.ref a) 1 none) Q E s := by
  have hT : s.TypeIs (.ref a) "set" := ⟨_, hS, rfl⟩
  have hlt : a ≠ s.heap.objs.size := Nat.ne_of_lt (Heap.lt_size hS)
  unfold unpackItems
  refine wpAny_bind ?_
  unfold notIterableAtAll
  refine wpAny_bind (wpAny_specialOf hT F.slot_set_iter.lookup ?_)
  refine wpAny_pure ?_
  simp only [Bool.false_eq_true, if_false]
  refine wpAny_bind (wpAny_holding (pyIter_T hS ?_))
  have hS₁ := Heap.get?_push_of_some (setI a 0 0) hS
  refine wpAny_bind (wpAny_holding ?_)
  show wpAny _ _ (pyNext (.ref s.heap.objs.size) >>= _) _ _ _
  refine wpAny_bind (pyNext_T_item (a := a) hS₁ (Heap.get?_push_size _ rfl) fun h₁ j hs₁ hI₁ hj => ?_)
  refine wpAny_bind (wpAny_holding (wpAny_pure (wpAny_pure ?_)))
  rw [if_neg (by simp)]
  refine wpAny_bind (wpAny_holding (pyNext_T_end hh (hs₁.extBut _ _ hlt hS₁) hI₁ hj fun h₂ he₂ => ?_))
  simp only [Option.isSome_none, Bool.false_eq_true, if_false]
  exact wpAny_pure (hQ h₂ fun b o hb e => he₂ b o hb (hs₁.extBut b o hb (Heap.get?_push_of_some _ e)))
end
end Mine

namespace Mine

theorem compTurn_set (elt target iter : Expr) (ifs : List Expr) (scope : Scope) (pos : Pos) (it acc : Value) (env : Env) :
    compTurn (.SetComp elt [⟨target, iter, ifs, 0⟩] scope pos) 0 it acc env = (do
      standAt iter.pos
      match ← pyNext it with
      | none => pure (.done .next)
      | some v =>
        letOwnedTupleGo target it v
        assign target env v
        let mut ok := true
        for c in ifs do
          if ok then ok ← isTrue c env (eval c env)
        if ok then
          (do let v ← eval elt env; standAt elt.pos; let _ ← call (.builtin "set.add") [acc, v])
        again (.compLoop (.SetComp elt [⟨target, iter, ifs, 0⟩] scope pos) 0 it acc env)) := by rfl

section
variable {prog : Program} {w : World} {A : Around} {E : Value → Shared → Prop} {R : Result → Shared → Prop} {s : Shared}

theorem codeAny_compLoop_set {elt target iter : Expr} {scope : Scope} {pos : Pos} {it acc : Value} {env : Env} (I : Nat → Shared → Prop)
    (turn : ∀ n s, I n s → wpAny (model prog w) A (pyNext it) (fun r s₁ => match r with
      | none => R (.ok .next) s₁
      | some v => wpAny (model prog w) A (assign target env v) (fun _ s₂ => wpAny (model prog w) A (eval elt env) (fun x s₄ =>
              wpAny (model prog w) A (call (.builtin "set.add") [acc, x]) (fun _ s₅ => ∃ m, m < n ∧ I m s₅) (notedBy (model prog w) A env fun e s' => R (.error e) s') s₄) (notedBy (model prog w) A env fun e s' => R (.error e) s') s₂) (notedBy (model prog w) A env fun e s' => R (.error e) s') s₁) (notedBy (model prog w) A env fun e s' => R (.error e) s') s)
    (n : Nat) (h : I n s) (ht : ∀ v, letOwnedTupleGo target it v = pure () := by intro _; rfl) :
    codeAny (model prog w) A (.compLoop (.SetComp elt [⟨target, iter, [], 0⟩] scope pos) 0 it acc env) R s := by
  refine codeAny_loop rfl I (fun n s hI => ?_) n h
  show wpAny _ A ((compTurn (.SetComp elt [⟨target, iter, [], 0⟩] scope pos) 0 it acc env).onRaise (fun x => do noteFrame x env; theTreesLotGoes x)) _ _ s
  refine wpAny_noted ?_
  rw [compTurn_set]
  refine wpAny_bind (wpAny_standAt (wpAny_bind (wpAny_mono (turn n s hI) (fun r s₁ h₁ => ?_) fun _ _ h' => h')))
  cases r with
  | none => exact wpAny_pure h₁
  | some v =>
    refine wpAny_bind (wpAny_of_eq (ht v) ?_)
    refine wpAny_bind (wpAny_mono h₁ (fun _ s₂ h₂ => wpAny_bind (wpAny_pure ?_)) fun _ _ h' => h')
    exact wpAny_bind (wpAny_bind (wpAny_mono h₂ (fun x s₄ h₄ => wpAny_bind (wpAny_standAt (wpAny_bind (wpAny_mono h₄ (fun _ s₅ h₅ => wpAny_pure (wpAny_pure ⟨rfl, h₅⟩)) fun _ _ h' => h')))) fun _ _ h' => h'))

theorem codeAny_compStart_set {elt target iter ifs rest scope pos it acc env}
    (h0 : codeAny (model prog w) A (.compLoop (.SetComp elt (⟨target, iter, ifs, 0⟩ :: rest) scope pos) 0 it acc env) R s)
    (h : wpAny (model prog w) A (pyIter it) (fun it' s' => codeAny (model prog w) A (.compLoop (.SetComp elt (⟨target, iter, ifs, 0⟩ :: rest) scope pos) 0 it' acc env) R s')
      (notedBy (model prog w) A env fun x s' => R (.error x) s') s) :
    codeAny (model prog w) A (.compStart (.SetComp elt (⟨target, iter, ifs, 0⟩ :: rest) scope pos) 0 it acc env) R s := by
  refine codeAny_of_tree ?_
  show wpAny _ A ((compStart (.SetComp elt (⟨target, iter, ifs, 0⟩ :: rest) scope pos) 0 it acc env).onRaise (fun x => do noteFrame x env; standAt theWindowsPlace)) _ _ s
  refine wpAny_notedAt ?_
  unfold compStart
  show wpAny _ A (ask >>= _) _ _ s
  refine wpAny_bind (wpAny_askSetting (wpAny_ite ?_))
  split
  · first
      | exact wpAny_bind (wpAny_pure (wpAny_pure (And.intro rfl h0)))
      | exact wpAny_pure (And.intro rfl h0)
  · first
      | exact wpAny_bind (wpAny_rule (wpAny_bind (wpAny_standAt (wpAny_bind (wpAny_mono h (fun it' s' h' => wpAny_pure (And.intro rfl h')) fun _ _ x => x)))))
      | (refine wpAny_bind (wpAny_rule ?_); show wpAny _ _ (standAt iter.pos >>= _) _ _ s; exact wpAny_bind (wpAny_standAt (wpAny_bind (wpAny_mono h (fun it' s' h' => wpAny_pure (And.intro rfl h')) fun _ _ x => x))))

theorem newSet_T {Q : Value → Shared → Prop} (h : Q (.ref s.heap.objs.size) { s with heap := s.heap.push (set0 !(w.params.followText "set-order")) }) : wpAny (model prog w) A (newSet (.type "set")) Q E s := by
  unfold newSet setsByText
  simp only [bind_assoc]
  refine wpAny_bind (wpAny_askSetting ?_)
  refine wpAny_bind (wpAny_pure ?_)
  exact wpAny_newObj_type h
end

/-- behind an element of a set of True's -/
def EltT (h₀ : Heap) (L : Addr) (m : Str → Option Value) (s₂ : Shared) (nws : List (Addr × Obj)) (y : Value) (s₄ : Shared) : Prop :=
  ∃ h₄ tk₄, s₄ = { s₂ with heap := h₄, toks := tk₄ } ∧ Fr h₀ L h₄ m ∧ News h₀ L h₄ nws ∧ y = .bool true
theorem EltT.mk' {h₀ : Heap} {L : Addr} {m : Str → Option Value} {s₂ : Shared} {nws : List (Addr × Obj)} {h₄ : Heap} {tk₄ : Nat} {b : Bool} (F : Fr h₀ L h₄ m) (N : News h₀ L h₄ nws) (hb : b = true) : EltT h₀ L m s₂ nws (.bool b) { s₂ with heap := h₄, toks := tk₄ } :=
  ⟨h₄, tk₄, rfl, F, N, by rw [hb]⟩

section
variable {prog : Program} {w : World} {A : Around} {E : Value → Shared → Prop} {s : Shared} {env : Env} {h₀ : Heap} {L : Addr} {m : Str → Option Value} {news : List (Addr × Obj)}

theorem block_T {elt iter : Expr} {x : Str} {px : Pos} {scope : Scope} {cl : List (Str × Addr)} {pos : Pos} {s₂ : Shared} {I : Addr} {fp : List Addr} {n : Nat} {P : Nat → Value → Prop} {St : Nat → Heap → Prop}
    {RR : Value → Addr → Result → Shared → Prop} 
    (W : Walks prog w A I fp [I] n P St) (hIo : ∀ i h, St i h → ∃ o, h.get? I = some o)
    (hSt : ∀ i h h' o, St i h → h.get? I = some o → h'.get? I = some o → Fr h₀ L h' m → News h₀ L h' news → St i h')
    (hcell : ∀ y ∈ scope.names, y.2 ≠ .cell) (hkind : scope.kind = .function) (hx : scope.names.lookup x = some .local) (hst : St 0 s₂.heap) (hfp : ∀ b ∈ fp, b < s₂.heap.objs.size)
    (F : Fr h₀ L s₂.heap m) (N : News h₀ L s₂.heap news) (hIL : L ≠ I) (hI₀ : h₀.get? I = none) (offI : ∀ p ∈ news, p.1 ≠ I)
    (turn : ∀ i v I oI C oC D m₂ h tk (E' : Value → Shared → Prop), i < n → P i v → LCg.NsObj oC m₂ → m₂ x = some v → Fr h₀ L h m → News h₀ L h ((I, oI) :: (C, oC) :: (D, setT (!(w.params.followText "set-order")) i) :: news) →
      wpAny (model prog w) A (eval elt (compEnvC scope cl C env)) (EltT h₀ L m s₂ ((I, oI) :: (C, oC) :: (D, setT (!(w.params.followText "set-order")) i) :: news)) E' { s₂ with heap := h, toks := tk })
    (hRR : ∀ D C h tk m', Fr h₀ L h m → News h₀ L h ((D, setT (!(w.params.followText "set-order")) n) :: news) → LCg.Off1 D news → h.Ns C m' → h₀.get? C = none → C ≠ L → C ≠ D → (∀ p ∈ news, p.1 ≠ C) → RR (.ref D) C (.ok .next) { s₂ with heap := h, toks := tk }) :
    wpAny (model prog w) A (newSet (.type "set")) (fun acc s₃ => wpAny (model prog w) A (newFunctionEnv scope env.globals cl [] env.qual none .none (some env)) (fun cenv s₄ =>
      codeAny (model prog w) A (.compStart (.SetComp elt [⟨.Name x px, iter, [], 0⟩] scope pos) 0 (.ref I) acc { cenv with scope := relabel scope env }) (RR acc cenv.locals) s₄) E s₃) E s₂ := by
  refine newSet_T (wpAny_newFunctionEnv hcell (by intro y hy; simp at hy) (fun h₁ hns₁ hsb₁ => ?_) hkind)
  dsimp only at hns₁ hsb₁ ⊢
  generalize hH2 : s₂.heap.push (set0 !(w.params.followText "set-order")) = H2 at hns₁ hsb₁ ⊢
  have hC : H2.objs.size = s₂.heap.objs.size + 1 := by rw [← hH2, Heap.size_push]
  have hDC : s₂.heap.objs.size ≠ H2.objs.size := by rw [hC]; exact Nat.ne_of_lt (Nat.lt_succ_self _)
  have below : ∀ b, b < s₂.heap.objs.size → b ≠ H2.objs.size ∧ b ≠ s₂.heap.objs.size := fun b hb => ⟨by rw [hC]; exact Nat.ne_of_lt (Nat.lt_succ_of_lt hb), Nat.ne_of_lt hb⟩
  have hDf : s₂.heap.objs.size ∉ fp := fun hm => Nat.lt_irrefl _ (hfp _ hm)
  have hCf : H2.objs.size ∉ fp := fun hm => by have := hfp _ hm; rw [hC] at this; exact Nat.lt_irrefl _ (Nat.lt_of_succ_lt this)
  have hIf : I ∈ fp := W.sub I (List.mem_singleton.mpr rfl)
  have hIlt : I < s₂.heap.objs.size := hfp I hIf
  have old : ∀ b o, s₂.heap.get? b = some o → h₁.get? b = some o := fun b o e => hsb₁.extBut b o (below b (Heap.lt_size e)).1 (Heap.get?_push_of_some _ (hH2 ▸ Heap.get?_push_of_some _ e))
  have hacc : h₁.get? s₂.heap.objs.size = some (set0 !(w.params.followText "set-order")) := hsb₁.extBut _ _ hDC (Heap.get?_push_of_some _ (hH2 ▸ Heap.get?_push_size _ rfl))
  have hst₁ : St 0 h₁ := W.frame _ _ _ hst fun b _ o e => old b o e
  have fresh₀ : ∀ a, s₂.heap.objs.size ≤ a → h₀.get? a = none := fun a ha => by
    cases e : h₀.get? a with
    | none => rfl
    | some o' => exact absurd (Heap.lt_size (F.keep a o' e)) (Nat.not_lt.mpr ha)
  have hD₀ : h₀.get? s₂.heap.objs.size = none := fresh₀ _ (Nat.le_refl _)
  have hC₀ : h₀.get? H2.objs.size = none := fresh₀ _ (by rw [hC]; exact Nat.le_succ _)
  have hLlt : L < s₂.heap.objs.size := F.ns.lt
  have hDL : s₂.heap.objs.size ≠ L := Ne.symm (below L hLlt).2
  have hCL : H2.objs.size ≠ L := Ne.symm (below L hLlt).1
  have hCI : I ≠ H2.objs.size := (below I hIlt).1
  have hDI : I ≠ s₂.heap.objs.size := (below I hIlt).2
  have off0 : ∀ p ∈ news, p.1 ≠ I ∧ p.1 ≠ H2.objs.size ∧ p.1 ≠ s₂.heap.objs.size := fun p hp => ⟨offI p hp, (below _ (Heap.lt_size (N p hp).1)).1, (below _ (Heap.lt_size (N p hp).1)).2⟩
  have loop : ∀ s₃ : Shared, s₃ = { s₂ with heap := h₁, toks := s₂.toks + ([] : List (Str × Value)).length } →
      codeAny (model prog w) A (.compLoop (.SetComp elt [⟨.Name x px, iter, [], 0⟩] scope pos) 0 (.ref I) (.ref s₂.heap.objs.size) (compEnvC scope cl H2.objs.size env))
        (RR (.ref s₂.heap.objs.size) H2.objs.size) s₃ := by
    rintro s₃ rfl
    refine codeAny_compLoop_set
      (fun k s' => ∃ h' tk i m', s' = { s₂ with heap := h', toks := tk } ∧ i ≤ n ∧ k = n + 1 - i ∧ St i h' ∧ Fr h₀ L h' m ∧ h'.Ns H2.objs.size m' ∧ News h₀ L h' ((s₂.heap.objs.size, setT (!(w.params.followText "set-order")) i) :: news)) ?_ (n + 1)
      ⟨h₁, _, 0, _, rfl, Nat.zero_le _, rfl, hst₁, F.keeps old, hns₁, ?_⟩
    · rintro k s' ⟨h', tk, i, m', rfl, hi, rfl, hst', F', hn', N'⟩
      by_cases hlt : i < n
      · refine W.item i _ _ _ hlt hst' fun v h₂ tk₂ hPv hst₂ hk₂ => ?_
        refine wpAny_assign_Name (wpAny_storeName_local (lookup_relabel_local hx) (hn'.at' fun o e => hk₂ _ o (by simpa using Ne.symm hCI) e) (fun h₃ hn₃ hs₃ => ?_) (by simp [compEnvC, relabel, hkind]))
        have hst₃ : St (i + 1) h₃ := W.frame _ _ _ hst₂ fun b hb o e => hs₃.extBut b o (fun q => hCf (by have q' : b = H2.objs.size := q; rw [← q']; exact hb)) e
        obtain ⟨oI, heI⟩ := hIo _ _ hst₃
        obtain ⟨oC, heC, hoC⟩ := LCg.ns_obj hn₃
        have heC : h₃.get? H2.objs.size = some oC := heC
        have F₃ : Fr h₀ L h₃ m := (LCg.fr_but F' hk₂ hIL hI₀).change hs₃ hCL hC₀
        have N₂ : News h₀ L h₂ ((s₂.heap.objs.size, setT (!(w.params.followText "set-order")) i) :: news) := LCg.news_but N' hk₂ fun p hp => by
          rcases List.mem_cons.mp hp with rfl | hp
          · exact Ne.symm hDI
          · exact (off0 p hp).1
        have N₃ : News h₀ L h₃ ((I, oI) :: (H2.objs.size, oC) :: (s₂.heap.objs.size, setT (!(w.params.followText "set-order")) i) :: news) := fun p hp => by
          rcases List.mem_cons.mp hp with rfl | hp
          · exact ⟨heI, Ne.symm hIL, hI₀⟩
          · rcases List.mem_cons.mp hp with rfl | hp
            · exact ⟨heC, hCL, hC₀⟩
            · have z := N₂ p hp
              refine ⟨hs₃.extBut _ _ ?_ z.1, z.2⟩
              rcases List.mem_cons.mp hp with rfl | hp
              · exact hDC
              · exact (off0 p hp).2.1
        have T := turn i v I oI H2.objs.size oC s₂.heap.objs.size _ h₃ (tk₂ + 1) (notedBy (model prog w) A (compEnvC scope cl H2.objs.size env) fun e s' => RR (.ref s₂.heap.objs.size) H2.objs.size (.error e) s') hlt hPv hoC (by simp) F₃ N₃
        refine wpAny_mono T (fun y s₄ hy => ?_) fun _ _ e => e
        obtain ⟨h₄, tk₄, rfl, F₄, N₄, rfl⟩ := hy
        have zI := (N₄ (I, oI) List.mem_cons_self).1
        have zC := (N₄ (H2.objs.size, oC) (List.mem_cons_of_mem _ List.mem_cons_self)).1
        have zD := (N₄ (s₂.heap.objs.size, _) (List.mem_cons_of_mem _ (List.mem_cons_of_mem _ List.mem_cons_self))).1
        have N₄' : News h₀ L h₄ news := fun p hp => N₄ p (List.mem_cons_of_mem _ (List.mem_cons_of_mem _ (List.mem_cons_of_mem _ hp)))
        have hst₄ : St (i + 1) h₄ := hSt _ _ _ _ hst₃ heI zI F₄ N₄'
        refine set_add_T zD fun h₅ hs₅ hD₅ => ?_
        refine ⟨n + 1 - (i + 1), by omega, h₅, tk₄ + 1, i + 1, fun z => if z = x then some v else m' z, rfl, hlt, rfl, W.frame _ _ _ hst₄ fun b hb o e => hs₅.extBut b o (fun q => hDf (q ▸ hb)) e, F₄.change hs₅ hDL hD₀,
          (hoC.ns zC).sameBut hs₅ (Ne.symm hDC), fun p hp => ?_⟩
        rcases List.mem_cons.mp hp with rfl | hp
        · exact ⟨hD₅, hDL, hD₀⟩
        · exact ⟨hs₅.extBut _ _ (off0 p hp).2.2 (N₄' p hp).1, (N₄' p hp).2⟩
      · obtain rfl : i = n := Nat.le_antisymm hi (Nat.not_lt.mp hlt)
        refine W.done _ _ _ hst' fun h₂ tk₂ hk₂ => ?_
        have N₂ : News h₀ L h₂ ((s₂.heap.objs.size, setT (!(w.params.followText "set-order")) i) :: news) := LCg.news_but N' hk₂ fun p hp => by
          rcases List.mem_cons.mp hp with rfl | hp
          · exact Ne.symm hDI
          · exact (off0 p hp).1
        exact hRR _ _ h₂ tk₂ _ (LCg.fr_but F' hk₂ hIL hI₀) N₂ (off1_of fun p hp => (off0 p hp).2.2) (hn'.at' fun o e => hk₂ _ o (by simpa using Ne.symm hCI) e) hC₀ hCL (Ne.symm hDC) (fun p hp => (off0 p hp).2.1)
    · intro p hp
      rcases List.mem_cons.mp hp with rfl | hp
      · exact ⟨hacc, hDL, hD₀⟩
      · exact ⟨old _ _ (N p hp).1, (N p hp).2⟩
  exact codeAny_compStart_set (loop _ rfl) (W.self 0 _ _ _ hst₁ (loop _ rfl))

/-- the source of a set comprehension of True's: a tuple in the ledger -/
def SrcT (prog : Program) (w : World) (A : Around) (h₀ : Heap) (L : Addr) (m : Str → Option Value) (env : Env) (elt : Expr) (x : Str) (scope : Scope) (cl : List (Str × Addr)) (Q : Value → Shared → Prop) (xv : Value) (s₁ : Shared) : Prop :=
  ∃ (ax : Addr) (its : Array Value) (news : List (Addr × Obj)), xv = .ref ax ∧ A.handled = none ∧ (ax, ({ cls := .type "tuple", data := .seq its } : Obj)) ∈ news ∧ its.size ≠ 0 ∧ Fr h₀ L s₁.heap m ∧ News h₀ L s₁.heap news ∧
    (∀ s₂ : Shared, (∃ g, s₂ = { s₁ with heap := g }) → ∀ i v I oI C oC D m₂ h tk (E' : Value → Shared → Prop), its[i]? = some v → LCg.NsObj oC m₂ → m₂ x = some v → Fr h₀ L h m → News h₀ L h ((I, oI) :: (C, oC) :: (D, setT (!(w.params.followText "set-order")) i) :: news) →
      wpAny (model prog w) A (eval elt (compEnvC scope cl C env)) (EltT h₀ L m s₂ ((I, oI) :: (C, oC) :: (D, setT (!(w.params.followText "set-order")) i) :: news)) E' { s₂ with heap := h, toks := tk }) ∧
    (∀ D h tk, Fr h₀ L h m → News h₀ L h ((D, set1 !(w.params.followText "set-order")) :: news) → LCg.Off1 D news → Q (.ref D) { s₁ with heap := h, toks := tk })

theorem SetComp_T {elt iter : Expr} {x : Str} {px : Pos} {scope : Scope} {cl : List (Str × Addr)} {pos : Pos} {Q : Value → Shared → Prop} (F₀ : Fr h₀ L s.heap m)
    (hclos : closureFor scope env = pure cl) (hcell : ∀ y ∈ scope.names, y.2 ≠ .cell) (hkind : scope.kind = .function)
    (hnames : ∀ y ∈ scope.names, y.2 = .local → scope.names.lookup y.1 = some .local) (hx : scope.names.lookup x = some .local)
    (h : wpAny (model prog w) A (eval iter env) (SrcT prog w A h₀ L m env elt x scope cl Q) E s)
    (hs : ∀ x, foldedSetIterable iter env x = pure x := by intro _; rfl) :
    wpAny (model prog w) A (eval (.SetComp elt [⟨.Name x px, iter, [], 0⟩] scope pos) env) Q E s := by
  show wpAny _ _ (comprehension (.SetComp elt [⟨.Name x px, iter, [], 0⟩] scope pos) scope env _ (newSet (.type "set")) false (eval iter env)) _ _ _
  refine wpAny_comprehension_free (use := none) rfl hs hclos hkind hnames (wpAny_mono h (fun xv s₁ h₁ => ?_) fun _ _ e => e)
  obtain ⟨ax, its, news, rfl, hh, hmem, hne, F, N, turn, done⟩ := h₁
  have ho := (N _ hmem).1
  have hl : s₁.heap.IsTuple ax its := ⟨_, ho, rfl, _, rfl⟩
  have hlt : ax < s₁.heap.objs.size := Heap.lt_size ho
  have hfp : ∀ b ∈ [s₁.heap.objs.size, ax], ∀ ob, b < (s₁.heap.push ob).objs.size := by
    intro b hb ob
    rw [Heap.size_push]
    rcases List.mem_cons.mp hb with rfl | hb
    · exact Nat.lt_succ_self _
    · rw [List.mem_singleton.mp hb]; exact Nat.lt_succ_of_lt hlt
  have up : ∀ (ob : Obj) b o, s₁.heap.get? b = some o → (s₁.heap.push ob).get? b = some o := fun ob b o e => Heap.get?_push_of_some _ e
  have offI : ∀ p ∈ news, p.1 ≠ s₁.heap.objs.size := fun p hp => Nat.ne_of_lt (Heap.lt_size (N p hp).1)
  refine wpAny_pyIter_tuple hl ?_
  refine block_T (Walks.tuple hh s₁.heap.objs.size ax (Nat.ne_of_lt hlt) its) (fun i h st => by obtain ⟨o, e, _⟩ := st.1; exact ⟨o, e⟩) ?_ hcell hkind hx ⟨⟨_, Heap.get?_push_size _ rfl, rfl, rfl⟩, hl.at fun o e => Heap.get?_push_of_some _ e⟩ (fun b hb => hfp b hb _)
    (F.keeps (up _)) (N.grown (up _)) (Nat.ne_of_lt F.ns.lt) (next_is_new F) offI ?_ ?_
  · intro i h h' o st e e' F' N'
    refine ⟨?_, ⟨_, (N' _ hmem).1, rfl, _, rfl⟩⟩
    obtain ⟨o', q, r⟩ := st.1
    rw [e] at q; cases q
    exact ⟨o, e', r⟩
  · intro i v I oI C oC D m₂ h tk E' _ hv hoC hx' F' N'
    exact turn _ ⟨_, rfl⟩ i v I oI C oC D m₂ h tk E' hv hoC hx' F' N'
  · intro D C h tk m' F' N' o1 hn hC0 hCL hCD offC
    have hset : setT (!(w.params.followText "set-order")) its.size = set1 !(w.params.followText "set-order") := by
      cases e : its.size with
      | zero => exact absurd e hne
      | succ => rfl
    rw [hset] at N'
    refine ⟨m', hn, fun h'' hs'' => done D h'' tk (F'.change hs'' hCL hC0) (fun p hp => ?_) o1⟩
    refine ⟨hs''.extBut _ _ ?_ (N' p hp).1, (N' p hp).2⟩
    rcases List.mem_cons.mp hp with rfl | hp
    · exact Ne.symm hCD
    · exact offC p hp
end
end Mine

namespace Mine
section
variable {prog : Program} {w : World} {A : Around} {E : Value → Shared → Prop} {s : Shared} {env : Env} {h₀ : Heap} {L : Addr} {m : Str → Option Value} {news : List (Addr × Obj)}

/-- y, = {True} -/
theorem assign_T1 {a : Addr} {y : Str} {py tpos : Pos} {k} {Q : Unit → Shared → Prop} (hh : A.handled = none) (F : Fr h₀ L s.heap m) (N : News h₀ L s.heap news) (hmem : (a, set1 !(w.params.followText "set-order")) ∈ news) (hLe : env.locals = L)
    (hy : env.kindOf y = some .local) (hp : (env.scope.kind == .class || (env.scope.kind == .module && env.locals != env.globals)) = false)
    (h : ∀ h' tk', Fr h₀ L h' (fun z => if z = y then some (.bool true) else m z) → News h₀ L h' news → Q () { s with heap := h', toks := tk' }) :
    wpAny (model prog w) A (assign (.Tuple [.Name y py] k tpos) env (.ref a)) Q E s := by
  subst hLe
  rw [arm_assign_Tuple]
  refine wpAny_bind (wpAny_standAt ?_)
  unfold unpack
  refine wpAny_bind (wpAny_holding (unpack_T hh (N _ hmem).1 fun h₁ he₁ => ?_))
  have up : ∀ b o, s.heap.get? b = some o → h₁.get? b = some o := fun b o e => he₁ b o (Nat.ne_of_lt (Heap.lt_size e)) e
  have F₁ := F.keeps up
  have N₁ := N.grown up
  show wpAny _ A (assign (.Name y py) env (.bool true) >>= fun _ => assignInOrder [] []) _ _ _
  refine wpAny_bind ?_
  refine wpAny_assign_Name (wpAny_storeName_local hy F₁.ns (fun h₂ hn₂ hs₂ => ?_) hp)
  have hL₀ : h₀.get? env.locals = none := Heap.get?_none_of_le F₁.above
  refine wpAny_pure (h _ _ ⟨hn₂, fun b o e => hs₂.extBut b o (fun q => by rw [q, hL₀] at e; cases e) (F₁.keep b o e), F₁.above⟩ fun p hp => ⟨hs₂.extBut _ _ (N₁ p hp).2.1 (N₁ p hp).1, (N₁ p hp).2⟩)
end
end Mine

namespace Mine
open AutoSeq1 (wpAny_loadPart')
open MeetsSeq MeetsSeq2 MeetsSeq3 SeqRoads2

def ltS (x y : Str) : Bool := decide (x.cps.toList < y.cps.toList)
/-- one list of texts ahead of another -/
def ltL : List Str → List Str → Bool
  | [], [] => false
  | [], _ :: _ => true
  | _ :: _, [] => false
  | x :: xs, y :: ys => if x = y then ltL xs ys else ltS x y

theorem strs_at {vs : List Value} {xs : List Str} (h : StrsAre vs xs) : ∀ {i : Nat} {x : Str}, xs[i]? = some x → ∃ t, vs[i]? = some (.str x t) := by
  induction h with
  | nil => intro i x e; simp at e
  | cons y t _ ih =>
    intro i x e
    cases i with
    | zero => simp at e; subst e; exact ⟨t, rfl⟩
    | succ i => exact ih (by simpa using e)

theorem rc_lt {prog : Program} {w : World} {A : Around} {E : Value → Shared → Prop} {s : Shared} {x y : Str} {t u : Tok} {Q : Value → Shared → Prop} (h : Q (.bool (ltS x y)) s) : wpAny (model prog w) A (richCompare .Lt (.str x t) (.str y u)) Q E s :=
  show wpAny (model prog w) A (compareOp .Lt (.str x t) (.str y u)) Q E s from PyProof.Rows.lt_str h
theorem rc_gt {prog : Program} {w : World} {A : Around} {E : Value → Shared → Prop} {s : Shared} {x y : Str} {t u : Tok} {Q : Value → Shared → Prop} (h : Q (.bool (ltS y x)) s) : wpAny (model prog w) A (richCompare .Gt (.str x t) (.str y u)) Q E s :=
  show wpAny (model prog w) A (compareOp .Gt (.str x t) (.str y u)) Q E s from PySem.P.gt_str h

theorem lt_loop (l b : Addr) (items items2 : Array Value) (n n2 : Nat) (dd dd2 : Option Addr) (sl sl2 : Array (Option Value)) (xs ys : List Str) (h1 : StrsAre items.toList xs) (h2 : StrsAre items2.toList ys) (k : Nat) :
    ∀ i : Nat, xs.length - i = k → i ≤ xs.length → i ≤ ys.length → Meets (Builtin.«list.__eq__.loop» ⟨[.ref l, .ref b, rawInt i, rawInt 0], []⟩)
      (fun A R s => s.heap.get? l = some { cls := .type "list", dict := dd, data := .seq items n, slots := sl } ∧ s.heap.get? b = some { cls := .type "list", dict := dd2, data := .seq items2 n2, slots := sl2 } ∧
        R (.ok (.ret (.bool (ltL (xs.drop i) (ys.drop i))))) s) := by
  have z1 : items.size = xs.length := by have := h1.length; simpa using this
  have z2 : items2.size = ys.length := by have := h2.length; simpa using this
  have sizes : ∀ i, i ≤ xs.length → i ≤ ys.length → (xs[i]? = none ∨ ys[i]? = none) → ltL (xs.drop i) (ys.drop i) = decide (items.size < items2.size) := by
    intro i ha hb hor
    rcases hor with e | e
    · have e1 : xs.drop i = [] := List.drop_eq_nil_of_le (List.getElem?_eq_none_iff.mp e)
      have e2 := List.getElem?_eq_none_iff.mp e
      rw [e1]
      cases q : ys.drop i with
      | nil =>
        have := List.drop_eq_nil_iff.mp q
        simp [ltL]; omega
      | cons y r =>
        have q2 : i < ys.length := by
          rcases Nat.lt_or_ge i ys.length with h | h
          · exact h
          · rw [List.drop_eq_nil_of_le h] at q; cases q
        simp [ltL]; omega
    · have e1 : ys.drop i = [] := List.drop_eq_nil_of_le (List.getElem?_eq_none_iff.mp e)
      have e2 := List.getElem?_eq_none_iff.mp e
      rw [e1]
      cases q : xs.drop i with
      | nil =>
        have := List.drop_eq_nil_iff.mp q
        simp [ltL]; omega
      | cons y r => simp [ltL]; omega
  induction k with
  | zero =>
    intro i hk ha hb prog w A R s h
    obtain ⟨hp, g, d, tk, os⟩ := s; obtain ⟨hl, hb', h⟩ := h
    wp_walk using wpAny_loadPart' hl, wpAny_loadPart' hb'
    have hi1 : items[((i : Nat) : Int).toNat]? = none := by simp; omega
    rw [sizes i ha hb (.inl (by simp; omega))] at h
    rw [hi1]
    wp_walk using wpAny_loadPart' hl, wpAny_loadPart' hb'
    exact h
  | succ k ih =>
    intro i hk ha hb prog w A R s h
    obtain ⟨hp, g, d, tk, os⟩ := s; obtain ⟨hl, hb', h⟩ := h
    wp_walk using wpAny_loadPart' hl, wpAny_loadPart' hb'
    have hlt : i < xs.length := by omega
    have hxi : xs[i]? = some xs[i] := List.getElem?_eq_getElem hlt
    obtain ⟨t, ht⟩ := strs_at h1 hxi
    have hi1 : items[((i : Nat) : Int).toNat]? = some (.str xs[i] t) := by simpa using ht
    rcases Nat.lt_or_ge i ys.length with hlt2 | hge2
    · have hyi : ys[i]? = some ys[i] := List.getElem?_eq_getElem hlt2
      obtain ⟨u, hu⟩ := strs_at h2 hyi
      have hi2 : items2[((i : Nat) : Int).toNat]? = some (.str ys[i] u) := by simpa using hu
      have hd1 : xs.drop i = xs[i] :: xs.drop (i + 1) := List.drop_eq_getElem_cons hlt
      have hd2 : ys.drop i = ys[i] :: ys.drop (i + 1) := List.drop_eq_getElem_cons hlt2
      have hc : ((i : Int) + 1) = ((i + 1 : Nat) : Int) := by push_cast; rfl
      rw [hd1, hd2, ltL] at h
      rw [hi1, hi2]
      refine wpAny_bind (eqGives_str _ _ _ _ prog w _ _ _ _ ?_)
      by_cases he : xs[i] = ys[i]
      · rw [if_pos he] at h
        have he' : (xs[i] == ys[i]) = true := by simp [he]
        rw [he']
        wp_walk
        rw [hc]
        exact ⟨plainId_quiet plain_eq_loop _, codeAny_builtin entry_eq_loop (by
          rw [Around.under_plainId plain_eq_loop _]
          exact ih (i + 1) (by omega) hlt hlt2 prog w A R _ ⟨hl, hb', h⟩)⟩
      · rw [if_neg he] at h
        have he' : (xs[i] == ys[i]) = false := by simp [he]
        rw [he']
        wp_walk using wpAny_loadPart' hl, wpAny_loadPart' hb'
        rw [hi1, hi2]
        dsimp only
        refine wpAny_bind (rc_lt ?_)
        wp_walk
        exact h
    · have hi2 : items2[((i : Nat) : Int).toNat]? = none := by simp; omega
      rw [sizes i ha hb (.inr (by simp; omega))] at h
      rw [hi1, hi2]
      wp_walk using wpAny_loadPart' hl, wpAny_loadPart' hb'
      exact h
theorem gt_loop (l b : Addr) (items items2 : Array Value) (n n2 : Nat) (dd dd2 : Option Addr) (sl sl2 : Array (Option Value)) (xs ys : List Str) (h1 : StrsAre items.toList xs) (h2 : StrsAre items2.toList ys) (k : Nat) :
    ∀ i : Nat, xs.length - i = k → i ≤ xs.length → i ≤ ys.length → Meets (Builtin.«list.__eq__.loop» ⟨[.ref l, .ref b, rawInt i, rawInt 4], []⟩)
      (fun A R s => s.heap.get? l = some { cls := .type "list", dict := dd, data := .seq items n, slots := sl } ∧ s.heap.get? b = some { cls := .type "list", dict := dd2, data := .seq items2 n2, slots := sl2 } ∧
        R (.ok (.ret (.bool (ltL (ys.drop i) (xs.drop i))))) s) := by
  have z1 : items.size = xs.length := by have := h1.length; simpa using this
  have z2 : items2.size = ys.length := by have := h2.length; simpa using this
  have sizes : ∀ i, i ≤ xs.length → i ≤ ys.length → (xs[i]? = none ∨ ys[i]? = none) → ltL (ys.drop i) (xs.drop i) = decide (items2.size < items.size) := by
    intro i ha hb hor
    rcases hor with e | e
    · have e1 : xs.drop i = [] := List.drop_eq_nil_of_le (List.getElem?_eq_none_iff.mp e)
      have e2 := List.getElem?_eq_none_iff.mp e
      rw [e1]
      cases q : ys.drop i with
      | nil =>
        have := List.drop_eq_nil_iff.mp q
        simp [ltL]; omega
      | cons y r =>
        have q2 : i < ys.length := by
          rcases Nat.lt_or_ge i ys.length with h | h
          · exact h
          · rw [List.drop_eq_nil_of_le h] at q; cases q
        simp [ltL]; omega
    · have e1 : ys.drop i = [] := List.drop_eq_nil_of_le (List.getElem?_eq_none_iff.mp e)
      have e2 := List.getElem?_eq_none_iff.mp e
      rw [e1]
      cases q : xs.drop i with
      | nil =>
        have := List.drop_eq_nil_iff.mp q
        simp [ltL]; omega
      | cons y r =>
        have q2 : i < xs.length := by
          rcases Nat.lt_or_ge i xs.length with h | h
          · exact h
          · rw [List.drop_eq_nil_of_le h] at q; cases q
        simp [ltL]; omega
  induction k with
  | zero =>
    intro i hk ha hb prog w A R s h
    obtain ⟨hp, g, d, tk, os⟩ := s; obtain ⟨hl, hb', h⟩ := h
    wp_walk using wpAny_loadPart' hl, wpAny_loadPart' hb'
    have hi1 : items[((i : Nat) : Int).toNat]? = none := by simp; omega
    rw [sizes i ha hb (.inl (by simp; omega))] at h
    rw [hi1]
    wp_walk using wpAny_loadPart' hl, wpAny_loadPart' hb'
    exact h
  | succ k ih =>
    intro i hk ha hb prog w A R s h
    obtain ⟨hp, g, d, tk, os⟩ := s; obtain ⟨hl, hb', h⟩ := h
    wp_walk using wpAny_loadPart' hl, wpAny_loadPart' hb'
    have hlt : i < xs.length := by omega
    have hxi : xs[i]? = some xs[i] := List.getElem?_eq_getElem hlt
    obtain ⟨t, ht⟩ := strs_at h1 hxi
    have hi1 : items[((i : Nat) : Int).toNat]? = some (.str xs[i] t) := by simpa using ht
    rcases Nat.lt_or_ge i ys.length with hlt2 | hge2
    · have hyi : ys[i]? = some ys[i] := List.getElem?_eq_getElem hlt2
      obtain ⟨u, hu⟩ := strs_at h2 hyi
      have hi2 : items2[((i : Nat) : Int).toNat]? = some (.str ys[i] u) := by simpa using hu
      have hd1 : xs.drop i = xs[i] :: xs.drop (i + 1) := List.drop_eq_getElem_cons hlt
      have hd2 : ys.drop i = ys[i] :: ys.drop (i + 1) := List.drop_eq_getElem_cons hlt2
      have hc : ((i : Int) + 1) = ((i + 1 : Nat) : Int) := by push_cast; rfl
      rw [hd1, hd2, ltL] at h
      rw [hi1, hi2]
      refine wpAny_bind (eqGives_str _ _ _ _ prog w _ _ _ _ ?_)
      by_cases he : xs[i] = ys[i]
      · rw [if_pos he.symm] at h
        have he' : (xs[i] == ys[i]) = true := by simp [he]
        rw [he']
        wp_walk
        rw [hc]
        exact ⟨plainId_quiet plain_eq_loop _, codeAny_builtin entry_eq_loop (by
          rw [Around.under_plainId plain_eq_loop _]
          exact ih (i + 1) (by omega) hlt hlt2 prog w A R _ ⟨hl, hb', h⟩)⟩
      · rw [if_neg (fun e => he e.symm)] at h
        have he' : (xs[i] == ys[i]) = false := by simp [he]
        rw [he']
        wp_walk using wpAny_loadPart' hl, wpAny_loadPart' hb'
        rw [hi1, hi2]
        dsimp only
        refine wpAny_bind (rc_gt ?_)
        wp_walk
        exact h
    · have hi2 : items2[((i : Nat) : Int).toNat]? = none := by simp; omega
      rw [sizes i ha hb (.inr (by simp; omega))] at h
      rw [hi1, hi2]
      wp_walk using wpAny_loadPart' hl, wpAny_loadPart' hb'
      exact h

theorem lt_meets (l b : Addr) (items items2 : Array Value) (n n2 : Nat) (dd dd2 : Option Addr) (sl sl2 : Array (Option Value)) (xs ys : List Str) (h1 : StrsAre items.toList xs) (h2 : StrsAre items2.toList ys) :
    Meets (Builtin.«list.__lt__» ⟨[.ref l, .ref b], []⟩)
      (fun A R s => s.heap.get? l = some { cls := .type "list", dict := dd, data := .seq items n, slots := sl } ∧ s.heap.get? b = some { cls := .type "list", dict := dd2, data := .seq items2 n2, slots := sl2 } ∧
        R (.ok (.ret (.bool (ltL xs ys)))) s) := by
  intro prog w A R s h
  obtain ⟨hp, g, d, tk, os⟩ := s; obtain ⟨hl, hb, h⟩ := h
  have f3 := AutoSeq1.sub_list_list
  wp_walk using wpAny_loadPart' hl, wpAny_loadPart' hb
  exact ⟨plainId_quiet plain_eq_loop _, codeAny_builtin entry_eq_loop (by
    rw [Around.under_plainId plain_eq_loop _]
    exact lt_loop l b items items2 n n2 dd dd2 sl sl2 xs ys h1 h2 _ 0 rfl (Nat.zero_le _) (Nat.zero_le _) prog w A R _ ⟨hl, hb, by simpa using h⟩)⟩

theorem gt_meets (l b : Addr) (items items2 : Array Value) (n n2 : Nat) (dd dd2 : Option Addr) (sl sl2 : Array (Option Value)) (xs ys : List Str) (h1 : StrsAre items.toList xs) (h2 : StrsAre items2.toList ys) :
    Meets (Builtin.«list.__gt__» ⟨[.ref l, .ref b], []⟩)
      (fun A R s => s.heap.get? l = some { cls := .type "list", dict := dd, data := .seq items n, slots := sl } ∧ s.heap.get? b = some { cls := .type "list", dict := dd2, data := .seq items2 n2, slots := sl2 } ∧
        R (.ok (.ret (.bool (ltL ys xs)))) s) := by
  intro prog w A R s h
  obtain ⟨hp, g, d, tk, os⟩ := s; obtain ⟨hl, hb, h⟩ := h
  have f3 := AutoSeq1.sub_list_list
  wp_walk using wpAny_loadPart' hl, wpAny_loadPart' hb
  exact ⟨plainId_quiet plain_eq_loop _, codeAny_builtin entry_eq_loop (by
    rw [Around.under_plainId plain_eq_loop _]
    exact gt_loop l b items items2 n n2 dd dd2 sl sl2 xs ys h1 h2 _ 0 rfl (Nat.zero_le _) (Nat.zero_le _) prog w A R _ ⟨hl, hb, by simpa using h⟩)⟩

section
variable {prog : Program} {w : World} {A : Around} {E : Value → Shared → Prop} {s : Shared} {l b : Addr} {items items2 : Array Value} {xs ys : List Str} {Q : Value → Shared → Prop}
theorem lt_strs (hl : s.heap.IsList l items) (hb : s.heap.IsList b items2) (h1 : StrsAre items.toList xs) (h2 : StrsAre items2.toList ys) (hu : A.units < cLine) (h : Q (.bool (ltL xs ys)) s) :
    wpAny (model prog w) A (richCompare .Lt (.ref l) (.ref b)) Q E s := by
  obtain ⟨⟨cls, dd, data, sl⟩, ho, hc, n, hd⟩ := id hl
  obtain ⟨⟨cls2, dd2, data2, sl2⟩, ho2, hc2, n2, hd2⟩ := id hb
  simp only at hc hd hc2 hd2
  subst hc hd hc2 hd2
  exact richCompare_meets_room (op := .Lt) ⟨_, ho, rfl⟩ ⟨_, ho2, rfl⟩ F.slot_list_lt F.entry_list_lt (F.args_list_lt_2 _ _) (lt_meets l b items items2 n n2 dd dd2 sl sl2 xs ys h1 h2)
    ⟨ho, ho2, show Value.bool (ltL xs ys) ≠ Value.notImplemented ∧ Q (.bool (ltL xs ys)) s from ⟨(fun x => nomatch x), h⟩⟩ hu
theorem gt_strs (hl : s.heap.IsList l items) (hb : s.heap.IsList b items2) (h1 : StrsAre items.toList xs) (h2 : StrsAre items2.toList ys) (hu : A.units < cLine) (h : Q (.bool (ltL ys xs)) s) :
    wpAny (model prog w) A (richCompare .Gt (.ref l) (.ref b)) Q E s := by
  obtain ⟨⟨cls, dd, data, sl⟩, ho, hc, n, hd⟩ := id hl
  obtain ⟨⟨cls2, dd2, data2, sl2⟩, ho2, hc2, n2, hd2⟩ := id hb
  simp only at hc hd hc2 hd2
  subst hc hd hc2 hd2
  exact richCompare_meets_room (op := .Gt) ⟨_, ho, rfl⟩ ⟨_, ho2, rfl⟩ F.slot_list_gt F.entry_list_gt (F.args_list_gt_2 _ _) (gt_meets l b items items2 n n2 dd dd2 sl sl2 xs ys h1 h2)
    ⟨ho, ho2, show Value.bool (ltL ys xs) ≠ Value.notImplemented ∧ Q (.bool (ltL ys xs)) s from ⟨(fun x => nomatch x), h⟩⟩ hu
end
end Mine

namespace Mine

theorem ltS_irrefl (x : Str) : ltS x x = false := by
  unfold ltS; simp [List.lt_irrefl]
theorem ltS_trans {x y z : Str} (h1 : ltS x y = true) (h2 : ltS y z = true) : ltS x z = true := by
  unfold ltS at *; simp only [decide_eq_true_eq] at *; exact List.lt_trans h1 h2
theorem ltS_tri {x y : Str} (h1 : ltS x y = false) (h2 : ltS y x = false) : x = y := by
  unfold ltS at *
  simp only [decide_eq_false_iff_not] at *
  have : x.cps.toList = y.cps.toList := List.le_antisymm (List.not_lt.mp h2) (List.not_lt.mp h1)
  cases x; cases y; simp only at this; exact congrArg Str.mk (Array.toList_inj.mp this)
theorem ltL_irrefl : ∀ xs : List Str, ltL xs xs = false := by
  intro xs
  induction xs with
  | nil => rfl
  | cons x r ih => simp [ltL, ih]
theorem ltL_trans : ∀ xs ys zs : List Str, ltL xs ys = true → ltL ys zs = true → ltL xs zs = true := by
  intro xs
  induction xs with
  | nil => intro ys zs h1 h2; cases ys with
    | nil => exact h2
    | cons y ys => cases zs with
      | nil => simp [ltL] at h2
      | cons z zs => rfl
  | cons x xs ih =>
    intro ys zs h1 h2
    cases ys with
    | nil => simp [ltL] at h1
    | cons y ys =>
      cases zs with
      | nil => simp [ltL] at h2
      | cons z zs =>
        simp only [ltL] at h1 h2 ⊢
        by_cases e1 : x = y
        · rw [if_pos e1] at h1
          by_cases e2 : y = z
          · rw [if_pos e2] at h2; rw [if_pos (e1.trans e2)]; exact ih ys zs h1 h2
          · rw [if_neg e2] at h2; subst e1; rw [if_neg e2]; exact h2
        · rw [if_neg e1] at h1
          by_cases e2 : y = z
          · subst e2; rw [if_neg e1]; exact h1
          · rw [if_neg e2] at h2
            have h3 := ltS_trans h1 h2
            have e3 : x ≠ z := by rintro rfl; rw [ltS_irrefl] at h3; cases h3
            rw [if_neg e3]; exact h3

theorem best_lt {n : Nat} {lt : Nat → Nat → Bool} (irr : ∀ i, lt i i = false) (tr : ∀ i j k, lt i j = true → lt j k = true → lt i k = true) :
    ∀ k, argBest lt k ≤ k ∧ ∀ j, j ≤ k → lt j (argBest lt k) = false := by
  intro k
  induction k with
  | zero => exact ⟨Nat.le_refl _, fun j hj => by have : j = 0 := by omega
                                                 subst this; exact irr 0⟩
  | succ k ih =>
    simp only [argBest]
    cases hb : lt (k + 1) (argBest lt k) with
    | true =>
      simp only [if_true]
      refine ⟨Nat.le_refl _, fun j hj => ?_⟩
      by_cases e : j = k + 1
      · subst e; exact irr _
      · cases q : lt j (k + 1) with
        | false => rfl
        | true =>
          have := ih.2 j (by omega)
          rw [tr _ _ _ q hb] at this; cases this
    | false =>
      simp only [Bool.false_eq_true, if_false]
      refine ⟨Nat.le_succ_of_le ih.1, fun j hj => ?_⟩
      by_cases e : j = k + 1
      · subst e; exact hb
      · exact ih.2 j (by omega)

section
variable {prog : Program} {w : World} {A : Around} {R : Result → Shared → Prop} {I : Addr} {fp : List Addr} {n : Nat} {P : Nat → Value → Prop} {St : Nat → Heap → Prop}

/-- a comparison that looks into the heap -/
def CmpG (prog : Program) (w : World) (A : Around) (op : CmpOp) (G : Heap → Prop) (P : Nat → Value → Prop) (bt : Nat → Nat → Bool) : Prop :=
  ∀ i j vi vj (s : Shared) (Q : Value → Shared → Prop) (E : Value → Shared → Prop), G s.heap → P i vi → P j vj → Q (.bool (bt i j)) s → wpAny (model prog w) A (richCompare op vi vj) Q E s

theorem minG_loop (W : Walks prog w A.in1 I fp [I] n P St) (bt : Nat → Nat → Bool) (G : Heap → Prop) (S : Addr) (hcmp : CmpG prog w A.in1 .Lt G P bt) (hG : ∀ h h', G h → (∀ b o, b ≠ I → b ≠ S → h.get? b = some o → h'.get? b = some o) → G h') (hSf : S ∉ fp) :
    ∀ (k j : Nat) (s : Shared) (vb : Value) (c : Nat), n - (j + 1) = k → j + 1 ≤ n → G s.heap → St (j + 1) s.heap → P (argBest bt j) vb →
    s.heap.get? S = some { cls := .type "list", dict := none, data := .seq #[vb, vb] c, slots := #[] } →
    (∀ v h' tk, P (argBest bt (n - 1)) v → (∀ b o, b ≠ I → b ≠ S → s.heap.get? b = some o → h'.get? b = some o) → R (.ok (.ret v)) { s with heap := h', toks := tk }) →
    codeAny (model prog w) A (.builtin "min.loop" ⟨[.ref I, .none, .ref S], []⟩) R s := by
  have hSI : S ≠ I := fun h => hSf (W.sub _ (by simp [h]))
  have hname : (toString "min" ++ toString ".loop" : String) = "min.loop" := by decide
  have up : ∀ {h h' : Heap}, (∀ b o, b ∉ [I] → h.get? b = some o → h'.get? b = some o) → ∀ b o, b ≠ I → b ≠ S → h.get? b = some o → h'.get? b = some o := fun hk b o h1 _ e => hk b o (by simpa using h1) e
  intro k
  induction k with
  | zero =>
    intro j s vb c hk hj hg hst hPb hS hR
    have hin : j + 1 = n := by omega
    refine codeAny_builtin F.entry_min_loop ?_
    rw [Around.under_plainId F.plain_min_loop _]
    show wpAny _ A.in1 (seqItems? (.ref S) >>= _) _ _ s
    refine wpAny_bind (wpAny_seqItems hS rfl ?_)
    show wpAny _ A.in1 (tryCatch (pyNext (.ref I)) _ >>= _) _ _ s
    refine wpAny_bind (wpAny_tryCatch (W.done s _ _ (hin ▸ hst) fun h' tk hk' => ?_))
    have hS' := hk' S _ (by simpa using hSI) hS
    show wpAny _ A.in1 (updateSeq S (fun _ => #[]) >>= _) _ _ _
    refine wpAny_bind ?_
    refine wpAny_updateSeq hS' rfl (wpAny_bind (wpAny_letGo (wpAny_pure ?_)))
    exact hR vb _ tk (by rw [← hin]; exact hPb) fun b o hbw hbS e => (Heap.get?_update_other _ _ (Ne.symm hbS)).trans (up hk' b o hbw hbS e)
  | succ k ih =>
    intro j s vb c hk hj hg hst hPb hS hR
    have hlt : j + 1 < n := by omega
    refine codeAny_builtin F.entry_min_loop ?_
    rw [Around.under_plainId F.plain_min_loop _]
    show wpAny _ A.in1 (seqItems? (.ref S) >>= _) _ _ s
    refine wpAny_bind (wpAny_seqItems hS rfl ?_)
    show wpAny _ A.in1 (tryCatch (pyNext (.ref I)) _ >>= _) _ _ s
    refine wpAny_bind (wpAny_tryCatch (W.item (j + 1) s _ _ hlt hst fun v h' tk hP hst' hk' => ?_))
    have hS' := hk' S _ (by simpa using hSI) hS
    have hg' := hG _ _ hg (up hk')
    show wpAny _ A.in1 (tryCatch (holding [v, v] (richCompare .Lt v vb >>= _)) _ >>= _) _ _ _
    refine wpAny_bind (wpAny_tryCatch (wpAny_holding (wpAny_bind (hcmp (j + 1) (argBest bt j) v vb _ _ _ hg' hP hPb ?_))))
    refine wpAny_bind (wpAny_holding (wpAny_truthy_bool ?_))
    refine wpAny_bind (wpAny_letGo (wpAny_pure ?_))
    cases hb : bt (j + 1) (argBest bt j) with
    | true =>
      simp only [if_true]
      refine wpAny_bind ?_
      refine wpAny_updateSeq hS' rfl (wpAny_bind (wpAny_letGo ?_))
      rw [hname]
      have st2 : ∀ b o, b ≠ I → b ≠ S → h'.get? b = some o → (h'.update S (Obj.mapSeq fun _ => #[v, v])).get? b = some o := fun b o _ hbS e => (Heap.get?_update_other _ _ (Ne.symm hbS)).trans e
      refine wpAny_pure ⟨plainId_quiet F.plain_min_loop _, ih (j + 1) _ v _ (by omega) hlt (hG _ _ hg' st2) (W.frame _ _ _ hst' fun b hbf o e => ?_) (by simp only [argBest, hb, if_true]; exact hP) (Heap.get?_update_self _ hS' rfl)
        fun v' h'' tk'' hP' hk'' => ?_⟩
      · exact (Heap.get?_update_other _ _ (fun h : S = b => hSf (by rw [h]; exact hbf))).trans e
      · exact hR v' h'' tk'' hP' fun b o hbw hbS e => hk'' b o hbw hbS (st2 b o hbw hbS (up hk' b o hbw hbS e))
    | false =>
      simp only [Bool.false_eq_true, if_false]
      refine wpAny_bind (wpAny_letGo ?_)
      rw [hname]
      refine wpAny_pure ⟨plainId_quiet F.plain_min_loop _, ih (j + 1) _ vb c (by omega) hlt hg' hst' (by simp only [argBest, hb, Bool.false_eq_true, if_false]; exact hPb) hS' fun v' h'' tk'' hP' hk'' => ?_⟩
      exact hR v' h'' tk'' hP' fun b o hbw hbS e => hk'' b o hbw hbS (up hk' b o hbw hbS e)

theorem minG_first (W : Walks prog w A.in1 I fp [I] n P St) (bt : Nat → Nat → Bool) (G : Heap → Prop) (S : Addr) (hcmp : CmpG prog w A.in1 .Lt G P bt) (hG : ∀ h h', G h → (∀ b o, b ≠ I → b ≠ S → h.get? b = some o → h'.get? b = some o) → G h') (hSf : S ∉ fp) (hn : 0 < n) {s : Shared} {c : Nat} (hg : G s.heap) (hst : St 0 s.heap)
    (hS : s.heap.get? S = some { cls := .type "list", dict := none, data := .seq #[] c, slots := #[] })
    (hR : ∀ v h' tk, P (argBest bt (n - 1)) v → (∀ b o, b ≠ I → b ≠ S → s.heap.get? b = some o → h'.get? b = some o) → R (.ok (.ret v)) { s with heap := h', toks := tk }) :
    codeAny (model prog w) A (.builtin "min.loop" ⟨[.ref I, .none, .ref S], []⟩) R s := by
  have hSI : S ≠ I := fun h => hSf (W.sub _ (by simp [h]))
  have hname : (toString "min" ++ toString ".loop" : String) = "min.loop" := by decide
  refine codeAny_builtin F.entry_min_loop ?_
  rw [Around.under_plainId F.plain_min_loop _]
  show wpAny _ A.in1 (seqItems? (.ref S) >>= _) _ _ s
  refine wpAny_bind (wpAny_seqItems hS rfl ?_)
  show wpAny _ A.in1 (tryCatch (pyNext (.ref I)) _ >>= _) _ _ s
  refine wpAny_bind (wpAny_tryCatch (W.item 0 s _ _ hn hst fun v h' tk hP hst' hk' => ?_))
  have hS' := hk' S _ (by simpa using hSI) hS
  have st1 : ∀ b o, b ≠ I → b ≠ S → s.heap.get? b = some o → (h'.update S (Obj.mapSeq fun _ => #[v, v])).get? b = some o := fun b o hb hbS e => (Heap.get?_update_other _ _ (Ne.symm hbS)).trans (hk' b o (by simpa using hb) e)
  show wpAny _ A.in1 (updateSeq S (fun _ => #[v, v]) >>= _) _ _ _
  refine wpAny_bind ?_
  refine wpAny_updateSeq hS' rfl ?_
  rw [hname]
  refine wpAny_pure ⟨plainId_quiet F.plain_min_loop _, minG_loop W bt G S hcmp hG hSf _ 0 _ v _ rfl hn (hG _ _ hg st1) (W.frame _ _ _ hst' fun b hbf o e => ?_) hP (Heap.get?_update_self _ hS' rfl) fun v' h'' tk'' hP' hk'' => ?_⟩
  · exact (Heap.get?_update_other _ _ (fun h : S = b => hSf (by rw [h]; exact hbf))).trans e
  · exact hR v' h'' tk'' hP' fun b o hbw hbS e => hk'' b o hbw hbS (st1 b o hbw hbS e)

theorem min_rows {E : Value → Shared → Prop} {s : Shared} {l : Addr} {its : Array Value} {rs : List (List Str)} {Q : Value → Shared → Prop} (hh : A.handled = none) (hl : s.heap.IsList l its) (hR : RowsAre s.heap its.toList rs) (hne : 0 < rs.length) (hu : A.units + 2 < cLine)
    (h : ∀ (i : Nat) v r h' tk, s.heap.StaysIn h' → its[i]? = some v → rs[i]? = some r → (∀ q ∈ rs, ltL q r = false) → Q v { s with heap := h', toks := tk }) :
    wpAny (model prog w) A (call (.builtin "min") [.ref l]) Q E s := by
  have hname : (toString "min" ++ toString ".loop" : String) = "min.loop" := by decide
  have hsz : its.size = rs.length := by have := hR.length; simpa using this
  obtain ⟨ol, hol, _⟩ := id hl
  have hlt : l < s.heap.objs.size := Heap.lt_size hol
  refine call_function_tree F.kind_min F.plain_min F.entry_min (F.args_min1 _) ?_
  show wpAny _ A.in1 (Builtin.Builtins.bindParams "min" ["key", "default"] 0 ⟨[], []⟩ >>= _) _ _ s
  refine wpAny_bind (wpAny_of_eq (show Builtin.Builtins.bindParams "min" ["key", "default"] 0 ⟨[], []⟩ = pure [none, none] from rfl) ?_)
  refine wpAny_bind (wpAny_pure ?_)
  refine wpAny_bind (wpAny_pyIter_list hl ?_)
  refine wpAny_bind (wpAny_newObj_type ?_)
  rw [hname]
  have hS : (s.heap.push { cls := .type "list_iterator", data := .fields #[.ref l, .int 0 0] }).objs.size = s.heap.objs.size + 1 := size_push' ..
  have W := Walks.list (prog := prog) (w := w) (A := A.in1) hh s.heap.objs.size l (Nat.ne_of_lt hlt) its
  have up0 : ∀ b o, s.heap.get? b = some o → ((s.heap.push { cls := .type "list_iterator", data := .fields #[.ref l, .int 0 0] }).push { cls := .type "list", dict := none, data := .seq ([] : List Value).toArray }).get? b = some o := fun b o e => Heap.get?_push_of_some _ (Heap.get?_push_of_some _ e)
  refine wpAny_pure ⟨plainId_quiet F.plain_min_loop _, minG_first W (fun i j => ltL (rs.getD i []) (rs.getD j [])) (fun h => ∀ b o, s.heap.get? b = some o → h.get? b = some o) (s.heap.push { cls := .type "list_iterator", data := .fields #[.ref l, .int 0 0] }).objs.size ?_ ?_ ?_ (by rw [hsz]; exact hne) up0 ⟨⟨_, Heap.get?_push_of_some _ (Heap.get?_push_size _ rfl), rfl, rfl⟩, hl.at fun o e => up0 l o e⟩ (Heap.get?_push_size _ rfl) ?_⟩
  · intro i j vi vj s' Q' E' hg hi hj hq
    obtain ⟨a1, it1, r1, hr1, rfl, hl1, hS1⟩ := hR.get (show its.toList[i]? = some vi by simpa using hi)
    obtain ⟨a2, it2, r2, hr2, rfl, hl2, hS2⟩ := hR.get (show its.toList[j]? = some vj by simpa using hj)
    refine lt_strs (hl1.at fun o e => hg _ o e) (hl2.at fun o e => hg _ o e) hS1 hS2 (by show A.units + 1 < cLine; omega) ?_
    have e1 : rs.getD i [] = r1 := by simp [hr1]
    have e2 : rs.getD j [] = r2 := by simp [hr2]
    simp only [e1, e2] at hq
    exact hq
  · intro g g' hg hk b o e
    have hb := Heap.lt_size e
    exact hk b o (Nat.ne_of_lt hb) (by rw [hS]; exact Nat.ne_of_lt (Nat.lt_succ_of_lt hb)) (hg b o e)
  · intro hm
    rw [hS] at hm
    rcases List.mem_cons.mp hm with e | hm
    · exact Nat.succ_ne_self _ e
    · exact Nat.ne_of_gt (Nat.lt_succ_of_lt hlt) (List.mem_singleton.mp hm)
  · intro v h' tk hP hk
    have B := best_lt (n := its.size) (lt := fun i j => ltL (rs.getD i []) (rs.getD j [])) (fun i => ltL_irrefl _) (fun i j k => ltL_trans _ _ _) (its.size - 1)
    obtain ⟨a1, it1, r1, hr1, hv, _, _⟩ := hR.get (show its.toList[argBest (fun i j => ltL (rs.getD i []) (rs.getD j [])) (its.size - 1)]? = some v from (Array.getElem?_toList ..).trans hP)
    refine h _ v r1 h' tk (fun b o e => ?_) hP hr1 fun q hq => ?_
    · have hb := Heap.lt_size e
      exact hk b o (Nat.ne_of_lt hb) (by rw [hS]; exact Nat.ne_of_lt (Nat.lt_succ_of_lt hb)) (up0 b o e)
    · obtain ⟨j, hj⟩ := List.getElem?_of_mem hq
      have hjl : j < rs.length := (List.getElem?_eq_some_iff.mp hj).1
      have := B.2 j (by omega)
      have e1 : rs.getD j [] = q := by simp [hj]
      have e2 : rs.getD (argBest (fun i j => ltL (rs.getD i []) (rs.getD j [])) (its.size - 1)) [] = r1 := by rw [List.getD_eq_getElem?_getD, hr1]; rfl
      rw [e1, e2] at this
      exact this
theorem maxG_loop (W : Walks prog w A.in1 I fp [I] n P St) (bt : Nat → Nat → Bool) (G : Heap → Prop) (S : Addr) (hcmp : CmpG prog w A.in1 .Gt G P bt) (hG : ∀ h h', G h → (∀ b o, b ≠ I → b ≠ S → h.get? b = some o → h'.get? b = some o) → G h') (hSf : S ∉ fp) :
    ∀ (k j : Nat) (s : Shared) (vb : Value) (c : Nat), n - (j + 1) = k → j + 1 ≤ n → G s.heap → St (j + 1) s.heap → P (argBest bt j) vb →
    s.heap.get? S = some { cls := .type "list", dict := none, data := .seq #[vb, vb] c, slots := #[] } →
    (∀ v h' tk, P (argBest bt (n - 1)) v → (∀ b o, b ≠ I → b ≠ S → s.heap.get? b = some o → h'.get? b = some o) → R (.ok (.ret v)) { s with heap := h', toks := tk }) →
    codeAny (model prog w) A (.builtin "max.loop" ⟨[.ref I, .none, .ref S], []⟩) R s := by
  have hSI : S ≠ I := fun h => hSf (W.sub _ (by simp [h]))
  have hname : (toString "max" ++ toString ".loop" : String) = "max.loop" := by decide
  have up : ∀ {h h' : Heap}, (∀ b o, b ∉ [I] → h.get? b = some o → h'.get? b = some o) → ∀ b o, b ≠ I → b ≠ S → h.get? b = some o → h'.get? b = some o := fun hk b o h1 _ e => hk b o (by simpa using h1) e
  intro k
  induction k with
  | zero =>
    intro j s vb c hk hj hg hst hPb hS hR
    have hin : j + 1 = n := by omega
    refine codeAny_builtin F.entry_max_loop ?_
    rw [Around.under_plainId F.plain_max_loop _]
    show wpAny _ A.in1 (seqItems? (.ref S) >>= _) _ _ s
    refine wpAny_bind (wpAny_seqItems hS rfl ?_)
    show wpAny _ A.in1 (tryCatch (pyNext (.ref I)) _ >>= _) _ _ s
    refine wpAny_bind (wpAny_tryCatch (W.done s _ _ (hin ▸ hst) fun h' tk hk' => ?_))
    have hS' := hk' S _ (by simpa using hSI) hS
    show wpAny _ A.in1 (updateSeq S (fun _ => #[]) >>= _) _ _ _
    refine wpAny_bind ?_
    refine wpAny_updateSeq hS' rfl (wpAny_bind (wpAny_letGo (wpAny_pure ?_)))
    exact hR vb _ tk (by rw [← hin]; exact hPb) fun b o hbw hbS e => (Heap.get?_update_other _ _ (Ne.symm hbS)).trans (up hk' b o hbw hbS e)
  | succ k ih =>
    intro j s vb c hk hj hg hst hPb hS hR
    have hlt : j + 1 < n := by omega
    refine codeAny_builtin F.entry_max_loop ?_
    rw [Around.under_plainId F.plain_max_loop _]
    show wpAny _ A.in1 (seqItems? (.ref S) >>= _) _ _ s
    refine wpAny_bind (wpAny_seqItems hS rfl ?_)
    show wpAny _ A.in1 (tryCatch (pyNext (.ref I)) _ >>= _) _ _ s
    refine wpAny_bind (wpAny_tryCatch (W.item (j + 1) s _ _ hlt hst fun v h' tk hP hst' hk' => ?_))
    have hS' := hk' S _ (by simpa using hSI) hS
    have hg' := hG _ _ hg (up hk')
    show wpAny _ A.in1 (tryCatch (holding [v, v] (richCompare .Gt v vb >>= _)) _ >>= _) _ _ _
    refine wpAny_bind (wpAny_tryCatch (wpAny_holding (wpAny_bind (hcmp (j + 1) (argBest bt j) v vb _ _ _ hg' hP hPb ?_))))
    refine wpAny_bind (wpAny_holding (wpAny_truthy_bool ?_))
    refine wpAny_bind (wpAny_letGo (wpAny_pure ?_))
    cases hb : bt (j + 1) (argBest bt j) with
    | true =>
      simp only [if_true]
      refine wpAny_bind ?_
      refine wpAny_updateSeq hS' rfl (wpAny_bind (wpAny_letGo ?_))
      rw [hname]
      have st2 : ∀ b o, b ≠ I → b ≠ S → h'.get? b = some o → (h'.update S (Obj.mapSeq fun _ => #[v, v])).get? b = some o := fun b o _ hbS e => (Heap.get?_update_other _ _ (Ne.symm hbS)).trans e
      refine wpAny_pure ⟨plainId_quiet F.plain_max_loop _, ih (j + 1) _ v _ (by omega) hlt (hG _ _ hg' st2) (W.frame _ _ _ hst' fun b hbf o e => ?_) (by simp only [argBest, hb, if_true]; exact hP) (Heap.get?_update_self _ hS' rfl)
        fun v' h'' tk'' hP' hk'' => ?_⟩
      · exact (Heap.get?_update_other _ _ (fun h : S = b => hSf (by rw [h]; exact hbf))).trans e
      · exact hR v' h'' tk'' hP' fun b o hbw hbS e => hk'' b o hbw hbS (st2 b o hbw hbS (up hk' b o hbw hbS e))
    | false =>
      simp only [Bool.false_eq_true, if_false]
      refine wpAny_bind (wpAny_letGo ?_)
      rw [hname]
      refine wpAny_pure ⟨plainId_quiet F.plain_max_loop _, ih (j + 1) _ vb c (by omega) hlt hg' hst' (by simp only [argBest, hb, Bool.false_eq_true, if_false]; exact hPb) hS' fun v' h'' tk'' hP' hk'' => ?_⟩
      exact hR v' h'' tk'' hP' fun b o hbw hbS e => hk'' b o hbw hbS (up hk' b o hbw hbS e)

theorem maxG_first (W : Walks prog w A.in1 I fp [I] n P St) (bt : Nat → Nat → Bool) (G : Heap → Prop) (S : Addr) (hcmp : CmpG prog w A.in1 .Gt G P bt) (hG : ∀ h h', G h → (∀ b o, b ≠ I → b ≠ S → h.get? b = some o → h'.get? b = some o) → G h') (hSf : S ∉ fp) (hn : 0 < n) {s : Shared} {c : Nat} (hg : G s.heap) (hst : St 0 s.heap)
    (hS : s.heap.get? S = some { cls := .type "list", dict := none, data := .seq #[] c, slots := #[] })
    (hR : ∀ v h' tk, P (argBest bt (n - 1)) v → (∀ b o, b ≠ I → b ≠ S → s.heap.get? b = some o → h'.get? b = some o) → R (.ok (.ret v)) { s with heap := h', toks := tk }) :
    codeAny (model prog w) A (.builtin "max.loop" ⟨[.ref I, .none, .ref S], []⟩) R s := by
  have hSI : S ≠ I := fun h => hSf (W.sub _ (by simp [h]))
  have hname : (toString "max" ++ toString ".loop" : String) = "max.loop" := by decide
  refine codeAny_builtin F.entry_max_loop ?_
  rw [Around.under_plainId F.plain_max_loop _]
  show wpAny _ A.in1 (seqItems? (.ref S) >>= _) _ _ s
  refine wpAny_bind (wpAny_seqItems hS rfl ?_)
  show wpAny _ A.in1 (tryCatch (pyNext (.ref I)) _ >>= _) _ _ s
  refine wpAny_bind (wpAny_tryCatch (W.item 0 s _ _ hn hst fun v h' tk hP hst' hk' => ?_))
  have hS' := hk' S _ (by simpa using hSI) hS
  have st1 : ∀ b o, b ≠ I → b ≠ S → s.heap.get? b = some o → (h'.update S (Obj.mapSeq fun _ => #[v, v])).get? b = some o := fun b o hb hbS e => (Heap.get?_update_other _ _ (Ne.symm hbS)).trans (hk' b o (by simpa using hb) e)
  show wpAny _ A.in1 (updateSeq S (fun _ => #[v, v]) >>= _) _ _ _
  refine wpAny_bind ?_
  refine wpAny_updateSeq hS' rfl ?_
  rw [hname]
  refine wpAny_pure ⟨plainId_quiet F.plain_max_loop _, maxG_loop W bt G S hcmp hG hSf _ 0 _ v _ rfl hn (hG _ _ hg st1) (W.frame _ _ _ hst' fun b hbf o e => ?_) hP (Heap.get?_update_self _ hS' rfl) fun v' h'' tk'' hP' hk'' => ?_⟩
  · exact (Heap.get?_update_other _ _ (fun h : S = b => hSf (by rw [h]; exact hbf))).trans e
  · exact hR v' h'' tk'' hP' fun b o hbw hbS e => hk'' b o hbw hbS (st1 b o hbw hbS e)

theorem max_rows {E : Value → Shared → Prop} {s : Shared} {l : Addr} {its : Array Value} {rs : List (List Str)} {Q : Value → Shared → Prop} (hh : A.handled = none) (hl : s.heap.IsList l its) (hR : RowsAre s.heap its.toList rs) (hne : 0 < rs.length) (hu : A.units + 2 < cLine)
    (h : ∀ (i : Nat) v r h' tk, s.heap.StaysIn h' → its[i]? = some v → rs[i]? = some r → (∀ q ∈ rs, ltL r q = false) → Q v { s with heap := h', toks := tk }) :
    wpAny (model prog w) A (call (.builtin "max") [.ref l]) Q E s := by
  have hname : (toString "max" ++ toString ".loop" : String) = "max.loop" := by decide
  have hsz : its.size = rs.length := by have := hR.length; simpa using this
  obtain ⟨ol, hol, _⟩ := id hl
  have hlt : l < s.heap.objs.size := Heap.lt_size hol
  refine call_function_tree F.kind_max F.plain_max F.entry_max (F.args_max1 _) ?_
  show wpAny _ A.in1 (Builtin.Builtins.bindParams "max" ["key", "default"] 0 ⟨[], []⟩ >>= _) _ _ s
  refine wpAny_bind (wpAny_of_eq (show Builtin.Builtins.bindParams "max" ["key", "default"] 0 ⟨[], []⟩ = pure [none, none] from rfl) ?_)
  refine wpAny_bind (wpAny_pure ?_)
  refine wpAny_bind (wpAny_pyIter_list hl ?_)
  refine wpAny_bind (wpAny_newObj_type ?_)
  rw [hname]
  have hS : (s.heap.push { cls := .type "list_iterator", data := .fields #[.ref l, .int 0 0] }).objs.size = s.heap.objs.size + 1 := size_push' ..
  have W := Walks.list (prog := prog) (w := w) (A := A.in1) hh s.heap.objs.size l (Nat.ne_of_lt hlt) its
  have up0 : ∀ b o, s.heap.get? b = some o → ((s.heap.push { cls := .type "list_iterator", data := .fields #[.ref l, .int 0 0] }).push { cls := .type "list", dict := none, data := .seq ([] : List Value).toArray }).get? b = some o := fun b o e => Heap.get?_push_of_some _ (Heap.get?_push_of_some _ e)
  refine wpAny_pure ⟨plainId_quiet F.plain_max_loop _, maxG_first W (fun i j => ltL (rs.getD j []) (rs.getD i [])) (fun h => ∀ b o, s.heap.get? b = some o → h.get? b = some o) (s.heap.push { cls := .type "list_iterator", data := .fields #[.ref l, .int 0 0] }).objs.size ?_ ?_ ?_ (by rw [hsz]; exact hne) up0 ⟨⟨_, Heap.get?_push_of_some _ (Heap.get?_push_size _ rfl), rfl, rfl⟩, hl.at fun o e => up0 l o e⟩ (Heap.get?_push_size _ rfl) ?_⟩
  · intro i j vi vj s' Q' E' hg hi hj hq
    obtain ⟨a1, it1, r1, hr1, rfl, hl1, hS1⟩ := hR.get (show its.toList[i]? = some vi by simpa using hi)
    obtain ⟨a2, it2, r2, hr2, rfl, hl2, hS2⟩ := hR.get (show its.toList[j]? = some vj by simpa using hj)
    refine gt_strs (hl1.at fun o e => hg _ o e) (hl2.at fun o e => hg _ o e) hS1 hS2 (by show A.units + 1 < cLine; omega) ?_
    have e1 : rs.getD i [] = r1 := by simp [hr1]
    have e2 : rs.getD j [] = r2 := by simp [hr2]
    simp only [e1, e2] at hq
    exact hq
  · intro g g' hg hk b o e
    have hb := Heap.lt_size e
    exact hk b o (Nat.ne_of_lt hb) (by rw [hS]; exact Nat.ne_of_lt (Nat.lt_succ_of_lt hb)) (hg b o e)
  · intro hm
    rw [hS] at hm
    rcases List.mem_cons.mp hm with e | hm
    · exact Nat.succ_ne_self _ e
    · exact Nat.ne_of_gt (Nat.lt_succ_of_lt hlt) (List.mem_singleton.mp hm)
  · intro v h' tk hP hk
    have B := best_lt (n := its.size) (lt := fun i j => ltL (rs.getD j []) (rs.getD i [])) (fun i => ltL_irrefl _) (fun i j k h1 h2 => ltL_trans _ _ _ h2 h1) (its.size - 1)
    obtain ⟨a1, it1, r1, hr1, hv, _, _⟩ := hR.get (show its.toList[argBest (fun i j => ltL (rs.getD j []) (rs.getD i [])) (its.size - 1)]? = some v from (Array.getElem?_toList ..).trans hP)
    refine h _ v r1 h' tk (fun b o e => ?_) hP hr1 fun q hq => ?_
    · have hb := Heap.lt_size e
      exact hk b o (Nat.ne_of_lt hb) (by rw [hS]; exact Nat.ne_of_lt (Nat.lt_succ_of_lt hb)) (up0 b o e)
    · obtain ⟨j, hj⟩ := List.getElem?_of_mem hq
      have hjl : j < rs.length := (List.getElem?_eq_some_iff.mp hj).1
      have := B.2 j (by omega)
      have e1 : rs.getD j [] = q := by simp [hj]
      have e2 : rs.getD (argBest (fun i j => ltL (rs.getD j []) (rs.getD i [])) (its.size - 1)) [] = r1 := by rw [List.getD_eq_getElem?_getD, hr1]; rfl
      rw [e1, e2] at this
      exact this
end
end Mine

namespace Mine
section
variable {prog : Program} {w : World} {A : Around} {E : Value → Shared → Prop} {s : Shared} {env : Env} {h₀ : Heap} {body : List Stmt} {Q : Flow → Shared → Prop}

/-- the end of a turn over enumerate -/
def EnEnd (h₀ : Heap) (L : Addr) (I : Addr) (oE oI : Obj) (s : Shared) (news : List (Addr × Obj)) (Jn : (Str → Option Value) → Prop) (s₂ : Shared) : Prop :=
  ∃ h' tk' m', s₂ = { s with heap := h', toks := tk' } ∧ Fr h₀ L h' m' ∧ News h₀ L h' ((I + 1, oE) :: (I, oI) :: news) ∧ Jn m'
theorem EnEnd.mk' {L I : Addr} {oE oI : Obj} {news all : List (Addr × Obj)} {Jn : (Str → Option Value) → Prop} {h' : Heap} {tk' : Nat} {m' : Str → Option Value} (F : Fr h₀ L h' m') (N : News h₀ L h' all) (hs : ∀ p ∈ (I + 1, oE) :: (I, oI) :: news, p ∈ all) (hj : Jn m') :
    EnEnd h₀ L I oE oI s news Jn { s with heap := h', toks := tk' } := ⟨h', tk', m', rfl, F, fun p hp => N p (hs p hp), hj⟩

/-- a for over enumerate of a list: by what holds of the frame between the turns -/
theorem enum_L {elts : List Expr} {k : Nat} {pos : Pos} {l : Addr} {lo : Obj} {vs : List Value} {n : Nat} {m₀ : Str → Option Value} {news : List (Addr × Obj)} (J : Nat → (Str → Option Value) → Prop)
    (hh : A.handled = none) (F : Fr h₀ env.locals s.heap m₀) (N : News h₀ env.locals s.heap news) (hm : (l, lo) ∈ news) (hc : lo.cls = .type "list") (hd : lo.data = .seq vs.toArray n) (hj : J 0 m₀)
    (turn : ∀ I (i : Nat) x T t m₁ h tk oE oI, (∀ p ∈ news, p.1 < I) → vs[i]? = some x → J i m₁ → IsTup h T #[.int (i : Int) t, x] → Fr h₀ env.locals h m₁ → News h₀ env.locals h ((I + 1, oE) :: (I, oI) :: news) →
      wpAny (model prog w) A (assign (.Tuple elts k pos) env (.ref T)) (fun _ s₂ => wpAny (model prog w) A (execs body env) (fun f s₃ => match f with
        | .ret v => Q (.ret v) s₃ | .brk => Q .next s₃
        | _ => EnEnd h₀ env.locals I oE oI s news (J (i + 1)) s₃) E s₂) E { s with heap := h, toks := tk })
    (done : ∀ m' h tk, J vs.length m' → Fr h₀ env.locals h m' → News h₀ env.locals h news → Q .next { s with heap := h, toks := tk }) :
    wpAny (model prog w) A (call (.type "enumerate") [.ref l]) (fun xv s₁ => wpAny (model prog w) A (pyIter xv) (fun it s₂ => TurnsAt prog w A h₀ env (.Tuple elts k pos) body Q E it s₂) E s₁) E s := by
  refine ktu_enum hh F N hm hc hd rfl fun I hI => ?_
  have go : ∀ (r : List Value) (i : Nat) (m₁ : Str → Option Value), vs.drop i = r → i ≤ vs.length → J i m₁ → ItemsRest prog w A E h₀ env (.Tuple elts k pos) body Q s [(I + 1, "enumerate"), (I, "list_iterator")] [(l, lo)] (enumItems i r) m₁ news := by
    intro r
    induction r with
    | nil =>
      intro i m₁ hr hi hJ
      have e : i = vs.length := by have := List.drop_eq_nil_iff.mp hr; omega
      subst e
      exact ItemsRest.zero fun h tk F' N' => done m₁ h tk hJ F' N'
    | cons x r ih =>
      intro i m₁ hr hi hJ
      have hlt : i < vs.length := by
        rcases Nat.lt_or_ge i vs.length with h | h
        · exact h
        · rw [List.drop_eq_nil_of_le h] at hr; cases hr
      rw [List.drop_eq_getElem_cons hlt] at hr
      injection hr with hx hr
      refine ItemsRest.pair fun T t h tk hT F' => AllObj.cons fun oE hE => AllObj.cons fun oI hI' => AllObj.nil fun N' => ?_
      refine wpAny_mono (turn I i x T t m₁ h tk oE oI hI (by rw [List.getElem?_eq_getElem hlt, hx]) hJ hT F' N') (fun _ s₂ h₂ => wpAny_mono h₂ (fun f s₃ p => ?_) fun _ _ e => e) fun _ _ e => e
      have fin : EnEnd h₀ env.locals I oE oI s news (J (i + 1)) s₃ → UnrEndW h₀ env.locals { s with heap := h, toks := tk } [(I + 1, oE), (I, oI)] (fun m' n' => SubL [(l, lo)] n' ∧ ItemsRest prog w A E h₀ env (.Tuple elts k pos) body Q s [(I + 1, "enumerate"), (I, "list_iterator")] [(l, lo)] (enumItems (i + 1) r) m' n') s₃ := by
        rintro ⟨h', tk', m', e, F₂, N₂, hj₂⟩
        refine ⟨h', tk', m', news, e, F₂, N₂, fun p hp q hq => ?_, ⟨hm, trivial⟩, ih (i + 1) m' hr hlt hj₂⟩
        have := hI p hp
        rcases List.mem_cons.mp hq with rfl | hq
        · exact Nat.ne_of_lt (Nat.lt_succ_of_lt this)
        · rw [List.mem_singleton.mp hq]; exact Nat.ne_of_lt this
      cases f with
      | ret v => exact p
      | brk => exact p
      | next => exact fin p
      | cont => exact fin p
  exact go vs 0 m₀ (by simp) (Nat.zero_le _) hj
theorem bind2_eq {m m₀ : Str → Option Value} {xi xc : Str} (hm : ∀ y, y ≠ xi → y ≠ xc → m y = m₀ y) : m = fun y => if y = xc then m xc else if y = xi then m xi else m₀ y := by
  funext y
  by_cases h1 : y = xc
  · simp [h1]
  · by_cases h2 : y = xi
    · simp [h1, h2]
      intro h; rw [h]
    · simp only [if_neg h1, if_neg h2]; exact hm y h2 h1
/-- the same, the loop's two names alone being stored -/
theorem enum_two {elts : List Expr} {k : Nat} {pos : Pos} {l : Addr} {lo : Obj} {vs : List Value} {n : Nat} {m₀ : Str → Option Value} {news : List (Addr × Obj)} (xi xc : Str) (J : Nat → Prop)
    (hh : A.handled = none) (F : Fr h₀ env.locals s.heap m₀) (N : News h₀ env.locals s.heap news) (hm : (l, lo) ∈ news) (hc : lo.cls = .type "list") (hd : lo.data = .seq vs.toArray n) (hj : J 0)
    (turn : ∀ I (i : Nat) x T t vi vc h tk oE oI, (∀ p ∈ news, p.1 < I) → vs[i]? = some x → J i → IsTup h T #[.int (i : Int) t, x] → Fr h₀ env.locals h (fun y => if y = xc then vc else if y = xi then vi else m₀ y) → News h₀ env.locals h ((I + 1, oE) :: (I, oI) :: news) →
      wpAny (model prog w) A (assign (.Tuple elts k pos) env (.ref T)) (fun _ s₂ => wpAny (model prog w) A (execs body env) (fun f s₃ => match f with
        | .ret v => Q (.ret v) s₃ | .brk => Q .next s₃
        | _ => EnEnd h₀ env.locals I oE oI s news (fun m' => (∀ y, y ≠ xi → y ≠ xc → m' y = m₀ y) ∧ J (i + 1)) s₃) E s₂) E { s with heap := h, toks := tk })
    (done : ∀ vi vc h tk, J vs.length → Fr h₀ env.locals h (fun y => if y = xc then vc else if y = xi then vi else m₀ y) → News h₀ env.locals h news → Q .next { s with heap := h, toks := tk }) :
    wpAny (model prog w) A (call (.type "enumerate") [.ref l]) (fun xv s₁ => wpAny (model prog w) A (pyIter xv) (fun it s₂ => TurnsAt prog w A h₀ env (.Tuple elts k pos) body Q E it s₂) E s₁) E s := by
  refine enum_L (fun i m' => (∀ y, y ≠ xi → y ≠ xc → m' y = m₀ y) ∧ J i) hh F N hm hc hd ⟨fun _ _ _ => rfl, hj⟩ ?_ ?_
  · rintro I i x T t m₁ h tk oE oI hI hx ⟨hm₁, hJ⟩ hT F' N'
    rw [bind2_eq hm₁] at F'
    exact turn I i x T t _ _ h tk oE oI hI hx hJ hT F' N'
  · rintro m' h tk ⟨hm₁, hJ⟩ F' N'
    rw [bind2_eq hm₁] at F'
    exact done _ _ h tk hJ F' N'
end
end Mine

namespace Mine
/-- the common beginning of two lists -/
def lcp : List Str → List Str → List Str
  | x :: xs, y :: ys => if x = y then x :: lcp xs ys else []
  | _, _ => []
theorem lcp_pre : ∀ a b f : List Str, f <+: lcp a b ↔ f <+: a ∧ f <+: b := by
  intro a
  induction a with
  | nil => intro b f; cases b <;> simp [lcp] <;> (intro h; subst h; simp)
  | cons x xs ih =>
    intro b f
    cases b with
    | nil => simp [lcp]; intro h; subst h; simp
    | cons y ys =>
      cases f with
      | nil => simp
      | cons c f =>
        simp only [lcp]
        by_cases e : x = y
        · subst e
          rw [if_pos rfl]
          simp only [List.cons_prefix_cons, ih]
          constructor
          · rintro ⟨h1, h2, h3⟩; exact ⟨⟨h1, h2⟩, h1, h3⟩
          · rintro ⟨⟨h1, h2⟩, _, h3⟩; exact ⟨h1, h2, h3⟩
        · rw [if_neg e]
          simp only [List.cons_prefix_cons, List.prefix_nil]
          constructor
          · intro h; cases h
          · rintro ⟨⟨h1, _⟩, h2, _⟩; exact absurd (h1.symm.trans h2) e
theorem pre_between : ∀ f r1 r2 n : List Str, f <+: r1 → f <+: r2 → ltL n r1 = false → ltL r2 n = false → f <+: n := by
  intro f
  induction f with
  | nil => intro _ _ _ _ _ _ _; simp
  | cons c f ih =>
    intro r1 r2 n h1 h2 h3 h4
    cases r1 with
    | nil => simp at h1
    | cons x1 r1 =>
      cases r2 with
      | nil => simp at h2
      | cons x2 r2 =>
        obtain ⟨e1, g1⟩ := List.cons_prefix_cons.mp h1
        obtain ⟨e2, g2⟩ := List.cons_prefix_cons.mp h2
        subst e1 e2
        cases n with
        | nil => simp [ltL] at h3
        | cons d n =>
          simp only [ltL] at h3 h4
          by_cases e : d = c
          · subst e
            rw [if_pos rfl] at h3 h4
            exact List.cons_prefix_cons.mpr ⟨rfl, ih r1 r2 n g1 g2 h3 h4⟩
          · rw [if_neg e] at h3
            rw [if_neg (fun q => e q.symm)] at h4
            exact absurd (ltS_tri h3 h4) e
/-- the common beginning of all -/
def IsCom (nss : List (List Str)) (c : List Str) : Prop := ∀ f, f <+: c ↔ ∀ n ∈ nss, f <+: n
theorem com_ends {nss : List (List Str)} {r1 r2 : List Str} (h1 : r1 ∈ nss) (h2 : r2 ∈ nss) (m1 : ∀ q ∈ nss, ltL q r1 = false) (m2 : ∀ q ∈ nss, ltL r2 q = false) : IsCom nss (lcp r1 r2) := by
  intro f
  rw [lcp_pre]
  constructor
  · rintro ⟨a, b⟩ n hn
    exact pre_between f r1 r2 n a b (m1 n hn) (m2 n hn)
  · intro h
    exact ⟨h _ h1, h _ h2⟩
theorem lcp_all : ∀ r1 r2 : List Str, r1 = r2.take r1.length → lcp r1 r2 = r1 := by
  intro r1
  induction r1 with
  | nil => intro r2 _; cases r2 <;> rfl
  | cons x r1 ih =>
    intro r2 h
    cases r2 with
    | nil => simp at h
    | cons y r2 =>
      simp at h
      simp only [lcp]
      rw [if_pos h.1, ih r2 h.2]
theorem lcp_part : ∀ (i : Nat) (r1 r2 : List Str) (x y : Str), r1.take i = r2.take i → r1[i]? = some x → r2[i]? = some y → x ≠ y → lcp r1 r2 = r1.take i := by
  intro i
  induction i with
  | zero =>
    intro r1 r2 x y _ h1 h2 hne
    cases r1 with
    | nil => simp at h1
    | cons a r1 =>
      cases r2 with
      | nil => simp at h2
      | cons b r2 =>
        simp at h1 h2
        subst h1 h2
        simp [lcp, hne]
  | succ i ih =>
    intro r1 r2 x y h h1 h2 hne
    cases r1 with
    | nil => simp at h1
    | cons a r1 =>
      cases r2 with
      | nil => simp at h2
      | cons b r2 =>
        simp at h h1 h2
        simp only [lcp, List.take_succ_cons]
        rw [if_pos h.1, ih r1 r2 x y h.2 h1 h2 hne]
theorem long_enough : ∀ (i : Nat) (r1 r2 : List Str), r1.take i = r2.take i → i < r1.length → ltL r2 r1 = false → i < r2.length := by
  intro i
  induction i with
  | zero =>
    intro r1 r2 _ h1 h2
    cases r2 with
    | nil =>
      cases r1 with
      | nil => simp at h1
      | cons a r1 => simp [ltL] at h2
    | cons b r2 => simp
  | succ i ih =>
    intro r1 r2 h h1 h2
    cases r1 with
    | nil => simp at h1
    | cons a r1 =>
      cases r2 with
      | nil => simp at h
      | cons b r2 =>
        simp at h h1
        simp only [ltL] at h2
        rw [if_pos h.1.symm] at h2
        have := ih r1 r2 h.2 h1 h2
        simp; exact this
theorem take_eq_succ {i : Nat} {r1 r2 : List Str} {x : Str} (h : r1.take i = r2.take i) (h1 : r1[i]? = some x) (h2 : r2[i]? = some x) : r1.take (i + 1) = r2.take (i + 1) := by
  rw [List.take_add_one, List.take_add_one, h, h1, h2]
end Mine

namespace Mine

/-- a text that names a place -/
structure PathStr (x : Str) (ns : List Str) : Prop where
  len : x.length < 900
  ok : PyData.strOk x = true
  sw : Txt.startswith x (Str.ofString "/") = true
  sp : keepF (Txt.split x (Str.ofString "/")) = ns
  spl : (Txt.split x (Str.ofString "/")).length < 100
  pcs : ∀ c ∈ Txt.split x (Str.ofString "/"), c.length < 900
  nm : OkN ns
inductive PathsAre : List Str → List (List Str) → Prop
  | nil : PathsAre [] []
  | cons {x : Str} {ns : List Str} {xs : List Str} {nss : List (List Str)} : PathStr x ns → PathsAre xs nss → PathsAre (x :: xs) (ns :: nss)

/-- a list of lists of texts, in a ledger -/
inductive RowsIn (nw : List (Addr × Obj)) : List Value → List (List Str) → Prop
  | nil : RowsIn nw [] []
  | cons {a : Addr} {its : Array Value} {k : Nat} {r : List Str} {vs : List Value} {rs : List (List Str)} : (a, W.listOf its k) ∈ nw → StrsAre its.toList r → RowsIn nw vs rs → RowsIn nw (.ref a :: vs) (r :: rs)
theorem RowsIn.mono {nw nw' : List (Addr × Obj)} {vs : List Value} {rs : List (List Str)} (x : RowsIn nw vs rs) (h : ∀ p ∈ nw, p ∈ nw') : RowsIn nw' vs rs := by
  induction x with
  | nil => exact .nil
  | cons hm hS _ ih => exact .cons (h _ hm) hS ih
theorem RowsIn.snoc {nw : List (Addr × Obj)} {vs : List Value} {rs : List (List Str)} (x : RowsIn nw vs rs) {a : Addr} {its : Array Value} {k : Nat} {r : List Str} (hm : (a, W.listOf its k) ∈ nw) (hS : StrsAre its.toList r) : RowsIn nw (vs ++ [.ref a]) (rs ++ [r]) := by
  induction x with
  | nil => exact .cons hm hS .nil
  | cons hm' hS' _ ih => exact .cons hm' hS' ih
theorem RowsIn.rows {h : Heap} {nw : List (Addr × Obj)} {vs : List Value} {rs : List (List Str)} (x : RowsIn nw vs rs) (N : ∀ p ∈ nw, h.get? p.1 = some p.2) : RowsAre h vs rs := by
  induction x with
  | nil => exact .nil
  | cons hm hS _ ih => exact .cons ⟨_, N _ hm, rfl, _, rfl⟩ hS ih
theorem RowsIn.get {nw : List (Addr × Obj)} {vs : List Value} {rs : List (List Str)} (x : RowsIn nw vs rs) : ∀ {i : Nat} {v : Value}, vs[i]? = some v → ∃ a its k r, rs[i]? = some r ∧ v = .ref a ∧ (a, W.listOf its k) ∈ nw ∧ StrsAre its.toList r := by
  induction x with
  | nil => intro i v e; simp at e
  | cons hm hS _ ih =>
    intro i v e
    cases i with
    | zero => exact ⟨_, _, _, _, rfl, by simpa using e.symm, hm, hS⟩
    | succ i => exact ih (by simpa using e)
theorem RowsIn.length {nw : List (Addr × Obj)} {vs : List Value} {rs : List (List Str)} (x : RowsIn nw vs rs) : vs.length = rs.length := by
  induction x with
  | nil => rfl
  | cons _ _ _ ih => simp [ih]
theorem PathsAre.get {xs : List Str} {nss : List (List Str)} (h : PathsAre xs nss) : ∀ {i : Nat} {x : Str}, xs[i]? = some x → ∃ ns, nss[i]? = some ns ∧ PathStr x ns := by
  induction h with
  | nil => intro i x e; simp at e
  | cons hp _ ih =>
    intro i x e
    cases i with
    | zero => exact ⟨_, rfl, by simp at e; exact e ▸ hp⟩
    | succ i => exact ih (by simpa using e)

theorem PathsAre.keeps {xs : List Str} {nss : List (List Str)} (h : PathsAre xs nss) : (xs.map fun x => keepF (Txt.split x (Str.ofString "/"))) = nss := by
  induction h with
  | nil => rfl
  | cons hp _ ih => rw [List.map_cons, hp.sp, ih]
theorem PathsAre.nms {xs : List Str} {nss : List (List Str)} (h : PathsAre xs nss) : ∀ n ∈ nss, OkN n := by
  induction h with
  | nil => intro n hn; cases hn
  | cons hp _ ih =>
    intro n hn
    rcases List.mem_cons.mp hn with rfl | hn
    · exact hp.nm
    · exact ih n hn
theorem PathsAre.len {xs : List Str} {nss : List (List Str)} (h : PathsAre xs nss) : xs.length = nss.length := by
  induction h with
  | nil => rfl
  | cons _ _ ih => simp [ih]

theorem EltN.snoc {h₀ : Heap} {L : Addr} {m : Str → Option Value} {s₂ : Shared} {h₄ : Heap} {tk₄ : Nat} {I C D : Addr} {oI oC : Obj} {ys : List Value} {news nw : List (Addr × Obj)} {Jy : Value → List (Addr × Obj) → Prop} {Da : Addr} {o : Obj}
    (F : Fr h₀ L h₄ m) (N : News h₀ L h₄ ((Da, o) :: (I, oI) :: (C, oC) :: (D, LCg.lst ys) :: (news ++ nw))) (hall : ∀ p ∈ (I, oI) :: (C, oC) :: (D, LCg.lst ys) :: (news ++ nw), p.1 < Da) (off : LCg.Off3 I C D (nw ++ news)) (H : Jy (.ref Da) ((Da, o) :: nw)) :
    EltN h₀ L m s₂ I oI C oC D ys news Jy (.ref Da) { s₂ with heap := h₄, toks := tk₄ } := by
  refine EltN.mk' ((Da, o) :: nw) F N (fun p hp => ?_) (fun p hp => ?_) H
  · simp only [inComp, List.mem_cons, List.mem_append, List.cons_append] at hp ⊢
    rcases hp with h | h | h | h | h | h
    · exact .inr (.inl h)
    · exact .inr (.inr (.inl h))
    · exact .inr (.inr (.inr (.inl h)))
    · exact .inl h
    · exact .inr (.inr (.inr (.inr (.inr h))))
    · exact .inr (.inr (.inr (.inr (.inl h))))
  · rcases List.mem_cons.mp hp with rfl | hp
    · exact ⟨Nat.ne_of_gt (hall (I, oI) (by k_mem)), Nat.ne_of_gt (hall (C, oC) (by k_mem)), Nat.ne_of_gt (hall (D, _) (by k_mem))⟩
    · exact off.mem p (List.mem_append_left _ hp)

theorem keep_yes {l : List Str} {i : Nat} {c : Str} (h : l[i]? = some c) (h0 : ((c.length : Nat) : Int) ≠ 0) (h1 : (c != Str.ofString ".") = true) : keepF (l.take (i + 1)) = keepF (l.take i) ++ [c] := by
  unfold keepF
  rw [take_succ_filter _ l i c h, if_pos (by rw [h1, Bool.and_true]; simp; omega)]
theorem keep_no1 {l : List Str} {i : Nat} {c : Str} (h : l[i]? = some c) (h1 : (c != Str.ofString ".") = false) : keepF (l.take (i + 1)) = keepF (l.take i) := by
  unfold keepF
  rw [take_succ_filter _ l i c h, if_neg (by rw [h1, Bool.and_false]; decide), List.append_nil]
theorem keep_no0 {l : List Str} {i : Nat} {c : Str} (h : l[i]? = some c) (h0 : ((c.length : Nat) : Int) = 0) : keepF (l.take (i + 1)) = keepF (l.take i) := by
  unfold keepF
  rw [take_succ_filter _ l i c h, if_neg (by simp; intro e; omega), List.append_nil]

theorem truthy_tupN {prog : Program} {w : World} {A : Around} {E : Value → Shared → Prop} {s : Shared} {l : Addr} {acc : Array Value} {Q : Bool → Shared → Prop} (hl : IsTup s.heap l acc) (hne : acc.isEmpty = false) (hz : acc.size ≤ 1000)
    (h : Q true { s with toks := s.toks + 1 + 1 }) : wpAny (model prog w) A (truthy (.ref l)) Q E s :=
  truthy_tuple hl (by omega) (by rw [hne]; exact h)
theorem item_tup0 {prog : Program} {w : World} {A : Around} {E : Value → Shared → Prop} {s : Shared} {value slice : Expr} {l : Addr} {acc : Array Value} {v : Value} {u : Tok} {Q : Value → Shared → Prop} (hl : IsTup s.heap l acc) (h0 : acc.toList[0]? = some v)
    (h : Q v s) (hs : subscripted slice false (.ref l) (.int 0 u) = operate [.ref l, .int 0 u] (getItem (.ref l) (.int 0 u))) : wpAny (model prog w) A (subscriptTail value slice (.ref l) (.int 0 u)) Q E s :=
  item_tupleT (l := acc.toList) (j := 0) hl (by decide) (by decide) (by
    have : 0 < acc.toList.length := by
      cases q : acc.toList with
      | nil => rw [q] at h0; cases h0
      | cons => simp
    unfold seqIndex?
    simp
    intro e
    rw [e] at this
    simp at this) h0 h hs

theorem item_listAt {prog : Program} {w : World} {A : Around} {E : Value → Shared → Prop} {s : Shared} {value slice : Expr} {l : Addr} {its : Array Value} {i : Nat} {v : Value} {u : Tok} {Q : Value → Shared → Prop} (hl : s.heap.IsList l its) (hx : its.toList[i]? = some v) (hi : i < 1000)
    (h : Q v s) (hs : subscripted slice false (.ref l) (.int (i : Int) u) = operate [.ref l, .int (i : Int) u] (getItem (.ref l) (.int (i : Int) u))) : wpAny (model prog w) A (subscriptTail value slice (.ref l) (.int (i : Int) u)) Q E s :=
  tail_any hl.typeIs slot_list_getitem.lookup (wpAny_getItem_list hl (by omega) (by omega) (by simpa using hx) h) hs

section
variable {w : World} {dp un : Nat} {gd : Option (List Code)} {cn : Str} {cs : Scope} {a : Addr} {ccd : Value} {cl : List (Str × Addr)} {outer : List Env} {A₀ : Around} {base h₀ : Heap} {L : Addr} {m mg mb : Str → Option Value} {s : Shared} {Q E : Value → Shared → Prop}
  {p : Program} {loose : List Str} {mean : ExcName → Option Value} {news : List (Addr × Obj)}

local macro_rules | `(tactic| walk_at "call type:map") => `(tactic| (k_here; (with_reducible show wpAny _ _ (call (Value.type _) [_, Value.ref _]) _ _ _); k_dflt (refine' map_K ?F ?N ?l ?_; (case F => k_asm); (case N => k_asm); (case l => assumption)); intro M' T' it' h' F' N' lt' l1' ll'; (try k_lt l1')))

local macro_rules | `(tactic| walk_at "truthy ref") => `(tactic| (k_here; k_dflt (refine' truthy_tupN ?l ?n ?z ?_; (case l => exact News.isTup (by k_asm) (by k_mem)); (case n => assumption); (case z => omega))))
local macro_rules | `(tactic| walk_at "subscriptTail") => `(tactic| (k_here; (with_reducible show wpAny _ _ (subscriptTail _ _ (Value.ref _) (Value.int 0 _)) _ _ _); k_dflt (refine' item_tup0 ?l ?n ?_ ?hs; (case l => exact News.isTup (by k_asm) (by k_mem)); (case n => assumption); (case hs => with_unfolding_all rfl))))

local macro_rules | `(tactic| walk_at "exec Try") => `(tactic| (k_here; (with_reducible show wpAny _ _ (exec (Stmt.Try _ (_ :: _) _ [] _) _) _ _ _); refine wpAny_Try_except ?_))

local macro_rules | `(tactic| walk_at "call builtin:str.split") => `(tactic| (k_here; (with_reducible show wpAny _ _ (call (Value.builtin _) [Value.str _ _, Value.str _ _]) _ _ _); k_dflt (refine' KSpl.split1 ?F ?N ?y ?_ ?z; (case F => k_asm); (case N => k_asm); (case y => decide +kernel); (case z => (rw [PySem.sizeLine_eq]; omega))); intro D' l' h' k' he' hS' F' N' l1'; (have hS'' := PySem.Flt.Hid.mk hS'); clear hS'))

local macro_rules | `(tactic| walk_at "subscriptTail") => `(tactic| (k_here; (with_reducible show wpAny _ _ (subscriptTail _ _ (Value.ref _) (Value.int (Nat.cast _) _)) _ _ _); k_dflt (refine' item_listAt ?l ?n ?z ?_ ?hs; (case l => exact News.isList (by k_asm) (by k_mem)); (case n => assumption); (case z => omega); (case hs => with_unfolding_all rfl))))
local macro_rules | `(tactic| walk_at "subscriptTail") => `(tactic| (k_here; (with_reducible show wpAny _ _ (subscriptTail _ (Expr.Slice _ _ none _) (Value.ref _) (Value.ref _)) _ _ _); k_dflt (refine' kmk_slice ?F ?N ?l ?pl ?pu ?_ ?hs ?ht ?z; (case F => k_asm); (case N => k_asm); (case l => exact News.isList (by k_asm) (by k_mem)); (case pl => first | exact IsPart.none | exact IsPart.int _ _); (case pu => first | exact IsPart.none | exact IsPart.int _ _); (case hs => with_unfolding_all rfl); (case ht => (intro _; with_unfolding_all rfl)); (case z => (rw [PySem.sizeLine_eq]; omega))); intro D' h' F' N' l1'; (try k_lt l1')))
local macro_rules | `(tactic| walk_at "subscriptTail Name Slice ref ref") => `(tactic| (k_here; (with_reducible show wpAny _ _ (subscriptTail _ (Expr.Slice _ _ none _) (Value.ref _) (Value.ref _)) _ _ _); k_dflt (refine' kmk_slice ?F ?N ?l ?pl ?pu ?_ ?hs ?ht ?z; (case F => k_asm); (case N => k_asm); (case l => exact News.isList (by k_asm) (by k_mem)); (case pl => first | exact IsPart.none | exact IsPart.int _ _); (case pu => first | exact IsPart.none | exact IsPart.int _ _); (case hs => with_unfolding_all rfl); (case ht => (intro _; with_unfolding_all rfl)); (case z => (rw [PySem.sizeLine_eq]; omega))); intro D' h' F' N' l1'; (try k_lt l1')))
local macro_rules | `(tactic| walk_at "call builtin:str.join") => `(tactic| (k_here; (with_reducible show wpAny _ _ (call (Value.builtin _) [Value.str _ _, Value.ref _]) _ _ _); k_dflt (refine' join_listW ?k1 ?k2 ?k3 ?k4 ?_; (case k1 => exact News.isList (by k_asm) (by k_mem)); (case k2 => first | assumption | exact PySem.Flt.Hid.out (by assumption)); (case k3 => decide); (case k4 => assumption)); intro t' k'))

theorem common_spec {pl : Addr} {its : Array Value} {xs : List Str} {nss : List (List Str)} (hl : s.heap.IsList pl its) (hS : StrsAre its.toList xs) (hP : PathsAre xs nss) (hne : xs ≠ []) (hx8 : xs.length ≤ 8)
    (B : Below A₀ base outer h₀) (F : Fr h₀ L s.heap m) (N : News h₀ L s.heap news) (X : (Mine.hd.heap_39 w.params).In h₀) (T : Top p loose mean mg mb h₀) (hk : cs.kind = .function) (hd : dp + 6 < recursionLimit) (hu : un + 300 < cLine)
    (hret : ∀ c t h' tk', IsCom nss c → s.heap.StaysIn h' → Fr h₀ L h' m → News h₀ L h' news → Q (.str (render c) t) { s with heap := h', toks := tk' }) :
    wpAny (model Challenge.pw_pd0108_01 w) (ktrTop dp un gd cn cs L a ccd cl outer) (call (.ref 141) [.ref pl]) Q E s := by
  have hSh := PySem.Flt.Hid.mk hS
  clear hS
  refine wpAny_call ?_
  refine enterC [(Str.ofString "paths", .ref pl)] B F X T rfl rfl hk (by k_is) (by k_is) (by ktr_room) (BindsTo.of_eq rfl) rfl (by decide +kernel) ?_ rfl rfl rfl
  intro L' h' tk' cells' F' N' Y' B' X' T'
  k_cells Y'
  try dsimp only at N'
  have hlen := hSh.out.length
  have hsz : its.size = xs.length := by simpa using hlen
  have hl2 : h'.IsList pl its := hl.at fun o e => F'.keep _ _ e
  repeat' ((fail_if_success (with_reducible show wpAny _ _ (call (Value.type "tuple") _) _ _ _)); first | (k_unfold; (try dsimp only)) | (k_end; wrow_close) | walk1 | (dsimp only; walk1) | (leave1; walk_say "STEP leave1"; try dsimp only) | fail "no step")
  rename Fr s.heap L' _ _ => F9
  rename News s.heap L' _ _ => N9
  rename pl < _ => hlt2
  refine tuple_fspath (items := its) (xs := xs) (hl.at fun o e => F9.keep _ _ e) hSh.out (by omega) (Nat.ne_of_lt hlt2) (by refine neN ?_; omega) (by refine neN ?_; omega)
    (by intro p hp; simp only [List.mem_cons, List.not_mem_nil, or_false] at hp; rcases hp with rfl | rfl <;> (refine neN ?_; dsimp only; omega)) B' F9 N9 X' T' rfl (by ktr_room) (by ktr_units) ?_
  intro D acc h2 tk2 F2 N2 l2 hacc
  k_lt l2
  have hach := PySem.Flt.Hid.mk hacc
  have hasz : acc.size = xs.length := by have := hacc.length; simpa using this
  clear hacc N9 F9 N' F'
  obtain ⟨x0, t0, hx0, hv0⟩ : ∃ x t, acc.toList[0]? = some (.str x t) ∧ x ∈ xs := by
    have hacc := hach.out
    cases hxs : xs with
    | nil => exact absurd hxs hne
    | cons x r =>
      rw [hxs] at hacc
      cases q : acc.toList with
      | nil => rw [q] at hacc; cases hacc
      | cons v vs =>
        rw [q] at hacc
        cases hacc
        exact ⟨x, _, rfl, List.mem_cons_self⟩
  have hxpos : 0 < xs.length := by cases xs with | nil => exact absurd rfl hne | cons => simp
  have hae : acc.isEmpty = false := by simp; intro e; rw [e] at hasz; simp at hasz; omega
  repeat' ((fail_if_success (with_reducible show wpAny _ _ (exec (Stmt.Assign _ (Expr.ListComp _ _ _ _) _) _) _ _ _)); first | (k_unfold; (try dsimp only)) | (k_end; wrow_close) | walk1 | (dsimp only; walk1) | (leave1; walk_say "STEP leave1"; try dsimp only) | fail "no step")
  rename Fr s.heap L' _ _ => F8
  rename News s.heap L' _ _ => N8
  refine Assign_ListComp_N F8 rfl (by with_unfolding_all rfl) (by with_unfolding_all rfl) (by decide) rfl (by decide) rfl rfl rfl ?_ (by intro _; rfl)
  repeat' (first | (k_unfold; (try dsimp only)) | walk1 | (dsimp only; walk1))
  have hacc := hach.out
  refine ⟨D, acc, _, fun i ys nw => RowsIn nw ys ((xs.take i).map fun x => Txt.split x (Str.ofString "/")), rfl, rfl, .inr ?_, .inr ⟨_, List.mem_cons_self⟩, by rw [PySem.sizeLine_eq]; omega, F8, N8, .nil, ?_, ?_⟩
  · exact ⟨_, N8.get List.mem_cons_self, rfl, _, rfl⟩
  · rintro s₂ ⟨g2, rfl⟩ i v ys nw I oI C oC Dd m₂ h tk E' hv hoC hx F3 N3 off ne hys
    obtain ⟨c, t, hc, rfl⟩ := strs_get hacc (show acc.toList[i]? = some v by simpa using hv)
    obtain ⟨cns, hcns, hcP⟩ := hP.get hc
    have hclen := hcP.len
    clear hacc
    have N4 : News s.heap L' h ((I, oI) :: (C, oC) :: (Dd, LCg.lst ys) :: (D, tupO acc) :: (L' + 1 + 1, _) :: (L' + 1, _) :: nw) := fun p hp => N3 p (by
      simp only [inComp, List.mem_cons, List.mem_append, List.not_mem_nil, or_false] at hp ⊢
      rcases hp with h | h | h | h | h | h | h
      · exact .inl h
      · exact .inr (.inl h)
      · exact .inr (.inr (.inl h))
      · exact .inr (.inr (.inr (.inr (.inl h))))
      · exact .inr (.inr (.inr (.inr (.inr (.inl h)))))
      · exact .inr (.inr (.inr (.inr (.inr (.inr h)))))
      · exact .inr (.inr (.inr (.inl h))))
    refine compN_nil ?_
    clear F8 N8 N3
    k_steps
    rename Fr s.heap L' _ _ => F7
    rename News s.heap L' _ _ => N7
    rename ∀ p ∈ _, _ => hall
    rename List.map _ _ = Txt.split _ _ => he
    rename PySem.Flt.Hid _ => hSl
    refine EltN.snoc (news := [(D, tupO acc), (L' + 1 + 1, _), (L' + 1, _)]) (nw := nw) F7 N7 hall off ?_
    dsimp only
    rw [List.take_add_one, hc, List.map_append]
    refine RowsIn.snoc (hys.mono fun p hp => List.mem_cons_of_mem _ hp) List.mem_cons_self ?_
    have := hSl.out
    rw [he] at this
    exact this
  · rintro s₂ ⟨g2, rfl⟩ D2 ys nw h tk N3 off hys F3
    have hys' : RowsIn nw ys (xs.map fun x => Txt.split x (Str.ofString "/")) := by
      have e : acc.size = xs.length := hasz
      rw [e, List.take_length] at hys
      exact hys
    clear hys hacc F8 N8
    have N4 : News s.heap L' h ((D2, LCg.lst ys) :: (D, tupO acc) :: (L' + 1 + 1, _) :: (L' + 1, _) :: nw) := fun p hp => N3 p (by
      simp only [inComp, List.mem_cons, List.mem_append, List.not_mem_nil, or_false] at hp ⊢
      rcases hp with h | h | h | h | h
      · exact .inl h
      · exact .inr (.inr (.inl h))
      · exact .inr (.inr (.inr (.inl h)))
      · exact .inr (.inr (.inr (.inr h)))
      · exact .inr (.inl h))
    clear N3
    dsimp only
    repeat' ((fail_if_success (with_reducible show wpAny _ _ (eval (Expr.SetComp _ _ _ _) _) _ _ _)); first | (k_unfold; (try dsimp only)) | (k_end; wrow_close) | walk1 | (dsimp only; walk1) | (leave1; walk_say "STEP leave1"; try dsimp only) | fail "no step")
    refine SetComp_T F3 (by with_unfolding_all rfl) (by decide) rfl (by decide) rfl ?_ (by intro _; rfl)
    repeat' (first | (k_unfold; (try dsimp only)) | walk1 | (dsimp only; walk1))
    refine ⟨D, acc, _, rfl, rfl, List.mem_cons_of_mem _ List.mem_cons_self, by omega, F3, N4, ?_, ?_⟩
    · rintro s₂ ⟨g3, rfl⟩ i v I oI C oC Dd m₂ h tk E' hv hoC hx F4 N5
      obtain ⟨c, t, hc, rfl⟩ := strs_get hach.out (show acc.toList[i]? = some v by simpa using hv)
      obtain ⟨cns, hcns, hcP⟩ := hP.get hc
      have hclen := hcP.len
      have hsw := hcP.sw
      clear F3 N4
      k_steps
      rename Fr s.heap L' _ _ => F7
      rename News s.heap L' _ _ => N7
      exact EltT.mk' F7 N7 hsw
    · intro D3 h3 tk3 F4 N5 off3
      clear F3 N4
      repeat' ((fail_if_success (with_reducible show wpAny _ _ (assign _ _ _) _ _ _)); first | (k_unfold; (try dsimp only)) | (k_end; wrow_close) | walk1 | (dsimp only; walk1) | (leave1; walk_say "STEP leave1"; try dsimp only) | fail "no step")
      refine assign_T1 rfl F4 N5 List.mem_cons_self rfl rfl rfl ?_
      intro h4 tk4 F5 N6
      clear F4 N5
      repeat' ((fail_if_success (with_reducible show wpAny _ _ (exec (Stmt.Assign _ (Expr.ListComp _ _ _ _) _) _) _ _ _)); first | (k_unfold; (try dsimp only)) | (k_end; wrow_close) | walk1 | (dsimp only; walk1) | (leave1; walk_say "STEP leave1"; try dsimp only) | fail "no step")
      refine Assign_ListComp_N F5 rfl (by with_unfolding_all rfl) (by with_unfolding_all rfl) (by decide) rfl (by decide) rfl rfl rfl ?_ (by intro _; rfl)
      repeat' (first | (k_unfold; (try dsimp only)) | walk1 | (dsimp only; walk1))
      have hysl := hys'.length
      rw [List.length_map] at hysl
      refine ⟨D2, ys.toArray, _, fun i zs nw2 => RowsIn nw2 zs ((xs.take i).map fun x => keepF (Txt.split x (Str.ofString "/"))), rfl, rfl, .inl ?_, .inr ⟨_, List.mem_cons_of_mem _ List.mem_cons_self⟩, by rw [PySem.sizeLine_eq, List.size_toArray]; omega, F5, N6, .nil, ?_, ?_⟩
      · exact ⟨_, N6.get (List.mem_cons_of_mem _ List.mem_cons_self), rfl, _, rfl⟩
      · rintro s₂ ⟨g2, rfl⟩ i v zs nw2 I oI C oC Dd m₂ h tk E' hv hoC hx F7 N7 off7 ne hzs
        obtain ⟨r, itr, kr, row, hrow, rfl, hmr, hSr⟩ := hys'.get (show ys[i]? = some v by simpa using hv)
        rw [List.getElem?_map] at hrow
        obtain ⟨xi, hxi, rfl⟩ := Option.map_eq_some_iff.mp hrow
        obtain ⟨cns, hcns, hcP⟩ := hP.get hxi
        have hspl := hcP.spl
        have hSrh := PySem.Flt.Hid.mk hSr
        have hrl : itr.size = (Txt.split xi (Str.ofString "/")).length := by have := hSr.length; simpa using this
        obtain ⟨rest, hrest⟩ : ∃ r, r = nw2 ++ nw := ⟨_, rfl⟩
        have hmr2 : (r, W.listOf itr kr) ∈ rest := by rw [hrest]; exact List.mem_append_right _ hmr
        clear hSr
        have N8 : News s.heap L' h ((I, oI) :: (C, oC) :: (Dd, LCg.lst zs) :: (D3, _) :: (D2, _) :: (D, tupO acc) :: (L' + 1 + 1, _) :: (L' + 1, _) :: rest) := fun p hp => N7 p (by
          simp only [inComp, List.mem_cons, List.mem_append, List.not_mem_nil, or_false, hrest] at hp ⊢
          rcases hp with h | h | h | h | h | h | h | h | h | h
          · exact .inl h
          · exact .inr (.inl h)
          · exact .inr (.inr (.inl h))
          · exact .inr (.inr (.inr (.inr (.inl h))))
          · exact .inr (.inr (.inr (.inr (.inr (.inl h)))))
          · exact .inr (.inr (.inr (.inr (.inr (.inr (.inl h))))))
          · exact .inr (.inr (.inr (.inr (.inr (.inr (.inr (.inl h)))))))
          · exact .inr (.inr (.inr (.inr (.inr (.inr (.inr (.inr (.inl h))))))))
          · exact .inr (.inr (.inr (.inl h)))
          · exact .inr (.inr (.inr (.inr (.inr (.inr (.inr (.inr (.inr h)))))))))
        clear N7 F5 N6
        refine compN_nil ?_
        refine ListComp_N F7 (by with_unfolding_all rfl) (by decide) rfl (by decide) rfl ?_ (by intro _; rfl)
        repeat' (first | (k_unfold; (try dsimp only)) | walk1 | (dsimp only; walk1))
        refine ⟨r, itr, _, fun i us nw3 => nw3 = [] ∧ PySem.Flt.Hid (StrsAre us (keepF ((Txt.split xi (Str.ofString "/")).take i))), rfl, rfl, .inl ?_, .inr ⟨W.listOf itr kr, ?_⟩, by rw [PySem.sizeLine_eq]; omega, F7, N8, ⟨rfl, ⟨.nil⟩⟩, ?_, ?_⟩
        · exact ⟨_, N8.get (o := W.listOf itr kr) (by (iterate 8 (refine List.mem_cons_of_mem _ ?_)); exact hmr2), rfl, _, rfl⟩
        · iterate 8 (refine List.mem_cons_of_mem _ ?_)
          exact hmr2
        · rintro s₂ ⟨g4, rfl⟩ i2 v2 us nw3 I2 oI2 C2 oC2 D4 m₃ h tk E'' hv2 hoC2 hx2 F9 N9 off9 ne9 ⟨rfl, hus⟩
          obtain ⟨c, t, hc, rfl⟩ := strs_get hSrh.out (show itr.toList[i2]? = some v2 by simpa using hv2)
          have hcl : c.length < 900 := hcP.pcs c (List.mem_of_getElem? hc)
          refine compN_one ?_
          rw [List.nil_append] at N9
          dsimp only [inComp] at N9
          clear N8 F7 hoC
          k_steps
          · refine TestN.yes rfl ?_
            k_steps
            rename Fr s.heap L' _ _ => Fa
            rename News s.heap L' _ _ => Na
            refine EltN.mk' [] Fa Na (fun p hp => hp) (fun p hp => nomatch hp) ⟨rfl, ⟨?_⟩⟩
            rw [keep_yes hc (by assumption) (by assumption)]
            exact strs_append hus.out (by first | exact .cons _ _ .nil | constructor <;> constructor)
          · refine TestN.no rfl F9 N9 (fun p hp => hp) ⟨trivial, ?_⟩
            rw [keep_no1 hc (by assumption)]
            exact hus
          · refine TestN.no rfl F9 N9 (fun p hp => hp) ⟨trivial, ?_⟩
            rw [keep_no0 hc (by assumption)]
            exact hus
        · rintro s₂ ⟨g5, rfl⟩ D5 us nw3 h tk N9 off9 ⟨rfl, hus⟩ F9
          rw [List.nil_append] at N9
          refine EltN.mk' ((D5, LCg.lst us) :: nw2) F9 N9 (fun p hp => ?_) (fun p hp => ?_) ?_
          · simp only [inComp, List.mem_cons, List.mem_append, hrest, List.cons_append] at hp ⊢
            rcases hp with h | h | h | h | h | h | h | h | h | h | h
            · exact .inr (.inl h)
            · exact .inr (.inr (.inl h))
            · exact .inr (.inr (.inr (.inl h)))
            · exact .inl h
            · exact .inr (.inr (.inr (.inr (.inr (.inr (.inr (.inr (.inr (.inl h)))))))))
            · exact .inr (.inr (.inr (.inr (.inl h))))
            · exact .inr (.inr (.inr (.inr (.inr (.inl h)))))
            · exact .inr (.inr (.inr (.inr (.inr (.inr (.inl h))))))
            · exact .inr (.inr (.inr (.inr (.inr (.inr (.inr (.inl h)))))))
            · exact .inr (.inr (.inr (.inr (.inr (.inr (.inr (.inr (.inl h))))))))
            · exact .inr (.inr (.inr (.inr (.inr (.inr (.inr (.inr (.inr (.inr h)))))))))
          · rcases List.mem_cons.mp hp with rfl | hp
            · exact ⟨Ne.symm off9.1, Ne.symm off9.2.1, Ne.symm off9.2.2.1⟩
            · exact off7.mem p (List.mem_append_left _ hp)
          · dsimp only
            rw [List.take_add_one, hxi, List.map_append]
            refine RowsIn.snoc (hzs.mono fun p hp => List.mem_cons_of_mem _ hp) (its := us.toArray) (k := us.length) List.mem_cons_self ?_
            have e := hus.out
            rw [hrl, List.take_length] at e
            simpa using e
      · rintro s₂ ⟨g5, rfl⟩ D5 zs nw2 h tk N7 off7 hzs F7
        have hzs2 : RowsIn nw2 zs nss := by
          rw [← hP.keeps]
          have e2 : ys.toArray.size = xs.length := by rw [List.size_toArray]; exact hysl
          rw [e2, List.take_length] at hzs
          exact hzs
        have hnpos : 0 < nss.length := by rw [← hP.len]; exact hxpos
        have N8 : News s.heap L' h ((D5, LCg.lst zs) :: (L' + 1 + 1, _) :: (L' + 1, _) :: nw2) := fun p hp => N7 p (by
          simp only [List.mem_cons, List.mem_append, List.not_mem_nil, or_false] at hp ⊢
          rcases hp with h | h | h | h
          · exact .inl h
          · exact .inr (.inr (.inr (.inr (.inr (.inl h)))))
          · exact .inr (.inr (.inr (.inr (.inr (.inr (.inl h))))))
          · exact .inr (.inl h))
        clear N7 N6 F5 hzs hys' off7 off3
        dsimp only
        repeat' ((fail_if_success (with_reducible show wpAny _ _ (call (Value.builtin "min") _) _ _ _)); first | (k_unfold; (try dsimp only)) | (k_end; wrow_close) | walk1 | (dsimp only; walk1) | (leave1; walk_say "STEP leave1"; try dsimp only) | fail "no step")
        rename Fr s.heap L' _ _ => F9
        rename News s.heap L' _ _ => N9
        have hnw : ∀ (o1 o2 : Obj), ∀ p ∈ nw2, p ∈ (D5, LCg.lst zs) :: (L' + 1 + 1, o1) :: (L' + 1, o2) :: nw2 := fun o1 o2 p hp => List.mem_cons_of_mem _ (List.mem_cons_of_mem _ (List.mem_cons_of_mem _ hp))
        have rowsAt : ∀ {hh : Heap} {mm} {o1 o2 : Obj}, Fr s.heap L' hh mm → News s.heap L' hh ((D5, LCg.lst zs) :: (L' + 1 + 1, o1) :: (L' + 1, o2) :: nw2) → hh.IsList D5 zs.toArray ∧ RowsAre hh zs.toArray.toList nss := fun F N =>
          ⟨⟨_, N.get List.mem_cons_self, rfl, _, rfl⟩, hzs2.rows fun p hp => (N p (hnw _ _ p hp)).1⟩
        refine min_rows rfl (rowsAt F9 N9).1 (rowsAt F9 N9).2 hnpos (by ktr_units) ?_
        intro i1 v1 r1 h1 tk1 st1 hv1 hr1 hmin
        obtain ⟨a1, it1, k1, q1, hq1, rfl, hm1, hS1⟩ := hzs2.get (show zs[i1]? = some v1 by simpa using hv1)
        obtain rfl : q1 = r1 := Option.some.inj (hq1.symm.trans hr1)
        have F10 := fr_up F9 st1
        have N10 := news_up N9 st1
        have hS1' := PySem.Flt.Hid.mk hS1
        clear F9 N9 hS1 hv1 hq1
        try clear F7
        try clear N8
        repeat' ((fail_if_success (with_reducible show wpAny _ _ (call (Value.builtin "max") _) _ _ _)); first | (k_unfold; (try dsimp only)) | (k_end; wrow_close) | walk1 | (dsimp only; walk1) | (leave1; walk_say "STEP leave1"; try dsimp only) | fail "no step")
        rename Fr s.heap L' _ _ => F9
        rename News s.heap L' _ _ => N9
        refine max_rows rfl (rowsAt F9 N9).1 (rowsAt F9 N9).2 hnpos (by ktr_units) ?_
        intro i2 v2 r2 h2' tk2' st2 hv2 hr2 hmax
        obtain ⟨a2, it2, k2, q2, hq2, rfl, hm2, hS2⟩ := hzs2.get (show zs[i2]? = some v2 by simpa using hv2)
        obtain rfl : q2 = r2 := Option.some.inj (hq2.symm.trans hr2)
        have F11 := fr_up F9 st2
        have N11 := news_up N9 st2
        have hS2' := PySem.Flt.Hid.mk hS2
        have N12 : News s.heap L' h2' [(a1, W.listOf it1 k1), (a2, W.listOf it2 k2), (L' + 1 + 1, _), (L' + 1, _)] := fun p hp => N11 p (by
          simp only [List.mem_cons, List.not_mem_nil, or_false] at hp ⊢
          rcases hp with rfl | rfl | h | h
          · exact .inr (.inr (.inr hm1))
          · exact .inr (.inr (.inr hm2))
          · exact .inr (.inl h)
          · exact .inr (.inr (.inl h)))
        clear F9 N9 N11 hS2 hv2 hq2 rowsAt
        try clear F10
        try clear N10
        repeat' ((fail_if_success (with_reducible show wpAny _ _ (exec (Stmt.For _ _ _ _ _) _) _ _ _)); first | (k_unfold; (try dsimp only)) | (k_end; wrow_close) | walk1 | (dsimp only; walk1) | (leave1; walk_say "STEP leave1"; try dsimp only) | fail "no step")
        rename Fr s.heap L' _ _ => F13
        rename News s.heap L' _ _ => N13
        have hm21 : ltL q2 q1 = false := hmin q2 (List.mem_of_getElem? hr2)
        have hcom : IsCom nss (lcp q1 q2) := com_ends (List.mem_of_getElem? hr1) (List.mem_of_getElem? hr2) hmin hmax
        have hok1 : OkN q1 := hP.nms _ (List.mem_of_getElem? hr1)
        have hok2 : OkN q2 := hP.nms _ (List.mem_of_getElem? hr2)
        have hz1 : it1.size = q1.length := by have := hS1'.out.length; simpa using this
        have hz2 : it2.size = q2.length := by have := hS2'.out.length; simpa using this
        have hq14 := hok1.1
        have hq24 := hok2.1
        refine For_turns F13 ?_ (by intro _; rfl) (by passes_own)
        repeat' ((fail_if_success (with_reducible show wpAny _ _ (call (Value.type "enumerate") _) _ _ _)); first | (k_unfold; (try dsimp only)) | (k_end; wrow_close) | walk1 | (dsimp only; walk1) | (leave1; walk_say "STEP leave1"; try dsimp only) | fail "no step")
        refine enum_two (l := a1) (lo := W.listOf it1 k1) (vs := it1.toList) (Str.ofString "i") (Str.ofString "c") (fun i => i ≤ q1.length ∧ q1.take i = q2.take i) rfl F13 N13 List.mem_cons_self rfl (by rfl) ⟨Nat.zero_le _, rfl⟩ ?_ ?_
        · rintro I i x T t vi vc h tk oE oI hI hx ⟨hi, htk⟩ hT F' N'
          replace F' : Fr s.heap L' _ _ := F'
          replace N' : News s.heap L' _ _ := N'
          obtain ⟨c, tc, hc, rfl⟩ := strs_get hS1'.out hx
          have hilt : i < q1.length := (List.getElem?_eq_some_iff.mp hc).1
          have hilt2 : i < q2.length := long_enough i q1 q2 htk hilt hm21
          have hy : q2[i]? = some q2[i] := List.getElem?_eq_getElem hilt2
          generalize q2[i] = y at hy
          obtain ⟨ty, hty⟩ := strs_at hS2'.out hy
          clear F13 N13
          have hsl : StrsAre (slicePick it1 none (some (i : Int)) none).toList (q1.take i) := by rw [pick_upto]; exact strs_take hS1'.out i
          have hslh := PySem.Flt.Hid.mk hsl
          clear hsl
          have P := names_ok (okN_take hok1 i)
          have hsm : ((q1.take i).map (·.length)).sum + (q1.take i).length ≤ 1048576 := by have := P.sm; omega
          have hjl : (Txt.join (Str.ofString "/") (q1.take i)).length < 900 := P.jl
          k_steps
          · rename Fr s.heap L' _ _ => F8
            rename (c != y) = true => hne
            have st := F8.keep
            rw [lcp_part i q1 q2 c y htk hc hy (by simpa using hne)] at hcom
            exact hret _ _ _ _ hcom st (fr_up F st) (news_up N st)
          · rename Fr s.heap L' _ _ => F8
            rename News s.heap L' _ _ => N8
            rename (c != y) = false => hne
            have hcy : c = y := by simpa using hne
            subst hcy
            refine EnEnd.mk' F8 N8 (fun p hp => hp) ⟨?_, hilt, take_eq_succ htk hc hy⟩
            intro z h1 h2
            simp only [if_neg h1, if_neg h2]
        · rintro vi vc h tk ⟨hlen, htk⟩ F' N'
          replace F' : Fr s.heap L' _ _ := F'
          replace N' : News s.heap L' _ _ := N'
          have hl1 : it1.toList.length = q1.length := by simpa using hz1
          rw [hl1, List.take_length] at htk
          clear F13 N13
          have P := names_ok hok1
          have hsm : (q1.map (·.length)).sum + q1.length ≤ 1048576 := by have := P.sm; omega
          have hjl : (Txt.join (Str.ofString "/") q1).length < 900 := P.jl
          k_steps
          rename Fr s.heap L' _ _ => F8
          have st := F8.keep
          rw [lcp_all q1 q2 htk] at hcom
          exact hret _ _ _ _ hcom st (fr_up F st) (news_up N st)
end
end Mine

namespace Mine
theorem inComp_swap {h₀ h : Heap} {L I C D : Addr} {oI oC : Obj} {ys : List Value} {nw news : List (Addr × Obj)} (N : News h₀ L h (inComp I oI C oC D ys (nw ++ news))) : News h₀ L h ((I, oI) :: (C, oC) :: (D, LCg.lst ys) :: (news ++ nw)) := fun p hp => N p (by
  simp only [inComp, List.mem_cons, List.mem_append] at hp ⊢
  rcases hp with h | h | h | h | h
  · exact .inl h
  · exact .inr (.inl h)
  · exact .inr (.inr (.inl h))
  · exact .inr (.inr (.inr (.inr h)))
  · exact .inr (.inr (.inr (.inl h))))
theorem done_swap {h₀ h : Heap} {L D : Addr} {ys : List Value} {nw news : List (Addr × Obj)} (N : News h₀ L h ((D, LCg.lst ys) :: (nw ++ news))) : News h₀ L h ((D, LCg.lst ys) :: (news ++ nw)) := fun p hp => N p (by
  simp only [List.mem_cons, List.mem_append] at hp ⊢
  rcases hp with h | h | h
  · exact .inl h
  · exact .inr (.inr h)
  · exact .inr (.inl h))
/-- an element that is a new object -/
theorem EltN.new1 {h₀ : Heap} {L : Addr} {m : Str → Option Value} {s₂ : Shared} {h₄ : Heap} {tk₄ : Nat} {I C D : Addr} {oI oC : Obj} {ys : List Value} {news nw : List (Addr × Obj)} {Jy : Value → List (Addr × Obj) → Prop} {Da : Addr} {o : Obj}
    (F : Fr h₀ L h₄ m) (N : News h₀ L h₄ ((Da, o) :: (I, oI) :: (C, oC) :: (D, LCg.lst ys) :: (news ++ nw))) (ho : LCg.Off1 Da ((I, oI) :: (C, oC) :: (D, LCg.lst ys) :: (news ++ nw))) (off : LCg.Off3 I C D (nw ++ news)) (H : Jy (.ref Da) ((Da, o) :: nw)) :
    EltN h₀ L m s₂ I oI C oC D ys news Jy (.ref Da) { s₂ with heap := h₄, toks := tk₄ } := by
  refine EltN.mk' ((Da, o) :: nw) F N (fun p hp => ?_) (fun p hp => ?_) H
  · simp only [inComp, List.mem_cons, List.mem_append, List.cons_append] at hp ⊢
    rcases hp with h | h | h | h | h | h
    · exact .inr (.inl h)
    · exact .inr (.inr (.inl h))
    · exact .inr (.inr (.inr (.inl h)))
    · exact .inl h
    · exact .inr (.inr (.inr (.inr (.inr h))))
    · exact .inr (.inr (.inr (.inr (.inl h))))
  · rcases List.mem_cons.mp hp with rfl | hp
    · have z := off1_mem ho
      exact ⟨fun e => z (I, oI) List.mem_cons_self e.symm, fun e => z (C, oC) (List.mem_cons_of_mem _ List.mem_cons_self) e.symm, fun e => z (D, _) (List.mem_cons_of_mem _ (List.mem_cons_of_mem _ List.mem_cons_self)) e.symm⟩
    · exact off.mem p (List.mem_append_left _ hp)
/-- an element that makes nothing that is kept -/
theorem EltN.old1 {h₀ : Heap} {L : Addr} {m : Str → Option Value} {s₂ : Shared} {h₄ : Heap} {tk₄ : Nat} {I C D : Addr} {oI oC : Obj} {ys : List Value} {news nw all : List (Addr × Obj)} {Jy : Value → List (Addr × Obj) → Prop} {y : Value}
    (F : Fr h₀ L h₄ m) (N : News h₀ L h₄ all) (hs : ∀ p ∈ (I, oI) :: (C, oC) :: (D, LCg.lst ys) :: (news ++ nw), p ∈ all) (off : LCg.Off3 I C D (nw ++ news)) (H : Jy y nw) :
    EltN h₀ L m s₂ I oI C oC D ys news Jy y { s₂ with heap := h₄, toks := tk₄ } := by
  refine EltN.mk' nw F N (fun p hp => hs p ?_) (fun p hp => ?_) H
  · simp only [inComp, List.mem_cons, List.mem_append, List.cons_append] at hp ⊢
    rcases hp with h | h | h | h | h
    · exact .inl h
    · exact .inr (.inl h)
    · exact .inr (.inr (.inl h))
    · exact .inr (.inr (.inr (.inr h)))
    · exact .inr (.inr (.inr (.inl h)))
  · exact off.mem p (List.mem_append_left _ hp)
theorem ints_at {vs : List Value} {ns : List Int} (h : IntsAre vs ns) {i : Nat} {v : Value} (hv : vs[i]? = some v) : ∃ n t, ns[i]? = some n ∧ v = .int n t := by
  have hi : i < vs.length := (List.getElem?_eq_some_iff.mp hv).1
  have hl := h.length
  obtain ⟨n, hn⟩ : ∃ n, ns[i]? = some n := ⟨_, List.getElem?_eq_getElem (by omega)⟩
  obtain ⟨t, ht⟩ := h.get i n hn
  rw [ht] at hv
  exact ⟨n, t, hn, (Option.some.inj hv).symm⟩
theorem pieceAt_mem (k : Int) : pieceAt k ∈ alphaP := by
  unfold pieceAt alphaP
  split <;> (try split) <;> (try split) <;> (try split) <;> (try split) <;> simp
theorem piecesR_mem : ∀ k r, ∀ c ∈ piecesR k r, c ∈ alphaP := by
  intro k
  induction k with
  | zero => intro r c hc; cases hc
  | succ k ih =>
    intro r c hc
    rcases List.mem_cons.mp hc with rfl | hc
    · exact pieceAt_mem _
    · exact ih _ c hc
theorem pieces_ok (n : Int) : OkP (piecesF n) := by
  refine ⟨?_, piecesR_mem _ _⟩
  unfold piecesF
  rw [piecesR_length]
  have h1 := Int.fmod_nonneg_of_pos n (show (0 : Int) < 5 by decide)
  have h2 := Int.fmod_lt_of_pos n (show (0 : Int) < 5 by decide)
  omega
/-- each second one; from the first on, if b -/
def alt {α : Type} : Bool → List α → List α
  | _, [] => []
  | true, x :: r => x :: alt false r
  | false, _ :: r => alt true r
abbrev evens {α : Type} (l : List α) : List α := alt true l
theorem alt_map {α β : Type} (f : α → β) (l : List α) : ∀ b, alt b (l.map f) = (alt b l).map f := by
  induction l with
  | nil => intro b; cases b <;> rfl
  | cons x r ih => intro b; cases b <;> simp [alt, ih]
theorem evens_map {α β : Type} (f : α → β) (l : List α) : evens (l.map f) = (evens l).map f := alt_map f l true
theorem alt_mem {α : Type} (l : List α) : ∀ b, ∀ x ∈ alt b l, x ∈ l := by
  induction l with
  | nil => intro b x h; cases b <;> cases h
  | cons y r ih =>
    intro b x h
    cases b with
    | true =>
      rcases List.mem_cons.mp h with rfl | h
      · exact List.mem_cons_self
      · exact List.mem_cons_of_mem _ (ih _ x h)
    | false => exact List.mem_cons_of_mem _ (ih _ x h)
theorem evens_mem {α : Type} (l : List α) : ∀ x ∈ evens l, x ∈ l := alt_mem l true
theorem alt_len {α : Type} (l : List α) : ∀ b, (alt b l).length ≤ l.length := by
  induction l with
  | nil => intro b; cases b <;> exact Nat.le_refl _
  | cons x r ih =>
    intro b
    cases b with
    | true => exact Nat.succ_le_succ (ih false)
    | false => exact Nat.le_succ_of_le (ih true)
theorem evens_len {α : Type} (l : List α) : (evens l).length ≤ l.length := alt_len l true
theorem strs_alt {vs : List Value} {xs : List Str} (h : StrsAre vs xs) : ∀ b, StrsAre (alt b vs) (alt b xs) := by
  induction h with
  | nil => intro b; cases b <;> exact .nil
  | cons x t _ ih =>
    intro b
    cases b with
    | true => exact .cons x t (ih false)
    | false => exact ih true
theorem strs_evens (vs : List Value) (xs : List Str) (h : StrsAre vs xs) : StrsAre (evens vs) (evens xs) := strs_alt h true
theorem RowsIn.alt {nw : List (Addr × Obj)} {vs : List Value} {rs : List (List Str)} (h : RowsIn nw vs rs) : ∀ b, RowsIn nw (Mine.alt b vs) (Mine.alt b rs) := by
  induction h with
  | nil => intro b; cases b <;> exact .nil
  | cons h1 h2 _ ih =>
    intro b
    cases b with
    | true => exact .cons h1 h2 (ih false)
    | false => exact ih true
theorem RowsIn.evens {nw : List (Addr × Obj)} (vs : List Value) (rs : List (List Str)) (h : RowsIn nw vs rs) : RowsIn nw (Mine.evens vs) (Mine.evens rs) := h.alt true
theorem pick_idx : ∀ n : Nat, n ≤ 8 → sliceRange (sliceBounds none none (some 2) n).1 (sliceBounds none none (some 2) n).2.1 (sliceBounds none none (some 2) n).2.2 = (List.range ((n + 1) / 2)).map fun k => 2 * k := by decide +kernel
theorem alt_at {α : Type} (l : List α) : (∀ k, (alt true l)[k]? = l[2 * k]?) ∧ ∀ k, (alt false l)[k]? = l[2 * k + 1]? := by
  induction l with
  | nil => exact ⟨fun k => by simp [alt], fun k => by simp [alt]⟩
  | cons x r ih =>
    refine ⟨fun k => ?_, fun k => ?_⟩
    · cases k with
      | zero => rfl
      | succ k => simp only [alt, List.getElem?_cons_succ]; rw [ih.2 k]; rfl
    · simp only [alt]; rw [ih.1 k, List.getElem?_cons_succ]
theorem alt_true_len {α : Type} (l : List α) : (alt true l).length = (l.length + 1) / 2 ∧ (alt false l).length = l.length / 2 := by
  induction l with
  | nil => exact ⟨by simp [alt], by simp [alt]⟩
  | cons x r ih => simp only [alt, List.length_cons]; omega
theorem pick_evens (its : Array Value) (h : its.size ≤ 8) : slicePick its none none (some 2) = (evens its.toList).toArray := by
  unfold slicePick
  rw [pick_idx its.size h]
  congr 1
  have ha := (alt_at its.toList).1
  have hl : (its.size + 1) / 2 = (alt true its.toList).length := by rw [(alt_true_len its.toList).1]; simp
  rw [hl]
  have key : ∀ (m : List Value) (f : Nat → Option Value), (∀ k, m[k]? = f k) → ((List.range m.length).filterMap f) = m := by
    intro m
    induction m with
    | nil => intro f _; rfl
    | cons y m ih =>
      intro f hf
      rw [List.length_cons, List.range_succ_eq_map, List.filterMap_cons, ← hf 0, List.getElem?_cons_zero, List.filterMap_map]
      show y :: _ = _
      congr 1
      exact ih _ fun k => by rw [Function.comp, ← hf (k + 1), List.getElem?_cons_succ]
  rw [List.filterMap_map]
  exact key _ _ fun k => by rw [Function.comp, ha k, Array.getElem?_toList]
theorem drop3 {h₀ h : Heap} {L : Addr} {a b c d : Addr × Obj} {r : List (Addr × Obj)} (N : News h₀ L h (a :: b :: c :: d :: r)) : News h₀ L h (a :: r) := fun p hp => N p (by
  rcases List.mem_cons.mp hp with rfl | hp
  · exact List.mem_cons_self
  · exact List.mem_cons_of_mem _ (List.mem_cons_of_mem _ (List.mem_cons_of_mem _ (List.mem_cons_of_mem _ hp))))
theorem drop2nd {h₀ h : Heap} {L : Addr} {a b : Addr × Obj} {r : List (Addr × Obj)} (N : News h₀ L h (a :: b :: r)) : News h₀ L h (a :: r) := fun p hp => N p (by
  rcases List.mem_cons.mp hp with rfl | hp
  · exact List.mem_cons_self
  · exact List.mem_cons_of_mem _ (List.mem_cons_of_mem _ hp))
theorem dropTail {h₀ h : Heap} {L : Addr} {r q : List (Addr × Obj)} (N : News h₀ L h (r ++ q)) : News h₀ L h r := fun p hp => N p (List.mem_append_left _ hp)
theorem apart1 {h₀ h : Heap} {L D c : Addr} {us : List Value} {oc : Obj} {v : Option Value} {all : List (Addr × Obj)} (N : News h₀ L h all) (h1 : (D, LCg.lst us) ∈ all) (h2 : (c, oc) ∈ all) (hd : oc.data = .cell v) : @Ne Nat D c := by
  intro e
  have e : D = c := e
  subst e
  have a := (N _ h1).1
  have b := (N _ h2).1
  have : LCg.lst us = oc := Option.some.inj (a.symm.trans b)
  rw [← this] at hd
  cases hd
theorem apartT {h₀ h : Heap} {L c : Addr} {oc : Obj} {v : Option Value} {all nt : List (Addr × Obj)} (N : News h₀ L h all) (ht : ∀ p ∈ nt, ∃ its k, p.2 = W.listOf its k) (hs : ∀ p ∈ nt, p ∈ all) (h2 : (c, oc) ∈ all) (hd : oc.data = .cell v) : ∀ p ∈ nt, p.1 ≠ c := by
  intro p hp e
  subst e
  obtain ⟨its, k, e2⟩ := ht p hp
  have a := (N _ (hs p hp)).1
  have b := (N _ h2).1
  have : p.2 = oc := Option.some.inj (a.symm.trans b)
  rw [← this, e2] at hd
  cases hd
theorem apart6 {h₀ h : Heap} {L D3 D2 c1 c2 c3 c4 : Addr} {us zs : List Value} {o1 o2 o3 o4 : Obj} {v1 v2 v3 v4 : Option Value} {nt : List (Addr × Obj)} (N : News h₀ L h ((D3, LCg.lst us) :: (D2, LCg.lst zs) :: (c1, o1) :: (c2, o2) :: (c3, o3) :: (c4, o4) :: nt)) (ht : ∀ p ∈ nt, ∃ its k, p.2 = W.listOf its k)
    (d1 : o1.data = .cell v1) (d2 : o2.data = .cell v2) (d3 : o3.data = .cell v3) (d4 : o4.data = .cell v4) :
    (PySem.Flt.Hid (@Ne Nat D3 c1) ∧ PySem.Flt.Hid (@Ne Nat D3 c2) ∧ PySem.Flt.Hid (@Ne Nat D3 c3) ∧ PySem.Flt.Hid (@Ne Nat D3 c4) ∧ PySem.Flt.Hid (@Ne Nat D2 c1) ∧ PySem.Flt.Hid (@Ne Nat D2 c2) ∧ PySem.Flt.Hid (@Ne Nat D2 c3) ∧ PySem.Flt.Hid (@Ne Nat D2 c4)) ∧ (∀ p ∈ nt, p.1 ≠ c1) ∧ (∀ p ∈ nt, p.1 ≠ c2) ∧ (∀ p ∈ nt, p.1 ≠ c3) ∧ (∀ p ∈ nt, p.1 ≠ c4) := by
  have m : ∀ p ∈ nt, p ∈ (D3, LCg.lst us) :: (D2, LCg.lst zs) :: (c1, o1) :: (c2, o2) :: (c3, o3) :: (c4, o4) :: nt := fun p hp => by (iterate 6 (refine List.mem_cons_of_mem _ ?_)); exact hp
  refine ⟨⟨⟨apart1 N (us := us) (by simp) (by simp) d1⟩, ⟨apart1 N (us := us) (by simp) (by simp) d2⟩, ⟨apart1 N (us := us) (by simp) (by simp) d3⟩, ⟨apart1 N (us := us) (by simp) (by simp) d4⟩, ⟨apart1 N (us := zs) (by simp) (by simp) d1⟩, ⟨apart1 N (us := zs) (by simp) (by simp) d2⟩, ⟨apart1 N (us := zs) (by simp) (by simp) d3⟩, ⟨apart1 N (us := zs) (by simp) (by simp) d4⟩⟩,
    apartT N ht m (oc := o1) (by simp) d1, apartT N ht m (oc := o2) (by simp) d2, apartT N ht m (oc := o3) (by simp) d3, apartT N ht m (oc := o4) (by simp) d4⟩
theorem apart8 {h₀ h : Heap} {L D5 D4 c1 c2 c3 c4 : Addr} {p3 p2 : Addr × Obj} {us zs : List Value} {o1 o2 o3 o4 : Obj} {v1 v2 v3 v4 : Option Value} {nt : List (Addr × Obj)} (N : News h₀ L h ((D5, LCg.lst us) :: (D4, LCg.lst zs) :: p3 :: p2 :: (c1, o1) :: (c2, o2) :: (c3, o3) :: (c4, o4) :: nt))
    (d1 : o1.data = .cell v1) (d2 : o2.data = .cell v2) (d3 : o3.data = .cell v3) (d4 : o4.data = .cell v4) :
    (PySem.Flt.Hid (@Ne Nat D5 c1) ∧ PySem.Flt.Hid (@Ne Nat D5 c2) ∧ PySem.Flt.Hid (@Ne Nat D5 c3) ∧ PySem.Flt.Hid (@Ne Nat D5 c4) ∧ PySem.Flt.Hid (@Ne Nat D4 c1) ∧ PySem.Flt.Hid (@Ne Nat D4 c2) ∧ PySem.Flt.Hid (@Ne Nat D4 c3) ∧ PySem.Flt.Hid (@Ne Nat D4 c4)) := by
  exact ⟨⟨apart1 N (us := us) (by simp) (by simp) d1⟩, ⟨apart1 N (us := us) (by simp) (by simp) d2⟩, ⟨apart1 N (us := us) (by simp) (by simp) d3⟩, ⟨apart1 N (us := us) (by simp) (by simp) d4⟩, ⟨apart1 N (us := zs) (by simp) (by simp) d1⟩, ⟨apart1 N (us := zs) (by simp) (by simp) d2⟩, ⟨apart1 N (us := zs) (by simp) (by simp) d3⟩, ⟨apart1 N (us := zs) (by simp) (by simp) d4⟩⟩
/-- the rows' own part of a ledger -/
theorem RowsIn.tight {nw : List (Addr × Obj)} {vs : List Value} {rs : List (List Str)} (x : RowsIn nw vs rs) : ∃ nt, (∀ p ∈ nt, p ∈ nw) ∧ (∀ p ∈ nt, ∃ its k, p.2 = W.listOf its k) ∧ RowsIn nt vs rs := by
  induction x with
  | nil => exact ⟨[], (fun p hp => nomatch hp), (fun p hp => nomatch hp), .nil⟩
  | @cons a its k r vs rs hm hS _ ih =>
    obtain ⟨nt, h1, h2, h3⟩ := ih
    refine ⟨(a, W.listOf its k) :: nt, fun p hp => ?_, fun p hp => ?_, .cons List.mem_cons_self hS (h3.mono fun p hp => List.mem_cons_of_mem _ hp)⟩
    · rcases List.mem_cons.mp hp with rfl | hp
      · exact hm
      · exact h1 p hp
    · rcases List.mem_cons.mp hp with rfl | hp
      · exact ⟨_, _, rfl⟩
      · exact h2 p hp
theorem pickE {its : Array Value} (h : its.size ≤ 8) : (slicePick its none none (some 2)).toList = evens its.toList := by rw [pick_evens its h]
end Mine

namespace Mine
/-- a frame with some names forgotten -/
def ovr : List (Str × Option Value) → (Str → Option Value) → Str → Option Value
  | [], m => m
  | (y, u) :: r, m => fun z => if z = y then u else ovr r m z
theorem ovr_eq (ys : List Str) {m m₀ : Str → Option Value} (h : ∀ y, y ∉ ys → m y = m₀ y) : ovr (ys.map fun y => (y, m y)) m₀ = m := by
  induction ys generalizing m₀ with
  | nil => funext y; exact (h y (by simp)).symm
  | cons y ys ih =>
    funext z
    simp only [List.map_cons, ovr]
    by_cases e : z = y
    · simp [e]
    · rw [if_neg e]
      have : ∀ (l : List Str) (z : Str), (z ∉ l → m z = m₀ z) → ovr (l.map fun y => (y, m y)) m₀ z = m z := by
        intro l
        induction l with
        | nil => intro z hz; exact (hz (by simp)).symm
        | cons a l ih2 =>
          intro z hz
          simp only [List.map_cons, ovr]
          by_cases e2 : z = a
          · simp [e2]
          · rw [if_neg e2]
            exact ih2 z fun hn => hz (by simp [e2, hn])
      exact this ys z fun hn => h z (by simp [e, hn])
theorem range_small : ∀ n : Nat, n ≤ 9 → Builtin.Range.small 0 (n : Int) 1 = true ∧ Builtin.Range.rangeSize 0 (n : Int) 1 = (n : Int) := by decide +kernel
theorem apartL {h₀ h : Heap} {L D c : Addr} {its : Array Value} {k : Nat} {oc : Obj} {v : Option Value} {all : List (Addr × Obj)} (N : News h₀ L h all) (h1 : (D, W.listOf its k) ∈ all) (h2 : (c, oc) ∈ all) (hd : oc.data = .cell v) : @Ne Nat D c := by
  intro e
  have e : D = c := e
  subst e
  have a := (N _ h1).1
  have b := (N _ h2).1
  have : W.listOf its k = oc := Option.some.inj (a.symm.trans b)
  rw [← this] at hd
  cases hd
theorem keepDf {h₀ h : Heap} {L : Addr} {r a b c d e : Addr × Obj} {rest : List (Addr × Obj)} (N : News h₀ L h (r :: a :: b :: c :: d :: e :: rest)) : News h₀ L h (r :: d :: rest) := fun p hp => N p (by
  rcases List.mem_cons.mp hp with rfl | hp
  · exact List.mem_cons_self
  · rcases List.mem_cons.mp hp with rfl | hp
    · simp
    · iterate 6 (refine List.mem_cons_of_mem _ ?_)
      exact hp)
theorem off_ne {D c : Addr} {oc : Obj} {l : List (Addr × Obj)} (o : LCg.Off1 D l) (h : (c, oc) ∈ l) : @Ne Nat D c := fun e => off1_mem o _ h e.symm
theorem letter {h₀ h : Heap} {L : Addr} {m : Str → Option Value} {y : Str} {v : Option Value} (F : Fr h₀ L h (fun z => if z = y then v else m z)) : ∃ m0 : Str → Option Value, Fr h₀ L h (fun z => if z = y then v else m0 z) := ⟨m, F⟩
theorem cell_ne (L : Nat) : (L + 1 + 1 ≠ L + 1 + 1 + 1 + 1) ∧ (L + 1 + 1 ≠ L + 1 + 1 + 1) ∧ (L + 1 ≠ L + 1 + 1 + 1 + 1) ∧ (L + 1 ≠ L + 1 + 1 + 1) := by omega
theorem ne_data {h₀ h : Heap} {L c : Addr} {oc : Obj} {v : Option Value} {all : List (Addr × Obj)} {p : Addr × Obj} (N : News h₀ L h all) (h1 : p ∈ all) (h2 : (c, oc) ∈ all) (hd : oc.data = .cell v) (hp : ∀ v, p.2.data ≠ .cell v) : p.1 ≠ c := by
  intro e
  subst e
  have a := (N _ h1).1
  have b := (N _ h2).1
  have : p.2 = oc := Option.some.inj (a.symm.trans b)
  exact hp v (this ▸ hd)
/-- what stays put goes into one open tail -/
theorem pack {h₀ h : Heap} {L' L x d Dl Dr D3 D2 C : Addr} {es : List DictEntry} {n : Nat} {p1 : Addr × Obj} {ll rl us zs : List Value} {oj of om op : Obj} {vj vf : Option Value} {nt : List (Addr × Obj)}
    (N : News h₀ L' h (p1 :: (x, instObj C d) :: (d, dictOf es n) :: (Dl, LCg.lst ll) :: (Dr, LCg.lst rl) :: (D3, LCg.lst us) :: (D2, LCg.lst zs) :: ((L + 1 + 1 + 1 + 1 : Nat), oj) :: ((L + 1 + 1 + 1 : Nat), of) :: ((L + 1 + 1 : Nat), om) :: ((L + 1 : Nat), op) :: nt))
    (ht : ∀ p ∈ nt, ∃ its k, p.2 = W.listOf its k) (dj : oj.data = .cell vj) (df : of.data = .cell vf) :
    ∃ st, ((x, instObj C d) ∈ st ∧ (d, dictOf es n) ∈ st ∧ (Dl, LCg.lst ll) ∈ st ∧ (Dr, LCg.lst rl) ∈ st ∧ (D3, LCg.lst us) ∈ st ∧ (D2, LCg.lst zs) ∈ st ∧ ((L + 1 + 1 : Nat), om) ∈ st ∧ ((L + 1 : Nat), op) ∈ st ∧ ∀ p ∈ nt, p ∈ st) ∧
      News h₀ L' h (((L + 1 + 1 + 1 + 1 : Nat), oj) :: ((L + 1 + 1 + 1 : Nat), of) :: st) ∧ (∀ p ∈ st, p.1 ≠ (L + 1 + 1 + 1 + 1 : Nat)) ∧ ∀ p ∈ st, p.1 ≠ (L + 1 + 1 + 1 : Nat) := by
  have Z := cell_ne L
  have dat : ∀ p ∈ (x, instObj C d) :: (d, dictOf es n) :: (Dl, LCg.lst ll) :: (Dr, LCg.lst rl) :: (D3, LCg.lst us) :: (D2, LCg.lst zs) :: nt, ∀ v, p.2.data ≠ .cell v := by
    intro p hp v e
    simp only [List.mem_cons] at hp
    rcases hp with rfl | rfl | rfl | rfl | rfl | rfl | h
    · cases e
    · cases e
    · cases e
    · cases e
    · cases e
    · cases e
    · obtain ⟨its, k, q⟩ := ht p h
      rw [q] at e
      cases e
  have sub : ∀ p ∈ (x, instObj C d) :: (d, dictOf es n) :: (Dl, LCg.lst ll) :: (Dr, LCg.lst rl) :: (D3, LCg.lst us) :: (D2, LCg.lst zs) :: nt, p ∈ p1 :: (x, instObj C d) :: (d, dictOf es n) :: (Dl, LCg.lst ll) :: (Dr, LCg.lst rl) :: (D3, LCg.lst us) :: (D2, LCg.lst zs) :: ((L + 1 + 1 + 1 + 1 : Nat), oj) :: ((L + 1 + 1 + 1 : Nat), of) :: ((L + 1 + 1 : Nat), om) :: ((L + 1 : Nat), op) :: nt := by
    intro p hp
    simp only [List.mem_cons] at hp ⊢
    rcases hp with h | h | h | h | h | h | h <;> simp only [h, true_or, or_true]
  refine ⟨((L + 1 + 1 : Nat), om) :: ((L + 1 : Nat), op) :: (x, instObj C d) :: (d, dictOf es n) :: (Dl, LCg.lst ll) :: (Dr, LCg.lst rl) :: (D3, LCg.lst us) :: (D2, LCg.lst zs) :: nt,
    ⟨by simp, by simp, by simp, by simp, by simp, by simp, by simp, by simp, fun p hp => by simp only [List.mem_cons, hp, or_true]⟩, fun p hp => ?_, fun p hp => ?_, fun p hp => ?_⟩
  · rcases List.mem_cons.mp hp with rfl | hp
    · exact N _ (by simp)
    · rcases List.mem_cons.mp hp with rfl | hp
      · exact N _ (by simp)
      · rcases List.mem_cons.mp hp with rfl | hp
        · exact N _ (by simp)
        · rcases List.mem_cons.mp hp with rfl | hp
          · exact N _ (by simp)
          · exact N _ (sub p hp)
  · rcases List.mem_cons.mp hp with rfl | hp
    · exact Z.1
    · rcases List.mem_cons.mp hp with rfl | hp
      · exact Z.2.2.1
      · exact ne_data N (sub p hp) (oc := oj) (by simp) dj (dat p hp)
  · rcases List.mem_cons.mp hp with rfl | hp
    · exact Z.2.1
    · rcases List.mem_cons.mp hp with rfl | hp
      · exact Z.2.2.2
      · exact ne_data N (sub p hp) (oc := of) (by simp) df (dat p hp)
section
variable {prog : Program} {w : World} {A : Around} {E : Value → Shared → Prop} {s : Shared} {env : Env} {h₀ : Heap} {x : Str} {body : List Stmt} {Q : Flow → Shared → Prop}
/-- the end of a turn, by a state -/
def RsEnd {σ : Type} (h₀ : Heap) (L : Addr) (I : Addr) (oI : Obj) (s : Shared) (ys : List Str) (m₀ : Str → Option Value) (g : σ → List (Addr × Obj)) (Pn : σ → Prop) (s₂ : Shared) : Prop :=
  ∃ h' tk' m' st, s₂ = { s with heap := h', toks := tk' } ∧ Fr h₀ L h' m' ∧ (∀ y, y ∉ ys → m' y = m₀ y) ∧ News h₀ L h' ((I, oI) :: g st) ∧ LCg.Off1 I (g st) ∧ Pn st
theorem RsEnd.mk' {σ : Type} {L I : Addr} {oI : Obj} {ys : List Str} {m₀ m' : Str → Option Value} {g : σ → List (Addr × Obj)} {Pn : σ → Prop} {h' : Heap} {tk' : Nat} {all : List (Addr × Obj)} (st : σ)
    (F : Fr h₀ L h' m') (hm : ∀ y, y ∉ ys → m' y = m₀ y) (N : News h₀ L h' all) (hs : ∀ p ∈ (I, oI) :: g st, p ∈ all) (ho : LCg.Off1 I (g st)) (hp : Pn st) : RsEnd h₀ L I oI s ys m₀ g Pn { s with heap := h', toks := tk' } :=
  ⟨h', tk', m', st, rfl, F, hm, fun p hp => N p (hs p hp), ho, hp⟩
/-- a for over range(b): by a state that bears the ledger -/
theorem iter_RS {σ : Type} {r : Addr} {b : Int} {t₀ u₀ v₀ : Tok} {n : Nat} {m₀ : Str → Option Value} (ys : List Str) (g : σ → List (Addr × Obj)) (P : Nat → σ → Prop) (st₀ : σ) {robj : Addr × Obj}
    (hh : A.handled = none) (hr : IsRange s.heap r 0 b 1 t₀ u₀ v₀) (hsm : Builtin.Range.small 0 b 1 = true) (hn : Builtin.Range.rangeSize 0 b 1 = (n : Int)) (F : Fr h₀ env.locals s.heap m₀) (N : News h₀ env.locals s.heap (robj :: g st₀)) (hj : P 0 st₀)
    (turn : ∀ (i : Nat) t st (u : Str → Option Value) I oI h tk, i < n → P i st → LCg.Off1 I (g st) → Fr h₀ env.locals h (fun y => if y = x then some (.int (i : Int) t) else ovr (ys.map fun y => (y, u y)) m₀ y) → News h₀ env.locals h ((I, oI) :: g st) →
      wpAny (model prog w) A (execs body env) (fun f s₂ => match f with | .ret v => Q (.ret v) s₂ | .brk => Q .next s₂ | _ => RsEnd h₀ env.locals I oI s (x :: ys) m₀ g (P (i + 1)) s₂) E { s with heap := h, toks := tk })
    (done : ∀ st (u : Str → Option Value) h tk, P n st → Fr h₀ env.locals h (ovr ((x :: ys).map fun y => (y, u y)) m₀) → News h₀ env.locals h (g st) → Q .next { s with heap := h, toks := tk }) :
    wpAny (model prog w) A (pyIter (.ref r)) (fun it s₂ => LoopAtV prog w A h₀ env x body Q E it s₂) E s := by
  refine iter_R (news := g st₀) (fun i m₁ news₁ => (∀ y, y ∉ x :: ys → m₁ y = m₀ y) ∧ ∃ st, news₁ = g st ∧ P i st) hh hr hsm hn F (fun p hp => N p (List.mem_cons_of_mem _ hp)) ⟨fun _ _ => rfl, st₀, rfl, hj⟩ ?_ ?_
  · rintro i t m₁ news₁ I oI h tk hi ⟨hm, st, rfl, hP⟩ ho F₁ N₁
    have e : (fun y => if y = x then some (Value.int (i : Int) t) else m₁ y) = fun y => if y = x then some (.int (i : Int) t) else ovr (ys.map fun y => (y, m₁ y)) m₀ y := by
      have hm2 : ∀ y, y ∉ ys → (if y = x then m₀ x else m₁ y) = m₀ y := by
        intro y hy
        by_cases e : y = x
        · simp [e]
        · rw [if_neg e]; exact hm y (by simp [e, hy])
      funext y
      by_cases e : y = x
      · simp [e]
      · simp only [if_neg e]
        have h3 : ∀ (l : List Str) (z : Str), (z ∉ l → m₁ z = m₀ z) → ovr (l.map fun y => (y, m₁ y)) m₀ z = m₁ z := by
          intro l
          induction l with
          | nil => intro z hz; exact (hz (by simp)).symm
          | cons a l ih2 =>
            intro z hz
            simp only [List.map_cons, ovr]
            by_cases e2 : z = a
            · simp [e2]
            · rw [if_neg e2]
              exact ih2 z fun hn => hz (by simp [e2, hn])
        exact (h3 ys y fun hy => hm y (by simp [e, hy])).symm
    rw [e] at F₁
    refine wpAny_mono (turn i t st m₁ I oI h tk hi hP ho F₁ N₁) (fun f s₂ q => ?_) fun _ _ e => e
    have fin : RsEnd h₀ env.locals I oI s (x :: ys) m₀ g (P (i + 1)) s₂ → TurnR h₀ env.locals I oI s (fun m₁ news₁ => (∀ y, y ∉ x :: ys → m₁ y = m₀ y) ∧ ∃ st, news₁ = g st ∧ P (i + 1) st) s₂ := by
      rintro ⟨h', tk', m', st', e, F', hm', N', ho', hp'⟩
      exact ⟨h', tk', m', g st', e, F', N', ho', hm', st', rfl, hp'⟩
    cases f with
    | ret v => exact q
    | brk => exact q
    | next => exact fin q
    | cont => exact fin q
  · rintro m' news' h tk ⟨hm, st, rfl, hP⟩ F₁ N₁
    rw [← ovr_eq (x :: ys) hm] at F₁
    exact done st m' h tk hP F₁ N₁

/-- the end of a turn that keeps the ledger -/
def KeepEnd (h₀ : Heap) (L : Addr) (x : Str) (m₀ : Str → Option Value) (I : Addr) (oI : Obj) (s : Shared) (news : List (Addr × Obj)) (s₂ : Shared) : Prop :=
  ∃ h' tk' m', s₂ = { s with heap := h', toks := tk' } ∧ Fr h₀ L h' m' ∧ (∀ y, y ≠ x → m' y = m₀ y) ∧ News h₀ L h' ((I, oI) :: news)
theorem KeepEnd.mk' {L I : Addr} {oI : Obj} {m₀ m' : Str → Option Value} {news all : List (Addr × Obj)} {h' : Heap} {tk' : Nat}
    (F : Fr h₀ L h' m') (hm : ∀ y, y ≠ x → m' y = m₀ y) (N : News h₀ L h' all) (hs : ∀ p ∈ (I, oI) :: news, p ∈ all) : KeepEnd h₀ L x m₀ I oI s news { s with heap := h', toks := tk' } :=
  ⟨h', tk', m', rfl, F, hm, fun p hp => N p (hs p hp)⟩
/-- a for over a made list that keeps the ledger -/
theorem iter_keep {l : Addr} {its : Array Value} {k : Nat} {m₀ : Str → Option Value} {news : List (Addr × Obj)}
    (hh : A.handled = none) (hm : (l, W.listOf its k) ∈ news) (F : Fr h₀ env.locals s.heap m₀) (N : News h₀ env.locals s.heap news)
    (turn : ∀ (i : Nat) v I oI h tk, its.toList[i]? = some v → LCg.Off1 I news → Fr h₀ env.locals h (fun y => if y = x then some v else m₀ y) → News h₀ env.locals h ((I, oI) :: news) →
      wpAny (model prog w) A (execs body env) (fun f s₂ => match f with | .ret v => Q (.ret v) s₂ | .brk => Q .next s₂ | _ => KeepEnd h₀ env.locals x m₀ I oI s news s₂) E { s with heap := h, toks := tk })
    (done : ∀ u h tk, Fr h₀ env.locals h (fun y => if y = x then u else m₀ y) → News h₀ env.locals h news → Q .next { s with heap := h, toks := tk }) :
    wpAny (model prog w) A (pyIter (.ref l)) (fun it s₂ => LoopAtV prog w A h₀ env x body Q E it s₂) E s := by
  refine iter_L (l := l) (vs := its.toList) (news := news) (fun i m₁ news₁ => (∀ y, y ≠ x → m₁ y = m₀ y) ∧ news₁ = news) hh ⟨_, N.get hm, rfl, k, rfl⟩ (N _ hm).2.1 F N ⟨fun _ _ => rfl, rfl⟩ ?_ ?_
  · rintro i v m₁ news₁ I oI h tk hv ⟨hm₁, rfl⟩ ho hlI hl' F₁ N₁
    have e : (fun y => if y = x then some v else m₁ y) = fun y => if y = x then some v else m₀ y := by
      funext y
      by_cases e : y = x
      · simp [e]
      · simp only [if_neg e]; exact hm₁ y e
    rw [e] at F₁
    refine wpAny_mono (turn i v I oI h tk hv ho F₁ N₁) (fun f s₂ q => ?_) fun _ _ e => e
    have fin : KeepEnd h₀ env.locals x m₀ I oI s news₁ s₂ → TurnTo h₀ env.locals l I oI h s (fun m₁ news₂ => (∀ y, y ≠ x → m₁ y = m₀ y) ∧ news₂ = news₁) s₂ := by
      rintro ⟨h', tk', m', e, F', hm', N'⟩
      refine ⟨h', tk', m', news₁, e, F', N', ho, fun o e => ?_, hm', rfl⟩
      have a := N₁.get (List.mem_cons_of_mem _ hm)
      rw [e] at a
      have b := N'.get (List.mem_cons_of_mem _ hm)
      rw [Option.some.inj a]
      exact b
    cases f with
    | ret v => exact q
    | brk => exact q
    | next => exact fin q
    | cont => exact fin q
  · rintro m' news' h tk ⟨hm₁, rfl⟩ F₁ N₁
    have e : m' = fun y => if y = x then m' x else m₀ y := by
      funext y
      by_cases e : y = x
      · simp [e]
      · simp only [if_neg e]; exact hm₁ y e
    rw [e] at F₁
    exact done _ h tk F₁ N₁
end
end Mine

namespace Mine
/-- what a slash in a place's text parts, and the pieces' lengths -/
def chkC (p : List Str) : Bool :=
  let l := (render p).cps.toList
  ((List.range 5).all fun i => covF (render (p.take i)) (render p))
   && ((List.range l.length).all fun n => n == 0 || l[n]? != some 47 || (List.range 5).any fun i => l.take n == (render (p.take i)).cps.toList)
   && ((Txt.slice (render p) (some (-1)) none != Str.ofString "/") == (p != []))
   && ((cutS (render p)).all fun c => decide (c.length < 900)) && ((cutS (dotsS (render p))).all fun c => decide (c.length < 900))
theorem chkC_short : (listsN alphaN 1).all chkC = true := by decide +kernel
theorem chkC_two : ∀ c ∈ alphaN, ∀ d ∈ alphaN, ((listsN alphaN 2).map fun r => c :: d :: r).all chkC = true := by
  intro c hc d hd
  simp only [alphaN, List.mem_cons, List.not_mem_nil, or_false] at hc hd
  rcases hc with rfl | rfl | rfl <;> rcases hd with rfl | rfl | rfl <;> decide +kernel
structure CovOk (p : List Str) : Prop where
  up : ∀ i, i ≤ 4 → covF (render (p.take i)) (render p) = true
  cut : ∀ n, n ≠ 0 → (render p).cps.toList[n]? = some 47 → ∃ i, (render p).cps.toList.take n = (render (p.take i)).cps.toList
  last : (Txt.slice (render p) (some (-1)) none != Str.ofString "/") = (p != [])
  pcs : ∀ c ∈ Txt.split (render p) (Str.ofString "/"), c.length < 900
  dpcs : ∀ c ∈ Txt.split (dots (render p)) (Str.ofString "/"), c.length < 900
theorem cov_ok {p : List Str} (h : OkN p) : CovOk p := by
  have := all_two chkC_short chkC_two h.1 h.2
  simp only [chkC, cutS_eq, dots_eq, Bool.and_eq_true, beq_iff_eq] at this
  obtain ⟨⟨⟨⟨h1, h2⟩, h3⟩, h4⟩, h5⟩ := this
  refine ⟨fun i hi => List.all_eq_true.mp h1 i (List.mem_range.mpr (by omega)), fun n hn hs => ?_, h3, fun c hc => by simpa using List.all_eq_true.mp h4 c hc, fun c hc => by simpa using List.all_eq_true.mp h5 c hc⟩
  have hl : n < (render p).cps.toList.length := (List.getElem?_eq_some_iff.mp hs).1
  have := List.all_eq_true.mp h2 n (List.mem_range.mpr hl)
  rw [hs] at this
  simp only [hn, beq_eq_false_iff_ne, ne_eq, not_false_eq_true, bne_self_eq_false, Bool.or_false, Bool.false_or, Bool.or_eq_true, beq_iff_eq, false_or] at this
  obtain ⟨i, _, hi⟩ := List.any_eq_true.mp this
  exact ⟨i, by simpa using hi⟩
theorem render_ext {a b : List Str} (e : (render a).cps.toList = (render b).cps.toList) : render a = render b := by
  have := Array.toList_inj.mp e
  cases h1 : render a
  cases h2 : render b
  rw [h1, h2] at this
  exact congrArg Str.mk this
theorem covF_eq {r p : List Str} (hr : OkN r) (hp : OkN p) : covF (render r) (render p) = decide (p.take r.length = r) := by
  by_cases e : p.take r.length = r
  · rw [decide_eq_true e]
    have := (cov_ok hp).up r.length hr.1
    rw [e] at this
    exact this
  · rw [decide_eq_false e]
    cases hc : covF (render r) (render p) with
    | false => rfl
    | true =>
      exfalso
      apply e
      unfold covF at hc
      by_cases h1 : (render r == render p) = true
      · have : r = p := render_inj hr hp (by simpa using h1)
        subst this
        simp
      · rw [if_neg h1, (cov_ok hr).last] at hc
        by_cases h2 : r = []
        · subst h2; rfl
        · have h3 : (r != []) = true := by simpa using h2
          rw [if_pos h3] at hc
          have hs : Builtin.Str.subAt (render p) (render r ++ Str.ofString "/") 0 = true := by
            unfold Txt.startswith at hc
            simp only [Bool.and_eq_true] at hc
            exact hc.2
          have eq := StrLaws.subAt_eq (render p) (render r ++ Str.ofString "/") 0
          rw [hs, List.drop_zero] at eq
          have eq2 : (render p).cps.toList.take (render r ++ Str.ofString "/").length = (render r ++ Str.ofString "/").cps.toList := by simpa using eq.symm
          have ec : (render r ++ Str.ofString "/").cps.toList = (render r).cps.toList ++ [47] := by
            rw [Str.cps_append, Array.toList_append]
            rfl
          have el : (render r ++ Str.ofString "/").length = (render r).cps.toList.length + 1 := by
            show (render r ++ Str.ofString "/").cps.size = _
            rw [← Array.length_toList, ec, List.length_append]
            rfl
          rw [ec, el] at eq2
          have hn : (render p).cps.toList[(render r).cps.toList.length]? = some 47 := by
            have h5 : ((render p).cps.toList.take ((render r).cps.toList.length + 1))[(render r).cps.toList.length]? = some 47 := by
              rw [eq2]; simp
            rw [List.getElem?_take] at h5
            simpa using h5
          have hne : (render r).cps.toList.length ≠ 0 := by
            intro h0
            have : render r = Str.empty := by
              have h6 : (render r).cps.toList = [] := List.length_eq_zero_iff.mp h0
              have h7 : (render r).cps = #[] := by simpa using h6
              cases h8 : render r
              rw [h8] at h7
              simp only at h7
              rw [h7]; rfl
            have h9 := (names_ok hr).sw
            rw [this] at h9
            revert h9
            decide
          obtain ⟨i, hi⟩ := (cov_ok hp).cut _ hne hn
          have h6 : (render p).cps.toList.take (render r).cps.toList.length = (render r).cps.toList := by
            have := congrArg (List.take (render r).cps.toList.length) eq2
            rw [List.take_take, Nat.min_eq_left (Nat.le_succ _), List.take_left'] at this
            · exact this
            · rfl
          rw [h6] at hi
          have h7 : r = p.take i := render_inj hr (okN_take hp i) (render_ext hi)
          rw [h7, List.length_take]
          rcases Nat.le_total i p.length with h | h
          · rw [Nat.min_eq_left h]
          · rw [Nat.min_eq_right h, List.take_of_length_le h, List.take_of_length_le (Nat.le_refl _)]

/-- the fronts, by their lengths -/
def frDown (p : List Str) : Nat → List (List Str)
  | 0 => [[]]
  | l + 1 => p.take (l + 1) :: frDown p l
theorem frontNs_down (p : List Str) : ∀ l, ((List.range (l + 1)).map fun i => p.take (l - i)) = frDown p l := by
  intro l
  induction l with
  | zero => simp [frDown, List.range_succ]
  | succ l ih =>
    rw [List.range_succ_eq_map, List.map_cons, List.map_map, frDown]
    congr 1
    rw [← ih]
    apply List.map_congr_left
    intro i _
    simp
theorem fronts_down (p : List Str) : frontNs p p.length = frDown p p.length := frontNs_down p p.length
theorem mem_frDown (p : List Str) : ∀ l f, f ∈ frDown p l ↔ ∃ i, i ≤ l ∧ f = p.take i := by
  intro l
  induction l with
  | zero => intro f; simp [frDown]
  | succ l ih =>
    intro f
    simp only [frDown, List.mem_cons, ih]
    constructor
    · rintro (h | ⟨i, hi, h⟩)
      · exact ⟨l + 1, Nat.le_refl _, h⟩
      · exact ⟨i, by omega, h⟩
    · rintro ⟨i, hi, h⟩
      by_cases e : i = l + 1
      · subst e; exact .inl h
      · exact .inr ⟨i, by omega, h⟩
theorem take_iff {r p : List Str} : p.take r.length = r ↔ r <+: p := by
  constructor
  · intro h; rw [← h]; exact List.take_prefix _ _
  · intro h; exact (List.prefix_iff_eq_take.mp h).symm
theorem contains_fronts {r p : List Str} (hr : OkN r) (hp : OkN p) : (frontsF p).contains (render r) = decide (p.take r.length = r) := by
  have : (frontsF p).contains (render r) = true ↔ p.take r.length = r := by
    rw [List.contains_iff_mem]
    unfold frontsF
    rw [fronts_down, List.mem_map]
    constructor
    · rintro ⟨f, hf, e⟩
      obtain ⟨i, hi, rfl⟩ := (mem_frDown p _ f).mp hf
      have := render_inj (okN_take hp i) hr e
      rw [take_iff, ← this]
      exact List.take_prefix _ _
    · intro h
      exact ⟨r, (mem_frDown p _ r).mpr ⟨r.length, (take_iff.mp h).length_le, h.symm⟩, rfl⟩
  by_cases h : p.take r.length = r
  · rw [decide_eq_true h]; exact this.mpr h
  · rw [decide_eq_false h]
    cases q : (frontsF p).contains (render r) with
    | false => rfl
    | true => exact absurd (this.mp q) h
theorem law_due {rs : List (List Str)} {p : List Str} (hr : ∀ r ∈ rs, OkN r) (hp : OkN p) :
    ((rs.map render).filter fun r => covF r (render p)).take 1 = ((rs.filter fun r => decide (p.take r.length = r)).map render).take 1 := by
  congr 1
  rw [List.filter_map]
  congr 1
  exact List.filter_congr fun r h => covF_eq (hr r h) hp
theorem law_fronts {rs : List (List Str)} {p : List Str} (hr : ∀ r ∈ rs, OkN r) (hp : OkN p) :
    ((rs.map render).filter fun r => covF r (render p)).take 1 = ((rs.map render).filter fun r => (frontsF p).contains r).take 1 := by
  congr 1
  rw [List.filter_map, List.filter_map]
  congr 1
  exact List.filter_congr fun r h => by simp only [Function.comp]; rw [covF_eq (hr r h) hp, contains_fronts (hr r h) hp]

/-- the fronts of p that all of ns begin with -/
def frontsAll (p : List Str) (ns : List (List Str)) : List (List Str) := (frontNs p p.length).filter fun f => ns.all fun n => decide (n.take f.length = f)
theorem frontsAll_nil (p : List Str) : (frontsAll p []).map render = frontsF p := by
  unfold frontsAll frontsF
  congr 1
  exact List.filter_eq_self.mpr fun _ _ => rfl
theorem frontsAll_ok {p : List Str} (hp : OkN p) (ns : List (List Str)) : ∀ f ∈ frontsAll p ns, OkN f := by
  intro f hf
  have := (List.mem_filter.mp hf).1
  rw [fronts_down] at this
  obtain ⟨i, _, rfl⟩ := (mem_frDown p _ f).mp this
  exact okN_take hp i
theorem frontsAll_cons {p n : List Str} {ns : List (List Str)} (hp : OkN p) (hn : OkN n) : (((frontsAll p ns).map render).filter fun f => covF f (render n)) = (frontsAll p (n :: ns)).map render := by
  rw [List.filter_map]
  congr 1
  unfold frontsAll
  rw [List.filter_filter]
  refine List.filter_congr fun f hf => ?_
  have hf2 : OkN f := by
    rw [fronts_down] at hf
    obtain ⟨i, _, rfl⟩ := (mem_frDown p _ f).mp hf
    exact okN_take hp i
  simp only [Function.comp, List.all_cons]
  rw [covF_eq hf2 hn]
theorem filter_down (p c : List Str) (hc : c <+: p) (g : List Str → Bool) (hg : ∀ f, f <+: p → (g f = true ↔ f <+: c)) : ∀ l, l ≤ p.length → (frDown p l).filter g = frDown c (min l c.length) := by
  have ec : p.take c.length = c := take_iff.mpr hc
  intro l
  induction l with
  | zero =>
    intro _
    have : g [] = true := (hg [] (by simp)).mpr (by simp)
    simp [frDown, this]
  | succ l ih =>
    intro hl
    have ih := ih (by omega)
    have hgl := hg (p.take (l + 1)) (List.take_prefix _ _)
    simp only [frDown, List.filter_cons]
    by_cases h : l + 1 ≤ c.length
    · have h1 : p.take (l + 1) = c.take (l + 1) := by
        rw [← ec, List.take_take, Nat.min_eq_left h]
      have h2 : g (p.take (l + 1)) = true := hgl.mpr (by rw [h1]; exact List.take_prefix _ _)
      rw [if_pos h2, ih, Nat.min_eq_left h, Nat.min_eq_left (by omega), frDown, h1]
    · have h2 : ¬ g (p.take (l + 1)) = true := by
        intro q
        have := (hgl.mp q).length_le
        rw [List.length_take] at this
        omega
      rw [if_neg h2, ih, Nat.min_eq_right (by omega), Nat.min_eq_right (by omega)]
theorem law_common {p c : List Str} {ns : List (List Str)} (hm : p ∈ ns) (hc : IsCom ns c) : (frontsAll p ns).map render = frontsF c := by
  unfold frontsAll frontsF
  congr 1
  have hcp : c <+: p := (hc c).mp (List.prefix_refl _) p hm
  rw [fronts_down, fronts_down, filter_down p c hcp _ ?_ p.length (Nat.le_refl _), Nat.min_eq_right hcp.length_le]
  intro f _
  rw [List.all_eq_true, hc f]
  constructor
  · intro h n hn; exact take_iff.mp (by simpa using h n hn)
  · intro h n hn; simpa using take_iff.mpr (h n hn)
theorem com_ok {c : List Str} {ns : List (List Str)} {p : List Str} (hm : p ∈ ns) (hp : OkN p) (hc : IsCom ns c) : OkN c := by
  have hcp : c <+: p := (hc c).mp (List.prefix_refl _) p hm
  rw [← take_iff.mpr hcp]
  exact okN_take hp _
/-- the places from j on, up to k -/
def seg {α : Type} (l : List α) (j k : Nat) : List α := (l.drop j).take (k + 1 - j)
theorem seg_cons {α : Type} {l : List α} {j k : Nat} {x : α} (h : l[j]? = some x) (hjk : j ≤ k) : seg l j k = x :: seg l (j + 1) k := by
  unfold seg
  have hlt : j < l.length := (List.getElem?_eq_some_iff.mp h).1
  rw [List.drop_eq_getElem_cons hlt, show k + 1 - j = (k - j) + 1 by omega, List.take_succ_cons, show k + 1 - (j + 1) = k - j by omega]
  congr 1
  exact (List.getElem?_eq_some_iff.mp h).2
theorem seg_nil {α : Type} (l : List α) (k : Nat) : seg l (k + 1) k = [] := by simp [seg]
theorem seg_mem {α : Type} {l : List α} {j k : Nat} {x : α} (h : x ∈ seg l j k) : x ∈ l := List.mem_of_mem_drop (List.mem_of_mem_take h)
theorem seg_last {α : Type} {l : List α} {j k : Nat} {x : α} (h : l[k]? = some x) (hjk : j ≤ k) : x ∈ seg l j k := by
  unfold seg
  refine List.mem_of_getElem? (i := k - j) ?_
  rw [List.getElem?_take, if_pos (by omega), List.getElem?_drop, show j + (k - j) = k by omega]
  exact h
theorem pick_run2 (its : Array Value) (a b : Nat) : slicePick its (some (a : Int)) (some (b : Int)) none = ((its.toList.drop a).take (b - a)).toArray := by
  have e : sliceBounds (some (a : Int)) (some (b : Int)) none its.size = (((min a its.size : Nat) : Int), ((min b its.size : Nat) : Int), 1) := by
    simp only [sliceBounds, Option.getD_none, show (1 : Int) > 0 by decide, if_true, if_neg (show ¬ ((a : Int) < 0) by omega), if_neg (show ¬ ((b : Int) < 0) by omega)]
    congr 1
    · omega
    · congr 1
      omega
  rw [kmk_pick_nat _ e]
  congr 1
  have hs : its.size = its.toList.length := by simp
  rw [hs, kmk_drop_min]
  rcases Nat.le_total b its.toList.length with h | h
  · rw [Nat.min_eq_left h]
    rcases Nat.le_total a its.toList.length with h2 | h2
    · rw [Nat.min_eq_left h2]
    · rw [List.drop_eq_nil_of_le h2]; simp
  · rw [Nat.min_eq_right h]
    rcases Nat.le_total a its.toList.length with h2 | h2
    · rw [Nat.min_eq_left h2, List.take_of_length_le (by simp), List.take_of_length_le (by simp; omega)]
    · rw [List.drop_eq_nil_of_le h2]; simp
theorem strs_drop {vs : List Value} {xs : List Str} (h : StrsAre vs xs) : ∀ k : Nat, StrsAre (vs.drop k) (xs.drop k) := by
  induction h with
  | nil => intro k; simp; exact .nil
  | cons y t r ih =>
    intro k
    cases k with
    | zero => exact .cons y t r
    | succ k => exact ih k
theorem paths_render : ∀ {ns : List (List Str)}, (∀ n ∈ ns, OkN n) → PathsAre (ns.map render) ns := by
  intro ns
  induction ns with
  | nil => intro _; exact .nil
  | cons n r ih =>
    intro h
    have P := names_ok (h n List.mem_cons_self)
    exact .cons ⟨P.len, P.ok, P.sw, P.sp, P.spl, (cov_ok (h n List.mem_cons_self)).pcs, h n List.mem_cons_self⟩ (ih fun m hm => h m (List.mem_cons_of_mem _ hm))
theorem path_dots {n : List Str} (h : OkN n) : PathStr (dots (render n)) n :=
  have P := names_ok h
  ⟨P.dlen, P.dok, P.dsw, P.dsp, P.dspl, (cov_ok h).dpcs, h⟩
theorem path_plain {n : List Str} (h : OkN n) : PathStr (render n) n :=
  have P := names_ok h
  ⟨P.len, P.ok, P.sw, P.sp, P.spl, (cov_ok h).pcs, h⟩
end Mine

local macro_rules | `(tactic| walk_at "subscriptTail Name Slice ref ref") => `(tactic| (k_here; (with_reducible show wpAny _ _ (subscriptTail _ (PySem.Expr.Slice _ _ (some _) _) (Value.ref _) (Value.ref _)) _ _ _); k_dflt (refine' kmk_slice3_lit ?F ?N ?l ?p ?q ?k ?o ?e ?_ ?s ?t ?z; (case F => k_asm); (case N => k_asm); (case l => exact News.isList (by k_asm) (by k_mem)); (case p => first | exact IsPart.none | exact IsPart.int _ _); (case q => first | exact IsPart.none | exact IsPart.int _ _); (case k => first | exact IsPart.none | exact IsPart.int _ _); (case o => decide); (case e => exact Mine.pickE (by assumption)); (case s => with_unfolding_all rfl); (case t => (intro _; with_unfolding_all rfl)); (case z => (rw [PySem.sizeLine_eq]; omega))); intro D' h' F' N' l1; (try k_lt l1); (try k_sweep)))
local macro_rules | `(tactic| k_mem) => `(tactic| assumption)
local macro_rules | `(tactic| k_all) => `(tactic| assumption)
local macro_rules | `(tactic| k_ne) => `(tactic| exact PySem.Flt.Hid.out (by assumption))
local macro_rules | `(tactic| walk_at "call type:range") => `(tactic| (k_here; (with_reducible show wpAny _ _ (call _ [Value.int _ _]) _ _ _); k_dflt (refine' Mine.range_K ?F ?N ?_; (case F => k_asm); (case N => k_asm)); intro R' h' t1' t2' tk' F' N' l1' hR'; (try k_lt l1'); (try k_sweep)))
local macro_rules | `(tactic| walk_at "call builtin:len") => `(tactic| (k_here; (with_reducible show wpAny _ _ (call (Value.builtin "len") [Value.ref _]) _ _ _); k_dflt (refine' PyProof.Rows.len_list ?l ?f ?_; (case l => exact News.isList (by k_asm) (by k_mem)); (case f => omega))))
local macro_rules | `(tactic| walk_at "subscriptTail") => `(tactic| (k_here; (with_reducible show wpAny _ _ (subscriptTail _ _ (Value.ref _) (Value.int (Nat.cast _) _)) _ _ _); k_dflt (refine' Mine.item_listAt ?l ?n ?z ?_ ?hs; (case l => exact News.isList (by k_asm) (by k_mem)); (case n => assumption); (case z => omega); (case hs => with_unfolding_all rfl))))
local macro_rules | `(tactic| walk_at "subscriptTail") => `(tactic| (k_here; (with_reducible show wpAny _ _ (subscriptTail _ (Expr.Slice _ _ none _) (Value.ref _) (Value.ref _)) _ _ _); k_dflt (refine' kmk_slice ?F ?N ?l ?pl ?pu ?_ ?hs ?ht ?z; (case F => k_asm); (case N => k_asm); (case l => exact News.isList (by k_asm) (by k_mem)); (case pl => first | exact IsPart.none | exact IsPart.int _ _); (case pu => first | exact IsPart.none | exact IsPart.int _ _); (case hs => with_unfolding_all rfl); (case ht => (intro _; with_unfolding_all rfl)); (case z => (rw [PySem.sizeLine_eq]; omega))); intro D' h' F' N' l1'; (try k_lt l1')))
theorem PySem.Challenge.cw_pd0108_01_holds : PySem.Challenge.rw_pd0108_01.Holds := by
  refine Mine.hd ?_
  k_go0
  all_goals try k_fold
  repeat' ((fail_if_success (with_reducible show wpAny _ _ (exec (Stmt.Assign _ (Expr.ListComp _ _ _ _) _) _) _ _ _)); first | (k_unfold; (try dsimp only)) | (k_end; wrow_close) | walk1 | (dsimp only; walk1) | (leave1; walk_say "STEP leave1"; try dsimp only) | fail "no step")
  rename Fr _ _ _ _ => F0
  rename News _ _ _ _ => N0
  rename Below _ _ _ _ => B0
  rename Frag.In _ _ => X0
  rename Top _ _ _ _ _ _ => T0
  rename IntsAre _ _ => hI
  refine Mine.Assign_ListComp_N F0 rfl (by with_unfolding_all rfl) (by with_unfolding_all rfl) (by decide) rfl (by decide) rfl rfl rfl ?_ (by intro _; rfl)
  repeat' (first | (k_unfold; (try dsimp only)) | walk1 | (dsimp only; walk1))
  rename Fr _ _ _ _ => F1
  rename News _ _ _ _ => N1
  rename IntsAre _ _ => hI1
  rename List Int => ns
  rename Shared => s₁
  have hn8 : (ns.take 6 ++ [32, 88]).length ≤ 8 := by simp; omega
  have hl1 := hI1.length
  refine ⟨_, _, _, fun i ys nw => Mine.RowsIn nw ys (((ns.take 6 ++ [32, 88]).take i).map Mine.piecesF), rfl, rfl, .inl ⟨_, N1.get List.mem_cons_self, rfl, _, rfl⟩, .inr ⟨_, List.mem_cons_self⟩, by rw [PySem.sizeLine_eq, List.size_toArray]; omega, F1, N1, .nil, ?_, ?_⟩
  · rintro s₂ ⟨g2, rfl⟩ i v ys nw I oI C oC Dd m₂ h tk E' hv hoC hx F3 N3 off ne hys
    obtain ⟨n, t, hn, rfl⟩ := Mine.ints_at hI1 (by simpa using hv)
    have N4 := Mine.inComp_swap N3
    simp only [List.cons_append, List.nil_append] at N4
    clear N3 F1 N1
    refine Mine.compN_nil ?_
    repeat' ((fail_if_success (with_reducible show wpAny _ _ (call (Value.ref _) _) _ _ _)); first | (k_unfold; (try dsimp only)) | walk1 | (dsimp only; walk1))
    refine Mine.pieces_spec B0 (by assumption) N4 X0 T0 rfl (by ktr_room) (by ktr_units) ?_
    intro Da its' k' h' tk' st F5 hS N5 o5
    refine Mine.EltN.new1 (news := [_, _, _, _, _, _, _]) F5 N5 o5 off ?_
    dsimp only
    rw [List.take_add_one, hn, List.map_append]
    exact Mine.RowsIn.snoc (hys.mono fun p hp => List.mem_cons_of_mem _ hp) List.mem_cons_self hS
  · rintro s₂ ⟨g2, rfl⟩ D1 ys nw h tk N3 off hys F3'
    obtain ⟨m0, F3⟩ := Mine.letter F3'
    clear F3'
    have hys1 : Mine.RowsIn nw ys ((ns.take 6 ++ [32, 88]).map Mine.piecesF) := by
      rw [List.size_toArray, hl1, List.take_length] at hys
      exact hys
    have N4 := Mine.done_swap N3
    simp only [List.cons_append, List.nil_append] at N4
    clear N3 F1 N1 hys
    repeat' ((fail_if_success (with_reducible show wpAny _ _ (exec (Stmt.Assign _ (Expr.ListComp _ _ _ _) _) _) _ _ _)); first | (k_unfold; (try dsimp only)) | (k_end; wrow_close) | walk1 | (dsimp only; walk1) | (leave1; walk_say "STEP leave1"; try dsimp only) | fail "no step")
    have N5 := Mine.drop3 N4
    clear N4
    rename Fr _ _ _ _ => F4
    obtain ⟨pss, hpss⟩ : ∃ p, p = (ns.take 6 ++ [32, 88]).map Mine.piecesF := ⟨_, rfl⟩
    have hokP : ∀ ps ∈ pss, Mine.OkP ps := by
      rw [hpss]
      intro ps hps
      obtain ⟨n, _, rfl⟩ := List.mem_map.mp hps
      exact Mine.pieces_ok n
    have hp8 : pss.length ≤ 8 := by rw [hpss, List.length_map]; exact hn8
    rw [← hpss] at hys1
    clear hpss hl1 hn8 hI1 off
    refine Mine.Assign_ListComp_N F4 rfl (by with_unfolding_all rfl) (by with_unfolding_all rfl) (by decide) rfl (by decide) rfl rfl rfl ?_ (by intro _; rfl)
    repeat' (first | (k_unfold; (try dsimp only)) | walk1 | (dsimp only; walk1))
    have hysl := hys1.length
    refine ⟨D1, ys.toArray, _, fun i zs nw2 => Mine.RowsIn nw2 zs ((pss.take i).map Mine.namesF), rfl, rfl, .inl ⟨_, N5.get List.mem_cons_self, rfl, _, rfl⟩, .inr ⟨_, List.mem_cons_self⟩, by rw [PySem.sizeLine_eq, List.size_toArray]; omega, F4, N5, .nil, ?_, ?_⟩
    · rintro s₂ ⟨g2, rfl⟩ i v zs nw2 I oI C oC Dd m₂ h tk E' hv hoC hx F6 N6 off ne hzs
      obtain ⟨ra, rits, rk, ps, hps, rfl, hmr, hrS⟩ := hys1.get (show ys[i]? = some v by simpa using hv)
      have N7 := Mine.inComp_swap N6
      simp only [List.cons_append, List.nil_append] at N7
      obtain ⟨rest, hrest⟩ : ∃ r, r = nw ++ nw2 := ⟨_, rfl⟩
      rw [← hrest] at N7
      have hrm : (ra, W.listOf rits rk) ∈ rest := by rw [hrest]; exact List.mem_append_left _ hmr
      clear N6 F4 N5
      refine Mine.compN_nil ?_
      repeat' ((fail_if_success (with_reducible show wpAny _ _ (call (Value.ref _) _) _ _ _)); first | (k_unfold; (try dsimp only)) | walk1 | (dsimp only; walk1))
      refine Mine.names_spec ⟨_, N7.get (o := W.listOf rits rk) (by (iterate 8 (refine List.mem_cons_of_mem _ ?_)); exact hrm), rfl, _, rfl⟩ hrS (hokP ps (List.mem_of_getElem? hps)) B0 (by assumption) N7 X0 T0 rfl (by ktr_room) (by ktr_units) ?_
      intro Da its' k' h' tk' st F8 hS N8 o8
      rw [hrest] at N8 o8
      refine Mine.EltN.new1 (news := _ :: _ :: _ :: _ :: _ :: nw) F8 N8 o8 off ?_
      dsimp only
      rw [List.take_add_one, hps, List.map_append]
      exact Mine.RowsIn.snoc (hzs.mono fun p hp => List.mem_cons_of_mem _ hp) List.mem_cons_self hS
    · rintro s₂ ⟨g2, rfl⟩ D2 zs nw2 h tk N6 off hzs F6
      have hzs1 : Mine.RowsIn nw2 zs (pss.map Mine.namesF) := by
        rw [List.size_toArray, hysl, List.take_length] at hzs
        exact hzs
      have N7 := Mine.done_swap N6
      simp only [List.cons_append, List.nil_append] at N7
      obtain ⟨rest, hrest⟩ : ∃ r, r = nw ++ nw2 := ⟨_, rfl⟩
      rw [← hrest] at N7
      clear N6 F4 N5 hzs
      repeat' ((fail_if_success (with_reducible show wpAny _ _ (exec (Stmt.Assign _ (Expr.ListComp _ _ _ _) _) _) _ _ _)); first | (k_unfold; (try dsimp only)) | (k_end; wrow_close) | walk1 | (dsimp only; walk1) | (leave1; walk_say "STEP leave1"; try dsimp only) | fail "no step")
      repeat' ((fail_if_success (with_reducible show wpAny _ _ (eval (Expr.ListComp _ _ _ _) _) _ _ _)); first | (k_unfold; (try dsimp only)) | (k_end; wrow_close) | walk1 | (dsimp only; walk1) | (leave1; walk_say "STEP leave1"; try dsimp only) | fail "no step")
      rename Fr _ _ _ _ => F7
      refine Mine.ListComp_N F7 (by with_unfolding_all rfl) (by decide) rfl (by decide) rfl ?_ (by intro _; rfl)
      repeat' (first | (k_unfold; (try dsimp only)) | walk1 | (dsimp only; walk1))
      refine ⟨D1, ys.toArray, _, fun i us nw3 => nw3 = [] ∧ PySem.Flt.Hid (StrsAre us ((pss.take i).map fun ps => Mine.render (Mine.namesF ps))), rfl, rfl, .inl ⟨_, N7.get (List.mem_cons_of_mem _ List.mem_cons_self), rfl, _, rfl⟩, .inr ⟨_, List.mem_cons_of_mem _ List.mem_cons_self⟩, by rw [PySem.sizeLine_eq, List.size_toArray]; omega, F7, N7, ⟨rfl, ⟨.nil⟩⟩, ?_, ?_⟩
      · rintro s₂ ⟨g2, rfl⟩ i v us nw3 I oI C oC Dd m₂ h tk E' hv hoC hx F8 N8 off8 ne ⟨rfl, hus⟩
        obtain ⟨ra, rits, rk, ps, hps, rfl, hmr, hrS⟩ := hys1.get (show ys[i]? = some v by simpa using hv)
        rw [List.nil_append] at N8
        dsimp only [Mine.inComp] at N8
        have hrm : (ra, W.listOf rits rk) ∈ rest := by rw [hrest]; exact List.mem_append_left _ hmr
        clear N7 F7 off
        refine Mine.compN_nil ?_
        repeat' ((fail_if_success (with_reducible show wpAny _ _ (call (Value.ref _) _) _ _ _)); first | (k_unfold; (try dsimp only)) | walk1 | (dsimp only; walk1))
        refine Mine.place_spec ⟨_, N8.get (o := W.listOf rits rk) (by (iterate 9 (refine List.mem_cons_of_mem _ ?_)); exact hrm), rfl, _, rfl⟩ hrS (hokP ps (List.mem_of_getElem? hps)) B0 (by assumption) N8 X0 T0 rfl (by ktr_room) (by ktr_units) ?_
        intro t h' tk' st F9 N9
        refine Mine.EltN.mk' [] F9 N9 (fun p hp => hp) (fun p hp => nomatch hp) ⟨rfl, ⟨?_⟩⟩
        rw [List.take_add_one, hps, List.map_append]
        exact Mine.strs_append hus.out (.cons _ _ .nil)
      · rintro s₂ ⟨g2, rfl⟩ D3 us nw3 h tk N8 off8 ⟨rfl, hus⟩ F8
        rw [List.nil_append] at N8
        obtain ⟨nss, hnss⟩ : ∃ p, p = pss.map Mine.namesF := ⟨_, rfl⟩
        have hokN : ∀ n ∈ nss, Mine.OkN n := by
          rw [hnss]
          intro n hn
          obtain ⟨ps, hps, rfl⟩ := List.mem_map.mp hn
          exact Mine.names_okN (hokP ps hps)
        have hn8 : nss.length ≤ 8 := by rw [hnss, List.length_map]; exact hp8
        have hus1 : PySem.Flt.Hid (StrsAre us (nss.map Mine.render)) := by
          refine ⟨?_⟩
          have e := hus.out
          rw [List.size_toArray, hysl, List.take_length] at e
          rw [hnss, List.map_map]
          exact e
        rw [← hnss] at hzs1
        have hzl := hzs1.length
        have hul : us.length = nss.length := by have := hus1.out.length; rw [List.length_map] at this; exact this
        have hus8 : us.toArray.size ≤ 8 := by simpa [hul] using hn8
        have hzs8 : zs.toArray.size ≤ 8 := by simpa [hzl] using hn8
        obtain ⟨nt, hnt, htight, hzs⟩ := hzs1.tight
        have N9 : News _ _ h ((D3, LCg.lst us) :: (D2, LCg.lst zs) :: _ :: _ :: _ :: _ :: nt) := fun p hp => N8 p (by
          rw [hrest]
          simp only [List.mem_cons, List.mem_append] at hp ⊢
          rcases hp with h | h | h | h | h | h | h
          · exact .inl h
          · exact .inr (.inl h)
          · exact .inr (.inr (.inr (.inl h)))
          · exact .inr (.inr (.inr (.inr (.inl h))))
          · exact .inr (.inr (.inr (.inr (.inr (.inl h)))))
          · exact .inr (.inr (.inr (.inr (.inr (.inr (.inl h))))))
          · exact .inr (.inr (.inr (.inr (.inr (.inr (.inr (.inr (hnt p h)))))))))
        obtain ⟨⟨ap1, ap2, ap3, ap4, ap5, ap6, ap7, ap8⟩, at1, at2, at3, at4⟩ := Mine.apart6 N9 htight (by assumption) (by assumption) (by assumption) (by assumption)
        clear N8 N7 F7 off off8 hnss hys1 hus hrest hokP hysl hp8 hzs1
        repeat' ((fail_if_success (with_reducible show wpAny _ _ (exec (Stmt.Assign _ (Expr.ListComp _ _ _ _) _) _) _ _ _)); first | (k_unfold; (try dsimp only)) | (k_end; wrow_close) | walk1 | (dsimp only; walk1) | (leave1; walk_say "STEP leave1"; try dsimp only) | fail "no step")
        rename Fr _ _ _ _ => F9
        refine Mine.Assign_ListComp_N F9 rfl (by with_unfolding_all rfl) (by with_unfolding_all rfl) (by decide) rfl (by decide) rfl rfl rfl ?_ (by intro _; rfl)
        repeat' (first | (k_unfold; (try dsimp only)) | walk1 | (dsimp only; walk1))
        rename Fr _ _ _ _ => F10
        rename News _ _ _ _ => N10
        have hue := Mine.strs_evens _ _ hus1.out
        rw [Mine.evens_map] at hue
        have huel := hue.length
        rw [List.length_map] at huel
        have hue8 := Mine.evens_len nss
        have hueh := PySem.Flt.Hid.mk hue
        clear hue
        refine ⟨_, _, _, fun i vs nw3 => nw3 = [] ∧ PySem.Flt.Hid (StrsAre vs ((((Mine.evens nss).take i).filter fun n => n != []).map Mine.render)), rfl, rfl, .inl ⟨_, N10.get List.mem_cons_self, rfl, _, rfl⟩, .inr ⟨_, List.mem_cons_self⟩, by rw [PySem.sizeLine_eq, List.size_toArray]; show (Mine.evens us).length ≤ _; omega, F10, N10, ⟨rfl, ⟨.nil⟩⟩, ?_, ?_⟩
        · rintro s₂ ⟨g2, rfl⟩ i v vs nw3 I oI C oC Dd m₂ h tk E' hv hoC hx F11 N11 off11 ne ⟨rfl, hvs⟩
          rw [List.nil_append] at N11
          dsimp only [Mine.inComp] at N11
          obtain ⟨c, t, hc, rfl⟩ := Mine.strs_get hueh.out (show (Mine.evens us)[i]? = some v by simpa using hv)
          rw [List.getElem?_map] at hc
          obtain ⟨n, hn, rfl⟩ := Option.map_eq_some_iff.mp hc
          have hon := hokN n (Mine.evens_mem _ _ (List.mem_of_getElem? hn))
          have P := Mine.names_ok hon
          have hlen := P.len
          have hroot := P.root
          try clear N10
          try clear F10
          try clear F9
          refine Mine.compN_one ?_
          k_steps
          rename Fr _ _ _ _ => F12
          rename News _ _ _ _ => N12
          cases hne : (Mine.render n != Str.ofString "/") with
          | true =>
            refine Mine.TestN.yes rfl ?_
            k_steps
            rename Fr _ _ _ _ => F13
            rename News _ _ _ _ => N13
            refine Mine.EltN.mk' [] F13 N13 (fun p hp => hp) (fun p hp => nomatch hp) ⟨rfl, ⟨?_⟩⟩
            rw [hroot] at hne
            rw [List.take_add_one, hn, List.filter_append, List.map_append]
            simp only [Option.toList_some, List.filter_cons, hne, if_true, List.filter_nil, List.map_cons, List.map_nil]
            exact Mine.strs_append hvs.out (.cons _ _ .nil)
          | false =>
            refine Mine.TestN.no rfl F12 N12 (fun p hp => hp) ⟨rfl, ⟨?_⟩⟩
            rw [hroot] at hne
            rw [List.take_add_one, hn, List.filter_append, List.map_append]
            simp only [Option.toList_some, List.filter_cons, hne, Bool.false_eq_true, if_false, List.filter_nil, List.map_nil, List.append_nil]
            exact hvs.out
        · rintro s₂ ⟨g2, rfl⟩ Dr rl nw3 h tk N11 off11 ⟨rfl, hrl⟩ F11
          rw [List.nil_append] at N11
          obtain ⟨rs, hrs⟩ : ∃ r, r = (Mine.evens nss).filter fun n => n != [] := ⟨_, rfl⟩
          have hrl1 : PySem.Flt.Hid (StrsAre rl (rs.map Mine.render)) := by
            refine ⟨?_⟩
            have e := hrl.out
            rw [List.size_toArray, huel, List.take_length] at e
            rw [hrs]
            exact e
          have hokR : ∀ n ∈ rs, Mine.OkN n := by
            rw [hrs]
            intro n hn
            exact hokN n (Mine.evens_mem _ _ (List.mem_filter.mp hn).1)
          have hr8 : rs.length ≤ 8 := by
            rw [hrs]
            have := List.length_filter_le (fun n => n != []) (Mine.evens nss)
            omega
          have N12 := Mine.drop2nd N11
          clear N11 hrl off11
          try clear N10
          try clear F10
          try clear F9
          repeat' ((fail_if_success (with_reducible show wpAny _ _ (exec (Stmt.Assign _ (Expr.ListComp _ _ _ _) _) _) _ _ _)); first | (k_unfold; (try dsimp only)) | (k_end; wrow_close) | walk1 | (dsimp only; walk1) | (leave1; walk_say "STEP leave1"; try dsimp only) | fail "no step")
          rename Fr _ _ _ _ => F12
          refine Mine.Assign_ListComp_N F12 rfl (by with_unfolding_all rfl) (by with_unfolding_all rfl) (by decide) rfl (by decide) rfl rfl rfl ?_ (by intro _; rfl)
          repeat' (first | (k_unfold; (try dsimp only)) | walk1 | (dsimp only; walk1))
          rename Fr _ _ _ _ => F13
          rename News _ _ _ _ => N13
          have hze := Mine.RowsIn.evens _ _ hzs
          have hzel := hze.length
          refine ⟨_, _, _, fun i vs nw3 => nw3 = [] ∧ Mine.RowsIn nt vs (((Mine.evens nss).take i).filter fun n => n != []), rfl, rfl, .inl ⟨_, N13.get List.mem_cons_self, rfl, _, rfl⟩, .inr ⟨_, List.mem_cons_self⟩, by rw [PySem.sizeLine_eq, List.size_toArray]; show (Mine.evens zs).length ≤ _; omega, F13, N13, ⟨rfl, .nil⟩, ?_, ?_⟩
          · rintro s₂ ⟨g2, rfl⟩ i v vs nw3 I oI C oC Dd m₂ h tk E' hv hoC hx F14 N14 off14 ne ⟨rfl, hvs⟩
            rw [List.nil_append] at N14
            dsimp only [Mine.inComp] at N14
            obtain ⟨ra, rits, rk, n, hn, rfl, hmr, hrS⟩ := hze.get (show (Mine.evens zs)[i]? = some v by simpa using hv)
            have hon := hokN n (Mine.evens_mem _ _ (List.mem_of_getElem? hn))
            have hrSh := PySem.Flt.Hid.mk hrS
            clear hrS
            try clear N13
            try clear F13
            try clear F12
            refine Mine.compN_one ?_
            repeat' ((fail_if_success (with_reducible show wpAny _ _ (compareOp _ _ _) _ _ _)); first | (k_unfold; (try dsimp only)) | (k_end; wrow_close) | walk1 | (dsimp only; walk1) | (leave1; walk_say "STEP leave1"; try dsimp only) | fail "no step")
            rename Fr _ _ _ _ => F15
            rename News _ _ _ _ => N15
            refine Mine.ne_strs (xs := n) (ys := []) ⟨_, N15.get (o := W.listOf rits rk) ?_, rfl, _, rfl⟩ (News.isList N15 List.mem_cons_self) hrSh.out .nil (fun x hx => (Mine.alphaN_ok (hon.2 x hx)).1) (fun x hx => nomatch hx) (by ktr_units) ?_
            · repeat (first | exact hmr | refine List.mem_cons_of_mem _ ?_)
            k_steps
            cases hne : decide (n = []) with
            | false =>
              refine Mine.TestN.yes rfl ?_
              k_steps
              rename Fr _ _ _ _ => F16
              rename News _ _ _ _ => N16
              refine Mine.EltN.mk' [] F16 N16 (fun p hp => List.mem_cons_of_mem _ hp) (fun p hp => nomatch hp) ⟨rfl, ?_⟩
              have hn2 : (n != []) = true := by simpa using hne
              rw [List.take_add_one, hn, List.filter_append]
              simp only [Option.toList_some, List.filter_cons, hn2, if_true, List.filter_nil]
              exact hvs.snoc hmr hrSh.out
            | true =>
              refine Mine.TestN.no rfl F15 N15 (fun p hp => List.mem_cons_of_mem _ hp) ⟨by trivial, ?_⟩
              have hn2 : (n != []) = false := by simpa using hne
              rw [List.take_add_one, hn, List.filter_append]
              simp only [Option.toList_some, List.filter_cons, hn2, Bool.false_eq_true, if_false, List.filter_nil, List.append_nil]
              exact hvs
          · rintro s₂ ⟨g2, rfl⟩ Dl ll nw3 h tk N14 off14 ⟨rfl, hll⟩ F14
            rw [List.nil_append] at N14
            have hll1 : Mine.RowsIn nt ll rs := by
              have e2 : (List.toArray (Mine.evens zs.toArray.toList)).size = (Mine.evens nss).length := by simpa using hzel
              rw [e2, List.take_length] at hll
              rw [hrs]
              exact hll
            have N15 := Mine.drop2nd N14
            obtain ⟨aq1, aq2, aq3, aq4, aq5, aq6, aq7, aq8⟩ := Mine.apart8 N15 (by assumption) (by assumption) (by assumption) (by assumption)
            clear N14 hll off14
            try clear N13
            try clear F13
            try clear F12
            repeat' ((fail_if_success (with_reducible show wpAny _ _ (exec (Stmt.For _ _ _ _ _) _) _ _ _)); first | (k_unfold; (try dsimp only)) | (k_end; wrow_close) | walk1 | (dsimp only; walk1) | (leave1; walk_say "STEP leave1"; try dsimp only) | fail "no step")
            rename Fr _ _ _ _ => F15
            rename News _ _ _ _ => N15'
            obtain ⟨st, ⟨hst2, hst3, hst4, hst5, hst6, hst7, hst8, hst9, hnt2⟩, N15'', hsj, hsf⟩ := Mine.pack N15' htight (by assumption) (by assumption)
            clear N15'
            refine For_invVF F15 rfl rfl ?_ (by intro _; rfl) (by passes_own)
            repeat' ((fail_if_success (with_reducible show wpAny _ _ (pyIter _) _ _ _)); first | (k_unfold; (try dsimp only)) | (k_end; wrow_close) | walk1 | (dsimp only; walk1) | (leave1; walk_say "STEP leave1"; try dsimp only) | fail "no step")
            rename IsRange _ _ _ _ _ _ _ _ => hR
            rename Fr _ _ _ _ => F16
            rename News _ _ _ _ => N16
            have hrs8 := Mine.range_small us.toArray.size (by omega)
            refine Mine.iter_RS (σ := Obj × Obj) [Str.ofString "told", Str.ofString "back", Str.ofString "first"] (fun st => (_, st.1) :: (_, st.2) :: _) (fun _ st => (∃ v, st.1.data = .cell v) ∧ ∃ v, st.2.data = .cell v) (_, _) rfl hR hrs8.1 hrs8.2 F16 N16 ⟨⟨_, by assumption⟩, ⟨_, by assumption⟩⟩ ?_ ?_
            · rintro i tki ⟨oJ, oF⟩ u I oI h tk hi ⟨⟨vJ, hJ⟩, vF, hF⟩ ho F17 N17
              simp only [List.map, Mine.ovr] at F17
              dsimp only at N17 hJ hF ho
              replace F17 : Fr _ s₁.heap.objs.size _ _ := F17
              replace N17 : News _ s₁.heap.objs.size _ _ := N17
              clear F16 N16 hR
              have hIj : PySem.Flt.Hid (@Ne Nat I (s₁.heap.objs.size + 1 + 1 + 1 + 1)) := ⟨Mine.off_ne ho (oc := oJ) (by k_mem)⟩
              have hIf : PySem.Flt.Hid (@Ne Nat I (s₁.heap.objs.size + 1 + 1 + 1)) := ⟨Mine.off_ne ho (oc := oF) (by k_mem)⟩
              have hi2 : i < nss.length := by simpa [hul] using hi
              obtain ⟨nk, hnk⟩ : ∃ n, nss[i]? = some n := ⟨_, List.getElem?_eq_getElem hi2⟩
              have hokk := hokN nk (List.mem_of_getElem? hnk)
              obtain ⟨tu, hui⟩ := Mine.strs_at hus1.out (show (nss.map Mine.render)[i]? = some (Mine.render nk) by rw [List.getElem?_map, hnk]; rfl)
              replace hui : us.toArray.toList[i]? = some (.str (Mine.render nk) tu) := hui
              repeat' ((fail_if_success (with_reducible show wpAny _ _ (call (Value.ref 231) _) _ _ _)); first | (k_unfold; (try dsimp only)) | (k_end; wrow_close) | walk1 | (dsimp only; walk1) | (leave1; walk_say "STEP leave1"; try dsimp only) | fail "no step")
              rename Fr _ _ _ _ => F18
              rename News _ _ _ _ => N18
              refine Mine.first_spec (by k_inst) (News.isList N18 (by k_mem)) hrl1.out hokR hr8 hokk B0 F18 N18 X0 T0 rfl (by ktr_room) (by ktr_units) ?_
              intro Dt tits tk1 h1 tk1' st1 F19 hSt N19 ot
              have hSth := PySem.Flt.Hid.mk hSt
              clear hSt
              try clear F17
              try clear N17
              try clear F18
              try clear N18
              have hDtj : PySem.Flt.Hid (@Ne Nat Dt (s₁.heap.objs.size + 1 + 1 + 1 + 1)) := ⟨Mine.apartL N19 (oc := oJ) (by k_mem) (by k_mem) hJ⟩
              have hDtf : PySem.Flt.Hid (@Ne Nat Dt (s₁.heap.objs.size + 1 + 1 + 1)) := ⟨Mine.apartL N19 (oc := oF) (by k_mem) (by k_mem) hF⟩
              repeat' ((fail_if_success (with_reducible show wpAny _ _ (call (Value.ref 219) _) _ _ _)); first | (k_unfold; (try dsimp only)) | (k_end; wrow_close) | walk1 | (dsimp only; walk1) | (leave1; walk_say "STEP leave1"; try dsimp only) | fail "no step")
              rename Fr _ _ _ _ => F20
              rename News _ _ _ _ => N20
              refine Mine.fronts_spec hokk B0 F20 N20 X0 T0 rfl (by ktr_room) (by ktr_units) ?_
              intro Df fits fk1 h2 tk2' st2 F21 hSf N21 of
              have hSfh := PySem.Flt.Hid.mk hSf
              clear hSf
              try clear F20
              try clear N20
              try clear F19
              try clear N19
              have hDfj : PySem.Flt.Hid (@Ne Nat Df (s₁.heap.objs.size + 1 + 1 + 1 + 1)) := ⟨Mine.apartL N21 (oc := oJ) (by k_mem) (by k_mem) hJ⟩
              have hDff : PySem.Flt.Hid (@Ne Nat Df (s₁.heap.objs.size + 1 + 1 + 1)) := ⟨Mine.apartL N21 (oc := oF) (by k_mem) (by k_mem) hF⟩
              obtain ⟨na, nits, nkk, nk', hnk', hzi, hmn, hnS⟩ : ∃ a its k r, nss[i]? = some r ∧ zs[i]? = some (.ref a) ∧ (a, W.listOf its k) ∈ nt ∧ StrsAre its.toList r := by
                have hzl2 : i < zs.length := by omega
                obtain ⟨a, its, k, r, h1, h2, h3, h4⟩ := hzs.get (List.getElem?_eq_getElem hzl2)
                exact ⟨a, its, k, r, h1, by rw [List.getElem?_eq_getElem hzl2, h2], h3, h4⟩
              obtain rfl : nk' = nk := Option.some.inj (hnk'.symm.trans hnk)
              have hnSh := PySem.Flt.Hid.mk hnS
              clear hnS hnk'
              replace hzi : zs.toArray.toList[i]? = some (.ref na) := hzi
              repeat' ((fail_if_success (with_reducible show wpAny _ _ (call (Value.ref 236) _) _ _ _)); first | (k_unfold; (try dsimp only)) | (k_end; wrow_close) | walk1 | (dsimp only; walk1) | (leave1; walk_say "STEP leave1"; try dsimp only) | fail "no step")
              rename Fr _ _ _ _ => F22
              rename News _ _ _ _ => N22
              refine Mine.due_spec (News.isList N22 (by k_mem)) (hll1.rows fun p hp => (N22 p ?_).1) hokR hr8 ⟨_, N22.get (o := W.listOf nits nkk) ?_, rfl, _, rfl⟩ hnSh.out hokk B0 F22 N22 X0 T0 rfl (by ktr_room) (by ktr_units) ?_
              · repeat (first | exact hnt2 _ hp | refine List.mem_cons_of_mem _ ?_)
              · repeat (first | exact hnt2 _ hmn | refine List.mem_cons_of_mem _ ?_)
              intro Dd dits dk1 h3 tk3' st3 F23 hSd N23 od
              have hSdh := PySem.Flt.Hid.mk hSd
              clear hSd
              try clear F22
              try clear N22
              try clear F21
              try clear N21
              repeat' ((fail_if_success (with_reducible show wpAny _ _ (compareOp _ _ _) _ _ _)); first | (k_unfold; (try dsimp only)) | (k_end; wrow_close) | walk1 | (dsimp only; walk1) | (leave1; walk_say "STEP leave1"; try dsimp only) | fail "no step")
              rename Fr _ _ _ _ => F24
              rename News _ _ _ _ => N24
              have hsOk : ∀ (g : Str → Bool), ∀ x ∈ ((rs.map Mine.render).filter g).take 1, PyData.strOk x = true := by
                intro g x hx
                obtain ⟨r, hr, rfl⟩ := List.mem_map.mp (List.mem_filter.mp (List.mem_of_mem_take hx)).1
                exact (Mine.names_ok (hokR r hr)).ok
              have hlaw1 := Mine.law_due hokR hokk
              have hlaw2 := Mine.law_fronts hokR hokk
              refine Mine.ne_strs (News.isList N24 (by k_mem)) (News.isList N24 (by k_mem)) hSth.out hSdh.out (hsOk _) (by rw [← hlaw1]; exact hsOk _) (by ktr_units) ?_
              rw [show (!decide ((((rs.map Mine.render).filter fun r => Mine.covF r (Mine.render nk')).take 1) = (((rs.filter fun r => decide (nk'.take r.length = r)).map Mine.render).take 1))) = false by rw [hlaw1]; simp]
              repeat' ((fail_if_success (with_reducible show wpAny _ _ (eval (Expr.ListComp _ _ _ _) _) _ _ _)); first | (k_unfold; (try dsimp only)) | (k_end; wrow_close) | walk1 | (dsimp only; walk1) | (leave1; walk_say "STEP leave1"; try dsimp only) | fail "no step")
              rename Fr _ _ _ _ => F25
              rename News _ _ _ _ => N25
              refine Mine.ListComp_N F25 (by with_unfolding_all rfl) (by decide) rfl (by decide) rfl ?_ (by intro _; rfl)
              repeat' (first | (k_unfold; (try dsimp only)) | walk1 | (dsimp only; walk1))
              have hrll : rl.length = rs.length := by have := hrl1.out.length; rw [List.length_map] at this; exact this
              refine ⟨Dr, rl.toArray, _, fun i vs nw3 => nw3 = [] ∧ PySem.Flt.Hid (StrsAre vs (((rs.map Mine.render).take i).filter fun r => (Mine.frontsF nk').contains r)), rfl, rfl, .inl (News.isList N25 (by k_mem)), .inr ⟨LCg.lst rl, by k_mem⟩, by rw [PySem.sizeLine_eq, List.size_toArray]; omega, F25, N25, ⟨rfl, ⟨.nil⟩⟩, ?_, ?_⟩
              · rintro s₂ ⟨g2, rfl⟩ i2 v vs nw3 I2 oI2 C oC Dd2 m₂ h tk E' hv hoC hx F26 N26 off26 ne ⟨rfl, hvs⟩
                rw [List.nil_append] at N26
                dsimp only [Mine.inComp] at N26
                obtain ⟨c, t, hc, rfl⟩ := Mine.strs_get hrl1.out (show rl[i2]? = some v by simpa using hv)
                have hc' := List.mem_of_getElem? hc
                obtain ⟨r, hr, rfl⟩ := List.mem_map.mp hc'
                try clear N25
                try clear F25
                try clear N24
                try clear F24
                try clear N23
                try clear F23
                refine Mine.compN_one ?_
                repeat' ((fail_if_success (with_reducible show wpAny _ _ (compareOp _ _ _) _ _ _)); first | (k_unfold; (try dsimp only)) | (k_end; wrow_close) | walk1 | (dsimp only; walk1) | (leave1; walk_say "STEP leave1"; try dsimp only) | fail "no step")
                rename Fr _ _ _ _ => F27
                rename News _ _ _ _ => N27
                refine Mine.in_strs (News.isList N27 (by k_mem)) hSfh.out ?_ (Mine.names_ok (hokR r hr)).ok (by ktr_units) ?_
                · intro x hx
                  obtain ⟨f, hf, rfl⟩ := List.mem_map.mp hx
                  rw [Mine.fronts_down] at hf
                  obtain ⟨i, _, rfl⟩ := (Mine.mem_frDown _ _ f).mp hf
                  exact (Mine.names_ok (Mine.okN_take hokk i)).ok
                k_steps
                have hstep : ((rs.map Mine.render).take (i2 + 1)).filter (fun r => (Mine.frontsF nk').contains r) = ((rs.map Mine.render).take i2).filter (fun r => (Mine.frontsF nk').contains r) ++ (if (Mine.frontsF nk').contains (Mine.render r) = true then [Mine.render r] else []) := by
                  rw [List.take_add_one, hc, List.filter_append]
                  simp only [Option.toList_some, List.filter_cons, List.filter_nil]
                cases hcov : (Mine.frontsF nk').contains (Mine.render r) with
                | true =>
                  refine Mine.TestN.yes rfl ?_
                  k_steps
                  rename Fr _ _ _ _ => F28
                  rename News _ _ _ _ => N28
                  refine Mine.EltN.mk' [] F28 N28 (fun p hp => hp) (fun p hp => nomatch hp) ⟨rfl, ⟨?_⟩⟩
                  rw [hstep, if_pos hcov]
                  exact Mine.strs_append hvs.out (.cons _ _ .nil)
                | false =>
                  refine Mine.TestN.no rfl F27 N27 (fun p hp => hp) ⟨by trivial, ⟨?_⟩⟩
                  rw [hstep, hcov, if_neg (by decide), List.append_nil]
                  exact hvs.out
              · rintro s₂ ⟨g2, rfl⟩ Ds sl nw3 h tk N26 off26 ⟨rfl, hsl⟩ F26
                rw [List.nil_append] at N26
                have hsl1 : StrsAre sl ((rs.map Mine.render).filter fun r => (Mine.frontsF nk').contains r) := by
                  have e := hsl.out
                  rw [List.size_toArray, hrll, ← List.length_map (f := Mine.render) (as := rs), List.take_length] at e
                  exact e
                have hsl8 : sl.toArray.size ≤ 8 := by
                  have h1 := hsl1.length
                  have h2 := List.length_filter_le (fun r => (Mine.frontsF nk').contains r) (rs.map Mine.render)
                  rw [List.length_map] at h2
                  rw [List.size_toArray]
                  omega
                have hpk : StrsAre (slicePick sl.toArray none (some 1) none).toList ((((rs.map Mine.render).filter fun r => (Mine.frontsF nk').contains r)).take 1) := by
                  have e := Mine.pick_upto sl.toArray 1
                  rw [show ((1 : Nat) : Int) = 1 from rfl] at e
                  rw [e]
                  exact Mine.strs_take hsl1 1
                have hpkh := PySem.Flt.Hid.mk hpk
                clear hpk hsl1 hsl
                try clear N25
                try clear F25
                try clear N24
                try clear F24
                try clear N23
                try clear F23
                repeat' ((fail_if_success (with_reducible show wpAny _ _ (compareOp _ _ _) _ _ _)); first | (k_unfold; (try dsimp only)) | (k_end; wrow_close) | walk1 | (dsimp only; walk1) | (leave1; walk_say "STEP leave1"; try dsimp only) | fail "no step")
                rename Fr _ _ _ _ => F27
                rename News _ _ _ _ => N27
                refine Mine.ne_strs (News.isList N27 (by k_mem)) (News.isList N27 (by k_mem)) hSth.out hpkh.out (hsOk _) (hsOk _) (by ktr_units) ?_
                rw [show (!decide ((((rs.map Mine.render).filter fun r => Mine.covF r (Mine.render nk')).take 1) = (((rs.map Mine.render).filter fun r => (Mine.frontsF nk').contains r).take 1))) = false by rw [hlaw2]; simp]
                repeat' ((fail_if_success (with_reducible show wpAny _ _ (exec (Stmt.For _ _ _ _ _) _) _ _ _)); first | (k_unfold; (try dsimp only)) | (k_end; wrow_close) | walk1 | (dsimp only; walk1) | (leave1; walk_say "STEP leave1"; try dsimp only) | fail "no step")
                rename Fr _ _ _ _ => F28
                rename News _ _ _ _ => N28
                rename _ = Data.cell (some (Value.ref Df)) => hFd
                refine For_invVF F28 rfl rfl ?_ (by intro _; rfl) (by passes_own)
                repeat' ((fail_if_success (with_reducible show wpAny _ _ (pyIter _) _ _ _)); first | (k_unfold; (try dsimp only)) | (k_end; wrow_close) | walk1 | (dsimp only; walk1) | (leave1; walk_say "STEP leave1"; try dsimp only) | fail "no step")
                rename IsRange _ _ _ _ _ _ _ _ => hR2
                rename Fr _ _ _ _ => F29
                rename News _ _ _ _ => N29
                have N30 := Mine.keepDf N29
                have hrs9 := Mine.range_small (i + 1) (by omega)
                rw [show (((i + 1 : Nat)) : Int) = (i : Int) + 1 from rfl] at hrs9
                refine Mine.iter_RS (σ := Addr × Array Value × Nat × List Str × Obj × Obj) (n := i + 1) [Str.ofString "first"] (fun st => (st.1, W.listOf st.2.1 st.2.2.1) :: _ :: (_, st.2.2.2.2.1) :: (_, st.2.2.2.2.2) :: _)
                  (fun b st => PySem.Flt.Hid (StrsAre st.2.1.toList st.2.2.2.1) ∧ st.2.2.2.1 = (Mine.frontsAll nk' (Mine.seg nss (i + 1 - b) i)).map Mine.render ∧ (∃ v, st.2.2.2.2.1.data = .cell v) ∧ st.2.2.2.2.2.data = .cell (some (.ref st.1)))
                  (_, _, _, Mine.frontsF nk', _, _) rfl hR2 hrs9.1 hrs9.2 F29 N30 ⟨hSfh, by rw [Nat.sub_zero, Mine.seg_nil, Mine.frontsAll_nil], ⟨_, hJ⟩, hFd⟩ ?_ ?_
                · rintro b tb ⟨Dg, gits, gk, xs, oJ2, oF2⟩ u2 I2 oI2 h tk hb ⟨hSx, hxs, ⟨vJ2, hJ2⟩, hF2⟩ ho2 F31 N31
                  simp only [List.map, Mine.ovr] at F31
                  dsimp only at N31 hJ2 hF2 ho2 hSx hxs
                  replace F31 : Fr _ s₁.heap.objs.size _ _ := F31
                  replace N31 : News _ s₁.heap.objs.size _ _ := N31
                  clear N29 N30 hR2
                  try clear F29
                  try clear F28
                  try clear N28
                  try clear N27
                  try clear F27
                  try clear N26
                  try clear F26
                  have hI2j : PySem.Flt.Hid (@Ne Nat I2 (s₁.heap.objs.size + 1 + 1 + 1 + 1)) := ⟨Mine.off_ne ho2 (oc := oJ2) (by k_mem)⟩
                  have hI2f : PySem.Flt.Hid (@Ne Nat I2 (s₁.heap.objs.size + 1 + 1 + 1)) := ⟨Mine.off_ne ho2 (oc := oF2) (by k_mem)⟩
                  have hDgj : PySem.Flt.Hid (@Ne Nat Dg (s₁.heap.objs.size + 1 + 1 + 1 + 1)) := ⟨Mine.apartL N31 (its := gits) (k := gk) (oc := oJ2) (by k_mem) (by k_mem) hJ2⟩
                  have hDgf : PySem.Flt.Hid (@Ne Nat Dg (s₁.heap.objs.size + 1 + 1 + 1)) := ⟨Mine.apartL N31 (its := gits) (k := gk) (oc := oF2) (by k_mem) (by k_mem) hF2⟩
                  repeat' ((fail_if_success (with_reducible show wpAny _ _ (eval (Expr.ListComp _ _ _ _) _) _ _ _)); first | (k_unfold; (try dsimp only)) | (k_end; wrow_close) | walk1 | (dsimp only; walk1) | (leave1; walk_say "STEP leave1"; try dsimp only) | fail "no step")
                  rename Fr _ _ _ _ => F32
                  rename News _ _ _ _ => N32
                  rename _ = Data.cell (some (Value.int _ _)) => hJ3
                  rename_i oJ3
                  replace hJ3 : oJ3.data = _ := hJ3
                  obtain ⟨j, hj⟩ : ∃ j, j = i - b := ⟨_, rfl⟩
                  have hji : (i : Int) - (b : Int) = (j : Int) := by rw [hj]; omega
                  rw [hji] at hJ3
                  have hj2 : j < nss.length := by rw [hj]; omega
                  obtain ⟨nj, hnj⟩ : ∃ n, nss[j]? = some n := ⟨_, List.getElem?_eq_getElem hj2⟩
                  have hokj := hokN nj (List.mem_of_getElem? hnj)
                  obtain ⟨tj, huj⟩ := Mine.strs_at hus1.out (show (nss.map Mine.render)[j]? = some (Mine.render nj) by rw [List.getElem?_map, hnj]; rfl)
                  replace huj : us.toArray.toList[j]? = some (.str (Mine.render nj) tj) := huj
                  have hfok := Mine.frontsAll_ok hokk (Mine.seg nss (i + 1 - b) i)
                  have hxl : gits.size = xs.length := by have := hSx.out.length; simpa using this
                  have hxl2 : xs.length ≤ 5 := by
                    rw [hxs, List.length_map]
                    have h1 := List.length_filter_le (fun f => (Mine.seg nss (i + 1 - b) i).all fun n => decide (n.take f.length = f)) (Mine.frontNs nk' nk'.length)
                    rw [Mine.frontNs_len] at h1
                    have h2 := hokk.1
                    exact Nat.le_trans h1 (by omega)
                  clear hui hSth hSdh hnSh hpkh hlaw1 hlaw2 hzi
                  refine wpAny_with_toks (n := 1) (by dsimp only; omega) ?_
                  refine Mine.ListComp_N F32 (by with_unfolding_all rfl) (by decide) rfl (by decide) rfl ?_ (by intro _; rfl)
                  repeat' (first | (k_unfold; (try dsimp only)) | walk1 | (dsimp only; walk1))
                  refine ⟨Dg, gits, _, fun i vs nw3 => nw3 = [] ∧ PySem.Flt.Hid (StrsAre vs ((xs.take i).filter fun f => Mine.covF f (Mine.render nj))), rfl, rfl, .inl (News.isList N32 (by k_mem)), .inr ⟨W.listOf gits gk, by k_mem⟩, by rw [PySem.sizeLine_eq]; omega, F32, N32, ⟨rfl, ⟨.nil⟩⟩, ?_, ?_⟩
                  · rintro s₂ ⟨g2, rfl⟩ i2 v vs nw3 I3 oI3 C oC Dd2 m₂ h tk E' hv hoC hx F33 N33 off33 ne ⟨rfl, hvs⟩
                    rw [List.nil_append] at N33
                    dsimp only [Mine.inComp] at N33
                    obtain ⟨c, t, hc, rfl⟩ := Mine.strs_get hSx.out (show gits.toList[i2]? = some v by simpa using hv)
                    have hc' := List.mem_of_getElem? hc
                    rw [hxs] at hc'
                    obtain ⟨f, hf, rfl⟩ := List.mem_map.mp hc'
                    try clear N32
                    try clear F32
                    try clear N31
                    try clear F31
                    refine Mine.compN_one ?_
                    repeat' ((fail_if_success (with_reducible show wpAny _ _ (call (Value.ref 226) _) _ _ _)); first | (k_unfold; (try dsimp only)) | (k_end; wrow_close) | walk1 | (dsimp only; walk1) | (leave1; walk_say "STEP leave1"; try dsimp only) | fail "no step")
                    rename Fr _ _ _ _ => F34
                    rename News _ _ _ _ => N34
                    have P1 := Mine.names_ok (hfok f hf)
                    have P2 := Mine.names_ok hokj
                    refine Mine.covers_spec (by have := P1.len; omega) (by have := P2.len; omega) P1.ok P2.ok (by k_inst) B0 F34 N34 X0 T0 rfl (by ktr_room) (by ktr_units) ?_
                    intro h4 tk4 st4 F35 N35
                    try clear F34
                    try clear N34
                    try clear F33
                    try clear N33
                    k_steps
                    have hstep : (xs.take (i2 + 1)).filter (fun f => Mine.covF f (Mine.render nj)) = (xs.take i2).filter (fun f => Mine.covF f (Mine.render nj)) ++ (if Mine.covF (Mine.render f) (Mine.render nj) = true then [Mine.render f] else []) := by
                      rw [List.take_add_one, hc, List.filter_append]
                      simp only [Option.toList_some, List.filter_cons, List.filter_nil]
                    rename Fr _ _ _ _ => F36
                    rename News _ _ _ _ => N36
                    cases hcov : Mine.covF (Mine.render f) (Mine.render nj) with
                    | true =>
                      refine Mine.TestN.yes rfl ?_
                      k_steps
                      rename Fr _ _ _ _ => F37
                      rename News _ _ _ _ => N37
                      refine Mine.EltN.mk' [] F37 N37 (fun p hp => hp) (fun p hp => nomatch hp) ⟨rfl, ⟨?_⟩⟩
                      rw [hstep, if_pos hcov]
                      exact Mine.strs_append hvs.out (.cons _ _ .nil)
                    | false =>
                      refine Mine.TestN.no rfl F36 N36 (fun p hp => hp) ⟨by trivial, ⟨?_⟩⟩
                      rw [hstep, hcov, if_neg (by decide), List.append_nil]
                      exact hvs.out
                  · rintro s₂ ⟨g2, rfl⟩ Dn vn nw3 h tk N33 off33 ⟨rfl, hvn⟩ F33
                    intro htk
                    replace htk : 1 ≤ tk := htk
                    rw [List.nil_append] at N33
                    have hsegc := Mine.seg_cons hnj (show j ≤ i by omega)
                    have hjb : i + 1 - b = j + 1 := by omega
                    have hvn1 : PySem.Flt.Hid (StrsAre vn ((Mine.frontsAll nk' (Mine.seg nss j i)).map Mine.render)) := by
                      refine ⟨?_⟩
                      have e := hvn.out
                      rw [hxl, List.take_length, hxs, hjb, Mine.frontsAll_cons hokk hokj, ← hsegc] at e
                      exact e
                    have hDnj : PySem.Flt.Hid (@Ne Nat Dn (s₁.heap.objs.size + 1 + 1 + 1 + 1)) := ⟨Mine.apart1 N33 (us := vn) (by k_mem) (by k_mem) hJ3⟩
                    have hDnf : PySem.Flt.Hid (@Ne Nat Dn (s₁.heap.objs.size + 1 + 1 + 1)) := ⟨Mine.apart1 N33 (us := vn) (oc := oF2) (by k_mem) (by k_mem) hF2⟩
                    clear hvn hfok
                    try clear N32
                    try clear F32
                    try clear N31
                    try clear F31
                    repeat' ((fail_if_success (with_reducible show wpAny _ _ (exec (Stmt.For _ _ _ _ _) _) _ _ _)); first | (k_unfold; (try dsimp only)) | (k_end; wrow_close) | walk1 | (dsimp only; walk1) | (leave1; walk_say "STEP leave1"; try dsimp only) | fail "no step")
                    rename Fr _ _ _ _ => F34
                    rename News _ _ _ _ => N34
                    rename _ = Data.cell (some (Value.ref Dn)) => hFn
                    rename_i oF3
                    replace hFn : oF3.data = _ := hFn
                    refine For_invVF F34 rfl rfl ?_ (by intro _; rfl) (by passes_own)
                    repeat' ((fail_if_success (with_reducible show wpAny _ _ (pyIter _) _ _ _)); first | (k_unfold; (try dsimp only)) | (k_end; wrow_close) | walk1 | (dsimp only; walk1) | (leave1; walk_say "STEP leave1"; try dsimp only) | fail "no step")
                    have Pj := Mine.names_ok hokj
                    have hlj := Pj.len
                    refine PySem.SC.replace (by show @Ne Nat _ _; omega) (by show @Ne Nat _ _; simp) (by show @Ne Nat _ _; simp) (by decide +kernel) (by rw [show (Str.ofString "/./").length = 3 by decide +kernel]; omega) ?_
                    intro t2 k2
                    rw [show Txt.replace (Mine.render nj) (Str.ofString "/") (Str.ofString "/./") = Mine.dots (Mine.render nj) from rfl]
                    repeat' ((fail_if_success (with_reducible show wpAny _ _ (pyIter _) _ _ _)); first | (k_unfold; (try dsimp only)) | (k_end; wrow_close) | walk1 | (dsimp only; walk1) | (leave1; walk_say "STEP leave1"; try dsimp only) | fail "no step")
                    rename Fr _ _ _ _ => F35
                    rename News _ _ _ _ => N35
                    have hnk2 : nk' ∈ Mine.seg nss j i := Mine.seg_last hnk (by omega)
                    have hsegok : ∀ n ∈ Mine.seg nss j i, Mine.OkN n := fun n hn => hokN n (Mine.seg_mem hn)
                    have hsegok1 : ∀ n ∈ Mine.seg nss (j + 1) i, Mine.OkN n := fun n hn => hokN n (Mine.seg_mem hn)
                    have hsl := slicePick_size_le us.toArray (some ((j : Int) + 1)) (some ((i : Int) + 1)) none
                    have hslS : PySem.Flt.Hid (StrsAre (slicePick us.toArray (some ((j : Int) + 1)) (some ((i : Int) + 1)) none).toList ((Mine.seg nss (j + 1) i).map Mine.render)) := by
                      refine ⟨?_⟩
                      have e := Mine.pick_run2 us.toArray (j + 1) (i + 1)
                      rw [show (((j + 1 : Nat)) : Int) = (j : Int) + 1 from rfl, show (((i + 1 : Nat)) : Int) = (i : Int) + 1 from rfl] at e
                      rw [e]
                      have e2 := Mine.strs_take (Mine.strs_drop hus1.out (j + 1)) (i + 1 - (j + 1))
                      rw [← List.map_drop, ← List.map_take] at e2
                      exact e2
                    refine Mine.iter_keep rfl List.mem_cons_self F35 N35 ?_ ?_
                    · intro i3 v I3 oI3 h tk3 hv3 ho3 F36 N36
                      replace F36 : Fr _ s₁.heap.objs.size _ _ := F36
                      replace N36 : News _ s₁.heap.objs.size _ _ := N36
                      obtain ⟨c, tc, rfl, hPc⟩ : ∃ c t, v = .str c t ∧ Mine.PathStr c nj := by
                        rcases i3 with _ | _ | i3
                        · exact ⟨_, _, (Option.some.inj hv3).symm, Mine.path_plain hokj⟩
                        · exact ⟨_, _, (Option.some.inj hv3).symm, Mine.path_dots hokj⟩
                        · simp at hv3
                      clear hv3
                      try clear N35
                      try clear F35
                      try clear N34
                      try clear F34
                      try clear N33
                      try clear F33
                      repeat' ((fail_if_success (with_reducible show wpAny _ _ (binaryOp .Add (Value.ref _) _) _ _ _)); first | (k_unfold; (try dsimp only)) | (k_end; wrow_close) | walk1 | (dsimp only; walk1) | (leave1; walk_say "STEP leave1"; try dsimp only) | fail "no step")
                      rename Fr _ _ _ _ => F37
                      rename News _ _ _ _ => N37
                      refine Mine.add_K F37 N37 (News.isList N37 (by k_mem)) (News.isList N37 (by k_mem)) ?_ (by rw [PySem.sizeLine_eq]; simp only [List.size_toArray, List.length_cons, List.length_nil]; omega)
                      intro Dc h5 F38 N38 l38
                      k_lt l38
                      try clear F37
                      try clear N37
                      try clear F36
                      try clear N36
                      repeat' ((fail_if_success (with_reducible show wpAny _ _ (call (Value.ref 141) _) _ _ _)); first | (k_unfold; (try dsimp only)) | (k_end; wrow_close) | walk1 | (dsimp only; walk1) | (leave1; walk_say "STEP leave1"; try dsimp only) | fail "no step")
                      rename Fr _ _ _ _ => F39
                      rename News _ _ _ _ => N39
                      have hsgl : (Mine.seg nss j i).length ≤ 8 := by
                        have : (Mine.seg nss j i).length ≤ nss.length := by simp [Mine.seg]; omega
                        omega
                      have hPs : Mine.PathsAre (c :: (Mine.seg nss (j + 1) i).map Mine.render) (Mine.seg nss j i) := by
                        rw [hsegc]
                        exact .cons hPc (Mine.paths_render hsegok1)
                      have hPsl := hPs.len
                      refine Mine.common_spec (News.isList N39 (by k_mem)) (xs := c :: (Mine.seg nss (j + 1) i).map Mine.render) (Mine.strs_append (StrsAre.cons c tc .nil) hslS.out) hPs (by simp) (by omega) B0 F39 N39 X0 T0 rfl (by ktr_room) (by ktr_units) ?_
                      intro cc tcc h6 tk6 hcom st6 F40 N40
                      have hokc := Mine.com_ok hnk2 hokk hcom
                      try clear F39
                      try clear N39
                      try clear F38
                      try clear N38
                      repeat' ((fail_if_success (with_reducible show wpAny _ _ (call (Value.ref 219) _) _ _ _)); first | (k_unfold; (try dsimp only)) | (k_end; wrow_close) | walk1 | (dsimp only; walk1) | (leave1; walk_say "STEP leave1"; try dsimp only) | fail "no step")
                      rename Fr _ _ _ _ => F41
                      rename News _ _ _ _ => N41
                      refine Mine.fronts_spec hokc B0 F41 N41 X0 T0 rfl (by ktr_room) (by ktr_units) ?_
                      intro De eits ek1 h7 tk7 st7 F42 hSe N42 oe
                      have hSeh := PySem.Flt.Hid.mk hSe
                      clear hSe
                      try clear F41
                      try clear N41
                      try clear F40
                      try clear N40
                      repeat' ((fail_if_success (with_reducible show wpAny _ _ (compareOp _ _ _) _ _ _)); first | (k_unfold; (try dsimp only)) | (k_end; wrow_close) | walk1 | (dsimp only; walk1) | (leave1; walk_say "STEP leave1"; try dsimp only) | fail "no step")
                      rename Fr _ _ _ _ => F43
                      rename News _ _ _ _ => N43
                      have hlaw3 := Mine.law_common hnk2 hcom
                      have hfOk : ∀ n, Mine.OkN n → ∀ x ∈ Mine.frontsF n, PyData.strOk x = true := by
                        intro n hn x hx
                        obtain ⟨f, hf, rfl⟩ := List.mem_map.mp hx
                        rw [Mine.fronts_down] at hf
                        obtain ⟨i, _, rfl⟩ := (Mine.mem_frDown _ _ f).mp hf
                        exact (Mine.names_ok (Mine.okN_take hn i)).ok
                      refine Mine.ne_strs (News.isList N43 (by k_mem)) (News.isList N43 (by k_mem)) hSeh.out hvn1.out (hfOk cc hokc) (by rw [hlaw3]; exact hfOk cc hokc) (by ktr_units) ?_
                      rw [show (!decide (Mine.frontsF cc = (Mine.frontsAll nk' (Mine.seg nss j i)).map Mine.render)) = false by rw [hlaw3]; simp]
                      k_steps
                      rename Fr _ _ _ _ => F44
                      rename News _ _ _ _ => N44
                      refine Mine.KeepEnd.mk' F44 ?_ N44 ?_
                      · intro y hy
                        simp only [if_neg hy]
                      · intro p hp
                        repeat (first | exact hp | refine List.mem_cons_of_mem _ ?_)
                    · intro u3 h tk3 F36 N36
                      replace F36 : Fr _ s₁.heap.objs.size _ _ := F36
                      replace N36 : News _ s₁.heap.objs.size _ _ := N36
                      try clear N35
                      try clear F35
                      try clear N34
                      try clear F34
                      try clear N33
                      try clear F33
                      k_steps
                      rename Fr _ _ _ _ => F37
                      rename News _ _ _ _ => N37
                      refine Mine.RsEnd.mk' (Dn, vn.toArray, vn.length, (Mine.frontsAll nk' (Mine.seg nss j i)).map Mine.render, oJ3, oF3) F37 ?hm N37 ?hs ?ho ?hp
                      case hp =>
                        refine ⟨hvn1, ?_, ⟨_, hJ3⟩, hFn⟩
                        show _ = (Mine.frontsAll nk' (Mine.seg nss (i + 1 - (b + 1)) i)).map Mine.render
                        rw [show i + 1 - (b + 1) = j by omega]
                      case hm =>
                        intro y hy
                        simp only [List.mem_cons, List.not_mem_nil, or_false, not_or] at hy
                        simp only [if_neg hy.1, if_neg hy.2]
                      case ho => exact ⟨fun e => Mine.off1_mem off33 (I2, oI2) (by k_mem) e.symm, ho2.2⟩
                      case hs =>
                        intro p hp
                        rcases List.mem_cons.mp hp with rfl | hp
                        · k_mem
                        · rcases List.mem_cons.mp hp with rfl | hp
                          · exact List.mem_cons_of_mem _ List.mem_cons_self
                          · repeat (first | exact hp | refine List.mem_cons_of_mem _ ?_)
                · rintro ⟨Dg, gits, gk, xs, oJ2, oF2⟩ u2 h tk ⟨hSx, hxs, ⟨vJ2, hJ2⟩, hF2⟩ F31 N31
                  simp only [List.map, Mine.ovr] at F31
                  dsimp only at N31 hJ2 hF2
                  replace F31 : Fr _ s₁.heap.objs.size _ _ := F31
                  replace N31 : News _ s₁.heap.objs.size _ _ := N31
                  clear N29 N30 hR2
                  try clear F29
                  try clear F28
                  try clear N28
                  try clear N27
                  try clear F27
                  try clear N26
                  try clear F26
                  k_steps
                  rename Fr _ _ _ _ => F32
                  rename News _ _ _ _ => N32
                  refine Mine.RsEnd.mk' (oJ2, oF2) F32 ?_ N32 ?_ ho ⟨⟨_, hJ2⟩, _, hF2⟩
                  · intro y hy
                    simp only [List.mem_cons, List.not_mem_nil, or_false, not_or] at hy
                    simp only [if_neg hy.1, if_neg hy.2.1, if_neg hy.2.2.1, if_neg hy.2.2.2]
                  · intro p hp
                    exact List.mem_cons_of_mem _ hp
            · rintro ⟨oJ, oF⟩ u h tk ⟨⟨vJ, hJ⟩, vF, hF⟩ F17 N17
              simp only [List.map, Mine.ovr] at F17
              dsimp only at N17 hJ hF
              replace F17 : Fr _ s₁.heap.objs.size _ _ := F17
              replace N17 : News _ s₁.heap.objs.size _ _ := N17
              clear F16 N16 hR
              k_steps
