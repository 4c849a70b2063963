import PyProof.Rows.All
import Wide.All
import OpenK.AllK
import Wide.FinOn
import PySem.Challenge.RW_zn0006_01
open PySem PySem.W PyProof.Rows PySem.Calls
set_option Elab.async false
namespace Mine
section PartTopA
set_option maxRecDepth 100000

noncomputable def vw : Program := view PySem.Challenge.rw_zn0006_01.row.toRowW.prog [1, 2, 6, 8, 9, 10, 11, 12, 13, 14, 15, 16, 17, 18]
section
local macro_rules | `(tactic| o_head $H) => `(tactic| (refine holds_open (q := Mine.vw) (loose := [Str.ofString "_safe_string"]) (Xt := fun s => xlAt Mine.vw [] s && recOk (RowW.records PySem.Challenge.rw_zn0006_01.row.toRowW) s) (XP := XL Mine.vw []) (Yf := Hook.obs $H) (Ya := Hook.val $H) (YP := Hook.says $H) (N := 1972) ?hl (Hook.of $H) (Hook.keeps $H) (fun s e => xl_of s (Bool.and_eq_true_iff.mp e).1) XL.keeps (by rfl) (by rfl) (by rfl) (fun s e => recFacts_of (Bool.and_eq_true_iff.mp e).2) rfl (by first | assumption | decide +kernel) (by decide +kernel) ⟨rfl, rfl, rfl, rfl, rfl, by decide +kernel⟩ ?hw ?hc; (case hl => (intro w; kernel_rfl!))))
set_option maxRecDepth 100000 in
set_option maxHeartbeats 8000000 in
open_top hd for PySem.Challenge.rw_zn0006_01
end
end PartTopA
section PartBase1
set_option maxRecDepth 100000
theorem off_Base1 : True := by
  w_top off
  trivial

abbrev LP : Program := PySem.Challenge.rw_zn0006_01.row.prog
abbrev kTop (dp un : Nat) (gd : Option (List Code)) (env : Env) (outer : List Env) : Around := { handled := none, depth := dp, frames := some (env :: outer), guards := gd, units := un }
/-- what a call of f on vs does, from any frame of a def's; the ledger grows, nothing of it turns -/
noncomputable def Con (w : World) (f : Addr) (vs : List Value) (news : List (Addr × Obj)) (n : Nat) (Out : List (Addr × Obj) → Value → Prop) : Prop :=
  ∀ (p : Program) (loose : List Str) (mean : ExcName → Option Value) (mg mb : Str → Option Value) (dp un : Nat) (gd : Option (List Code)) (env : Env) (outer : List Env) (A₀ : Around) (base h₀ : Heap) (L : Addr) (m : Str → Option Value) (s : Shared)
    (Q E : Value → Shared → Prop),
    Below A₀ base outer h₀ → Fr h₀ L s.heap m → (Mine.hd.heap_39 w.params).In h₀ → News h₀ L s.heap news → Top p loose mean mg mb h₀ → env.frame = some L → env.scope.kind = .function → dp + n < recursionLimit → un + 8 * n < cLine →
    (∀ r all h' tk', Fr h₀ L h' m → News h₀ L h' all → (∀ p ∈ news, p ∈ all) → Out all r → Q r { s with heap := h', toks := tk' }) →
    wpAny (model LP w) (kTop dp un gd env outer) (call (.ref f) vs) Q E s
theorem con_use {w : World} {f : Addr} {vs : List Value} {news : List (Addr × Obj)} {n : Nat} {Out : List (Addr × Obj) → Value → Prop}
    {p : Program} {loose : List Str} {mean : ExcName → Option Value} {mg mb : Str → Option Value} {dp un : Nat} {gd : Option (List Code)} {env : Env} {outer : List Env} {A₀ : Around} {base h₀ : Heap} {L : Addr} {m : Str → Option Value} {s : Shared} {Q E : Value → Shared → Prop}
    (B : Below A₀ base outer h₀) (F : Fr h₀ L s.heap m) (X : (Mine.hd.heap_39 w.params).In h₀) (N : News h₀ L s.heap news) (T : Top p loose mean mg mb h₀) (C : Con w f vs news n Out) (hf : env.frame = some L) (hk : env.scope.kind = .function) (hd : dp + n < recursionLimit) (hu : un + 8 * n < cLine)
    (ret : ∀ r all h' tk', Fr h₀ L h' m → News h₀ L h' all → (∀ p ∈ news, p ∈ all) → Out all r → Q r { s with heap := h', toks := tk' }) :
    wpAny (model LP w) (kTop dp un gd env outer) (call (.ref f) vs) Q E s := C _ _ _ _ _ _ _ _ _ _ _ _ _ _ _ _ _ _ B F X N T hf hk hd hu ret
theorem fillK (w : World) : (PySem.Challenge.rw_zn0006_01.row.prog, Mine.hd.heap_39 w.params) = (PySem.Challenge.rw_zn0006_01.row.prog, Mine.hd.heap_39 w.params) := by
  k_fill
  rfl

inductive Tree where
  | leaf (k : Nat)
  | fork (l r : Tree)
  deriving DecidableEq
abbrev tupO (v1 v2 : Value) (n : Nat) : Obj := { cls := .type "tuple", data := .seq #[v1, v2] n }
inductive TreeIn (sg : Nat → Nat) (news : List (Addr × Obj)) : Value → Tree → Prop where
  | leaf {k : Nat} {tk : Tok} : TreeIn sg news (.str ⟨#[sg k]⟩ tk) (.leaf k)
  | fork {a : Addr} {v1 v2 : Value} {l r : Tree} {n : Nat} : (a, ({ cls := .type "tuple", data := .seq #[v1, v2] n } : Obj)) ∈ news → TreeIn sg news v1 l → TreeIn sg news v2 r → TreeIn sg news (.ref a) (.fork l r)
theorem TreeIn.mono {sg : Nat → Nat} {news news' : List (Addr × Obj)} {v : Value} {t : Tree} (h : TreeIn sg news v t) (hs : ∀ p ∈ news, p ∈ news') : TreeIn sg news' v t := by
  induction h with
  | leaf => exact .leaf
  | fork hm _ _ i j => exact .fork (hs _ hm) i j
noncomputable def Tree.sz : Tree → Nat
  | .leaf _ => 1
  | .fork l r => l.sz + r.sz + 1
theorem Tree.sz_pos : ∀ t : Tree, 0 < t.sz
  | .leaf _ => Nat.one_pos
  | .fork _ _ => Nat.succ_pos _
noncomputable def named (sg : Nat → Nat) : Tree → Str
  | .leaf k => ⟨#[sg k]⟩
  | .fork l r => Str.ofString "{" ++ named sg l ++ Str.ofString "}" ++ named sg r
end PartBase1
section PartBaseS
set_option maxRecDepth 100000
theorem off_BaseS : True := by
  w_top off
  trivial

/-- an object of the ledger taken to its head, the rest elsewhere -/
theorem pull {h₀ h : Heap} {L d : Addr} {o : Obj} {all : List (Addr × Obj)} (N : News h₀ L h all) (hm : (d, o) ∈ all) :
    ∃ rest, News h₀ L h ((d, o) :: rest) ∧ (∀ p ∈ rest, p.1 ≠ d) ∧ (∀ p ∈ rest, p ∈ all) ∧ ∀ p ∈ all, p.1 ≠ d → p ∈ rest := by
  refine ⟨all.filter fun p => decide (p.1 ≠ d), fun p hp => ?_, fun p hp => of_decide_eq_true (List.mem_filter.mp hp).2, fun p hp => (List.mem_filter.mp hp).1, fun p hp hn => List.mem_filter.mpr ⟨hp, decide_eq_true hn⟩⟩
  rcases List.mem_cons.mp hp with rfl | hp
  · exact N _ hm
  · exact N _ (List.mem_filter.mp hp).1
theorem news_ne {h₀ h : Heap} {L a b : Addr} {o o' : Obj} {all : List (Addr × Obj)} (N : News h₀ L h all) (ha : (a, o) ∈ all) (hb : (b, o') ∈ all) (hc : o.cls ≠ o'.cls) : a ≠ b := by
  intro e
  subst e
  have h1 := (N _ ha).1
  rw [(N _ hb).1] at h1
  exact hc (congrArg Obj.cls (Option.some.inj h1)).symm
abbrev frs (l : List Env) : List Addr := l.filterMap (·.frame)
theorem frs_cons {env : Env} {outer : List Env} {L b : Addr} (hf : env.frame = some L) (h : b ∈ frs (env :: outer)) : b = L ∨ b ∈ frs outer := by
  obtain ⟨e, he, hb⟩ := List.mem_filterMap.mp h
  rcases List.mem_cons.mp he with rfl | he
  · exact .inl (Option.some.inj (hb.symm.trans hf))
  · exact .inr (List.mem_filterMap.mpr ⟨e, he, hb⟩)
/-- behind a call that has turned slots of the frames below: the caller's own ground, turned likewise -/
theorem turn_back {A₀ : Around} {base h₀ g g' h' : Heap} {outer : List Env} {env : Env} {L L' : Addr} {m m' : Str → Option Value} {news' : List (Addr × Obj)}
    (B : Below A₀ base outer h₀) (FG : Fr h₀ L g m) (hf : env.frame = some L) (T' : KtsTurn (frs (env :: outer)) g g') (F' : Fr g' L' h' m') (N' : News g' L' h' news') :
    ∃ h₀', KtsTurn (frs outer) h₀ h₀' ∧ Fr h₀' L h' m ∧ News h₀' L h' news' ∧ Below A₀ base outer h₀' := by
  have hL0 : h₀.get? L = none := kts_self FG
  obtain ⟨T, S⟩ := kts_turn_at (fs := frs outer) (g := h₀) (h := h')
    (fun b hb => let ⟨_, o, ho, _⟩ := B.frames.mem hb; ⟨o, ho⟩)
    (fun b o e nm => F'.keep b o (T'.other b o (FG.keep b o e) fun hm => by
      rcases frs_cons hf hm with z | z
      · rw [z, hL0] at e; cases e
      · exact nm z))
    (fun b o e _ => let ⟨sl, hs⟩ := T'.up (FG.keep b o e); ⟨sl, F'.keep _ _ hs⟩)
  obtain ⟨oL, es, ep, hL, hLd, hr⟩ := FG.ns
  obtain ⟨sl, hs⟩ := T'.up hL
  refine ⟨_, T, ⟨⟨_, es, ep, F'.keep _ _ hs, hLd, hr⟩, S, by rw [T.size]; exact FG.above⟩, fun p hp => ⟨(N' p hp).1, fun q => ?_, T.none_ _ ?_⟩, ⟨B.stack, fun b o e => T.other b o (B.stays b o e) fun hm => ?_, B.frames.of_keeps fun b o e _ => ?_⟩⟩
  · have := (N' p hp).2.2
    rw [q, hs] at this; cases this
  · cases q : h₀.get? p.1 with
    | none => rfl
    | some o =>
      obtain ⟨sl', hs'⟩ := T'.up (FG.keep _ _ q)
      have := (N' p hp).2.2
      rw [hs'] at this; cases this
  · rw [(B.frames.mem hm).1] at e; cases e
  · obtain ⟨sl', hs'⟩ := T.up e
    exact ⟨_, hs', rfl⟩
theorem enterS {prog : Program} {w : World} {A₀ A : Around} {s : Shared} {base h₀ g₀ : Heap} {outer : List Env} {env : Env} {L : Addr} {m : Str → Option Value} {news : List (Addr × Obj)} {K : Frag} {p : Program} {loose : List Str} {mean : ExcName → Option Value} {mg mb : Str → Option Value}
    {R : Result → Shared → Prop} {name qual : Str} {params : Arguments} {body : List Stmt} {scope : Scope} {dV kV doc pm cdv ct oc : Value} {an od : Option Addr} {osl : Array (Option Value)} {f : Addr} {args : Args} {binds : List (Str × Value)}
    (B : Below A₀ base outer h₀) (F : Fr h₀ L s.heap m) (X₀ : K.In h₀) (N : News h₀ L s.heap news) (T : Top p loose mean mg mb h₀) (XB : K.In base) (TB : Top p loose mean mg mb base) (D : KtsDicts (frs outer) h₀) (T0 : KtsTurn (frs outer) g₀ h₀)
    (hA : A.frames = some (env :: outer)) (hf : env.frame = some L) (hke : env.scope.kind = .function)
    (ho : K.lookup f = some ⟨oc, od, .func (fnOf name qual params body scope dV kV doc pm an cdv ct), osl⟩) (hcd : codeIn K cdv qual = true) (hroom : A.depth < recursionLimit)
    (hbind : BindsTo s (fnOf name qual params body scope dV kV doc pm an cdv ct) args binds) (hloc : ∀ y ∈ binds, scope.names.lookup y.1 = some .local)
    (h : ∀ g L' h₁, Fr h₀ L g m → Fr g L' h₁ (fun y => binds.reverse.lookup y) → News g L' h₁ news → Below A base (env :: outer) g → K.In g → Top p loose mean mg mb g → KtsDicts (frs (env :: outer)) g →
      wpAny (model prog w) (A.deeper (envOf qual scope L' f cdv)) (execs body (envOf qual scope L' f cdv))
        (fun fl s' => LeaveS (frs (env :: outer)) A₀ base outer K p loose mean mg mb g₀ h₀ L m g R (match fl with | .ret v => v | _ => .none) s')
        (fun e s' => wpAny (model prog w) (A.deeper (envOf qual scope L' f cdv)) (leaving (envOf qual scope L' f cdv) e) (fun _ s'' => R (.error e) s'') (fun e' s'' => R (.error e') s'') s')
        { s with heap := h₁, toks := s.toks + binds.length })
    (hco : scope.isCoroutine = false) (hgen : scope.isGenerator = false) (hk : scope.kind = .function)
    (hcell : ∀ x ∈ scope.names, x.2 ≠ .cell) : codeAny (model prog w) A (.call (.ref f) args) R s := by
  have X := X₀.keeps F.keep
  obtain ⟨FG, BG, st, lv⟩ := groundX (R := R) B F N hA hf hke
  refine codeAny_call_def (fd := fnOf name qual params body scope dV kV doc pm an cdv ct) (body := body) (binds := binds) hroom (X _ _ ho) rfl (T.nolimit.keeps F.keep) (codeRec_of X hcd) rfl hbind hcell hloc (fun h₁ hns hk₁ => ?_) hco hgen hk
  refine wpAny_mono (h _ s.heap.objs.size h₁ FG ⟨hns, fun b o e => hk₁ b o (of_hideAll _ e), Nat.le_of_eq (hideAll_size _ _)⟩
    (fun p hp => ⟨hk₁ _ _ (N p hp).1, Nat.ne_of_lt (Heap.lt_size (N p hp).1), hideAll_none _ (List.mem_map_of_mem hp)⟩) BG (X₀.keeps st) (T.keeps st) (fun b hb => ?_)) (fun fl s' hl => ?_) fun _ _ y => y
  · rcases frs_cons hf hb with rfl | hb
    · obtain ⟨oL, es, ep, hL, hLd, _⟩ := FG.ns
      exact ⟨oL, es, ep, hL, hLd⟩
    · obtain ⟨o, es, n, ho', hd⟩ := D b hb
      exact ⟨o, es, n, st b o ho', hd⟩
  · rcases hl with ⟨L', m', news', F', N', k⟩ | ⟨g', L', m', news', T', F', N', k⟩
    · exact lv _ _ ⟨L', m', news', F', N', k⟩
    · obtain ⟨h₀', T₁, F₁, N₁, B₁⟩ := turn_back B FG hf T' F' N'
      exact k h₀' (T0.trans T₁) F₁ N₁ B₁ (XB.keeps B₁.stays) (TB.keeps B₁.stays) (D.turn T₁)
theorem enterSC {prog : Program} {w : World} {A₀ A : Around} {s : Shared} {base h₀ g₀ : Heap} {outer : List Env} {env : Env} {L : Addr} {m : Str → Option Value} {news : List (Addr × Obj)} {K : Frag} {p : Program} {loose : List Str} {mean : ExcName → Option Value} {mg mb : Str → Option Value}
    {R : Result → Shared → Prop} {name qual : Str} {params : Arguments} {body : List Stmt} {scope : Scope} {dV kV doc pm cdv ct oc : Value} {an od : Option Addr} {osl : Array (Option Value)} {f : Addr} {args : Args} {binds : List (Str × Value)}
    (B : Below A₀ base outer h₀) (F : Fr h₀ L s.heap m) (X₀ : K.In h₀) (N : News h₀ L s.heap news) (T : Top p loose mean mg mb h₀) (XB : K.In base) (TB : Top p loose mean mg mb base) (D : KtsDicts (frs outer) h₀) (T0 : KtsTurn (frs outer) g₀ h₀)
    (hA : A.frames = some (env :: outer)) (hf : env.frame = some L) (hke : env.scope.kind = .function)
    (ho : K.lookup f = some ⟨oc, od, .func (fnOf name qual params body scope dV kV doc pm an cdv ct), osl⟩) (hcd : codeIn K cdv qual = true) (hroom : A.depth < recursionLimit)
    (hbind : BindsTo s (fnOf name qual params body scope dV kV doc pm an cdv ct) args binds)
    (hkind : (binds.all fun y => scope.names.lookup y.1 == some .local || scope.names.lookup y.1 == some .cell) = true) (hnd : ((cellsFrom 0 scope.names []).map (·.1)).Nodup)
    (h : ∀ g L' h₁ tk cells, Fr h₀ L g m → Fr g L' h₁ (bindL (envOfC qual scope L' f cdv).kindOf binds fun _ => none) → News g L' h₁ (cells ++ news) → CellsAre (bindC (envOfC qual scope L' f cdv).kindOf binds fun _ => none) (cellsFrom (L' + 1) scope.names []) cells →
      Below A base (env :: outer) g → K.In g → Top p loose mean mg mb g → KtsDicts (frs (env :: outer)) g → (∀ p ∈ news, p.1 < L') →
      wpAny (model prog w) (A.deeper (envOfC qual scope L' f cdv)) (execs body (envOfC qual scope L' f cdv))
        (fun fl s' => LeaveS (frs (env :: outer)) A₀ base outer K p loose mean mg mb g₀ h₀ L m g R (match fl with | .ret v => v | _ => .none) s')
        (fun e s' => wpAny (model prog w) (A.deeper (envOfC qual scope L' f cdv)) (leaving (envOfC qual scope L' f cdv) e) (fun _ s'' => R (.error e) s'') (fun e' s'' => R (.error e') s'') s')
        { s with heap := h₁, toks := tk })
    (hco : scope.isCoroutine = false) (hgen : scope.isGenerator = false) (hk : scope.kind = .function) : codeAny (model prog w) A (.call (.ref f) args) R s := by
  have X := X₀.keeps F.keep
  obtain ⟨FG, BG, st, lv⟩ := groundX (R := R) B F N hA hf hke
  have DG : KtsDicts (frs (env :: outer)) (hideAll s.heap (news.map (·.1))) := fun b hb => by
    rcases frs_cons hf hb with rfl | hb
    · obtain ⟨oL, es, ep, hL, hLd, _⟩ := FG.ns
      exact ⟨oL, es, ep, hL, hLd⟩
    · obtain ⟨o, es, n, ho', hd⟩ := D b hb
      exact ⟨o, es, n, st b o ho', hd⟩
  refine codeAny_call_function (fd := fnOf name qual params body scope dV kV doc pm an cdv ct) hroom (X _ _ ho) rfl hco hgen rfl (codeRec_of X hcd) (hbind _ _ _ _ ?_)
  refine wpAny_newFunctionEnv_cells hk (kindsX hkind _) fun env' he s' x => ?_
  subst he
  refine ⟨(T.nolimit.keeps F.keep).keeps x.toInCall.keep, codeAny_func ?_⟩
  obtain ⟨h₁, tk, rfl, _⟩ := x.done
  have hk₁ := x.toInCall.keep
  obtain ⟨cells, NC, Y⟩ := Cl.news (h₀ := s.heap) (Nat.le_refl _) fun n c hm => ⟨x.cell n c (lookup_of_mem_nodup (cellsFrom_names scope.names 0 (s.heap.objs.size + 1) [] [] rfl ▸ hnd) hm), x.above n c hm⟩
  have NN : News (hideAll s.heap (news.map (·.1))) s.heap.objs.size h₁ (cells ++ news) := fun p hp => by
    rcases List.mem_append.mp hp with hp | hp
    · refine ⟨(NC p hp).1, (NC p hp).2.1, ?_⟩
      cases q : (hideAll s.heap (news.map (·.1))).get? p.1 with
      | none => rfl
      | some o => have := of_hideAll _ q; rw [(NC p hp).2.2] at this; cases this
    · exact ⟨hk₁ _ _ (N p hp).1, Nat.ne_of_lt (Heap.lt_size (N p hp).1), hideAll_none _ (List.mem_map_of_mem hp)⟩
  refine wpAny_mono (h _ s.heap.objs.size h₁ tk cells FG ⟨x.toInCall.ns, fun b o e => hk₁ b o (of_hideAll _ e), Nat.le_of_eq (hideAll_size _ _)⟩ NN Y BG (X₀.keeps st) (T.keeps st) DG (fun p hp => Heap.lt_size (N p hp).1)) (fun fl s' hl => ?_) fun _ _ y => y
  rcases hl with ⟨L', m', news', F', N', k⟩ | ⟨g', L', m', news', T', F', N', k⟩
  · exact lv _ _ ⟨L', m', news', F', N', k⟩
  · obtain ⟨h₀', T₁, F₁, N₁, B₁⟩ := turn_back B FG hf T' F' N'
    exact k h₀' (T0.trans T₁) F₁ N₁ B₁ (XB.keeps B₁.stays) (TB.keeps B₁.stays) (D.turn T₁)
/-- a contract of a def that may catch: the slots of the frames below may turn -/
noncomputable def ConS (w : World) (f : Addr) (vs : List Value) (news : List (Addr × Obj)) (n : Nat) (Out : List (Addr × Obj) → Value → Prop) : Prop :=
  ∀ (p : Program) (loose : List Str) (mean : ExcName → Option Value) (mg mb : Str → Option Value) (dp un : Nat) (gd : Option (List Code)) (env : Env) (outer : List Env) (A₀ : Around) (base g₀ h₀ : Heap) (L : Addr) (m : Str → Option Value) (s : Shared)
    (Q E : Value → Shared → Prop),
    Below A₀ base outer h₀ → Fr h₀ L s.heap m → (Mine.hd.heap_39 w.params).In h₀ → News h₀ L s.heap news → Top p loose mean mg mb h₀ → (Mine.hd.heap_39 w.params).In base → Top p loose mean mg mb base → KtsDicts (frs outer) h₀ → KtsTurn (frs outer) g₀ h₀ →
    env.frame = some L → env.scope.kind = .function → dp + n < recursionLimit → un + 8 * n < cLine →
    (∀ r all h' tk' h₀', Fr h₀' L h' m → News h₀' L h' all → (∀ p ∈ news, p ∈ all) → Out all r → KtsTurn (frs outer) g₀ h₀' → Below A₀ base outer h₀' → (Mine.hd.heap_39 w.params).In h₀' → Top p loose mean mg mb h₀' → KtsDicts (frs outer) h₀' →
      Q r { s with heap := h', toks := tk' }) →
    wpAny (model LP w) (kTop dp un gd env outer) (call (.ref f) vs) Q E s
theorem conS_use {w : World} {f : Addr} {vs : List Value} {news : List (Addr × Obj)} {n : Nat} {Out : List (Addr × Obj) → Value → Prop}
    {p : Program} {loose : List Str} {mean : ExcName → Option Value} {mg mb : Str → Option Value} {dp un : Nat} {gd : Option (List Code)} {env : Env} {outer : List Env} {A₀ : Around} {base g₀ h₀ : Heap} {L : Addr} {m : Str → Option Value} {s : Shared} {Q E : Value → Shared → Prop}
    (B : Below A₀ base outer h₀) (F : Fr h₀ L s.heap m) (X : (Mine.hd.heap_39 w.params).In h₀) (N : News h₀ L s.heap news) (T : Top p loose mean mg mb h₀) (XB : (Mine.hd.heap_39 w.params).In base) (TB : Top p loose mean mg mb base) (D : KtsDicts (frs outer) h₀) (T0 : KtsTurn (frs outer) g₀ h₀)
    (C : ConS w f vs news n Out) (hf : env.frame = some L) (hk : env.scope.kind = .function) (hd : dp + n < recursionLimit) (hu : un + 8 * n < cLine)
    (ret : ∀ r all h' tk' h₀', Fr h₀' L h' m → News h₀' L h' all → (∀ p ∈ news, p ∈ all) → Out all r → KtsTurn (frs outer) g₀ h₀' → Below A₀ base outer h₀' → (Mine.hd.heap_39 w.params).In h₀' → Top p loose mean mg mb h₀' → KtsDicts (frs outer) h₀' →
      Q r { s with heap := h', toks := tk' }) :
    wpAny (model LP w) (kTop dp un gd env outer) (call (.ref f) vs) Q E s := C _ _ _ _ _ _ _ _ _ _ _ _ _ _ _ _ _ _ _ B F X N T XB TB D T0 hf hk hd hu ret
structure Stop (P : Prop) : Prop where
  of : P
theorem stop_here {prog : Program} {w : World} {A : Around} {α : Type} {t : Sem α} {Q : α → Shared → Prop} {E : Value → Shared → Prop} {s : Shared} (h : Stop (wpAny (model prog w) A t Q E s)) : wpAny (model prog w) A t Q E s := h.of
end PartBaseS
section PartFnName
set_option maxRecDepth 100000
theorem off_FnName : True := by
  w_top off
  trivial

theorem fn_entry_name : entryFor table "function.__name__" = some Builtin.«function.__name__» := entryFor_of_tree (by kernel_rfl)
theorem fn_entry_ga : entryFor table "object.__getattribute__" = some Builtin.«object.__getattribute__» := entryFor_of_tree (by kernel_rfl)
theorem fn_typeOf : typeOf (.builtin "function.__name__") = pure (.type "getset_descriptor") := by kernel_rfl
theorem fn_lk_name : typeLookup (.type "function") "__name__" = pure (some (.builtin "function.__name__")) := by rw [typeLookup_type, builtinLookup_eq_fast]; kernel_rfl
theorem fn_slot_ga : Slot "function" "__getattribute__" "object.__getattribute__" :=
  .of (owner := "object") (n := "__getattribute__") (by rw [typeLookup_type, builtinLookup_eq_fast]; kernel_rfl) (by decide +kernel) (by decide +kernel) (by decide +kernel)
    (by first | exact .inl (by decide +kernel) | exact .inr (by decide +kernel)) (by rw [isSubtype_type]; kernel_rfl)
theorem fn_owner : (".".intercalate ("function.__name__".cutAt '.').dropLast) = "function" := by
  have e0 : "function.__name__".cutAt '.' = ["function", "__name__"] := by first | rfl | decide +kernel
  rw [e0]; decide +kernel
theorem fn_sub : isSubtype (.type "function") (.type (".".intercalate ("function.__name__".cutAt '.').dropLast)) = pure true := by
  rw [fn_owner, isSubtype_type]; kernel_rfl
section
variable {prog : Program} {w : World} {A : Around} {E : Value → Shared → Prop} {h : Heap} {g : Array GenState} {d : Drawn} {t : Nat} {os : OsState} {a : Addr} {o : Obj} {fd : FuncData}
theorem fn_get {R : Result → Shared → Prop} (hx : h.get? a = some o) (hc : o.cls = .type "function") (hd : o.data = .func fd) (hl : fd.name.length ≤ sizeLine) (hq : R (.ok (.ret (.str fd.name t))) ⟨h, g, d, t + 1, os⟩) :
    codeAny (model prog w) A (.call (.builtin "getset_descriptor.__get__") ⟨[.builtin "function.__name__", .ref a, .type "function"], []⟩) R ⟨h, g, d, t, os⟩ := by
  have hT : (⟨h, g, d, t, os⟩ : Shared).TypeIs (.ref a) "function" := ⟨_, hx, hc⟩
  have hT5 : (⟨h, g, d, t, os⟩ : Shared).TypeIs (.builtin "function.__name__") "getset_descriptor" := fn_typeOf
  have f8 := fn_sub
  refine codeAny_call_builtin F.slot_gs_get.plain F.entry_gs_get (F.slot_gs_get.check _ _ _ _ _ _ _ _ hT5 (F.args_gs_get _ _ _) ?_)
  repeat (any_goals (first | assumption | wp_step))
  refine ⟨Code.quiet_builtin _ (by decide +kernel), codeAny_builtin fn_entry_name ?_⟩
  unfold Builtin.«function.__name__»
  repeat (any_goals (first | assumption | wp_step))
  rw [hd]
  refine wpAny_pure ?_
  unfold retStr
  exact wpAny_bind (wpAny_mkStr (wpAny_pure hq) hl)
theorem fn_ga {tk : Tok} {Q : Fin → Shared → Prop} (hx : h.get? a = some o) (hc : o.cls = .type "function") (hd : o.data = .func fd) (hl : fd.name.length ≤ sizeLine) (hq : Q (.done (.ret (.str fd.name t))) ⟨h, g, d, t + 1, os⟩) :
    wpAny (model prog w) A (Builtin.«object.__getattribute__» ⟨[.ref a, .str "__name__" tk], []⟩) Q E ⟨h, g, d, t, os⟩ := by
  have hT : (⟨h, g, d, t, os⟩ : Shared).TypeIs (.ref a) "function" := ⟨_, hx, hc⟩
  have hT5 : (⟨h, g, d, t, os⟩ : Shared).TypeIs (.builtin "function.__name__") "getset_descriptor" := fn_typeOf
  have f4 := fn_lk_name
  have f5 := fn_typeOf
  have f6 := F.slot_gs_get.lookup
  have f7 := F.slot_gs_set.lookup
  repeat (any_goals (first | assumption | wp_step))
  refine fn_get hx hc hd hl ?_
  repeat (any_goals (first | assumption | wp_step))
theorem fn_args (a b : Value) : argsOk "object.__getattribute__" ⟨[a, b], []⟩ := by unfold argsOk; kernel_rfl
theorem fn_attr {b : Bool} {Q : Value → Shared → Prop} (hx : h.get? a = some o) (hc : o.cls = .type "function") (hd : o.data = .func fd) (hl : fd.name.length ≤ sizeLine) (hq : Q (.str fd.name (t + 1)) ⟨h, g, d, t + 1 + 1, os⟩) :
    wpAny (model prog w) A (getAttr (.ref a) "__name__" b) Q E ⟨h, g, d, t, os⟩ := by
  obtain ⟨c, dct, dat, sl⟩ := o
  simp only at hc hd
  subst hc hd
  have hT : ∀ tk', (⟨h, g, d, tk', os⟩ : Shared).TypeIs (.ref a) "function" := fun _ => ⟨_, hx, rfl⟩
  have f3 := fn_slot_ga.lookup
  have f4 := fn_slot_ga.bind (.ref a)
  unfold getAttr getAttrBy
  repeat (any_goals (first | assumption | exact hT _ | wp_step))
  have hb : (b && onTheHeap (Value.builtin "object.__getattribute__")) = false := by cases b <;> rfl
  rw [if_neg (by rw [hb]; exact Bool.false_ne_true)]
  unfold boundAndCalled
  rw [f4]
  refine wpAny_bind (wpAny_pure ?_)
  refine wpAny_call_entry fn_slot_ga (hT _) fn_entry_ga ?_ (fn_args _ _)
  refine fn_ga hx rfl rfl hl ⟨_, rfl, ?_⟩
  repeat (any_goals (first | assumption | exact hT _ | wp_step))
end
end PartFnName
section PartCNamed
set_option maxRecDepth 100000
local macro_rules | `(tactic| walk_at "no such key") => `(tactic| skip)
theorem off_CNamed : True := by
  w_top off
  trivial
local macro_rules | `(tactic| k_mem) => `(tactic| first | exact List.mem_cons_self | (refine' List.mem_cons_of_mem _ ?_; k_mem) | ktr_member)
local macro_rules | `(tactic| k_all) => `(tactic| (with_reducible assumption))
local macro_rules | `(tactic| walk_at $k:str) => if ["eval BinOp", "eval Call", "eval Subscript", "eval Compare", "isTrue Compare", "eval Tuple", "eval List"].contains k.getString then `(tactic| (k_here; k_fold)) else Lean.Macro.throwUnsupported

theorem named_len (sg : Nat → Nat) : ∀ t : Tree, 1 ≤ (named sg t).length ∧ (named sg t).length ≤ 3 * t.sz
  | .leaf k => ⟨Nat.le_refl 1, by show 1 ≤ 3 * 1; omega⟩
  | .fork l r => by
    have h1 := named_len sg l
    have h2 := named_len sg r
    have e1 : (Str.ofString "{").length = 1 := rfl
    have e2 : (Str.ofString "}").length = 1 := rfl
    simp only [named, Str.length_append, Tree.sz, e1, e2]
    omega
set_option maxHeartbeats 8000000 in
theorem named_c (w : World) (sg : Nat → Nat) : ∀ (t : Tree) {news : List (Addr × Obj)} {v : Value}, TreeIn sg news v t → Con w 126 [v] news t.sz (fun _ r => ∃ tk, r = .str (named sg t) tk) := by
  intro t
  induction t with
  | leaf k =>
    intro news v ht
    cases ht
    unfold Con
    intro p loose mean mg mb dp un gd env outer A₀ base h₀ L m s Q E B F X N T hf hk hd hu hret
    simp only [Tree.sz] at hd hu
    refine wpAny_call ?_
    k_dflt ((refine' code_def ?k1 ?k2 ?k3 ?k4 ?k5 ?kA ?kF ?kK ?k6 ?k7 ?k8 ?k9 ?kB ?_ ?c2 ?c3 ?c4 ?c5; (case kA => exact rfl); (case kF => first | exact rfl | assumption); (case kK => first | exact rfl | assumption); (case k1 => k_asm); (case k2 => k_asm); (case k3 => k_asm); (case k4 => k_asm); (case k5 => k_asm); (case k6 => k_is); (case k7 => k_is); (case k8 => ktr_room); (case k9 => first | exact BindsTo.of_eq rfl | exact binds_K (by assumption) rfl (by k_is) rfl rfl rfl | exact binds_K (by k_in) rfl (by k_is) rfl rfl rfl); (case c5 => decide); (case kB => exact locs rfl); (case c2 => exact rfl); (case c3 => exact rfl); (case c4 => exact rfl); k_whole; intro qg' qL' qh' qFG' qF' qN' qB' qX' qT'; (try dsimp only); (try k_fold)))
    k_steps
    exact hret _ _ _ _ (by k_asm) (by k_asm) (fun _ h => h) ⟨_, rfl⟩
  | fork l r ihl ihr =>
    intro news v ht
    try k_fold
    cases ht; rename_i a v1 v2 n hm h1 h2
    unfold Con
    intro p loose mean mg mb dp un gd env outer A₀ base h₀ L m s Q E B F X N T hf hk hd hu hret
    have hzl := Tree.sz_pos l
    have hzr := Tree.sz_pos r
    simp only [Tree.sz] at hd hu
    refine wpAny_call ?_
    k_dflt ((refine' code_def ?k1 ?k2 ?k3 ?k4 ?k5 ?kA ?kF ?kK ?k6 ?k7 ?k8 ?k9 ?kB ?_ ?c2 ?c3 ?c4 ?c5; (case kA => exact rfl); (case kF => first | exact rfl | assumption); (case kK => first | exact rfl | assumption); (case k1 => k_asm); (case k2 => k_asm); (case k3 => k_asm); (case k4 => k_asm); (case k5 => k_asm); (case k6 => k_is); (case k7 => k_is); (case k8 => ktr_room); (case k9 => first | exact BindsTo.of_eq rfl | exact binds_K (by assumption) rfl (by k_is) rfl rfl rfl | exact binds_K (by k_in) rfl (by k_is) rfl rfl rfl); (case c5 => decide); (case kB => exact locs rfl); (case c2 => exact rfl); (case c3 => exact rfl); (case c4 => exact rfl); k_whole; intro qg' qL' qh' qFG' qF' qN' qB' qX' qT'; (try dsimp only); (try k_fold)))
    k_steps
    k_dflt (refine' con_use ?k1 ?k2 ?k3 ?k4 ?k5 (ihl h1) ?kf ?kK ?kd ?ku ?_; (case k1 => k_asm); (case k2 => k_asm); (case k3 => k_asm); (case k4 => k_asm); (case k5 => k_asm); (case kf => exact rfl); (case kK => exact rfl); (case kd => ktr_room); (case ku => ktr_units))
    intro r9 tl9 h9 tk9 F9 N9 hl9 ho9
    try k_fold
    obtain ⟨t9, e9⟩ := ho9
    subst e9
    replace N9 := cb_drop N9 hl9
    clear hl9
    k_steps
    k_dflt (refine' con_use ?k1 ?k2 ?k3 ?k4 ?k5 (ihr h2) ?kf ?kK ?kd ?ku ?_; (case k1 => k_asm); (case k2 => k_asm); (case k3 => k_asm); (case k4 => k_asm); (case k5 => k_asm); (case kf => exact rfl); (case kK => exact rfl); (case kd => ktr_room); (case ku => ktr_units))
    intro r9 tl9 h9 tk9 F9 N9 hl9 ho9
    try k_fold
    obtain ⟨t9, e9⟩ := ho9
    subst e9
    replace N9 := cb_drop N9 hl9
    clear hl9
    k_steps
    k_dflt ((refine' call_cls ?k1 ?k2 ?k3 ?k4 ?k5 ?k6 ?_; (case k1 => k_asm); (case k2 => k_asm); (case k3 => k_asm); (case k4 => k_is); (case k5 => k_is); (case k6 => k_is); k_whole; intro qx' qd' qh' qF' qN' ql1 ql2; (try k_lt ql1); (try k_lt2 ql2); (try k_sweep); (refine' code_def ?k1 ?k2 ?k3 ?k4 ?k5 ?kA ?kF ?kK ?k6 ?k7 ?k8 ?k9 ?kB ?_ ?c2 ?c3 ?c4 ?c5; (case kA => exact rfl); (case kF => first | exact rfl | assumption); (case kK => first | exact rfl | assumption); (case k1 => k_asm); (case k2 => k_asm); (case k3 => k_asm); (case k4 => k_asm); (case k5 => k_asm); (case k6 => k_is); (case k7 => k_is); (case k8 => ktr_room); (case k9 => first | exact BindsTo.of_eq rfl | exact binds_K (by assumption) rfl (by k_is) rfl rfl rfl | exact binds_K (by k_in) rfl (by k_is) rfl rfl rfl); (case c5 => decide); (case kB => exact locs rfl); (case c2 => exact rfl); (case c3 => exact rfl); (case c4 => exact rfl); k_whole; intro qg' qL' qh' qFG' qF' qN' qB' qX' qT'; (try dsimp only); (try k_fold))))
    k_steps
    have hr9 := named_len sg r
    have hl9 := named_len sg l
    simp only [recursionLimit] at hd
    refine KXt.truthy_pos hr9.1 hr9.2 (by omega) ?_
    intro tk9
    k_steps
    (rename News _ _ _ _ => NX)
    exact hret _ _ _ _ (by k_asm) (cb_drop NX (fun p hp => .tail _ (.tail _ hp))) (fun _ h => h) ⟨_, rfl⟩
end PartCNamed
section PartCSafe
set_option maxRecDepth 100000
local macro_rules | `(tactic| walk_at "no such key") => `(tactic| skip)
local macro_rules | `(tactic| walk_at "no such key") => `(tactic| skip)
local macro_rules | `(tactic| walk_at "no such key") => `(tactic| skip)
theorem off_CSafe : True := by
  w_top off
  trivial
local macro_rules | `(tactic| k_mem) => `(tactic| first | exact List.mem_cons_self | (refine' List.mem_cons_of_mem _ ?_; k_mem) | ktr_member)
local macro_rules | `(tactic| k_all) => `(tactic| (with_reducible assumption))
local macro_rules | `(tactic| walk_at $k:str) => if ["eval BinOp", "eval Call", "eval Subscript", "eval Compare", "isTrue Compare", "eval Tuple", "eval List"].contains k.getString then `(tactic| (k_here; k_fold)) else Lean.Macro.throwUnsupported

local macro_rules | `(tactic| walk_at "call ref") => `(tactic| (k_here; (with_reducible show wpAny _ _ (call (Value.ref 133) _) _ _ _); (refine wpAny_call ?_; k_dflt ((refine' code_def ?k1 ?k2 ?k3 ?k4 ?k5 ?kA ?kF ?kK ?k6 ?k7 ?k8 ?k9 ?kB ?_ ?c2 ?c3 ?c4 ?c5; (case kA => exact rfl); (case kF => first | exact rfl | assumption); (case kK => first | exact rfl | assumption); (case k1 => k_asm); (case k2 => k_asm); (case k3 => k_asm); (case k4 => k_asm); (case k5 => k_asm); (case k6 => k_is); (case k7 => k_is); (case k8 => ktr_room); (case k9 => first | exact BindsTo.of_eq rfl | exact binds_K (by assumption) rfl (by k_is) rfl rfl rfl | exact binds_K (by k_in) rfl (by k_is) rfl rfl rfl); (case c5 => decide); (case kB => exact locs rfl); (case c2 => exact rfl); (case c3 => exact rfl); (case c4 => exact rfl); k_whole; intro qg' qL' qh' qFG' qF' qN' qB' qX' qT'; (try dsimp only); (try k_fold))))))
local macro_rules | `(tactic| walk_at "getAttr ref") => `(tactic| (k_here; (with_reducible show wpAny _ _ (getAttr (Value.ref 133) _ _) _ _ _); k_dflt (refine' fn_attr ?hx ?hc ?hd ?hl ?_; (case hx => exact Frag.In.keeps (by assumption) (Fr.keep (by assumption)) _ _ (by k_is)); (case hc => exact rfl); (case hd => exact rfl); (case hl => exact Nat.le_of_ble_eq_true rfl))))
set_option maxHeartbeats 8000000 in
theorem safe_l (w : World) {news : List (Addr × Obj)} {x : Str} {k0 k1 : Tok} :
    ConS w 36 [.str x k0, .str (Str.ofString "tree") k1, .ref 133] news 3 (fun _ r => ∃ t, r = .str (Str.ofString "<tree _law_turn() failed>") t) := by
  unfold ConS
  intro p loose mean mg mb dp un gd env outer A₀ base g₀ h₀ L m s Q E B F X N T XB TB D T0 hf hk hd hu hret
  refine wpAny_call ?_
  have XS := X.keeps F.keep
  k_dflt ((refine' enterS ?k1 ?k2 ?k3 ?k4 ?k5 ?XB ?TB ?D ?T0 ?kA ?kF ?kK ?k6 ?k7 ?k8 ?k9 ?kB ?_ ?c2 ?c3 ?c4 ?c5; (case kA => exact rfl); (case kF => first | exact rfl | assumption); (case kK => first | exact rfl | assumption); (case k1 => k_asm); (case k2 => k_asm); (case k3 => k_asm); (case k4 => k_asm); (case k5 => k_asm); (case XB => assumption); (case TB => assumption); (case D => assumption); (case T0 => first | assumption | exact KtsTurn.refl); (case k6 => k_is); (case k7 => k_is); (case k8 => ktr_room); (case k9 => first | exact BindsTo.of_eq rfl | exact binds_K (by assumption) rfl (by k_is) rfl rfl rfl); (case c5 => decide); (case kB => exact locs rfl); (case c2 => exact rfl); (case c3 => exact rfl); (case c4 => exact rfl); k_whole; intro qg' qL' qh' qFG' qF' qN' qB' qX' qT' qD'; (try dsimp only); (try k_fold)))
  k_steps
  exact hret _ _ _ _ _ (by k_asm) (by k_asm) (fun _ h => h) ⟨_, rfl⟩ (by assumption) (by assumption) (by assumption) (by assumption) (by assumption)
set_option maxHeartbeats 8000000 in
theorem safe_fl (w : World) {news : List (Addr × Obj)} {a : Addr} {x : Str} {v3 : Value} {n : Nat} {k0 k1 : Tok} (h1 : (a, ({ cls := .type "tuple", data := .seq #[.str x k0, v3] n } : Obj)) ∈ news) :
    ConS w 36 [.ref a, .str (Str.ofString "tree") k1, .ref 133] news 3 (fun _ r => ∃ t, r = .str (Str.ofString "<tree _law_turn() failed>") t) := by
  unfold ConS
  intro p loose mean mg mb dp un gd env outer A₀ base g₀ h₀ L m s Q E B F X N T XB TB D T0 hf hk hd hu hret
  refine wpAny_call ?_
  have XS := X.keeps F.keep
  k_dflt ((refine' enterS ?k1 ?k2 ?k3 ?k4 ?k5 ?XB ?TB ?D ?T0 ?kA ?kF ?kK ?k6 ?k7 ?k8 ?k9 ?kB ?_ ?c2 ?c3 ?c4 ?c5; (case kA => exact rfl); (case kF => first | exact rfl | assumption); (case kK => first | exact rfl | assumption); (case k1 => k_asm); (case k2 => k_asm); (case k3 => k_asm); (case k4 => k_asm); (case k5 => k_asm); (case XB => assumption); (case TB => assumption); (case D => assumption); (case T0 => first | assumption | exact KtsTurn.refl); (case k6 => k_is); (case k7 => k_is); (case k8 => ktr_room); (case k9 => first | exact BindsTo.of_eq rfl | exact binds_K (by assumption) rfl (by k_is) rfl rfl rfl); (case c5 => decide); (case kB => exact locs rfl); (case c2 => exact rfl); (case c3 => exact rfl); (case c4 => exact rfl); k_whole; intro qg' qL' qh' qFG' qF' qN' qB' qX' qT' qD'; (try dsimp only); (try k_fold)))
  k_steps
  exact hret _ _ _ _ _ (by k_asm) (by k_asm) (fun _ h => h) ⟨_, rfl⟩ (by assumption) (by assumption) (by assumption) (by assumption) (by assumption)
set_option maxHeartbeats 8000000 in
theorem safe_ff (w : World) {news : List (Addr × Obj)} {a b : Addr} {v1 v2 v3 : Value} {n n' : Nat} {k1 : Tok}
    (h1 : (a, ({ cls := .type "tuple", data := .seq #[.ref b, v3] n } : Obj)) ∈ news) (h2 : (b, ({ cls := .type "tuple", data := .seq #[v1, v2] n' } : Obj)) ∈ news) :
    ConS w 36 [.ref a, .str (Str.ofString "tree") k1, .ref 133] news 3 (fun all r => ∃ c d, r = .ref c ∧ (c, tupO v1 (.ref d) 0) ∈ all ∧ (d, tupO v2 v3 0) ∈ all) := by
  unfold ConS
  intro p loose mean mg mb dp un gd env outer A₀ base g₀ h₀ L m s Q E B F X N T XB TB D T0 hf hk hd hu hret
  refine wpAny_call ?_
  have XS := X.keeps F.keep
  k_dflt ((refine' enterS ?k1 ?k2 ?k3 ?k4 ?k5 ?XB ?TB ?D ?T0 ?kA ?kF ?kK ?k6 ?k7 ?k8 ?k9 ?kB ?_ ?c2 ?c3 ?c4 ?c5; (case kA => exact rfl); (case kF => first | exact rfl | assumption); (case kK => first | exact rfl | assumption); (case k1 => k_asm); (case k2 => k_asm); (case k3 => k_asm); (case k4 => k_asm); (case k5 => k_asm); (case XB => assumption); (case TB => assumption); (case D => assumption); (case T0 => first | assumption | exact KtsTurn.refl); (case k6 => k_is); (case k7 => k_is); (case k8 => ktr_room); (case k9 => first | exact BindsTo.of_eq rfl | exact binds_K (by assumption) rfl (by k_is) rfl rfl rfl); (case c5 => decide); (case kB => exact locs rfl); (case c2 => exact rfl); (case c3 => exact rfl); (case c4 => exact rfl); k_whole; intro qg' qL' qh' qFG' qF' qN' qB' qX' qT' qD'; (try dsimp only); (try k_fold)))
  k_steps
  exact hret _ _ _ _ _ (by k_asm) (by k_asm) (fun p hp => .tail _ (.tail _ hp)) ⟨_, _, rfl, .head _, .tail _ (.head _)⟩ T0 B X T D
end PartCSafe
section PartComp
set_option maxRecDepth 100000
theorem off_Comp : True := by
  w_top off
  trivial
local macro_rules | `(tactic| k_mem) => `(tactic| first | exact List.mem_cons_self | (refine' List.mem_cons_of_mem _ ?_; k_mem) | ktr_member)
local macro_rules | `(tactic| k_all) => `(tactic| (with_reducible assumption))
local macro_rules | `(tactic| walk_at $k:str) => if ["eval BinOp", "eval Call", "eval Subscript", "eval Compare", "isTrue Compare", "eval Tuple", "eval List"].contains k.getString then `(tactic| (k_here; k_fold)) else Lean.Macro.throwUnsupported

open PyProof.Rows.LCg PyProof.Rows.LCt in
theorem compEnd_mono {h₀ : Heap} {L : Addr} {m : Str → Option Value} {s₁ : Shared} {I : Addr} {oI : Obj} {C : Addr} {oC : Obj} {D : Addr} {oD : Obj} {S : List (Addr × Obj) → Prop} {r r' : Value → List (Addr × Obj) → Prop} {y : Value} {s₂ : Shared}
    (k : ∀ y n, r y n → r' y n) (h : CompEnd h₀ L m s₁ I oI C oC D oD S r y s₂) : CompEnd h₀ L m s₁ I oI C oC D oD S r' y s₂ := by
  obtain ⟨h', tk, n, e, F, N, o, hS, hr⟩ := h
  exact ⟨h', tk, n, e, F, N, o, hS, k _ _ hr⟩
section
variable {prog : Program} {w : World} {A : Around} {E : Value → Shared → Prop} {s : Shared} {env : Env}
open PyProof.Rows.LCg PyProof.Rows.LCt in
theorem rest_of {h₀ : Heap} {L : Addr} {m : Str → Option Value} {elt : Expr} {x : Str} {scope : Scope} {cl : List (Str × Addr)} {S : List (Addr × Obj) → Prop} {P : Nat → Value → Prop} {Fin : List Value → List (Addr × Obj) → Prop} {n : Nat}
    (J : Nat → List Value → List (Addr × Obj) → Prop)
    (turn : ∀ i v ys news I oI C oC D m₂ h tk (E' : Value → Shared → Prop), i < n → J i ys news → P i v → NsObj oC m₂ → m₂ x = some v → Fr h₀ L h m → News h₀ L h ((I, oI) :: (C, oC) :: (D, lst ys) :: news) → Off3 I C D news → ((@Ne Nat I C) ∧ (@Ne Nat I D) ∧ (@Ne Nat C D)) →
      wpAny (model prog w) A (eval elt (compEnvC scope cl C env)) (CompEnd h₀ L m { s with heap := h, toks := tk } I oI C oC D (lst ys) S (fun y news' => J (i + 1) (ys ++ [y]) news')) E' { s with heap := h, toks := tk })
    (fin : ∀ ys news, J n ys news → Fin ys news) : ∀ k i ys news, i + k = n → J i ys news → CompRest prog w A h₀ L m env elt x scope cl s S P Fin k i ys news
  | 0, i, ys, news, e, j => CompRest.zero (fin ys news (by rw [← e]; exact j))
  | k + 1, i, ys, news, e, j => CompRest.succ fun v I oI C oC D m₂ h tk E' hP hC hx F N off ne =>
      wpAny_mono (turn i v ys news I oI C oC D m₂ h tk E' (by omega) j hP hC hx F N off ne) (fun _ _ q => compEnd_mono (fun y n' j' => rest_of J turn fin k (i + 1) _ _ (by omega) j') q) fun _ _ q => q
open PyProof.Rows.LCg PyProof.Rows.LCt in
theorem restT_of {h₀ : Heap} {L : Addr} {m : Str → Option Value} {ct elt : Expr} {x : Str} {scope : Scope} {cl : List (Str × Addr)} {S : List (Addr × Obj) → Prop} {P : Nat → Value → Prop} {Fin : List Value → List (Addr × Obj) → Prop} {n : Nat}
    (J : Nat → List Value → List (Addr × Obj) → Prop)
    (turn : ∀ i v ys news I oI C oC D m₂ h tk (E' : Value → Shared → Prop), i < n → J i ys news → P i v → NsObj oC m₂ → m₂ x = some v → Fr h₀ L h m → News h₀ L h ((I, oI) :: (C, oC) :: (D, lst ys) :: news) → Off3 I C D news → ((@Ne Nat I C) ∧ (@Ne Nat I D) ∧ (@Ne Nat C D)) →
      wpAny (model prog w) A (isTrue ct (compEnvC scope cl C env) (eval ct (compEnvC scope cl C env))) (fun ok s' => if ok = true then
        wpAny (model prog w) A (eval elt (compEnvC scope cl C env)) (CompEnd h₀ L m { s with heap := h, toks := tk } I oI C oC D (lst ys) S (fun y news' => J (i + 1) (ys ++ [y]) news')) E' s'
        else CompEnd h₀ L m { s with heap := h, toks := tk } I oI C oC D (lst ys) S (fun _ news' => J (i + 1) ys news') Value.none s') E' { s with heap := h, toks := tk })
    (fin : ∀ ys news, J n ys news → Fin ys news) : ∀ k i ys news, i + k = n → J i ys news → CompRestT prog w A h₀ L m env ct elt x scope cl s S P Fin k i ys news
  | 0, i, ys, news, e, j => CompRestT.zero (fin ys news (by rw [← e]; exact j))
  | k + 1, i, ys, news, e, j => CompRestT.succ fun v I oI C oC D m₂ h tk E' hP hC hx F N off ne =>
      wpAny_mono (turn i v ys news I oI C oC D m₂ h tk E' (by omega) j hP hC hx F N off ne) (fun ok _ q => by
        cases ok with
        | true =>
          simp only [if_true] at q ⊢
          exact wpAny_mono q (fun _ _ q => compEnd_mono (fun y n' j' => restT_of J turn fin k (i + 1) _ _ (by omega) j') q) fun _ _ q => q
        | false =>
          simp only [Bool.false_eq_true, if_false] at q ⊢
          exact compEnd_mono (fun y n' j' => restT_of J turn fin k (i + 1) _ _ (by omega) j') q) fun _ _ q => q
open PyProof.Rows.LCg PyProof.Rows.LCt in
/-- a list comprehension over a list; the ground may have turned while the iterable was reckoned -/
theorem comp_list {elt iter : Expr} {x : Str} {px : Pos} {scope : Scope} {cl : List (Str × Addr)} {pos : Pos} {Q : Value → Shared → Prop}
    (hclos : closureFor scope env = pure cl) (hcell : ∀ y ∈ scope.names, y.2 ≠ .cell) (hkind : scope.kind = .function)
    (hnames : ∀ y ∈ scope.names, y.2 = .local → scope.names.lookup y.1 = some .local) (hx : scope.names.lookup x = some .local)
    (h : wpAny (model prog w) A (eval iter env) (fun xv s₁ => ∃ h₀ L m ax its news Fin, xv = .ref ax ∧ A.handled = none ∧ Fr h₀ L s₁.heap m ∧ News h₀ L s₁.heap news ∧ SrcAt h₀ ax its news ∧ its.size ≤ sizeLine ∧
      (∀ g, CompRest prog w A h₀ L m env elt x scope cl { s₁ with heap := g } (SrcAt h₀ ax its) (fun i v => its[i]? = some v) Fin its.size 0 [] news) ∧
      (∀ ys news' D h tk, Fin ys news' → Fr h₀ L h m → News h₀ L h ((D, lst ys) :: news') → Off1 D news' → Q (.ref D) { s₁ with heap := h, toks := tk })) E s)
    (hs : ∀ x, foldedSetIterable iter env x = pure x := by intro _; rfl) :
    wpAny (model prog w) A (eval (.ListComp elt [⟨.Name x px, iter, [], 0⟩] scope pos) env) Q E s := by
  rw [eval_ListComp]
  refine wpAny_comprehension_free (use := none) rfl hs hclos hkind hnames (wpAny_mono h (fun xv s₁ h₁ => ?_) fun _ _ e => e)
  obtain ⟨h₀, L, m, ax, its, news, Fin, rfl, hh, F, N, S, hsz, R, hQ⟩ := h₁
  have hl := S.list F.keep N
  have hlt : ax < s₁.heap.objs.size := let ⟨_, e, _⟩ := hl; Heap.lt_size e
  refine wpAny_pyIter_list hl ?_
  have up : ∀ b o, s₁.heap.get? b = some o → (s₁.heap.push { cls := .type "list_iterator", data := .fields #[.ref ax, .int 0 0] }).get? b = some o := fun b o e => Heap.get?_push_of_some _ e
  refine block_U (Walks.list hh s₁.heap.objs.size ax (Nat.ne_of_lt hlt) its) hsz (fun i h st => let ⟨o, e, _⟩ := st.1; ⟨o, e⟩) list_st hcell hkind hx ⟨⟨_, Heap.get?_push_size _ rfl, rfl, rfl⟩, hl.push _⟩ (fun b hb => ?_)
    (F.keeps up) (N.grown up) (Nat.ne_of_lt F.ns.lt) (next_is_new F) (fun p hp => Nat.ne_of_lt (Heap.lt_size (N p hp).1)) S (R _) ?_
  · show b < (s₁.heap.push _).objs.size
    rw [Heap.size_push]
    rcases List.mem_cons.mp hb with rfl | hb
    · exact Nat.lt_succ_self _
    · rw [List.mem_singleton.mp hb]; exact Nat.lt_succ_of_lt hlt
  · intro D C h tk m' ys news' F' N' o1 hn hC₀ hD₀ hCL hDL hCD offC fin
    refine ⟨m', hn, fun h'' hs'' => hQ _ _ D h'' tk fin (F'.change hs'' hCL hC₀) (fun p hp => ⟨hs''.extBut _ _ ?_ (N' p hp).1, (N' p hp).2⟩) o1⟩
    rcases List.mem_cons.mp hp with rfl | hp
    · exact Ne.symm hCD
    · exact offC p hp
open PyProof.Rows.LCg PyProof.Rows.LCt in
end
end PartComp
section PartNeTup
set_option maxRecDepth 100000
theorem off_NeTup : True := by
  w_top off
  trivial
local macro_rules | `(tactic| k_mem) => `(tactic| first | exact List.mem_cons_self | (refine' List.mem_cons_of_mem _ ?_; k_mem) | ktr_member)
local macro_rules | `(tactic| k_all) => `(tactic| (with_reducible assumption))
local macro_rules | `(tactic| walk_at $k:str) => if ["eval BinOp", "eval Call", "eval Subscript", "eval Compare", "isTrue Compare", "eval Tuple", "eval List"].contains k.getString then `(tactic| (k_here; k_fold)) else Lean.Macro.throwUnsupported

section
variable {prog : Program} {w : World} {A : Around} {E : Value → Shared → Prop} {hp : Heap} {g : Array GenState} {d : Drawn} {tk : Nat} {os : OsState} {a : Addr} {o : Obj} {its : Array Value} {n : Nat}
theorem tup_ne_str {A : Around} {x : Str} {t : Tok} {Q : Fin → Shared → Prop} (hx : hp.get? a = some o) (hc : o.cls = .type "tuple") (h : Q (.done (.ret .notImplemented)) ⟨hp, g, d, tk, os⟩) :
    wpAny (model prog w) A (Builtin.«tuple.__ne__» ⟨[.ref a, .str x t], []⟩) Q E ⟨hp, g, d, tk, os⟩ := by
  have hT : (⟨hp, g, d, tk, os⟩ : Shared).TypeIs (.ref a) "tuple" := ⟨_, hx, hc⟩
  have hS : (⟨hp, g, d, tk, os⟩ : Shared).TypeIs (.str x t) "str" := typeIs_str _ x t
  have f1 : isSubtype (.type "str") (.type "tuple") = pure false := by rw [isSubtype_type]; kernel_rfl
  repeat (any_goals (first | assumption | wp_step))
theorem str_ne_tup {A : Around} {x : Str} {t : Tok} {Q : Fin → Shared → Prop} (hx : hp.get? a = some o) (hc : o.cls = .type "tuple") (hd : o.data = .seq its n) (h : Q (.done (.ret .notImplemented)) ⟨hp, g, d, tk, os⟩) :
    wpAny (model prog w) A (Builtin.«str.__ne__» ⟨[.str x t, .ref a], []⟩) Q E ⟨hp, g, d, tk, os⟩ := by
  have hT : (⟨hp, g, d, tk, os⟩ : Shared).TypeIs (.ref a) "tuple" := ⟨_, hx, hc⟩
  have hS : (⟨hp, g, d, tk, os⟩ : Shared).TypeIs (.str x t) "str" := typeIs_str _ x t
  have f1 : isSubtype (.type "tuple") (.type "str") = pure false := by rw [isSubtype_type]; kernel_rfl
  repeat (any_goals (first | assumption | wp_step))
  rw [hd]
  refine wpAny_pure ?_
  dsimp only
  repeat (any_goals (first | assumption | wp_step))
theorem ne_tup_str {s : Shared} {x : Str} {t : Tok} {Q : Value → Shared → Prop} (hx : s.heap.get? a = some o) (hc : o.cls = .type "tuple") (hd : o.data = .seq its n) (hu : A.units < cLine) (h : Q (.bool true) s) :
    wpAny (model prog w) A (compareOp .NotEq (.ref a) (.str x t)) Q E s := by
  have hT : s.TypeIs (.ref a) "tuple" := ⟨_, hx, hc⟩
  have hS : s.TypeIs (.str x t) "str" := typeIs_str s x t
  show wpAny _ A (richCompare .NotEq _ _) Q E s
  have h1 := F.slot_tuple_ne
  have h2 := F.slot_str_ne_refl
  rcases hi : cmpInfo CmpOp.NotEq with ⟨sym, f, r⟩
  rw [hi] at h1 h2
  simp only [richCompare, hi, hT.oneThing_none]
  refine wpAny_holding ?_
  refine wpAny_bind (wpAny_cRoomFor hu ?_)
  refine wpAny_bind (wpAny_typeOf hT (wpAny_bind (wpAny_typeOf hS ?_)))
  have hne : (Value.type "tuple" != Value.type "str") = true := by decide
  simp only [hne, if_true]
  refine wpAny_bind (wpAny_of_eq (by rw [isSubtype_type]; kernel_rfl : isSubtype (.type "str") (.type "tuple") = pure false) ?_)
  simp only [Bool.false_eq_true, if_false, Bool.not_false, if_true]
  refine wpAny_bind (m := tryCompare (.ref a) _ (.str x t)) (wpAny_tryCompare_declines hT h1 (wpAny_call_entry h1 hT F.entry_tuple_ne ?_ (F.args_tuple_ne_2 _ _)))
  obtain ⟨hp, g, d, tk, os⟩ := s
  refine tup_ne_str hx hc ⟨_, rfl, rfl, ?_⟩
  refine wpAny_bind (m := tryCompare (.str x t) _ (.ref a)) (wpAny_tryCompare_declines hS h2 (wpAny_call_entry h2 hS F.entry_str_ne ?_ (F.args_str_ne_2 _ _)))
  refine str_ne_tup hx hc hd ⟨_, rfl, rfl, ?_⟩
  refine wpAny_bind (wpAny_rule (wpAny_bind (wpAny_pure ?_)))
  exact wpAny_pure h
end
end PartNeTup
section PartCTurned
set_option maxRecDepth 100000
theorem off_CTurned : True := by
  w_top off
  trivial
local macro_rules | `(tactic| k_mem) => `(tactic| first | exact List.mem_cons_self | (refine' List.mem_cons_of_mem _ ?_; k_mem) | ktr_member)
local macro_rules | `(tactic| k_all) => `(tactic| (with_reducible assumption))
local macro_rules | `(tactic| walk_at $k:str) => if ["eval BinOp", "eval Call", "eval Subscript", "eval Compare", "isTrue Compare", "eval Tuple", "eval List"].contains k.getString then `(tactic| (k_here; k_fold)) else Lean.Macro.throwUnsupported
local macro_rules | `(tactic| walk_at "eval ListComp") => `(tactic| (k_here; k_dflt (refine' comp_list (by with_unfolding_all rfl) (by decide) (by exact rfl) (by decide) (by exact rfl) ?_ (by (intro _; exact rfl)))))

local macro_rules | `(tactic| walk_at $k:str) => if k.getString.startsWith "binaryOp Add ref ref" || k.getString.startsWith "call ref" then `(tactic| (k_here; refine stop_here ?_)) else Lean.Macro.throwUnsupported
noncomputable def turn1 : Tree → Option Tree
  | .fork (.fork p q) r => some (.fork p (.fork q r))
  | _ => none
noncomputable def turned : Tree → List Tree
  | .leaf _ => []
  | .fork l r => (turn1 (.fork l r)).toList ++ (turned l).map (fun o => .fork o r) ++ (turned r).map (fun o => .fork l o)
theorem turned_len : ∀ t : Tree, (turned t).length ≤ t.sz
  | .leaf _ => Nat.zero_le _
  | .fork l r => by
    have h1 := turned_len l
    have h2 := turned_len r
    have h3 : (turn1 (.fork l r)).toList.length ≤ 1 := by cases turn1 (.fork l r) <;> simp
    simp only [turned, Tree.sz, List.length_append, List.length_map]
    omega
abbrev listO (vs : List Value) (n : Nat) : Obj := W.listOf vs.toArray n
noncomputable def TreesIn (sg : Nat → Nat) (news : List (Addr × Obj)) (r : Value) (ts : List Tree) : Prop :=
  ∃ a vs n, r = .ref a ∧ (a, listO vs n) ∈ news ∧ Paired (TreeIn sg news) vs ts
theorem mem_of_news {h₀ h : Heap} {L : Addr} {x : Addr × Obj} {l : List (Addr × Obj)} (_ : News h₀ L h (x :: l)) : x ∈ x :: l := .head _
theorem paired_get {α β : Type} {R : α → β → Prop} : ∀ {xs : List α} {ys : List β}, Paired R xs ys → ∀ {i : Nat} {x : α}, xs[i]? = some x → ∃ y, ys[i]? = some y ∧ R x y
  | _, _, .nil, i, x, h => by simp at h
  | _, _, .cons h0 t, 0, x, h => by cases h; exact ⟨_, rfl, h0⟩
  | _, _, .cons h0 t, i + 1, x, h => paired_get t h
theorem paired_mono {α β : Type} {R R' : α → β → Prop} (k : ∀ x y, R x y → R' x y) : ∀ {xs : List α} {ys : List β}, Paired R xs ys → Paired R' xs ys
  | _, _, .nil => .nil
  | _, _, .cons h0 t => .cons (k _ _ h0) (paired_mono k t)
theorem paired_app {α β : Type} {R : α → β → Prop} {xs' : List α} {ys' : List β} (h' : Paired R xs' ys') : ∀ {xs : List α} {ys : List β}, Paired R xs ys → Paired R (xs ++ xs') (ys ++ ys')
  | _, _, .nil => h'
  | _, _, .cons h0 t => .cons h0 (paired_app h' t)
theorem comp_step {sg : Nat → Nat} {x : Addr × Obj} {nw : List (Addr × Obj)} {ys : List Value} {tsl : List Tree} {i : Nat} {t : Tree} {f : Tree → Tree} {y : Value} (hJ : Paired (TreeIn sg nw) ys ((tsl.take i).map f)) (ht : tsl[i]? = some t)
    (new : TreeIn sg (x :: nw) y (f t)) : Paired (TreeIn sg (x :: nw)) (ys ++ [y]) ((tsl.take (i + 1)).map f) := by
  rw [List.take_add_one, ht, List.map_append]
  exact Paired.snoc (paired_mono (fun _ _ h => h.mono fun p hp => .tail _ hp) hJ) new
theorem perm4 {a b c x : Addr × Obj} {l : List (Addr × Obj)} : ∀ p ∈ a :: b :: c :: x :: l, p ∈ x :: a :: b :: c :: l := by
  intro p hp
  simp only [List.mem_cons] at hp ⊢
  rcases hp with h | h | h | h | h <;> simp [h]
set_option maxHeartbeats 8000000 in
theorem turned_c (w : World) (sg : Nat → Nat) : ∀ (t : Tree) {news : List (Addr × Obj)} {v : Value}, TreeIn sg news v t → ConS w 138 [v] news (t.sz + 4) (fun all r => TreesIn sg all r (turned t)) := by
  intro t
  induction t with
  | leaf k =>
    intro news v ht
    cases ht
    unfold ConS
    intro p loose mean mg mb dp un gd env outer A₀ base g₀ h₀ L m s Q E B F X N T XB TB D T0 hf hk hd hu hret
    simp only [Tree.sz] at hd hu
    refine wpAny_call ?_
    k_dflt ((refine' enterSC ?k1 ?k2 ?k3 ?k4 ?k5 ?XB ?TB ?D ?T0 ?kA ?kF ?kK ?k6 ?k7 ?k8 ?k9 ?kB ?kD ?_ ?c2 ?c3 ?c4; (case kA => exact rfl); (case kF => first | exact rfl | assumption); (case kK => first | exact rfl | assumption); (case k1 => k_asm); (case k2 => k_asm); (case k3 => k_asm); (case k4 => k_asm); (case k5 => k_asm); (case XB => assumption); (case TB => assumption); (case D => assumption); (case T0 => first | assumption | exact KtsTurn.refl); (case k6 => k_is); (case k7 => k_is); (case k8 => ktr_room); (case k9 => first | exact BindsTo.of_eq rfl | exact binds_K (by assumption) rfl (by k_is) rfl rfl rfl | exact binds_K (by k_in) rfl (by k_is) rfl rfl rfl); (case kB => exact rfl); (case kD => decide +kernel); (case c2 => exact rfl); (case c3 => exact rfl); (case c4 => exact rfl); k_whole; intro qg' qL' qh' qtk' qcells' qFG' qF' qN' qY' qB' qX' qT' qD' ql1; k_cells qY'; (try simp only [List.cons_append, List.nil_append] at qN'); (try dsimp only); (try k_fold)))
    rename _ = Data.cell _ => d1
    replace d1 : _ = Data.cell (some _) := d1
    k_steps
    refine ⟨?_⟩
    k_dflt (refine' conS_use ?k1 ?k2 ?k3 ?k4 ?k5 ?XB ?TB ?D ?T0 (safe_l w) ?kf ?kK ?kd ?ku ?_; (((case k1 => k_asm); (case k2 => k_asm); (case k3 => k_asm); (case k4 => k_asm); (case k5 => k_asm); (case kf => first | exact rfl | assumption); (case kK => first | exact rfl | assumption); (case kd => ktr_room); (case ku => ktr_units)); (case XB => assumption); (case TB => assumption); (case D => assumption); (case T0 => first | assumption | exact KtsTurn.refl)))
    intro r9 tl9 h9 tk9 g9 F9 N9 hl9 ho9 T9 B9 X9 P9 D9
    try k_fold
    obtain ⟨t9, e9⟩ := ho9
    subst e9
    replace N9 := cb_drop N9 hl9
    clear hl9
    k_steps
    exact hret _ _ _ _ _ (by k_asm) (by k_asm) (fun p hp => .tail _ (.tail _ hp)) ⟨_, [], 0, rfl, .head _, .nil⟩ (by assumption) (by assumption) (by assumption) (by assumption) (by assumption)
  | fork l r ihl ihr =>
    intro news v ht
    try k_fold
    cases ht; rename_i a v1 v2 n hm h1 h2
    unfold ConS
    intro p loose mean mg mb dp un gd env outer A₀ base g₀ h₀ L m s Q E B F X N T XB TB D T0 hf hk hd hu hret
    have hzl := Tree.sz_pos l
    have hzr := Tree.sz_pos r
    have hzl2 := turned_len l
    have hzr2 := turned_len r
    simp only [Tree.sz] at hd hu
    try k_fold
    obtain ⟨tsl, hts⟩ : ∃ x, x = turned l := ⟨_, rfl⟩
    rw [← hts] at ihl hzl2
    refine wpAny_call ?_
    k_dflt ((refine' enterSC ?k1 ?k2 ?k3 ?k4 ?k5 ?XB ?TB ?D ?T0 ?kA ?kF ?kK ?k6 ?k7 ?k8 ?k9 ?kB ?kD ?_ ?c2 ?c3 ?c4; (case kA => exact rfl); (case kF => first | exact rfl | assumption); (case kK => first | exact rfl | assumption); (case k1 => k_asm); (case k2 => k_asm); (case k3 => k_asm); (case k4 => k_asm); (case k5 => k_asm); (case XB => assumption); (case TB => assumption); (case D => assumption); (case T0 => first | assumption | exact KtsTurn.refl); (case k6 => k_is); (case k7 => k_is); (case k8 => ktr_room); (case k9 => first | exact BindsTo.of_eq rfl | exact binds_K (by assumption) rfl (by k_is) rfl rfl rfl | exact binds_K (by k_in) rfl (by k_is) rfl rfl rfl); (case kB => exact rfl); (case kD => decide +kernel); (case c2 => exact rfl); (case c3 => exact rfl); (case c4 => exact rfl); k_whole; intro qg' qL' qh' qtk' qcells' qFG' qF' qN' qY' qB' qX' qT' qD' ql1; k_cells qY'; (try simp only [List.cons_append, List.nil_append] at qN'); (try dsimp only); (try k_fold)))
    rename _ = Data.cell _ => d1
    replace d1 : _ = Data.cell (some _) := d1
    k_steps
    rename News _ _ _ (_ :: _) => N1
    have hcm := mem_of_news N1
    try k_fold
    cases h1 with
    | leaf =>
      rename_i k0 tk0
      refine ⟨?_⟩
      k_dflt (refine' conS_use ?k1 ?k2 ?k3 ?k4 ?k5 ?XB ?TB ?D ?T0 (safe_fl w (.tail _ hm)) ?kf ?kK ?kd ?ku ?_; (((case k1 => k_asm); (case k2 => k_asm); (case k3 => k_asm); (case k4 => k_asm); (case k5 => k_asm); (case kf => first | exact rfl | assumption); (case kK => first | exact rfl | assumption); (case kd => ktr_room); (case ku => ktr_units)); (case XB => assumption); (case TB => assumption); (case D => assumption); (case T0 => first | assumption | exact KtsTurn.refl)))
      intro r9 all0 h9 tk9 g9 F9 N9 sub0 ho9 T9 B9 X9 P9 D9
      try k_fold
      obtain ⟨t9, e9⟩ := ho9
      subst e9
      have hs0 : ∀ p ∈ news, p ∈ all0 := fun p hp => sub0 p (.tail _ hp)
      have hc0 := sub0 _ hcm
      have hm0 := hs0 _ hm
      have hp0 : Paired (TreeIn sg all0) [] (turn1 (.fork (.leaf k0) r)).toList := .nil
      k_steps
      refine ⟨?_⟩
      k_dflt (refine' conS_use ?k1 ?k2 ?k3 ?k4 ?k5 ?XB ?TB ?D ?T0 (ihl ?kR) ?kf ?kK ?kd ?ku ?_; (((case k1 => k_asm); (case k2 => k_asm); (case k3 => k_asm); (case k4 => k_asm); (case k5 => k_asm); (case kf => first | exact rfl | assumption); (case kK => first | exact rfl | assumption); (case kd => ktr_room); (case ku => ktr_units)); (case XB => assumption); (case TB => assumption); (case D => assumption); (case T0 => first | assumption | exact KtsTurn.refl)); (case kR => exact TreeIn.mono (TreeIn.leaf (sg := sg) (news := news) (k := k0) (tk := tk0)) fun p hp => .tail _ (hs0 p hp)))
      intro r9 all1 h9 tk9 g9 F9 N9 sub1 ho9 T9 B9 X9 P9 D9
      try k_fold
      obtain ⟨a9, vs9, n9, e9, hm9, hp9⟩ := ho9
      subst e9
      have hc2 := sub1 _ (.tail _ hc0)
      have hm2 := sub1 _ (.tail _ hm0)
      have hl2 := sub1 _ (List.mem_cons_self)
      have h12 := TreeIn.mono (TreeIn.leaf (sg := sg) (news := news) (k := k0) (tk := tk0)) fun p hp => sub1 _ (.tail _ (hs0 p hp))
      have h22 := h2.mono fun p hp => sub1 _ (.tail _ (hs0 p hp))
      have hp0' := paired_mono (fun _ _ h => TreeIn.mono h fun p hp => sub1 _ (.tail _ hp)) hp0
      have hlen := hp9.length
      try dsimp only
      refine ⟨_, _, _, _, vs9.toArray, all1, fun ys nw => (∀ p ∈ all1, p ∈ nw) ∧ Paired (TreeIn sg nw) ys (tsl.map fun o => Tree.fork o r), rfl, rfl, F9, N9, .inr ⟨_, hm9, rfl, _, rfl⟩, ?_,
        fun g => rest_of (fun i ys nw => (∀ p ∈ all1, p ∈ nw) ∧ Paired (TreeIn sg nw) ys ((tsl.take i).map fun o => Tree.fork o r)) ?_ ?_ _ 0 [] all1 (Nat.zero_add _) ⟨fun _ h => h, .nil⟩, ?_⟩
      · rw [List.size_toArray, hlen]
        simp only [recursionLimit] at hd
        rw [sizeLine_eq]
        omega
      · intro i v ys nw I oI C oC D m₂ h tk E' hi hJ hP hC hx F' N' off ne
        try k_fold
        obtain ⟨sub2, hp2⟩ := hJ
        have hc3 := sub2 _ hc2
        have hm3 := sub2 _ hm2
        try k_fold
        obtain ⟨t3, ht3, hv3⟩ := paired_get hp9 (by simpa using hP)
        try dsimp only
        k_steps
        rename (_ ∧ _) => hlt
        exact LCg.CompEnd.intro (by k_asm) (by k_asm) ((_, _) :: nw) perm4 ⟨⟨Nat.ne_of_gt hlt.1, Nat.ne_of_gt hlt.2.1, Nat.ne_of_gt hlt.2.2.1⟩, off⟩ (.inr ⟨_, .tail _ (sub2 _ hm9), rfl, _, rfl⟩) ⟨fun p hp => .tail _ (sub2 p hp), comp_step hp2 ht3 (.fork List.mem_cons_self (hv3.mono fun p hp => .tail _ (sub2 p hp)) (h22.mono fun p hp => .tail _ (sub2 p hp)))⟩
      · rintro ys nw zz1
        try dsimp only
        try k_fold
        obtain ⟨q1, q2⟩ := zz1
        rw [List.size_toArray, hlen, List.take_length] at q2
        exact ⟨q1, q2⟩
      rintro ys nw D1 h3 tk3 zz2 F3 N3 off3
      try dsimp only
      try k_fold
      obtain ⟨sub3, hp3⟩ := zz2
      have hl3 := sub3 _ hl2
      have hc3 := sub3 _ hc2
      have hm3 := sub3 _ hm2
      have h13 := h12.mono sub3
      have h23 := h22.mono sub3
      have hp3' := paired_app hp3 (paired_mono (fun _ _ h => TreeIn.mono h sub3) hp0')
      have hlen3 := hp3.length
      rw [List.length_map] at hlen3
      k_steps
      refine ⟨add_lists (vs := []) (ws := ys) F3 N3 ⟨_, (N3 _ (.tail _ hl3)).1, rfl, _, rfl⟩ ⟨_, (N3 _ List.mem_cons_self).1, rfl, _, rfl⟩ ?_ ?_⟩
      case refine_2 =>
        simp only [recursionLimit] at hd
        rw [sizeLine_eq, hlen3]
        simp only [List.length_cons, List.length_nil]
        omega
      intro h4 F4 N4
      k_steps
      refine ⟨?_⟩
      k_dflt (refine' conS_use ?k1 ?k2 ?k3 ?k4 ?k5 ?XB ?TB ?D ?T0 (ihr ?kR) ?kf ?kK ?kd ?ku ?_; (((case k1 => k_asm); (case k2 => k_asm); (case k3 => k_asm); (case k4 => k_asm); (case k5 => k_asm); (case kf => first | exact rfl | assumption); (case kK => first | exact rfl | assumption); (case kd => ktr_room); (case ku => ktr_units)); (case XB => assumption); (case TB => assumption); (case D => assumption); (case T0 => first | assumption | exact KtsTurn.refl)); (case kR => exact TreeIn.mono h23 fun p hp => .tail _ (.tail _ hp)))
      intro r5 all5 h5 tk5 g5 F5 N5 sub5 ho5 T5 B5 X5 P5 D5
      try k_fold
      obtain ⟨a5, vs5, n5, e5, hm5, hp5⟩ := ho5
      subst e5
      have hc6 := sub5 _ (.tail _ (.tail _ hc3))
      have hm6 := sub5 _ (.tail _ (.tail _ hm3))
      have hl6 := sub5 _ (List.mem_cons_self)
      have h16 := h13.mono fun p hp => sub5 _ (.tail _ (.tail _ hp))
      have hp6 := paired_mono (fun _ _ h => TreeIn.mono h fun p hp => sub5 _ (.tail _ (.tail _ hp))) hp3'
      have hlen5 := hp5.length
      try dsimp only
      refine ⟨_, _, _, _, vs5.toArray, all5, fun ys nw => (∀ p ∈ all5, p ∈ nw) ∧ Paired (TreeIn sg nw) ys ((turned r).map fun o => Tree.fork (.leaf k0) o), rfl, rfl, F5, N5, .inr ⟨_, hm5, rfl, _, rfl⟩, ?_,
        fun g => rest_of (fun i ys nw => (∀ p ∈ all5, p ∈ nw) ∧ Paired (TreeIn sg nw) ys (((turned r).take i).map fun o => Tree.fork (.leaf k0) o)) ?_ ?_ _ 0 [] all5 (Nat.zero_add _) ⟨fun _ h => h, .nil⟩, ?_⟩
      · rw [List.size_toArray, hlen5]
        simp only [recursionLimit] at hd
        rw [sizeLine_eq]
        omega
      · intro i v ys nw I oI C oC D m₂ h tk E' hi hJ hP hC hx F' N' off ne
        try k_fold
        obtain ⟨sub2, hp2⟩ := hJ
        have hc7 := sub2 _ hc6
        have hm7 := sub2 _ hm6
        try k_fold
        obtain ⟨t3, ht3, hv3⟩ := paired_get hp5 (by simpa using hP)
        try dsimp only
        k_steps
        rename (_ ∧ _) => hlt
        exact LCg.CompEnd.intro (by k_asm) (by k_asm) ((_, _) :: nw) perm4 ⟨⟨Nat.ne_of_gt hlt.1, Nat.ne_of_gt hlt.2.1, Nat.ne_of_gt hlt.2.2.1⟩, off⟩ (.inr ⟨_, .tail _ (sub2 _ hm5), rfl, _, rfl⟩) ⟨fun p hp => .tail _ (sub2 p hp), comp_step hp2 ht3 (.fork List.mem_cons_self (h16.mono fun p hp => .tail _ (sub2 p hp)) (hv3.mono fun p hp => .tail _ (sub2 p hp)))⟩
      · rintro ys nw zz3
        try dsimp only
        try k_fold
        obtain ⟨q1, q2⟩ := zz3
        rw [List.size_toArray, hlen5, List.take_length] at q2
        exact ⟨q1, q2⟩
      rintro ys2 nw2 D2 h7 tk7 zz4 F7 N7 off7
      try dsimp only
      try k_fold
      obtain ⟨sub7, hp7⟩ := zz4
      have hl7 := sub7 _ hl6
      have hp7' := paired_app hp7 (paired_mono (fun _ _ h => TreeIn.mono h sub7) hp6)
      have hlen7 := hp7.length
      rw [List.length_map] at hlen7
      k_steps
      refine ⟨add_lists (vs := [] ++ ys) (ws := ys2) F7 N7 ⟨_, (N7 _ (.tail _ hl7)).1, rfl, _, rfl⟩ ⟨_, (N7 _ List.mem_cons_self).1, rfl, _, rfl⟩ ?_ ?_⟩
      case refine_2 =>
        simp only [recursionLimit] at hd
        rw [sizeLine_eq, hlen7, List.length_append, hlen3]
        simp only [List.length_cons, List.length_nil]
        omega
      intro h8 F8 N8
      k_steps
      refine hret _ _ _ _ _ (by k_asm) (by k_asm) (fun p hp => .tail _ (.tail _ (sub7 _ (sub5 _ (.tail _ (.tail _ (sub3 _ (sub1 _ (.tail _ (hs0 p hp)))))))))) ⟨_, _, 0, rfl, List.mem_cons_self, ?_⟩ (by assumption) (by assumption) (by assumption) (by assumption) (by assumption)
      rw [turned, ← hts]
      exact paired_mono (fun _ _ h => TreeIn.mono h fun p hp => .tail _ (.tail _ hp)) hp7'
    | fork hm' h1 h1' =>
      rename_i b w1 w2 lp lq n'
      refine ⟨?_⟩
      k_dflt (refine' conS_use ?k1 ?k2 ?k3 ?k4 ?k5 ?XB ?TB ?D ?T0 (safe_ff w (.tail _ hm) (.tail _ hm')) ?kf ?kK ?kd ?ku ?_; (((case k1 => k_asm); (case k2 => k_asm); (case k3 => k_asm); (case k4 => k_asm); (case k5 => k_asm); (case kf => first | exact rfl | assumption); (case kK => first | exact rfl | assumption); (case kd => ktr_room); (case ku => ktr_units)); (case XB => assumption); (case TB => assumption); (case D => assumption); (case T0 => first | assumption | exact KtsTurn.refl)))
      intro r9 all0 h9 tk9 g9 F9 N9 sub0 ho9 T9 B9 X9 P9 D9
      try k_fold
      obtain ⟨c9, d9, e9, hc9, hd9⟩ := ho9
      subst e9
      have hs0 : ∀ p ∈ news, p ∈ all0 := fun p hp => sub0 p (.tail _ hp)
      have hc0 := sub0 _ hcm
      have hm0 := hs0 _ hm
      have hp0 : Paired (TreeIn sg all0) [.ref c9] (turn1 (.fork (.fork lp lq) r)).toList := .cons (.fork hc9 (h1.mono hs0) (.fork hd9 (h1'.mono hs0) (h2.mono hs0))) .nil
      k_steps
      refine ne_tup_str (News.get (by k_asm) (List.mem_cons_of_mem _ hc9)) rfl rfl (by ktr_units) ?_
      k_steps
      refine ⟨?_⟩
      k_dflt (refine' conS_use ?k1 ?k2 ?k3 ?k4 ?k5 ?XB ?TB ?D ?T0 (ihl ?kR) ?kf ?kK ?kd ?ku ?_; (((case k1 => k_asm); (case k2 => k_asm); (case k3 => k_asm); (case k4 => k_asm); (case k5 => k_asm); (case kf => first | exact rfl | assumption); (case kK => first | exact rfl | assumption); (case kd => ktr_room); (case ku => ktr_units)); (case XB => assumption); (case TB => assumption); (case D => assumption); (case T0 => first | assumption | exact KtsTurn.refl)); (case kR => exact TreeIn.mono (TreeIn.fork hm' h1 h1') fun p hp => .tail _ (hs0 p hp)))
      intro r9 all1 h9 tk9 g9 F9 N9 sub1 ho9 T9 B9 X9 P9 D9
      try k_fold
      obtain ⟨a9, vs9, n9, e9, hm9, hp9⟩ := ho9
      subst e9
      have hc2 := sub1 _ (.tail _ hc0)
      have hm2 := sub1 _ (.tail _ hm0)
      have hl2 := sub1 _ (List.mem_cons_self)
      have h12 := TreeIn.mono (TreeIn.fork hm' h1 h1') fun p hp => sub1 _ (.tail _ (hs0 p hp))
      have h22 := h2.mono fun p hp => sub1 _ (.tail _ (hs0 p hp))
      have hp0' := paired_mono (fun _ _ h => TreeIn.mono h fun p hp => sub1 _ (.tail _ hp)) hp0
      have hlen := hp9.length
      try dsimp only
      refine ⟨_, _, _, _, vs9.toArray, all1, fun ys nw => (∀ p ∈ all1, p ∈ nw) ∧ Paired (TreeIn sg nw) ys (tsl.map fun o => Tree.fork o r), rfl, rfl, F9, N9, .inr ⟨_, hm9, rfl, _, rfl⟩, ?_,
        fun g => rest_of (fun i ys nw => (∀ p ∈ all1, p ∈ nw) ∧ Paired (TreeIn sg nw) ys ((tsl.take i).map fun o => Tree.fork o r)) ?_ ?_ _ 0 [] all1 (Nat.zero_add _) ⟨fun _ h => h, .nil⟩, ?_⟩
      · rw [List.size_toArray, hlen]
        simp only [recursionLimit] at hd
        rw [sizeLine_eq]
        omega
      · intro i v ys nw I oI C oC D m₂ h tk E' hi hJ hP hC hx F' N' off ne
        try k_fold
        obtain ⟨sub2, hp2⟩ := hJ
        have hc3 := sub2 _ hc2
        have hm3 := sub2 _ hm2
        try k_fold
        obtain ⟨t3, ht3, hv3⟩ := paired_get hp9 (by simpa using hP)
        try dsimp only
        k_steps
        rename (_ ∧ _) => hlt
        exact LCg.CompEnd.intro (by k_asm) (by k_asm) ((_, _) :: nw) perm4 ⟨⟨Nat.ne_of_gt hlt.1, Nat.ne_of_gt hlt.2.1, Nat.ne_of_gt hlt.2.2.1⟩, off⟩ (.inr ⟨_, .tail _ (sub2 _ hm9), rfl, _, rfl⟩) ⟨fun p hp => .tail _ (sub2 p hp), comp_step hp2 ht3 (.fork List.mem_cons_self (hv3.mono fun p hp => .tail _ (sub2 p hp)) (h22.mono fun p hp => .tail _ (sub2 p hp)))⟩
      · rintro ys nw zz5
        try dsimp only
        try k_fold
        obtain ⟨q1, q2⟩ := zz5
        rw [List.size_toArray, hlen, List.take_length] at q2
        exact ⟨q1, q2⟩
      rintro ys nw D1 h3 tk3 zz6 F3 N3 off3
      try dsimp only
      try k_fold
      obtain ⟨sub3, hp3⟩ := zz6
      have hl3 := sub3 _ hl2
      have hc3 := sub3 _ hc2
      have hm3 := sub3 _ hm2
      have h13 := h12.mono sub3
      have h23 := h22.mono sub3
      have hp3' := paired_app hp3 (paired_mono (fun _ _ h => TreeIn.mono h sub3) hp0')
      have hlen3 := hp3.length
      rw [List.length_map] at hlen3
      k_steps
      refine ⟨add_lists (vs := [.ref c9]) (ws := ys) F3 N3 ⟨_, (N3 _ (.tail _ hl3)).1, rfl, _, rfl⟩ ⟨_, (N3 _ List.mem_cons_self).1, rfl, _, rfl⟩ ?_ ?_⟩
      case refine_2 =>
        simp only [recursionLimit] at hd
        rw [sizeLine_eq, hlen3]
        simp only [List.length_cons, List.length_nil]
        omega
      intro h4 F4 N4
      k_steps
      refine ⟨?_⟩
      k_dflt (refine' conS_use ?k1 ?k2 ?k3 ?k4 ?k5 ?XB ?TB ?D ?T0 (ihr ?kR) ?kf ?kK ?kd ?ku ?_; (((case k1 => k_asm); (case k2 => k_asm); (case k3 => k_asm); (case k4 => k_asm); (case k5 => k_asm); (case kf => first | exact rfl | assumption); (case kK => first | exact rfl | assumption); (case kd => ktr_room); (case ku => ktr_units)); (case XB => assumption); (case TB => assumption); (case D => assumption); (case T0 => first | assumption | exact KtsTurn.refl)); (case kR => exact TreeIn.mono h23 fun p hp => .tail _ (.tail _ hp)))
      intro r5 all5 h5 tk5 g5 F5 N5 sub5 ho5 T5 B5 X5 P5 D5
      try k_fold
      obtain ⟨a5, vs5, n5, e5, hm5, hp5⟩ := ho5
      subst e5
      have hc6 := sub5 _ (.tail _ (.tail _ hc3))
      have hm6 := sub5 _ (.tail _ (.tail _ hm3))
      have hl6 := sub5 _ (List.mem_cons_self)
      have h16 := h13.mono fun p hp => sub5 _ (.tail _ (.tail _ hp))
      have hp6 := paired_mono (fun _ _ h => TreeIn.mono h fun p hp => sub5 _ (.tail _ (.tail _ hp))) hp3'
      have hlen5 := hp5.length
      try dsimp only
      refine ⟨_, _, _, _, vs5.toArray, all5, fun ys nw => (∀ p ∈ all5, p ∈ nw) ∧ Paired (TreeIn sg nw) ys ((turned r).map fun o => Tree.fork (.fork lp lq) o), rfl, rfl, F5, N5, .inr ⟨_, hm5, rfl, _, rfl⟩, ?_,
        fun g => rest_of (fun i ys nw => (∀ p ∈ all5, p ∈ nw) ∧ Paired (TreeIn sg nw) ys (((turned r).take i).map fun o => Tree.fork (.fork lp lq) o)) ?_ ?_ _ 0 [] all5 (Nat.zero_add _) ⟨fun _ h => h, .nil⟩, ?_⟩
      · rw [List.size_toArray, hlen5]
        simp only [recursionLimit] at hd
        rw [sizeLine_eq]
        omega
      · intro i v ys nw I oI C oC D m₂ h tk E' hi hJ hP hC hx F' N' off ne
        try k_fold
        obtain ⟨sub2, hp2⟩ := hJ
        have hc7 := sub2 _ hc6
        have hm7 := sub2 _ hm6
        try k_fold
        obtain ⟨t3, ht3, hv3⟩ := paired_get hp5 (by simpa using hP)
        try dsimp only
        k_steps
        rename (_ ∧ _) => hlt
        exact LCg.CompEnd.intro (by k_asm) (by k_asm) ((_, _) :: nw) perm4 ⟨⟨Nat.ne_of_gt hlt.1, Nat.ne_of_gt hlt.2.1, Nat.ne_of_gt hlt.2.2.1⟩, off⟩ (.inr ⟨_, .tail _ (sub2 _ hm5), rfl, _, rfl⟩) ⟨fun p hp => .tail _ (sub2 p hp), comp_step hp2 ht3 (.fork List.mem_cons_self (h16.mono fun p hp => .tail _ (sub2 p hp)) (hv3.mono fun p hp => .tail _ (sub2 p hp)))⟩
      · rintro ys nw zz7
        try dsimp only
        try k_fold
        obtain ⟨q1, q2⟩ := zz7
        rw [List.size_toArray, hlen5, List.take_length] at q2
        exact ⟨q1, q2⟩
      rintro ys2 nw2 D2 h7 tk7 zz8 F7 N7 off7
      try dsimp only
      try k_fold
      obtain ⟨sub7, hp7⟩ := zz8
      have hl7 := sub7 _ hl6
      have hp7' := paired_app hp7 (paired_mono (fun _ _ h => TreeIn.mono h sub7) hp6)
      have hlen7 := hp7.length
      rw [List.length_map] at hlen7
      k_steps
      refine ⟨add_lists (vs := [.ref c9] ++ ys) (ws := ys2) F7 N7 ⟨_, (N7 _ (.tail _ hl7)).1, rfl, _, rfl⟩ ⟨_, (N7 _ List.mem_cons_self).1, rfl, _, rfl⟩ ?_ ?_⟩
      case refine_2 =>
        simp only [recursionLimit] at hd
        rw [sizeLine_eq, hlen7, List.length_append, hlen3]
        simp only [List.length_cons, List.length_nil]
        omega
      intro h8 F8 N8
      k_steps
      refine hret _ _ _ _ _ (by k_asm) (by k_asm) (fun p hp => .tail _ (.tail _ (sub7 _ (sub5 _ (.tail _ (.tail _ (sub3 _ (sub1 _ (.tail _ (hs0 p hp)))))))))) ⟨_, _, 0, rfl, List.mem_cons_self, ?_⟩ (by assumption) (by assumption) (by assumption) (by assumption) (by assumption)
      rw [turned, ← hts]
      exact paired_mono (fun _ _ h => TreeIn.mono h fun p hp => .tail _ (.tail _ hp)) hp7'
end PartCTurned
section PartCRests
set_option maxRecDepth 100000
theorem off_CRests : True := by
  w_top off
  trivial
local macro_rules | `(tactic| k_mem) => `(tactic| first | exact List.mem_cons_self | (refine' List.mem_cons_of_mem _ ?_; k_mem) | ktr_member)
local macro_rules | `(tactic| k_all) => `(tactic| (with_reducible assumption))
local macro_rules | `(tactic| walk_at $k:str) => if ["eval BinOp", "eval Call", "eval Subscript", "eval Compare", "isTrue Compare", "eval Tuple", "eval List"].contains k.getString then `(tactic| (k_here; k_fold)) else Lean.Macro.throwUnsupported

noncomputable def rests : Tree → List Int
  | .leaf _ => []
  | .fork l r => rests l ++ [((rests r).length : Int)] ++ rests r
theorem rests_len : ∀ t : Tree, (rests t).length ≤ t.sz
  | .leaf _ => Nat.zero_le _
  | .fork l r => by
    have h1 := rests_len l
    have h2 := rests_len r
    simp only [rests, Tree.sz, List.length_append, List.length_singleton]
    omega
noncomputable def IntsIn (news : List (Addr × Obj)) (r : Value) (ns : List Int) : Prop :=
  ∃ a vs n, r = .ref a ∧ (a, listO vs n) ∈ news ∧ IntsAre vs ns
theorem IntsIn.mono {news news' : List (Addr × Obj)} {r : Value} {ns : List Int} (h : IntsIn news r ns) (k : ∀ p ∈ news, p ∈ news') : IntsIn news' r ns :=
  let ⟨a, vs, n, e, hm, hi⟩ := h
  ⟨a, vs, n, e, k _ hm, hi⟩
theorem allLt_memR {d : Addr} : ∀ {l : List (Addr × Obj)}, AllLt d l → ∀ p ∈ l, @LT.lt Nat _ p.1 d
  | [], _, _, h => nomatch h
  | _ :: _, h, p, hp => by
    rcases List.mem_cons.mp hp with rfl | hp
    · exact h.1
    · exact allLt_memR h.2 p hp
/-- a list of ints that was not there before -/
noncomputable def IntsNew (news all : List (Addr × Obj)) (r : Value) (ns : List Int) : Prop :=
  ∃ a vs n, r = .ref a ∧ (a, listO vs n) ∈ all ∧ IntsAre vs ns ∧ ∀ p ∈ news, p.1 ≠ a
set_option maxHeartbeats 8000000 in
theorem rests_c (w : World) (sg : Nat → Nat) : ∀ (t : Tree) {news : List (Addr × Obj)} {v : Value}, TreeIn sg news v t → Con w 157 [v] news t.sz (fun all r => IntsNew news all r (rests t)) := by
  intro t
  induction t with
  | leaf k =>
    intro news v ht
    cases ht
    unfold Con
    intro p loose mean mg mb dp un gd env outer A₀ base h₀ L m s Q E B F X N T hf hk hd hu hret
    simp only [Tree.sz] at hd hu
    refine wpAny_call ?_
    k_dflt ((refine' code_def ?k1 ?k2 ?k3 ?k4 ?k5 ?kA ?kF ?kK ?k6 ?k7 ?k8 ?k9 ?kB ?_ ?c2 ?c3 ?c4 ?c5; (case kA => exact rfl); (case kF => first | exact rfl | assumption); (case kK => first | exact rfl | assumption); (case k1 => k_asm); (case k2 => k_asm); (case k3 => k_asm); (case k4 => k_asm); (case k5 => k_asm); (case k6 => k_is); (case k7 => k_is); (case k8 => ktr_room); (case k9 => first | exact BindsTo.of_eq rfl | exact binds_K (by assumption) rfl (by k_is) rfl rfl rfl | exact binds_K (by k_in) rfl (by k_is) rfl rfl rfl); (case c5 => decide); (case kB => exact locs rfl); (case c2 => exact rfl); (case c3 => exact rfl); (case c4 => exact rfl); k_whole; intro qg' qL' qh' qFG' qF' qN' qB' qX' qT'; (try dsimp only); (try k_fold)))
    k_steps
    rename ∀ p ∈ news, p.1 < _ => l1
    exact hret _ _ _ _ (by k_asm) (by k_asm) (fun _ h => .tail _ h) ⟨_, [], 0, rfl, List.mem_cons_self, .nil, fun p hp => Nat.ne_of_lt (l1 p hp)⟩
  | fork l r ihl ihr =>
    intro news v ht
    try k_fold
    cases ht; rename_i a v1 v2 n hm h1 h2
    unfold Con
    intro p loose mean mg mb dp un gd env outer A₀ base h₀ L m s Q E B F X N T hf hk hd hu hret
    have hzl := Tree.sz_pos l
    have hzr := Tree.sz_pos r
    have hzl2 := rests_len l
    have hzr2 := rests_len r
    simp only [Tree.sz] at hd hu
    refine wpAny_call ?_
    k_dflt ((refine' code_def ?k1 ?k2 ?k3 ?k4 ?k5 ?kA ?kF ?kK ?k6 ?k7 ?k8 ?k9 ?kB ?_ ?c2 ?c3 ?c4 ?c5; (case kA => exact rfl); (case kF => first | exact rfl | assumption); (case kK => first | exact rfl | assumption); (case k1 => k_asm); (case k2 => k_asm); (case k3 => k_asm); (case k4 => k_asm); (case k5 => k_asm); (case k6 => k_is); (case k7 => k_is); (case k8 => ktr_room); (case k9 => first | exact BindsTo.of_eq rfl | exact binds_K (by assumption) rfl (by k_is) rfl rfl rfl | exact binds_K (by k_in) rfl (by k_is) rfl rfl rfl); (case c5 => decide); (case kB => exact locs rfl); (case c2 => exact rfl); (case c3 => exact rfl); (case c4 => exact rfl); k_whole; intro qg' qL' qh' qFG' qF' qN' qB' qX' qT'; (try dsimp only); (try k_fold)))
    k_steps
    k_dflt (refine' con_use ?k1 ?k2 ?k3 ?k4 ?k5 (ihr h2) ?kf ?kK ?kd ?ku ?_; ((case k1 => k_asm); (case k2 => k_asm); (case k3 => k_asm); (case k4 => k_asm); (case k5 => k_asm); (case kf => first | exact rfl | assumption); (case kK => first | exact rfl | assumption); (case kd => ktr_room); (case ku => ktr_units)))
    intro r9 all1 h9 tk9 F9 N9 sub1 ho9
    try k_fold
    obtain ⟨a9, vs9, n9, e9, hm9, hi9, -⟩ := ho9
    subst e9
    have hm1 := sub1 _ hm
    k_steps
    k_dflt (refine' con_use ?k1 ?k2 ?k3 ?k4 ?k5 (ihl (h1.mono sub1)) ?kf ?kK ?kd ?ku ?_; ((case k1 => k_asm); (case k2 => k_asm); (case k3 => k_asm); (case k4 => k_asm); (case k5 => k_asm); (case kf => first | exact rfl | assumption); (case kK => first | exact rfl | assumption); (case kd => ktr_room); (case ku => ktr_units)))
    intro r5 all5 h5 tk5 F5 N5 sub5 ho5
    try k_fold
    obtain ⟨a5, vs5, n5, e5, hm5, hi5, -⟩ := ho5
    subst e5
    have hm6 := sub5 _ hm9
    k_steps
    have hlen9 := hi9.length
    refine len_list ⟨_, News.get N5 hm6, rfl, _, rfl⟩ ?_ ?_
    · simp only [recursionLimit] at hd
      rw [List.size_toArray, hlen9]
      omega
    rw [List.size_toArray, hlen9]
    k_steps
    rename News _ _ _ _ => N6
    rename Fr _ _ _ _ => F6
    have hlen5 := hi5.length
    simp only [recursionLimit] at hd
    refine add_lists (vs := vs5) (ws := [_]) F6 N6 ⟨_, N6.get (.tail _ hm5), rfl, _, rfl⟩ ⟨_, N6.get List.mem_cons_self, rfl, _, rfl⟩ ?_ (by rw [sizeLine_eq, hlen5]; simp only [List.length_cons, List.length_nil]; omega)
    intro h7 F7 N7
    k_steps
    rename IntsAre _ _ => hI
    rename _ < _ ∧ _ => l8
    refine hret _ _ _ _ (by k_asm) (by k_asm) (fun _ h => .tail _ (.tail _ (.tail _ (sub5 _ (sub1 _ h))))) ⟨_, _, 0, rfl, List.mem_cons_self, ?_, fun p hp => Nat.ne_of_lt (allLt_memR l8.2.2 p (sub5 _ (sub1 _ hp)))⟩
    exact hI
end PartCRests
section PartLoops
set_option maxRecDepth 100000
theorem off_Loops : True := by
  w_top off
  trivial
local macro_rules | `(tactic| k_mem) => `(tactic| first | exact List.mem_cons_self | (refine' List.mem_cons_of_mem _ ?_; k_mem) | ktr_member)
local macro_rules | `(tactic| k_all) => `(tactic| (with_reducible assumption))
local macro_rules | `(tactic| walk_at $k:str) => if ["eval BinOp", "eval Call", "eval Subscript", "eval Compare", "isTrue Compare", "eval Tuple", "eval List"].contains k.getString then `(tactic| (k_here; k_fold)) else Lean.Macro.throwUnsupported

section
open PySem.W
noncomputable def plainC (c : String) : Bool := c == "list" || c == "tuple" || c == "dict" || c == "cell"
noncomputable def plainO (o : Obj) : Bool := match o.cls with
  | .type c => plainC c
  | _ => false
noncomputable def noIt (all : List (Addr × Obj)) : List (Addr × Obj) := all.filter fun p => plainO p.2
theorem mem_noIt {all : List (Addr × Obj)} {p : Addr × Obj} (h : p ∈ all) (k : plainO p.2 = true) : p ∈ noIt all := List.mem_filter.mpr ⟨h, k⟩
noncomputable def Kn (m : Str → Option Value) : List (Str × Value) → Prop
  | [] => True
  | (n, v) :: r => m n = some v ∧ Kn m r
noncomputable def knows (m : Str → Option Value) : List (Str × Value) → Str → Option Value
  | [] => m
  | (n, v) :: r => fun y => if y = n then some v else knows m r y
theorem knows_eq {m : Str → Option Value} : ∀ {l : List (Str × Value)}, Kn m l → knows m l = m
  | [], _ => rfl
  | (n, v) :: r, h => by
    funext y
    show (if y = n then some v else knows m r y) = m y
    rw [knows_eq h.2]
    by_cases e : y = n
    · rw [if_pos e, e, h.1]
    · rw [if_neg e]
theorem fr_kn {h₀ h : Heap} {L : Addr} {m : Str → Option Value} {l : List (Str × Value)} (F : Fr h₀ L h m) (k : Kn m l) : Fr h₀ L h (knows m l) := by rw [knows_eq k]; exact F
variable {prog : Program} {w : World} {A : Around} {E : Value → Shared → Prop} {s : Shared} {env : Env} {h₀ : Heap} {target : Expr} {body : List Stmt} {Q : Flow → Shared → Prop}
theorem unr_mono {L : Addr} {s₁ : Shared} {its : List (Addr × Obj)} {r r' : (Str → Option Value) → List (Addr × Obj) → Prop} {f : Flow} {s₂ : Shared} (k : ∀ m n, (∀ p ∈ n, ∀ q ∈ its, p.1 ≠ q.1) → r m n → r' m n)
    (h : UnrPostW h₀ L s₁ its r Q f s₂) : UnrPostW h₀ L s₁ its r' Q f s₂ := by
  have go : UnrEndW h₀ L s₁ its r s₂ → UnrEndW h₀ L s₁ its r' s₂ := by
    rintro ⟨h', tk, m', news', e, F, N, off, hr⟩
    exact ⟨h', tk, m', news', e, F, N, off, k _ _ off hr⟩
  cases f with
  | ret v => exact h
  | brk => exact h
  | next => exact go h
  | cont => exact go h
/-- the turns of a loop, by an invariant over the turn's number, the frame and the ledger -/
theorem turns_of {I : Addr} {c : String} {keep : List (Addr × Obj)} {xs : List Itm} (J : Nat → (Str → Option Value) → List (Addr × Obj) → Prop)
    (turn : ∀ i a m news v h tk o, xs[i]? = some a → J i m news → a.Is v h → Fr h₀ env.locals h m → o.cls = .type c → (∀ p ∈ news, p.1 ≠ I) → News h₀ env.locals h ((I, o) :: news) →
      wpAny (model prog w) A (assign target env v) (fun _ s₂ => wpAny (model prog w) A (execs body env)
        (UnrPostW h₀ env.locals { s with heap := h, toks := tk } [(I, o)] (fun m' n' => SubL keep n' ∧ J (i + 1) m' n') Q) E s₂) E { s with heap := h, toks := tk })
    (fin : ∀ m news h tk, J xs.length m news → Fr h₀ env.locals h m → News h₀ env.locals h news → Q .next { s with heap := h, toks := tk }) :
    ∀ k i m news, i + k = xs.length → J i m news → (∀ p ∈ news, p.1 ≠ I) → ItemsRest prog w A E h₀ env target body Q s [(I, c)] keep (xs.drop i) m news
  | 0, i, m, news, e, j, _ => by
    have z : xs.drop i = [] := List.drop_eq_nil_of_le (by omega)
    rw [z]
    intro h tk F N
    exact fin m news h tk (by rw [← e]; exact j) F N
  | k + 1, i, m, news, e, j, off => by
    have hlt : i < xs.length := by omega
    rw [List.drop_eq_getElem_cons hlt]
    intro v h tk ha F o hc N
    refine wpAny_mono (turn i _ m news v h tk o (List.getElem?_eq_getElem hlt) j ha F hc off N) (fun _ s₂ h₂ => wpAny_mono h₂ (fun f s₃ p => unr_mono (fun m' n' o' r => ⟨r.1, turns_of J turn fin k (i + 1) m' n' (by omega) r.2 fun p hp => o' p hp _ (List.mem_singleton.mpr rfl)⟩) p) fun _ _ e => e) fun _ _ e => e
theorem turn_end {L I : Addr} {o : Obj} {s₁ : Shared} {keep all : List (Addr × Obj)} {J : (Str → Option Value) → List (Addr × Obj) → Prop} {h' : Heap} {tk : Nat} {m' : Str → Option Value} (F : Fr h₀ L h' m') (N : News h₀ L h' all) (news' : List (Addr × Obj))
    (hI : (I, o) ∈ all) (sub : ∀ p ∈ news', p ∈ all ∧ p.1 ≠ I) (hk : SubL keep news') (j : J m' news') : UnrEndW h₀ L s₁ [(I, o)] (fun m' n' => SubL keep n' ∧ J m' n') { s₁ with heap := h', toks := tk } :=
  ⟨h', tk, m', news', rfl, F, fun p hp => by
    rcases List.mem_append.mp hp with hp | hp
    · rw [List.mem_singleton.mp hp]; exact N _ hI
    · exact N p (sub p hp).1, fun p hp q hq => by rw [List.mem_singleton.mp hq]; exact (sub p hp).2, hk, j⟩
inductive Go_for_list (prog : Program) (w : World) (A : Around) (E : Value → Shared → Prop) (env : Env) (h₀ : Heap) (target : Expr) (body : List Stmt) (Q : Flow → Shared → Prop) (xv : Value) (s₁ : Shared) : Prop
  | mk : ∀ (ax lo vs n m news : _), ∀ (J : Nat → (Str → Option Value) → List (Addr × Obj) → Prop), (xv = .ref ax) → (A.handled = none) → (Fr h₀ env.locals s₁.heap m) → (News h₀ env.locals s₁.heap news) → ((ax, lo) ∈ news) → (lo.cls = .type "list") → (lo.data = .seq (List.toArray vs) n) → (J 0 m news) → ((∀ i v m news I h tk o, vs[i]? = some v → J i m news → Fr h₀ env.locals h m → o.cls = .type "list_iterator" → (∀ p ∈ news, p.1 ≠ I) → News h₀ env.locals h ((I, o) :: news) →
        wpAny (model prog w) A (assign target env v) (fun _ s₂ => wpAny (model prog w) A (execs body env)
          (UnrPostW h₀ env.locals { s₁ with heap := h, toks := tk } [(I, o)] (fun m' n' => SubL [(ax, lo)] n' ∧ J (i + 1) m' n') Q) E s₂) E { s₁ with heap := h, toks := tk })) → ((∀ m news h tk, J vs.length m news → Fr h₀ env.locals h m → News h₀ env.locals h news → Q .next { s₁ with heap := h, toks := tk })) → Go_for_list prog w A E env h₀ target body Q xv s₁
/-- behind a loop's head: a list of the ledger -/
theorem for_list {iter : Expr} {pos : Pos} {m₀ : Str → Option Value} (F₀ : Fr h₀ env.locals s.heap m₀)
    (h : wpAny (model prog w) A (eval iter env) (fun xv s₁ => Stop (Go_for_list prog w A E env h₀ target body Q xv s₁)) E s)
    (hs : ∀ x, foldedSetIterable iter env x = pure x := by intro _; rfl)
    (hE : PassesOwn (model prog w) A env E := by passes_own) :
    wpAny (model prog w) A (exec (.For target iter body [] pos) env) Q E s := by
  refine For_turns F₀ (wpAny_mono h (fun xv s₁ h₁ => ?_) fun _ _ e => e) hs hE
  obtain ⟨ax, lo, vs, n, m, news, J, rfl, hh, F, N, hm, hc, hd, j, turn, fin⟩ := h₁.of
  refine iter_listTurns hh F N hm hc hd fun I l => ?_
  have := turns_of (xs := vs.map Itm.val) (I := I) (c := "list_iterator") (keep := [(ax, lo)]) J (fun i a m news v h tk o ha j hv => by
    rw [List.getElem?_map] at ha
    cases q : vs[i]? with
    | none => rw [q] at ha; cases ha
    | some u =>
      rw [q] at ha
      cases ha
      have hv' : v = u := hv
      subst hv'
      exact turn i v m news I h tk o q j) (fun m news h tk j => fin m news h tk (by simpa using j)) _ 0 m news (Nat.zero_add _) j (fun p hp => Nat.ne_of_lt (l p hp))
  simpa using this
inductive Go_for_range (prog : Program) (w : World) (A : Around) (E : Value → Shared → Prop) (env : Env) (h₀ : Heap) (target : Expr) (body : List Stmt) (Q : Flow → Shared → Prop) (xv : Value) (s₁ : Shared) : Prop
  | mk : ∀ (ax : _), ∀ (a b : Int), ∀ (t u v : _), ∀ (n : Nat), ∀ (m news : _), ∀ (J : Nat → (Str → Option Value) → List (Addr × Obj) → Prop), (xv = .ref ax) → (A.handled = none) → (Fr h₀ env.locals s₁.heap m) → (News h₀ env.locals s₁.heap news) → (IsRange s₁.heap ax a b 1 t u v) → (Builtin.Range.small a b 1 = true) → (Builtin.Range.rangeSize a b 1 = (n : Int)) → (J 0 m news) → ((∀ i t m news I h tk o, i < n → J i m news → Fr h₀ env.locals h m → o.cls = .type "range_iterator" → (∀ p ∈ news, p.1 ≠ I) → News h₀ env.locals h ((I, o) :: news) →
        wpAny (model prog w) A (assign target env (.int (a + (i : Int)) t)) (fun _ s₂ => wpAny (model prog w) A (execs body env)
          (UnrPostW h₀ env.locals { s₁ with heap := h, toks := tk } [(I, o)] (fun m' n' => SubL [] n' ∧ J (i + 1) m' n') Q) E s₂) E { s₁ with heap := h, toks := tk })) → ((∀ m news h tk, J n m news → Fr h₀ env.locals h m → News h₀ env.locals h news → Q .next { s₁ with heap := h, toks := tk })) → Go_for_range prog w A E env h₀ target body Q xv s₁
theorem for_range {iter : Expr} {pos : Pos} {m₀ : Str → Option Value} (F₀ : Fr h₀ env.locals s.heap m₀)
    (h : wpAny (model prog w) A (eval iter env) (fun xv s₁ => Stop (Go_for_range prog w A E env h₀ target body Q xv s₁)) E s)
    (hgo : ∀ (it v : Value) (s : Shared) (Q : Unit → Shared → Prop) (E : Value → Shared → Prop), Q () s → wpAny (model prog w) A (letOwnedTupleGo target it v) Q E s)
    (hs : ∀ x, foldedSetIterable iter env x = pure x := by intro _; rfl)
    (hE : PassesOwn (model prog w) A env E := by passes_own) :
    wpAny (model prog w) A (exec (.For target iter body [] pos) env) Q E s := by
  refine For_turns F₀ (wpAny_mono h (fun xv s₁ h₁ => ?_) fun _ _ e => e) hs hE
  obtain ⟨ax, a, b, t, u, v, n, m, news, J, rfl, hh, F, N, hr, hsm, hn, j, turn, fin⟩ := h₁.of
  refine wpAny_pyIter_range hr hsm ?_
  have rest := turns_of (xs := (List.range n).map fun i : Nat => Itm.tok fun t => .int (a + (i : Int)) t) (I := s₁.heap.objs.size) (c := "range_iterator") (keep := []) (s := s₁) (w := w) (prog := prog) (A := A) (E := E) (env := env) (h₀ := h₀) (target := target) (body := body) (Q := Q) J (fun i a' m news v h tk o ha j hv => by
    rw [List.getElem?_map] at ha
    by_cases hi : i < n
    · rw [List.getElem?_range hi] at ha
      cases ha
      obtain ⟨t, hv⟩ := hv
      subst hv
      exact turn i t m news s₁.heap.objs.size h tk o hi j
    · rw [List.getElem?_eq_none (by simpa using Nat.le_of_not_lt hi)] at ha
      cases ha) (fun m news h tk j => fin m news h tk (by simpa using j)) _ 0 m news (Nat.zero_add _) j (fun p hp => Nat.ne_of_lt (Heap.lt_size (N p hp).1))
  have W : Walks prog w A s₁.heap.objs.size [s₁.heap.objs.size] [s₁.heap.objs.size] n (fun i v => i < n ∧ ∃ t, v = .int (a + i * 1) t)
      (fun i h => IsRangeIter h s₁.heap.objs.size (a + (i : Nat) * 1) ((n : Int) - (i : Nat)) 1) := (Walks.range hh _ a 1 n).bound
  refine ktu_core (tk0 := s₁.toks) (keep := []) (xs := (List.range n).map fun i : Nat => Itm.tok fun t => .int (a + (i : Int)) t) (ws := [(s₁.heap.objs.size, "range_iterator")])
    (KTurns.ofWalks W fun i v s Q E _ q => hgo _ _ s Q E q) (by simp) ?_ ?_ ?_ ?_ ?_ ?_ ?_ ?_ (F.push _) (fun p hp => ⟨Heap.get?_push_of_some _ (N p hp).1, (N p hp).2⟩) trivial (by simpa using rest)
  · rintro i v h ⟨hi, t, rfl⟩
    refine ⟨.tok fun t => .int (a + (i : Int)) t, by rw [List.getElem?_map, List.getElem?_range hi]; rfl, t, by rw [Int.mul_one]⟩
  · intro i h st
    have e1 : ∃ o : Obj, h.get? s₁.heap.objs.size = some o ∧ o.cls = .type "range_iterator" := ⟨_, st, rfl⟩
    obtain ⟨oi, g, c⟩ := e1
    exact ⟨[(s₁.heap.objs.size, oi)], ⟨⟨rfl, c⟩, trivial⟩, fun p hp => by rw [List.mem_singleton.mp hp]; exact g⟩
  · intro b hb
    have hb' : b = s₁.heap.objs.size := by simpa using hb
    rw [hb']
    exact ⟨List.mem_cons_self .., next_is_new F⟩
  · intro b hb
    simpa using hb
  · intro b hb
    exact .inl (by simpa using hb)
  · intro hI
    exact absurd F.ns.lt ((List.mem_singleton.mp hI) ▸ Nat.lt_irrefl _)
  · intro p hp hI
    exact absurd (Heap.lt_size (N p hp).1) ((List.mem_singleton.mp hI) ▸ Nat.lt_irrefl _)
  · show IsRangeIter _ _ _ _ _
    rw [hn]
    simpa using Heap.get?_push_size _ rfl
inductive Go_for_keys (prog : Program) (w : World) (A : Around) (E : Value → Shared → Prop) (env : Env) (h₀ : Heap) (target : Expr) (body : List Stmt) (K : Type) [DecidableEq K] (knd : KeyKind prog w K) (enc : K → PyData) (Q : Flow → Shared → Prop) (xv : Value) (s₁ : Shared) : Prop
  | mk : ∀ (d od : _), ∀ (kvs : List (K × Value)), ∀ (m news : _), ∀ (J : Nat → (Str → Option Value) → List (Addr × Obj) → Prop), (xv = .ref d) → (A.handled = none) → (Fr h₀ env.locals s₁.heap m) → (News h₀ env.locals s₁.heap news) → ((d, od) ∈ news) → (od.IsDictOf knd kvs) → ((d == sysModules) = false) → (J 0 m news) → ((∀ i k x t m news I h tk o, kvs[i]? = some (k, x) → J i m news → Fr h₀ env.locals h m → o.cls = .type "dict_keyiterator" → (∀ p ∈ news, p.1 ≠ I) → News h₀ env.locals h ((I, o) :: news) →
        wpAny (model prog w) A (assign target env (kyVal (enc k) t)) (fun _ s₂ => wpAny (model prog w) A (execs body env)
          (UnrPostW h₀ env.locals { s₁ with heap := h, toks := tk } [(I, o)] (fun m' n' => SubL [(d, od)] n' ∧ J (i + 1) m' n') Q) E s₂) E { s₁ with heap := h, toks := tk })) → ((∀ m news h tk, J kvs.length m news → Fr h₀ env.locals h m → News h₀ env.locals h news → Q .next { s₁ with heap := h, toks := tk })) → Go_for_keys prog w A E env h₀ target body K knd enc Q xv s₁
theorem for_keys {K : Type} [DecidableEq K] {knd : KeyKind prog w K} {enc : K → PyData} {iter : Expr} {pos : Pos} {m₀ : Str → Option Value} (hkey : ∀ k v, knd.is k v = true → ∃ t, v = kyVal (enc k) t) (F₀ : Fr h₀ env.locals s.heap m₀)
    (h : wpAny (model prog w) A (eval iter env) (fun xv s₁ => Stop (Go_for_keys prog w A E env h₀ target body K knd enc Q xv s₁)) E s)
    (hs : ∀ x, foldedSetIterable iter env x = pure x := by intro _; rfl)
    (hE : PassesOwn (model prog w) A env E := by passes_own) :
    wpAny (model prog w) A (exec (.For target iter body [] pos) env) Q E s := by
  refine For_turns F₀ (wpAny_mono h (fun xv s₁ h₁ => ?_) fun _ _ e => e) hs hE
  obtain ⟨d, od, kvs, m, news, J, rfl, hh, F, N, hm, hd, lo, j, turn, fin⟩ := h₁.of
  refine kta_keys (knd := knd) (enc := enc) hh F N hm hd lo hkey rfl fun I l => ?_
  have := turns_of (xs := kvs.map (fun p => Itm.tok (kyVal (enc p.1)))) (I := I) (c := "dict_keyiterator") (keep := [(d, od)]) J (fun i a m news v h tk o ha j hv => by
    rw [List.getElem?_map] at ha
    cases q : kvs[i]? with
    | none => rw [q] at ha; cases ha
    | some u =>
      rw [q] at ha
      cases ha
      obtain ⟨t, hv⟩ := hv
      subst hv
      exact turn i u.1 u.2 t m news I h tk o q j) (fun m news h tk j => fin m news h tk (by simpa using j)) _ 0 m news (Nat.zero_add _) j (fun p hp => Nat.ne_of_lt (l p hp))
  simpa using this
inductive Go_for_vals (prog : Program) (w : World) (A : Around) (E : Value → Shared → Prop) (env : Env) (h₀ : Heap) (target : Expr) (body : List Stmt) (K : Type) [DecidableEq K] (knd : KeyKind prog w K) (Q : Flow → Shared → Prop) (xv : Value) (s₁ : Shared) : Prop
  | mk : ∀ (vw d od : _), ∀ (kvs : List (K × Value)), ∀ (m news : _), ∀ (J : Nat → (Str → Option Value) → List (Addr × Obj) → Prop), (xv = .ref vw) → (A.handled = none) → (Fr h₀ env.locals s₁.heap m) → (News h₀ env.locals s₁.heap news) → (s₁.heap.IsValuesView vw d) → ((d, od) ∈ news) → (od.IsDictOf knd kvs) → (J 0 m news) → ((∀ i k x m news I h tk o, kvs[i]? = some (k, x) → J i m news → Fr h₀ env.locals h m → o.cls = .type "dict_valueiterator" → (∀ p ∈ news, p.1 ≠ I) → News h₀ env.locals h ((I, o) :: news) →
        wpAny (model prog w) A (assign target env x) (fun _ s₂ => wpAny (model prog w) A (execs body env)
          (UnrPostW h₀ env.locals { s₁ with heap := h, toks := tk } [(I, o)] (fun m' n' => SubL [(d, od)] n' ∧ J (i + 1) m' n') Q) E s₂) E { s₁ with heap := h, toks := tk })) → ((∀ m news h tk, J kvs.length m news → Fr h₀ env.locals h m → News h₀ env.locals h news → Q .next { s₁ with heap := h, toks := tk })) → Go_for_vals prog w A E env h₀ target body K knd Q xv s₁
theorem for_vals {K : Type} [DecidableEq K] {knd : KeyKind prog w K} {iter : Expr} {pos : Pos} {m₀ : Str → Option Value} (F₀ : Fr h₀ env.locals s.heap m₀)
    (h : wpAny (model prog w) A (eval iter env) (fun xv s₁ => Stop (Go_for_vals prog w A E env h₀ target body K knd Q xv s₁)) E s)
    (hs : ∀ x, foldedSetIterable iter env x = pure x := by intro _; rfl)
    (hE : PassesOwn (model prog w) A env E := by passes_own) :
    wpAny (model prog w) A (exec (.For target iter body [] pos) env) Q E s := by
  refine For_turns F₀ (wpAny_mono h (fun xv s₁ h₁ => ?_) fun _ _ e => e) hs hE
  obtain ⟨vw, d, od, kvs, m, news, J, rfl, hh, F, N, hv, hm, hd, j, turn, fin⟩ := h₁.of
  refine kta_vals (knd := knd) hh F N hv hm hd rfl fun I l => ?_
  have := turns_of (xs := kvs.map (fun p => Itm.val p.2)) (I := I) (c := "dict_valueiterator") (keep := [(d, od)]) J (fun i a m news v h tk o ha j hv => by
    rw [List.getElem?_map] at ha
    cases q : kvs[i]? with
    | none => rw [q] at ha; cases ha
    | some u =>
      rw [q] at ha
      cases ha
      have hv' : v = u.2 := hv
      subst hv'
      exact turn i u.1 u.2 m news I h tk o q j) (fun m news h tk j => fin m news h tk (by simpa using j)) _ 0 m news (Nat.zero_add _) j (fun p hp => Nat.ne_of_lt (l p hp))
  simpa using this
inductive Go_for_items (prog : Program) (w : World) (A : Around) (E : Value → Shared → Prop) (env : Env) (h₀ : Heap) (body : List Stmt) (elts : List Expr) (kk : Nat) (tpos : Pos) (K : Type) [DecidableEq K] (knd : KeyKind prog w K) (enc : K → PyData) (Q : Flow → Shared → Prop) (xv : Value) (s₁ : Shared) : Prop
  | mk : ∀ (vw d od : _), ∀ (kvs : List (K × Value)), ∀ (m news : _), ∀ (J : Nat → (Str → Option Value) → List (Addr × Obj) → Prop), (xv = .ref vw) → (A.handled = none) → (Fr h₀ env.locals s₁.heap m) → (News h₀ env.locals s₁.heap news) → (s₁.heap.IsItemsView vw d) → ((d, od) ∈ news) → (od.IsDictOf knd kvs) → (J 0 m news) → ((∀ i k x T t m news I h tk o, kvs[i]? = some (k, x) → J i m news → IsTup h T #[kyVal (enc k) t, x] → Fr h₀ env.locals h m → o.cls = .type "dict_itemiterator" → (∀ p ∈ news, p.1 ≠ I) → News h₀ env.locals h ((I, o) :: news) →
        wpAny (model prog w) A (assign (.Tuple elts kk tpos) env (.ref T)) (fun _ s₂ => wpAny (model prog w) A (execs body env)
          (UnrPostW h₀ env.locals { s₁ with heap := h, toks := tk } [(I, o)] (fun m' n' => SubL [(d, od)] n' ∧ J (i + 1) m' n') Q) E s₂) E { s₁ with heap := h, toks := tk })) → ((∀ m news h tk, J kvs.length m news → Fr h₀ env.locals h m → News h₀ env.locals h news → Q .next { s₁ with heap := h, toks := tk })) → Go_for_items prog w A E env h₀ body elts kk tpos K knd enc Q xv s₁
theorem for_items {K : Type} [DecidableEq K] {knd : KeyKind prog w K} {enc : K → PyData} {elts : List Expr} {kk : Nat} {tpos : Pos} {iter : Expr} {pos : Pos} {m₀ : Str → Option Value} (hkey : ∀ k v, knd.is k v = true → ∃ t, v = kyVal (enc k) t) (F₀ : Fr h₀ env.locals s.heap m₀)
    (h : wpAny (model prog w) A (eval iter env) (fun xv s₁ => Stop (Go_for_items prog w A E env h₀ body elts kk tpos K knd enc Q xv s₁)) E s)
    (hs : ∀ x, foldedSetIterable iter env x = pure x := by intro _; rfl)
    (hE : PassesOwn (model prog w) A env E := by passes_own) :
    wpAny (model prog w) A (exec (.For (.Tuple elts kk tpos) iter body [] pos) env) Q E s := by
  refine For_turns F₀ (wpAny_mono h (fun xv s₁ h₁ => ?_) fun _ _ e => e) hs hE
  obtain ⟨vw, d, od, kvs, m, news, J, rfl, hh, F, N, hv, hm, hd, j, turn, fin⟩ := h₁.of
  refine kta_items (knd := knd) (enc := enc) hh F N hv hm hd hkey rfl fun I l => ?_
  have := turns_of (xs := kvs.map (fun p => Itm.pair (kyVal (enc p.1)) p.2)) (I := I) (c := "dict_itemiterator") (keep := [(d, od)]) J (fun i a m news v h tk o ha j hv => by
    rw [List.getElem?_map] at ha
    cases q : kvs[i]? with
    | none => rw [q] at ha; cases ha
    | some u =>
      rw [q] at ha
      cases ha
      obtain ⟨T, t, hv, hT⟩ := hv
      subst hv
      exact turn i u.1 u.2 T t m news I h tk o q j hT) (fun m news h tk j => fin m news h tk (by simpa using j)) _ 0 m news (Nat.zero_add _) j (fun p hp => Nat.ne_of_lt (l p hp))
  simpa using this
end
end PartLoops
section PartWhile
set_option maxRecDepth 100000
theorem off_While : True := by
  w_top off
  trivial
local macro_rules | `(tactic| k_mem) => `(tactic| first | exact List.mem_cons_self | (refine' List.mem_cons_of_mem _ ?_; k_mem) | ktr_member)
local macro_rules | `(tactic| k_all) => `(tactic| (with_reducible assumption))
local macro_rules | `(tactic| walk_at $k:str) => if ["eval BinOp", "eval Call", "eval Subscript", "eval Compare", "isTrue Compare", "eval Tuple", "eval List"].contains k.getString then `(tactic| (k_here; k_fold)) else Lean.Macro.throwUnsupported

section
open PySem.W
variable {prog : Program} {w : World} {A : Around} {E : Value → Shared → Prop} {s : Shared} {env : Env} {body : List Stmt} {Q : Flow → Shared → Prop}
inductive WhlEnd (s : Shared) (L : Addr) (J : Nat → Heap → (Str → Option Value) → List (Addr × Obj) → Prop) (n : Nat) (s₃ : Shared) : Prop
  | mk : ∀ n' h₀ h tk m nw, n' < n → s₃ = { s with heap := h, toks := tk } → Fr h₀ L h m → News h₀ L h nw → J n' h₀ m nw → WhlEnd s L J n s₃
inductive WhlOut (s : Shared) (L : Addr) (Jx : Heap → (Str → Option Value) → List (Addr × Obj) → Prop) (s₂ : Shared) : Prop
  | mk : ∀ h₀ h tk m nw, s₂ = { s with heap := h, toks := tk } → Fr h₀ L h m → News h₀ L h nw → Jx h₀ m nw → WhlOut s L Jx s₂
inductive WhlOutF (s : Shared) (L : Addr) (h₀ : Heap) (Jx : (Str → Option Value) → List (Addr × Obj) → Prop) (s₂ : Shared) : Prop
  | mk : ∀ h tk m nw, s₂ = { s with heap := h, toks := tk } → Fr h₀ L h m → News h₀ L h nw → Jx m nw → WhlOutF s L h₀ Jx s₂
noncomputable def WhlPost (s : Shared) (L : Addr) (J : Nat → Heap → (Str → Option Value) → List (Addr × Obj) → Prop) (n : Nat) (Q : Flow → Shared → Prop) (f : Flow) (s₃ : Shared) : Prop :=
  match f with
  | .ret v => Q (.ret v) s₃
  | .brk => Q .next s₃
  | _ => Stop (WhlEnd s L J n s₃)
theorem while_of {test : Expr} {pos : Pos} (J : Nat → Heap → (Str → Option Value) → List (Addr × Obj) → Prop) (Jx : Heap → (Str → Option Value) → List (Addr × Obj) → Prop) (n : Nat) {h₀ : Heap} {m : Str → Option Value} {nw : List (Addr × Obj)} (F : Fr h₀ env.locals s.heap m) (N : News h₀ env.locals s.heap nw) (j : J n h₀ m nw)
    (turn : ∀ n h₀ m nw h tk, J n h₀ m nw → Fr h₀ env.locals h m → News h₀ env.locals h nw →
      wpAny (model prog w) A (isTrue test env (eval test env)) (fun b s₂ => if b = true then wpAny (model prog w) A (execs body env) (WhlPost s env.locals J n Q) E s₂
        else Stop (WhlOut s env.locals Jx s₂)) E { s with heap := h, toks := tk })
    (fin : ∀ h₀ m nw h tk, Jx h₀ m nw → Fr h₀ env.locals h m → News h₀ env.locals h nw → Q .next { s with heap := h, toks := tk })
    (hE : PassesOwn (model prog w) A env E := by passes_own) :
    wpAny (model prog w) A (exec (.While test body [] pos) env) Q E s := by
  refine wpAny_While (codeAny_whileLoop (R := fun r s' => match r with | .ok f => Q f s' | .error e => cameBackBy (model prog w) A env E e s')
    (fun n s' => ∃ h₀ h tk m nw, s' = { s with heap := h, toks := tk } ∧ Fr h₀ env.locals h m ∧ News h₀ env.locals h nw ∧ J n h₀ m nw) ?_ n ⟨h₀, s.heap, s.toks, m, nw, rfl, F, N, j⟩)
  rintro n s' ⟨h₀', h, tk, m', nw', rfl, F', N', j'⟩
  refine wpAny_mono (turn n h₀' m' nw' h tk j' F' N') (fun b s₂ h₂ => ?_) hE
  cases b with
  | false =>
    simp only [Bool.false_eq_true, if_false] at h₂ ⊢
    obtain ⟨h₀, h, tk, m, nw, rfl, F, N, j⟩ := h₂.of
    exact wpAny_execs_nil (fin h₀ m nw h tk j F N)
  | true =>
    simp only [if_true] at h₂ ⊢
    refine wpAny_passesOwn hE (wpAny_mono h₂ (fun f s₃ h₃ => ?_) fun _ _ e => e)
    have go : Stop (WhlEnd s env.locals J n s₃) → ∃ m, m < n ∧ ∃ h₀ h tk m' nw, s₃ = { s with heap := h, toks := tk } ∧ Fr h₀ env.locals h m' ∧ News h₀ env.locals h nw ∧ J m h₀ m' nw := by
      rintro ⟨⟨n', h₀, h, tk, m, nw, hlt, e, F, N, j⟩⟩
      exact ⟨n', hlt, h₀, h, tk, m, nw, e, F, N, j⟩
    cases f with
    | ret v => exact h₃
    | brk => exact h₃
    | next => exact go h₃
    | cont => exact go h₃
theorem while_fix {test : Expr} {pos : Pos} (J : Nat → (Str → Option Value) → List (Addr × Obj) → Prop) (Jx : (Str → Option Value) → List (Addr × Obj) → Prop) (n : Nat) {h₀ : Heap} {m : Str → Option Value} {nw : List (Addr × Obj)} (F : Fr h₀ env.locals s.heap m) (N : News h₀ env.locals s.heap nw) (j : J n m nw)
    (turn : ∀ n m nw h tk, J n m nw → Fr h₀ env.locals h m → News h₀ env.locals h nw →
      wpAny (model prog w) A (isTrue test env (eval test env)) (fun b s₂ => if b = true then wpAny (model prog w) A (execs body env) (WhlPost s env.locals (fun n h₁ m nw => h₁ = h₀ ∧ J n m nw) n Q) E s₂
        else Stop (WhlOutF s env.locals h₀ Jx s₂)) E { s with heap := h, toks := tk })
    (fin : ∀ m nw h tk, Jx m nw → Fr h₀ env.locals h m → News h₀ env.locals h nw → Q .next { s with heap := h, toks := tk })
    (hE : PassesOwn (model prog w) A env E := by passes_own) :
    wpAny (model prog w) A (exec (.While test body [] pos) env) Q E s := by
  refine while_of (fun n h₁ m nw => h₁ = h₀ ∧ J n m nw) (fun h₁ m nw => h₁ = h₀ ∧ Jx m nw) n F N ⟨rfl, j⟩ ?_ ?_ hE
  · rintro n h₁ m nw h tk ⟨rfl, j⟩ F N
    refine wpAny_mono (turn n m nw h tk j F N) (fun b s₂ h₂ => ?_) fun _ _ e => e
    cases b with
    | false =>
      simp only [Bool.false_eq_true, if_false] at h₂ ⊢
      obtain ⟨h, tk, m, nw, e, F, N, j⟩ := h₂.of
      exact ⟨⟨_, h, tk, m, nw, e, F, N, rfl, j⟩⟩
    | true =>
      simp only [if_true] at h₂ ⊢
      exact h₂
  · rintro h₁ m nw h tk ⟨rfl, j⟩ F N
    exact fin m nw h tk j F N
end
end PartWhile
section PartCompR
set_option maxRecDepth 100000
theorem off_CompR : True := by
  w_top off
  trivial
local macro_rules | `(tactic| k_mem) => `(tactic| first | exact List.mem_cons_self | (refine' List.mem_cons_of_mem _ ?_; k_mem) | ktr_member)
local macro_rules | `(tactic| k_all) => `(tactic| (with_reducible assumption))
local macro_rules | `(tactic| walk_at $k:str) => if ["eval BinOp", "eval Call", "eval Subscript", "eval Compare", "isTrue Compare", "eval Tuple", "eval List"].contains k.getString then `(tactic| (k_here; k_fold)) else Lean.Macro.throwUnsupported

section
open PyProof.Rows.LCg PyProof.Rows.LCt
variable {prog : Program} {w : World} {A : Around} {E : Value → Shared → Prop} {s : Shared} {env : Env}
inductive Go_comp_range (prog : Program) (w : World) (A : Around) (env : Env) (elt : Expr) (x : Str) (scope : Scope) (cl : List (Str × Addr)) (Q : Value → Shared → Prop) (xv : Value) (s₁ : Shared) : Prop
  | mk : ∀ (h₀ L m ax : _), ∀ (a b : Int), ∀ (t u v : _), ∀ (n : Nat), ∀ (news Fin : _), (xv = .ref ax) → (A.handled = none) → (Fr h₀ L s₁.heap m) → (News h₀ L s₁.heap news) → (IsRange s₁.heap ax a b 1 t u v) → (Builtin.Range.small a b 1 = true) → (Builtin.Range.rangeSize a b 1 = ((n : Nat) : Int)) → (n ≤ sizeLine) → ((∀ g, CompRest prog w A h₀ L m env elt x scope cl { s₁ with heap := g } (fun _ => True) (fun i v => ∃ t, v = .int (a + (i : Int)) t) Fin n 0 [] news)) → ((∀ ys news' D h tk, Fin ys news' → Fr h₀ L h m → News h₀ L h ((D, lst ys) :: news') → Off1 D news' → Q (.ref D) { s₁ with heap := h, toks := tk })) → Go_comp_range prog w A env elt x scope cl Q xv s₁
theorem comp_range {elt iter : Expr} {x : Str} {px : Pos} {scope : Scope} {cl : List (Str × Addr)} {pos : Pos} {Q : Value → Shared → Prop}
    (hclos : closureFor scope env = pure cl) (hcell : ∀ y ∈ scope.names, y.2 ≠ .cell) (hkind : scope.kind = .function)
    (hnames : ∀ y ∈ scope.names, y.2 = .local → scope.names.lookup y.1 = some .local) (hx : scope.names.lookup x = some .local)
    (h : wpAny (model prog w) A (eval iter env) (fun xv s₁ => Stop (Go_comp_range prog w A env elt x scope cl Q xv s₁)) E s)
    (hs : ∀ x, foldedSetIterable iter env x = pure x := by intro _; rfl) :
    wpAny (model prog w) A (eval (.ListComp elt [⟨.Name x px, iter, [], 0⟩] scope pos) env) Q E s := by
  rw [eval_ListComp]
  refine wpAny_comprehension_free (use := none) rfl hs hclos hkind hnames (wpAny_mono h (fun xv s₁ h₁ => ?_) fun _ _ e => e)
  obtain ⟨h₀, L, m, ax, a, b, t, u, v, n, news, Fin, rfl, hh, F, N, hr, hsm, hn, hsz, R, hQ⟩ := h₁.of
  refine wpAny_pyIter_range hr hsm ?_
  refine block_U (range_walks hh a n) hsz (fun i h st => ⟨_, st⟩) range_st hcell hkind hx (by show IsRangeIter _ _ _ _ _; rw [hn]; simpa using Heap.get?_push_size _ rfl) (fun b hb => ?_)
    (F.keeps fun _ _ e => Heap.get?_push_of_some _ e) (N.grown fun _ _ e => Heap.get?_push_of_some _ e) (Nat.ne_of_lt F.ns.lt) (next_is_new F) (fun p hp => Nat.ne_of_lt (Heap.lt_size (N p hp).1)) trivial (R _) ?_
  · rw [List.mem_singleton.mp hb]
    show s₁.heap.objs.size < (s₁.heap.push _).objs.size
    rw [Heap.size_push]; exact Nat.lt_succ_self _
  · intro D C h tk m' ys news' F' N' o1 hn hC₀ hD₀ hCL hDL hCD offC fin
    refine ⟨m', hn, fun h'' hs'' => hQ ys news' D h'' tk fin (F'.change hs'' hCL hC₀) (fun p hp => ?_) o1⟩
    refine ⟨hs''.extBut _ _ ?_ (N' p hp).1, (N' p hp).2⟩
    rcases List.mem_cons.mp hp with rfl | hp
    · exact Ne.symm hCD
    · exact offC p hp
inductive Go_comp_rangeT (prog : Program) (w : World) (A : Around) (env : Env) (ct : Expr) (elt : Expr) (x : Str) (scope : Scope) (cl : List (Str × Addr)) (Q : Value → Shared → Prop) (xv : Value) (s₁ : Shared) : Prop
  | mk : ∀ (h₀ L m ax : _), ∀ (a b : Int), ∀ (t u v : _), ∀ (n : Nat), ∀ (news Fin : _), (xv = .ref ax) → (A.handled = none) → (Fr h₀ L s₁.heap m) → (News h₀ L s₁.heap news) → (IsRange s₁.heap ax a b 1 t u v) → (Builtin.Range.small a b 1 = true) → (Builtin.Range.rangeSize a b 1 = ((n : Nat) : Int)) → (n ≤ sizeLine) → ((∀ g, CompRestT prog w A h₀ L m env ct elt x scope cl { s₁ with heap := g } (fun _ => True) (fun i v => ∃ t, v = .int (a + (i : Int)) t) Fin n 0 [] news)) → ((∀ ys news' D h tk, Fin ys news' → Fr h₀ L h m → News h₀ L h ((D, lst ys) :: news') → Off1 D news' → Q (.ref D) { s₁ with heap := h, toks := tk })) → Go_comp_rangeT prog w A env ct elt x scope cl Q xv s₁
theorem comp_rangeT {ct elt iter : Expr} {x : Str} {px : Pos} {scope : Scope} {cl : List (Str × Addr)} {pos : Pos} {Q : Value → Shared → Prop}
    (hclos : closureFor scope env = pure cl) (hcell : ∀ y ∈ scope.names, y.2 ≠ .cell) (hkind : scope.kind = .function)
    (hnames : ∀ y ∈ scope.names, y.2 = .local → scope.names.lookup y.1 = some .local) (hx : scope.names.lookup x = some .local)
    (h : wpAny (model prog w) A (eval iter env) (fun xv s₁ => Stop (Go_comp_rangeT prog w A env ct elt x scope cl Q xv s₁)) E s)
    (hs : ∀ x, foldedSetIterable iter env x = pure x := by intro _; rfl) :
    wpAny (model prog w) A (eval (.ListComp elt [⟨.Name x px, iter, [ct], 0⟩] scope pos) env) Q E s := by
  rw [eval_ListComp]
  refine wpAny_comprehension_free (use := none) rfl hs hclos hkind hnames (wpAny_mono h (fun xv s₁ h₁ => ?_) fun _ _ e => e)
  obtain ⟨h₀, L, m, ax, a, b, t, u, v, n, news, Fin, rfl, hh, F, N, hr, hsm, hn, hsz, R, hQ⟩ := h₁.of
  refine wpAny_pyIter_range hr hsm ?_
  refine block_T (range_walks hh a n) hsz (fun i h st => ⟨_, st⟩) range_st hcell hkind hx (by show IsRangeIter _ _ _ _ _; rw [hn]; simpa using Heap.get?_push_size _ rfl) (fun b hb => ?_)
    (F.keeps fun _ _ e => Heap.get?_push_of_some _ e) (N.grown fun _ _ e => Heap.get?_push_of_some _ e) (Nat.ne_of_lt F.ns.lt) (next_is_new F) (fun p hp => Nat.ne_of_lt (Heap.lt_size (N p hp).1)) trivial (R _) ?_
  · rw [List.mem_singleton.mp hb]
    show s₁.heap.objs.size < (s₁.heap.push _).objs.size
    rw [Heap.size_push]; exact Nat.lt_succ_self _
  · intro D C h tk m' ys news' F' N' o1 hn hC₀ hD₀ hCL hDL hCD offC fin
    refine ⟨m', hn, fun h'' hs'' => hQ ys news' D h'' tk fin (F'.change hs'' hCL hC₀) (fun p hp => ?_) o1⟩
    refine ⟨hs''.extBut _ _ ?_ (N' p hp).1, (N' p hp).2⟩
    rcases List.mem_cons.mp hp with rfl | hp
    · exact Ne.symm hCD
    · exact offC p hp
end
end PartCompR
section PartDicts
set_option maxRecDepth 100000
theorem off_Dicts : True := by
  w_top off
  trivial
local macro_rules | `(tactic| k_mem) => `(tactic| first | exact List.mem_cons_self | (refine' List.mem_cons_of_mem _ ?_; k_mem) | ktr_member)
local macro_rules | `(tactic| k_all) => `(tactic| (with_reducible assumption))
local macro_rules | `(tactic| walk_at $k:str) => if ["eval BinOp", "eval Call", "eval Subscript", "eval Compare", "isTrue Compare", "eval Tuple", "eval List"].contains k.getString then `(tactic| (k_here; k_fold)) else Lean.Macro.throwUnsupported

section
variable {K : Type} [DecidableEq K] {β : Type}
noncomputable def putG (d : List (K × β)) (k : K) (b : β) : List (K × β) := if d.any (fun p => p.1 = k) then d.map (fun p => if p.1 = k then (p.1, b) else p) else d ++ [(k, b)]
noncomputable def getG (d : List (K × β)) (k : K) : Option β := (d.find? fun p => p.1 = k).map (·.2)
noncomputable def DR (R : Value → β → Prop) : List (K × Value) → List (K × β) → Prop := Paired fun p q => p.1 = q.1 ∧ R p.2 q.2
variable {R : Value → β → Prop} {kvs : List (K × Value)} {d : List (K × β)} {k : K} {v : Value} {b : β}
theorem DR.any : ∀ {kvs : List (K × Value)} {d : List (K × β)}, DR R kvs d → ∀ k, kvs.any (fun p => p.1 = k) = d.any (fun p => p.1 = k)
  | _, _, .nil, _ => rfl
  | _, _, .cons (a := (a, x)) (b := (b, y)) h t, k => by
    have e : a = b := h.1
    subst e
    show (decide (a = k) || List.any _ _) = (decide (a = k) || List.any _ _)
    rw [DR.any t k]
theorem DR.app : ∀ {kvs kvs' : List (K × Value)} {d d' : List (K × β)}, DR R kvs d → DR R kvs' d' → DR R (kvs ++ kvs') (d ++ d')
  | _, _, _, _, .nil, h => h
  | _, _, _, _, .cons h t, h' => .cons h (DR.app t h')
theorem DR.map_put (r : R v b) : ∀ {kvs : List (K × Value)} {d : List (K × β)}, DR R kvs d → DR R (kvs.map fun p => if p.1 = k then (p.1, v) else p) (d.map fun p => if p.1 = k then (p.1, b) else p)
  | _, _, .nil => .nil
  | _, _, .cons (a := (a, x)) (b := (b', y)) h t => by
    have e : a = b' := h.1
    subst e
    refine .cons ?_ (DR.map_put r t)
    by_cases q : a = k
    · dsimp only
      rw [if_pos q, if_pos q]
      exact ⟨rfl, r⟩
    · dsimp only
      rw [if_neg q, if_neg q]
      exact h
theorem DR.put (h : DR R kvs d) (r : R v b) : DR R (stored kvs k v) (putG d k b) := by
  unfold stored putG
  rw [h.any k]
  split
  · exact DR.map_put r h
  · exact DR.app h (.cons ⟨rfl, r⟩ .nil)
theorem DR.get_some : ∀ {kvs : List (K × Value)} {d : List (K × β)}, DR R kvs d → ∀ {k b}, getG d k = some b → ∃ v, valueAt kvs k = some v ∧ R v b
  | _, _, .nil, _, _, h => by cases h
  | _, _, .cons (a := (a, x)) (b := (b', y)) h t, k, b, e => by
    have e' : a = b' := h.1
    subst e'
    unfold getG at e
    unfold valueAt
    rw [List.find?_cons] at e ⊢
    by_cases q : a = k
    · simp only [q, decide_true, Option.map_some, Option.some.injEq] at e ⊢
      exact ⟨x, rfl, e ▸ h.2⟩
    · simp only [q, decide_false] at e ⊢
      exact DR.get_some t e
theorem DR.get_none : ∀ {kvs : List (K × Value)} {d : List (K × β)}, DR R kvs d → ∀ {k}, getG d k = none → valueAt kvs k = none
  | _, _, .nil, _, _ => rfl
  | _, _, .cons (a := (a, x)) (b := (b', y)) h t, k, e => by
    have e' : a = b' := h.1
    subst e'
    unfold getG at e
    unfold valueAt
    rw [List.find?_cons] at e ⊢
    by_cases q : a = k
    · simp [q] at e
    · simp only [q, decide_false] at e ⊢
      exact DR.get_none t e
theorem DR.mono {R' : Value → β → Prop} (k : ∀ v b, R v b → R' v b) (h : DR R kvs d) : DR R' kvs d := paired_mono (fun _ _ x => ⟨x.1, k _ _ x.2⟩) h
theorem DR.len (h : DR R kvs d) : kvs.length = d.length := Paired.length h
theorem putG_len (d : List (K × β)) (k : K) (b : β) : (putG d k b).length ≤ d.length + 1 := by
  unfold putG
  split
  · rw [List.length_map]; omega
  · rw [List.length_append, List.length_singleton]; omega
theorem getG_mem : ∀ {d : List (K × β)} {k : K} {b : β}, getG d k = some b → (k, b) ∈ d
  | [], _, _, h => by cases h
  | (a, x) :: d, k, b, e => by
    unfold getG at e
    rw [List.find?_cons] at e
    by_cases q : a = k
    · simp only [q, decide_true, Option.map_some, Option.some.injEq] at e
      subst q; subst e
      exact .head _
    · simp only [q, decide_false] at e
      exact .tail _ (getG_mem e)
end
noncomputable def IntV (v : Value) (n : Int) : Prop := ∃ t, v = .int n t
noncomputable def IntDict (w : World) (o : Obj) (d : List (Int × Int)) : Prop := ∃ kvs, o.IsDictOf (PySem.intKind LP w) kvs ∧ DR IntV kvs d
theorem foldl_take_succ {α β : Type} (f : β → α → β) (b : β) (l : List α) {i : Nat} {x : α} (h : l[i]? = some x) : (l.take (i + 1)).foldl f b = f ((l.take i).foldl f b) x := by
  rw [List.take_add_one, h]; simp
noncomputable def putP (a : List (Int × Int)) (p : Int × Int) : List (Int × Int) := putG a p.1 p.2
noncomputable def addP (a : List (Int × Int)) (p : Int × Int) : List (Int × Int) := putG a p.1 (match getG a p.1 with | some x => x + p.2 | none => p.2)
noncomputable def addM (t s : List (Int × Int)) : List (Int × Int) := s.foldl addP (t.foldl putP [])
theorem putP_len (l : List (Int × Int)) : ∀ a, (l.foldl putP a).length ≤ a.length + l.length := by
  induction l with
  | nil => intro a; exact Nat.le_refl _
  | cons p r ih => intro a; have h1 := ih (putP a p); have h2 := putG_len a p.1 p.2; simp only [List.foldl_cons, List.length_cons, putP] at *; omega
theorem addP_len (l : List (Int × Int)) : ∀ a, (l.foldl addP a).length ≤ a.length + l.length := by
  induction l with
  | nil => intro a; exact Nat.le_refl _
  | cons p r ih =>
    intro a
    have h1 := ih (addP a p)
    have h2 := putG_len a p.1 (match getG a p.1 with | some x => x + p.2 | none => p.2)
    simp only [List.foldl_cons, List.length_cons]
    have e : (addP a p).length ≤ a.length + 1 := h2
    omega
theorem addP_none {a : List (Int × Int)} {q : Int × Int} (h : getG a q.1 = none) : addP a q = putG a q.1 q.2 := by
  unfold addP; rw [h]
theorem addP_some {a : List (Int × Int)} {q : Int × Int} {x : Int} (h : getG a q.1 = some x) : addP a q = putG a q.1 (x + q.2) := by
  unfold addP; rw [h]
end PartDicts
section PartCCount
set_option maxRecDepth 100000
local macro_rules | `(tactic| walk_at "no such key") => `(tactic| skip)
local macro_rules | `(tactic| walk_at "no such key") => `(tactic| skip)
theorem off_CCount : True := by
  w_top off
  trivial
local macro_rules | `(tactic| k_mem) => `(tactic| first | exact List.mem_cons_self | (refine' List.mem_cons_of_mem _ ?_; k_mem) | ktr_member)
local macro_rules | `(tactic| k_all) => `(tactic| (with_reducible assumption))
local macro_rules | `(tactic| walk_at $k:str) => if ["eval BinOp", "eval Call", "eval Subscript", "eval Compare", "isTrue Compare", "eval Tuple", "eval List"].contains k.getString then `(tactic| (k_here; k_fold)) else Lean.Macro.throwUnsupported

noncomputable def sumV (d : List (Int × Int)) : Int := d.foldl (fun a p => a + p.2) 0
local macro_rules | `(tactic| walk_at "exec For Name Call cons nil") => `(tactic| (k_here; (rename Fr _ _ _ _ => lF'); (with_unfolding_all refine' for_vals (knd := PySem.intKind _ _) lF' ?_); k_whole; (with_unfolding_all ((refine MethodCall_ ?_); (refine ld (by assumption) (by rfl) ?_); (refine kdl_method PySem.F.slot_dict_values PySem.F.type_dict_values (by assumption) (by k_mem) (by assumption) ?_); (refine callWith_method0 ?_); (refine kta_callValues (by assumption) (by assumption) (by k_mem) (by assumption) (by assumption) ?_))); intro h' hv' F' N'))
set_option maxHeartbeats 8000000 in
theorem count_c (w : World) {news : List (Addr × Obj)} {d : Addr} {od : Obj} {dl : List (Int × Int)} (hd0 : (d, od) ∈ news) (lo : (d == sysModules) = false) (hi : IntDict w od dl) : Con w 28 [.ref d] news 4 (fun _ r => ∃ t, r = .int (sumV dl) t) := by
  obtain ⟨kvs, hkv, hp⟩ := hi
  unfold Con
  intro p loose mean mg mb dp un gd env outer A₀ base h₀ L m s Q E B F X N T hf hk hd hu hret
  refine wpAny_call ?_
  k_dflt ((refine' code_def ?k1 ?k2 ?k3 ?k4 ?k5 ?kA ?kF ?kK ?k6 ?k7 ?k8 ?k9 ?kB ?_ ?c2 ?c3 ?c4 ?c5; (case kA => exact rfl); (case kF => first | exact rfl | assumption); (case kK => first | exact rfl | assumption); (case k1 => k_asm); (case k2 => k_asm); (case k3 => k_asm); (case k4 => k_asm); (case k5 => k_asm); (case k6 => k_is); (case k7 => k_is); (case k8 => ktr_room); (case k9 => first | exact BindsTo.of_eq rfl | exact binds_K (by assumption) rfl (by k_is) rfl rfl rfl | exact binds_K (by k_in) rfl (by k_is) rfl rfl rfl); (case c5 => decide); (case kB => exact locs rfl); (case c2 => exact rfl); (case c3 => exact rfl); (case c4 => exact rfl); k_whole; intro qg' qL' qh' qFG' qF' qN' qB' qX' qT'; (try dsimp only); (try k_fold)))
  k_steps
  rename Fr _ _ _ _ => F1
  rename News _ _ _ _ => N1
  refine ⟨⟨_, d, od, kvs, _, news, fun i m nw => (∃ t, Kn m [(Str.ofString "callers", .ref d), (Str.ofString "nc", .int (sumV (dl.take i)) t)]) ∧ ∀ p ∈ news, p ∈ nw, rfl, rfl, F1, N1, by assumption, hd0, hkv, ⟨⟨_, rfl, rfl, trivial⟩, fun _ h => h⟩, ?_, ?_⟩⟩
  · intro i k x m2 nw I h2 tk2 o hx hJ F2 hc off N2
    try k_fold
    obtain ⟨⟨t, hm1⟩, sub⟩ := hJ
    replace F2 := fr_kn F2 hm1
    dsimp only [knows] at F2
    try k_fold
    obtain ⟨q, hq, hk1, t1, hv1⟩ := paired_get hp hx
    dsimp only at hk1 hv1
    subst hv1
    try dsimp only
    k_steps
    rename Fr _ _ _ _ => F3
    rename News _ _ _ _ => N3
    have he : sumV (dl.take (i + 1)) = sumV (dl.take i) + q.2 := foldl_take_succ _ _ _ hq
    refine turn_end F3 N3 nw (by k_mem) (fun p hp => ⟨.tail _ hp, off p hp⟩) ⟨sub _ hd0, trivial⟩ ?_
    try dsimp only
    rw [he]
    exact ⟨⟨_, rfl, rfl, trivial⟩, sub⟩
  · intro m2 nw h2 tk2 hJ F2 N2
    try k_fold
    obtain ⟨⟨t, hm1⟩, sub⟩ := hJ
    replace F2 := fr_kn F2 hm1
    dsimp only [knows] at F2
    rw [hp.length, List.take_length] at F2
    try dsimp only
    k_steps
    exact hret _ _ _ _ (by k_asm) (by k_asm) sub ⟨_, rfl⟩
end PartCCount
section PartCAdd
set_option maxRecDepth 100000
theorem off_CAdd : True := by
  w_top off
  trivial
local macro_rules | `(tactic| k_mem) => `(tactic| first | exact List.mem_cons_self | (refine' List.mem_cons_of_mem _ ?_; k_mem) | ktr_member)
local macro_rules | `(tactic| k_all) => `(tactic| (with_reducible assumption))
local macro_rules | `(tactic| walk_at $k:str) => if ["eval BinOp", "eval Call", "eval Subscript", "eval Compare", "isTrue Compare", "eval Tuple", "eval List"].contains k.getString then `(tactic| (k_here; k_fold)) else Lean.Macro.throwUnsupported

local macro_rules | `(tactic| walk_at "exec For Tuple Call cons nil") => `(tactic| (k_here; (rename Fr _ _ _ _ => lF'); (with_unfolding_all refine' for_items (knd := PySem.intKind _ _) (enc := PyData.int) (fun _ _ h => Value.isInt_shape h) lF' ?_); k_whole; (with_unfolding_all ((refine MethodCall_ ?_); (refine ld (by assumption) (by rfl) ?_); (refine kdl_method PySem.F.slot_dict_items PySem.F.type_dict_items (by assumption) (by k_mem) (by assumption) ?_); (refine callWith_method0 ?_); (refine kta_callItems (by assumption) (by assumption) (by k_mem) (by assumption) (by assumption) ?_))); intro h' hv' F' N'))
set_option maxHeartbeats 8000000 in
theorem add_c (w : World) {news : List (Addr × Obj)} {d1 d2 : Addr} {o1 o2 : Obj} {t1 t2 : List (Int × Int)} (hm1 : (d1, o1) ∈ news) (lo1 : (d1 == sysModules) = false) (hi1 : IntDict w o1 t1) (hm2 : (d2, o2) ∈ news) (lo2 : (d2 == sysModules) = false) (hi2 : IntDict w o2 t2)
    (hsz : t1.length + t2.length ≤ 1000) : Con w 21 [.ref d1, .ref d2] news 4 (fun all r => ∃ d o, r = .ref d ∧ (d, o) ∈ all ∧ (∀ p ∈ news, p.1 ≠ d) ∧ (d == sysModules) = false ∧ IntDict w o (addM t1 t2)) := by
  obtain ⟨kv1, hk1, hp1⟩ := hi1
  obtain ⟨kv2, hk2, hp2⟩ := hi2
  unfold Con
  intro p loose mean mg mb dp un gd env outer A₀ base h₀ L m s Q E B F X N T hf hk hd hu hret
  refine wpAny_call ?_
  k_dflt ((refine' code_def ?k1 ?k2 ?k3 ?k4 ?k5 ?kA ?kF ?kK ?k6 ?k7 ?k8 ?k9 ?kB ?_ ?c2 ?c3 ?c4 ?c5; (case kA => exact rfl); (case kF => first | exact rfl | assumption); (case kK => first | exact rfl | assumption); (case k1 => k_asm); (case k2 => k_asm); (case k3 => k_asm); (case k4 => k_asm); (case k5 => k_asm); (case k6 => k_is); (case k7 => k_is); (case k8 => ktr_room); (case k9 => first | exact BindsTo.of_eq rfl | exact binds_K (by assumption) rfl (by k_is) rfl rfl rfl | exact binds_K (by k_in) rfl (by k_is) rfl rfl rfl); (case c5 => decide); (case kB => exact locs rfl); (case c2 => exact rfl); (case c3 => exact rfl); (case c4 => exact rfl); k_whole; intro qg' qL' qh' qFG' qF' qN' qB' qX' qT'; (try dsimp only); (try k_fold)))
  k_steps
  rename Fr _ _ _ _ => F1
  rename News _ _ _ _ => N1
  rename Addr => e1
  have hne0 : ∀ p ∈ news, p.1 ≠ e1 := fun p hp => Nat.ne_of_lt (by (rename ∀ p ∈ news, p.1 < _ => l1); exact l1 p hp)
  rename (_ == sysModules) = false => lo3
  rename Obj.IsDictOf (PySem.intKind _ _) _ [] => hi0
  refine ⟨⟨_, d1, o1, kv1, _, _, fun i m nw => Kn m [(Str.ofString "target", .ref d1), (Str.ofString "source", .ref d2), (Str.ofString "new_callers", .ref e1)] ∧ (∃ oe, (e1, oe) ∈ nw ∧ IntDict w oe ((t1.take i).foldl putP [])) ∧ (∀ p ∈ news, p ∈ nw) ∧ (∀ p ∈ news, p.1 ≠ e1), rfl, rfl, F1, N1, by assumption, .tail _ hm1, hk1, ⟨⟨rfl, rfl, rfl, trivial⟩, ⟨_, .head _, _, hi0, .nil⟩, fun _ h => .tail _ h, hne0⟩, ?_, ?_⟩⟩
  · intro i k x T t m2 nw I h2 tk2 o hx hJ hT F2 hc off N2
    try k_fold
    obtain ⟨hm, ⟨oe, he, hi⟩, sub, hne⟩ := hJ
    try k_fold
    obtain ⟨rest, N3, hr1, hr2, hr3⟩ := pull (kti_tail N2) he
    have hIe : (@Ne Nat I e1) := fun e => off _ he e.symm
    have N4 : News _ _ h2 ((e1, oe) :: (I, o) :: rest) := fun p hp => by
      simp only [List.mem_cons] at hp
      rcases hp with rfl | rfl | hp
      · exact N3 _ (.head _)
      · exact N2 _ (.head _)
      · exact N3 _ (.tail _ hp)
    replace F2 := fr_kn F2 hm
    dsimp only [knows] at F2
    clear N2 N3
    try k_fold
    obtain ⟨q, hq, hk1', t1', hv1⟩ := paired_get hp1 hx
    dsimp only at hk1' hv1
    subst hv1; subst hk1'
    try k_fold
    obtain ⟨kve, hke, hpe⟩ := hi
    dsimp only [kyVal] at hT ⊢
    k_steps
    rename Fr _ _ _ _ => F5
    rename News _ _ _ _ => N5
    have hl1 := hpe.len
    have hl2 := putP_len (t1.take i) []
    rw [List.length_take] at hl2
    refine kda_set (knd := PySem.intKind _ _) F5 N5 (.head fun p hp => ?_) hke (intKind_is _ _ _ _) (by rw [sizeLine_eq]; simp only [List.length_nil] at hl2; omega) ?_
    · rcases List.mem_cons.mp hp with rfl | hp
      · exact hIe
      · exact hr1 p hp
    intro h6 o6 F6 N6 hd6
    try dsimp only
    k_steps
    rename Fr _ _ _ _ => F7
    rename News _ _ _ _ => N7
    have he' : (t1.take (i + 1)).foldl putP [] = putP ((t1.take i).foldl putP []) q := foldl_take_succ _ _ _ hq
    have sub' : ∀ p ∈ news, p ∈ rest := fun p hp => hr3 p (sub p hp) (hne p hp)
    refine turn_end F7 N7 ((e1, o6) :: rest) (by k_mem) (fun p hp => ?_) ⟨.tail _ (sub' _ hm1), trivial⟩ ?_
    · rcases List.mem_cons.mp hp with rfl | hp
      · exact ⟨.head _, fun q => hIe q.symm⟩
      · exact ⟨.tail _ (.tail _ hp), off p (hr2 p hp)⟩
    (try dsimp only)
    rw [he']
    exact ⟨⟨rfl, rfl, rfl, trivial⟩, ⟨_, .head _, _, hd6, hpe.put ⟨_, rfl⟩⟩, fun p hp => .tail _ (sub' p hp), hne⟩
  · intro m2 nw h2 tk2 hJ F2 N2
    try k_fold
    obtain ⟨hm, ⟨oe, he, hi⟩, sub, hne⟩ := hJ
    replace F2 := fr_kn F2 hm
    dsimp only [knows] at F2
    try dsimp only
    rw [hp1.len, List.take_length] at hi
    try k_fold
    obtain ⟨kve, hke, hpe⟩ := hi
    clear hi0
    have hm2' := sub _ hm2
    k_steps
    rename Fr _ _ _ _ => F8
    rename News _ _ _ _ => N8
    refine ⟨⟨_, d2, o2, kv2, _, _, fun i m nw => Kn m [(Str.ofString "source", .ref d2), (Str.ofString "new_callers", .ref e1)] ∧ (∃ oe, (e1, oe) ∈ nw ∧ IntDict w oe ((t2.take i).foldl addP (t1.foldl putP []))) ∧ (∀ p ∈ news, p ∈ nw) ∧ (∀ p ∈ news, p.1 ≠ e1), rfl, rfl, F8, N8, by assumption, hm2', hk2, ⟨⟨rfl, rfl, trivial⟩, ⟨_, he, _, hke, hpe⟩, sub, hne⟩, ?_, ?_⟩⟩
    · intro i k x T t m3 nw3 I h3 tk3 o hx hJ hT F3 hc off N3
      try k_fold
      obtain ⟨hm, ⟨oe3, he3, hi3⟩, sub3, hne3⟩ := hJ
      try k_fold
      obtain ⟨rest, N4, hr1, hr2, hr3⟩ := pull (kti_tail N3) he3
      have hIe : (@Ne Nat I e1) := fun e => off _ he3 e.symm
      have N5 : News _ _ h3 ((e1, oe3) :: (I, o) :: rest) := fun p hp => by
        simp only [List.mem_cons] at hp
        rcases hp with rfl | rfl | hp
        · exact N4 _ (.head _)
        · exact N3 _ (.head _)
        · exact N4 _ (.tail _ hp)
      replace F3 := fr_kn F3 hm
      dsimp only [knows] at F3
      clear N3 N4
      try k_fold
      obtain ⟨q, hq, hk1', t1', hv1⟩ := paired_get hp2 hx
      dsimp only at hk1' hv1
      subst hv1; subst hk1'
      try k_fold
      obtain ⟨kve3, hke3, hpe3⟩ := hi3
      have hl1 := hpe3.len
      have hl2 := addP_len (t2.take i) (t1.foldl putP [])
      have hl3 := putP_len t1 []
      rw [List.length_take] at hl2
      simp only [List.length_nil] at hl3
      have he' : (t2.take (i + 1)).foldl addP (t1.foldl putP []) = addP ((t2.take i).foldl addP (t1.foldl putP [])) q := foldl_take_succ _ _ _ hq
      have sub' : ∀ p ∈ news, p ∈ rest := fun p hp => hr3 p (sub3 p hp) (hne3 p hp)
      dsimp only [kyVal] at hT ⊢
      k_steps
      rename Fr _ _ _ _ => F5
      rename News _ _ _ _ => N5
      try k_fold
      cases hg : getG ((t2.take i).foldl addP (t1.foldl putP [])) q.1 with
      | none =>
        have hv := hpe3.get_none hg
        refine kda_in (knd := PySem.intKind _ _) N5 (.head _) hke3 (by assumption) (intKind_is _ _ _ _) false (by rw [hv]; rfl) ?_
        k_steps
        rename Fr _ _ _ _ => F5
        rename News _ _ _ _ => N5
        refine kda_set (knd := PySem.intKind _ _) F5 N5 (.head fun p hp => ?_) hke3 (intKind_is _ _ _ _) (by rw [sizeLine_eq]; omega) ?_
        · rcases List.mem_cons.mp hp with rfl | hp
          · exact hIe
          · exact hr1 p hp
        intro h6 o6 F6 N6 hd6
        try dsimp only
        k_steps
        rename Fr _ _ _ _ => F7
        rename News _ _ _ _ => N7
        refine turn_end F7 N7 ((e1, o6) :: rest) (by k_mem) (fun p hp => ?_) ⟨.tail _ (sub' _ hm2), trivial⟩ ?_
        · rcases List.mem_cons.mp hp with rfl | hp
          · exact ⟨.head _, fun q => hIe q.symm⟩
          · exact ⟨.tail _ (.tail _ hp), off p (hr2 p hp)⟩
        (try dsimp only)
        rw [he']
        refine ⟨⟨rfl, rfl, trivial⟩, ⟨_, .head _, _, hd6, ?_⟩, fun p hp => .tail _ (sub' p hp), hne3⟩
        rw [addP_none hg]
        exact hpe3.put ⟨_, rfl⟩
      | some x =>
        try k_fold
        obtain ⟨v, hv, t', rfl⟩ := hpe3.get_some hg
        refine kda_in (knd := PySem.intKind _ _) N5 (.head _) hke3 (by assumption) (intKind_is _ _ _ _) true (by rw [hv]; rfl) ?_
        k_steps
        rename News _ _ _ _ => N5
        refine wpAny_getItem_of (intKind_is _ _ _ _) (kda_dict N5 (.head _) hke3).mapOf hv ?_
        k_steps
        rename Fr _ _ _ _ => F5
        rename News _ _ _ _ => N5
        refine kda_set (knd := PySem.intKind _ _) F5 N5 (.head fun p hp => ?_) hke3 (intKind_is _ _ _ _) (by rw [sizeLine_eq]; omega) ?_
        · rcases List.mem_cons.mp hp with rfl | hp
          · exact hIe
          · exact hr1 p hp
        intro h6 o6 F6 N6 hd6
        try dsimp only
        k_steps
        rename Fr _ _ _ _ => F7
        rename News _ _ _ _ => N7
        refine turn_end F7 N7 ((e1, o6) :: rest) (by k_mem) (fun p hp => ?_) ⟨.tail _ (sub' _ hm2), trivial⟩ ?_
        · rcases List.mem_cons.mp hp with rfl | hp
          · exact ⟨.head _, fun q => hIe q.symm⟩
          · exact ⟨.tail _ (.tail _ hp), off p (hr2 p hp)⟩
        (try dsimp only)
        rw [he']
        refine ⟨⟨rfl, rfl, trivial⟩, ⟨_, .head _, _, hd6, ?_⟩, fun p hp => .tail _ (sub' p hp), hne3⟩
        rw [addP_some hg]
        exact hpe3.put ⟨_, rfl⟩
    · intro m3 nw3 h3 tk3 hJ F3 N3
      try k_fold
      obtain ⟨hm, ⟨oe3, he3, hi3⟩, sub3, hne3⟩ := hJ
      replace F3 := fr_kn F3 hm
      dsimp only [knows] at F3
      rw [hp2.len, List.take_length] at hi3
      try dsimp only
      k_steps
      exact hret _ _ _ _ (by k_asm) (by k_asm) sub3 ⟨_, _, rfl, he3, hne3, by assumption, hi3⟩
end PartCAdd
section PartCGreat
set_option maxRecDepth 100000
local macro_rules | `(tactic| walk_at "no such key") => `(tactic| skip)
local macro_rules | `(tactic| walk_at "no such key") => `(tactic| skip)
local macro_rules | `(tactic| walk_at "no such key") => `(tactic| skip)
theorem off_CGreat : True := by
  w_top off
  trivial
local macro_rules | `(tactic| k_mem) => `(tactic| first | exact List.mem_cons_self | (refine' List.mem_cons_of_mem _ ?_; k_mem) | ktr_member)
local macro_rules | `(tactic| k_all) => `(tactic| (with_reducible assumption))
local macro_rules | `(tactic| walk_at $k:str) => if ["eval BinOp", "eval Call", "eval Subscript", "eval Compare", "isTrue Compare", "eval Tuple", "eval List"].contains k.getString then `(tactic| (k_here; k_fold)) else Lean.Macro.throwUnsupported

local macro_rules | `(tactic| walk_at "exec For Name Name cons nil") => `(tactic| (k_here; (rename Fr _ _ _ _ => lF'); (with_unfolding_all refine' for_list lF' ?_); k_whole))
noncomputable def StrVs (vs : List Value) (ss : List Str) : Prop := Paired (fun v s => ∃ t, v = Value.str s t) vs ss
noncomputable def bestS (b q : Str) : Str := if b.cps.toList < q.cps.toList then q else b
noncomputable def greatS (s0 : Str) (l : List Str) : Str := l.foldl bestS s0
set_option maxHeartbeats 8000000 in
theorem great_c (w : World) {news : List (Addr × Obj)} {a : Addr} {vs : List Value} {n : Nat} {s0 : Str} {ss : List Str} (hm : (a, listO vs n) ∈ news) (hv : StrVs vs (s0 :: ss)) (hsz : ss.length ≤ 1000) :
    Con w 145 [.ref a] news 4 (fun _ r => ∃ t, r = .str (greatS s0 (s0 :: ss)) t) := by
  unfold Con
  intro p loose mean mg mb dp un gd env outer A₀ base h₀ L m s Q E B F X N T hf hk hd hu hret
  refine wpAny_call ?_
  k_dflt ((refine' code_def ?k1 ?k2 ?k3 ?k4 ?k5 ?kA ?kF ?kK ?k6 ?k7 ?k8 ?k9 ?kB ?_ ?c2 ?c3 ?c4 ?c5; (case kA => exact rfl); (case kF => first | exact rfl | assumption); (case kK => first | exact rfl | assumption); (case k1 => k_asm); (case k2 => k_asm); (case k3 => k_asm); (case k4 => k_asm); (case k5 => k_asm); (case k6 => k_is); (case k7 => k_is); (case k8 => ktr_room); (case k9 => first | exact BindsTo.of_eq rfl | exact binds_K (by assumption) rfl (by k_is) rfl rfl rfl | exact binds_K (by k_in) rfl (by k_is) rfl rfl rfl); (case c5 => decide); (case kB => exact locs rfl); (case c2 => exact rfl); (case c3 => exact rfl); (case c4 => exact rfl); k_whole; intro qg' qL' qh' qFG' qF' qN' qB' qX' qT'; (try dsimp only); (try k_fold)))
  have hv' := hv
  try k_fold
  cases hv' with
  | cons h0 ht =>
  try k_fold
  obtain ⟨t0, rfl⟩ := h0
  k_steps
  rename News _ _ _ _ => N1
  refine kim_list (l := .str s0 t0 :: _) N1 hm rfl rfl (by decide) (by decide) rfl ?_
  k_steps
  rename Fr _ _ _ _ => F2
  rename News _ _ _ _ => N2
  refine ⟨⟨_, _, _, n, _, news, fun i m nw => (∃ t, Kn m [(Str.ofString "names", .ref a), (Str.ofString "best", .str (greatS s0 ((s0 :: ss).take i)) t)]) ∧ ∀ p ∈ news, p ∈ nw, rfl, rfl, F2, N2, hm, rfl, rfl, ⟨⟨_, rfl, rfl, trivial⟩, fun _ h => h⟩, ?_, ?_⟩⟩
  · intro i v m3 nw I h3 tk3 o hx hJ F3 hc off N3
    try k_fold
    obtain ⟨⟨t, hm3⟩, sub⟩ := hJ
    replace F3 := fr_kn F3 hm3
    dsimp only [knows] at F3
    try k_fold
    obtain ⟨q, hq, t1, rfl⟩ := paired_get hv hx
    try dsimp only
    k_steps
    k_dflt ((refine' call_cls ?k1 ?k2 ?k3 ?k4 ?k5 ?k6 ?_; (case k1 => k_asm); (case k2 => k_asm); (case k3 => k_asm); (case k4 => k_is); (case k5 => k_is); (case k6 => k_is); k_whole; intro qx' qd' qh' qF' qN' ql1 ql2; (try k_lt ql1); (try k_lt2 ql2); (try k_sweep); (refine' code_def ?k1 ?k2 ?k3 ?k4 ?k5 ?kA ?kF ?kK ?k6 ?k7 ?k8 ?k9 ?kB ?_ ?c2 ?c3 ?c4 ?c5; (case kA => exact rfl); (case kF => first | exact rfl | assumption); (case kK => first | exact rfl | assumption); (case k1 => k_asm); (case k2 => k_asm); (case k3 => k_asm); (case k4 => k_asm); (case k5 => k_asm); (case k6 => k_is); (case k7 => k_is); (case k8 => ktr_room); (case k9 => first | exact BindsTo.of_eq rfl | exact binds_K (by assumption) rfl (by k_is) rfl rfl rfl | exact binds_K (by k_in) rfl (by k_is) rfl rfl rfl); (case c5 => decide); (case kB => exact locs rfl); (case c2 => exact rfl); (case c3 => exact rfl); (case c4 => exact rfl); k_whole; intro qg' qL' qh' qFG' qF' qN' qB' qX' qT'; (try dsimp only); (try k_fold))))
    k_steps
    k_dflt ((refine' call_cls ?k1 ?k2 ?k3 ?k4 ?k5 ?k6 ?_; (case k1 => k_asm); (case k2 => k_asm); (case k3 => k_asm); (case k4 => k_is); (case k5 => k_is); (case k6 => k_is); k_whole; intro qx' qd' qh' qF' qN' ql1 ql2; (try k_lt ql1); (try k_lt2 ql2); (try k_sweep); (refine' code_def ?k1 ?k2 ?k3 ?k4 ?k5 ?kA ?kF ?kK ?k6 ?k7 ?k8 ?k9 ?kB ?_ ?c2 ?c3 ?c4 ?c5; (case kA => exact rfl); (case kF => first | exact rfl | assumption); (case kK => first | exact rfl | assumption); (case k1 => k_asm); (case k2 => k_asm); (case k3 => k_asm); (case k4 => k_asm); (case k5 => k_asm); (case k6 => k_is); (case k7 => k_is); (case k8 => ktr_room); (case k9 => first | exact BindsTo.of_eq rfl | exact binds_K (by assumption) rfl (by k_is) rfl rfl rfl | exact binds_K (by k_in) rfl (by k_is) rfl rfl rfl); (case c5 => decide); (case kB => exact locs rfl); (case c2 => exact rfl); (case c3 => exact rfl); (case c4 => exact rfl); k_whole; intro qg' qL' qh' qFG' qF' qN' qB' qX' qT'; (try dsimp only); (try k_fold))))
    k_steps
    ((refine cmp_ofLt ?_); k_dflt (refine' cmp_K ?k1 ?k2 ?k3 ?k4 ?k5 ?k6 ?k7 ?k8 ?_; (case k1 => ktr_units); (case k2 => k_asm); (case k3 => k_asm); (case k4 => k_inst); (case k5 => k_typeOf); (case k6 => k_is); (case k7 => k_is); (case k8 => k_is); k_whole))
    refine wpAny_call ?_
    k_dflt ((refine' code_def ?k1 ?k2 ?k3 ?k4 ?k5 ?kA ?kF ?kK ?k6 ?k7 ?k8 ?k9 ?kB ?_ ?c2 ?c3 ?c4 ?c5; (case kA => exact rfl); (case kF => first | exact rfl | assumption); (case kK => first | exact rfl | assumption); (case k1 => k_asm); (case k2 => k_asm); (case k3 => k_asm); (case k4 => k_asm); (case k5 => k_asm); (case k6 => k_is); (case k7 => k_is); (case k8 => ktr_room); (case k9 => first | exact BindsTo.of_eq rfl | exact binds_K (by assumption) rfl (by k_is) rfl rfl rfl | exact binds_K (by k_in) rfl (by k_is) rfl rfl rfl); (case c5 => decide); (case kB => exact locs rfl); (case c2 => exact rfl); (case c3 => exact rfl); (case c4 => exact rfl); k_whole; intro qg' qL' qh' qFG' qF' qN' qB' qX' qT'; (try dsimp only); (try k_fold)))
    k_steps
    all_goals (rename Fr _ _ _ _ => F4; rename News _ _ _ _ => N4)
    · refine turn_end F4 N4 nw (by k_mem) (fun p hp => ⟨.tail _ (.tail _ (.tail _ (.tail _ (.tail _ hp)))), off p hp⟩) ⟨sub _ hm, trivial⟩ ?_
      have he : greatS s0 ((s0 :: ss).take (i + 1)) = q := by
        unfold greatS
        rw [foldl_take_succ _ _ _ hq]
        exact if_pos (by assumption)
      (try dsimp only)
      rw [he]
      exact ⟨⟨_, rfl, rfl, trivial⟩, sub⟩
    · refine turn_end F4 N4 nw (by k_mem) (fun p hp => ⟨.tail _ (.tail _ (.tail _ (.tail _ (.tail _ hp)))), off p hp⟩) ⟨sub _ hm, trivial⟩ ?_
      have he : greatS s0 ((s0 :: ss).take (i + 1)) = greatS s0 ((s0 :: ss).take i) := by
        unfold greatS
        rw [foldl_take_succ _ _ _ hq]
        exact if_neg (by assumption)
      (try dsimp only)
      rw [he]
      exact ⟨⟨_, rfl, rfl, trivial⟩, sub⟩
  · intro m3 nw h3 tk3 hJ F3 N3
    try k_fold
    obtain ⟨⟨t, hm3⟩, sub⟩ := hJ
    replace F3 := fr_kn F3 hm3
    dsimp only [knows] at F3
    rw [Paired.length hv, List.take_length] at F3
    try dsimp only
    k_steps
    exact hret _ _ _ _ (by k_asm) (by k_asm) sub ⟨_, rfl⟩
end PartCGreat
section PartComp2
set_option maxRecDepth 100000
theorem off_Comp2 : True := by
  w_top off
  trivial
local macro_rules | `(tactic| k_mem) => `(tactic| first | exact List.mem_cons_self | (refine' List.mem_cons_of_mem _ ?_; k_mem) | ktr_member)
local macro_rules | `(tactic| k_all) => `(tactic| (with_reducible assumption))
local macro_rules | `(tactic| walk_at $k:str) => if ["eval BinOp", "eval Call", "eval Subscript", "eval Compare", "isTrue Compare", "eval Tuple", "eval List"].contains k.getString then `(tactic| (k_here; k_fold)) else Lean.Macro.throwUnsupported
local macro_rules | `(tactic| walk_at "eval ListComp") => `(tactic| (k_here; k_dflt (refine' comp_list (by with_unfolding_all rfl) (by decide) (by exact rfl) (by decide) (by exact rfl) ?_ (by (intro _; exact rfl)))))

section
variable {prog : Program} {w : World} {A : Around} {R : Result → Shared → Prop} {E : Value → Shared → Prop} {s : Shared} {env : Env}
theorem compTurn_two0 (elt t1 i1 t2 i2 : Expr) (scope : Scope) (pos : Pos) (it acc : Value) (env : Env) :
    compTurn (.ListComp elt [⟨t1, i1, [], 0⟩, ⟨t2, i2, [], 0⟩] scope pos) 0 it acc env = (standAt i1.pos >>= fun _ => pyNext it >>= fun r => match r with
      | none => pure (.done .next)
      | some v => letOwnedTupleGo t1 it v >>= fun _ => assign t1 env v >>= fun _ => eval i2 env >>= fun x => standAt i2.pos >>= fun _ => foldedSetIterable i2 env x >>= fun x =>
        holding [x] (pyIter x) >>= fun it2 => runOwn (.compStart (.ListComp elt [⟨t1, i1, [], 0⟩, ⟨t2, i2, [], 0⟩] scope pos) 1 it2 acc env) env >>= fun _ =>
          again (.compLoop (.ListComp elt [⟨t1, i1, [], 0⟩, ⟨t2, i2, [], 0⟩] scope pos) 0 it acc env)) := by rfl
theorem compTurn_two1 (elt target iter : Expr) (c0 : Comprehension) (scope : Scope) (pos : Pos) (it acc : Value) (env : Env) :
    compTurn (.ListComp elt [c0, ⟨target, iter, [], 0⟩] scope pos) 1 it acc env = (standAt iter.pos >>= fun _ => pyNext it >>= fun r => match r with
      | none => pure (.done .next)
      | some v => letOwnedTupleGo target it v >>= fun _ => assign target env v >>= fun _ =>
        (eval elt env >>= fun x => call (.builtin "list.append") [acc, x] >>= fun _ => pure ()) >>= fun _ =>
          again (.compLoop (.ListComp elt [c0, ⟨target, iter, [], 0⟩] scope pos) 1 it acc env)) := by rfl
theorem loop_two1 {elt target iter : Expr} {c0 : Comprehension} {scope : Scope} {pos : Pos} {it acc : Value} (I : Nat → Shared → Prop)
    (turn : ∀ n s, I n s → wpAny (model prog w) A (pyNext it) (fun r s₁ => match r with
      | none => R (.ok .next) s₁
      | some v => wpAny (model prog w) A (assign target env v) (fun _ s₂ => wpAny (model prog w) A (eval elt env) (fun x s₃ =>
          wpAny (model prog w) A (call (.builtin "list.append") [acc, x]) (fun _ s₄ => ∃ m, m < n ∧ I m s₄) (notedBy (model prog w) A env fun e s' => R (.error e) s') s₃)
          (notedBy (model prog w) A env fun e s' => R (.error e) s') s₂) (notedBy (model prog w) A env fun e s' => R (.error e) s') s₁) (notedBy (model prog w) A env fun e s' => R (.error e) s') s)
    (n : Nat) (h : I n s) (ht : ∀ v, letOwnedTupleGo target it v = pure () := by intro _; rfl) :
    codeAny (model prog w) A (.compLoop (.ListComp elt [c0, ⟨target, iter, [], 0⟩] scope pos) 1 it acc env) R s := by
  refine codeAny_loop rfl I (fun n s hI => ?_) n h
  show wpAny _ _ ((compTurn (.ListComp elt [c0, ⟨target, iter, [], 0⟩] scope pos) 1 it acc env).onRaise (fun x => do noteFrame x env; theTreesLotGoes x)) _ _ s
  refine wpAny_noted ?_
  rw [compTurn_two1]
  refine wpAny_bind (wpAny_standAt (wpAny_bind (wpAny_mono (turn n s hI) (fun r s₁ h₁ => ?_) fun _ _ h' => h')))
  cases r with
  | none => exact wpAny_pure h₁
  | some v =>
    refine wpAny_bind (wpAny_of_eq (ht v) ?_)
    exact wpAny_bind (wpAny_mono h₁ (fun _ s₂ h₂ => wpAny_bind (wpAny_bind (wpAny_mono h₂ (fun x s₃ h₃ => wpAny_bind (wpAny_mono h₃
      (fun _ s₄ h₄ => wpAny_pure (wpAny_pure ⟨rfl, h₄⟩)) fun _ _ h' => h')) fun _ _ h' => h'))) fun _ _ h' => h')
theorem start_two1 {elt target iter : Expr} {c0 : Comprehension} {scope : Scope} {pos : Pos} {it acc : Value}
    (h0 : codeAny (model prog w) A (.compLoop (.ListComp elt [c0, ⟨target, iter, [], 0⟩] scope pos) 1 it acc env) R s)
    (h : wpAny (model prog w) A (pyIter it) (fun it' s' => codeAny (model prog w) A (.compLoop (.ListComp elt [c0, ⟨target, iter, [], 0⟩] scope pos) 1 it' acc env) R s')
      (notedBy (model prog w) A env fun x s' => R (.error x) s') s) :
    codeAny (model prog w) A (.compStart (.ListComp elt [c0, ⟨target, iter, [], 0⟩] scope pos) 1 it acc env) R s := by
  refine codeAny_of_tree ?_
  show wpAny _ _ ((compStart (.ListComp elt [c0, ⟨target, iter, [], 0⟩] scope pos) 1 it acc env).onRaise (fun x => do noteFrame x env; standAt theWindowsPlace)) _ _ s
  refine wpAny_notedAt ?_
  unfold compStart
  show wpAny _ _ (ask >>= _) _ _ s
  refine wpAny_bind (wpAny_askSetting (wpAny_ite ?_))
  split
  · first
      | exact wpAny_bind (wpAny_pure (wpAny_pure (And.intro rfl h0)))
      | exact wpAny_pure (And.intro rfl h0)
  · first
      | exact wpAny_bind (wpAny_rule (wpAny_bind (wpAny_standAt (wpAny_bind (wpAny_mono h (fun it' s' h' => wpAny_pure (And.intro rfl h')) fun _ _ x => x)))))
      | (refine wpAny_bind (wpAny_rule ?_); show wpAny _ _ (standAt iter.pos >>= _) _ _ s; exact wpAny_bind (wpAny_standAt (wpAny_bind (wpAny_mono h (fun it' s' h' => wpAny_pure (And.intro rfl h')) fun _ _ x => x))))
theorem loop_two0 {elt t1 i1 t2 i2 : Expr} {scope : Scope} {pos : Pos} {it acc : Value} (I : Nat → Shared → Prop)
    (turn : ∀ n s, I n s → wpAny (model prog w) A (pyNext it) (fun r s₁ => match r with
      | none => R (.ok .next) s₁
      | some v => wpAny (model prog w) A (assign t1 env v) (fun _ s₂ => wpAny (model prog w) A (eval i2 env) (fun x s₃ => wpAny (model prog w) A (pyIter x) (fun it2 s₄ =>
          codeAny (model prog w) A (.compStart (.ListComp elt [⟨t1, i1, [], 0⟩, ⟨t2, i2, [], 0⟩] scope pos) 1 it2 acc env) (fun r s' => match r with
            | .ok _ => ∃ m, m < n ∧ I m s'
            | .error e => cameBackBy (model prog w) A env (notedBy (model prog w) A env fun e s' => R (.error e) s') e s') s₄) (notedBy (model prog w) A env fun e s' => R (.error e) s') s₃)
          (notedBy (model prog w) A env fun e s' => R (.error e) s') s₂) (notedBy (model prog w) A env fun e s' => R (.error e) s') s₁) (notedBy (model prog w) A env fun e s' => R (.error e) s') s)
    (n : Nat) (h : I n s) (ht : ∀ v, letOwnedTupleGo t1 it v = pure () := by intro _; rfl) (hs : ∀ x, foldedSetIterable i2 env x = pure x := by intro _; rfl) :
    codeAny (model prog w) A (.compLoop (.ListComp elt [⟨t1, i1, [], 0⟩, ⟨t2, i2, [], 0⟩] scope pos) 0 it acc env) R s := by
  refine codeAny_loop rfl I (fun n s hI => ?_) n h
  show wpAny _ _ ((compTurn (.ListComp elt [⟨t1, i1, [], 0⟩, ⟨t2, i2, [], 0⟩] scope pos) 0 it acc env).onRaise (fun x => do noteFrame x env; theTreesLotGoes x)) _ _ s
  refine wpAny_noted ?_
  rw [compTurn_two0]
  refine wpAny_bind (wpAny_standAt (wpAny_bind (wpAny_mono (turn n s hI) (fun r s₁ h₁ => ?_) fun _ _ h' => h')))
  cases r with
  | none => exact wpAny_pure h₁
  | some v =>
    refine wpAny_bind (wpAny_of_eq (ht v) ?_)
    refine wpAny_bind (wpAny_mono h₁ (fun _ s₂ h₂ => wpAny_bind (wpAny_mono h₂ (fun x s₃ h₃ => ?_) fun _ _ h' => h')) fun _ _ h' => h')
    refine wpAny_bind (wpAny_standAt (wpAny_bind (wpAny_of_eq (hs x) (wpAny_bind (wpAny_holding (wpAny_mono h₃ (fun it2 s₄ h₄ => wpAny_bind (wpAny_runOwn ?_)) fun _ _ h' => h'))))))
    refine codeAny_mono h₄ fun r s' hr => ?_
    cases r with
    | ok f => exact wpAny_pure ⟨rfl, hr⟩
    | error e => exact hr
end
section
open PyProof.Rows.LCg PyProof.Rows.LCt
variable {prog : Program} {w : World} {A : Around} {E : Value → Shared → Prop} {s : Shared} {env : Env}
noncomputable def Off4 (I I2 C D : Addr) (nw : List (Addr × Obj)) : Prop := ∀ p ∈ nw, (@Ne Nat p.1 I) ∧ (@Ne Nat p.1 I2) ∧ (@Ne Nat p.1 C) ∧ (@Ne Nat p.1 D)
inductive TwoEnd (h₀ : Heap) (L : Addr) (m : Str → Option Value) (s : Shared) (keep : List (Addr × Obj)) (J : Nat → List Value → List (Addr × Obj) → Prop) (k : Nat) (I I2 C D : Addr) (oI oI2 oC : Obj) (ys : List Value) (yv : Value) (s' : Shared) : Prop
  | mk : ∀ h' tk' nw', s' = { s with heap := h', toks := tk' } → Fr h₀ L h' m → News h₀ L h' ((I, oI) :: (I2, oI2) :: (C, oC) :: (D, lst ys) :: nw') → Off4 I I2 C D nw' → (∀ p ∈ keep, p ∈ nw') → J k (ys ++ [yv]) nw' → TwoEnd h₀ L m s keep J k I I2 C D oI oI2 oC ys yv s'
/-- the turn of a comprehension of two clauses -/
noncomputable def TwoTurn (prog : Program) (w : World) (A : Around) (h₀ : Heap) (L : Addr) (m : Str → Option Value) (env : Env) (elt : Expr) (x y : Str) (scope : Scope) (cl : List (Str × Addr)) (s : Shared) (keep : List (Addr × Obj)) (vs1 vs2 : List Value) (J : Nat → List Value → List (Addr × Obj) → Prop) : Prop :=
  ∀ i j v1 v2 ys nw I oI I2 oI2 C oC D m₂ h tk (E' : Value → Shared → Prop), vs1[i]? = some v1 → vs2[j]? = some v2 → J (i * vs2.length + j) ys nw → (∀ p ∈ keep, p ∈ nw) → NsObj oC m₂ → m₂ x = some v1 → m₂ y = some v2 → Fr h₀ L h m →
    News h₀ L h ((I, oI) :: (I2, oI2) :: (C, oC) :: (D, lst ys) :: nw) → Off4 I I2 C D nw → ((@Ne Nat I I2) ∧ (@Ne Nat I C) ∧ (@Ne Nat I D) ∧ (@Ne Nat I2 C) ∧ (@Ne Nat I2 D) ∧ (@Ne Nat C D)) →
    wpAny (model prog w) A (eval elt (compEnvC scope cl C env)) (fun yv s' => Stop (TwoEnd h₀ L m s keep J (i * vs2.length + j + 1) I I2 C D oI oI2 oC ys yv s')) E' { s with heap := h, toks := tk }
theorem two_inner {elt i1 i2 : Expr} {x y : Str} {px py : Pos} {scope : Scope} {cl : List (Str × Addr)} {pos : Pos} {h₀ : Heap} {L I I2 C D bx : Addr} {m m₁ : Str → Option Value} {oI : Obj} {keep news : List (Addr × Obj)} {vs1 vs2 ys₀ : List Value} {n2 i : Nat} {v1 : Value}
    {J : Nat → List Value → List (Addr × Obj) → Prop} {R : Result → Shared → Prop} {h : Heap} {tk : Nat}
    (hh : A.handled = none) (hkind : scope.kind = .function) (hy : scope.names.lookup y = some .local) (hxy : x ≠ y) (T : TwoTurn prog w A h₀ L m env elt x y scope cl s keep vs1 vs2 J) (hv1 : vs1[i]? = some v1)
    (hbx : (bx, listO vs2 n2) ∈ keep) (hsz : (i + 1) * vs2.length ≤ sizeLine)
    (ne : (@Ne Nat I I2) ∧ (@Ne Nat I C) ∧ (@Ne Nat I D) ∧ (@Ne Nat I2 C) ∧ (@Ne Nat I2 D) ∧ (@Ne Nat C D)) (nL : (@Ne Nat I L) ∧ (@Ne Nat I2 L) ∧ (@Ne Nat C L) ∧ (@Ne Nat D L)) (n0 : h₀.get? I = none ∧ h₀.get? I2 = none ∧ h₀.get? C = none ∧ h₀.get? D = none)
    (hI : h.get? I = some oI) (hI2 : h.IsListIter I2 bx 0) (F : Fr h₀ L h m) (hC : h.Ns C m₁) (hx : m₁ x = some v1) (N : News h₀ L h ((D, lst ys₀) :: news)) (off : Off4 I I2 C D news) (hk : ∀ p ∈ keep, p ∈ news) (hlen : ys₀.length = i * vs2.length) (hJ : J (i * vs2.length) ys₀ news)
    (hR : ∀ h' tk' ys m' nw, h'.get? I = some oI → Fr h₀ L h' m → h'.Ns C m' → News h₀ L h' ((D, lst ys) :: nw) → Off4 I I2 C D nw → (∀ p ∈ keep, p ∈ nw) → ys.length = (i + 1) * vs2.length → J ((i + 1) * vs2.length) ys nw → R (.ok .next) { s with heap := h', toks := tk' }) :
    codeAny (model prog w) A (.compStart (.ListComp elt [⟨.Name x px, i1, [], 0⟩, ⟨.Name y py, i2, [], 0⟩] scope pos) 1 (.ref I2) (.ref D) (compEnvC scope cl C env)) R { s with heap := h, toks := tk } := by
  obtain ⟨nII2, nIC, nID, nI2C, nI2D, nCD⟩ := ne
  obtain ⟨lI, lI2, lC, lD⟩ := nL
  obtain ⟨zI, zI2, zC, zD⟩ := n0
  have hbne : bx ≠ I2 := (off _ (hk _ hbx)).2.1
  have W := Walks.list (prog := prog) (w := w) hh I2 bx hbne vs2.toArray
  have hsucc : (i + 1) * vs2.length = i * vs2.length + vs2.length := Nat.succ_mul _ _
  have lst2 : ∀ {h' : Heap} {nw : List (Addr × Obj)} {ys : List Value}, News h₀ L h' ((D, lst ys) :: nw) → (∀ p ∈ keep, p ∈ nw) → h'.IsList bx vs2.toArray := fun N' k' => ⟨_, (N' _ (.tail _ (k' _ hbx))).1, rfl, n2, rfl⟩
  have loop : ∀ s₃ : Shared, s₃ = { s with heap := h, toks := tk } →
      codeAny (model prog w) A (.compLoop (.ListComp elt [⟨.Name x px, i1, [], 0⟩, ⟨.Name y py, i2, [], 0⟩] scope pos) 1 (.ref I2) (.ref D) (compEnvC scope cl C env)) R s₃ := by
    rintro s₃ rfl
    refine loop_two1
      (fun k s' => ∃ h' tk' j ys m' nw, s' = { s with heap := h', toks := tk' } ∧ j ≤ vs2.length ∧ k = vs2.length + 1 - j ∧ h'.get? I = some oI ∧ h'.IsListIter I2 bx j ∧ Fr h₀ L h' m ∧ h'.Ns C m' ∧ m' x = some v1 ∧ News h₀ L h' ((D, lst ys) :: nw) ∧ Off4 I I2 C D nw ∧ (∀ p ∈ keep, p ∈ nw) ∧
        ys.length = i * vs2.length + j ∧ J (i * vs2.length + j) ys nw) ?_ (vs2.length + 1)
      ⟨h, tk, 0, ys₀, m₁, news, rfl, Nat.zero_le _, rfl, hI, hI2, F, hC, hx, N, off, hk, hlen, hJ⟩
    rintro k s' ⟨h', tk', j, ys, m', nw, rfl, hj, rfl, hI', hI2', F', hC', hx', N', off', hk', hl', hJ'⟩
    have hst : h'.IsListIter I2 bx j ∧ h'.IsList bx vs2.toArray := ⟨hI2', lst2 N' hk'⟩
    by_cases hlt : j < vs2.length
    · refine W.item j _ _ _ (by rw [List.size_toArray]; exact hlt) hst fun v h₂ tk₂ hPv hst₂ hk₂ => ?_
      have hv2 : vs2[j]? = some v := by simpa using hPv
      refine wpAny_assign_Name (wpAny_storeName_local (lookup_relabel_local hy) (hC'.at' fun o e => hk₂ _ o (by simpa using Ne.symm nI2C) e) (fun h₃ hn₃ hs₃ => ?_) (by simp [compEnvC, relabel, hkind]))
      obtain ⟨oC, heC, hoC⟩ := ns_obj hn₃
      have F₃ : Fr h₀ L h₃ m := (fr_but F' hk₂ (Ne.symm lI2) zI2).change hs₃ lC zC
      have N₂ : News h₀ L h₂ ((D, lst ys) :: nw) := news_but N' hk₂ fun p hp => by
        rcases List.mem_cons.mp hp with rfl | hp
        · exact Ne.symm nI2D
        · exact (off' p hp).2.1
      have hI3 : h₃.get? I = some oI := hs₃.extBut _ _ nIC (hk₂ _ _ (by simpa using nII2) hI')
      obtain ⟨oI2, heI2, hcI2⟩ := hst₂.1
      have hI23 : h₃.get? I2 = some oI2 := hs₃.extBut _ _ nI2C heI2
      have N₃ : News h₀ L h₃ ((I, oI) :: (I2, oI2) :: (C, oC) :: (D, lst ys) :: nw) := fun p hp => by
        rcases List.mem_cons.mp hp with rfl | hp
        · exact ⟨hI3, lI, zI⟩
        rcases List.mem_cons.mp hp with rfl | hp
        · exact ⟨hI23, lI2, zI2⟩
        rcases List.mem_cons.mp hp with rfl | hp
        · exact ⟨heC, lC, zC⟩
        have z := N₂ p hp
        refine ⟨hs₃.extBut _ _ ?_ z.1, z.2⟩
        rcases List.mem_cons.mp hp with rfl | hp
        · exact Ne.symm nCD
        · exact (off' p hp).2.2.1
      refine wpAny_mono (T i j v1 v ys nw I oI I2 oI2 C oC D _ h₃ _ _ hv1 hv2 hJ' hk' hoC (by simp [hxy, hx']) (by simp) F₃ N₃ off' ⟨nII2, nIC, nID, nI2C, nI2D, nCD⟩) (fun yv s₄ h₄ => ?_) fun _ _ e => e
      obtain ⟨h₄, tk₄, nw₄, rfl, F₄, N₄, off₄, hk₄, hJ₄⟩ := h₄.of
      have qI := (N₄ (I, oI) (.head _)).1
      have qI2 := (N₄ (I2, oI2) (.tail _ (.head _))).1
      have qC := (N₄ (C, oC) (.tail _ (.tail _ (.head _)))).1
      have qD := (N₄ (D, lst ys) (.tail _ (.tail _ (.tail _ (.head _))))).1
      refine append_at (hsz := by show ys.toArray.size ≤ sizeLine; rw [List.size_toArray, hl']; omega) qD fun h₅ hs₅ hD₅ => ?_
      refine ⟨vs2.length + 1 - (j + 1), by omega, h₅, tk₄, j + 1, ys ++ [yv], _, nw₄, rfl, hlt, rfl, hs₅.extBut _ _ nID qI, ⟨oI2, hs₅.extBut _ _ nI2D qI2, hcI2⟩, F₄.change hs₅ lD zD, (hoC.ns qC).sameBut hs₅ nCD, (by simp [hxy, hx']), fun p hp => ?_, off₄, hk₄, by rw [List.length_append, List.length_singleton, hl']; omega, hJ₄⟩
      rcases List.mem_cons.mp hp with rfl | hp
      · exact ⟨hD₅.trans (congrArg some (lst_snoc ys yv)), lD, zD⟩
      · have z := N₄ p (.tail _ (.tail _ (.tail _ (.tail _ hp))))
        exact ⟨hs₅.extBut _ _ (off₄ p hp).2.2.2 z.1, z.2⟩
    · obtain rfl : j = vs2.length := Nat.le_antisymm hj (Nat.not_lt.mp hlt)
      refine W.done _ _ _ (by rw [List.size_toArray]; exact hst) fun h₂ tk₂ hk₂ => ?_
      exact hR h₂ tk₂ ys m' nw (hk₂ _ _ (by simpa using nII2) hI') (fr_but F' hk₂ (Ne.symm lI2) zI2) (hC'.at' fun o e => hk₂ _ o (by simpa using Ne.symm nI2C) e) (news_but N' hk₂ fun p hp => by
        rcases List.mem_cons.mp hp with rfl | hp
        · exact Ne.symm nI2D
        · exact (off' p hp).2.1) off' hk' (by rw [hl', hsucc]) (by rw [hsucc]; exact hJ')
  exact start_two1 (loop _ rfl) (W.self 0 _ _ _ ⟨hI2, lst2 N hk⟩ (loop _ rfl))
end
section
open PyProof.Rows.LCg PyProof.Rows.LCt
variable {prog : Program} {w : World} {A : Around} {E : Value → Shared → Prop} {s : Shared} {env : Env}
inductive Go_comp_two (prog : Program) (w : World) (A : Around) (env : Env) (elt : Expr) (x : Str) (y : Str) (i2 : Expr) (scope : Scope) (cl : List (Str × Addr)) (Q : Value → Shared → Prop) (xv : Value) (s₁ : Shared) : Prop
  | mk : ∀ (h₀ L m ax bx vs1 n1 vs2 n2 keep news : _), ∀ (J : Nat → List Value → List (Addr × Obj) → Prop), (xv = .ref ax) → (A.handled = none) → (Fr h₀ L s₁.heap m) → (News h₀ L s₁.heap news) → ((∀ p ∈ keep, p ∈ news)) → ((ax, listO vs1 n1) ∈ keep) → ((bx, listO vs2 n2) ∈ keep) → (vs1.length * vs2.length ≤ sizeLine) → (J 0 [] news) → ((∀ g I oI C oC D ys m₂ h tk nw (E' : Value → Shared → Prop), NsObj oC m₂ → Fr h₀ L h m → News h₀ L h ((I, oI) :: (C, oC) :: (D, lst ys) :: nw) → (∀ p ∈ keep, p ∈ nw) →
        wpAny (model prog w) A (eval i2 (compEnvC scope cl C env)) (fun xv s' => xv = .ref bx ∧ s' = { s₁ with heap := h, toks := tk, gens := g }) E' { s₁ with heap := h, toks := tk, gens := g })) → ((∀ g, TwoTurn prog w A h₀ L m env elt x y scope cl { s₁ with heap := g } keep vs1 vs2 J)) → ((∀ ys news' D h tk, J (vs1.length * vs2.length) ys news' → (∀ p ∈ keep, p ∈ news') → ys.length = vs1.length * vs2.length → Fr h₀ L h m → News h₀ L h ((D, lst ys) :: news') → Off1 D news' → Q (.ref D) { s₁ with heap := h, toks := tk })) → Go_comp_two prog w A env elt x y i2 scope cl Q xv s₁
theorem comp_two {elt i1 i2 : Expr} {x y : Str} {px py : Pos} {scope : Scope} {cl : List (Str × Addr)} {pos : Pos} {Q : Value → Shared → Prop}
    (hclos : closureFor scope env = pure cl) (hcell : ∀ y ∈ scope.names, y.2 ≠ .cell) (hkind : scope.kind = .function)
    (hnames : ∀ y ∈ scope.names, y.2 = .local → scope.names.lookup y.1 = some .local) (hx : scope.names.lookup x = some .local) (hy : scope.names.lookup y = some .local) (hxy : x ≠ y)
    (h : wpAny (model prog w) A (eval i1 env) (fun xv s₁ => Stop (Go_comp_two prog w A env elt x y i2 scope cl Q xv s₁)) E s)
    (hs1 : ∀ x, foldedSetIterable i1 env x = pure x := by intro _; rfl) (hs2 : ∀ C x, foldedSetIterable i2 (compEnvC scope cl C env) x = pure x := by intro _ _; rfl) :
    wpAny (model prog w) A (eval (.ListComp elt [⟨.Name x px, i1, [], 0⟩, ⟨.Name y py, i2, [], 0⟩] scope pos) env) Q E s := by
  rw [eval_ListComp]
  refine wpAny_comprehension_free (use := none) rfl hs1 hclos hkind hnames (wpAny_mono h (fun xv s₁ h₁ => ?_) fun _ _ e => e)
  obtain ⟨h₀, L, m, ax, bx, vs1, n1, vs2, n2, keep, news, J, rfl, hh, F, N, hk, hax, hbx, hsz, hJ, hit, T, hQ⟩ := h₁.of
  have hl : s₁.heap.IsList ax vs1.toArray := ⟨_, (N _ (hk _ hax)).1, rfl, n1, rfl⟩
  have hlt : ax < s₁.heap.objs.size := let ⟨_, e, _⟩ := hl; Heap.lt_size e
  refine wpAny_pyIter_list hl ?_
  have up : ∀ b o, s₁.heap.get? b = some o → (s₁.heap.push { cls := .type "list_iterator", data := .fields #[.ref ax, .int 0 0] }).get? b = some o := fun b o e => Heap.get?_push_of_some _ e
  have F1 := F.keeps up
  have N1 := N.grown up
  have hI0 : h₀.get? s₁.heap.objs.size = none := next_is_new F
  have hIL : (@Ne Nat s₁.heap.objs.size L) := Nat.ne_of_gt F.ns.lt
  have hst0 : (s₁.heap.push { cls := .type "list_iterator", data := .fields #[.ref ax, .int 0 0] }).IsListIter s₁.heap.objs.size ax 0 := ⟨_, Heap.get?_push_size _ rfl, rfl, rfl⟩
  have offI : ∀ p ∈ news, (@Ne Nat p.1 s₁.heap.objs.size) := fun p hp => Nat.ne_of_lt (Heap.lt_size (N p hp).1)
  have haI : (@Ne Nat ax s₁.heap.objs.size) := Nat.ne_of_lt hlt
  have hsz1 : s₁.heap.objs.size < (s₁.heap.push { cls := .type "list_iterator", data := .fields #[.ref ax, .int 0 0] }).objs.size := by rw [Heap.size_push]; exact Nat.lt_succ_self _
  generalize s₁.heap.push { cls := .type "list_iterator", data := .fields #[.ref ax, .int 0 0] } = H1 at *
  generalize s₁.heap.objs.size = I at *
  refine wpAny_newObj_type (wpAny_newFunctionEnv hcell (by intro y hy; simp at hy) (fun h₁ hns₁ hsb₁ => ?_) hkind)
  dsimp only at hns₁ hsb₁ ⊢
  generalize hH2 : H1.push { cls := .type "list", dict := none, data := .seq ([] : List Value).toArray } = H2 at hns₁ hsb₁ ⊢
  have hD : H2.get? H1.objs.size = some (lst []) := hH2 ▸ Heap.get?_push_size _ rfl
  have hC : H2.objs.size = H1.objs.size + 1 := by rw [← hH2, Heap.size_push]
  have nID : (@Ne Nat I H1.objs.size) := Nat.ne_of_lt hsz1
  have nIC : (@Ne Nat I H2.objs.size) := Nat.ne_of_lt (by rw [hC]; exact Nat.lt_succ_of_lt hsz1)
  have nCD : (@Ne Nat H2.objs.size H1.objs.size) := by rw [hC]; exact Nat.succ_ne_self _
  have old : ∀ b o, H1.get? b = some o → h₁.get? b = some o := fun b o e => hsb₁.extBut b o (Nat.ne_of_lt (by rw [hC]; exact Nat.lt_succ_of_lt (Heap.lt_size e))) (Heap.get?_push_of_some _ (hH2 ▸ Heap.get?_push_of_some _ e))
  have hacc : h₁.get? H1.objs.size = some (lst []) := hsb₁.extBut _ _ (Ne.symm nCD) (Heap.get?_push_of_some _ hD)
  have fresh₀ : ∀ a, H1.objs.size ≤ a → h₀.get? a = none := fun a ha => by
    cases e : h₀.get? a with
    | none => rfl
    | some o' => exact absurd (Heap.lt_size (F1.keep a o' e)) (Nat.not_lt.mpr ha)
  have hD₀ : h₀.get? H1.objs.size = none := fresh₀ _ (Nat.le_refl _)
  have hC₀ : h₀.get? H2.objs.size = none := fresh₀ _ (by rw [hC]; exact Nat.le_succ _)
  have hDL : (@Ne Nat H1.objs.size L) := Nat.ne_of_gt F1.ns.lt
  have hCL : (@Ne Nat H2.objs.size L) := Nat.ne_of_gt (by rw [hC]; exact Nat.lt_succ_of_lt F1.ns.lt)
  have off₀ : Off3 I H2.objs.size H1.objs.size news := Off3.of fun p hp => ⟨offI p hp, Nat.ne_of_lt (by rw [hC]; exact Nat.lt_succ_of_lt (Heap.lt_size (N1 p hp).1)), Nat.ne_of_lt (Heap.lt_size (N1 p hp).1)⟩
  have F2 : Fr h₀ L h₁ m := F1.keeps old
  have N2 : News h₀ L h₁ ((H1.objs.size, lst []) :: news) := fun p hp => by
    rcases List.mem_cons.mp hp with rfl | hp
    · exact ⟨hacc, hDL, hD₀⟩
    · exact ⟨old _ _ (N1 p hp).1, (N1 p hp).2⟩
  have hst1 : h₁.IsListIter I ax 0 := hst0.at fun o e => old _ _ e
  generalize H1.objs.size = D at *
  generalize H2.objs.size = C at *
  clear hC hD hH2 old fresh₀ hsb₁ F1 N1 up hsz1 offI hst0 hl hlt
  have W := Walks.list (prog := prog) (w := w) hh I ax haI vs1.toArray
  have loop : ∀ s₃ : Shared, s₃ = { s₁ with heap := h₁, toks := s₁.toks + ([] : List (Str × Value)).length } →
      codeAny (model prog w) A (.compLoop (.ListComp elt [⟨.Name x px, i1, [], 0⟩, ⟨.Name y py, i2, [], 0⟩] scope pos) 0 (.ref I) (.ref D) (compEnvC scope cl C env)) (compPost (model prog w) A E none Q (.ref D) C) s₃ := by
    rintro s₃ rfl
    refine loop_two0
      (fun k s' => ∃ h' tk i ys m' nw, s' = { s₁ with heap := h', toks := tk } ∧ i ≤ vs1.length ∧ k = vs1.length + 1 - i ∧ h'.IsListIter I ax i ∧ Fr h₀ L h' m ∧ h'.Ns C m' ∧ News h₀ L h' ((D, lst ys) :: nw) ∧ Off3 I C D nw ∧ (∀ p ∈ keep, p ∈ nw) ∧ ys.length = i * vs2.length ∧ J (i * vs2.length) ys nw) ?_ (vs1.length + 1)
      ⟨h₁, _, 0, [], _, news, rfl, Nat.zero_le _, rfl, hst1, F2, hns₁, N2, off₀, hk, by simp, by simpa using hJ⟩ (hs := fun x => hs2 C x)
    rintro k s' ⟨h', tk, i, ys, m', nw, rfl, hi, rfl, hI', F', hC', N', off', hk', hl', hJ'⟩
    have off3 := off'.mem
    have hst : h'.IsListIter I ax i ∧ h'.IsList ax vs1.toArray := ⟨hI', _, (N' _ (.tail _ (hk' _ hax))).1, rfl, n1, rfl⟩
    by_cases hlt : i < vs1.length
    · refine W.item i _ _ _ (by rw [List.size_toArray]; exact hlt) hst fun v h₂ tk₂ hPv hst₂ hk₂ => ?_
      have hv1 : vs1[i]? = some v := by simpa using hPv
      refine wpAny_assign_Name (wpAny_storeName_local (lookup_relabel_local hx) (hC'.at' fun o e => hk₂ _ o (by simpa using Ne.symm nIC) e) (fun h₃ hn₃ hs₃ => ?_) (by simp [compEnvC, relabel, hkind]))
      obtain ⟨oC, heC, hoC⟩ := ns_obj hn₃
      have F₃ : Fr h₀ L h₃ m := (fr_but F' hk₂ (Ne.symm hIL) hI0).change hs₃ hCL hC₀
      obtain ⟨oI, heI, hcI⟩ := hst₂.1
      have hI3 : h₃.get? I = some oI := hs₃.extBut _ _ nIC heI
      have N₂ : News h₀ L h₂ ((D, lst ys) :: nw) := news_but N' hk₂ fun p hp => by
        rcases List.mem_cons.mp hp with rfl | hp
        · exact Ne.symm nID
        · exact (off3 p hp).1
      have N₃ : News h₀ L h₃ ((I, oI) :: (C, oC) :: (D, lst ys) :: nw) := fun p hp => by
        rcases List.mem_cons.mp hp with rfl | hp
        · exact ⟨hI3, hIL, hI0⟩
        rcases List.mem_cons.mp hp with rfl | hp
        · exact ⟨heC, hCL, hC₀⟩
        have z := N₂ p hp
        refine ⟨hs₃.extBut _ _ ?_ z.1, z.2⟩
        rcases List.mem_cons.mp hp with rfl | hp
        · exact Ne.symm nCD
        · exact (off3 p hp).2.1
      refine wpAny_mono (hit _ I oI C oC D ys _ h₃ _ nw _ hoC F₃ N₃ hk') (fun xv s₄ h₄ => ?_) fun _ _ e => e
      obtain ⟨rfl, rfl⟩ := h₄
      have hbl : h₃.IsList bx vs2.toArray := ⟨_, (N₃ _ (.tail _ (.tail _ (.tail _ (hk' _ hbx))))).1, rfl, n2, rfl⟩
      refine wpAny_pyIter_list hbl ?_
      have up : ∀ b o, h₃.get? b = some o → (h₃.push { cls := .type "list_iterator", data := .fields #[.ref bx, .int 0 0] }).get? b = some o := fun b o e => Heap.get?_push_of_some _ e
      have lts : ∀ {b o}, h₃.get? b = some o → (@Ne Nat b h₃.objs.size) := fun e => Nat.ne_of_lt (Heap.lt_size e)
      have qI := (N₃ (I, oI) (.head _)).1
      have qC := (N₃ (C, oC) (.tail _ (.head _))).1
      have qD := (N₃ (D, lst ys) (.tail _ (.tail _ (.head _)))).1
      refine two_inner (s := { s₁ with heap := s₁.heap }) (n2 := n2) (bx := bx) (m₁ := _) hh hkind hy hxy (T s₁.heap) hv1 hbx (Nat.le_trans (Nat.mul_le_mul_right _ hlt) hsz) ⟨lts qI, nIC, nID, Ne.symm (lts qC), Ne.symm (lts qD), nCD⟩ ⟨hIL, Nat.ne_of_gt F₃.ns.lt, hCL, hDL⟩ ⟨hI0, next_is_new F₃, hC₀, hD₀⟩
        (up _ _ qI) ⟨_, Heap.get?_push_size _ rfl, rfl, rfl⟩ (F₃.keeps up) ((hoC.ns qC).keeps up) (by simp) (fun p hp => ⟨up _ _ (N₃ p (.tail _ (.tail _ hp))).1, (N₃ p (.tail _ (.tail _ hp))).2⟩)
        (fun p hp => ⟨(off3 p hp).1, lts (N₃ p (.tail _ (.tail _ (.tail _ hp)))).1, (off3 p hp).2.1, (off3 p hp).2.2⟩) hk' hl' hJ' ?_
      intro h₅ tk₅ ys₅ m₅ nw₅ hI₅ F₅ hC₅ N₅ off₅ hk₅ hl₅ hJ₅
      exact ⟨vs1.length + 1 - (i + 1), by omega, h₅, tk₅, i + 1, ys₅, m₅, nw₅, rfl, hlt, rfl, ⟨oI, hI₅, hcI⟩, F₅, hC₅, N₅, Off3.of fun p hp => ⟨(off₅ p hp).1, (off₅ p hp).2.2.1, (off₅ p hp).2.2.2⟩, hk₅, hl₅, hJ₅⟩
    · obtain rfl : i = vs1.length := Nat.le_antisymm hi (Nat.not_lt.mp hlt)
      refine W.done _ _ _ (by rw [List.size_toArray]; exact hst) fun h₂ tk₂ hk₂ => ?_
      have N₂ : News h₀ L h₂ ((D, lst ys) :: nw) := news_but N' hk₂ fun p hp => by
        rcases List.mem_cons.mp hp with rfl | hp
        · exact Ne.symm nID
        · exact (off3 p hp).1
      refine ⟨m', hC'.at' fun o e => hk₂ _ o (by simpa using Ne.symm nIC) e, fun h'' hs'' => hQ ys nw D h'' tk₂ hJ' hk' hl' ((fr_but F' hk₂ (Ne.symm hIL) hI0).change hs'' hCL hC₀) (fun p hp => ⟨hs''.extBut _ _ ?_ (N₂ p hp).1, (N₂ p hp).2⟩) off'.one⟩
      rcases List.mem_cons.mp hp with rfl | hp
      · exact Ne.symm nCD
      · exact (off3 p hp).2.1
  exact codeAny_compStart_list (loop _ rfl) (W.self 0 _ _ _ ⟨hst1, _, (N2 _ (.tail _ (hk _ hax))).1, rfl, n1, rfl⟩ (loop _ rfl))
end
end PartComp2
section PartCTreesA
set_option maxRecDepth 100000
theorem off_CTreesA : True := by
  w_top off
  trivial
local macro_rules | `(tactic| k_mem) => `(tactic| first | exact List.mem_cons_self | (refine' List.mem_cons_of_mem _ ?_; k_mem) | ktr_member)
local macro_rules | `(tactic| k_all) => `(tactic| (with_reducible assumption))
local macro_rules | `(tactic| walk_at $k:str) => if ["eval BinOp", "eval Call", "eval Subscript", "eval Compare", "isTrue Compare", "eval Tuple", "eval List"].contains k.getString then `(tactic| (k_here; k_fold)) else Lean.Macro.throwUnsupported
local macro_rules | `(tactic| walk_at "eval ListComp") => `(tactic| (k_here; k_dflt (refine' comp_list (by with_unfolding_all rfl) (by decide) (by exact rfl) (by decide) (by exact rfl) ?_ (by (intro _; exact rfl)))))

noncomputable def txt (sg : Nat → Nat) (k n : Nat) : Str := ⟨((List.range n).map fun i => sg (k + i)).toArray⟩
noncomputable def prodT (ls rs : List Tree) : List Tree := ls.flatMap fun l => rs.map fun r => Tree.fork l r
noncomputable def treesF : Nat → Nat → Nat → List Tree
  | 0, _, _ => []
  | f + 1, k, n => if n = 1 then [.leaf k] else (List.range (n - 1)).flatMap fun c => prodT (treesF f k (c + 1)) (treesF f (k + (c + 1)) (n - (c + 1)))
theorem txt_len (sg : Nat → Nat) (k n : Nat) : (txt sg k n).length = n := by
  show ((List.range n).map fun i => sg (k + i)).toArray.size = n
  simp
theorem le5 {n : Nat} (h : n ≤ 5) : n = 0 ∨ n = 1 ∨ n = 2 ∨ n = 3 ∨ n = 4 ∨ n = 5 := by omega
theorem slice_lo (sg : Nat → Nat) (k : Nat) {n j : Nat} (hn : n ≤ 5) (hj : j ≤ n) : Txt.slice (txt sg k n) none (some (j : Int)) = txt sg k j := by
  rcases le5 hn with rfl | rfl | rfl | rfl | rfl | rfl <;> rcases le5 (Nat.le_trans hj hn) with rfl | rfl | rfl | rfl | rfl | rfl <;> first | (exfalso; omega) | kernel_rfl
theorem slice_hi (sg : Nat → Nat) (k : Nat) {n j : Nat} (hn : n ≤ 5) (hj : j ≤ n) : Txt.slice (txt sg k n) (some (j : Int)) none = txt sg (k + j) (n - j) := by
  have e : ∀ m, txt sg (k + j) m = ⟨((List.range m).map fun i => sg (k + (j + i))).toArray⟩ := fun m => by
    unfold txt
    simp only [Nat.add_assoc]
  rw [e]
  rcases le5 hn with rfl | rfl | rfl | rfl | rfl | rfl <;> rcases le5 (Nat.le_trans hj hn) with rfl | rfl | rfl | rfl | rfl | rfl <;> first | (exfalso; omega) | kernel_rfl
noncomputable def cntT : Nat → Nat → Nat
  | 0, _ => 0
  | f + 1, n => if n = 1 then 1 else ((List.range (n - 1)).map fun c => cntT f (c + 1) * cntT f (n - (c + 1))).sum
theorem prodT_len (ls rs : List Tree) : (prodT ls rs).length = ls.length * rs.length := by
  unfold prodT
  induction ls with
  | nil => simp
  | cons l r ih => rw [List.flatMap_cons, List.length_append, ih, List.length_map, List.length_cons, Nat.succ_mul, Nat.add_comm]
theorem treesF_len : ∀ f k n, (treesF f k n).length = cntT f n
  | 0, _, _ => rfl
  | f + 1, k, n => by
    unfold treesF cntT
    by_cases h : n = 1
    · rw [if_pos h, if_pos h]; rfl
    · rw [if_neg h, if_neg h, List.length_flatMap]
      congr 1
      refine List.map_congr_left fun c _ => ?_
      rw [prodT_len, treesF_len f, treesF_len f]
theorem cntT_le : ∀ f < 6, ∀ n < 6, cntT f n ≤ 14 := by decide
theorem TreeIn.tup {sg : Nat → Nat} {news news' : List (Addr × Obj)} {v : Value} {t : Tree} (h : TreeIn sg news v t) (hs : ∀ a v1 v2 n, (a, tupO v1 v2 n) ∈ news → (a, tupO v1 v2 n) ∈ news') : TreeIn sg news' v t := by
  induction h with
  | leaf => exact .leaf
  | fork hm _ _ i j => exact .fork (hs _ _ _ _ hm) i j
noncomputable def noI (I : Addr) (all : List (Addr × Obj)) : List (Addr × Obj) := all.filter fun p => decide (p.1 ≠ I)
theorem mem_noI {I : Addr} {all : List (Addr × Obj)} {p : Addr × Obj} (h : p ∈ all) (k : p.1 ≠ I) : p ∈ noI I all := List.mem_filter.mpr ⟨h, decide_eq_true k⟩
theorem noI_off {I : Addr} {all : List (Addr × Obj)} : ∀ p ∈ noI I all, p ∈ all ∧ p.1 ≠ I := fun p h => ⟨(List.mem_filter.mp h).1, of_decide_eq_true (List.mem_filter.mp h).2⟩
theorem cls_noI {h₀ h : Heap} {L I a : Addr} {o x : Obj} {c c' : String} {all : List (Addr × Obj)} (N : News h₀ L h all) (hI : (I, o) ∈ all) (hc : o.cls = .type c) (ha : (a, x) ∈ all) (hx : x.cls = .type c') (n : c' ≠ c) : (a, x) ∈ noI I all :=
  mem_noI ha (news_ne N ha hI fun e => n (by rw [hx, hc] at e; exact Value.type.inj e))
theorem tup_noI {h₀ h : Heap} {L I : Addr} {o : Obj} {c : String} {all : List (Addr × Obj)} (N : News h₀ L h all) (hI : (I, o) ∈ all) (hc : o.cls = .type c) (n : "tuple" ≠ c) : ∀ a v1 v2 k, (a, tupO v1 v2 k) ∈ all → (a, tupO v1 v2 k) ∈ noI I all := fun _ _ _ _ h => cls_noI N hI hc h rfl n
theorem lst_noI {h₀ h : Heap} {L I a : Addr} {o : Obj} {c : String} {vs : List Value} {k : Nat} {all : List (Addr × Obj)} (N : News h₀ L h all) (hI : (I, o) ∈ all) (hc : o.cls = .type c) (ha : (a, listO vs k) ∈ all) (n : "list" ≠ c) : (a, listO vs k) ∈ noI I all := cls_noI N hI hc ha rfl n
theorem prodT_get : ∀ {ls rs : List Tree} {i j : Nat} {l r : Tree}, ls[i]? = some l → rs[j]? = some r → (prodT ls rs)[i * rs.length + j]? = some (.fork l r)
  | [], _, i, _, _, _, h, _ => by simp at h
  | l' :: ls, rs, 0, j, l, r, h, hr => by
    have e : l' = l := by simpa using h
    subst e
    show (((l' :: ls).flatMap fun l => rs.map fun r => Tree.fork l r))[0 * rs.length + j]? = _
    have hj : j < (rs.map fun r => Tree.fork l' r).length := by
      rw [List.length_map]
      rcases Nat.lt_or_ge j rs.length with q | q
      · exact q
      · rw [List.getElem?_eq_none q] at hr; cases hr
    rw [List.flatMap_cons, Nat.zero_mul, Nat.zero_add, List.getElem?_append_left hj, List.getElem?_map, hr]
    rfl
  | l' :: ls, rs, i + 1, j, l, r, h, hr => by
    have h' : ls[i]? = some l := by simpa using h
    have ih := prodT_get h' hr
    show (((l' :: ls).flatMap fun l => rs.map fun r => Tree.fork l r))[(i + 1) * rs.length + j]? = _
    have e : (i + 1) * rs.length + j = (rs.map fun r => Tree.fork l' r).length + (i * rs.length + j) := by
      rw [List.length_map, Nat.succ_mul]; omega
    rw [List.flatMap_cons, e, List.getElem?_append_right (Nat.le_add_right _ _), Nat.add_sub_cancel_left]
    exact ih
theorem take_snoc {α : Type} {l : List α} {i : Nat} {x : α} (h : l[i]? = some x) : l.take (i + 1) = l.take i ++ [x] := by
  rw [List.take_add_one, h]; rfl
theorem range_small1 : ∀ n < 6, Builtin.Range.small 1 ((n : Nat) : Int) 1 = true := by decide
theorem range_size1 : ∀ n < 6, n ≠ 0 → Builtin.Range.rangeSize 1 ((n : Nat) : Int) 1 = ((n - 1 : Nat) : Int) := by decide
theorem news_ne' {h₀ h : Heap} {L a b : Addr} {o o' : Obj} {all : List (Addr × Obj)} (N : News h₀ L h all) (ha : (a, o) ∈ all) (hb : (b, o') ∈ all) (hc : o ≠ o') : a ≠ b := by
  intro e
  subst e
  have h1 := (N _ ha).1
  rw [(N _ hb).1] at h1
  exact hc (Option.some.inj h1).symm
noncomputable def accT (f k n i : Nat) : List Tree := (List.range i).flatMap fun c => prodT (treesF f k (c + 1)) (treesF f (k + (c + 1)) (n - (c + 1)))
theorem accT_succ (f k n i : Nat) : accT f k n (i + 1) = accT f k n i ++ prodT (treesF f k (i + 1)) (treesF f (k + (i + 1)) (n - (i + 1))) := by
  unfold accT
  rw [List.range_succ, List.flatMap_append, List.flatMap_singleton]
theorem accT_len {f k n : Nat} (hf : f < 6) (hn : n ≤ 5) : ∀ {i : Nat}, i ≤ n → (accT f k n i).length ≤ i * 196
  | 0, _ => Nat.zero_le _
  | i + 1, hi => by
    have ih := accT_len (k := k) hf hn (Nat.le_of_succ_le hi)
    rw [accT_succ, List.length_append, prodT_len, treesF_len, treesF_len]
    have h1 := cntT_le f hf (i + 1) (by omega)
    have h2 := cntT_le f hf (n - (i + 1)) (by omega)
    have h3 := Nat.mul_le_mul h1 h2
    omega
theorem perm5 {a b c d x : Addr × Obj} {l : List (Addr × Obj)} : ∀ p ∈ a :: b :: c :: d :: l, p ∈ x :: a :: b :: c :: d :: l := fun _ h => .tail _ h
theorem perm5' {a b c d x : Addr × Obj} {l : List (Addr × Obj)} : ∀ p ∈ a :: b :: c :: d :: x :: l, p ∈ x :: a :: b :: c :: d :: l := by
  intro p hp
  simp only [List.mem_cons] at hp ⊢
  rcases hp with h | h | h | h | h | h <;> simp [h]
end PartCTreesA
section PartCTrees
set_option maxRecDepth 100000
theorem off_CTrees : True := by
  w_top off
  trivial
local macro_rules | `(tactic| k_mem) => `(tactic| first | exact List.mem_cons_self | (refine' List.mem_cons_of_mem _ ?_; k_mem) | ktr_member)
local macro_rules | `(tactic| k_all) => `(tactic| (with_reducible assumption))
local macro_rules | `(tactic| walk_at $k:str) => if ["eval BinOp", "eval Call", "eval Subscript", "eval Compare", "isTrue Compare", "eval Tuple", "eval List"].contains k.getString then `(tactic| (k_here; k_fold)) else Lean.Macro.throwUnsupported

local macro_rules | `(tactic| walk_at "exec For Name Call cons nil") => `(tactic| (k_here; (rename Fr _ _ _ _ => lF'); (with_unfolding_all refine' for_range lF' ?_ (fun _ _ _ _ _ h => wpAny_pure h)); k_whole))
local macro_rules | `(tactic| walk_at "eval ListComp") => `(tactic| (k_here; k_dflt (refine' comp_two (by with_unfolding_all rfl) (by decide) (by exact rfl) (by decide) (by exact rfl) (by exact rfl) (by decide) ?_ (by (intro _; exact rfl)) (by (intro _ _; exact rfl)))))
set_option maxHeartbeats 1000000 in
theorem trees_c (w : World) (sg : Nat → Nat) : ∀ (f k n : Nat) (news : List (Addr × Obj)) (t : Tok), 1 ≤ n → n ≤ f → f ≤ 5 → Con w 119 [.str (txt sg k n) t] news (n + 4) (fun all r => TreesIn sg all r (treesF f k n)) := by
  intro f
  induction f with
  | zero => intro k n news t h1 h2 _; omega
  | succ f ih =>
    intro k n news t h1 h2 h5
    have hn5 : n ≤ 5 := Nat.le_trans h2 h5
    unfold Con
    intro p loose mean mg mb dp un gd env outer A₀ base h₀ L m s Q E B F X N T hf hk hd hu hret
    refine wpAny_call ?_
    k_dflt ((refine' code_defC ?k1 ?k2 ?k3 ?k4 ?k5 ?kA ?kF ?kK ?k6 ?k7 ?k8 ?k9 ?kB ?kD ?_ ?c2 ?c3 ?c4; (case kA => exact rfl); (case kF => first | exact rfl | assumption); (case kK => first | exact rfl | assumption); (case k1 => k_asm); (case k2 => k_asm); (case k3 => k_asm); (case k4 => k_asm); (case k5 => k_asm); (case k6 => k_is); (case k7 => k_is); (case k8 => ktr_room); (case k9 => first | exact BindsTo.of_eq rfl | exact binds_K (by assumption) rfl (by k_is) rfl rfl rfl | exact binds_K (by k_in) rfl (by k_is) rfl rfl rfl); (case kB => exact rfl); (case kD => decide +kernel); (case c2 => exact rfl); (case c3 => exact rfl); (case c4 => exact rfl); k_whole; intro qg' qL' qh' qtk' qcells' qFG' qF' qN' qY' qB' qX' qT' ql1; k_cells qY'; (try simp only [List.cons_append, List.nil_append] at qN'); (try dsimp only); (try k_fold)))
    rename ∀ p ∈ news, p.1 < _ => lL
    k_steps
    refine P.len_str (by rw [txt_len]; omega) ?_
    rw [txt_len]
    by_cases e1 : n = 1
    · subst e1
      k_steps
      exact hret _ _ _ _ (by k_asm) (by k_asm) (fun p hp => by simp only [List.mem_cons]; exact .inr (.inr hp)) ⟨_, _, _, rfl, List.mem_cons_self, .cons .leaf .nil⟩
    · k_steps
      · exfalso; omega
      refine P.len_str (by rw [txt_len]; omega) ?_
      rw [txt_len]
      k_steps
      rename IsRange _ _ _ _ _ _ _ _ => hr0
      rename Fr _ _ _ _ => F1
      rename News _ _ _ _ => N1
      rename _ = Data.cell _ => d1
      replace d1 : _ = Data.cell none := d1
      refine ⟨⟨_, 1, n, _, _, _, n - 1, _, _, fun i m nw => (∃ a vs n', Kn m [(Str.ofString "signs", .str (txt sg k n) t), (Str.ofString "trees", .ref a)] ∧ (a, listO vs n') ∈ nw ∧ Paired (TreeIn sg nw) vs (accT f k n i)) ∧ (∃ oc x, (_, oc) ∈ nw ∧ oc.data = .cell x) ∧ ∀ p ∈ news, p ∈ nw,
        rfl, rfl, F1, N1, hr0, range_small1 n (by omega), range_size1 n (by omega) (by omega), ⟨⟨_, [], 0, ⟨rfl, rfl, trivial⟩, .head _, .nil⟩, ⟨_, _, .tail _ (.head _), d1⟩, fun _ h => .tail _ (.tail _ h)⟩, ?_, ?_⟩⟩
      · intro i ti m2 nw I h2 tk2 o hi hJ F2 hc off N2
        try k_fold
        obtain ⟨⟨a, vs, n', hm, ha, hp⟩, ⟨oc, x, hoc, hx⟩, sub⟩ := hJ
        have hcut : (1 : Int) + (i : Int) = ((i + 1 : Nat) : Int) := by omega
        replace F2 := fr_kn F2 hm
        dsimp only [knows] at F2
        try dsimp only
        rw [hcut]
        k_steps
        rename Fr _ _ _ _ => F3
        rename News _ _ _ _ => N3
        refine slice_strN_ns (hsz := ?hsz) (s := ⟨_, _, _, _, _⟩) F3 N3 ?_
        case hsz => rw [txt_len, sizeLine_eq]; omega
        clear F3 N3
        intro h4 t4 k4 F4 N4
        rw [slice_lo sg k hn5 (by omega)]
        try dsimp only
        k_steps
        k_dflt (refine' con_use ?k1 ?k2 ?k3 ?k4 ?k5 (ih k (i + 1) _ _ (by omega) (by omega) (by omega)) ?kf ?kK ?kd ?ku ?_; ((case k1 => k_asm); (case k2 => k_asm); (case k3 => k_asm); (case k4 => k_asm); (case k5 => k_asm); (case kf => first | exact rfl | assumption); (case kK => first | exact rfl | assumption); (case kd => ktr_room); (case ku => ktr_units)))
        intro r5 all5 h5' tk5 F5 N5 sub5 ho5
        try k_fold
        obtain ⟨a5, vs5, n5, e5, hm5, hp5⟩ := ho5
        subst e5
        k_steps
        rename Fr _ _ _ _ => F6
        rename News _ _ _ _ => N6
        refine slice_strN_sn (hsz := ?hsz) (s := ⟨_, _, _, _, _⟩) F6 N6 ?_
        case hsz => rw [txt_len, sizeLine_eq]; omega
        clear F6 N6
        intro h7 t7 k7 F7 N7
        rw [slice_hi sg k hn5 (by omega)]
        try dsimp only
        k_steps
        k_dflt (refine' con_use ?k1 ?k2 ?k3 ?k4 ?k5 (ih (k + (i + 1)) (n - (i + 1)) _ _ (by omega) (by omega) (by omega)) ?kf ?kK ?kd ?ku ?_; ((case k1 => k_asm); (case k2 => k_asm); (case k3 => k_asm); (case k4 => k_asm); (case k5 => k_asm); (case kf => first | exact rfl | assumption); (case kK => first | exact rfl | assumption); (case kd => ktr_room); (case ku => ktr_units)))
        intro r8 all8 h8 tk8 F8 N8 sub8 ho8
        try k_fold
        obtain ⟨a8, vs8, n8, e8, hm8, hp8⟩ := ho8
        subst e8
        have hc8 := sub8 _ (sub5 _ (.tail _ hoc))
        have hI8 := sub8 _ (sub5 _ (.head _))
        have hne : (@Ne Nat I _) := fun e => off _ hoc e.symm
        try k_fold
        obtain ⟨rest, N9, r1, r2, r3⟩ := pull N8 hc8
        have nc : ∀ {b : Addr} {vv : List Value} {nn : Nat}, (b, listO vv nn) ∈ all8 → (b, listO vv nn) ∈ rest := fun hb => r3 _ hb (news_ne' N8 hb hc8 fun e => by
          have e' := congrArg Obj.data e
          rw [hx] at e'
          try k_fold
          cases e')
        have nt : ∀ a v1 v2 n, (a, tupO v1 v2 n) ∈ all8 → (a, tupO v1 v2 n) ∈ rest := fun a v1 v2 n hb => r3 _ hb (news_ne' N8 hb hc8 fun e => by
          have e' := congrArg Obj.data e
          rw [hx] at e'
          try k_fold
          cases e')
        have np : ∀ p ∈ news, p ∈ rest := fun p hp => r3 p (sub8 _ (sub5 _ (.tail _ (sub p hp)))) (Nat.ne_of_lt (Nat.lt_succ_of_lt (lL p hp)))
        have nI := r3 _ hI8 hne
        have hp9 := paired_mono (fun _ _ h => TreeIn.tup h fun a v1 v2 n hh => nt a v1 v2 n (sub8 _ (sub5 _ (.tail _ hh)))) hp
        have hp59 := paired_mono (fun _ _ h => TreeIn.tup h fun a v1 v2 n hh => nt a v1 v2 n (sub8 _ hh)) hp5
        have hp89 := paired_mono (fun _ _ h => TreeIn.tup h nt) hp8
        have hlen5 : vs5.length = _ := hp5.length
        have hlen8 : vs8.length = _ := hp8.length
        have hb5 := cntT_le f (by omega) (i + 1) (by omega)
        have hb8 := cntT_le f (by omega) (n - (i + 1)) (by omega)
        rw [treesF_len] at hlen5 hlen8
        have hmul := Nat.mul_le_mul hb5 hb8
        have ha9 := nc (sub8 _ (sub5 _ (.tail _ ha)))
        have h59 := nc (sub8 _ hm5)
        have h89 := nc hm8
        clear N8
        k_steps
        rename _ = Data.cell _ => d9
        rename Fr _ _ _ _ => F10
        rename News _ _ _ _ => N10
        refine ⟨⟨_, _, _, a5, a8, vs5, n5, vs8, n8, _, _, fun c ys nw => Paired (TreeIn sg nw) ys ((prodT (treesF f k (i + 1)) (treesF f (k + (i + 1)) (n - (i + 1)))).take c), rfl, rfl, F10, N10, fun _ h => h, .tail _ h59, .tail _ h89, ?_, .nil, ?_, ?_, ?_⟩⟩
        · rw [hlen5, hlen8, sizeLine_eq]; omega
        · intro gg I9 oI9 C9 oC9 D9 ys9 m9 h9 tk9 nw9 E9 hC9 F9 N9 hk9
          have hc9 := hk9 _ (.head _)
          try dsimp only
          k_steps
        · intro gg i9 j9 v1 v2 ys9 nw9 I9 oI9 I29 oI29 C9 oC9 D9 m9 h9 tk9 E9 hv1 hv2 hJ9 hk9 hC9 hx9 hy9 F9 N9 off9 ne9
          try dsimp only
          k_steps
          rename (_ ∧ _) => hlt
          try k_fold
          obtain ⟨q1, hq1, hq2⟩ := paired_get hp59 hv1
          try k_fold
          obtain ⟨q2, hq3, hq4⟩ := paired_get hp89 hv2
          have hg := prodT_get hq1 hq3
          rw [← hp89.length] at hg
          rename Fr _ _ _ _ => F11
          rename News _ _ _ _ => N11
          refine ⟨⟨_, _, _ :: nw9, rfl, F11, fun p hp => N11 p (perm5' p hp), fun p hp => ?_, fun p hp => .tail _ (hk9 p hp), ?_⟩⟩
          · rcases List.mem_cons.mp hp with rfl | hp
            · exact ⟨Nat.ne_of_gt hlt.1, Nat.ne_of_gt hlt.2.1, Nat.ne_of_gt hlt.2.2.1, Nat.ne_of_gt hlt.2.2.2.1⟩
            · exact off9 p hp
          · rw [take_snoc hg]
            exact Paired.snoc (paired_mono (fun _ _ h => h.mono fun p hp => .tail _ hp) hJ9) (.fork List.mem_cons_self (hq2.mono fun p hp => .tail _ (hk9 _ (.tail _ hp))) (hq4.mono fun p hp => .tail _ (hk9 _ (.tail _ hp))))
        · intro ys9 nw9 D9 h9 tk9 hJ9 hk9 hl9 F9 N9 off9
          try dsimp only
          k_steps
          rename Fr _ _ _ _ => F12
          rename News _ _ _ _ => N12
          have ha12 := hk9 _ (.tail _ ha9)
          have hlena : vs.length = _ := hp9.length
          have hba := accT_len (f := f) (k := k) (by omega) hn5 (i := i) (by omega)
          have hl9' := hl9
          rw [hlen5, hlen8] at hl9'
          refine add_lists (vs := vs) (ws := ys9) F12 N12 ⟨_, N12.get (.tail _ ha12), rfl, _, rfl⟩ ⟨_, N12.get List.mem_cons_self, rfl, _, rfl⟩ ?_ (by rw [sizeLine_eq]; omega)
          clear F12 N12
          intro h13 F13 N13
          try dsimp only
          k_steps
          rename Fr _ _ _ _ => F14
          rename News _ _ _ _ => N14
          rw [hp59.length, hp89.length, ← prodT_len, List.take_length] at hJ9
          have hI14 := hk9 _ (.tail _ nI)
          have hc14 := hk9 _ (.head _)
          refine turn_end F14 N14 (noI I _) (.tail _ (.tail _ hI14)) (fun p hp => noI_off p hp) trivial ?_
          refine ⟨⟨_, vs ++ ys9, _, ⟨rfl, rfl, trivial⟩, lst_noI N14 (.tail _ (.tail _ hI14)) hc (.head _) (by decide), ?_⟩, ⟨_, _, mem_noI (.tail _ (.tail _ hc14)) (Ne.symm hne), d9⟩, fun p hp => mem_noI (.tail _ (.tail _ (hk9 _ (.tail _ (np p hp))))) (off p (sub p hp))⟩
          rw [accT_succ]
          exact paired_mono (fun _ _ h => TreeIn.tup h (tup_noI N14 (.tail _ (.tail _ hI14)) hc (by decide))) (paired_app (paired_mono (fun _ _ h => h.mono fun p hp => .tail _ (.tail _ hp)) hJ9) (paired_mono (fun _ _ h => h.mono fun p hp => .tail _ (.tail _ (hk9 _ (.tail _ hp)))) hp9))
      · intro m2 nw h2 tk2 hJ F2 N2
        try k_fold
        obtain ⟨⟨a, vs, n', hm, ha, hp⟩, ⟨oc, x, hoc, hx⟩, sub⟩ := hJ
        replace F2 := fr_kn F2 hm
        dsimp only [knows] at F2
        try dsimp only
        k_steps
        refine hret _ _ _ _ (by k_asm) (by k_asm) sub ⟨_, _, _, rfl, ha, ?_⟩
        have e2 : treesF (f + 1) k n = accT f k n (n - 1) := by
          unfold treesF accT
          rw [if_neg e1]
        rw [e2]
        exact hp
end PartCTrees
section PartCSpell
set_option maxRecDepth 100000
local macro_rules | `(tactic| walk_at "no such key") => `(tactic| skip)
local macro_rules | `(tactic| walk_at "no such key") => `(tactic| skip)
local macro_rules | `(tactic| walk_at "no such key") => `(tactic| skip)
local macro_rules | `(tactic| walk_at "no such key") => `(tactic| skip)
theorem off_CSpell : True := by
  w_top off
  trivial
local macro_rules | `(tactic| k_mem) => `(tactic| first | exact List.mem_cons_self | (refine' List.mem_cons_of_mem _ ?_; k_mem) | ktr_member)
local macro_rules | `(tactic| k_all) => `(tactic| (with_reducible assumption))
local macro_rules | `(tactic| walk_at $k:str) => if ["eval BinOp", "eval Call", "eval Subscript", "eval Compare", "isTrue Compare", "eval Tuple", "eval List"].contains k.getString then `(tactic| (k_here; k_fold)) else Lean.Macro.throwUnsupported

open PySem.W
noncomputable def kOf (row : List Int) (i : Nat) : Nat → Nat
  | 0 => 0
  | k + 1 => if (k : Int) + row.getD k 0 < i then kOf row i k else k + 1
noncomputable def bump (op : List Int) (k : Nat) : List Int := op.set k (op.getD k 0 + 1)
noncomputable def openedM (row : List Int) (i : Nat) : List Int := (List.range i).foldl (fun op i => bump op (kOf row i i)) [0, 0, 0, 0, 0]
noncomputable def pieceM (sg : Nat → Nat) (op : List Int) (k : Nat) : Str := Txt.mul (Str.ofString "{") (op.getD k 0) ++ Txt.item (txt sg 0 5) (k : Int)
noncomputable def spelledM (sg : Nat → Nat) (row : List Int) : Str := Txt.join (Str.ofString "}") ((List.range 5).map (pieceM sg (openedM row 4)))
theorem kOf_le (row : List Int) (i : Nat) : ∀ k, kOf row i k ≤ k
  | 0 => Nat.le_refl _
  | k + 1 => by
    unfold kOf
    split
    · exact Nat.le_succ_of_le (kOf_le row i k)
    · exact Nat.le_refl _
theorem openedM_succ (row : List Int) (i : Nat) : openedM row (i + 1) = bump (openedM row i) (kOf row i i) := by
  unfold openedM
  rw [List.range_succ, List.foldl_append]
  rfl
theorem openedM_len (row : List Int) : ∀ i, (openedM row i).length = 5
  | 0 => rfl
  | i + 1 => by rw [openedM_succ]; unfold bump; rw [List.length_set, openedM_len row i]
theorem openedM_le (row : List Int) : ∀ i, ∀ x ∈ openedM row i, 0 ≤ x ∧ x ≤ i := by
  intro i
  induction i with
  | zero =>
    intro x hx
    have h0 : openedM row 0 = [0, 0, 0, 0, 0] := rfl
    rw [h0] at hx
    revert x
    decide
  | succ i ih =>
    intro x hx
    rw [openedM_succ] at hx
    unfold bump at hx
    rcases List.mem_or_eq_of_mem_set hx with h | h
    · have := ih x h; omega
    · by_cases q : kOf row i i < (openedM row i).length
      · have h1 : (openedM row i).getD (kOf row i i) 0 ∈ openedM row i := by
          rw [List.getD_eq_getElem?_getD, List.getElem?_eq_getElem q]; exact List.getElem_mem q
        have := ih _ h1
        omega
      · have h1 : (openedM row i).getD (kOf row i i) 0 = 0 := by
          rw [List.getD_eq_getElem?_getD, List.getElem?_eq_none (Nat.le_of_not_lt q)]; rfl
        omega
theorem openedM_get (row : List Int) (j : Nat) : 0 ≤ (openedM row 4).getD j 0 ∧ (openedM row 4).getD j 0 ≤ 4 := by
  by_cases q : j < (openedM row 4).length
  · have h1 : (openedM row 4).getD j 0 ∈ openedM row 4 := by
      rw [List.getD_eq_getElem?_getD, List.getElem?_eq_getElem q]; exact List.getElem_mem q
    exact openedM_le row 4 _ h1
  · have h1 : (openedM row 4).getD j 0 = 0 := by
      rw [List.getD_eq_getElem?_getD, List.getElem?_eq_none (Nat.le_of_not_lt q)]; rfl
    omega
theorem mulB_len : ∀ n < 5, (Txt.mul (Str.ofString "{") ((n : Nat) : Int)).length ≤ 4 := by decide
theorem piece_len (sg : Nat → Nat) (row : List Int) (k : Nat) : (pieceM sg (openedM row 4) k).length ≤ 5 := by
  have h := openedM_get row k
  obtain ⟨n, hn⟩ : ∃ n : Nat, (openedM row 4).getD k 0 = (n : Int) := ⟨((openedM row 4).getD k 0).toNat, by omega⟩
  unfold pieceM
  rw [hn, Str.length_append]
  have h1 := mulB_len n (by omega)
  have h2 : (Txt.item (txt sg 0 5) (k : Int)).length ≤ 1 := Nat.le_of_eq (len_item _ _)
  omega
theorem pieces_len (sg : Nat → Nat) (row : List Int) : (((List.range 5).map (pieceM sg (openedM row 4))).map (·.length)).sum + ((List.range 5).map (pieceM sg (openedM row 4))).length ≤ 1048576 := by
  have h0 := piece_len sg row 0
  have h1 := piece_len sg row 1
  have h2 := piece_len sg row 2
  have h3 := piece_len sg row 3
  have h4 := piece_len sg row 4
  show (pieceM sg (openedM row 4) 0).length + ((pieceM sg (openedM row 4) 1).length + ((pieceM sg (openedM row 4) 2).length + ((pieceM sg (openedM row 4) 3).length + ((pieceM sg (openedM row 4) 4).length + 0)))) + 5 ≤ _
  omega
local macro_rules | `(tactic| walk_at "exec For Name Call cons nil") => `(tactic| (k_here; (rename Fr _ _ _ _ => lF'); (with_unfolding_all refine' for_range lF' ?_ (fun _ _ _ _ _ h => wpAny_pure h)); k_whole))
local macro_rules | `(tactic| walk_at $k:str) => if k.getString.startsWith "binaryOp Mult" || k.getString.startsWith "call builtin:str.join" || ["exec While", "exec While BoolOp cons nil"].contains k.getString then `(tactic| (k_here; refine stop_here ?_)) else Lean.Macro.throwUnsupported
local macro_rules | `(tactic| walk_at "eval ListComp") => `(tactic| (k_here; k_dflt (refine' comp_range (by with_unfolding_all rfl) (by decide) (by exact rfl) (by decide) (by exact rfl) ?_ (by (intro _; exact rfl)))))
local macro_rules | `(tactic| walk_at "subscriptTail Name Name str int") => `(tactic| (k_here; refine KXi.item (n := 5) (txt_len _ _ _) (by omega) (by omega) (by decide) ?_; intro hit))
set_option maxHeartbeats 1000000 in
theorem spelled_c (w : World) (sg : Nat → Nat) {news : List (Addr × Obj)} {a : Addr} {vs : List Value} {n : Nat} {row : List Int} {t : Tok} (hm : (a, listO vs n) ∈ news) (hi : IntsAre vs row) (h4 : row.length = 4) (hb : ∀ x ∈ row, 0 ≤ x ∧ x ≤ 3) :
    Con w 162 [.ref a, .str (txt sg 0 5) t] news 4 (fun _ r => ∃ t, r = .str (spelledM sg row) t) := by
  unfold Con
  intro p loose mean mg mb dp un gd env outer A₀ base h₀ L m s Q E B F X N T hf hk hd hu hret
  refine wpAny_call ?_
  k_dflt ((refine' code_defC ?k1 ?k2 ?k3 ?k4 ?k5 ?kA ?kF ?kK ?k6 ?k7 ?k8 ?k9 ?kB ?kD ?_ ?c2 ?c3 ?c4; (case kA => exact rfl); (case kF => first | exact rfl | assumption); (case kK => first | exact rfl | assumption); (case k1 => k_asm); (case k2 => k_asm); (case k3 => k_asm); (case k4 => k_asm); (case k5 => k_asm); (case k6 => k_is); (case k7 => k_is); (case k8 => ktr_room); (case k9 => first | exact BindsTo.of_eq rfl | exact binds_K (by assumption) rfl (by k_is) rfl rfl rfl | exact binds_K (by k_in) rfl (by k_is) rfl rfl rfl); (case kB => exact rfl); (case kD => decide +kernel); (case c2 => exact rfl); (case c3 => exact rfl); (case c4 => exact rfl); k_whole; intro qg' qL' qh' qtk' qcells' qFG' qF' qN' qY' qB' qX' qT' ql1; k_cells qY'; (try simp only [List.cons_append, List.nil_append] at qN'); (try dsimp only); (try k_fold)))
  rename ∀ p ∈ news, p.1 < _ => lL
  rename _ = Data.cell _ => dA
  revert dA
  rename _ = Data.cell _ => dB
  intro dA
  first
  | (replace dA : _ = Data.cell (some _) := dA; replace dB : _ = Data.cell none := dB)
  | (replace dB : _ = Data.cell (some _) := dB; replace dA : _ = Data.cell none := dA)
  k_steps
  rename News _ _ _ _ => N1
  rename (_ ∧ _) => l1
  try k_fold
  obtain ⟨rest, N2, r1, r2, r3⟩ := pull N1 (.tail _ (.head _))
  have hs2 := r3 _ (.tail _ (.tail _ (.head _))) (Nat.ne_of_lt (Nat.lt_succ_self _))
  have hl := r3 _ (.head _) (Nat.ne_of_gt l1.1)
  have hm2 := r3 _ (.tail _ (.tail _ (.tail _ hm))) (Nat.ne_of_lt (Nat.lt_succ_of_lt (Nat.lt_succ_of_lt (lL _ hm))))
  have hnews : ∀ p ∈ news, p ∈ rest := fun p hp => r3 _ (.tail _ (.tail _ (.tail _ hp))) (Nat.ne_of_lt (Nat.lt_succ_of_lt (Nat.lt_succ_of_lt (lL _ hp))))
  clear N1
  k_steps
  rename _ = Data.cell _ => d2
  rename Fr _ _ _ _ => F3
  rename News _ _ _ _ => N3
  rename IsRange _ _ _ _ _ _ _ _ => hr0
  refine ⟨⟨_, 0, 4, _, _, _, 4, _, _, fun i m nw => Kn m [(Str.ofString "row", .ref a)] ∧ (∃ ao vo no oc os, (ao, listO vo no) ∈ nw ∧ IntsAre vo (openedM row i) ∧ (∀ p ∈ news, p.1 ≠ ao) ∧ (_, oc) ∈ nw ∧ oc.data = .cell (some (.ref ao)) ∧ (_, os) ∈ nw ∧ os.data = .cell (some (.str (txt sg 0 5) t))) ∧ ∀ p ∈ news, p ∈ nw,
    rfl, rfl, F3, N3, hr0, by decide, by decide, ⟨⟨rfl, trivial⟩, ⟨_, _, _, _, _, .tail _ hl, .cons _ _ (.cons _ _ (.cons _ _ (.cons _ _ (.cons _ _ .nil)))), (fun p hp => Nat.ne_of_lt (Nat.lt_trans (lL p hp) (Nat.lt_trans (Nat.lt_succ_self _) l1.2.1))), .head _, d2, .tail _ hs2, dA⟩, fun p hp => .tail _ (hnews p hp)⟩, ?_, ?_⟩⟩
  · intro i ti m4 nw I h4' tk4 o hi4 hJ F4 hc off N4
    try k_fold
    obtain ⟨hkn, ⟨ao, vo, no, oc, os, hao, hio, hne, hoc, hdc, hos, hds⟩, sub⟩ := hJ
    replace F4 := fr_kn F4 hkn
    dsimp only [knows] at F4
    try dsimp only
    rw [Int.zero_add]
    k_steps
    rename Fr _ _ _ _ => F5
    rename News _ _ _ _ => N5
    refine ⟨while_fix (fun n m5 nw5 => ∃ (k : Nat) (tk : Tok), n = k ∧ k ≤ i ∧ kOf row i k = kOf row i i ∧ Kn m5 [(Str.ofString "row", .ref a), (Str.ofString "k", .int k tk), (Str.ofString "i", .int i ti)] ∧ nw5 = (I, o) :: nw)
      (fun m5 nw5 => ∃ (tk : Tok), Kn m5 [(Str.ofString "row", .ref a), (Str.ofString "k", .int (kOf row i i : Nat) tk), (Str.ofString "i", .int i ti)] ∧ nw5 = (I, o) :: nw) i F5 N5 ⟨i, _, rfl, Nat.le_refl _, rfl, ⟨rfl, rfl, rfl, trivial⟩, rfl⟩ ?_ ?_⟩
    · rintro n5 m5 nw5 h5 tk5 zz1 F6 N6
      try dsimp only
      try k_fold
      obtain ⟨_, tkk, rfl, hki, hko, hkn5, rfl⟩ := zz1
      replace F6 := fr_kn F6 hkn5
      dsimp only [knows] at F6
      try dsimp only
      have hm6 := sub _ hm
      rcases n5 with _ | k
      · k_steps
        rename Fr _ _ _ _ => F7
        rename News _ _ _ _ => N7
        rw [← hko]
        exact ⟨⟨_, _, _, _, rfl, F7, N7, tkk, ⟨rfl, rfl, rfl, trivial⟩, rfl⟩⟩
      · have e : ((k + 1 : Nat) : Int) - 1 = (k : Int) := by omega
        k_steps
        · rename _ < _ => hlt
          rename Fr _ _ _ _ => F7
          rename News _ _ _ _ => N7
          rw [e, Int.toNat_natCast] at hlt
          have hk' : kOf row i (k + 1) = kOf row i k := if_pos hlt
          exact ⟨⟨k, _, _, _, _, _, Nat.lt_succ_self _, rfl, F7, N7, rfl, k, _, rfl, Nat.le_of_succ_le hki, hk'.symm.trans hko, ⟨rfl, congrArg (fun z => some (Value.int z _)) e, rfl, trivial⟩, rfl⟩⟩
        · rename ¬ (_ < _) => hlt
          rename Fr _ _ _ _ => F7
          rename News _ _ _ _ => N7
          rw [e, Int.toNat_natCast] at hlt
          have hk' : kOf row i (k + 1) = k + 1 := if_neg hlt
          rw [← hko, hk']
          exact ⟨⟨_, _, _, _, rfl, F7, N7, tkk, ⟨rfl, rfl, rfl, trivial⟩, rfl⟩⟩
    · rintro m5 nw5 h5 tk5 zz2 F6 N6
      try dsimp only
      try k_fold
      obtain ⟨tkk, hkn5, rfl⟩ := zz2
      replace F6 := fr_kn F6 hkn5
      dsimp only [knows] at F6
      try dsimp only
      have hkle := kOf_le row i i
      have holen := openedM_len row i
      try k_fold
      obtain ⟨rs, N7, q1, q2, q3⟩ := pull N6 (.tail _ hao)
      have nI := q3 _ (.head _) (fun e => off _ hao e.symm)
      have nc : ∀ {c : Addr} {oc : Obj} {v : Value}, (c, oc) ∈ nw → oc.data = .cell (some v) → c ≠ ao ∧ (c, oc) ∈ rs := fun hc hd =>
        have h := news_ne' N6 (.tail _ hc) (.tail _ hao) fun e => by
          have e' := congrArg Obj.data e
          rw [hd] at e'
          try k_fold
          cases e'
        ⟨h, q3 _ (.tail _ hc) h⟩
      have hoc7 := (nc hoc hdc).2
      have hos7 := (nc hos hds).2
      clear N6
      k_steps
      rename Fr _ _ _ _ => F8
      rename News _ _ _ _ => N8
      rename IntsAre _ _ => hi8
      rw [Int.toNat_natCast] at hi8
      have hneI : (@Ne Nat ao I) := off _ hao
      refine turn_end F8 N8 (noI I _) (.tail _ nI) (fun p hp => noI_off p hp) trivial ?_
      refine ⟨⟨rfl, trivial⟩, ⟨ao, _, _, oc, os, mem_noI (.head _) hneI, ?_, hne, mem_noI (.tail _ hoc7) (off _ hoc), hdc, mem_noI (.tail _ hos7) (off _ hos), hds⟩, fun p hp => mem_noI (.tail _ (q3 p (.tail _ (sub p hp)) (hne p hp))) (off _ (sub p hp))⟩
      rw [openedM_succ]
      exact hi8
  · intro m4 nw h4' tk4 hJ F4 N4
    try k_fold
    obtain ⟨hkn, ⟨ao, vo, no, oc, os, hao, hio, hne, hoc, hdc, hos, hds⟩, sub⟩ := hJ
    replace F4 := fr_kn F4 hkn
    dsimp only [knows] at F4
    try dsimp only
    have holen := openedM_len row 4
    have hole := openedM_le row 4
    k_steps
    rename Fr _ _ _ _ => F5
    rename News _ _ _ _ => N5
    rename IsRange _ _ _ _ _ _ _ _ => hr5
    refine ⟨⟨_, _, _, _, 0, 5, _, _, _, 5, nw, _, rfl, rfl, F5, N5, hr5, by decide, by decide, by decide, fun g => rest_of (fun i ys nw' => (∀ p ∈ nw, p ∈ nw') ∧ StrsAre ys ((List.range i).map (pieceM sg (openedM row 4)))) ?_ (fun _ _ j => j) _ 0 [] nw (Nat.zero_add _) ⟨fun _ h => h, .nil⟩, ?_⟩⟩
    · intro j v ys nw' I7 oI7 C7 oC7 D7 m7 h7 tk7 E7 hj hJ hP hC7 hx7 F7 N7 off7 ne7
      try k_fold
      obtain ⟨sub7, hs7⟩ := hJ
      try k_fold
      obtain ⟨tj, rfl⟩ := hP
      rw [Int.zero_add] at hx7
      have hao7 := sub7 _ hao
      have hoc7 := sub7 _ hoc
      have hos7 := sub7 _ hos
      try dsimp only
      k_steps
      rename Fr _ _ _ _ => F8
      rename News _ _ _ _ => N8
      have hgb := openedM_get row j
      rw [Int.toNat_natCast]
      refine ⟨KXi.mul (n := 1) rfl (by decide) (by omega) (by omega) ?_⟩
      intro t8 k8 hz8 hn8
      k_steps
      rename Fr _ _ _ _ => F9
      rename News _ _ _ _ => N9
      refine LCg.CompEnd.intro F9 N9 nw' (fun _ h => h) off7 trivial ⟨sub7, ?_⟩
      rw [List.range_succ, List.map_append]
      exact kct_snoc hs7
    · intro ys nw' D h7 tk7 hJ F7 N7 o1
      try k_fold
      obtain ⟨sub7, hs7⟩ := hJ
      try dsimp only
      k_steps
      rename Fr _ _ _ _ => F8
      rename News _ _ _ _ => N8
      refine ⟨join_listW (News.isList N8 (.head _)) hs7 (by decide) (pieces_len sg row) ?_⟩
      intro t9 k9
      k_steps
      exact hret _ _ _ _ (by k_asm) (by k_asm) (fun p hp => .tail _ (sub7 p (sub p hp))) ⟨_, rfl⟩
end PartCSpell
section PartCWays
set_option maxRecDepth 100000
theorem off_CWays : True := by
  w_top off
  trivial
local macro_rules | `(tactic| k_mem) => `(tactic| first | exact List.mem_cons_self | (refine' List.mem_cons_of_mem _ ?_; k_mem) | ktr_member)
local macro_rules | `(tactic| k_all) => `(tactic| (with_reducible assumption))
local macro_rules | `(tactic| walk_at $k:str) => if ["eval BinOp", "eval Call", "eval Subscript", "eval Compare", "isTrue Compare", "eval Tuple", "eval List"].contains k.getString then `(tactic| (k_here; k_fold)) else Lean.Macro.throwUnsupported

open PySem.W
noncomputable def stepRow (here : List Int) (i : Nat) : Option (List Int) :=
  if (i : Int) + here.getD i 0 + 1 < 4 then
    if ((List.range i).filter fun (h : Nat) => decide ((h : Int) + here.getD h 0 = (i : Int) + here.getD i 0 + 1 - 1)) = [] then
      some (here.take i ++ [(i : Int) + here.getD i 0 + 1 - i + here.getD ((i : Int) + here.getD i 0 + 1).toNat 0] ++ here.drop (i + 1))
    else none
  else none
noncomputable def nextW (p : List Int × Int) (i : Nat) : List (List Int × Int) := ((List.range i).filterMap (stepRow p.1)).map fun r => (r, p.2 + 1)
noncomputable def wayStep (ws : List (List Int × Int)) (k : Nat) : List (List Int × Int) := match ws[k]? with
  | some p => ws ++ nextW p 4
  | none => ws
noncomputable def waysAt (row : List Int) (k : Nat) : List (List Int × Int) := (List.range k).foldl wayStep [(row, 0)]
theorem wayStep_some {ws : List (List Int × Int)} {k : Nat} {p : List Int × Int} (h : ws[k]? = some p) : wayStep ws k = ws ++ nextW p 4 := by
  unfold wayStep
  rw [h]
theorem waysAt_succ {row : List Int} {k : Nat} {p : List Int × Int} (h : (waysAt row k)[k]? = some p) : waysAt row (k + 1) = waysAt row k ++ nextW p 4 := by
  have e : waysAt row (k + 1) = wayStep (waysAt row k) k := by
    unfold waysAt
    rw [List.range_succ, List.foldl_append]
    rfl
  rw [e, wayStep_some h]
noncomputable def RowOk (r : List Int) : Prop := r.length = 4 ∧ ∀ x ∈ r, 0 ≤ x ∧ x ≤ 3
noncomputable def WayV (all : List (Addr × Obj)) (v : Value) (p : List Int × Int) : Prop := ∃ T n ar vr nr tk, v = .ref T ∧ (T, tupO (.ref ar) (.int p.2 tk) n) ∈ all ∧ (ar, listO vr nr) ∈ all ∧ IntsAre vr p.1
theorem WayV.mono {all all' : List (Addr × Obj)} {v : Value} {p : List Int × Int} (h : WayV all v p) (k : ∀ q ∈ all, q ∈ all') : WayV all' v p :=
  let ⟨T, n, ar, vr, nr, tk, e, h1, h2, h3⟩ := h
  ⟨T, n, ar, vr, nr, tk, e, k _ h1, k _ h2, h3⟩
theorem paired_get' {α β : Type} {R : α → β → Prop} : ∀ {xs : List α} {ys : List β}, Paired R xs ys → ∀ {i : Nat} {y : β}, ys[i]? = some y → ∃ x, xs[i]? = some x ∧ R x y
  | _, _, .nil, i, x, h => by simp at h
  | _, _, .cons h0 t, 0, x, h => by cases h; exact ⟨_, rfl, h0⟩
  | _, _, .cons h0 t, i + 1, x, h => paired_get' t h
noncomputable def WaysIn (all : List (Addr × Obj)) (r : Value) (ws : List (List Int × Int)) : Prop := ∃ a vs n, r = .ref a ∧ (a, listO vs n) ∈ all ∧ Paired (WayV all) vs ws
theorem nextW_succ (p : List Int × Int) (i : Nat) : nextW p (i + 1) = nextW p i ++ (match stepRow p.1 i with | some r => [(r, p.2 + 1)] | none => []) := by
  unfold nextW
  rw [List.range_succ, List.filterMap_append, List.map_append]
  congr 1
  cases h : stepRow p.1 i <;> simp [h]
theorem nextW_len (p : List Int × Int) (i : Nat) : (nextW p i).length ≤ i := by
  unfold nextW
  rw [List.length_map]
  refine Nat.le_trans (List.length_filterMap_le _ _) ?_
  rw [List.length_range]
  exact Nat.le_refl _
theorem news_perm {h₀ h : Heap} {L : Addr} {a b c d : Addr × Obj} {l : List (Addr × Obj)} (N : News h₀ L h (a :: b :: c :: d :: l)) : News h₀ L h (a :: c :: d :: b :: l) := fun p hp => N p (by
  simp only [List.mem_cons] at hp ⊢
  rcases hp with h | h | h | h | h <;> simp [h])
theorem wayStep_len (ws : List (List Int × Int)) (k : Nat) : ws.length ≤ (wayStep ws k).length := by
  unfold wayStep
  split
  · rw [List.length_append]; omega
  · exact Nat.le_refl _
theorem waysAt_mono (row : List Int) (k : Nat) : ∀ d, (waysAt row k).length ≤ (waysAt row (k + d)).length
  | 0 => Nat.le_refl _
  | d + 1 => by
    refine Nat.le_trans (waysAt_mono row k d) ?_
    have e : waysAt row (k + d + 1) = wayStep (waysAt row (k + d)) (k + d) := by
      unfold waysAt
      rw [List.range_succ, List.foldl_append]
      rfl
    show _ ≤ (waysAt row (k + d + 1)).length
    rw [e]
    exact wayStep_len _ _
theorem range_small0 : ∀ n < 6, Builtin.Range.small 0 ((n : Nat) : Int) 1 = true := by decide
theorem range_size0 : ∀ n < 6, Builtin.Range.rangeSize 0 ((n : Nat) : Int) 1 = ((n : Nat) : Int) := by decide
noncomputable def hitsW (here : List Int) (j : Int) (i : Nat) : List Int := ((List.range i).filter fun (h : Nat) => decide ((h : Int) + here.getD h 0 = j - 1)).map fun (h : Nat) => (h : Int)
theorem hitsW_yes {here : List Int} {j : Int} {i : Nat} (h : (i : Int) + here.getD i 0 = j - 1) : hitsW here j (i + 1) = hitsW here j i ++ [(i : Int)] := by
  unfold hitsW
  rw [List.range_succ, List.filter_append, List.map_append, List.filter_cons_of_pos (by simpa using h)]
  rfl
theorem hitsW_no {here : List Int} {j : Int} {i : Nat} (h : ¬ (i : Int) + here.getD i 0 = j - 1) : hitsW here j (i + 1) = hitsW here j i := by
  unfold hitsW
  rw [List.range_succ, List.filter_append, List.filter_cons_of_neg (by simpa using h), List.filter_nil, List.append_nil]
theorem stepRow_far {here : List Int} {i : Nat} (h : ¬ (i : Int) + here.getD i 0 + 1 < 4) : stepRow here i = none := if_neg h
theorem stepRow_hit {here : List Int} {i : Nat} (h : (i : Int) + here.getD i 0 + 1 < 4) (n : ¬ hitsW here ((i : Int) + here.getD i 0 + 1) i = []) : stepRow here i = none := by
  unfold stepRow
  rw [if_pos h, if_neg fun e => n (by unfold hitsW; rw [e]; rfl)]
theorem stepRow_go {here : List Int} {i : Nat} (h : (i : Int) + here.getD i 0 + 1 < 4) (n : hitsW here ((i : Int) + here.getD i 0 + 1) i = []) :
    stepRow here i = some (here.take i ++ [(i : Int) + here.getD i 0 + 1 - i + here.getD ((i : Int) + here.getD i 0 + 1).toNat 0] ++ here.drop (i + 1)) := by
  unfold stepRow
  rw [if_pos h, if_pos (List.map_eq_nil_iff.mp n)]
theorem nextW_none {p : List Int × Int} {i : Nat} (h : stepRow p.1 i = none) : nextW p (i + 1) = nextW p i := by
  rw [nextW_succ, h, List.append_nil]
theorem nextW_some {p : List Int × Int} {i : Nat} {r : List Int} (h : stepRow p.1 i = some r) : nextW p (i + 1) = nextW p i ++ [(r, p.2 + 1)] := by
  rw [nextW_succ, h]
theorem ints_snoc {n : Int} {t : Tok} : ∀ {vs : List Value} {ns : List Int}, IntsAre vs ns → IntsAre (vs ++ [.int n t]) (ns ++ [n])
  | _, _, .nil => .cons _ _ .nil
  | _, _, .cons i t h => .cons i t (ints_snoc h)
theorem mem9 {h₀ h : Heap} {L : Addr} {b c d e f g i j k a : Addr × Obj} {l : List (Addr × Obj)} (_ : News h₀ L h (b :: c :: d :: e :: f :: g :: i :: j :: k :: a :: l)) : a ∈ b :: c :: d :: e :: f :: g :: i :: j :: k :: a :: l :=
  .tail _ (.tail _ (.tail _ (.tail _ (.tail _ (.tail _ (.tail _ (.tail _ (.tail _ (.head _)))))))))
theorem mem8 {h₀ h : Heap} {L : Addr} {b c d e f g i j k a : Addr × Obj} {l : List (Addr × Obj)} (_ : News h₀ L h (b :: c :: d :: e :: f :: g :: i :: j :: k :: a :: l)) : k ∈ b :: c :: d :: e :: f :: g :: i :: j :: k :: a :: l :=
  .tail _ (.tail _ (.tail _ (.tail _ (.tail _ (.tail _ (.tail _ (.tail _ (.head _))))))))
theorem mem10 {h₀ h : Heap} {L : Addr} {b c d e f g i j k a x : Addr × Obj} {l : List (Addr × Obj)} (_ : News h₀ L h (b :: c :: d :: e :: f :: g :: i :: j :: k :: a :: x :: l)) : x ∈ b :: c :: d :: e :: f :: g :: i :: j :: k :: a :: x :: l :=
  .tail _ (.tail _ (.tail _ (.tail _ (.tail _ (.tail _ (.tail _ (.tail _ (.tail _ (.tail _ (.head _))))))))))
theorem mem11 {h₀ h : Heap} {L : Addr} {b c d e f g i j k a x y : Addr × Obj} {l : List (Addr × Obj)} (_ : News h₀ L h (b :: c :: d :: e :: f :: g :: i :: j :: k :: a :: x :: y :: l)) : y ∈ b :: c :: d :: e :: f :: g :: i :: j :: k :: a :: x :: y :: l :=
  .tail _ (.tail _ (.tail _ (.tail _ (.tail _ (.tail _ (.tail _ (.tail _ (.tail _ (.tail _ (.tail _ (.head _)))))))))))
theorem mem12 {h₀ h : Heap} {L : Addr} {b c d e f g i j k a x y : Addr × Obj} {l : List (Addr × Obj)} (_ : News h₀ L h (b :: c :: d :: e :: f :: g :: i :: j :: k :: a :: x :: y :: l)) : ∀ p ∈ l, p ∈ b :: c :: d :: e :: f :: g :: i :: j :: k :: a :: x :: y :: l := fun _ h =>
  .tail _ (.tail _ (.tail _ (.tail _ (.tail _ (.tail _ (.tail _ (.tail _ (.tail _ (.tail _ (.tail _ (.tail _ h)))))))))))
theorem heads2 {h₀ h : Heap} {L : Addr} {b c : Addr × Obj} {l : List (Addr × Obj)} (_ : News h₀ L h (b :: c :: l)) : ∃ T oT R oR, (T, oT) = b ∧ (R, oR) = c := ⟨_, _, _, _, rfl, rfl⟩
local macro_rules | `(tactic| walk_at "exec For Name Call cons nil") => `(tactic| (k_here; (rename Fr _ _ _ _ => lF'); (with_unfolding_all refine' for_range lF' ?_ (fun _ _ _ _ _ h => wpAny_pure h)); k_whole))
local macro_rules | `(tactic| walk_at $k:str) => if ["exec While", "exec While Compare"].contains k.getString then `(tactic| (k_here; refine stop_here ?_)) else Lean.Macro.throwUnsupported
local macro_rules | `(tactic| walk_at "eval ListComp") => `(tactic| (k_here; k_dflt (refine' comp_rangeT (by with_unfolding_all rfl) (by decide) (by exact rfl) (by decide) (by exact rfl) ?_ (by (intro _; exact rfl)))))
local macro_rules | `(tactic| walk_at $k:str) => if ["compareOp Eq ref ref", "call builtin:list.append"].contains k.getString then `(tactic| (k_here; refine stop_here ?_)) else Lean.Macro.throwUnsupported
local macro_rules | `(tactic| walk_at "subscriptTail Name Slice ref ref") => `(tactic| (k_here; (with_reducible show wpAny _ _ (subscriptTail _ (PySem.Expr.Slice _ _ none _) (Value.ref _) (Value.ref _)) _ _ _); k_dflt (refine' kmk_slice_ints ?F ?N ?l ?p ?q ?i ?m ?c ?_ ?s ?t ?z; (case F => k_asm); (case N => k_asm); (case l => kmk_list); (case p => kmk_part); (case q => kmk_part); (case i => (with_reducible assumption)); (case m => first | exact kmk_upto (by assumption) (Int.natCast_nonneg _) | exact kmk_from (by assumption) (Int.add_nonneg (Int.natCast_nonneg _) (by decide))); (case c => kmk_len); (case s => with_unfolding_all rfl); (case t => kmk_pure); (case z => exact kmk_sz (by assumption) (Nat.le_trans (Nat.le_of_eq (by assumption)) (by rw [sizeLine_eq]; decide)))); intro D' ws' h' F' N' l1 hI' hC' hL'; (try simp only [Int.reduceNeg, Int.neg_neg, Int.reduceToNat] at hI' hC' hL'); (try k_lt l1); (try k_sweep)))
set_option maxHeartbeats 8000000 in
theorem ways_c (w : World) {news : List (Addr × Obj)} {a0 : Addr} {vs0 : List Value} {n0 : Nat} {row : List Int} {K : Nat} (hm : (a0, listO vs0 n0) ∈ news) (hi : IntsAre vs0 row)
    (hlen : (waysAt row K).length = K) (hgo : ∀ k < K, k < (waysAt row k).length) (hok : ∀ k < K, ∀ p ∈ waysAt row k, RowOk p.1) (hK : K ≤ 100) :
    Con w 167 [.ref a0] news 16 (fun all r => WaysIn all r (waysAt row K)) := by
  unfold Con
  intro p loose mean mg mb dp un gd env outer A₀ base h₀ L m s Q E B F X N T hf hk hd hu hret
  refine wpAny_call ?_
  k_dflt ((refine' code_defC ?k1 ?k2 ?k3 ?k4 ?k5 ?kA ?kF ?kK ?k6 ?k7 ?k8 ?k9 ?kB ?kD ?_ ?c2 ?c3 ?c4; (case kA => exact rfl); (case kF => first | exact rfl | assumption); (case kK => first | exact rfl | assumption); (case k1 => k_asm); (case k2 => k_asm); (case k3 => k_asm); (case k4 => k_asm); (case k5 => k_asm); (case k6 => k_is); (case k7 => k_is); (case k8 => ktr_room); (case k9 => first | exact BindsTo.of_eq rfl | exact binds_K (by assumption) rfl (by k_is) rfl rfl rfl | exact binds_K (by k_in) rfl (by k_is) rfl rfl rfl); (case kB => exact rfl); (case kD => decide +kernel); (case c2 => exact rfl); (case c3 => exact rfl); (case c4 => exact rfl); k_whole))
  k_dflt (intro g1 L1 h1 tk1 cells1 FG1 F0 N0 Y1 B1 X1 T1 lL; k_cells Y1; (try simp only [List.cons_append, List.nil_append] at N0); (try dsimp only); (try k_fold))
  rename _ = Data.cell _ => dA
  revert dA
  rename _ = Data.cell _ => dB
  intro dA
  replace dA : _ = Data.cell none := dA
  replace dB : _ = Data.cell none := dB
  k_steps
  rename Fr _ _ _ _ => F1
  rename News _ _ _ _ => N1
  replace N1 := news_perm N1
  rename _ < _ ∧ _ => l1
  refine ⟨while_fix (fun n m nw => ∃ k a vs nn oj oh rest tk vj vh, n = K - k ∧ k ≤ K ∧ Kn m [(Str.ofString "ways", .ref a), (Str.ofString "k", .int (k : Nat) tk)] ∧ nw = (a, listO vs nn) :: (L1 + 1 + 1, oj) :: (L1 + 1, oh) :: rest ∧ (@Ne Nat a (L1 + 1 + 1)) ∧ (@Ne Nat a (L1 + 1)) ∧ (∀ p ∈ rest, p.1 ≠ a) ∧ (∀ p ∈ rest, p.1 ≠ L1 + 1 + 1) ∧ (∀ p ∈ rest, p.1 ≠ L1 + 1) ∧
      oj.data = .cell vj ∧ oh.data = .cell vh ∧ Paired (WayV rest) vs (waysAt row k) ∧ ∀ p ∈ news, p ∈ rest)
    (fun m nw => ∃ a vs nn, Kn m [(Str.ofString "ways", .ref a)] ∧ (a, listO vs nn) ∈ nw ∧ Paired (WayV nw) vs (waysAt row K) ∧ ∀ p ∈ news, p ∈ nw) K F1 N1 ⟨0, _, [_], _, _, _, (_, _) :: news, _, _, _, rfl, Nat.zero_le _, ⟨rfl, rfl, trivial⟩, rfl, Nat.ne_of_gt l1.2.1, Nat.ne_of_gt l1.2.2.1, ?j1, ?j2, ?j3, dB, dA, .cons ⟨_, _, a0, vs0, n0, _, rfl, .head _, .tail _ hm, hi⟩ .nil, fun p hp => .tail _ hp⟩ ?_ ?_⟩
  case j1 =>
    intro p hp
    rcases List.mem_cons.mp hp with rfl | hp
    · k_ne
    · have hq := lL p hp
      exact Nat.ne_of_lt (Nat.lt_trans hq (by omega))
  case j2 =>
    intro p hp
    rcases List.mem_cons.mp hp with rfl | hp
    · k_ne
    · have hq := lL p hp
      exact Nat.ne_of_lt (Nat.lt_trans hq (by omega))
  case j3 =>
    intro p hp
    rcases List.mem_cons.mp hp with rfl | hp
    · k_ne
    · have hq := lL p hp
      exact Nat.ne_of_lt (Nat.lt_trans hq (by omega))
  · rintro n m2 nw2 h2 tk2  hJ0 F2 N2
    try dsimp only
    try k_fold
    try k_fold
    obtain ⟨k, a, vs, nn, oj, oh, rest, tkk, vj, vh, rfl, hkK, hkn, rfl, ne1, ne2, of1, of2, of3, hj, hh, hp, sub⟩ := hJ0
    replace F2 := fr_kn F2 hkn
    dsimp only [knows] at F2
    try dsimp only
    have hlv := hp.length
    k_steps
    rename Fr _ _ _ _ => F3
    rename News _ _ _ _ => N3
    have hwl := waysAt_mono row k (K - k)
    rw [Nat.add_sub_cancel' hkK, hlen] at hwl
    refine len_list ⟨_, N3.get (.head _), rfl, _, rfl⟩ ?_ ?_
    · rw [List.size_toArray, hlv]; omega
    rw [List.size_toArray, hlv]
    by_cases hlt : k < K
    · have hgk := hgo k hlt
      k_steps
      try k_fold
      obtain ⟨⟨here, turns⟩, hq⟩ : ∃ q, (waysAt row k)[k]? = some q := ⟨_, List.getElem?_eq_getElem hgk⟩
      try k_fold
      obtain ⟨v, hv, hV⟩ := paired_get' hp hq
      try k_fold
      obtain ⟨T9, n9, ar, vr, nr, t9, rfl, hT9, har, hir⟩ := hV
      have hro := hok k hlt _ (List.mem_of_getElem? hq)
      try k_fold
      obtain ⟨hr4, hrb⟩ := hro
      dsimp only at hT9 hir hr4 hrb
      rename News _ _ _ _ => N4
      refine kim_list (l := vs) N4 (.head _) rfl rfl (by omega) (by omega) (by rw [Int.toNat_natCast]; exact hv) ?_
      k_steps
      rename _ = Data.cell _ => d5
      rename Fr _ _ _ _ => F5
      rename News _ _ _ _ => N5
      rename IsRange _ _ _ _ _ _ _ _ => hr5
      refine ⟨⟨_, 0, 4, _, _, _, 4, _, _, fun i m nw => ∃ vs nn oj oh rest vj t9, Kn m [(Str.ofString "ways", .ref a), (Str.ofString "k", .int (k : Nat) tkk), (Str.ofString "turns", .int turns t9)] ∧ nw = (a, listO vs nn) :: (L1 + 1 + 1, oj) :: (L1 + 1, oh) :: rest ∧ (∀ p ∈ rest, p.1 ≠ a) ∧ (∀ p ∈ rest, p.1 ≠ L1 + 1 + 1) ∧ (∀ p ∈ rest, p.1 ≠ L1 + 1) ∧
          oj.data = .cell vj ∧ oh.data = .cell (some (.ref ar)) ∧ (ar, listO vr nr) ∈ rest ∧ Paired (WayV rest) vs (waysAt row k ++ nextW (here, turns) i) ∧ ∀ p ∈ news, p ∈ rest,
        rfl, rfl, F5, N5, hr5, by decide, by decide, ⟨_, _, _, _, _, _, _, ⟨rfl, rfl, rfl, trivial⟩, rfl, of1, of2, of3, hj, d5, har, ?_, sub⟩, ?_, ?_⟩⟩
      · have e0 : nextW (here, turns) 0 = [] := rfl
        rw [e0, List.append_nil]
        exact hp
      · clear hp of1 of2 of3 hj hh d5 hT9 har sub hv hkn
        rintro i ti m6 nw6 I h6 tk6 o hi4  hJ0 F6 hc off N6
        try dsimp only
        try k_fold
        try k_fold
        obtain ⟨vs, nn, oj, oh, rest, vj, t9, hkn, rfl, of1, of2, of3, hj, hh, har, hp, sub⟩ := hJ0
        have nIa : (@Ne Nat a I) := off _ (.head _)
        have nIj : (@Ne Nat (L1 + 1 + 1) I) := off _ (.tail _ (.head _))
        have nIh : (@Ne Nat (L1 + 1) I) := off _ (.tail _ (.tail _ (.head _)))
        have offr : ∀ p ∈ rest, p.1 ≠ I := fun p hp => off _ (.tail _ (.tail _ (.tail _ hp)))
        replace F6 := fr_kn F6 hkn
        dsimp only [knows] at F6
        try dsimp only
        rw [Int.zero_add]
        k_steps
        · rename Fr _ _ _ _ => F8
          rename News _ _ _ _ => N8
          rename IsRange _ _ _ _ _ _ _ _ => hr8
          rename _ = Data.cell _ => d8
          rename _ + _ + _ < _ => hj4
          rw [Int.toNat_natCast] at d8 hj4
          refine ⟨⟨_, _, _, _, 0, i, _, _, _, i, _, _, rfl, rfl, F8, N8, hr8, range_small0 i (by omega), range_size0 i (by omega), by rw [sizeLine_eq]; omega,
            fun g => restT_of (fun h ys nw' => nw' = _ ∧ IntsAre ys (hitsW here ((i : Int) + here.getD i 0 + 1) h)) ?_ (fun _ _ j => j) _ 0 [] _ (Nat.zero_add _) ⟨rfl, .nil⟩, ?_⟩⟩
          · rintro h v ys nw9 I9 oI9 C9 oC9 D9 m9 h9 tk9 E9 hh9 zz1 zz2 hC9 hx9 F9 N9 off9 ne9
            try dsimp only
            try k_fold
            obtain ⟨rfl, hs9⟩ := zz1
            obtain ⟨th, rfl⟩ := zz2
            rw [Int.zero_add] at hx9
            try dsimp only
            k_steps
            · rename Fr _ _ _ _ => F10
              rename News _ _ _ _ => N10
              rename _ + _ = _ => hyes
              rw [Int.toNat_natCast] at hyes
              refine LCg.CompEnd.intro F10 N10 _ (fun _ h => h) off9 trivial ⟨rfl, ?_⟩
              rw [hitsW_yes hyes]
              exact ints_snoc hs9
            · rename Fr _ _ _ _ => F10
              rename News _ _ _ _ => N10
              rename ¬ (_ + _ = _) => hno
              rw [Int.toNat_natCast] at hno
              refine LCg.CompEnd.intro F10 N10 _ (fun _ h => h) off9 trivial ⟨rfl, ?_⟩
              rw [hitsW_no hno]
              exact hs9
          · rintro ys nw9 D9 h9 tk9  hJ0 F9 N9 o9
            try dsimp only
            try k_fold
            try k_fold
            obtain ⟨rfl, hs9⟩ := hJ0
            try dsimp only
            k_steps
            rename Fr _ _ _ _ => F10
            rename News _ _ _ _ => N10
            refine ⟨eq_intsK (vs := ys) (us := []) ⟨_, (N10 _ (.tail _ (.head _))).1, rfl, _, rfl⟩ hs9 ⟨_, (N10 _ (.head _)).1, rfl, _, rfl⟩ .nil (by ktr_units) ?_⟩
            by_cases hemp : hitsW here ((i : Int) + here.getD i 0 + 1) i = []
            · have hgi : 0 ≤ here.getD i 0 := by
                have h1 : here.getD i 0 ∈ here := by
                  rw [List.getD_eq_getElem?_getD, List.getElem?_eq_getElem (by omega : i < here.length)]; exact List.getElem_mem _
                exact (hrb _ h1).1
              rw [hemp]
              k_steps
              rename IntsAre _ _ => hnew
              rename Fr _ _ _ _ => F11
              rename News _ _ _ _ => N11
              have hla := mem9 N11
              try k_fold
              obtain ⟨rs, N12, q1, q2, q3⟩ := pull N11 (mem9 N11)
              have hl2 := hp.length
              have hl3 := nextW_len (here, turns) i
              rw [List.length_append] at hl2
              refine ⟨append_K F11 N12 (Upd.head q1) ?_ ?_⟩
              · intro h12 F12 N13
                try dsimp only
                k_steps
                rename Fr _ _ _ _ => F14
                rename News _ _ _ _ => N14
                rw [Int.toNat_natCast] at hnew
                have hi1 : ((i : Int) + 1).toNat = i + 1 := by omega
                rw [hi1] at hnew
                have e8 := nextW_some (p := (here, turns)) (stepRow_go hj4 hemp)
                try k_fold
                obtain ⟨T', oT, R', oR, eT, eR⟩ := heads2 N11
                injection eT with eT1 eT2
                injection eR with eR1 eR2
                subst eT1
                subst eR1
                have hmT : (T', oT) ∈ rs := q3 (T', oT) (eT2 ▸ .head _) (by k_ne)
                have hmR : (R', oR) ∈ rs := q3 (R', oR) (eR2 ▸ .tail _ (.head _)) (by k_ne)
                have nT1 : (@Ne Nat T' a) ∧ (@Ne Nat T' (L1 + 1 + 1)) ∧ (@Ne Nat T' (L1 + 1)) ∧ (@Ne Nat T' I) := ⟨by k_ne, by k_ne, by k_ne, by k_ne⟩
                have nR1 : (@Ne Nat R' a) ∧ (@Ne Nat R' (L1 + 1 + 1)) ∧ (@Ne Nat R' (L1 + 1)) ∧ (@Ne Nat R' I) := ⟨by k_ne, by k_ne, by k_ne, by k_ne⟩
                have hmI := q3 _ (mem8 N11) (Ne.symm nIa)
                have hmj := q3 _ (mem10 N11) (Ne.symm ne1)
                have hmh := q3 _ (mem11 N11) (Ne.symm ne2)
                have hmr : ∀ p ∈ rest, p ∈ rs := fun p hp => q3 p (mem12 N11 p hp) (of1 p hp)
                rw [List.push_toArray] at N14
                refine turn_end F14 N14 ((a, listO (vs ++ [.ref T']) (nn + 1)) :: (L1 + 1 + 1, _) :: (L1 + 1, oh) :: (T', oT) :: (R', oR) :: rest) (.tail _ hmI) (fun p hp => ?_) trivial ⟨vs ++ [.ref T'], nn + 1, _, oh, (T', oT) :: (R', oR) :: rest, _, t9, ⟨rfl, rfl, rfl, trivial⟩, rfl, ?_, ?_, ?_, d8, hh, .tail _ (.tail _ har), ?_, fun p hp => .tail _ (.tail _ (sub p hp))⟩
                · simp only [List.mem_cons] at hp
                  rcases hp with rfl | rfl | rfl | rfl | rfl | hp
                  · exact ⟨.head _, nIa⟩
                  · exact ⟨.tail _ hmj, nIj⟩
                  · exact ⟨.tail _ hmh, nIh⟩
                  · exact ⟨.tail _ hmT, nT1.2.2.2⟩
                  · exact ⟨.tail _ hmR, nR1.2.2.2⟩
                  · exact ⟨.tail _ (hmr p hp), offr p hp⟩
                · intro p hp
                  rcases List.mem_cons.mp hp with rfl | hp
                  · exact nT1.1
                  rcases List.mem_cons.mp hp with rfl | hp
                  · exact nR1.1
                  · exact of1 p hp
                · intro p hp
                  rcases List.mem_cons.mp hp with rfl | hp
                  · exact nT1.2.1
                  rcases List.mem_cons.mp hp with rfl | hp
                  · exact nR1.2.1
                  · exact of2 p hp
                · intro p hp
                  rcases List.mem_cons.mp hp with rfl | hp
                  · exact nT1.2.2.1
                  rcases List.mem_cons.mp hp with rfl | hp
                  · exact nR1.2.2.1
                  · exact of3 p hp
                · rw [e8, ← List.append_assoc]
                  refine' Paired.snoc (paired_mono (fun _ _ h => h.mono fun p hp => .tail _ (.tail _ hp)) hp) ⟨T', 0, R', _, 0, _, rfl, ?h1, ?h2, hnew⟩
                  case h1 => rw [eT2]; exact List.mem_cons_self
                  case h2 => rw [eR2]; exact List.mem_cons_of_mem _ List.mem_cons_self
              · rw [List.size_toArray, sizeLine_eq]
                omega
            · rw [decide_eq_false hemp]
              k_steps
              rename Fr _ _ _ _ => F11
              rename News _ _ _ _ => N11
              have e8 := nextW_none (p := (here, turns)) (stepRow_hit hj4 hemp)
              refine turn_end F11 N11 ((a, listO vs nn) :: (L1 + 1 + 1, _) :: (L1 + 1, oh) :: rest) (.tail _ (.tail _ (.head _))) (fun p hp => ⟨.tail _ (.tail _ (.tail _ hp)), ?_⟩) trivial ⟨_, _, _, _, _, _, _, ⟨rfl, rfl, rfl, trivial⟩, rfl, of1, of2, of3, d8, hh, har, e8.symm ▸ hp, sub⟩
              simp only [List.mem_cons] at hp
              rcases hp with rfl | rfl | rfl | hp
              · exact nIa
              · exact nIj
              · exact nIh
              · exact offr p hp
        · rename Fr _ _ _ _ => F8
          rename News _ _ _ _ => N8
          rename _ = Data.cell _ => d8
          rename ¬ (_ < _) => hj4
          rw [Int.toNat_natCast] at hj4
          have e8 := nextW_none (p := (here, turns)) (stepRow_far hj4)
          refine turn_end F8 N8 _ (.head _) (fun p hp => ⟨.tail _ hp, ?_⟩) trivial ⟨_, _, _, _, _, _, _, ⟨rfl, rfl, rfl, trivial⟩, rfl, of1, of2, of3, d8, hh, har, e8.symm ▸ hp, sub⟩
          simp only [List.mem_cons] at hp
          rcases hp with rfl | rfl | rfl | hp
          · exact nIa
          · exact nIj
          · exact nIh
          · exact offr p hp
      · rintro m6 nw6 h6 tk6  hJ0 F6 N6
        try dsimp only
        try k_fold
        try k_fold
        obtain ⟨vs, nn, oj, oh, rest, vj, t9, hkn, rfl, of1, of2, of3, hj, hh, har, hp, sub⟩ := hJ0
        replace F6 := fr_kn F6 hkn
        dsimp only [knows] at F6
        try dsimp only
        k_steps
        rename Fr _ _ _ _ => F7
        rename News _ _ _ _ => N7
        have hks : (k : Int) + 1 = ((k + 1 : Nat) : Int) := by omega
        rw [← waysAt_succ hq] at hp
        exact ⟨⟨K - (k + 1), _, _, _, _, _, by omega, rfl, F7, N7, rfl, k + 1, a, vs, nn, oj, oh, rest, _, _, _, rfl, hlt, ⟨rfl, congrArg (fun z => some (Value.int z _)) hks, trivial⟩, rfl, ne1, ne2, of1, of2, of3, hj, hh, hp, sub⟩⟩
    · have hke : k = K := by omega
      subst hke
      rw [hlen]
      k_steps
      rename Fr _ _ _ _ => F4
      rename News _ _ _ _ => N4
      exact ⟨⟨_, _, _, _, rfl, F4, N4, a, vs, nn, ⟨rfl, trivial⟩, .head _, paired_mono (fun _ _ h => h.mono fun p hp => .tail _ (.tail _ (.tail _ hp))) hp, fun p hp => .tail _ (.tail _ (.tail _ (sub p hp)))⟩⟩
  · rintro m2 nw2 h2 tk2  hJ0 F2 N2
    try dsimp only
    try k_fold
    try k_fold
    obtain ⟨a, vs, nn, hkn, ha, hp, sub⟩ := hJ0
    replace F2 := fr_kn F2 hkn
    dsimp only [knows] at F2
    try dsimp only
    k_steps
    exact hret _ _ _ _ (by k_asm) (by k_asm) sub ⟨_, _, _, rfl, ha, hp⟩
end PartCWays
section PartIdx
set_option maxRecDepth 100000
theorem off_Idx : True := by
  w_top off
  trivial
local macro_rules | `(tactic| k_mem) => `(tactic| first | exact List.mem_cons_self | (refine' List.mem_cons_of_mem _ ?_; k_mem) | ktr_member)
local macro_rules | `(tactic| k_all) => `(tactic| (with_reducible assumption))
local macro_rules | `(tactic| walk_at $k:str) => if ["eval BinOp", "eval Call", "eval Subscript", "eval Compare", "isTrue Compare", "eval Tuple", "eval List"].contains k.getString then `(tactic| (k_here; k_fold)) else Lean.Macro.throwUnsupported

section
open PySem.SeqAt PySem.W
variable {prog : Program} {w : World} {A : Around} {E : Value → Shared → Prop} {s : Shared}
theorem ints_fun : ∀ {vs : List Value} {ns ms : List Int}, IntsAre vs ns → IntsAre vs ms → ns = ms
  | _, _, _, .nil, .nil => rfl
  | _, _, _, .cons _ _ h, .cons _ _ h' => by rw [ints_fun h h']
theorem isList_fun {h : Heap} {a : Addr} {vs us : List Value} (x : h.IsList a vs.toArray) (y : h.IsList a us.toArray) : vs = us := by
  obtain ⟨o, e, _, n, d⟩ := x
  obtain ⟨o', e', _, n', d'⟩ := y
  rw [e] at e'
  cases e'
  rw [d] at d'
  injection d' with h1 _
  exact congrArg Array.toList h1
theorem all_getD : ∀ {ns ms : List Int}, ns.length = ms.length → ((List.range ns.length).all fun j => ns.getD j 0 == ms.getD j 0) = decide (ns = ms) := by
  intro ns ms h
  by_cases e : ns = ms
  · subst e
    simp
  · rw [decide_eq_false e]
    rw [Bool.eq_false_iff]
    intro q
    refine e (List.ext_getElem h fun i h1 h2 => ?_)
    have := List.all_eq_true.mp q i (List.mem_range.mpr h1)
    simpa [List.getD_eq_getElem?_getD, h1, h2] using this
theorem eqAt_ints {a b : Addr} {vs us : List Value} {ns ms : List Int} (ha : s.heap.IsList a vs.toArray) (hi : IntsAre vs ns) (hb : s.heap.IsList b us.toArray) (hj : IntsAre us ms) (hlen : ns.length = ms.length) (hu : A.units < cLine) :
    EqAt A s (.ref a) (.ref b) (decide (ns = ms)) := by
  by_cases e : a = b
  · subst e
    have := isList_fun ha hb
    subst this
    rw [decide_eq_true (ints_fun hi hj)]
    exact EqAt.same _
  · refine EqAt.of_refs e ?_
    have h := RcAt.lists (A := A) (e := fun j => ns.getD j 0 == ms.getD j 0) ha hb (by rw [List.size_toArray, List.size_toArray, hi.length, hj.length]; exact hlen) hu (fun j h1 h2 => ?_)
    · rw [List.size_toArray, hi.length, all_getD hlen] at h
      exact h
    · rw [List.size_toArray] at h1 h2
      have l1 : j < ns.length := by rw [← hi.length]; exact h1
      have l2 : j < ms.length := by rw [← hj.length]; exact h2
      obtain ⟨t, ht⟩ := hi.get j ns[j] (by simp [l1])
      obtain ⟨u, hu'⟩ := hj.get j ms[j] (by simp [l2])
      have e1 : vs[j] = .int ns[j] t := by
        have := List.getElem?_eq_getElem h1
        rw [ht] at this
        exact (Option.some.inj this).symm
      have e2 : us[j] = .int ms[j] u := by
        have := List.getElem?_eq_getElem h2
        rw [hu'] at this
        exact (Option.some.inj this).symm
      show EqAt A.in1 s (vs.toArray[j]'(by simpa using h1)) (us.toArray[j]'(by simpa using h2)) _
      have e3 : (ns.getD j 0 == ms.getD j 0) = (ns[j] == ms[j]) := by
        simp [List.getD_eq_getElem?_getD, l1, l2]
      rw [List.getElem_toArray, List.getElem_toArray, e1, e2, e3]
      exact EqAt.int_int _ _ _ _
noncomputable def RowV (h : Heap) (v : Value) (r : List Int) : Prop := ∃ a vs, v = .ref a ∧ h.IsList a vs.toArray ∧ IntsAre vs r
theorem index_rows {l b : Addr} {vs us : List Value} {rs : List (List Int)} {here : List Int} {Q : Value → Shared → Prop} (hl : s.heap.IsList l vs.toArray) (hr : Paired (RowV s.heap) vs rs) (h4 : ∀ r ∈ rs, r.length = here.length)
    (hb : s.heap.IsList b us.toArray) (hj : IntsAre us here) (hin : here ∈ rs) (hz : rs.length ≤ 1000) (hu : A.in1.units < cLine) (h : Q (.int (rs.idxOf here : Nat) s.toks) { s with toks := s.toks + 1 }) :
    wpAny (model prog w) A (call (.builtin "list.index") [.ref l, .ref b]) Q E s := by
  obtain ⟨⟨cls, dd, data, sl⟩, ho, hc, n, hd⟩ := id hl
  simp only at hc hd
  subst hc hd
  have hlen := Paired.length hr
  have hjx : rs.idxOf here < rs.length := List.idxOf_lt_length_iff.mpr hin
  classical
  let e : Value → Bool := fun y => decide (∃ a ws, y = .ref a ∧ s.heap.IsList a ws.toArray ∧ IntsAre ws here)
  have hev : ∀ (i : Nat) (h1 : i < vs.length) (h2 : i < rs.length), e vs[i] = decide (rs[i] = here) ∧ EqAt A.in1 s vs[i] (.ref b) (e vs[i]) := by
    intro i h1 h2
    obtain ⟨r, hr1, a, ws, ea, hla, hia⟩ := paired_get hr (List.getElem?_eq_getElem h1)
    have er : rs[i] = r := by
      rw [List.getElem?_eq_getElem h2] at hr1
      exact Option.some.inj hr1
    have e1 : e vs[i] = decide (rs[i] = here) := by
      rw [er]
      refine decide_eq_decide.mpr ⟨?_, ?_⟩
      · rintro ⟨a', ws', ea', hla', hia'⟩
        rw [ea] at ea'
        cases ea'
        have := isList_fun hla hla'
        subst this
        exact ints_fun hia hia'
      · rintro rfl
        exact ⟨a, ws, ea, hla, hia⟩
    refine ⟨e1, ?_⟩
    rw [e1, er, ea]
    exact eqAt_ints hla hia hb hj (h4 r (er ▸ List.getElem_mem h2)) hu
  refine call_meets PySem.F.slot_list_index ⟨_, ho, rfl⟩ PySem.F.entry_list_index (PySem.F.args_list_index_2 _ _)
    (list_indexAt l vs.toArray n dd sl (.ref b) e (rs.idxOf here) (by rw [List.size_toArray, hlen]; exact hjx) (by omega) ?_ ?_) ⟨ho, fun y hy => ?_, h⟩
  · rw [List.getElem_toArray, (hev _ (by rw [hlen]; exact hjx) hjx).1]
    exact decide_eq_true (List.getElem_idxOf hjx)
  · intro j hjs hlt
    rw [List.size_toArray, hlen] at hjs
    rw [List.getElem_toArray, (hev _ (by rw [hlen]; exact hjs) hjs).1]
    refine decide_eq_false fun q => ?_
    have := List.not_of_lt_findIdx (p := fun x => x == here) hlt
    simp [q] at this
  · have hy' : y ∈ vs := by simpa using hy
    obtain ⟨i, hi, rfl⟩ := List.mem_iff_getElem.mp hy'
    exact (hev i hi (by rw [← hlen]; exact hi)).2
end
end PartIdx
section PartCDue
set_option maxRecDepth 100000
theorem off_CDue : True := by
  w_top off
  trivial
local macro_rules | `(tactic| k_mem) => `(tactic| first | exact List.mem_cons_self | (refine' List.mem_cons_of_mem _ ?_; k_mem) | ktr_member)
local macro_rules | `(tactic| k_all) => `(tactic| (with_reducible assumption))
local macro_rules | `(tactic| walk_at $k:str) => if ["eval BinOp", "eval Call", "eval Subscript", "eval Compare", "isTrue Compare", "eval Tuple", "eval List"].contains k.getString then `(tactic| (k_here; k_fold)) else Lean.Macro.throwUnsupported

open PySem.W
noncomputable def dueP (rs : List (List Int)) (ns : List Str) (acc : List (Str × List Int)) (p : List Int × Int) : List (Str × List Int) :=
  putG acc (ns.getD (rs.idxOf p.1) Str.empty) ((getG acc (ns.getD (rs.idxOf p.1) Str.empty)).getD [] ++ [p.2])
noncomputable def dueM (rs : List (List Int)) (ns : List Str) (ws : List (List Int × Int)) : List (Str × List Int) := ws.foldl (dueP rs ns) []
noncomputable def RowsIn (all : List (Addr × Obj)) (r : Value) (rs : List (List Int)) : Prop := ∃ a vs n, r = .ref a ∧ (a, listO vs n) ∈ all ∧ Paired (IntsIn all) vs rs
noncomputable def StrDict (w : World) (all : List (Addr × Obj)) (o : Obj) (d : List (Str × List Int)) : Prop := ∃ kvs, o.IsDictOf (PySem.strKind LP w) kvs ∧ DR (IntsIn all) kvs d
noncomputable def DueIn (w : World) (all : List (Addr × Obj)) (r : Value) (d : List (Str × List Int)) : Prop := ∃ a o, r = .ref a ∧ (a == sysModules) = false ∧ (a, o) ∈ all ∧ StrDict w all o d
theorem dict_cls {K : Type} [DecidableEq K] {prog : Program} {w : World} {knd : KeyKind prog w K} {o : Obj} {kvs : List (K × Value)} (h : o.IsDictOf knd kvs) : o.cls = .type "dict" := let ⟨_, _, e, _⟩ := h; e.1
theorem strs_get : ∀ {vs : List Value} {ss : List Str}, StrsAre vs ss → ∀ {i : Nat} {x : Str}, ss[i]? = some x → ∃ t, vs[i]? = some (.str x t)
  | _, _, .nil, i, x, h => by simp at h
  | _, _, .cons _ t _, 0, x, h => by cases h; exact ⟨t, rfl⟩
  | _, _, .cons _ _ h0, i + 1, x, h => strs_get h0 h
theorem putG_mem {K β : Type} [DecidableEq K] {d : List (K × β)} {k : K} {b : β} {p : K × β} (h : p ∈ putG d k b) : p ∈ d ∨ p = (k, b) := by
  unfold putG at h
  split at h
  · obtain ⟨q, hq, e⟩ := List.mem_map.mp h
    by_cases c : q.1 = k
    · rw [if_pos c] at e
      exact .inr (by rw [← e, c])
    · rw [if_neg c] at e
      exact .inl (e ▸ hq)
  · rcases List.mem_append.mp h with h | h
    · exact .inl h
    · exact .inr (List.mem_singleton.mp h)
theorem dueM_bound (rs : List (List Int)) (ns : List Str) : ∀ (ws : List (List Int × Int)) (acc : List (Str × List Int)) (n : Nat), acc.length ≤ n → (∀ p ∈ acc, p.2.length ≤ n) → (ws.foldl (dueP rs ns) acc).length ≤ n + ws.length ∧ ∀ p ∈ ws.foldl (dueP rs ns) acc, p.2.length ≤ n + ws.length
  | [], acc, n, h1, h2 => ⟨h1, h2⟩
  | w :: ws, acc, n, h1, h2 => by
    have h3 : (dueP rs ns acc w).length ≤ n + 1 := Nat.le_trans (putG_len _ _ _) (by omega)
    have h4 : ∀ p ∈ dueP rs ns acc w, p.2.length ≤ n + 1 := fun p hp => by
      rcases putG_mem hp with h | h
      · have := h2 p h; omega
      · rw [h]
        show (_ ++ [w.2]).length ≤ _
        rw [List.length_append, List.length_singleton]
        cases hg : getG acc (ns.getD (rs.idxOf w.1) Str.empty) with
        | none => simp
        | some xs =>
          have := h2 _ (getG_mem hg)
          simp only [Option.getD] at this ⊢
          omega
    have ih := dueM_bound rs ns ws (dueP rs ns acc w) (n + 1) h3 h4
    refine ⟨?_, fun p hp => ?_⟩
    · rw [List.length_cons, List.foldl_cons]; have := ih.1; omega
    · rw [List.foldl_cons] at hp
      have := ih.2 p hp
      rw [List.length_cons]
      omega
local macro_rules | `(tactic| walk_at "exec For Tuple Call cons nil") => `(tactic| (k_here; (rename Fr _ _ _ _ => lF'); (with_unfolding_all refine' for_list lF' ?_); k_whole))
local macro_rules | `(tactic| walk_at $k:str) => if ["getMethod ref", "call builtin:list.index", "call builtin:dict.get", "setItem ref str", "binaryOp Add ref ref"].contains k.getString then `(tactic| (k_here; refine stop_here ?_)) else Lean.Macro.throwUnsupported
set_option maxHeartbeats 2000000 in
theorem due_c (w : World) {news : List (Addr × Obj)} {a0 : Addr} {vs0 : List Value} {n0 : Nat} {row : List Int} {K : Nat} {vr vn : Value} {rs : List (List Int)} {an : Addr} {vns : List Value} {nn : Nat} {ns : List Str} (hm : (a0, listO vs0 n0) ∈ news) (hi : IntsAre vs0 row)
    (hlen : (waysAt row K).length = K) (hgo : ∀ k < K, k < (waysAt row k).length) (hok : ∀ k < K, ∀ p ∈ waysAt row k, RowOk p.1) (hK : K ≤ 100)
    (hrs : RowsIn news vr rs) (h4 : ∀ r ∈ rs, r.length = 4) (hmn : (an, listO vns nn) ∈ news) (hns : StrsAre vns ns) (h14 : rs.length ≤ ns.length) (hz : rs.length ≤ 1000) (hin : ∀ p ∈ waysAt row K, p.1 ∈ rs ∧ p.1.length = 4) :
    Con w 174 [.ref a0, vr, .ref an] news 32 (fun all r => DueIn w all r (dueM rs ns (waysAt row K))) := by
  obtain ⟨al, vrs, nr, rfl, hml, hprs⟩ := hrs
  unfold Con
  intro p loose mean mg mb dp un gd env outer A₀ base h₀ L m s Q E B F X N T hf hk hd hu hret
  refine wpAny_call ?_
  k_dflt ((refine' code_def ?k1 ?k2 ?k3 ?k4 ?k5 ?kA ?kF ?kK ?k6 ?k7 ?k8 ?k9 ?kB ?_ ?c2 ?c3 ?c4 ?c5; (case kA => exact rfl); (case kF => first | exact rfl | assumption); (case kK => first | exact rfl | assumption); (case k1 => k_asm); (case k2 => k_asm); (case k3 => k_asm); (case k4 => k_asm); (case k5 => k_asm); (case k6 => k_is); (case k7 => k_is); (case k8 => ktr_room); (case k9 => first | exact BindsTo.of_eq rfl | exact binds_K (by assumption) rfl (by k_is) rfl rfl rfl | exact binds_K (by k_in) rfl (by k_is) rfl rfl rfl); (case c5 => decide); (case kB => exact locs rfl); (case c2 => exact rfl); (case c3 => exact rfl); (case c4 => exact rfl); k_whole; intro qg' qL' qh' qFG' qF' qN' qB' qX' qT'; (try dsimp only); (try k_fold)))
  k_steps
  rename Addr => d1
  rename ∀ p ∈ news, p.1 < d1 => l1
  rename Obj.IsDictOf (PySem.strKind _ _) _ [] => hs1
  k_dflt (refine' con_use ?k1 ?k2 ?k3 ?k4 ?k5 (ways_c w (news := _ :: news) (.tail _ hm) hi hlen hgo hok hK) ?kf ?kK ?kd ?ku ?_; ((case k1 => k_asm); (case k2 => k_asm); (case k3 => k_asm); (case k4 => k_asm); (case k5 => k_asm); (case kf => first | exact rfl | assumption); (case kK => first | exact rfl | assumption); (case kd => ktr_room); (case ku => ktr_units)))
  intro r2 all2 h2 tk2 F2 N2 sub2 ho2
  try k_fold
  obtain ⟨aw, vw, nw0, e2, hmw, hpw⟩ := ho2
  subst e2
  have hd2 := sub2 _ (.head _)
  try k_fold
  obtain ⟨rest, N3, q1, q2, q3⟩ := pull N2 hd2
  have dcls := dict_cls hs1
  have tr : ∀ {b : Addr} {x : Obj} {c : String}, (b, x) ∈ all2 → x.cls = .type c → c ≠ "dict" → (b, x) ∈ rest := fun hb hx hc => q3 _ hb (news_ne N2 hb hd2 fun e => hc (by rw [hx, dcls] at e; exact Value.type.inj e))
  have hnr : ∀ p ∈ news, p ∈ rest := fun p hp => q3 p (sub2 _ (.tail _ hp)) (Nat.ne_of_lt (l1 p hp))
  have hmw3 := tr hmw rfl (by decide)
  have hpw3 : Paired (WayV rest) vw (waysAt row K) := paired_mono (fun v p hv => by
    try k_fold
    obtain ⟨T9, n9, ar, vr, nr, t9, e, hT, har, hir⟩ := hv
    exact ⟨T9, n9, ar, vr, nr, t9, e, tr hT rfl (by decide), tr har rfl (by decide), hir⟩) hpw
  clear N2
  refine ⟨⟨_, _, vw, _, _, _, fun i m nw => Kn m [(Str.ofString "rows", .ref al), (Str.ofString "names", .ref an), (Str.ofString "due", .ref d1)] ∧ ∃ od rest', nw = (d1, od) :: rest' ∧ (∀ p ∈ rest', p.1 ≠ d1) ∧ StrDict w rest' od (dueM rs ns ((waysAt row K).take i)) ∧ ∀ p ∈ rest, p ∈ rest',
    rfl, rfl, F2, N3, .tail _ hmw3, rfl, rfl, ⟨⟨rfl, rfl, rfl, trivial⟩, _, _, rfl, q1, ⟨_, hs1, .nil⟩, fun _ h => h⟩, ?_, ?_⟩⟩
  · rintro i v m4 nw4 I h4' tk4 o hv zz1 F4 hc off N4
    try dsimp only
    try k_fold
    obtain ⟨hkn, od, rest', rfl, of1, ⟨kvs, hkv, hdr⟩, sub⟩ := zz1
    try k_fold
    obtain ⟨⟨here, turns⟩, hq, T9, n9, ar, vr, nr9, t9, rfl, hT9, har, hir⟩ := paired_get hpw3 hv
    try k_fold
    obtain ⟨hin1, hin2⟩ := hin _ (List.mem_of_getElem? hq)
    dsimp only at hT9 hir hin1 hin2
    have hT9' := sub _ hT9
    have har' := sub _ har
    have hml' := sub _ (hnr _ hml)
    have hmn' := sub _ (hnr _ hmn)
    replace F4 := fr_kn F4 hkn
    dsimp only [knows] at F4
    try dsimp only
    k_steps
    rename News _ _ _ _ => N5
    refine ⟨kf_method (its := vrs.toArray) (n := nr) N5 (.tail _ (.tail _ hml')) PySem.F.slot_list_index PySem.F.type_list_index ?_⟩
    k_steps
    rename News _ _ _ _ => N6
    have hrow : Paired (RowV _) vrs rs := paired_mono (fun v r hv => by
      try k_fold
      obtain ⟨a9, vs9, n9, e9, hm9, hi9⟩ := hv
      exact ⟨a9, vs9, e9, ⟨_, (N6 _ (.tail _ (.tail _ (sub _ (hnr _ hm9))))).1, rfl, _, rfl⟩, hi9⟩) hprs
    refine ⟨index_rows (vs := vrs) (us := vr) ⟨_, (N6 _ (.tail _ (.tail _ hml'))).1, rfl, _, rfl⟩ hrow (fun r hr => by rw [h4 r hr, hin2]) ⟨_, (N6 _ (.tail _ (.tail _ har'))).1, rfl, _, rfl⟩ hir hin1 hz (by ktr_units) ?_⟩
    try dsimp only
    k_steps
    clear hrow
    have hix : rs.idxOf here < rs.length := List.idxOf_lt_length_iff.mpr hin1
    try k_fold
    obtain ⟨nm, hnm⟩ : ∃ nm, ns.getD (rs.idxOf here) Str.empty = nm := ⟨_, rfl⟩
    have hnm' : ns[rs.idxOf here]? = some nm := by
      rw [← hnm, List.getD_eq_getElem?_getD, List.getElem?_eq_getElem (by omega)]; rfl
    try k_fold
    obtain ⟨tn, htn⟩ := strs_get hns hnm'
    rename News _ _ _ _ => N7
    refine kim_list (l := vns) N7 (.tail _ (.tail _ hmn')) rfl rfl (by omega) (by omega) (by rw [Int.toNat_natCast]; exact htn) ?_
    k_steps
    rename News _ _ _ _ => N8
    refine ⟨kdg_method (knd := PySem.strKind _ _) N8 (.tail _ (.head _)) hkv ?_⟩
    k_steps
    rename News _ _ _ _ => N9
    have hdp : dueM rs ns ((waysAt row K).take (i + 1)) = dueP rs ns (dueM rs ns ((waysAt row K).take i)) (here, turns) := foldl_take_succ _ _ _ hq
    have hdp2 : dueP rs ns (dueM rs ns ((waysAt row K).take i)) (here, turns) = putG (dueM rs ns ((waysAt row K).take i)) nm ((getG (dueM rs ns ((waysAt row K).take i)) nm).getD [] ++ [turns]) := by
      unfold dueP
      rw [hnm]
    have hbd := dueM_bound rs ns ((waysAt row K).take i) [] 0 (Nat.le_refl _) (fun _ h => nomatch h)
    have htl : ((waysAt row K).take i).length ≤ K := by rw [List.length_take, hlen]; omega
    have hbd1 : (dueM rs ns ((waysAt row K).take i)).length ≤ 0 + ((waysAt row K).take i).length := hbd.1
    try k_fold
    cases hg : getG (dueM rs ns ((waysAt row K).take i)) nm with
    | none =>
      have hv := hdr.get_none hg
      refine ⟨kdg_get2 (knd := PySem.strKind _ _) N9 (.tail _ (.tail _ (.head _))) hkv (by assumption) (strKind_is _ _ _ _) none hv ?_⟩
      dsimp only [Option.getD]
      k_steps
      rename Fr _ _ _ _ => F10
      rename News _ _ _ _ => N10
      refine ⟨add_lists (vs := []) (ws := [_]) F10 N10 ⟨_, N10.get (.tail _ (.head _)), rfl, _, rfl⟩ ⟨_, N10.get (.head _), rfl, _, rfl⟩ ?_ (by rw [sizeLine_eq]; simp only [List.length_cons, List.length_nil]; omega)⟩
      clear F10 N10
      intro h11 F11 N11
      k_steps
      rename Fr _ _ _ _ => F12
      rename News _ _ _ _ => N12
      have nRd := news_ne N12 (.head _) (.tail _ (.tail _ (.tail _ (.tail _ (.head _))))) (by rw [dict_cls hkv]; intro e; exact absurd (Value.type.inj e) (by decide))
      have nRI := news_ne N12 (.head _) (.tail _ (.tail _ (.tail _ (.head _)))) (by rw [hc]; intro e; exact absurd (Value.type.inj e) (by decide))
      try k_fold
      obtain ⟨rs9, N13, q1', q2', q3'⟩ := pull N12 (.tail _ (.tail _ (.tail _ (.tail _ (.head _)))))
      refine ⟨kda_set (knd := PySem.strKind _ _) F12 N13 (.head q1') hkv (strKind_is _ _ _ _) (by rw [sizeLine_eq, hdr.len]; omega) ?_⟩
      clear F12 N12 N13
      intro h14 o14 F14 N14 hd14
      try dsimp only
      k_steps
      rename Fr _ _ _ _ => F15
      rename News _ _ _ _ => N15
      have hd1I : (@Ne Nat d1 I) := off (d1, od) (.head _)
      have hmR := q3' _ (.head _) nRd
      have hmI := q3' _ (.tail _ (.tail _ (.tail _ (.head _)))) (Ne.symm hd1I)
      have hmr : ∀ p ∈ rest', p ∈ rs9 := fun p hp => q3' p (.tail _ (.tail _ (.tail _ (.tail _ (.tail _ hp))))) (of1 p hp)
      refine turn_end F15 N15 ((d1, o14) :: noI I rs9) (.tail _ hmI) (fun p hp => ?_) ⟨.tail _ (mem_noI (hmr _ (sub _ hmw3)) (off _ (.tail _ (sub _ hmw3)))), trivial⟩ ⟨⟨rfl, rfl, rfl, trivial⟩, o14, noI I rs9, rfl, fun p hp => q1' p (noI_off p hp).1, ⟨_, hd14, ?_⟩, fun p hp => mem_noI (hmr _ (sub _ hp)) (off _ (.tail _ (sub _ hp)))⟩
      · rcases List.mem_cons.mp hp with rfl | hp
        · exact ⟨.head _, hd1I⟩
        · exact ⟨.tail _ (noI_off p hp).1, (noI_off p hp).2⟩
      rw [hdp, hdp2, hg]
      refine DR.put (hdr.mono fun v b hv => ?_) ⟨_, _, _, rfl, mem_noI hmR nRI, ?_⟩
      · try k_fold
        obtain ⟨a8, vs8, n8, e8, hm8, hi8⟩ := hv
        exact ⟨a8, vs8, n8, e8, mem_noI (hmr _ hm8) (off _ (.tail _ hm8)), hi8⟩
      · exact (.cons _ _ .nil)
    | some xs =>
      try k_fold
      obtain ⟨v9, hv, a9, vs9, n9', e9, hm9, hi9⟩ := hdr.get_some hg
      subst e9
      refine ⟨kdg_get2 (knd := PySem.strKind _ _) N9 (.tail _ (.tail _ (.head _))) hkv (by assumption) (strKind_is _ _ _ _) (some _) hv ?_⟩
      dsimp only [Option.getD]
      k_steps
      rename Fr _ _ _ _ => F10
      rename News _ _ _ _ => N10
      have hl9 := hi9.length
      have hx9 := hbd.2 _ (getG_mem hg)
      dsimp only at hx9
      refine ⟨add_lists (vs := vs9) (ws := [_]) F10 N10 ⟨_, N10.get (.tail _ (.tail _ (.tail _ (.tail _ hm9)))), rfl, _, rfl⟩ ⟨_, N10.get (.head _), rfl, _, rfl⟩ ?_ (by rw [sizeLine_eq, hl9]; simp only [List.length_cons, List.length_nil]; omega)⟩
      clear F10 N10
      intro h11 F11 N11
      k_steps
      rename Fr _ _ _ _ => F12
      rename News _ _ _ _ => N12
      have nRd := news_ne N12 (.head _) (.tail _ (.tail _ (.tail _ (.tail _ (.head _))))) (by rw [dict_cls hkv]; intro e; exact absurd (Value.type.inj e) (by decide))
      have nRI := news_ne N12 (.head _) (.tail _ (.tail _ (.tail _ (.head _)))) (by rw [hc]; intro e; exact absurd (Value.type.inj e) (by decide))
      try k_fold
      obtain ⟨rs9, N13, q1', q2', q3'⟩ := pull N12 (.tail _ (.tail _ (.tail _ (.tail _ (.head _)))))
      refine ⟨kda_set (knd := PySem.strKind _ _) F12 N13 (.head q1') hkv (strKind_is _ _ _ _) (by rw [sizeLine_eq, hdr.len]; omega) ?_⟩
      clear F12 N12 N13
      intro h14 o14 F14 N14 hd14
      try dsimp only
      k_steps
      rename Fr _ _ _ _ => F15
      rename News _ _ _ _ => N15
      have hd1I : (@Ne Nat d1 I) := off (d1, od) (.head _)
      have hmR := q3' _ (.head _) nRd
      have hmI := q3' _ (.tail _ (.tail _ (.tail _ (.head _)))) (Ne.symm hd1I)
      have hmr : ∀ p ∈ rest', p ∈ rs9 := fun p hp => q3' p (.tail _ (.tail _ (.tail _ (.tail _ (.tail _ hp))))) (of1 p hp)
      refine turn_end F15 N15 ((d1, o14) :: noI I rs9) (.tail _ hmI) (fun p hp => ?_) ⟨.tail _ (mem_noI (hmr _ (sub _ hmw3)) (off _ (.tail _ (sub _ hmw3)))), trivial⟩ ⟨⟨rfl, rfl, rfl, trivial⟩, o14, noI I rs9, rfl, fun p hp => q1' p (noI_off p hp).1, ⟨_, hd14, ?_⟩, fun p hp => mem_noI (hmr _ (sub _ hp)) (off _ (.tail _ (sub _ hp)))⟩
      · rcases List.mem_cons.mp hp with rfl | hp
        · exact ⟨.head _, hd1I⟩
        · exact ⟨.tail _ (noI_off p hp).1, (noI_off p hp).2⟩
      rw [hdp, hdp2, hg]
      refine DR.put (hdr.mono fun v b hv => ?_) ⟨_, _, _, rfl, mem_noI hmR nRI, ?_⟩
      · try k_fold
        obtain ⟨a8, vs8, n8, e8, hm8, hi8⟩ := hv
        exact ⟨a8, vs8, n8, e8, mem_noI (hmr _ hm8) (off _ (.tail _ hm8)), hi8⟩
      · exact (ints_snoc hi9)
  · rintro m4 nw4 h4' tk4 zz2 F4 N4
    try dsimp only
    try k_fold
    obtain ⟨hkn, od, rest', rfl, of1, ⟨kvs, hkv, hdr⟩, sub⟩ := zz2
    replace F4 := fr_kn F4 hkn
    dsimp only [knows] at F4
    try dsimp only
    rw [hpw3.length, List.take_length] at hdr
    k_steps
    exact hret _ _ _ _ (by k_asm) (by k_asm) (fun p hp => .tail _ (sub p (hnr p hp))) ⟨_, _, rfl, by assumption, .head _, _, hkv, hdr.mono fun _ _ h => h.mono fun p hp => .tail _ hp⟩
end PartCDue
section PartBookA
set_option maxRecDepth 100000
theorem off_BookA : True := by
  w_top off
  trivial
local macro_rules | `(tactic| k_mem) => `(tactic| first | exact List.mem_cons_self | (refine' List.mem_cons_of_mem _ ?_; k_mem) | ktr_member)
local macro_rules | `(tactic| k_all) => `(tactic| (with_reducible assumption))
local macro_rules | `(tactic| walk_at $k:str) => if ["eval BinOp", "eval Call", "eval Subscript", "eval Compare", "isTrue Compare", "eval Tuple", "eval List"].contains k.getString then `(tactic| (k_here; k_fold)) else Lean.Macro.throwUnsupported

/-- an object list taken to the ledger's head -/
theorem pulls {h₀ h : Heap} {L : Addr} {all : List (Addr × Obj)} (N : News h₀ L h all) (l : List (Addr × Obj)) (hl : ∀ q ∈ l, q ∈ all) :
    ∃ rest, News h₀ L h (l ++ rest) ∧ (∀ q ∈ l, ∀ p ∈ rest, p.1 ≠ q.1) ∧ (∀ p ∈ rest, p ∈ all) ∧ ∀ p ∈ all, (∀ q ∈ l, p.1 ≠ q.1) → p ∈ rest := by
  refine ⟨all.filter fun p => decide (∀ q ∈ l, p.1 ≠ q.1), fun p hp => ?_, fun q hq p hp => of_decide_eq_true (List.mem_filter.mp hp).2 q hq, fun p hp => (List.mem_filter.mp hp).1, fun p hp hn => List.mem_filter.mpr ⟨hp, decide_eq_true hn⟩⟩
  rcases List.mem_append.mp hp with hp | hp
  · exact N _ (hl p hp)
  · exact N _ (List.mem_filter.mp hp).1
section
variable {K K' β : Type} [DecidableEq K] [DecidableEq K']
noncomputable def mapK (f : K → K') (d : List (K × β)) : List (K' × β) := d.map fun p => (f p.1, p.2)
theorem mapK_any {f : K → K'} {k : K} : ∀ {d : List (K × β)}, (∀ p ∈ d, f p.1 = f k → p.1 = k) → (mapK f d).any (fun p => p.1 = f k) = d.any (fun p => p.1 = k)
  | [], _ => rfl
  | (a, b) :: d, h => by
    show (decide (f a = f k) || List.any (mapK f d) _) = (decide (a = k) || List.any d _)
    rw [mapK_any fun p hp => h p (.tail _ hp)]
    congr 1
    refine decide_eq_decide.mpr ⟨h (a, b) (.head _), fun e => by rw [e]⟩
theorem mapK_get {f : K → K'} {k : K} : ∀ {d : List (K × β)}, (∀ p ∈ d, f p.1 = f k → p.1 = k) → getG (mapK f d) (f k) = getG d k
  | [], _ => rfl
  | (a, b) :: d, h => by
    have ih := mapK_get (k := k) fun p hp => h p (.tail _ hp)
    unfold getG at ih ⊢
    show Option.map _ (List.find? _ ((f a, b) :: mapK f d)) = _
    rw [List.find?_cons, List.find?_cons]
    by_cases e : a = k
    · simp [e]
    · have e' : ¬ f a = f k := fun q => e (h (a, b) (.head _) q)
      simp only [e, e', decide_false]
      exact ih
theorem mapK_put {f : K → K'} {k : K} {b : β} {d : List (K × β)} (h : ∀ p ∈ d, f p.1 = f k → p.1 = k) : mapK f (putG d k b) = putG (mapK f d) (f k) b := by
  unfold putG
  rw [mapK_any h]
  by_cases c : (d.any fun p => decide (p.1 = k)) = true
  · rw [if_pos c, if_pos c]
    unfold mapK
    rw [List.map_map, List.map_map]
    refine List.map_congr_left fun p hp => ?_
    show (f (if p.1 = k then (p.1, b) else p).1, (if p.1 = k then (p.1, b) else p).2) = if f p.1 = f k then (f p.1, b) else (f p.1, p.2)
    by_cases e : p.1 = k
    · rw [if_pos e, if_pos (by rw [e])]
    · rw [if_neg e, if_neg fun q => e (h p hp q)]
  · rw [if_neg c, if_neg c]
    unfold mapK
    rw [List.map_append]
    rfl
end
/-- the book, on trees -/
abbrev Tab := List (Int × Int)
structure Bk where
  bk : List (Tree × Tab)
  wt : List Tree
noncomputable def bestT (lt : Tree → Tree → Bool) (b q : Tree) : Tree := if lt b q then q else b
noncomputable def greatT (lt : Tree → Tree → Bool) : List Tree → Tree
  | [] => .leaf 0
  | t :: ts => (t :: ts).foldl (bestT lt) t
noncomputable def furtherT (tab : Tab) : Tab := tab.foldl (fun a p => putG a (p.1 + 1) p.2) []
noncomputable def turnS (fu : Tab) (s : Bk) (t : Tree) : Bk := match getG s.bk t with
  | some tab => ⟨putG s.bk t (addM tab fu), s.wt⟩
  | none => ⟨putG (putG s.bk t []) t (addM [] fu), s.wt ++ [t]⟩
noncomputable def stepS (lt : Tree → Tree → Bool) (s : Bk) : Bk :=
  let best := greatT lt s.wt
  (turned best).foldl (turnS (furtherT ((getG s.bk best).getD []))) ⟨s.bk, s.wt.filter fun t => decide (t ≠ best)⟩
noncomputable def bookAt (lt : Tree → Tree → Bool) (first : Tree) : Nat → Bk
  | 0 => ⟨[(first, [(0, 1)])], [first]⟩
  | n + 1 => stepS lt (bookAt lt first n)
noncomputable def sg0 (k : Nat) : Nat := 33 + k
noncomputable def lt0 (a b : Tree) : Bool := decide ((named sg0 a).cps.toList < (named sg0 b).cps.toList)
noncomputable def all14 : List Tree := treesF 5 0 5
noncomputable def partS (lt : Tree → Tree → Bool) (s : Bk) (c : Nat) : Bk :=
  ((turned (greatT lt s.wt)).take c).foldl (turnS (furtherT ((getG s.bk (greatT lt s.wt)).getD []))) ⟨s.bk, s.wt.filter fun t => decide (t ≠ greatT lt s.wt)⟩
theorem partS_zero (lt : Tree → Tree → Bool) (s : Bk) : partS lt s 0 = ⟨s.bk, s.wt.filter fun t => decide (t ≠ greatT lt s.wt)⟩ := rfl
theorem partS_succ {lt : Tree → Tree → Bool} {s : Bk} {c : Nat} {t : Tree} (h : (turned (greatT lt s.wt))[c]? = some t) : partS lt s (c + 1) = turnS (furtherT ((getG s.bk (greatT lt s.wt)).getD [])) (partS lt s c) t := foldl_take_succ _ _ _ h
theorem stepS_part (lt : Tree → Tree → Bool) (s : Bk) : stepS lt s = partS lt s (turned (greatT lt s.wt)).length := by
  unfold partS stepS
  rw [List.take_length]
noncomputable def okS (s : Bk) : Bool := decide (s.bk.length ≤ 20) && decide (s.wt.length ≤ 20) && s.bk.all (fun p => all14.contains p.1 && decide (p.2.length ≤ 20)) && s.wt.all (fun t => all14.contains t && (getG s.bk t).isSome)
structure OkS (s : Bk) : Prop where
  bl : s.bk.length ≤ 20
  wl : s.wt.length ≤ 20
  keys : ∀ p ∈ s.bk, p.1 ∈ all14 ∧ p.2.length ≤ 20
  wait : ∀ t ∈ s.wt, t ∈ all14 ∧ (getG s.bk t).isSome = true
theorem OkS.of {s : Bk} (h : okS s = true) : OkS s := by
  unfold okS at h
  simp only [Bool.and_eq_true, decide_eq_true_eq, List.all_eq_true, List.contains_iff_mem] at h
  exact ⟨h.1.1.1, h.1.1.2, fun p hp => h.1.2 p hp, fun t ht => h.2 t ht⟩
noncomputable def chk (first : Tree) (n : Nat) : Bool := (List.range n).all (fun j => okS (bookAt lt0 first j) && !(bookAt lt0 first j).wt.isEmpty && (List.range ((turned (greatT lt0 (bookAt lt0 first j).wt)).length + 1)).all fun c => okS (partS lt0 (bookAt lt0 first j) c)) && okS (bookAt lt0 first n) && (bookAt lt0 first n).wt.isEmpty
structure Chk (first : Tree) (n : Nat) : Prop where
  at_ : ∀ j < n, OkS (bookAt lt0 first j) ∧ (bookAt lt0 first j).wt ≠ [] ∧ ∀ c ≤ (turned (greatT lt0 (bookAt lt0 first j).wt)).length, OkS (partS lt0 (bookAt lt0 first j) c)
  last : OkS (bookAt lt0 first n)
  done : (bookAt lt0 first n).wt = []
theorem Chk.of {first : Tree} {n : Nat} (h : chk first n = true) : Chk first n := by
  unfold chk at h
  simp only [Bool.and_eq_true, List.all_eq_true, List.mem_range, Bool.not_eq_true', List.isEmpty_iff] at h
  refine ⟨fun j hj => ⟨OkS.of (h.1.1 j hj).1.1, fun e => ?_, fun c hc => OkS.of ((h.1.1 j hj).2 c (by omega))⟩, OkS.of h.1.2, h.2⟩
  have := (h.1.1 j hj).1.2
  rw [e] at this
  cases this
structure Good (sg : Nat → Nat) : Prop where
  inj : ∀ t ∈ all14, ∀ t' ∈ all14, named sg t = named sg t' → t = t'
  ok : ∀ t ∈ all14, PyData.strOk (named sg t) = true
  lt : ∀ t ∈ all14, ∀ t' ∈ all14, ((named sg t).cps.toList < (named sg t').cps.toList ↔ lt0 t t' = true)
theorem turned_closed : ∀ t ∈ all14, ∀ t' ∈ turned t, t' ∈ all14 := by decide
theorem all14_sz : ∀ t ∈ all14, t.sz ≤ 9 := by decide
theorem all14_tl : ∀ t ∈ all14, (turned t).length ≤ 9 := fun t h => Nat.le_trans (turned_len t) (all14_sz t h)
theorem great_best {sg : Nat → Nat} (G : Good sg) : ∀ (l : List Tree) (b : Tree), b ∈ all14 → (∀ t ∈ l, t ∈ all14) → (l.map (named sg)).foldl bestS (named sg b) = named sg (l.foldl (bestT lt0) b) ∧ l.foldl (bestT lt0) b ∈ all14
  | [], b, hb, _ => ⟨rfl, hb⟩
  | q :: l, b, hb, hl => by
    have hq := hl q (.head _)
    have e : bestS (named sg b) (named sg q) = named sg (bestT lt0 b q) := by
      unfold bestS bestT
      by_cases c : (named sg b).cps.toList < (named sg q).cps.toList
      · rw [if_pos c, if_pos ((G.lt b hb q hq).mp c)]
      · rw [if_neg c, if_neg fun h => c ((G.lt b hb q hq).mpr h)]
    have hm : bestT lt0 b q ∈ all14 := by
      unfold bestT
      split
      · exact hq
      · exact hb
    show (l.map (named sg)).foldl bestS (bestS (named sg b) (named sg q)) = _ ∧ _
    rw [e]
    exact great_best G l _ hm fun t ht => hl t (.tail _ ht)
theorem great_mem (lt : Tree → Tree → Bool) : ∀ (l : List Tree) (b : Tree), l.foldl (bestT lt) b = b ∨ l.foldl (bestT lt) b ∈ l
  | [], b => .inl rfl
  | q :: l, b => by
    rcases great_mem lt l (bestT lt b q) with h | h
    · rw [List.foldl_cons, h]
      unfold bestT
      split
      · exact .inr (.head _)
      · exact .inl rfl
    · exact .inr (.tail _ h)
theorem greatT_mem {lt : Tree → Tree → Bool} : ∀ {l : List Tree}, l ≠ [] → greatT lt l ∈ l
  | [], h => absurd rfl h
  | t :: l, _ => by
    rcases great_mem lt (t :: l) t with h | h
    · show (t :: l).foldl (bestT lt) t ∈ _
      rw [h]; exact .head _
    · exact h
theorem chk_all : all14.all (fun t => (List.range 20).any fun n => chk t n) = true := by decide +kernel
theorem chk14 {t : Tree} (h : t ∈ all14) : ∃ n, n < 20 ∧ Chk t n := by
  have := List.all_eq_true.mp chk_all t h
  obtain ⟨n, hn, hc⟩ := List.any_eq_true.mp this
  exact ⟨n, List.mem_range.mp hn, Chk.of hc⟩
end PartBookA
section PartDictN
set_option maxRecDepth 100000
theorem off_DictN : True := by
  w_top off
  trivial
local macro_rules | `(tactic| k_mem) => `(tactic| first | exact List.mem_cons_self | (refine' List.mem_cons_of_mem _ ?_; k_mem) | ktr_member)
local macro_rules | `(tactic| k_all) => `(tactic| (with_reducible assumption))
local macro_rules | `(tactic| walk_at $k:str) => if ["eval BinOp", "eval Call", "eval Subscript", "eval Compare", "isTrue Compare", "eval Tuple", "eval List"].contains k.getString then `(tactic| (k_here; k_fold)) else Lean.Macro.throwUnsupported

section
open PySem.W
variable {prog : Program} {w : World} {A : Around} {E : Value → Shared → Prop} {s : Shared} {env : Env} {h₀ : Heap} {L : Addr} {m : Str → Option Value} {news : List (Addr × Obj)}
theorem empty_dict {K : Type} [DecidableEq K] {knd : KeyKind prog w K} : ({ cls := .type "dict", data := .dict #[] } : Obj).IsDictOf knd [] := by
  refine ⟨#[], 0, ⟨rfl, rfl, rfl⟩, rfl, ?_, ?_, ?_⟩
  all_goals first | exact .nil | (intro a h; simp at h) | simp
inductive DictGo (prog : Program) (w : World) (h₀ : Heap) (L : Addr) (s : Shared) (A0 : Addr) (o : Obj) (Q : Value → Shared → Prop) (vs : List (Value × Value)) (s₁ : Shared) : Prop
  | mk : ∀ x t y hh tk nw m', vs = [(.str x t, y)] → s₁ = { s with heap := hh, toks := tk } → Fr h₀ L hh m' → News h₀ L hh ((A0, o) :: nw) → (∀ p ∈ nw, p.1 ≠ A0) →
        (∀ h'' o', Fr h₀ L h'' m' → News h₀ L h'' ((A0, o') :: nw) → o'.IsDictOf (PySem.strKind prog w) [(x, y)] → Q (.ref A0) { s with heap := h'', toks := tk + 1 }) → DictGo prog w h₀ L s A0 o Q vs s₁
/-- a dict display of one pair, its key a text, its value anything that is reckoned while the dict lies there -/
theorem dict_one {keys : List (Option Expr)} {values : List Expr} {pos : Pos} {Q : Value → Shared → Prop} (F : Fr h₀ L s.heap m) (N : News h₀ L s.heap news) (hbig : h₀.NoLimit)
    (hall : keys.all (·.isSome) = true) (hl : keys.length = values.length) (h0 : keys ≠ []) (hlen : keys.length ≤ 15)
    (h : ∀ A0 h' o, Fr h₀ L h' m → News h₀ L h' ((A0, o) :: news) → (∀ p ∈ news, p.1 < A0) → (A0 == sysModules) = false → o.cls = .type "dict" → o.IsDictOf (PySem.strKind prog w) [] →
      wpAny (model prog w) A (evalPairs (pairTrees keys values env pos)) (fun vs s₁ => Stop (DictGo prog w h₀ L s A0 o Q vs s₁)) E { s with heap := h' }) :
    wpAny (model prog w) A (eval (.Dict keys values pos) env) Q E s := by
  refine wpAny_Dict_walk (knd := PySem.strKind prog w) hall hl h0 hlen ?_
  have up : ∀ b o, s.heap.get? b = some o → (s.heap.push { cls := .type "dict", data := .dict #[] }).get? b = some o := fun b o e => Heap.get?_push_of_some _ e
  have hD0 : h₀.get? s.heap.objs.size = none := next_is_new F
  have hDL : s.heap.objs.size ≠ L := Nat.ne_of_gt F.ns.lt
  refine wpAny_mono (h s.heap.objs.size (s.heap.push { cls := .type "dict", data := .dict #[] }) _ (F.keeps up) (fun p hp => ?_) (fun p hp => Heap.lt_size (N p hp).1) (F.notModules (modules_low hbig)) rfl empty_dict) (fun vs s₁ h₁ => ?_) fun _ _ e => e
  · rcases List.mem_cons.mp hp with rfl | hp
    · exact ⟨Heap.get?_push_size _ rfl, hDL, hD0⟩
    · exact ⟨up _ _ (N p hp).1, (N p hp).2⟩
  · obtain ⟨x, t, y, hh, tk, nw, m', rfl, rfl, F', N', off, k⟩ := h₁.of
    refine ⟨[(x, y)], ?_, Heap.dictOf_iff.mpr ⟨_, (N' _ (.head _)).1, empty_dict⟩, fun h'' hd hs => ?_⟩
    · exact ⟨strKind_is _ _ _ _, rfl, trivial⟩
    · obtain ⟨o', ho', hd'⟩ := Heap.dictOf_iff.mp hd
      exact k h'' o' (F'.change hs hDL hD0) (fun p hp => by
        rcases List.mem_cons.mp hp with rfl | hp
        · exact ⟨ho', hDL, hD0⟩
        · exact ⟨hs.extBut _ _ (off p hp) (N' p (.tail _ hp)).1, (N' p (.tail _ hp)).2⟩) hd'
end
end PartDictN
section PartEqStr
set_option maxRecDepth 100000
theorem off_EqStr : True := by
  w_top off
  trivial
local macro_rules | `(tactic| k_mem) => `(tactic| first | exact List.mem_cons_self | (refine' List.mem_cons_of_mem _ ?_; k_mem) | ktr_member)
local macro_rules | `(tactic| k_all) => `(tactic| (with_reducible assumption))
local macro_rules | `(tactic| walk_at $k:str) => if ["eval BinOp", "eval Call", "eval Subscript", "eval Compare", "isTrue Compare", "eval Tuple", "eval List"].contains k.getString then `(tactic| (k_here; k_fold)) else Lean.Macro.throwUnsupported

section
open PySem.W PySem.Spec PySem.SeqAt PyProof.V
theorem readsAll_of_strs {h : Heap} : ∀ {vs : List Value} {ns : List Str}, StrsAre vs ns → ReadsAll h vs (ns.map PyData.str) []
  | _, _, .nil => .nil
  | _, _, .cons k t r => by
    have := ReadsAll.cons (Reads.str (h := h) k t) (readsAll_of_strs (h := h) r)
    simpa using this
theorem reads_of_strs {h : Heap} {a : Addr} {vs : List Value} {ns : List Str} (hl : h.IsList a vs.toArray) (hi : StrsAre vs ns) : Reads h (.ref a) (.list (ns.map PyData.str)) [a] := by
  obtain ⟨o, ho, hc, n, hd⟩ := hl
  exact Reads.list ho hc hd (by simpa using readsAll_of_strs hi)
theorem canLayAll0_strs : ∀ ns : List Str, (∀ x ∈ ns, PyData.strOk x = true) → PyData.canLayAll0 (ns.map PyData.str) = true
  | [], _ => by simp [PyData.canLayAll0]
  | n :: r, h => by simp [PyData.canLayAll0, PyData.canLay0, canLayAll0_strs r fun x hx => h x (.tail _ hx), h n (.head _)]
theorem depthAll_strs : ∀ ns : List Str, PyData.depthAll (ns.map PyData.str) ≤ 1
  | [] => by simp [PyData.depthAll]
  | n :: r => by
    have := depthAll_strs r
    simp only [List.map_cons, PyData.depthAll, PyData.depth]
    omega
theorem shaped_strs (ns : List Str) (hok : ∀ x ∈ ns, PyData.strOk x = true) : shaped (.list (ns.map PyData.str)) = true := by
  have h1 := depthAll_strs ns
  have h2 : PyData.depth (.list (ns.map PyData.str)) ≤ 64 := by simp only [PyData.depth]; omega
  show (PyData.canLay0 (.list (ns.map PyData.str)) && decide (PyData.depth (.list (ns.map PyData.str)) ≤ 64)) = true
  rw [Bool.and_eq_true]
  exact ⟨by simp only [PyData.canLay0]; exact canLayAll0_strs ns hok, decide_eq_true h2⟩
theorem noMix_strs : ∀ ns ms : List Str, noMixAll (ns.map PyData.str) (ms.map PyData.str) = true
  | [], [] => by simp [noMixAll]
  | [], _ :: _ => by simp [noMixAll]
  | _ :: _, [] => by simp [noMixAll]
  | _ :: r, _ :: q => by simp [noMixAll, noMix, noMix_strs r q]
theorem same_strs : ∀ ns ms : List Str, PySem.Spec.sameAll (ns.map PyData.str) (ms.map PyData.str) = decide (ns = ms)
  | [], [] => by simp [PySem.Spec.sameAll]
  | [], _ :: _ => by simp [PySem.Spec.sameAll]
  | _ :: _, [] => by simp [PySem.Spec.sameAll]
  | n :: r, k :: q => by
    simp only [List.map_cons, PySem.Spec.sameAll, PySem.Spec.same, same_strs r q]
    by_cases h : n = k <;> simp [h]
variable {prog : Program} {w : World} {A : Around} {E : Value → Shared → Prop} {s : Shared}
theorem ne_strsK {a b : Addr} {vs us : List Value} {ns ms : List Str} {Q : Value → Shared → Prop} (hl : s.heap.IsList a vs.toArray) (hi : StrsAre vs ns) (hl' : s.heap.IsList b us.toArray) (hi' : StrsAre us ms) (hu : A.units + 64 < cLine) (ok1 : ∀ x ∈ ns, PyData.strOk x = true) (ok2 : ∀ x ∈ ms, PyData.strOk x = true)
    (h : Q (.bool (!decide (ns = ms))) s) : wpAny (model prog w) A (compareOp .NotEq (.ref a) (.ref b)) Q E s :=
  ne_dataH_same (reads_of_strs hl hi) (reads_of_strs hl' hi') (shaped_strs ns ok1) (shaped_strs ms ok2) hu (by simp only [noMix]; exact noMix_strs ns ms) (by simp only [PySem.Spec.same]; rw [same_strs]; exact h)
end
end PartEqStr
section PartCompS
set_option maxRecDepth 100000
theorem off_CompS : True := by
  w_top off
  trivial
local macro_rules | `(tactic| k_mem) => `(tactic| first | exact List.mem_cons_self | (refine' List.mem_cons_of_mem _ ?_; k_mem) | ktr_member)
local macro_rules | `(tactic| k_all) => `(tactic| (with_reducible assumption))
local macro_rules | `(tactic| walk_at $k:str) => if ["eval BinOp", "eval Call", "eval Subscript", "eval Compare", "isTrue Compare", "eval Tuple", "eval List"].contains k.getString then `(tactic| (k_here; k_fold)) else Lean.Macro.throwUnsupported
local macro_rules | `(tactic| walk_at "eval ListComp") => `(tactic| (k_here; k_dflt (refine' comp_list (by with_unfolding_all rfl) (by decide) (by exact rfl) (by decide) (by exact rfl) ?_ (by (intro _; exact rfl)))))

section
open PyProof.Rows.LCg PyProof.Rows.LCt
variable {prog : Program} {w : World} {A : Around} {E : Value → Shared → Prop} {s : Shared} {env : Env}
inductive Go_comp_listS (prog : Program) (w : World) (A : Around) (env : Env) (elt : Expr) (x : Str) (scope : Scope) (cl : List (Str × Addr)) (Q : Value → Shared → Prop) (xv : Value) (s₁ : Shared) : Prop
  | mk : ∀ (h₀ L m ax its news Fin : _), (xv = .ref ax) → (A.handled = none) → (Fr h₀ L s₁.heap m) → (News h₀ L s₁.heap news) → (SrcAt h₀ ax its news) → (its.size ≤ sizeLine) → ((∀ g, CompRest prog w A h₀ L m env elt x scope cl { s₁ with heap := g } (SrcAt h₀ ax its) (fun i v => its[i]? = some v) Fin its.size 0 [] news)) → ((∀ ys news' D h tk, Fin ys news' → Fr h₀ L h m → News h₀ L h ((D, lst ys) :: news') → Off1 D news' → Q (.ref D) { s₁ with heap := h, toks := tk })) → Go_comp_listS prog w A env elt x scope cl Q xv s₁
theorem comp_listS {elt iter : Expr} {x : Str} {px : Pos} {scope : Scope} {cl : List (Str × Addr)} {pos : Pos} {Q : Value → Shared → Prop}
    (hclos : closureFor scope env = pure cl) (hcell : ∀ y ∈ scope.names, y.2 ≠ .cell) (hkind : scope.kind = .function)
    (hnames : ∀ y ∈ scope.names, y.2 = .local → scope.names.lookup y.1 = some .local) (hx : scope.names.lookup x = some .local)
    (h : wpAny (model prog w) A (eval iter env) (fun xv s₁ => Stop (Go_comp_listS prog w A env elt x scope cl Q xv s₁)) E s)
    (hs : ∀ x, foldedSetIterable iter env x = pure x := by intro _; rfl) :
    wpAny (model prog w) A (eval (.ListComp elt [⟨.Name x px, iter, [], 0⟩] scope pos) env) Q E s :=
  comp_list hclos hcell hkind hnames hx (wpAny_mono h (fun _ _ h => by rcases h.of with ⟨a0, a1, a2, a3, a4, a5, a6, a7, a8, a9, a10, a11, a12, a13, a14⟩; exact ⟨a0, a1, a2, a3, a4, a5, a6, a7, a8, a9, a10, a11, a12, a13, a14⟩) fun _ _ e => e) hs
end
end PartCompS
section PartAsgC
set_option maxRecDepth 100000
theorem off_AsgC : True := by
  w_top off
  trivial
local macro_rules | `(tactic| k_mem) => `(tactic| first | exact List.mem_cons_self | (refine' List.mem_cons_of_mem _ ?_; k_mem) | ktr_member)
local macro_rules | `(tactic| k_all) => `(tactic| (with_reducible assumption))
local macro_rules | `(tactic| walk_at $k:str) => if ["eval BinOp", "eval Call", "eval Subscript", "eval Compare", "isTrue Compare", "eval Tuple", "eval List"].contains k.getString then `(tactic| (k_here; k_fold)) else Lean.Macro.throwUnsupported
local macro_rules | `(tactic| walk_at "eval ListComp") => `(tactic| (k_here; k_dflt (refine' comp_list (by with_unfolding_all rfl) (by decide) (by exact rfl) (by decide) (by exact rfl) ?_ (by (intro _; exact rfl)))))

section
open PyProof.Rows.LCg PyProof.Rows.LCt
variable {prog : Program} {w : World} {A : Around} {E : Value → Shared → Prop} {s : Shared} {env : Env}
theorem asg_end {h₀ : Heap} {y : Str} {py : Pos} {m m' : Str → Option Value} {ys : List Value} {news' : List (Addr × Obj)} {D C : Addr} {h : Heap} {tk : Nat} {s₁ : Shared} {Q : Flow → Shared → Prop} {E : Value → Shared → Prop}
    (hy : env.kindOf y = some .local) (hp : (env.scope.kind == .class || (env.scope.kind == .module && env.locals != env.globals)) = false)
    (F' : Fr h₀ env.locals h m) (N' : News h₀ env.locals h ((D, lst ys) :: news')) (hn : h.Ns C m') (hC₀ : h₀.get? C = none) (hCL : C ≠ env.locals) (hCD : C ≠ D) (offC : ∀ p ∈ news', p.1 ≠ C)
    (fin : ∀ h tk, Fr h₀ env.locals h (fun z => if z = y then some (.ref D) else m z) → News h₀ env.locals h ((D, lst ys) :: news') → Q .next { s₁ with heap := h, toks := tk }) :
    wpAny (model prog w) A (assign (.Name y py) env (.ref D)) (fun _ s'' => ∃ m, s''.heap.Ns C m ∧ ∀ h', Heap.SameBut C s''.heap h' → Q .next { s'' with heap := h' }) E { s₁ with heap := h, toks := tk } := by
  refine wpAny_assign_Name (wpAny_storeName_local hy F'.ns (fun h₂ hn₂ hs₂ => ?_) hp)
  have hL₀ : h₀.get? env.locals = none := Heap.get?_none_of_le F'.above
  have F₂ : Fr h₀ env.locals h₂ (fun z => if z = y then some (.ref D) else m z) := ⟨hn₂, fun b o e => hs₂.extBut b o (fun q => by rw [q, hL₀] at e; cases e) (F'.keep b o e), F'.above⟩
  refine ⟨m', hn.sameBut hs₂ hCL, fun h'' hs'' => fin h'' _ (F₂.change hs'' hCL hC₀) (fun p hp => ?_)⟩
  have z : h₂.get? p.1 = some p.2 := hs₂.extBut _ _ (N' p hp).2.1 (N' p hp).1
  refine ⟨hs''.extBut _ _ ?_ z, (N' p hp).2⟩
  rcases List.mem_cons.mp hp with rfl | hp
  · exact Ne.symm hCD
  · exact offC p hp
inductive Go_asg_list (prog : Program) (w : World) (A : Around) (env : Env) (elt : Expr) (x : Str) (y : Str) (scope : Scope) (cl : List (Str × Addr)) (Q : Flow → Shared → Prop) (xv : Value) (s₁ : Shared) : Prop
  | mk : ∀ (h₀ m ax its news Fin : _), (xv = .ref ax) → (A.handled = none) → (Fr h₀ env.locals s₁.heap m) → (News h₀ env.locals s₁.heap news) → (SrcAt h₀ ax its news) → (its.size ≤ sizeLine) → ((∀ g, CompRest prog w A h₀ env.locals m env elt x scope cl { s₁ with heap := g } (SrcAt h₀ ax its) (fun i v => its[i]? = some v) Fin its.size 0 [] news)) → ((∀ ys news' D h tk, Fin ys news' → Fr h₀ env.locals h (fun z => if z = y then some (.ref D) else m z) → News h₀ env.locals h ((D, lst ys) :: news') → Off1 D news' → Q .next { s₁ with heap := h, toks := tk })) → Go_asg_list prog w A env elt x y scope cl Q xv s₁
theorem asg_list {elt iter : Expr} {x : Str} {px : Pos} {scope : Scope} {cl : List (Str × Addr)} {pos : Pos} {y : Str} {py spos : Pos} {Q : Flow → Shared → Prop}
    (hsw : swapsWith (.ListComp elt [⟨.Name x px, iter, [], 0⟩] scope pos) (some (.Name y py)) spos.line env = pure true) (hy : env.kindOf y = some .local) (hp : (env.scope.kind == .class || (env.scope.kind == .module && env.locals != env.globals)) = false)
    (hclos : closureFor scope env = pure cl) (hcell : ∀ y ∈ scope.names, y.2 ≠ .cell) (hkind : scope.kind = .function)
    (hnames : ∀ y ∈ scope.names, y.2 = .local → scope.names.lookup y.1 = some .local) (hx : scope.names.lookup x = some .local)
    (h : wpAny (model prog w) A (eval iter env) (fun xv s₁ => Stop (Go_asg_list prog w A env elt x y scope cl Q xv s₁)) E s)
    (hs : ∀ x, foldedSetIterable iter env x = pure x := by intro _; rfl) :
    wpAny (model prog w) A (exec (.Assign [.Name y py] (.ListComp elt [⟨.Name x px, iter, [], 0⟩] scope pos) spos) env) Q E s := by
  rw [exec_Assign_Name_used _ _ _ _ hsw]
  refine wpAny_bind (wpAny_standAt (wpAny_bind ?_))
  show wpAny _ A (do let _ ← comprehension (.ListComp elt [⟨.Name x px, iter, [], 0⟩] scope pos) scope env _ (newList []) false (eval iter env) (some (assign (.Name y py) env))) _ _ s
  refine wpAny_bind (wpAny_mono (wpAny_comprehension_free (use := some (assign (.Name y py) env)) (Q := fun _ s' => Q .next s') rfl hs hclos hkind hnames
    (wpAny_mono h (fun xv s₁ h₁ => ?_) fun _ _ e => e)) (fun _ s' hq => wpAny_pure (wpAny_pure hq)) fun _ _ e => e)
  obtain ⟨h₀, m, ax, its, news, Fin, rfl, hh, F, N, S, hsz, R, hQ⟩ := h₁.of
  have hl := S.list F.keep N
  have hlt : ax < s₁.heap.objs.size := let ⟨_, e, _⟩ := hl; Heap.lt_size e
  refine wpAny_pyIter_list hl ?_
  have up : ∀ b o, s₁.heap.get? b = some o → (s₁.heap.push { cls := .type "list_iterator", data := .fields #[.ref ax, .int 0 0] }).get? b = some o := fun b o e => Heap.get?_push_of_some _ e
  refine block_U (Walks.list hh s₁.heap.objs.size ax (Nat.ne_of_lt hlt) its) hsz (fun i h st => let ⟨o, e, _⟩ := st.1; ⟨o, e⟩) list_st hcell hkind hx ⟨⟨_, Heap.get?_push_size _ rfl, rfl, rfl⟩, hl.push _⟩ (fun b hb => ?_)
    (F.keeps up) (N.grown up) (Nat.ne_of_lt F.ns.lt) (next_is_new F) (fun p hp => Nat.ne_of_lt (Heap.lt_size (N p hp).1)) S (R _) ?_
  · show b < (s₁.heap.push _).objs.size
    rw [Heap.size_push]
    rcases List.mem_cons.mp hb with rfl | hb
    · exact Nat.lt_succ_self _
    · rw [List.mem_singleton.mp hb]; exact Nat.lt_succ_of_lt hlt
  · intro D C h tk m' ys news' F' N' o1 hn hC₀ hD₀ hCL hDL hCD offC fin
    exact asg_end hy hp F' N' hn hC₀ hCL hCD offC fun h tk F N => hQ ys news' D h tk fin F N o1
inductive Go_asg_listT (prog : Program) (w : World) (A : Around) (env : Env) (ct : Expr) (elt : Expr) (x : Str) (y : Str) (scope : Scope) (cl : List (Str × Addr)) (Q : Flow → Shared → Prop) (xv : Value) (s₁ : Shared) : Prop
  | mk : ∀ (h₀ m ax its news Fin : _), (xv = .ref ax) → (A.handled = none) → (Fr h₀ env.locals s₁.heap m) → (News h₀ env.locals s₁.heap news) → (SrcAt h₀ ax its news) → (its.size ≤ sizeLine) → ((∀ g, CompRestT prog w A h₀ env.locals m env ct elt x scope cl { s₁ with heap := g } (SrcAt h₀ ax its) (fun i v => its[i]? = some v) Fin its.size 0 [] news)) → ((∀ ys news' D h tk, Fin ys news' → Fr h₀ env.locals h (fun z => if z = y then some (.ref D) else m z) → News h₀ env.locals h ((D, lst ys) :: news') → Off1 D news' → Q .next { s₁ with heap := h, toks := tk })) → Go_asg_listT prog w A env ct elt x y scope cl Q xv s₁
theorem asg_listT {ct elt iter : Expr} {x : Str} {px : Pos} {scope : Scope} {cl : List (Str × Addr)} {pos : Pos} {y : Str} {py spos : Pos} {Q : Flow → Shared → Prop}
    (hsw : swapsWith (.ListComp elt [⟨.Name x px, iter, [ct], 0⟩] scope pos) (some (.Name y py)) spos.line env = pure true) (hy : env.kindOf y = some .local) (hp : (env.scope.kind == .class || (env.scope.kind == .module && env.locals != env.globals)) = false)
    (hclos : closureFor scope env = pure cl) (hcell : ∀ y ∈ scope.names, y.2 ≠ .cell) (hkind : scope.kind = .function)
    (hnames : ∀ y ∈ scope.names, y.2 = .local → scope.names.lookup y.1 = some .local) (hx : scope.names.lookup x = some .local)
    (h : wpAny (model prog w) A (eval iter env) (fun xv s₁ => Stop (Go_asg_listT prog w A env ct elt x y scope cl Q xv s₁)) E s)
    (hs : ∀ x, foldedSetIterable iter env x = pure x := by intro _; rfl) :
    wpAny (model prog w) A (exec (.Assign [.Name y py] (.ListComp elt [⟨.Name x px, iter, [ct], 0⟩] scope pos) spos) env) Q E s := by
  rw [exec_Assign_Name_used _ _ _ _ hsw]
  refine wpAny_bind (wpAny_standAt (wpAny_bind ?_))
  show wpAny _ A (do let _ ← comprehension (.ListComp elt [⟨.Name x px, iter, [ct], 0⟩] scope pos) scope env _ (newList []) false (eval iter env) (some (assign (.Name y py) env))) _ _ s
  refine wpAny_bind (wpAny_mono (wpAny_comprehension_free (use := some (assign (.Name y py) env)) (Q := fun _ s' => Q .next s') rfl hs hclos hkind hnames
    (wpAny_mono h (fun xv s₁ h₁ => ?_) fun _ _ e => e)) (fun _ s' hq => wpAny_pure (wpAny_pure hq)) fun _ _ e => e)
  obtain ⟨h₀, m, ax, its, news, Fin, rfl, hh, F, N, S, hsz, R, hQ⟩ := h₁.of
  have hl := S.list F.keep N
  have hlt : ax < s₁.heap.objs.size := let ⟨_, e, _⟩ := hl; Heap.lt_size e
  refine wpAny_pyIter_list hl ?_
  have up : ∀ b o, s₁.heap.get? b = some o → (s₁.heap.push { cls := .type "list_iterator", data := .fields #[.ref ax, .int 0 0] }).get? b = some o := fun b o e => Heap.get?_push_of_some _ e
  refine block_T (Walks.list hh s₁.heap.objs.size ax (Nat.ne_of_lt hlt) its) hsz (fun i h st => let ⟨o, e, _⟩ := st.1; ⟨o, e⟩) list_st hcell hkind hx ⟨⟨_, Heap.get?_push_size _ rfl, rfl, rfl⟩, hl.push _⟩ (fun b hb => ?_)
    (F.keeps up) (N.grown up) (Nat.ne_of_lt F.ns.lt) (next_is_new F) (fun p hp => Nat.ne_of_lt (Heap.lt_size (N p hp).1)) S (R _) ?_
  · show b < (s₁.heap.push _).objs.size
    rw [Heap.size_push]
    rcases List.mem_cons.mp hb with rfl | hb
    · exact Nat.lt_succ_self _
    · rw [List.mem_singleton.mp hb]; exact Nat.lt_succ_of_lt hlt
  · intro D C h tk m' ys news' F' N' o1 hn hC₀ hD₀ hCL hDL hCD offC fin
    exact asg_end hy hp F' N' hn hC₀ hCL hCD offC fun h tk F N => hQ ys news' D h tk fin F N o1
inductive Go_asg_keysT (prog : Program) (w : World) (A : Around) (env : Env) (K : Type) [DecidableEq K] (knd : KeyKind prog w K) (ct : Expr) (elt : Expr) (x : Str) (y : Str) (scope : Scope) (cl : List (Str × Addr)) (Q : Flow → Shared → Prop) (xv : Value) (s₁ : Shared) : Prop
  | mk : ∀ (h₀ m d od : _), ∀ (kvs : List (K × Value)), ∀ (news Fin : _), (xv = .ref d) → (A.handled = none) → (Fr h₀ env.locals s₁.heap m) → (News h₀ env.locals s₁.heap news) → ((d, od) ∈ news) → (od.IsDictOf knd kvs) → ((d == sysModules) = false) → (kvs.length ≤ sizeLine) → ((∀ g, CompRestT prog w A h₀ env.locals m env ct elt x scope cl { s₁ with heap := g } (fun nw => (d, od) ∈ nw) (fun i v => ∃ k y, kvs[i]? = some (k, y) ∧ knd.is k v = true) Fin kvs.length 0 [] news)) → ((∀ ys news' D h tk, Fin ys news' → Fr h₀ env.locals h (fun z => if z = y then some (.ref D) else m z) → News h₀ env.locals h ((D, lst ys) :: news') → Off1 D news' → Q .next { s₁ with heap := h, toks := tk })) → Go_asg_keysT prog w A env K knd ct elt x y scope cl Q xv s₁
theorem asg_keysT {K : Type} [DecidableEq K] {knd : KeyKind prog w K} {ct elt iter : Expr} {x : Str} {px : Pos} {scope : Scope} {cl : List (Str × Addr)} {pos : Pos} {y : Str} {py spos : Pos} {Q : Flow → Shared → Prop}
    (hsw : swapsWith (.ListComp elt [⟨.Name x px, iter, [ct], 0⟩] scope pos) (some (.Name y py)) spos.line env = pure true) (hy : env.kindOf y = some .local) (hp : (env.scope.kind == .class || (env.scope.kind == .module && env.locals != env.globals)) = false)
    (hclos : closureFor scope env = pure cl) (hcell : ∀ y ∈ scope.names, y.2 ≠ .cell) (hkind : scope.kind = .function)
    (hnames : ∀ y ∈ scope.names, y.2 = .local → scope.names.lookup y.1 = some .local) (hx : scope.names.lookup x = some .local)
    (h : wpAny (model prog w) A (eval iter env) (fun xv s₁ => Stop (Go_asg_keysT prog w A env K knd ct elt x y scope cl Q xv s₁)) E s)
    (hs : ∀ x, foldedSetIterable iter env x = pure x := by intro _; rfl) :
    wpAny (model prog w) A (exec (.Assign [.Name y py] (.ListComp elt [⟨.Name x px, iter, [ct], 0⟩] scope pos) spos) env) Q E s := by
  rw [exec_Assign_Name_used _ _ _ _ hsw]
  refine wpAny_bind (wpAny_standAt (wpAny_bind ?_))
  show wpAny _ A (do let _ ← comprehension (.ListComp elt [⟨.Name x px, iter, [ct], 0⟩] scope pos) scope env _ (newList []) false (eval iter env) (some (assign (.Name y py) env))) _ _ s
  refine wpAny_bind (wpAny_mono (wpAny_comprehension_free (use := some (assign (.Name y py) env)) (Q := fun _ s' => Q .next s') rfl hs hclos hkind hnames
    (wpAny_mono h (fun xv s₁ h₁ => ?_) fun _ _ e => e)) (fun _ s' hq => wpAny_pure (wpAny_pure hq)) fun _ _ e => e)
  obtain ⟨h₀, m, d, od, kvs, news, Fin, rfl, hh, F, N, hm, hd, lo, hsz, R, hQ⟩ := h₁.of
  obtain ⟨ep, hat⟩ := (PySem.W.kda_dict N hm hd).dictAt
  have hlt := hat.lt_size
  have hne : d ≠ s₁.heap.objs.size := Nat.ne_of_lt hlt
  refine wpAny_pyIter_dict lo hat ?_
  refine block_T (Walks.dictKeys (knd := knd) hh s₁.heap.objs.size d hne kvs ep) hsz (fun i h st => let ⟨o, e, _⟩ := st.1; ⟨o, e⟩) (fun i h h' o nw st e e' k N' S => ?_) hcell hkind hx ⟨⟨_, Heap.get?_push_size _ rfl, rfl, rfl⟩, hat.push _⟩ (fun b hb => ?_)
    (F.keeps fun _ _ e => Heap.get?_push_of_some _ e) (N.grown fun _ _ e => Heap.get?_push_of_some _ e) (Nat.ne_of_lt F.ns.lt) (next_is_new F) (fun p hp => Nat.ne_of_lt (Heap.lt_size (N p hp).1)) hm (R _) ?_
  · refine ⟨by obtain ⟨o', q, r⟩ := st.1; rw [e] at q; cases q; exact ⟨o, e', r⟩, ?_⟩
    obtain ⟨o1, es, q, r⟩ := st.2
    obtain ⟨o2, es2, q2, r2⟩ := hat
    have z1 := (N' _ S).1
    obtain ⟨es3, ep3, r3⟩ := hd
    rw [(N _ hm).1] at q2
    cases q2
    exact ⟨od, es2, z1, r2⟩
  · show b < (s₁.heap.push _).objs.size
    rw [Heap.size_push]
    rcases List.mem_cons.mp hb with rfl | hb
    · exact Nat.lt_succ_self _
    · rw [List.mem_singleton.mp hb]; exact Nat.lt_succ_of_lt hlt
  · intro D C h tk m' ys news' F' N' o1 hn hC₀ hD₀ hCL hDL hCD offC fin
    exact asg_end hy hp F' N' hn hC₀ hCL hCD offC fun h tk F N => hQ ys news' D h tk fin F N o1
end
end PartAsgC
section PartLoopsX
set_option maxRecDepth 100000
theorem off_LoopsX : True := by
  w_top off
  trivial
local macro_rules | `(tactic| k_mem) => `(tactic| first | exact List.mem_cons_self | (refine' List.mem_cons_of_mem _ ?_; k_mem) | ktr_member)
local macro_rules | `(tactic| k_all) => `(tactic| (with_reducible assumption))
local macro_rules | `(tactic| walk_at $k:str) => if ["eval BinOp", "eval Call", "eval Subscript", "eval Compare", "isTrue Compare", "eval Tuple", "eval List"].contains k.getString then `(tactic| (k_here; k_fold)) else Lean.Macro.throwUnsupported

section
open PySem.W
variable {prog : Program} {w : World} {A : Around} {E : Value → Shared → Prop} {s : Shared} {env : Env} {target : Expr} {body : List Stmt} {Q : Flow → Shared → Prop}
/-- a for whose iterable's reckoning may swap the base -/
theorem For_turnsX {iter : Expr} {pos : Pos}
    (h : wpAny (model prog w) A (eval iter env) (fun xv s₁ => wpAny (model prog w) A (pyIter xv) (fun it s₂ => ∃ h₀, TurnsAt prog w A h₀ env target body Q E it s₂) E s₁) E s)
    (hs : ∀ x, foldedSetIterable iter env x = pure x := by intro _; rfl)
    (hE : PassesOwn (model prog w) A env E := by passes_own) :
    wpAny (model prog w) A (exec (.For target iter body [] pos) env) Q E s := by
  refine wpAny_For (wpAny_mono h (fun xv s₁ h₁ => wpAny_mono h₁ (fun it s₂ h₂ => ?_) fun _ _ e => e) fun _ _ e => e) hs
  obtain ⟨h₀, I, fp, wr, n, P, Md, St, m, news, J, rfl, W, hLf, hwr, hnw, hst, F, N, h0, step, hQ⟩ := h₂
  exact ktu_loop (R := fun r s' => match r with | .ok f => Q f s' | .error e => cameBackBy (model prog w) A env E e s') W hLf hwr hnw hst F N J h0
    (fun i v m₁ news₁ h₁ tk₁ own a b c d e f g st F₁ N₁ => wpAny_mono (step i v m₁ news₁ h₁ tk₁ own a b c d e f g st F₁ N₁) (fun _ _ x => wpAny_passesOwn hE x) hE) hQ
inductive Go_for_listX (prog : Program) (w : World) (A : Around) (E : Value → Shared → Prop) (env : Env) (target : Expr) (body : List Stmt) (Q : Flow → Shared → Prop) (xv : Value) (s₁ : Shared) : Prop
  | mk : ∀ (h₀ ax lo vs n m news : _), ∀ (J : Nat → (Str → Option Value) → List (Addr × Obj) → Prop), (xv = .ref ax) → (A.handled = none) → (Fr h₀ env.locals s₁.heap m) → (News h₀ env.locals s₁.heap news) → ((ax, lo) ∈ news) → (lo.cls = .type "list") → (lo.data = .seq (List.toArray vs) n) → (J 0 m news) → ((∀ i v m news I h tk o, vs[i]? = some v → J i m news → Fr h₀ env.locals h m → o.cls = .type "list_iterator" → (∀ p ∈ news, p.1 ≠ I) → News h₀ env.locals h ((I, o) :: news) →
        wpAny (model prog w) A (assign target env v) (fun _ s₂ => wpAny (model prog w) A (execs body env)
          (UnrPostW h₀ env.locals { s₁ with heap := h, toks := tk } [(I, o)] (fun m' n' => SubL [(ax, lo)] n' ∧ J (i + 1) m' n') Q) E s₂) E { s₁ with heap := h, toks := tk })) → ((∀ m news h tk, J vs.length m news → Fr h₀ env.locals h m → News h₀ env.locals h news → Q .next { s₁ with heap := h, toks := tk })) → Go_for_listX prog w A E env target body Q xv s₁
/-- behind a loop's head: a list of the ledger -/
theorem for_listX {iter : Expr} {pos : Pos}
    (h : wpAny (model prog w) A (eval iter env) (fun xv s₁ => Stop (Go_for_listX prog w A E env target body Q xv s₁)) E s)
    (hs : ∀ x, foldedSetIterable iter env x = pure x := by intro _; rfl)
    (hE : PassesOwn (model prog w) A env E := by passes_own) :
    wpAny (model prog w) A (exec (.For target iter body [] pos) env) Q E s := by
  refine For_turnsX (wpAny_mono h (fun xv s₁ h₁ => ?_) fun _ _ e => e) hs hE
  obtain ⟨h₀, ax, lo, vs, n, m, news, J, rfl, hh, F, N, hm, hc, hd, j, turn, fin⟩ := h₁.of
  refine wpAny_mono (iter_listTurns (Q := Q) (body := body) (target := target) hh F N hm hc hd fun I l => ?_) (fun it s₂ x => ⟨h₀, x⟩) fun _ _ e => e
  have := turns_of (xs := vs.map Itm.val) (I := I) (c := "list_iterator") (keep := [(ax, lo)]) J (fun i a m news v h tk o ha j hv => by
    rw [List.getElem?_map] at ha
    cases q : vs[i]? with
    | none => rw [q] at ha; cases ha
    | some u =>
      rw [q] at ha
      cases ha
      have hv' : v = u := hv
      subst hv'
      exact turn i v m news I h tk o q j) (fun m news h tk j => fin m news h tk (by simpa using j)) _ 0 m news (Nat.zero_add _) j (fun p hp => Nat.ne_of_lt (l p hp))
  simpa using this
end
end PartLoopsX
section PartCBook
set_option maxRecDepth 100000
local macro_rules | `(tactic| walk_at "no such key") => `(tactic| skip)
local macro_rules | `(tactic| walk_at "no such key") => `(tactic| skip)
local macro_rules | `(tactic| walk_at "no such key") => `(tactic| skip)
local macro_rules | `(tactic| walk_at "no such key") => `(tactic| skip)
theorem off_CBook : True := by
  w_top off
  trivial
local macro_rules | `(tactic| k_mem) => `(tactic| first | exact List.mem_cons_self | (refine' List.mem_cons_of_mem _ ?_; k_mem) | ktr_member)
local macro_rules | `(tactic| k_all) => `(tactic| (with_reducible assumption))
local macro_rules | `(tactic| walk_at $k:str) => if ["eval BinOp", "eval Call", "eval Subscript", "eval Compare", "isTrue Compare", "eval Tuple", "eval List"].contains k.getString then `(tactic| (k_here; k_fold)) else Lean.Macro.throwUnsupported

open PySem.W
noncomputable def TabIn (w : World) (all : List (Addr × Obj)) (v : Value) (tab : Tab) : Prop := ∃ a o, v = .ref a ∧ (a == sysModules) = false ∧ (a, o) ∈ all ∧ IntDict w o tab
theorem TabIn.mono {w : World} {all all' : List (Addr × Obj)} {v : Value} {tab : Tab} (h : TabIn w all v tab) (k : ∀ p ∈ all, p ∈ all') : TabIn w all' v tab :=
  let ⟨a, o, e, l, m, d⟩ := h
  ⟨a, o, e, l, k _ m, d⟩
/-- a table that was not there before -/
noncomputable def TabF (w : World) (nf all : List (Addr × Obj)) (v : Value) (tab : Tab) : Prop := ∃ a o, v = .ref a ∧ (a == sysModules) = false ∧ (a, o) ∈ all ∧ IntDict w o tab ∧ ∀ p ∈ nf, p.1 ≠ a
theorem TabF.mono {w : World} {nf all all' : List (Addr × Obj)} {v : Value} {tab : Tab} (h : TabF w nf all v tab) (k : ∀ p ∈ all, p ∈ all') : TabF w nf all' v tab :=
  let ⟨a, o, e, l, m, d, f⟩ := h
  ⟨a, o, e, l, k _ m, d, f⟩
noncomputable def BookIn (w : World) (nf all : List (Addr × Obj)) (r : Value) (d : List (Str × Tab)) : Prop := ∃ a o kvs, r = .ref a ∧ (a == sysModules) = false ∧ (a, o) ∈ all ∧ (∀ p ∈ nf, p.1 ≠ a) ∧ o.IsDictOf (PySem.strKind LP w) kvs ∧ DR (TabF w nf all) kvs d
structure BkAt (w : World) (sg : Nat → Nat) (L1 : Addr) (nf news : List (Addr × Obj)) (s : Bk) (m : Str → Option Value) (aW : Addr) (vW : List Value) (dB : Addr) (oB : Obj) (kvB : List (Str × Value)) (dT : Addr) (oT : Obj) (kvT : List (Str × Value)) (oc : Obj) (rest : List (Addr × Obj)) : Prop where
  kn : Kn m [(Str.ofString "waiting", .ref aW), (Str.ofString "book", .ref dB), (Str.ofString "trees", .ref dT)]
  wt : StrsAre vW (s.wt.map (named sg))
  bk : oB.IsDictOf (PySem.strKind LP w) kvB
  bd : DR (TabF w nf rest) kvB (mapK (named sg) s.bk)
  bl : (dB == sysModules) = false
  tk : oT.IsDictOf (PySem.strKind LP w) kvT
  td : DR (TreeIn sg rest) kvT (s.bk.map fun p => (named sg p.1, p.1))
  tl : (dT == sysModules) = false
  oc : ∃ x, oc.data = .cell x
  nWB : @Ne Nat aW dB
  nWT : @Ne Nat aW dT
  nWC : @Ne Nat aW (L1 + 1)
  nBT : @Ne Nat dB dT
  nBC : @Ne Nat dB (L1 + 1)
  nTC : @Ne Nat dT (L1 + 1)
  offW : ∀ p ∈ rest, p.1 ≠ aW
  offB : ∀ p ∈ rest, p.1 ≠ dB
  offT : ∀ p ∈ rest, p.1 ≠ dT
  offC : ∀ p ∈ rest, p.1 ≠ L1 + 1
  sub : ∀ p ∈ news, p ∈ rest
local macro_rules | `(tactic| walk_at $k:str) => if k.getString.startsWith "subscriptTail" || k.getString.startsWith "call ref" || ["exec While", "exec While Compare", "setItem ref str", "setItem ref int"].contains k.getString then `(tactic| (k_here; refine stop_here ?_)) else Lean.Macro.throwUnsupported
local macro_rules | `(tactic| walk_at "eval Dict") => `(tactic| (k_here; (with_reducible show wpAny _ _ (eval (Expr.Dict [some (Expr.Name _ _)] _ _) _) _ _ _); refine stop_here ?_))
theorem news_book {h₀ h : Heap} {L : Addr} {a b c d e : Addr × Obj} {l : List (Addr × Obj)} (N : News h₀ L h (a :: b :: e :: c :: d :: l)) : News h₀ L h (a :: b :: c :: d :: e :: l) := fun p hp => N p (by
  simp only [List.mem_cons] at hp ⊢
  rcases hp with h | h | h | h | h | h <;> simp [h])
local macro_rules | `(tactic| walk_at "compareOp NotEq ref ref") => `(tactic| (k_here; refine stop_here ?_))
theorem strs_pair : ∀ {vs : List Value} {ss : List Str}, StrsAre vs ss → StrVs vs ss
  | _, _, .nil => .nil
  | _, _, .cons _ t h => .cons ⟨t, rfl⟩ (strs_pair h)
local macro_rules | `(tactic| walk_at "exec For Name Subscript cons nil") => `(tactic| (k_here; (rename Fr _ _ _ _ => lF'); (with_unfolding_all refine' for_keys (knd := PySem.intKind _ _) (enc := PyData.int) (fun _ _ h => Value.isInt_shape h) lF' ?_); k_whole))
local macro_rules | `(tactic| walk_at "exec For Name Call cons nil") => `(tactic| (k_here; (with_unfolding_all refine' for_listX ?_); k_whole))
theorem allLt_mem {d : Addr} : ∀ {l : List (Addr × Obj)}, AllLt d l → ∀ p ∈ l, @LT.lt Nat _ p.1 d
  | [], _, _, h => nomatch h
  | _ :: _, h, p, hp => by
    rcases List.mem_cons.mp hp with rfl | hp
    · exact h.1
    · exact allLt_mem h.2 p hp
theorem valueAt_nodup {K : Type} [DecidableEq K] : ∀ {kvs : List (K × Value)} {i : Nat} {k : K} {x : Value}, (kvs.map (·.1)).Nodup → kvs[i]? = some (k, x) → valueAt kvs k = some x
  | [], _, _, _, _, h => by simp at h
  | p :: r, 0, k, x, nd, hx => by
    simp only [List.getElem?_cons_zero, Option.some.injEq] at hx
    subst hx
    unfold valueAt
    simp
  | p :: r, i + 1, k, x, nd, hx => by
    rw [List.map_cons, List.nodup_cons] at nd
    simp only [List.getElem?_cons_succ] at hx
    have hm : k ∈ r.map (·.1) := List.mem_map.mpr ⟨_, List.mem_of_getElem? hx, rfl⟩
    have hne : ¬ p.1 = k := fun e => nd.1 (e ▸ hm)
    have ih := valueAt_nodup nd.2 hx
    unfold valueAt at ih ⊢
    rw [List.find?_cons]
    simp only [hne, decide_false]
    exact ih
theorem valueAt_of_get {K : Type} [DecidableEq K] {prog : Program} {w : World} {knd : KeyKind prog w K} {o : Obj} {kvs : List (K × Value)} (h : o.IsDictOf knd kvs) {i : Nat} {k : K} {x : Value} (hx : kvs[i]? = some (k, x)) : valueAt kvs k = some x :=
  let ⟨_, _, _, _, _, _, nd⟩ := h
  valueAt_nodup nd hx
theorem getG_self {sg : Nat → Nat} {bt : Tree} : ∀ {d : List (Tree × Tab)} {tab : Tab}, (∀ p ∈ d, named sg p.1 = named sg bt → p.1 = bt) → getG d bt = some tab → getG (d.map fun p => (named sg p.1, p.1)) (named sg bt) = some bt
  | [], _, _, h => by cases h
  | (a, b) :: d, tab, hi, h => by
    unfold getG at h ⊢
    rw [List.map_cons, List.find?_cons]
    rw [List.find?_cons] at h
    by_cases e : a = bt
    · subst e; simp
    · have e' : ¬ named sg a = named sg bt := fun q => e (hi (a, b) (.head _) q)
      simp only [e, e', decide_false] at h ⊢
      exact getG_self (fun p hp => hi p (.tail _ hp)) h
theorem off1_mem {D : Addr} : ∀ {l : List (Addr × Obj)}, LCg.Off1 D l → ∀ p ∈ l, p.1 ≠ D
  | [], _, _, h => nomatch h
  | _ :: _, x, p, h => by
    rcases List.mem_cons.mp h with rfl | h
    · exact x.1
    · exact off1_mem x.2 p h
theorem fur_len (l : Tab) : ∀ a : Tab, (l.foldl (fun a p => putG a (p.1 + 1) p.2) a).length ≤ a.length + l.length := by
  induction l with
  | nil => intro a; exact Nat.le_refl _
  | cons p r ih => intro a; have h1 := ih (putG a (p.1 + 1) p.2); have h2 := putG_len a (p.1 + 1) p.2; simp only [List.foldl_cons, List.length_cons] at *; omega
noncomputable def isFork : Tree → Bool
  | .leaf _ => false
  | .fork _ _ => true
theorem all14_fork : ∀ t ∈ all14, isFork t = true := by decide
theorem TreeIn.ref {sg : Nat → Nat} {news : List (Addr × Obj)} {v : Value} {t : Tree} (h : TreeIn sg news v t) (hf : isFork t = true) : ∃ a, v = .ref a := by
  cases h with
  | leaf => cases hf
  | fork => exact ⟨_, rfl⟩
theorem news_swap {h₀ h : Heap} {L : Addr} {a b : Addr × Obj} {l : List (Addr × Obj)} (N : News h₀ L h (a :: b :: l)) : News h₀ L h (b :: a :: l) := fun p hp => N p (by
  simp only [List.mem_cons] at hp ⊢
  rcases hp with h | h | h <;> simp [h])
local macro_rules | `(tactic| walk_at "exec Assign") => `(tactic| (k_here; (with_reducible show wpAny _ _ (exec (Stmt.Assign [Expr.Name _ _] (Expr.ListComp _ _ _ _) _) _) _ _ _); k_dflt (refine' asg_listT (by exact rfl) (by exact rfl) (by exact rfl) (by with_unfolding_all rfl) (by decide) (by exact rfl) (by decide) (by exact rfl) ?_ (by (intro _; exact rfl)))))
local macro_rules | `(tactic| walk_at "exec Assign cons ListComp") => `(tactic| (k_here; (with_reducible show wpAny _ _ (exec (Stmt.Assign [Expr.Name _ _] (Expr.ListComp _ _ _ _) _) _) _ _ _); k_dflt (refine' asg_listT (by exact rfl) (by exact rfl) (by exact rfl) (by with_unfolding_all rfl) (by decide) (by exact rfl) (by decide) (by exact rfl) ?_ (by (intro _; exact rfl)))))
theorem getG_putG {K β : Type} [DecidableEq K] {k : K} {b : β} : ∀ {d : List (K × β)}, getG (putG d k b) k = some b := by
  intro d
  unfold putG
  by_cases h : (d.any fun p => decide (p.1 = k)) = true
  · rw [if_pos h]
    induction d with
    | nil => cases h
    | cons p r ih =>
      unfold getG at ih ⊢
      rw [List.map_cons, List.find?_cons]
      by_cases e : p.1 = k
      · simp [e]
      · simp only [e, if_false, decide_false]
        rw [List.any_cons] at h
        simp only [e, decide_false, Bool.false_or] at h
        exact ih h
  · rw [if_neg h]
    have h' : ∀ p ∈ d, ¬ p.1 = k := fun p hp e => h (List.any_eq_true.mpr ⟨p, hp, decide_eq_true e⟩)
    unfold getG
    rw [List.find?_append, List.find?_eq_none.mpr fun p hp => by simpa using h' p hp]
    simp
noncomputable def keyed (sg : Nat → Nat) (d : List (Tree × Tab)) : List (Str × Tree) := d.map fun p => (named sg p.1, p.1)
theorem keyed_same {sg : Nat → Nat} {d : List (Tree × Tab)} {x : Tree} {b b' : Tab} (h : getG d x = some b') : keyed sg (putG d x b) = keyed sg d := by
  have ha : (d.any fun p => decide (p.1 = x)) = true := List.any_eq_true.mpr ⟨_, getG_mem h, decide_eq_true rfl⟩
  unfold keyed putG
  rw [if_pos ha, List.map_map]
  refine List.map_congr_left fun p _ => ?_
  show (named sg (if p.1 = x then (p.1, b) else p).1, (if p.1 = x then (p.1, b) else p).1) = (named sg p.1, p.1)
  by_cases e : p.1 = x
  · rw [if_pos e]
  · rw [if_neg e]
theorem keyed_new {sg : Nat → Nat} {d : List (Tree × Tab)} {x : Tree} {b : Tab} (hi : ∀ p ∈ d, named sg p.1 = named sg x → p.1 = x) (h : getG d x = none) : keyed sg (putG d x b) = putG (keyed sg d) (named sg x) x := by
  have ha : ¬ (d.any fun p => decide (p.1 = x)) = true := fun q => by
    obtain ⟨p, hp, e⟩ := List.any_eq_true.mp q
    unfold getG at h
    rw [Option.map_eq_none_iff, List.find?_eq_none] at h
    exact h p hp e
  have hb : ¬ ((keyed sg d).any fun p => decide (p.1 = named sg x)) = true := fun q => by
    obtain ⟨p, hp, e⟩ := List.any_eq_true.mp q
    obtain ⟨r, hr, rfl⟩ := List.mem_map.mp hp
    exact ha (List.any_eq_true.mpr ⟨r, hr, decide_eq_true (hi r hr (of_decide_eq_true e))⟩)
  unfold putG
  rw [if_neg ha, if_neg hb]
  unfold keyed
  rw [List.map_append]
  rfl
theorem dictClsB {K : Type} [DecidableEq K] {prog : Program} {w : World} {knd : KeyKind prog w K} {o : Obj} {kvs : List (K × Value)} (h : o.IsDictOf knd kvs) : o.cls = .type "dict" := let ⟨_, _, e, _⟩ := h; e.1
local macro_rules | `(tactic| walk_at "call builtin:list.append") => `(tactic| (k_here; refine stop_here ?_))
set_option maxHeartbeats 2000000 in
theorem book_c (w : World) {sg : Nat → Nat} (G : Good sg) {t : Tree} (ht : t ∈ all14) {news : List (Addr × Obj)} {v : Value} (hv : TreeIn sg news v t) {N : Nat} (C : Chk t N) :
    ConS w 150 [v] news 40 (fun all r => BookIn w news all r (mapK (named sg) (bookAt lt0 t N).bk)) := by
  unfold ConS
  intro p loose mean mg mb dp un gd env outer A₀ base g₀ h₀ L m s Q E B F X N0 T XB TB D T0 hf hk hd hu hret
  refine wpAny_call ?_
  k_dflt ((refine' enterSC ?k1 ?k2 ?k3 ?k4 ?k5 ?XB ?TB ?D ?T0 ?kA ?kF ?kK ?k6 ?k7 ?k8 ?k9 ?kB ?kD ?_ ?c2 ?c3 ?c4; (case kA => exact rfl); (case kF => first | exact rfl | assumption); (case kK => first | exact rfl | assumption); (case k1 => k_asm); (case k2 => k_asm); (case k3 => k_asm); (case k4 => k_asm); (case k5 => k_asm); (case XB => assumption); (case TB => assumption); (case D => assumption); (case T0 => first | assumption | exact KtsTurn.refl); (case k6 => k_is); (case k7 => k_is); (case k8 => ktr_room); (case k9 => first | exact BindsTo.of_eq rfl | exact binds_K (by assumption) rfl (by k_is) rfl rfl rfl | exact binds_K (by k_in) rfl (by k_is) rfl rfl rfl); (case kB => exact rfl); (case kD => decide +kernel); (case c2 => exact rfl); (case c3 => exact rfl); (case c4 => exact rfl); k_whole))
  k_dflt (intro g1 L1 h1 tk1 cells1 FG1 F0 NN0 Y1 B1 X1 T1 D1 lL; k_cells Y1; (try simp only [List.cons_append, List.nil_append] at NN0); (try dsimp only); (try k_fold))
  rename _ = Data.cell _ => dA
  replace dA : _ = Data.cell none := dA
  have hsz := all14_sz t ht
  try k_fold
  obtain ⟨aT, rfl⟩ := hv.ref (all14_fork t ht)
  k_steps
  refine ⟨?_⟩
  k_dflt (refine' con_use ?k1 ?k2 ?k3 ?k4 ?k5 (named_c w sg t ?kR) ?kf ?kK ?kd ?ku ?_; ((case k1 => k_asm); (case k2 => k_asm); (case k3 => k_asm); (case k4 => k_asm); (case k5 => k_asm); (case kf => first | exact rfl | assumption); (case kK => first | exact rfl | assumption); (case kd => ktr_room); (case ku => ktr_units)); (case kR => exact hv.mono fun p hp => List.mem_cons_of_mem _ hp))
  intro r2 all2 h2 tk2 F2 N2 sub2 ho2
  try k_fold
  obtain ⟨t2, e2⟩ := ho2
  subst e2
  replace N2 := cb_drop N2 sub2
  clear sub2
  k_steps
  rename Fr _ _ _ _ => F3
  rename News _ _ _ _ => N3
  refine ⟨dict_one F3 N3 (Top.nolimit (by k_asm)) rfl rfl (List.cons_ne_nil _ _) (by decide) ?_⟩
  clear F3 N3
  intro dT h3 oT F3 N3 lT loT cT hkT
  (try dsimp only)
  k_steps
  refine ⟨⟨_, _, _, _, _, _, _, rfl, rfl, F3, N3, ?_, ?_⟩⟩
  · intro p hp
    rcases List.mem_cons.mp hp with rfl | hp
    · exact Nat.ne_of_lt (lT _ (.head _))
    · exact Nat.ne_of_lt (lT _ (.tail _ hp))
  clear F3 N3 hkT
  intro h4 oT4 F4 N4 hkT
  (try dsimp only)
  k_steps
  rename Fr _ _ _ _ => F5
  rename News _ _ _ _ => N5
  refine ⟨dict_one F5 N5 (Top.nolimit (by k_asm)) rfl rfl (List.cons_ne_nil _ _) (by decide) ?_⟩
  clear F5 N5
  intro dB h6 oB F6 N6 lB loB cB hkB
  (try dsimp only)
  k_steps
  rename Fr _ _ _ _ => F7
  rename News _ _ _ _ => N7
  rename Obj.IsDictOf (PySem.intKind _ _) _ _ => hk0
  rename (_ == sysModules) = false => lo0
  rename _ < _ ∧ _ => l7
  refine ⟨⟨_, _, _, _, _, _, _, rfl, rfl, F7, news_swap N7, ?_, ?_⟩⟩
  · intro p hp
    rcases List.mem_cons.mp hp with rfl | hp
    · exact Nat.ne_of_gt l7.1
    · exact Nat.ne_of_lt (lB _ hp)
  clear F7 N7 hkB F6 N6
  intro h8 oB8 F8 N8 hkB
  (try dsimp only)
  k_steps
  rename Fr _ _ _ _ => F9
  rename News _ _ _ _ => N9
  rename _ < _ ∧ _ => l9
  have hdT : @LT.lt Nat instLTNat (L1 + 1) dT := lT _ (.head _)
  have hdB : @LT.lt Nat instLTNat dT dB := lB _ (.head _)
  have hd0 := l7.1
  refine ⟨while_of (fun n hb m nw => ∃ j aW vW nW dB oB kvB dT oT kvT oc rest, n = N - j ∧ j ≤ N ∧ nw = (aW, listO vW nW) :: (dB, oB) :: (dT, oT) :: (L1 + 1, oc) :: rest ∧ BkAt w sg L1 news news (bookAt lt0 t j) m aW vW dB oB kvB dT oT kvT oc rest ∧
      KtsTurn (frs (env :: outer)) g1 hb ∧ Below (kTop dp un gd env outer) base (env :: outer) hb ∧ (Mine.hd.heap_39 w.params).In hb ∧ Top p loose mean mg mb hb ∧ KtsDicts (frs (env :: outer)) hb)
    (fun hb m nw => ∃ dB oB kvB, Kn m [(Str.ofString "book", .ref dB)] ∧ (dB == sysModules) = false ∧ (dB, oB) ∈ nw ∧ (∀ p ∈ news, p.1 ≠ dB) ∧ oB.IsDictOf (PySem.strKind LP w) kvB ∧ DR (TabF w news nw) kvB (mapK (named sg) (bookAt lt0 t N).bk) ∧ (∀ p ∈ news, p ∈ nw) ∧
      KtsTurn (frs (env :: outer)) g1 hb ∧ Below (kTop dp un gd env outer) base (env :: outer) hb ∧ (Mine.hd.heap_39 w.params).In hb ∧ Top p loose mean mg mb hb ∧ KtsDicts (frs (env :: outer)) hb)
    N F9 (news_book N9) ⟨0, _, _, _, _, _, _, _, _, _, _, _ :: news, rfl, Nat.zero_le _, rfl, ⟨⟨rfl, rfl, rfl, trivial⟩, .cons _ _ .nil, hkB, .cons ⟨rfl, _, _, rfl, lo0, .head _, ⟨_, hk0, .cons ⟨rfl, _, rfl⟩ .nil⟩, fun p hp => Nat.ne_of_lt (Nat.lt_trans (lL p hp) (Nat.lt_trans (Nat.lt_succ_self _) (Nat.lt_trans hdT (Nat.lt_trans hdB hd0))))⟩ .nil, loB, hkT, .cons ⟨rfl, hv.mono fun p hp => .tail _ hp⟩ .nil, loT, ⟨_, dA⟩, by omega, by omega, by omega, by omega, by omega, by omega, ?o1, ?o2, ?o3, ?o4, fun p hp => .tail _ hp⟩, KtsTurn.refl, B1, X1, T1, D1⟩ ?_ ?_⟩
  case o1 =>
    intro p hp
    rcases List.mem_cons.mp hp with rfl | hp
    · k_ne
    · exact Nat.ne_of_lt (Nat.lt_trans (lL p hp) (by omega))
  case o2 =>
    intro p hp
    rcases List.mem_cons.mp hp with rfl | hp
    · k_ne
    · exact Nat.ne_of_lt (Nat.lt_trans (lL p hp) (by omega))
  case o3 =>
    intro p hp
    rcases List.mem_cons.mp hp with rfl | hp
    · k_ne
    · exact Nat.ne_of_lt (Nat.lt_trans (lL p hp) (by omega))
  case o4 =>
    intro p hp
    rcases List.mem_cons.mp hp with rfl | hp
    · k_ne
    · exact Nat.ne_of_lt (Nat.lt_trans (lL p hp) (by omega))
  · clear B1 X1 T1 D1 F9 N9 hkB hkT hk0 l9 l7 hdT hdB hd0 lT lB
    rintro n hb m2 nw2 h2' tk2' zz1 F10 N10
    try dsimp only
    try k_fold
    obtain ⟨j, aW, vW, nW, dB, oB, kvB, dT, oT, kvT, oc, rest, rfl, hj, rfl, S, KT, KB, KX, KP, KD⟩ := zz1
    replace F10 := fr_kn F10 S.kn
    dsimp only [knows] at F10
    have nWB := S.nWB
    have nWT := S.nWT
    have nWC := S.nWC
    have nBT := S.nBT
    have nBC := S.nBC
    have nTC := S.nTC
    have offW := S.offW
    have offB := S.offB
    have offT := S.offT
    have offC := S.offC
    try k_fold
    obtain ⟨xc, hxc⟩ := S.oc
    have hmW : (bookAt lt0 t j).wt.length ≤ 20 ∧ ∀ x ∈ (bookAt lt0 t j).wt, x ∈ all14 := by
      by_cases q : j < N
      · exact ⟨(C.at_ j q).1.wl, fun x hx => ((C.at_ j q).1.wait x hx).1⟩
      · have : j = N := by omega
        subst this
        exact ⟨C.last.wl, fun x hx => (C.last.wait x hx).1⟩
    (try dsimp only)
    k_steps
    rename Fr _ _ _ _ => F11
    rename News _ _ _ _ => N11
    refine ⟨ne_strsK (vs := vW) (us := []) ⟨_, (N11 _ (.tail _ (.head _))).1, rfl, _, rfl⟩ S.wt ⟨_, (N11 _ (.head _)).1, rfl, _, rfl⟩ .nil (by ktr_units) (fun x hx => ?_) (fun _ h => nomatch h) ?_⟩
    · try k_fold
      obtain ⟨y, hy, rfl⟩ := List.mem_map.mp hx
      exact G.ok y (hmW.2 y hy)
    by_cases hwe : (bookAt lt0 t j).wt = []
    · have hjN : j = N := by
        by_cases q : j < N
        · exact absurd hwe (C.at_ j q).2.1
        · omega
      subst hjN
      have hnn : (!decide ((bookAt lt0 t j).wt.map (named sg) = [])) = false := by rw [hwe]; rfl
      rw [hnn]
      k_steps
      rename Fr _ _ _ _ => F12
      rename News _ _ _ _ => N12
      exact ⟨⟨hb, _, _, _, _, rfl, F12, N12, dB, oB, kvB, ⟨rfl, trivial⟩, S.bl, .tail _ (.tail _ (.head _)), fun p hp => S.offB p (S.sub p hp), S.bk, S.bd.mono fun _ _ h => h.mono fun p hp => .tail _ (.tail _ (.tail _ (.tail _ (.tail _ hp)))), fun p hp => .tail _ (.tail _ (.tail _ (.tail _ (.tail _ (S.sub p hp))))), KT, KB, KX, KP, KD⟩⟩
    · have hjN : j < N := by
        rcases Nat.lt_or_ge j N with q | q
        · exact q
        · have : j = N := by omega
          subst this
          exact absurd C.done hwe
      have hne : (!decide ((bookAt lt0 t j).wt.map (named sg) = [])) = true := by
        rw [decide_eq_false fun e => hwe (List.map_eq_nil_iff.mp e)]; rfl
      rw [hne]
      k_steps
      rename News _ _ _ _ => N12
      have hbm := greatT_mem (lt := lt0) hwe
      try k_fold
      obtain ⟨t0, ts, hts⟩ : ∃ t0 ts, (bookAt lt0 t j).wt = t0 :: ts := by
        try k_fold
        cases e : (bookAt lt0 t j).wt with
        | nil => exact absurd e hwe
        | cons a b => exact ⟨a, b, rfl⟩
      have hwS := S.wt
      have hgr := great_best G (t0 :: ts) t0 (hmW.2 _ (by rw [hts]; exact .head _)) (fun x hx => hmW.2 x (by rw [hts]; exact hx))
      have hgT : (t0 :: ts).foldl (bestT lt0) t0 = greatT lt0 (bookAt lt0 t j).wt := by rw [hts]; rfl
      rw [hgT] at hgr
      rw [hts] at hwS
      have hts2 : ts.length ≤ 1000 := by have := hmW.1; rw [hts] at this; simp only [List.length_cons] at this; omega
      refine ⟨?_⟩
      k_dflt (refine' con_use ?k1 ?k2 ?k3 ?k4 ?k5 (great_c w (n := nW) (vs := vW) (s0 := named sg t0) (ss := ts.map (named sg)) ?kM ?kV ?kZ) ?kf ?kK ?kd ?ku ?_; ((case k1 => k_asm); (case k2 => k_asm); (case k3 => k_asm); (case k4 => k_asm); (case k5 => k_asm); (case kf => first | exact rfl | assumption); (case kK => first | exact rfl | assumption); (case kd => ktr_room); (case ku => ktr_units)); (case kM => exact List.mem_cons_of_mem _ List.mem_cons_self); (case kV => exact strs_pair hwS); (case kZ => rw [List.length_map]; exact hts2))
      intro r13 all13 h13 tk13 F13 N13 sub13 ho13
      try k_fold
      obtain ⟨t13, e13⟩ := ho13
      have hgr1 : greatS (named sg t0) (named sg t0 :: ts.map (named sg)) = named sg (greatT lt0 (bookAt lt0 t j).wt) := hgr.1
      rw [hgr1] at e13
      subst e13
      replace N13 := cb_drop N13 sub13
      replace N13 := kti_tail N13
      clear sub13
      try k_fold
      obtain ⟨bt, hbt⟩ : ∃ x, x = greatT lt0 (bookAt lt0 t j).wt := ⟨_, rfl⟩
      rw [← hbt] at hgr hbm ⊢
      k_steps
      rename Fr _ _ _ _ => F14
      rename News _ _ _ _ => N14
      rename _ = Data.cell _ => d14
      rename Obj => oc2
      have hbS : bt ∈ all14 := hmW.2 _ hbm
      refine ⟨⟨_, _, aW, vW.toArray, _, _, rfl, rfl, F14, N14, .inr ⟨_, .head _, rfl, _, rfl⟩, by rw [List.size_toArray, (strs_pair S.wt).length, List.length_map, sizeLine_eq]; omega,
        fun g => restT_of (fun i ys nw' => nw' = _ ∧ StrsAre ys ((((bookAt lt0 t j).wt.take i).filter fun x => decide (x ≠ bt)).map (named sg))) ?_ (fun _ _ j => j) _ 0 [] _ (Nat.zero_add _) ⟨rfl, .nil⟩, ?_⟩⟩
      · rintro i v ys nw' I15 oI15 C15 oC15 D15 m15 h15 tk15 E15 hi15 zz2 hP15 hC15 hx15 F15 N15 off15 ne15
        try dsimp only
        try k_fold
        obtain ⟨rfl, hs15⟩ := zz2
        try k_fold
        obtain ⟨q, hq, tq, rfl⟩ := paired_get (strs_pair S.wt) (by simpa using hP15 : vW[i]? = some v)
        rw [List.getElem?_map] at hq
        try k_fold
        obtain ⟨x, hx, rfl⟩ := Option.map_eq_some_iff.mp hq
        have hxS := hmW.2 x (List.mem_of_getElem? hx)
        (try dsimp only)
        k_steps
        · rename (_ != _) = true => hyes
          have hxb : x ≠ bt := fun e => by rw [e] at hyes; simp at hyes
          rename Fr _ _ _ _ => F16
          rename News _ _ _ _ => N16
          refine LCg.CompEnd.intro F16 N16 _ (fun _ h => h) off15 (.inr ⟨_, .head _, rfl, _, rfl⟩) ⟨rfl, ?_⟩
          rw [take_snoc hx, List.filter_append, List.map_append, List.filter_cons_of_pos (by simpa using hxb)]
          exact kct_snoc hs15
        · rename (_ != _) = false => hno
          have hxb : x = bt := G.inj x hxS bt hbS (by simpa using hno)
          rename Fr _ _ _ _ => F16
          rename News _ _ _ _ => N16
          refine LCg.CompEnd.intro F16 N16 _ (fun _ h => h) off15 (.inr ⟨_, .head _, rfl, _, rfl⟩) ⟨rfl, ?_⟩
          rw [take_snoc hx, List.filter_append, List.filter_cons_of_neg (by simpa using hxb), List.filter_nil, List.append_nil]
          exact hs15
      · rintro ys nw' D15 h15 tk15 zz3 F15 N15 o15
        try dsimp only
        try k_fold
        obtain ⟨rfl, hs15⟩ := zz3
        rw [List.size_toArray, (strs_pair S.wt).length, List.length_map, List.take_length] at hs15
        (try dsimp only)
        have inj14 : ∀ p ∈ (bookAt lt0 t j).bk, ∀ x ∈ all14, named sg p.1 = named sg x → p.1 = x := fun p hp x hx e => G.inj _ ((C.at_ j hjN).1.keys p hp).1 _ hx e
        try k_fold
        obtain ⟨tab, htab⟩ : ∃ tab, getG (bookAt lt0 t j).bk bt = some tab := Option.isSome_iff_exists.mp ((C.at_ j hjN).1.wait bt hbm).2
        have htabM : getG (mapK (named sg) (bookAt lt0 t j).bk) (named sg bt) = some tab := by rw [mapK_get fun p hp => inj14 p hp bt hbS]; exact htab
        try k_fold
        obtain ⟨vt, hvt, aTab, oTab, etab, loTab, hmTab, ⟨kvTab, hkTab, hdTab⟩, -⟩ := S.bd.get_some htabM
        subst etab
        have htabl : tab.length ≤ 20 := ((C.at_ j hjN).1.keys _ (getG_mem htab)).2
        k_steps
        rename News _ _ _ _ => N17
        refine ⟨kda_item (knd := PySem.strKind _ _) N17 (by k_mem) S.bk (strKind_is _ _ _ _) hvt ?_⟩
        k_steps
        rename Addr => dF
        rename _ < dF ∧ _ => lF
        rename (dF == sysModules) = false => loF
        rename Obj.IsDictOf (PySem.intKind _ _) _ [] => hF0
        rename Fr _ _ _ _ => F18
        rename News _ _ _ _ => N18
        have hF1 : (@Ne Nat D15 dF) := by omega
        have offF : ∀ p ∈ (D15, LCg.lst ys) :: (aW, listO vW nW) :: (dB, oB) :: (dT, oT) :: (L1 + 1, oc2) :: rest, p.1 ≠ dF := fun p hp => by
          simp only [List.mem_cons] at hp
          rcases hp with rfl | rfl | rfl | rfl | rfl | hp
          · k_ne
          · k_ne
          · k_ne
          · k_ne
          · k_ne
          · exact Nat.ne_of_lt (allLt_mem lF.2.2.2.2.2 p hp)
        refine ⟨⟨aTab, oTab, kvTab, _, _, fun i m nw => Kn m [(Str.ofString "waiting", .ref D15), (Str.ofString "book", .ref dB), (Str.ofString "trees", .ref dT), (Str.ofString "further", .ref dF)] ∧ ∃ oF, nw = (dF, oF) :: _ ∧ IntDict w oF ((tab.take i).foldl (fun a p => putG a (p.1 + 1) p.2) []),
          rfl, rfl, F18, N18, by k_mem, hkTab, loTab, ⟨⟨rfl, rfl, rfl, rfl, trivial⟩, _, rfl, _, hF0, .nil⟩, ?_, ?_⟩⟩
        · rintro i k x tki m19 nw19 I h19 tk19 o19 hx19 zz4 F19 hc off19 N19
          try dsimp only
          try k_fold
          obtain ⟨hkn, oF, rfl, kvF, hkF, hdF⟩ := zz4
          replace F19 := fr_kn F19 hkn
          dsimp only [knows] at F19
          try k_fold
          obtain ⟨q, hq, ek, tq, ex⟩ := paired_get hdTab hx19
          dsimp only at ek ex
          subst ek
          subst ex
          dsimp only [kyVal]
          have nIF : (@Ne Nat dF I) := off19 _ (.head _)
          k_steps
          rename News _ _ _ _ => N20
          refine ⟨kda_item (knd := PySem.strKind _ _) N20 (by k_mem) S.bk (strKind_is _ _ _ _) hvt ?_⟩
          k_steps
          rename News _ _ _ _ => N21
          refine ⟨kba_turn (value' := PySem.Expr.Name (Str.ofString "_") ⟨0, 0, 0, 0⟩) (fun _ => rfl) (kda_item (knd := PySem.intKind _ _) N21 (by k_mem) hkTab (intKind_is _ _ _ _) (valueAt_of_get hkTab hx19) ?_)⟩
          k_steps
          rename Fr _ _ _ _ => F22
          rename News _ _ _ _ => N22
          have hfl := fur_len (tab.take i) []
          rw [List.length_take] at hfl
          simp only [List.length_nil] at hfl
          refine ⟨kda_set (knd := PySem.intKind _ _) F22 N22 (.tail (Ne.symm nIF) (.head offF)) hkF (intKind_is _ _ _ _) (by rw [sizeLine_eq, hdF.len]; omega) ?_⟩
          clear F22 N22
          intro h23 o23 F23 N23 hd23
          (try dsimp only)
          k_steps
          rename Fr _ _ _ _ => F24
          rename News _ _ _ _ => N24
          have he24 : (tab.take (i + 1)).foldl (fun a p => putG a (p.1 + 1) p.2) [] = putG ((tab.take i).foldl (fun a p => putG a (p.1 + 1) p.2) []) (q.1 + 1) q.2 := foldl_take_succ _ _ _ hq
          refine turn_end F24 N24 _ (.head _) (fun p hp => ⟨.tail _ hp, ?_⟩) ⟨by k_mem, trivial⟩ ⟨⟨rfl, rfl, rfl, rfl, trivial⟩, o23, rfl, _, hd23, ?_⟩
          · rcases List.mem_cons.mp hp with rfl | hp
            · exact nIF
            · exact off19 p (.tail _ hp)
          · rw [he24]
            exact hdF.put ⟨_, rfl⟩
        · rintro m19 nw19 h19 tk19 zz5 F19 N19
          try dsimp only
          try k_fold
          obtain ⟨hkn, oF, rfl, hiF⟩ := zz5
          replace F19 := fr_kn F19 hkn
          dsimp only [knows] at F19
          rw [hdTab.len, List.take_length] at hiF
          have htreeM : getG ((bookAt lt0 t j).bk.map fun p => (named sg p.1, p.1)) (named sg bt) = some bt := getG_self (fun p hp e => inj14 p hp bt hbS e) htab
          try k_fold
          obtain ⟨vbt, hvbt, htbt⟩ := S.td.get_some htreeM
          have hbtsz := all14_sz bt hbS
          (try dsimp only)
          k_steps
          rename News _ _ _ _ => N25
          refine ⟨kda_item (knd := PySem.strKind _ _) N25 (by k_mem) S.tk (strKind_is _ _ _ _) hvbt ?_⟩
          k_steps
          refine ⟨?_⟩
          k_dflt (refine' conS_use ?k1 ?k2 ?k3 ?k4 ?k5 ?XB ?TB ?D ?T0 (turned_c w sg bt ?kR) ?kf ?kK ?kd ?ku ?_; (((case k1 => k_asm); (case k2 => k_asm); (case k3 => k_asm); (case k4 => k_asm); (case k5 => k_asm); (case kf => first | exact rfl | assumption); (case kK => first | exact rfl | assumption); (case kd => ktr_room); (case ku => ktr_units)); (case XB => assumption); (case TB => assumption); (case D => assumption); (case T0 => first | assumption | exact KtsTurn.refl)); (case kR => exact htbt.mono fun p hp => by simp only [List.mem_cons]; exact .inr (.inr (.inr (.inr (.inr (.inr hp)))))))
          intro r26 all26 h26 tk26 g26 F26 N26 sub26 ho26 T26 B26 X26 P26 D26
          try k_fold
          obtain ⟨a26, vs26, n26, e26, hm26, hp26⟩ := ho26
          subst e26
          try k_fold
          obtain ⟨rest0, N27, of27, in27, to27⟩ := pulls N26 [(D15, LCg.lst ys), (dB, oB), (dT, oT), (L1 + 1, oc2), (dF, oF)] (fun q hq => sub26 q (by
            simp only [List.mem_cons, List.not_mem_nil, or_false] at hq
            rcases hq with rfl | rfl | rfl | rfl | rfl <;> simp))
          simp only [List.cons_append, List.nil_append] at N27
          have hr0 : ∀ p ∈ rest, p ∈ rest0 := fun p hp => to27 p (sub26 p (by simp [hp])) (fun q hq => by
            simp only [List.mem_cons, List.not_mem_nil, or_false] at hq
            rcases hq with rfl | rfl | rfl | rfl | rfl
            · exact off1_mem o15.2.2.2.2 p hp
            · exact offB p hp
            · exact offT p hp
            · exact offC p hp
            · exact Nat.ne_of_lt (allLt_mem lF.2.2.2.2.2 p hp))
          have hD26 : (D15, LCg.lst ys) ∈ all26 := sub26 _ (by simp)
          have hB26 : (dB, oB) ∈ all26 := sub26 _ (by simp)
          have hT26 : (dT, oT) ∈ all26 := sub26 _ (by simp)
          have hC26 : (L1 + 1, oc2) ∈ all26 := sub26 _ (by simp)
          have hF26 : (dF, oF) ∈ all26 := sub26 _ (by simp)
          have fcls : oF.cls = .type "dict" := let ⟨_, x, _⟩ := hiF; dictClsB x
          have ha26 : a26 ≠ D15 → (a26, listO vs26 n26) ∈ rest0 := fun ne => to27 _ hm26 (fun q hq => by
            simp only [List.mem_cons, List.not_mem_nil, or_false] at hq
            rcases hq with rfl | rfl | rfl | rfl | rfl
            · exact ne
            · exact news_ne N26 hm26 hB26 fun e => absurd (Value.type.inj (e.trans (dictClsB S.bk))) (by decide)
            · exact news_ne N26 hm26 hT26 fun e => absurd (Value.type.inj (e.trans (dictClsB S.tk))) (by decide)
            · exact news_ne' N26 hm26 hC26 fun e => by have e' := (congrArg Obj.data e).trans d14; cases e'
            · exact news_ne N26 hm26 hF26 fun e => absurd (Value.type.inj (e.trans fcls)) (by decide))
          have htup : ∀ a v1 v2 n, (a, tupO v1 v2 n) ∈ all26 → (a, tupO v1 v2 n) ∈ rest0 := fun a v1 v2 n hm => to27 _ hm (fun q hq => by
            simp only [List.mem_cons, List.not_mem_nil, or_false] at hq
            rcases hq with rfl | rfl | rfl | rfl | rfl
            · exact news_ne N26 hm hD26 fun e => absurd (Value.type.inj e) (by decide)
            · exact news_ne N26 hm hB26 fun e => absurd (Value.type.inj (e.trans (dictClsB S.bk))) (by decide)
            · exact news_ne N26 hm hT26 fun e => absurd (Value.type.inj (e.trans (dictClsB S.tk))) (by decide)
            · exact news_ne' N26 hm hC26 fun e => by have e' := (congrArg Obj.data e).trans d14; cases e'
            · exact news_ne N26 hm hF26 fun e => absurd (Value.type.inj (e.trans fcls)) (by decide))
          have hcon : a26 = D15 → listO vs26 n26 = LCg.lst ys := fun e => by
            have e1 : h26.get? a26 = some (listO vs26 n26) := (N26 _ hm26).1
            have e2 : h26.get? D15 = some (LCg.lst ys) := (N26 _ hD26).1
            rw [e] at e1
            exact Option.some.inj (e1.symm.trans e2)
          have hls : (a26, listO vs26 n26) ∈ (D15, LCg.lst ys) :: (dB, oB) :: (dT, oT) :: (L1 + 1, oc2) :: (dF, oF) :: rest0 := by
            by_cases e : a26 = D15
            · rw [hcon e, e]; exact .head _
            · exact .tail _ (.tail _ (.tail _ (.tail _ (.tail _ (ha26 e)))))
          have hD0 : ∀ (c : Nat) (v : Value), vs26[c]? = some v → a26 ≠ D15 := fun c v hv e => by
            have e1 := congrArg Obj.data (hcon e)
            injection e1 with e1 _
            have e2 : vs26 = ys := by simpa using e1
            try k_fold
            obtain ⟨x, hx, hxin⟩ := paired_get hp26 hv
            try k_fold
            obtain ⟨ax, rfl⟩ := hxin.ref (all14_fork x (turned_closed bt hbS x (List.mem_of_getElem? hx)))
            rw [e2] at hv
            try k_fold
            obtain ⟨q, hq, tq, eq⟩ := paired_get (strs_pair hs15) hv
            try k_fold
            cases eq
          refine ⟨⟨_, a26, _, vs26, n26, _, _, fun c m nw => Kn m [(Str.ofString "further", .ref dF)] ∧ ∃ vW nW oB kvB oT kvT rest'', nw = (D15, listO vW nW) :: (dB, oB) :: (dT, oT) :: (L1 + 1, oc2) :: rest'' ∧
              BkAt w sg L1 news ((dF, oF) :: rest0) (partS lt0 (bookAt lt0 t j) c) m D15 vW dB oB kvB dT oT kvT oc2 rest'',
            rfl, rfl, F26, N27, hls, rfl, rfl, ⟨⟨rfl, trivial⟩, ys, _, oB, kvB, oT, kvT, (dF, oF) :: rest0, rfl, ?_⟩, ?_, ?_⟩⟩
          · exact ⟨⟨rfl, rfl, rfl, trivial⟩, by rw [partS_zero, ← hbt]; exact hs15, S.bk, by rw [partS_zero]; exact S.bd.mono fun _ _ h => h.mono fun p hp => .tail _ (hr0 p hp), S.bl, S.tk, by rw [partS_zero]; exact S.td.mono fun _ _ h => h.mono fun p hp => .tail _ (hr0 p hp), S.tl, ⟨_, d14⟩,
              Ne.symm (o15.2.1), Ne.symm (o15.2.2.1), Ne.symm (o15.2.2.2.1), nBT, nBC, nTC,
              fun p hp => by
                rcases List.mem_cons.mp hp with rfl | hp
                · exact Ne.symm hF1
                · exact of27 _ (.head _) p hp,
              fun p hp => by
                rcases List.mem_cons.mp hp with rfl | hp
                · exact Ne.symm (offF _ (.tail _ (.tail _ (.head _))))
                · exact of27 _ (.tail _ (.head _)) p hp,
              fun p hp => by
                rcases List.mem_cons.mp hp with rfl | hp
                · exact Ne.symm (offF _ (.tail _ (.tail _ (.tail _ (.head _)))))
                · exact of27 _ (.tail _ (.tail _ (.head _))) p hp,
              fun p hp => by
                rcases List.mem_cons.mp hp with rfl | hp
                · exact Ne.symm (offF _ (.tail _ (.tail _ (.tail _ (.tail _ (.head _))))))
                · exact of27 _ (.tail _ (.tail _ (.tail _ (.head _)))) p hp,
              fun _ h => h⟩
          · rintro c v m28 nw28 I28 h28 tk28 o28 hv28 zz6 F28 hc28 off28 N28
            try dsimp only
            try k_fold
            obtain ⟨hknF, vW', nW', oB', kvB', oT', kvT', rest'', rfl, S'⟩ := zz6
            try k_fold
            obtain ⟨x, hx, hxin⟩ := paired_get hp26 hv28
            have hxS := turned_closed bt hbS x (List.mem_of_getElem? hx)
            have hxsz := all14_sz x hxS
            have hx'' : TreeIn sg rest'' v x := (hxin.tup htup).mono fun p hp => S'.sub p (.tail _ hp)
            have hls'' := S'.sub _ (.tail _ (ha26 (hD0 c v hv28)))
            have hF'' := S'.sub _ (.head _)
            replace F28 := fr_kn (l := [(Str.ofString "waiting", .ref D15), (Str.ofString "book", .ref dB), (Str.ofString "trees", .ref dT), (Str.ofString "further", .ref dF)]) F28 ⟨S'.kn.1, S'.kn.2.1, S'.kn.2.2.1, hknF.1, trivial⟩
            dsimp only [knows] at F28
            have hcle : c < (turned (greatT lt0 (bookAt lt0 t j).wt)).length := by
              rw [← hbt]
              rcases Nat.lt_or_ge c (turned bt).length with q | q
              · exact q
              · rw [List.getElem?_eq_none q] at hx; cases hx
            have okc := ((C.at_ j hjN).2.2 c (Nat.le_of_lt hcle))
            have hps := partS_succ (lt := lt0) (s := bookAt lt0 t j) (c := c) (t := x) (by rw [← hbt]; exact hx)
            rw [← hbt, htab] at hps
            dsimp only [Option.getD] at hps
            have hiF' : IntDict w oF (furtherT tab) := hiF
            have hfl : (furtherT tab).length ≤ 20 := Nat.le_trans (fur_len tab []) (by simp only [List.length_nil]; omega)
            generalize furtherT tab = fur at hps hiF' hfl
            try k_fold
            obtain ⟨Bk1, hB1⟩ : ∃ B, B = partS lt0 (bookAt lt0 t j) c := ⟨_, rfl⟩
            rw [← hB1] at S' hps okc
            have inj28 : ∀ p ∈ Bk1.bk, named sg p.1 = named sg x → p.1 = x := fun p hp e => G.inj _ (okc.keys p hp).1 _ hxS e
            (try dsimp only)
            k_steps
            refine ⟨?_⟩
            k_dflt (refine' con_use ?k1 ?k2 ?k3 ?k4 ?k5 (named_c w sg x ?kR) ?kf ?kK ?kd ?ku ?_; ((case k1 => k_asm); (case k2 => k_asm); (case k3 => k_asm); (case k4 => k_asm); (case k5 => k_asm); (case kf => first | exact rfl | assumption); (case kK => first | exact rfl | assumption); (case kd => ktr_room); (case ku => ktr_units)); (case kR => exact hx''.mono fun p hp => by simp only [List.mem_cons]; exact .inr (.inr (.inr (.inr (.inr hp))))))
            intro r29 all29 h29 tk29 F29 N29 sub29 ho29
            try k_fold
            obtain ⟨t29, e29⟩ := ho29
            subst e29
            replace N29 := cb_drop N29 sub29
            clear sub29
            k_steps
            rename News _ _ _ _ => N30
            have nI1 : (@Ne Nat I28 D15) := Ne.symm (off28 _ (.head _))
            have nI2 : (@Ne Nat I28 dB) := Ne.symm (off28 _ (.tail _ (.head _)))
            have nI3 : (@Ne Nat I28 dT) := Ne.symm (off28 _ (.tail _ (.tail _ (.head _))))
            have nI4 : (@Ne Nat I28 (L1 + 1)) := Ne.symm (off28 _ (.tail _ (.tail _ (.tail _ (.head _)))))
            have offBB : ∀ p ∈ (dT, oT') :: (L1 + 1, oc2) :: rest'', p.1 ≠ dB := fun p hp => by
              simp only [List.mem_cons] at hp
              rcases hp with rfl | rfl | hp
              · exact Ne.symm nBT
              · exact Ne.symm nBC
              · exact S'.offB p hp
            have offTT : ∀ p ∈ (L1 + 1, oc2) :: rest'', p.1 ≠ dT := fun p hp => by
              simp only [List.mem_cons] at hp
              rcases hp with rfl | hp
              · exact Ne.symm nTC
              · exact S'.offT p hp
            have hbl := okc.bl
            have hwl := okc.wl
            have hbl' : (mapK (named sg) Bk1.bk).length = Bk1.bk.length := List.length_map ..
            try k_fold
            cases hg : getG Bk1.bk x with
            | none =>
              have hps' : partS lt0 (bookAt lt0 t j) (c + 1) = ⟨putG (putG Bk1.bk x []) x (addM [] fur), Bk1.wt ++ [x]⟩ := by rw [hps]; unfold turnS; rw [hg]
              have hgM : getG (mapK (named sg) Bk1.bk) (named sg x) = none := by rw [mapK_get inj28]; exact hg
              have hv31 := S'.bd.get_none hgM
              refine kdg_notin (knd := PySem.strKind _ _) N30 (by k_mem) S'.bk S'.bl (strKind_is _ _ _ _) false (by rw [hv31]; rfl) ?_
              k_steps
              rename Fr _ _ _ _ => F31
              rename News _ _ _ _ => N31
              refine ⟨kda_set (knd := PySem.strKind _ _) F31 N31 (.tail nI3 (.tail S'.nWT (.tail nBT (.head offTT)))) S'.tk (strKind_is _ _ _ _) (by rw [sizeLine_eq, S'.td.len, List.length_map]; omega) ?_⟩
              clear F31 N31
              intro h32 oT32 F32 N32 hkT32
              (try dsimp only)
              k_steps
              rename Addr => dE
              rename Obj => oE
              rename Obj.IsDictOf (PySem.intKind _ _) _ [] => hE0
              rename _ < dE ∧ _ => lE
              rename (dE == sysModules) = false => loE
              rename Fr _ _ _ _ => F33
              rename News _ _ _ _ => N33
              have nE4 : (@Ne Nat dE I28) := by omega
              have nE1 : (@Ne Nat dE D15) := by omega
              have nE2 : (@Ne Nat dE dB) := by omega
              have nE3 : (@Ne Nat dE dT) := by omega
              have nE5 : (@Ne Nat dE (L1 + 1)) := by omega
              refine ⟨kda_set (knd := PySem.strKind _ _) F33 N33 (.tail nE2 (.tail nI2 (.tail S'.nWB (.head fun p hp => ?_)))) S'.bk (strKind_is _ _ _ _) (by rw [sizeLine_eq, S'.bd.len]; omega) ?_⟩
              · simp only [List.mem_cons] at hp
                rcases hp with rfl | rfl | hp
                · exact Ne.symm nBT
                · exact Ne.symm nBC
                · exact S'.offB p hp
              clear F33 N33
              intro h34 oB34 F34 N34 hkB34
              (try dsimp only)
              k_steps
              rename Fr _ _ _ _ => F35
              rename News _ _ _ _ => N35
              refine ⟨append_K F35 N35 (.tail nE1 (.tail nI1 (.head fun p hp => ?_))) ?_ ?_⟩
              · simp only [List.mem_cons] at hp
                rcases hp with rfl | rfl | rfl | hp
                · exact Ne.symm S'.nWB
                · exact Ne.symm S'.nWT
                · exact Ne.symm S'.nWC
                · exact S'.offW p hp
              rotate_left
              · rw [List.size_toArray, (strs_pair S'.wt).length, List.length_map, sizeLine_eq]; omega
              clear F35 N35
              intro h36 F36 N36'
              rw [List.push_toArray] at N36'
              have hdr36 : DR (TabF w news ((dE, oE) :: rest'')) (stored kvB' (named sg x) (.ref dE)) (mapK (named sg) (putG Bk1.bk x [])) := by rw [mapK_put inj28]; exact (S'.bd.mono fun _ _ h => h.mono fun p hp => .tail _ hp).put ⟨dE, _, rfl, loE, .head _, ⟨_, hE0, .nil⟩, fun p hp => Nat.ne_of_lt (allLt_mem lE.2.2.2.2.2 p (S'.sub p (.tail _ (hr0 p (S.sub p hp)))))⟩
              have inj36 : ∀ p ∈ putG Bk1.bk x [], named sg p.1 = named sg x → p.1 = x := fun p hp e => by
                unfold putG at hp
                split at hp
                · try k_fold
                  obtain ⟨q, hq, rfl⟩ := List.mem_map.mp hp
                  by_cases z : q.1 = x
                  · rw [if_pos z]; exact z
                  · rw [if_neg z] at e ⊢; exact inj28 q hq e
                · rcases List.mem_append.mp hp with hp | hp
                  · exact inj28 p hp e
                  · rw [List.mem_singleton.mp hp]
              have hpl36 : (mapK (named sg) (putG Bk1.bk x [])).length ≤ 21 := by
                have h1 : (mapK (named sg) (putG Bk1.bk x [])).length = (putG Bk1.bk x []).length := List.length_map ..
                have h2 := putG_len Bk1.bk x []
                omega
              try k_fold
              obtain ⟨v2, hv2, a2, o2, e2, lo2, hm2, hi2, -⟩ := hdr36.get_some (k := named sg x) (b := []) (by rw [mapK_get inj36]; exact getG_putG)
              subst e2
              (try dsimp only)
              have offBB : ∀ p ∈ (dT, oT32) :: (L1 + 1, oc2) :: rest'', p.1 ≠ dB := fun p hp => by
                simp only [List.mem_cons] at hp
                rcases hp with rfl | rfl | hp
                · exact Ne.symm nBT
                · exact Ne.symm nBC
                · exact S'.offB p hp
              k_steps
              rename News _ _ _ _ => N36
              refine ⟨kda_item (knd := PySem.strKind _ _) N36 (.tail _ (.tail _ (.tail _ (.head _)))) hkB34 (strKind_is _ _ _ _) hv2 ?_⟩
              k_steps
              refine ⟨?_⟩
              k_dflt (refine' con_use ?k1 ?k2 ?k3 ?k4 ?k5 (add_c w ?kM1 lo2 hi2 ?kM2 loF hiF' ?kZ) ?kf ?kK ?kd ?ku ?_; ((case k1 => k_asm); (case k2 => k_asm); (case k3 => k_asm); (case k4 => k_asm); (case k5 => k_asm); (case kf => first | exact rfl | assumption); (case kK => first | exact rfl | assumption); (case kd => ktr_room); (case ku => ktr_units)))
              case kM1 =>
                rcases List.mem_cons.mp hm2 with h | h
                · rw [h]; exact .head _
                · exact .tail _ (.tail _ (.tail _ (.tail _ (.tail _ (.tail _ h)))))
              case kM2 => exact .tail _ (.tail _ (.tail _ (.tail _ (.tail _ (.tail _ hF'')))))
              case kZ => (try simp only [List.length_nil]); omega
              intro r37 all37 h37 tk37 F37 N37 sub37 ho37
              try k_fold
              obtain ⟨d37, o37, e37, hm37, fr37, lo37, hi37⟩ := ho37
              subst e37
              have N38 : News _ _ h37 ((d37, o37) :: (dE, oE) :: (I28, o28) :: (D15, listO (vW' ++ [.str (named sg x) t29]) (nW' + 1)) :: (dB, oB34) :: (dT, oT32) :: (L1 + 1, oc2) :: rest'') := fun p hp => by
                rcases List.mem_cons.mp hp with rfl | hp
                · exact N37 _ hm37
                · exact N37 _ (sub37 _ hp)
              have n37I : (@Ne Nat d37 I28) := Ne.symm (fr37 _ (.tail _ (.head _)))
              have n37W : (@Ne Nat d37 D15) := Ne.symm (fr37 _ (.tail _ (.tail _ (.head _))))
              have n37B : (@Ne Nat d37 dB) := Ne.symm (fr37 _ (.tail _ (.tail _ (.tail _ (.head _)))))
              have n37T : (@Ne Nat d37 dT) := Ne.symm (fr37 _ (.tail _ (.tail _ (.tail _ (.tail _ (.head _))))))
              have n37C : (@Ne Nat d37 (L1 + 1)) := Ne.symm (fr37 _ (.tail _ (.tail _ (.tail _ (.tail _ (.tail _ (.head _)))))))
              have fr37n : ∀ p ∈ news, p.1 ≠ d37 := fun p hp => fr37 _ (.tail _ (.tail _ (.tail _ (.tail _ (.tail _ (.tail _ (S'.sub p (.tail _ (hr0 p (S.sub p hp))))))))))
              clear N37 fr37 sub37
              k_steps
              rename Fr _ _ _ _ => F39
              rename News _ _ _ _ => N39
              refine ⟨kda_set (knd := PySem.strKind _ _) F39 N39 (.tail n37B (.tail nE2 (.tail nI2 (.tail S'.nWB (.head offBB))))) hkB34 (strKind_is _ _ _ _) (by rw [sizeLine_eq, hdr36.len]; omega) ?_⟩
              clear F39 N39
              intro h40 oB40 F40 N40 hkB40
              (try dsimp only)
              k_steps
              rename Fr _ _ _ _ => F41
              rename News _ _ _ _ => N41
              have hsub'' : ∀ p ∈ rest'', p ∈ (d37, o37) :: (dE, oE) :: rest'' := fun _ h => .tail _ (.tail _ h)
              refine turn_end F41 N41 ((D15, listO (vW' ++ [.str (named sg x) t29]) (nW' + 1)) :: (dB, oB40) :: (dT, oT32) :: (L1 + 1, oc2) :: (d37, o37) :: (dE, oE) :: rest'') (.tail _ (.tail _ (.head _))) (fun p hp => ?_) ⟨.tail _ (.tail _ (.tail _ (.tail _ (hsub'' _ hls'')))), trivial⟩ ⟨⟨rfl, trivial⟩, ?_⟩
              · simp only [List.mem_cons] at hp
                rcases hp with rfl | rfl | rfl | rfl | rfl | rfl | hp
                · exact ⟨.tail _ (.tail _ (.tail _ (.head _))), Ne.symm nI1⟩
                · exact ⟨.tail _ (.tail _ (.tail _ (.tail _ (.head _)))), Ne.symm nI2⟩
                · exact ⟨.tail _ (.tail _ (.tail _ (.tail _ (.tail _ (.head _))))), Ne.symm nI3⟩
                · exact ⟨.tail _ (.tail _ (.tail _ (.tail _ (.tail _ (.tail _ (.head _)))))), Ne.symm nI4⟩
                · exact ⟨.head _, n37I⟩
                · exact ⟨.tail _ (.head _), nE4⟩
                · exact ⟨.tail _ (.tail _ (.tail _ (.tail _ (.tail _ (.tail _ (.tail _ (hp))))))), off28 _ (.tail _ (.tail _ (.tail _ (.tail _ hp))))⟩
              · rw [hps']
                exact ⟨_, _, oB40, _, oT32, _, (d37, o37) :: (dE, oE) :: rest'', rfl, ⟨rfl, rfl, rfl, trivial⟩, by rw [List.map_append]; exact kct_snoc S'.wt, hkB40, by rw [mapK_put inj36]; exact (hdr36.mono fun _ _ h => h.mono fun p hp => .tail _ hp).put ⟨_, _, rfl, lo37, .head _, hi37, fr37n⟩, S'.bl, hkT32, by show DR _ _ (keyed sg _); rw [keyed_same getG_putG, keyed_new inj28 hg]; exact (S'.td.mono fun _ _ h => h.mono hsub'').put (hx''.mono hsub''), S'.tl, ⟨_, d14⟩, S'.nWB, S'.nWT, S'.nWC, nBT, nBC, nTC,
                  fun p hp => by
                    simp only [List.mem_cons] at hp
                    rcases hp with rfl | rfl | hp
                    · exact n37W
                    · exact nE1
                    · exact S'.offW p hp,
                  fun p hp => by
                    simp only [List.mem_cons] at hp
                    rcases hp with rfl | rfl | hp
                    · exact n37B
                    · exact nE2
                    · exact S'.offB p hp,
                  fun p hp => by
                    simp only [List.mem_cons] at hp
                    rcases hp with rfl | rfl | hp
                    · exact n37T
                    · exact nE3
                    · exact S'.offT p hp,
                  fun p hp => by
                    simp only [List.mem_cons] at hp
                    rcases hp with rfl | rfl | hp
                    · exact n37C
                    · exact nE5
                    · exact S'.offC p hp,
                  fun p hp => hsub'' _ (S'.sub p hp)⟩
            | some tab1 =>
              have hps' : partS lt0 (bookAt lt0 t j) (c + 1) = ⟨putG Bk1.bk x (addM tab1 fur), Bk1.wt⟩ := by rw [hps]; unfold turnS; rw [hg]
              have hgM : getG (mapK (named sg) Bk1.bk) (named sg x) = some tab1 := by rw [mapK_get inj28]; exact hg
              have htl1 : List.length tab1 ≤ 20 := (okc.keys _ (getG_mem hg)).2
              have hdr36 := S'.bd
              try k_fold
              obtain ⟨v2, hv2, a2, o2, e2, lo2, hm2, hi2, -⟩ := S'.bd.get_some hgM
              subst e2
              refine kdg_notin (knd := PySem.strKind _ _) N30 (by k_mem) S'.bk S'.bl (strKind_is _ _ _ _) true (by rw [hv2]; rfl) ?_
              k_steps
              rename News _ _ _ _ => N36
              refine ⟨kda_item (knd := PySem.strKind _ _) N36 (.tail _ (.tail _ (.head _))) S'.bk (strKind_is _ _ _ _) hv2 ?_⟩
              k_steps
              refine ⟨?_⟩
              k_dflt (refine' con_use ?k1 ?k2 ?k3 ?k4 ?k5 (add_c w ?kM1 lo2 hi2 ?kM2 loF hiF' ?kZ) ?kf ?kK ?kd ?ku ?_; ((case k1 => k_asm); (case k2 => k_asm); (case k3 => k_asm); (case k4 => k_asm); (case k5 => k_asm); (case kf => first | exact rfl | assumption); (case kK => first | exact rfl | assumption); (case kd => ktr_room); (case ku => ktr_units)))
              case kM1 => exact .tail _ (.tail _ (.tail _ (.tail _ (.tail _ hm2))))
              case kM2 => exact .tail _ (.tail _ (.tail _ (.tail _ (.tail _ hF''))))
              case kZ => (try simp only [List.length_nil]); omega
              intro r37 all37 h37 tk37 F37 N37 sub37 ho37
              try k_fold
              obtain ⟨d37, o37, e37, hm37, fr37, lo37, hi37⟩ := ho37
              subst e37
              have N38 : News _ _ h37 ((d37, o37) :: (I28, o28) :: (D15, listO vW' nW') :: (dB, oB') :: (dT, oT') :: (L1 + 1, oc2) :: rest'') := fun p hp => by
                rcases List.mem_cons.mp hp with rfl | hp
                · exact N37 _ hm37
                · exact N37 _ (sub37 _ hp)
              have n37I : (@Ne Nat d37 I28) := Ne.symm (fr37 _ (.head _))
              have n37W : (@Ne Nat d37 D15) := Ne.symm (fr37 _ (.tail _ (.head _)))
              have n37B : (@Ne Nat d37 dB) := Ne.symm (fr37 _ (.tail _ (.tail _ (.head _))))
              have n37T : (@Ne Nat d37 dT) := Ne.symm (fr37 _ (.tail _ (.tail _ (.tail _ (.head _)))))
              have n37C : (@Ne Nat d37 (L1 + 1)) := Ne.symm (fr37 _ (.tail _ (.tail _ (.tail _ (.tail _ (.head _))))))
              have fr37n : ∀ p ∈ news, p.1 ≠ d37 := fun p hp => fr37 _ (.tail _ (.tail _ (.tail _ (.tail _ (.tail _ (S'.sub p (.tail _ (hr0 p (S.sub p hp)))))))))
              clear N37 fr37 sub37
              k_steps
              rename Fr _ _ _ _ => F39
              rename News _ _ _ _ => N39
              refine ⟨kda_set (knd := PySem.strKind _ _) F39 N39 (.tail n37B (.tail nI2 (.tail S'.nWB (.head offBB)))) S'.bk (strKind_is _ _ _ _) (by rw [sizeLine_eq, hdr36.len]; omega) ?_⟩
              clear F39 N39
              intro h40 oB40 F40 N40 hkB40
              (try dsimp only)
              k_steps
              rename Fr _ _ _ _ => F41
              rename News _ _ _ _ => N41
              have hsub'' : ∀ p ∈ rest'', p ∈ (d37, o37) :: rest'' := fun _ h => .tail _ h
              refine turn_end F41 N41 ((D15, listO vW' nW') :: (dB, oB40) :: (dT, oT') :: (L1 + 1, oc2) :: (d37, o37) :: rest'') (.tail _ (.head _)) (fun p hp => ?_) ⟨.tail _ (.tail _ (.tail _ (.tail _ (hsub'' _ hls'')))), trivial⟩ ⟨⟨rfl, trivial⟩, ?_⟩
              · simp only [List.mem_cons] at hp
                rcases hp with rfl | rfl | rfl | rfl | rfl | hp
                · exact ⟨.tail _ (.tail _ (.head _)), Ne.symm nI1⟩
                · exact ⟨.tail _ (.tail _ (.tail _ (.head _))), Ne.symm nI2⟩
                · exact ⟨.tail _ (.tail _ (.tail _ (.tail _ (.head _)))), Ne.symm nI3⟩
                · exact ⟨.tail _ (.tail _ (.tail _ (.tail _ (.tail _ (.head _))))), Ne.symm nI4⟩
                · exact ⟨.head _, n37I⟩
                · exact ⟨.tail _ (.tail _ (.tail _ (.tail _ (.tail _ (.tail _ (hp)))))), off28 _ (.tail _ (.tail _ (.tail _ (.tail _ hp))))⟩
              · rw [hps']
                exact ⟨_, _, oB40, _, oT', _, (d37, o37) :: rest'', rfl, ⟨rfl, rfl, rfl, trivial⟩, S'.wt, hkB40, by rw [mapK_put inj28]; exact (hdr36.mono fun _ _ h => h.mono hsub'').put ⟨_, _, rfl, lo37, .head _, hi37, fr37n⟩, S'.bl, S'.tk, by show DR _ _ (keyed sg _); rw [keyed_same hg]; exact S'.td.mono fun _ _ h => h.mono hsub'', S'.tl, ⟨_, d14⟩, S'.nWB, S'.nWT, S'.nWC, nBT, nBC, nTC,
                  fun p hp => by
                    simp only [List.mem_cons] at hp
                    rcases hp with rfl | hp
                    · exact n37W
                    · exact S'.offW p hp,
                  fun p hp => by
                    simp only [List.mem_cons] at hp
                    rcases hp with rfl | hp
                    · exact n37B
                    · exact S'.offB p hp,
                  fun p hp => by
                    simp only [List.mem_cons] at hp
                    rcases hp with rfl | hp
                    · exact n37T
                    · exact S'.offT p hp,
                  fun p hp => by
                    simp only [List.mem_cons] at hp
                    rcases hp with rfl | hp
                    · exact n37C
                    · exact S'.offC p hp,
                  fun p hp => hsub'' _ (S'.sub p hp)⟩
          · rintro m28 nw28 h28 tk28 zz7 F28 N28
            try dsimp only
            try k_fold
            obtain ⟨hknF, vW', nW', oB', kvB', oT', kvT', rest'', rfl, S'⟩ := zz7
            have hpl := Paired.length hp26
            rw [hpl, hbt, ← stepS_part] at S'
            (try dsimp only)
            k_steps
            rename Fr _ _ _ _ => F29
            rename News _ _ _ _ => N29
            exact ⟨⟨N - (j + 1), g26, _, _, _, _, by omega, rfl, F29, N29, j + 1, D15, vW', nW', dB, oB', kvB', dT, oT', kvT', oc2, rest'', rfl, hjN, rfl, { S' with sub := fun p hp => S'.sub p (.tail _ (hr0 p (S.sub p hp))) }, T26, B26, X26, P26, D26⟩⟩
  · rintro hb m2 nw2 h2' tk2' zz8 F10 N10
    try dsimp only
    try k_fold
    obtain ⟨dB, oB, kvB, hkn, lo, hmB, hfB, hkB', hdr, sub', KT, KB, KX, KP, KD⟩ := zz8
    replace F10 := fr_kn F10 hkn
    dsimp only [knows] at F10
    clear B1 X1 T1 D1 F9 N9
    (try dsimp only)
    k_steps
    exact hret _ _ _ _ _ (by k_asm) (by k_asm) sub' ⟨dB, oB, kvB, rfl, lo, hmB, hfB, hkB', hdr⟩ (by assumption) (by assumption) (by assumption) (by assumption) (by assumption)
end PartCBook
section PartSortS
set_option maxRecDepth 100000
theorem off_SortS : True := by
  w_top off
  trivial
local macro_rules | `(tactic| k_mem) => `(tactic| first | exact List.mem_cons_self | (refine' List.mem_cons_of_mem _ ?_; k_mem) | ktr_member)
local macro_rules | `(tactic| k_all) => `(tactic| (with_reducible assumption))
local macro_rules | `(tactic| walk_at $k:str) => if ["eval BinOp", "eval Call", "eval Subscript", "eval Compare", "isTrue Compare", "eval Tuple", "eval List"].contains k.getString then `(tactic| (k_here; k_fold)) else Lean.Macro.throwUnsupported

section
open PySem.W PyProof.V PySem.Spec
variable {prog : Program} {w : World} {A : Around} {E : Value → Shared → Prop} {s : Shared} {h₀ : Heap} {L D : Addr} {m : Str → Option Value} {news : List (Addr × Obj)}
/-- list.sort on a fresh list of texts, at the ledger's head -/
theorem sort_strsK {vs : List Value} {ss : List Str} {n : Nat} {Q : Value → Shared → Prop} (F : Fr h₀ L s.heap m) (N : News h₀ L s.heap ((D, listO vs n) :: news)) (off : ∀ p ∈ news, p.1 ≠ D)
    (hS : StrsAre vs ss) (h64 : vs.length < 64)
    (h : ∀ vs' ss' h' c, Fr h₀ L h' m → News h₀ L h' ((D, listO vs' c) :: news) → StrsAre vs' ss' → ss'.Perm ss → PyProof.Rows.sortedS ss' = true → Q .none { s with heap := h' }) : wpAny (model prog w) A (call (.builtin "list.sort") [.ref D]) Q E s := by
  have z := N _ (.head _)
  have ho : s.heap.get? D = some (seqObj "list" vs.toArray n) := z.1
  refine wpAny_call_entry PyProof.Rows.slot_list_sort ⟨_, z.1, rfl⟩ PyProof.Rows.entry_list_sort (list_sort_treeK strKind_oneLt (n := n) (vs := vs) ho hS.keysOf (fun v₁ v₂ rest e => keyKind_strs (by rw [← e]; exact hS)) h64 fun st' hp hs => ⟨.none, rfl, ?_⟩) (PyProof.Rows.args_list_sort _)
  obtain ⟨ss', h1, h2, h3⟩ := sorted_out_str hS hp hs
  generalize hout : (arrOf st').map (·.2) = out at h1
  have hh := @sortedHeap_old s.heap D
  obtain ⟨c, g2⟩ := sortedHeap_at (out := out) ho
  have hD1 : D < s.heap.objs.size := Heap.lt_size z.1
  have F1 : Fr h₀ L (s.heap.update D (Obj.mapSeq fun _ => (#[] : Array Value))) m := F.change (Heap.SameBut.update ..) z.2.1 z.2.2
  have F4 : Fr h₀ L (sortedHeap s.heap D vs out) m :=
    ((F1.push (seqObj "tuple" vs.toArray 0)).push (seqObj "list" #[] 0)).change (Heap.SameBut.update ..) z.2.1 z.2.2
  refine h out.toList ss' _ c F4 (fun p hp => ?_) h1 h2 h3
  rcases List.mem_cons.mp hp with rfl | hp
  · exact ⟨by rw [g2], z.2⟩
  · exact ⟨(sortedHeap_old (off p hp) (Heap.lt_size (N p (.tail _ hp)).1)).trans (N p (.tail _ hp)).1, (N p (.tail _ hp)).2⟩
theorem strs_of_keys {kvs : List (Str × Value)} {vs : List Value} (hl : vs.length = kvs.length) (hv : ∀ (j : Nat) (v : Value), vs[j]? = some v → ∃ k x, kvs[j]? = some (k, x) ∧ (PySem.strKind prog w).is k v = true) : StrsAre vs (kvs.map (·.1)) := by
  induction kvs generalizing vs with
  | nil =>
    cases vs with
    | nil => exact .nil
    | cons _ _ => simp at hl
  | cons p r ih =>
    cases vs with
    | nil => simp at hl
    | cons v vs =>
      obtain ⟨k, x, hx, hk⟩ := hv 0 v rfl
      simp only [List.getElem?_cons_zero, Option.some.injEq] at hx
      subst hx
      obtain ⟨t, e⟩ := Value.isStrOf_shape hk
      subst e
      exact .cons _ _ (ih (by simpa using hl) fun j v h => by simpa using hv (j + 1) v (by simpa using h))
/-- sorted of a dict with texts for keys -/
theorem sorted_keysK {d : Addr} {od : Obj} {kvs : List (Str × Value)} {Q : Value → Shared → Prop} (hh : A.handled = none) (F : Fr h₀ L s.heap m) (N : News h₀ L s.heap news) (hm : (d, od) ∈ news) (hd : od.IsDictOf (PySem.strKind prog w) kvs) (lo : (d == sysModules) = false) (h64 : kvs.length < 64)
    (h : ∀ D vs' ss' h' tk c, Fr h₀ L h' m → News h₀ L h' ((D, listO vs' c) :: news) → (∀ q ∈ news, q.1 < D) → StrsAre vs' ss' → ss'.Perm (kvs.map (·.1)) → PyProof.Rows.sortedS ss' = true → Q (.ref D) { s with heap := h', toks := tk }) :
    wpAny (model prog w) A (call (.builtin "sorted") [.ref d]) Q E s := by
  obtain ⟨ep, hat⟩ := (PySem.W.kda_dict N hm hd).dictAt
  refine kdu_sorted (kdl_dict (knd := PySem.strKind prog w) (kvs := kvs) (ep := ep) lo) hh F N hat (by rw [sizeLine_eq]; omega) fun B h' tk vs F' N' l1 hl hv => ?_
  exact sort_strsK (vs := vs) F' N' (fun p hp => Nat.ne_of_lt (l1 p hp)) (strs_of_keys hl hv) (by rw [hl]; exact h64) fun vs' ss' h'' c F'' N'' a b c' => h B vs' ss' h'' tk c F'' N'' l1 a b c'
/-- list of a dict with texts for keys -/
theorem list_keysK {d : Addr} {od : Obj} {kvs : List (Str × Value)} {Q : Value → Shared → Prop} (hh : A.handled = none) (F : Fr h₀ L s.heap m) (N : News h₀ L s.heap news) (hm : (d, od) ∈ news) (hd : od.IsDictOf (PySem.strKind prog w) kvs) (lo : (d == sysModules) = false) (h64 : kvs.length < 64)
    (h : ∀ D vs c h' tk, Fr h₀ L h' m → News h₀ L h' ((D, listO vs c) :: news) → (∀ q ∈ news, q.1 < D) → StrsAre vs (kvs.map (·.1)) → Q (.ref D) { s with heap := h', toks := tk }) :
    wpAny (model prog w) A (call (.type "list") [.ref d]) Q E s := by
  obtain ⟨ep, hat⟩ := (PySem.W.kda_dict N hm hd).dictAt
  exact kdl_N (kdl_dict (knd := PySem.strKind prog w) (kvs := kvs) (ep := ep) lo) hh F N hat (by rw [sizeLine_eq]; omega) fun D c h' tk vs F' N' l1 hl hv => h D vs c h' tk F' N' l1 (strs_of_keys hl hv)
theorem sorted_listK {d : Addr} {vs : List Value} {n : Nat} {ss : List Str} {Q : Value → Shared → Prop} (F : Fr h₀ L s.heap m) (N : News h₀ L s.heap news) (hm : (d, listO vs n) ∈ news) (hS : StrsAre vs ss) (h64 : vs.length < 64)
    (h : ∀ D vs' ss' h' c, Fr h₀ L h' m → News h₀ L h' ((D, listO vs' c) :: news) → (∀ q ∈ news, q.1 < D) → StrsAre vs' ss' → ss'.Perm ss → PyProof.Rows.sortedS ss' = true → Q (.ref D) { s with heap := h' }) :
    wpAny (model prog w) A (call (.builtin "sorted") [.ref d]) Q E s :=
  sorted_N_str F N ⟨_, (N _ hm).1, rfl, _, rfl⟩ hS h64 fun h' vs' ss' e F' N' a b c => h _ vs' ss' h' e F' N' (fun p hp => Nat.lt_succ_of_lt (Heap.lt_size (N p hp).1)) a b c
theorem rising_pair : ∀ (l : List Str) (p : Str), PyProof.Rows.risingS p l = true → (p :: l).Pairwise (fun a b => a.cps.toList ≤ b.cps.toList)
  | [], p, _ => .cons (fun _ h => nomatch h) .nil
  | x :: r, p, h => by
    have h' : (!ltCps x.cps.toList p.cps.toList && PyProof.Rows.risingS x r) = true := h
    rw [Bool.and_eq_true, ltCps_eq, Bool.not_eq_true', decide_eq_false_iff_not] at h'
    have ih := rising_pair r x h'.2
    have h1 : p.cps.toList ≤ x.cps.toList := List.not_lt.mp h'.1
    refine .cons (fun y hy => ?_) ih
    rcases List.mem_cons.mp hy with rfl | hy
    · exact h1
    · exact List.le_trans h1 ((List.pairwise_cons.mp ih).1 y hy)
theorem sortedS_pair : ∀ {l : List Str}, PyProof.Rows.sortedS l = true → l.Pairwise (fun a b => a.cps.toList ≤ b.cps.toList)
  | [], _ => .nil
  | x :: r, h => rising_pair r x h
theorem str_ext {a b : Str} (h : a.cps.toList = b.cps.toList) : a = b := by
  cases a; cases b
  exact congrArg Str.mk (Array.toList_inj.mp h)
theorem pair_uniq : ∀ {a b : List Str}, a.Perm b → a.Pairwise (fun a b => a.cps.toList ≤ b.cps.toList) → b.Pairwise (fun a b => a.cps.toList ≤ b.cps.toList) → a = b
  | [], _, p, _, _ => p.nil_eq
  | x :: r, b, p, ha, hb => by
    cases b with
    | nil => exact absurd p.length_eq (by simp)
    | cons y t =>
      have hx : x ∈ y :: t := p.mem_iff.mp (.head _)
      have hy : y ∈ x :: r := p.mem_iff.mpr (.head _)
      have e : x = y := by
        rcases List.mem_cons.mp hx with h | h
        · exact h
        · rcases List.mem_cons.mp hy with h' | h'
          · exact h'.symm
          · have a1 := (List.pairwise_cons.mp ha).1 y h'
            have a2 := (List.pairwise_cons.mp hb).1 x h
            exact str_ext (List.le_antisymm a1 a2)
      subst e
      rw [pair_uniq (List.Perm.cons_inv p) (List.pairwise_cons.mp ha).2 (List.pairwise_cons.mp hb).2]
/-- two sorted lists of the same texts are one -/
theorem sortedS_uniq {a b : List Str} (p : a.Perm b) (ha : PyProof.Rows.sortedS a = true) (hb : PyProof.Rows.sortedS b = true) : a = b := pair_uniq p (sortedS_pair ha) (sortedS_pair hb)
end
end PartSortS
section PartLawA
set_option maxRecDepth 100000
theorem off_LawA : True := by
  w_top off
  trivial
local macro_rules | `(tactic| k_mem) => `(tactic| first | exact List.mem_cons_self | (refine' List.mem_cons_of_mem _ ?_; k_mem) | ktr_member)
local macro_rules | `(tactic| k_all) => `(tactic| (with_reducible assumption))
local macro_rules | `(tactic| walk_at $k:str) => if ["eval BinOp", "eval Call", "eval Subscript", "eval Compare", "isTrue Compare", "eval Tuple", "eval List"].contains k.getString then `(tactic| (k_here; k_fold)) else Lean.Macro.throwUnsupported

noncomputable def cellAs (b : Addr) : List Addr := [b + 1 + 1 + 1 + 1 + 1 + 1, b + 1 + 1 + 1 + 1 + 1, b + 1 + 1 + 1 + 1, b + 1 + 1 + 1, b + 1 + 1, b + 1]
noncomputable def OffA (l : List Addr) (nw : List (Addr × Obj)) : Prop := ∀ a ∈ l, ∀ p ∈ nw, @Ne Nat p.1 a
abbrev six (b : Addr) (c6 c5 c4 c3 c2 c1 : Obj) (l : List (Addr × Obj)) : List (Addr × Obj) :=
  (b + 1 + 1 + 1 + 1 + 1 + 1, c6) :: (b + 1 + 1 + 1 + 1 + 1, c5) :: (b + 1 + 1 + 1 + 1, c4) :: (b + 1 + 1 + 1, c3) :: (b + 1 + 1, c2) :: (b + 1, c1) :: l
theorem six_app (b : Addr) (c6 c5 c4 c3 c2 c1 : Obj) (l : List (Addr × Obj)) : six b c6 c5 c4 c3 c2 c1 l = six b c6 c5 c4 c3 c2 c1 [] ++ l := rfl
theorem six_back {b : Addr} {c6 c5 c4 c3 c2 c1 : Obj} {nw : List (Addr × Obj)} {p : Addr × Obj} (xs : List (Addr × Obj)) (hp : p ∈ six b c6 c5 c4 c3 c2 c1 (xs ++ nw)) : p ∈ xs ++ six b c6 c5 c4 c3 c2 c1 nw := by
  rw [six_app] at hp ⊢
  rcases List.mem_append.mp hp with h | h
  · exact List.mem_append_right _ (List.mem_append_left _ h)
  · rcases List.mem_append.mp h with h | h
    · exact List.mem_append_left _ h
    · exact List.mem_append_right _ (List.mem_append_right _ h)
theorem six_front {h₀ h : Heap} {L b : Addr} {c6 c5 c4 c3 c2 c1 : Obj} {nw : List (Addr × Obj)} (xs : List (Addr × Obj)) (N : News h₀ L h (xs ++ six b c6 c5 c4 c3 c2 c1 nw)) : News h₀ L h (six b c6 c5 c4 c3 c2 c1 (xs ++ nw)) := fun p hp => N p (six_back xs hp)
theorem six_mem {b : Addr} {c6 c5 c4 c3 c2 c1 : Obj} {q : Addr × Obj} (h : q ∈ six b c6 c5 c4 c3 c2 c1 []) : q.1 ∈ cellAs b ∧ (q.2 = c1 ∨ q.2 = c2 ∨ q.2 = c3 ∨ q.2 = c4 ∨ q.2 = c5 ∨ q.2 = c6) := by
  simp only [List.mem_cons, List.not_mem_nil, or_false] at h
  rcases h with rfl | rfl | rfl | rfl | rfl | rfl <;> simp [cellAs]
noncomputable def IsC (o : Obj) : Prop := ∃ x, o.data = .cell x
theorem OffA.nil (l : List Addr) : OffA l [] := fun _ _ _ h => nomatch h
theorem OffA.six {b : Addr} {nw : List (Addr × Obj)} (h : OffA (cellAs b) nw) : (∀ p ∈ nw, p.1 ≠ b + 1 + 1 + 1 + 1 + 1 + 1) ∧ (∀ p ∈ nw, p.1 ≠ b + 1 + 1 + 1 + 1 + 1) ∧ (∀ p ∈ nw, p.1 ≠ b + 1 + 1 + 1 + 1) ∧ (∀ p ∈ nw, p.1 ≠ b + 1 + 1 + 1) ∧ (∀ p ∈ nw, p.1 ≠ b + 1 + 1) ∧ ∀ p ∈ nw, p.1 ≠ b + 1 :=
  ⟨h _ (by simp [cellAs]), h _ (by simp [cellAs]), h _ (by simp [cellAs]), h _ (by simp [cellAs]), h _ (by simp [cellAs]), h _ (by simp [cellAs])⟩
theorem pull6 {h₀ h : Heap} {L b : Addr} {c6 c5 c4 c3 c2 c1 : Obj} {nw all : List (Addr × Obj)} (N : News h₀ L h all) (sub : ∀ p ∈ six b c6 c5 c4 c3 c2 c1 nw, p ∈ all) (off : OffA (cellAs b) nw)
    (k1 : IsC c1) (k2 : IsC c2) (k3 : IsC c3) (k4 : IsC c4) (k5 : IsC c5) (k6 : IsC c6) :
    ∃ nw', News h₀ L h (six b c6 c5 c4 c3 c2 c1 nw') ∧ OffA (cellAs b) nw' ∧ (∀ p ∈ nw, p ∈ nw') ∧ ∀ p ∈ all, (∀ x, p.2.data ≠ .cell x) → p ∈ nw' := by
  obtain ⟨rest, N', q1, q2, q3⟩ := pulls N (six b c6 c5 c4 c3 c2 c1 []) (fun q hq => sub q (by rw [six_app]; exact List.mem_append_left _ hq))
  rw [← six_app] at N'
  refine ⟨rest, N', fun a ha p hp => ?_, fun p hp => q3 p (sub p (by rw [six_app]; exact List.mem_append_right _ hp)) (fun q hq => off _ (six_mem hq).1 p hp), fun p hp hc => q3 p hp fun q hq => news_ne' N hp (sub q (by rw [six_app]; exact List.mem_append_left _ hq)) fun e => ?_⟩
  · simp only [cellAs, List.mem_cons, List.not_mem_nil, or_false] at ha
    rcases ha with rfl | rfl | rfl | rfl | rfl | rfl
    · exact q1 (_, c6) (.head _) p hp
    · exact q1 (_, c5) (.tail _ (.head _)) p hp
    · exact q1 (_, c4) (.tail _ (.tail _ (.head _))) p hp
    · exact q1 (_, c3) (.tail _ (.tail _ (.tail _ (.head _)))) p hp
    · exact q1 (_, c2) (.tail _ (.tail _ (.tail _ (.tail _ (.head _))))) p hp
    · exact q1 (_, c1) (.tail _ (.tail _ (.tail _ (.tail _ (.tail _ (.head _)))))) p hp
  · rcases (six_mem hq).2 with z | z | z | z | z | z
    · obtain ⟨x, hx⟩ := k1; exact hc x (by rw [e, z]; exact hx)
    · obtain ⟨x, hx⟩ := k2; exact hc x (by rw [e, z]; exact hx)
    · obtain ⟨x, hx⟩ := k3; exact hc x (by rw [e, z]; exact hx)
    · obtain ⟨x, hx⟩ := k4; exact hc x (by rw [e, z]; exact hx)
    · obtain ⟨x, hx⟩ := k5; exact hc x (by rw [e, z]; exact hx)
    · obtain ⟨x, hx⟩ := k6; exact hc x (by rw [e, z]; exact hx)
/-- within a comprehension: the turn's three objects and the cells -/
theorem pull9 {h₀ h : Heap} {L b I C D : Addr} {oI oC oD c6 c5 c4 c3 c2 c1 : Obj} {nw all : List (Addr × Obj)} (N : News h₀ L h all) (sub : ∀ p ∈ (I, oI) :: (C, oC) :: (D, oD) :: six b c6 c5 c4 c3 c2 c1 nw, p ∈ all) (off : OffA (cellAs b) nw)
    (off3 : LCg.Off3 I C D (six b c6 c5 c4 c3 c2 c1 nw)) :
    ∃ nw', News h₀ L h ((I, oI) :: (C, oC) :: (D, oD) :: six b c6 c5 c4 c3 c2 c1 nw') ∧ OffA (cellAs b) nw' ∧ LCg.Off3 I C D (six b c6 c5 c4 c3 c2 c1 nw') ∧ (∀ p ∈ nw, p ∈ nw') ∧ ∀ p ∈ all, (∀ q ∈ (I, oI) :: (C, oC) :: (D, oD) :: six b c6 c5 c4 c3 c2 c1 nw, p.1 ≠ q.1) → p ∈ nw' := by
  obtain ⟨rest, N', q1, q2, q3⟩ := pulls N ((I, oI) :: (C, oC) :: (D, oD) :: six b c6 c5 c4 c3 c2 c1 []) (fun q hq => sub q (List.mem_append_left nw hq))
  have m3 := off3.mem
  refine ⟨rest, N', fun a ha p hp => ?_, LCg.Off3.of fun p hp => ?_, fun p hp => q3 p (sub p (List.mem_append_right (_ :: _ :: _ :: six b c6 c5 c4 c3 c2 c1 []) hp)) (fun q hq => ?_), fun p hp hc => q3 p hp fun q hq => hc q ?_⟩
  · simp only [cellAs, List.mem_cons, List.not_mem_nil, or_false] at ha
    rcases ha with rfl | rfl | rfl | rfl | rfl | rfl
    · exact q1 (_, c6) (.tail _ (.tail _ (.tail _ (.head _)))) p hp
    · exact q1 (_, c5) (.tail _ (.tail _ (.tail _ (.tail _ (.head _))))) p hp
    · exact q1 (_, c4) (.tail _ (.tail _ (.tail _ (.tail _ (.tail _ (.head _)))))) p hp
    · exact q1 (_, c3) (.tail _ (.tail _ (.tail _ (.tail _ (.tail _ (.tail _ (.head _))))))) p hp
    · exact q1 (_, c2) (.tail _ (.tail _ (.tail _ (.tail _ (.tail _ (.tail _ (.tail _ (.head _)))))))) p hp
    · exact q1 (_, c1) (.tail _ (.tail _ (.tail _ (.tail _ (.tail _ (.tail _ (.tail _ (.tail _ (.head _))))))))) p hp
  · rw [six_app] at hp
    rcases List.mem_append.mp hp with hp | hp
    · exact m3 p (by rw [six_app]; exact List.mem_append_left _ hp)
    · exact ⟨q1 (I, oI) (.head _) p hp, q1 (C, oC) (.tail _ (.head _)) p hp, q1 (D, oD) (.tail _ (.tail _ (.head _))) p hp⟩
  · have z := m3 p (by rw [six_app]; exact List.mem_append_right _ hp)
    rcases List.mem_cons.mp hq with rfl | hq
    · exact z.1
    · rcases List.mem_cons.mp hq with rfl | hq
      · exact z.2.1
      · rcases List.mem_cons.mp hq with rfl | hq
        · exact z.2.2
        · exact off _ (six_mem hq).1 p hp
  · exact List.mem_append_left _ hq
theorem list_notC {vs : List Value} {n : Nat} : ∀ x, (listO vs n).data ≠ .cell x := fun _ e => by cases e
theorem tup_notC {v1 v2 : Value} {n : Nat} : ∀ x, (tupO v1 v2 n).data ≠ .cell x := fun _ e => by cases e
theorem dict_notC {K : Type} [DecidableEq K] {prog : Program} {w : World} {knd : KeyKind prog w K} {o : Obj} {kvs : List (K × Value)} (h : o.IsDictOf knd kvs) : ∀ x, o.data ≠ .cell x := fun x e => by
  obtain ⟨es, ep, _, hd, _⟩ := h
  rw [hd] at e
  cases e
/-- a made list put behind the cells -/
theorem behind6 {h₀ h : Heap} {L b D : Addr} {oD : Obj} {c6 c5 c4 c3 c2 c1 : Obj} {nw : List (Addr × Obj)} (N : News h₀ L h ((D, oD) :: six b c6 c5 c4 c3 c2 c1 nw)) (off : OffA (cellAs b) nw) (o1 : LCg.Off1 D (six b c6 c5 c4 c3 c2 c1 nw)) :
    News h₀ L h (six b c6 c5 c4 c3 c2 c1 ((D, oD) :: nw)) ∧ OffA (cellAs b) ((D, oD) :: nw) := by
  refine ⟨six_front [_] N, fun a ha p hp => ?_⟩
  · rcases List.mem_cons.mp hp with rfl | hp
    · simp only [cellAs, List.mem_cons, List.not_mem_nil, or_false] at ha
      rcases ha with rfl | rfl | rfl | rfl | rfl | rfl
      · exact Ne.symm o1.1
      · exact Ne.symm o1.2.1
      · exact Ne.symm o1.2.2.1
      · exact Ne.symm o1.2.2.2.1
      · exact Ne.symm o1.2.2.2.2.1
      · exact Ne.symm o1.2.2.2.2.2.1
    · exact off a ha p hp
theorem conS_bot {w : World} {f : Addr} {vs : List Value} {news : List (Addr × Obj)} {n : Nat} {Out : List (Addr × Obj) → Value → Prop}
    {p : Program} {loose : List Str} {mean : ExcName → Option Value} {mg mb : Str → Option Value} {dp un : Nat} {gd : Option (List Code)} {env : Env} {A₀ : Around} {base h₀ : Heap} {L : Addr} {m : Str → Option Value} {s : Shared} {Q E : Value → Shared → Prop}
    (B : Below A₀ base [] h₀) (F : Fr h₀ L s.heap m) (X : (Mine.hd.heap_39 w.params).In h₀) (N : News h₀ L s.heap news) (T : Top p loose mean mg mb h₀) (XB : (Mine.hd.heap_39 w.params).In base) (TB : Top p loose mean mg mb base)
    (C : ConS w f vs news n Out) (hf : env.frame = some L) (hk : env.scope.kind = .function) (hd : dp + n < recursionLimit) (hu : un + 8 * n < cLine)
    (ret : ∀ r all h' tk', Fr h₀ L h' m → News h₀ L h' all → (∀ p ∈ news, p ∈ all) → Out all r → Q r { s with heap := h', toks := tk' }) :
    wpAny (model LP w) (kTop dp un gd env []) (call (.ref f) vs) Q E s := by
  refine C _ _ _ _ _ _ _ _ _ _ _ _ _ _ _ _ _ _ _ B F X N T XB TB (fun b hb => nomatch hb) KtsTurn.refl hf hk hd hu fun r all h' tk' h₀' F' N' sub out T' _ _ _ _ => ?_
  have ot : ∀ b o, h₀.get? b = some o → h₀'.get? b = some o := fun b o e => T'.other b o e (fun hb => nomatch hb)
  refine ret r all h' tk' ⟨F'.ns, fun b o e => F'.keep b o (ot b o e), Nat.le_trans (Nat.le_of_eq T'.size.symm) F'.above⟩ (fun q hq => ⟨(N' q hq).1, (N' q hq).2.1, ?_⟩) sub out
  cases e : h₀.get? q.1 with
  | none => rfl
  | some o =>
    have z := (N' q hq).2.2
    rw [ot _ _ e] at z
    cases z
theorem rests_ok : ∀ t ∈ all14, RowOk (rests t) := by
  have h : all14.all (fun t => decide ((rests t).length = 4) && (rests t).all fun x => decide (0 ≤ x) && decide (x ≤ 3)) = true := by decide
  intro t ht
  have := List.all_eq_true.mp h t ht
  simp only [Bool.and_eq_true, decide_eq_true_eq, List.all_eq_true] at this
  exact this
theorem all14_eq : all14 = [all14.getD 0 (.leaf 0), all14.getD 1 (.leaf 0), all14.getD 2 (.leaf 0), all14.getD 3 (.leaf 0), all14.getD 4 (.leaf 0), all14.getD 5 (.leaf 0), all14.getD 6 (.leaf 0), all14.getD 7 (.leaf 0), all14.getD 8 (.leaf 0), all14.getD 9 (.leaf 0), all14.getD 10 (.leaf 0), all14.getD 11 (.leaf 0), all14.getD 12 (.leaf 0), all14.getD 13 (.leaf 0)] := by decide
theorem spelled_named (sg : Nat → Nat) : ∀ t ∈ all14, spelledM sg (rests t) = named sg t := by
  intro t ht
  rw [all14_eq] at ht
  simp only [List.mem_cons, List.not_mem_nil, or_false] at ht
  rcases ht with rfl | rfl | rfl | rfl | rfl | rfl | rfl | rfl | rfl | rfl | rfl | rfl | rfl | rfl <;> kernel_rfl
theorem mod14 (y : Int) : ∃ k : Nat, k < 14 ∧ y.fmod 14 = (k : Int) := by
  have h1 := Int.fmod_nonneg_of_pos y (by decide : (0 : Int) < 14)
  have h2 := Int.fmod_lt_of_pos y (by decide : (0 : Int) < 14)
  exact ⟨(y.fmod 14).toNat, by omega, by omega⟩
theorem off1_of_lt {d : Addr} : ∀ {l : List (Addr × Obj)}, AllLt d l → LCg.Off1 d l
  | [], _ => trivial
  | _ :: _, h => ⟨Nat.ne_of_lt h.1, off1_of_lt h.2⟩
theorem head_ints2 {h₀ h : Heap} {L a : Addr} {k1 k2 : Int} {t1 t2 : Tok} {n : Nat} {l : List (Addr × Obj)} (_ : News h₀ L h ((a, W.listOf #[.int k1 t1, .int k2 t2] n) :: l)) : ∃ u1 u2 n', u1 = t1 ∧ u2 = t2 ∧ n' = n := ⟨_, _, _, rfl, rfl, rfl⟩
theorem BookIn.move {w : World} {nf all nw : List (Addr × Obj)} {r : Value} {d : List (Str × Tab)} (h : BookIn w nf all r d) (k : ∀ p ∈ all, (∀ q ∈ nf, p.1 ≠ q.1) → p ∈ nw) : BookIn w [] nw r d := by
  obtain ⟨a, o, kvs, e, lo, hm, fr, hk, hd⟩ := h
  refine ⟨a, o, kvs, e, lo, k _ hm fun q hq => Ne.symm (fr q hq), fun _ h => (nomatch h), hk, hd.mono fun v b hv => ?_⟩
  obtain ⟨a', o', e', lo', hm', hi', fr'⟩ := hv
  exact ⟨a', o', e', lo', k _ hm' fun q hq => Ne.symm (fr' q hq), hi', fun _ h => (nomatch h)⟩
theorem BookIn.mono {w : World} {all nw : List (Addr × Obj)} {r : Value} {d : List (Str × Tab)} (h : BookIn w [] all r d) (k : ∀ p ∈ all, p ∈ nw) : BookIn w [] nw r d := h.move fun p hp _ => k p hp
noncomputable def nOf (t : Tree) : Nat := ((List.range 20).find? fun n => chk t n).getD 0
theorem nOf_chk {t : Tree} (h : t ∈ all14) : Chk t (nOf t) := by
  have := List.all_eq_true.mp chk_all t h
  obtain ⟨n, hn, hc⟩ := List.any_eq_true.mp this
  unfold nOf
  cases e : (List.range 20).find? fun n => chk t n with
  | none => exact absurd hc (List.find?_eq_none.mp e n hn)
  | some m => exact Chk.of (List.find?_some (p := fun n => chk t n) e)
noncomputable def treeAt (k : Nat) : Tree := all14.getD k (.leaf 0)
theorem treeAt_get {k : Nat} (h : k < 14) : all14[k]? = some (treeAt k) := by
  have e : all14.length = 14 := by decide
  unfold treeAt
  rw [List.getD_eq_getElem?_getD, List.getElem?_eq_getElem (by omega)]
  rfl
theorem treeAt_mem {k : Nat} (h : k < 14) : treeAt k ∈ all14 := List.mem_of_getElem? (treeAt_get h)
noncomputable def bkOf (k : Nat) : List (Tree × Tab) := (bookAt lt0 (treeAt k) (nOf (treeAt k))).bk
theorem OffA.cons {b I : Addr} {o : Obj} {nw : List (Addr × Obj)} (h : OffA (cellAs b) nw) (n6 : @Ne Nat I (b + 1 + 1 + 1 + 1 + 1 + 1)) (n5 : @Ne Nat I (b + 1 + 1 + 1 + 1 + 1)) (n4 : @Ne Nat I (b + 1 + 1 + 1 + 1)) (n3 : @Ne Nat I (b + 1 + 1 + 1)) (n2 : @Ne Nat I (b + 1 + 1)) (n1 : @Ne Nat I (b + 1)) : OffA (cellAs b) ((I, o) :: nw) := by
  intro a ha p hp
  rcases List.mem_cons.mp hp with rfl | hp
  · simp only [cellAs, List.mem_cons, List.not_mem_nil, or_false] at ha
    rcases ha with rfl | rfl | rfl | rfl | rfl | rfl
    · exact n6
    · exact n5
    · exact n4
    · exact n3
    · exact n2
    · exact n1
  · exact h a ha p hp
theorem OffA.consGt {b I : Addr} {o : Obj} {nw : List (Addr × Obj)} (h : OffA (cellAs b) nw) (g : @LT.lt Nat instLTNat (b + 1 + 1 + 1 + 1 + 1 + 1) I) : OffA (cellAs b) ((I, o) :: nw) :=
  h.cons (Nat.ne_of_gt g) (Nat.ne_of_gt (Nat.lt_of_succ_lt g)) (Nat.ne_of_gt (Nat.lt_of_succ_lt (Nat.lt_of_succ_lt g))) (Nat.ne_of_gt (Nat.lt_of_succ_lt (Nat.lt_of_succ_lt (Nat.lt_of_succ_lt g))))
    (Nat.ne_of_gt (Nat.lt_of_succ_lt (Nat.lt_of_succ_lt (Nat.lt_of_succ_lt (Nat.lt_of_succ_lt g))))) (Nat.ne_of_gt (Nat.lt_of_succ_lt (Nat.lt_of_succ_lt (Nat.lt_of_succ_lt (Nat.lt_of_succ_lt (Nat.lt_of_succ_lt g))))))
theorem DR.keys {K β : Type} [DecidableEq K] {R : Value → β → Prop} : ∀ {kvs : List (K × Value)} {d : List (K × β)}, DR R kvs d → kvs.map (·.1) = d.map (·.1)
  | _, _, .nil => rfl
  | _, _, .cons h t => by
    rw [List.map_cons, List.map_cons, h.1, DR.keys t]
theorem mapK_keys {K K' β : Type} [DecidableEq K] [DecidableEq K'] (f : K → K') (d : List (K × β)) : (mapK f d).map (·.1) = (d.map (·.1)).map f := by
  unfold mapK
  rw [List.map_map, List.map_map]
  rfl
end PartLawA
section PartLawP
set_option maxRecDepth 100000
theorem off_LawP : True := by
  w_top off
  trivial
local macro_rules | `(tactic| k_mem) => `(tactic| first | exact List.mem_cons_self | (refine' List.mem_cons_of_mem _ ?_; k_mem) | ktr_member)
local macro_rules | `(tactic| k_all) => `(tactic| (with_reducible assumption))
local macro_rules | `(tactic| walk_at $k:str) => if ["eval BinOp", "eval Call", "eval Subscript", "eval Compare", "isTrue Compare", "eval Tuple", "eval List"].contains k.getString then `(tactic| (k_here; k_fold)) else Lean.Macro.throwUnsupported

inductive Sy where
  | op
  | cl
  | sg (k : Nat)
  deriving DecidableEq
noncomputable def syms : Tree → List Sy
  | .leaf k => [.sg k]
  | .fork l r => .op :: (syms l ++ .cl :: syms r)
noncomputable def Sy.ev (sg : Nat → Nat) : Sy → Nat
  | .op => 123
  | .cl => 125
  | .sg k => sg k
theorem named_syms (sg : Nat → Nat) : ∀ t, (named sg t).cps.toList = (syms t).map (Sy.ev sg)
  | .leaf k => rfl
  | .fork l r => by
    have h1 := named_syms sg l
    have h2 := named_syms sg r
    show ((Str.ofString "{" ++ named sg l ++ Str.ofString "}" ++ named sg r).cps).toList = _
    have e : (Str.ofString "{" ++ named sg l ++ Str.ofString "}" ++ named sg r).cps = (((Str.ofString "{").cps ++ (named sg l).cps) ++ (Str.ofString "}").cps) ++ (named sg r).cps := rfl
    rw [e, Array.toList_append, Array.toList_append, Array.toList_append, h1, h2]
    simp only [syms, List.map_cons, List.map_append]
    show ([123] ++ List.map (Sy.ev sg) (syms l) ++ [125]) ++ List.map (Sy.ev sg) (syms r) = 123 :: (List.map (Sy.ev sg) (syms l) ++ 125 :: List.map (Sy.ev sg) (syms r))
    simp
noncomputable def symsIn (l : List Sy) : Bool := l.all fun s => match s with
  | .sg k => decide (k < 5)
  | _ => true
noncomputable def cmpSy : List Sy → List Sy → Option Bool
  | [], [] => some false
  | [], _ :: _ => some true
  | _ :: _, [] => some false
  | .op :: a, .op :: b => cmpSy a b
  | .cl :: a, .cl :: b => cmpSy a b
  | .sg k :: a, .sg j :: b => if k = j then cmpSy a b else none
  | .sg _ :: _, .op :: _ => some true
  | .op :: _, .sg _ :: _ => some false
  | _ :: _, _ :: _ => none
theorem cmpSy_ok {sg : Nat → Nat} (h : ∀ k < 5, 33 ≤ sg k ∧ sg k < 123) : ∀ (a b : List Sy) (r : Bool), symsIn a = true → symsIn b = true → cmpSy a b = some r → (a.map (Sy.ev sg) < b.map (Sy.ev sg) ↔ r = true)
  | [], [], r, _, _, e => by cases e; simp
  | [], _ :: _, r, _, _, e => by cases e; simp
  | _ :: _, [], r, _, _, e => by cases e; simp
  | .op :: a, .op :: b, r, ha, hb, e => by
    have ih := cmpSy_ok h a b r (by simpa [symsIn] using ha) (by simpa [symsIn] using hb) e
    simp only [List.map_cons, List.cons_lt_cons_iff]
    simpa using ih
  | .cl :: a, .cl :: b, r, ha, hb, e => by
    have ih := cmpSy_ok h a b r (by simpa [symsIn] using ha) (by simpa [symsIn] using hb) e
    simp only [List.map_cons, List.cons_lt_cons_iff]
    simpa using ih
  | .sg k :: a, .sg j :: b, r, ha, hb, e => by
    unfold cmpSy at e
    by_cases q : k = j
    · subst q
      rw [if_pos rfl] at e
      have ha' : k < 5 ∧ symsIn a = true := by simpa [symsIn] using ha
      have hb' : k < 5 ∧ symsIn b = true := by simpa [symsIn] using hb
      have ih := cmpSy_ok h a b r ha'.2 hb'.2 e
      simp only [List.map_cons, List.cons_lt_cons_iff]
      simpa using ih
    · rw [if_neg q] at e; cases e
  | .sg k :: a, .op :: b, r, ha, hb, e => by
    cases e
    have ha' : k < 5 ∧ symsIn a = true := by simpa [symsIn] using ha
    have := (h k ha'.1).2
    simp only [List.map_cons, List.cons_lt_cons_iff, Sy.ev]
    simp [this]
  | .op :: a, .sg k :: b, r, ha, hb, e => by
    cases e
    have hb' : k < 5 ∧ symsIn b = true := by simpa [symsIn] using hb
    have := (h k hb'.1).2
    simp only [List.map_cons, List.cons_lt_cons_iff, Sy.ev]
    simp only [Bool.false_eq_true, iff_false, not_or, not_and]
    exact ⟨by omega, fun q => absurd q (by omega)⟩
  | .op :: _, .cl :: _, _, _, _, e => by cases e
  | .cl :: _, .op :: _, _, _, _, e => by cases e
  | .cl :: _, .sg _ :: _, _, _, _, e => by cases e
  | .sg _ :: _, .cl :: _, _, _, _, e => by cases e
theorem syms_in : ∀ t ∈ all14, symsIn (syms t) = true := by decide +kernel
theorem cmp_all : ∀ t ∈ all14, ∀ t' ∈ all14, (cmpSy (syms t) (syms t')).isSome = true := by decide +kernel
theorem lt0_all : ∀ t ∈ all14, ∀ t' ∈ all14, t = t' ∨ cmpSy (syms t) (syms t') = some true ∨ cmpSy (syms t') (syms t) = some true := by decide +kernel
theorem good_of {sg : Nat → Nat} (h : ∀ k < 5, 33 ≤ sg k ∧ sg k < 123) : Good sg := by
  have h0 : ∀ k < 5, 33 ≤ sg0 k ∧ sg0 k < 123 := fun k hk => by unfold sg0; omega
  refine ⟨fun t ht t' ht' e => ?_, fun t ht => ?_, fun t ht t' ht' => ?_⟩
  · rcases lt0_all t ht t' ht' with q | q | q
    · exact q
    · have := (cmpSy_ok h _ _ _ (syms_in t ht) (syms_in t' ht') q).mpr rfl
      rw [← named_syms, ← named_syms, e] at this
      exact absurd this (List.lt_irrefl _)
    · have := (cmpSy_ok h _ _ _ (syms_in t' ht') (syms_in t ht) q).mpr rfl
      rw [← named_syms, ← named_syms, e] at this
      exact absurd this (List.lt_irrefl _)
  · unfold PyData.strOk
    rw [Array.all_eq_true']
    intro x hx
    have hx' : x ∈ (syms t).map (Sy.ev sg) := by rw [← named_syms]; exact Array.mem_toList_iff.mpr hx
    obtain ⟨s, hs, rfl⟩ := List.mem_map.mp hx'
    have hin := List.all_eq_true.mp (syms_in t ht) s hs
    cases s with
    | op => rfl
    | cl => rfl
    | sg k =>
      have hk : k < 5 := by simpa using hin
      have := (h k hk).2
      exact decide_eq_true (by show sg k < 0x110000; omega)
  · obtain ⟨r, hr⟩ := Option.isSome_iff_exists.mp (cmp_all t ht t' ht')
    have a := cmpSy_ok h _ _ r (syms_in t ht) (syms_in t' ht') hr
    have b := cmpSy_ok h0 _ _ r (syms_in t ht) (syms_in t' ht') hr
    rw [named_syms, named_syms]
    unfold lt0
    rw [decide_eq_true_iff, named_syms, named_syms]
    exact a.trans b.symm
end PartLawP
section PartLawQ
set_option maxRecDepth 100000
theorem off_LawQ : True := by
  w_top off
  trivial
local macro_rules | `(tactic| k_mem) => `(tactic| first | exact List.mem_cons_self | (refine' List.mem_cons_of_mem _ ?_; k_mem) | ktr_member)
local macro_rules | `(tactic| k_all) => `(tactic| (with_reducible assumption))
local macro_rules | `(tactic| walk_at $k:str) => if ["eval BinOp", "eval Call", "eval Subscript", "eval Compare", "isTrue Compare", "eval Tuple", "eval List"].contains k.getString then `(tactic| (k_here; k_fold)) else Lean.Macro.throwUnsupported

noncomputable def rows14 : List (List Int) := all14.map rests
noncomputable def treeOf (row : List Int) : Tree := all14.getD (rows14.idxOf row) (.leaf 0)
noncomputable def dueTP (acc : List (Tree × List Int)) (p : List Int × Int) : List (Tree × List Int) := putG acc (treeOf p.1) ((getG acc (treeOf p.1)).getD [] ++ [p.2])
noncomputable def goW : Nat → Nat → List (List Int × Int) → Nat
  | 0, k, _ => k
  | f + 1, k, ws => if k < ws.length then goW f (k + 1) (wayStep ws k) else k
noncomputable def kW (t : Tree) : Nat := goW 100 0 [(rests t, 0)]
noncomputable def dueT (t : Tree) : List (Tree × List Int) := (waysAt (rests t) (kW t)).foldl dueTP []
noncomputable def tableOf (lens : List Int) : Tab := lens.foldl (fun a x => putG a x (lens.count x : Int)) []
structure DueOk (t : Tree) (K : Nat) : Prop where
  len : (waysAt (rests t) K).length = K
  go : ∀ k < K, k < (waysAt (rests t) k).length
  ok : ∀ k < K, ∀ p ∈ waysAt (rests t) k, RowOk p.1
  hK : K ≤ 100
  inR : ∀ p ∈ waysAt (rests t) K, p.1 ∈ rows14 ∧ p.1.length = 4
noncomputable def chkD (t : Tree) : Bool := decide ((waysAt (rests t) (kW t)).length = kW t) && ((List.range (kW t)).all fun k => decide (k < (waysAt (rests t) k).length) && (waysAt (rests t) k).all fun p => decide (p.1.length = 4) && p.1.all fun x => decide (0 ≤ x) && decide (x ≤ 3)) && decide (kW t ≤ 100) &&
  ((waysAt (rests t) (kW t)).all fun p => rows14.contains p.1 && decide (p.1.length = 4))
theorem chkD_all : all14.all chkD = true := by decide +kernel
theorem due_ok {t : Tree} (h : t ∈ all14) : DueOk t (kW t) := by
  have := List.all_eq_true.mp chkD_all t h
  unfold chkD at this
  simp only [Bool.and_eq_true, decide_eq_true_eq, List.all_eq_true, List.mem_range, List.contains_iff_mem] at this
  exact ⟨this.1.1.1, fun k hk => (this.1.1.2 k hk).1, fun k hk p hp => (this.1.1.2 k hk).2 p hp, this.1.2, this.2⟩
theorem putG_keys {K β : Type} [DecidableEq K] {d : List (K × β)} {k : K} {b : β} {P : K → Prop} (h : ∀ p ∈ d, P p.1) (hk : P k) : ∀ p ∈ putG d k b, P p.1 := fun p hp => by
  rcases putG_mem hp with h' | h'
  · exact h p h'
  · rw [h']; exact hk
theorem treeOf_mem {row : List Int} (h : row ∈ rows14) : treeOf row ∈ all14 := by
  have hlt : rows14.idxOf row < rows14.length := List.idxOf_lt_length_iff.mpr h
  have e : rows14.length = all14.length := List.length_map ..
  unfold treeOf
  rw [List.getD_eq_getElem?_getD, List.getElem?_eq_getElem (by omega)]
  exact List.getElem_mem _
theorem dueM_go {sg : Nat → Nat} (G : Good sg) : ∀ (ws : List (List Int × Int)) (acc : List (Tree × List Int)), (∀ p ∈ ws, p.1 ∈ rows14) → (∀ q ∈ acc, q.1 ∈ all14) → ws.foldl (dueP rows14 (all14.map (named sg))) (mapK (named sg) acc) = mapK (named sg) (ws.foldl dueTP acc)
  | [], _, _, _ => rfl
  | p :: ws, acc, hw, ha => by
    have hp := hw p (.head _)
    have ht := treeOf_mem hp
    have hlt : rows14.idxOf p.1 < rows14.length := List.idxOf_lt_length_iff.mpr hp
    have e : rows14.length = all14.length := List.length_map ..
    have hn : (all14.map (named sg)).getD (rows14.idxOf p.1) Str.empty = named sg (treeOf p.1) := by
      unfold treeOf
      rw [List.getD_eq_getElem?_getD, List.getD_eq_getElem?_getD, List.getElem?_map, List.getElem?_eq_getElem (by omega)]
      rfl
    have inj : ∀ q ∈ acc, named sg q.1 = named sg (treeOf p.1) → q.1 = treeOf p.1 := fun q hq e => G.inj _ (ha q hq) _ ht e
    have hs : dueP rows14 (all14.map (named sg)) (mapK (named sg) acc) p = mapK (named sg) (dueTP acc p) := by
      unfold dueP dueTP
      rw [hn, mapK_get inj, mapK_put inj]
    rw [List.foldl_cons, List.foldl_cons, hs]
    exact dueM_go G ws _ (fun q hq => hw q (.tail _ hq)) (putG_keys ha ht)
theorem dueM_T {sg : Nat → Nat} (G : Good sg) {t : Tree} (h : t ∈ all14) : dueM rows14 (all14.map (named sg)) (waysAt (rests t) (kW t)) = mapK (named sg) (dueT t) := dueM_go G _ [] (fun p hp => ((due_ok h).inR p hp).1) (fun _ h => nomatch h)
noncomputable def keyIdx : List (List Nat) := [[0], [1, 0], [2, 0], [3, 1, 0], [4, 2, 3, 1, 0], [5, 0], [6, 1, 5, 0], [7, 2, 0], [8, 5, 7, 2, 0], [9, 3, 1, 0],
  [10, 4, 9, 3, 2, 1, 0], [11, 6, 9, 3, 1, 5, 0], [12, 7, 10, 4, 9, 3, 2, 1, 0],
  [13, 8, 11, 12, 7, 10, 6, 9, 5, 4, 3, 2, 1, 0]]
noncomputable def keyT (k : Nat) : List Tree := (keyIdx.getD k []).map treeAt
theorem keyT_all : (List.range 14).all (fun k => decide ((bkOf k).map (·.1) = keyT k)) = true := by decide +kernel
theorem keyT_eq {k : Nat} (h : k < 14) : (bkOf k).map (·.1) = keyT k := of_decide_eq_true (List.all_eq_true.mp keyT_all k (List.mem_range.mpr h))
theorem keyT_ok : ∀ k < 14, (keyT k).length ≤ 14 ∧ ∀ t ∈ keyT k, t ∈ all14 := by decide +kernel
theorem keyD_all : (List.range 14).all (fun k => (keyT k).isPerm ((dueT (treeAt k)).map (·.1))) = true := by decide +kernel
theorem keys_perm {k : Nat} (h : k < 14) : ((bkOf k).map (·.1)).Perm ((dueT (treeAt k)).map (·.1)) := by
  rw [keyT_eq h]
  exact List.isPerm_iff.mp (List.all_eq_true.mp keyD_all k (List.mem_range.mpr h))
structure TabOk (k : Nat) (p : Tree × List Int) (tab : Tab) : Prop where
  inA : p.1 ∈ all14
  get : getG (bkOf k) p.1 = some tab
  len : tab.length = (tableOf p.2).length
  all : ∀ q ∈ tab, getG (tableOf p.2) q.1 = some q.2
  sum : sumV tab = (p.2.length : Int)
  small : p.2.length ≤ 100
noncomputable def chkT (k : Nat) : Bool := (dueT (treeAt k)).all fun p => all14.contains p.1 && decide (p.2.length ≤ 100) && match getG (bkOf k) p.1 with
  | none => false
  | some tab => decide (tab.length = (tableOf p.2).length) && (tab.all fun q => decide (getG (tableOf p.2) q.1 = some q.2)) && decide (sumV tab = (p.2.length : Int))
theorem chkT_all : (List.range 14).all chkT = true := by decide +kernel
theorem due_tabs {k : Nat} (h : k < 14) : ∀ p ∈ dueT (treeAt k), ∃ tab, TabOk k p tab := by
  intro p hp
  have := List.all_eq_true.mp chkT_all k (List.mem_range.mpr h)
  unfold chkT at this
  have hq := List.all_eq_true.mp this p hp
  cases e : getG (bkOf k) p.1 with
  | none => rw [e] at hq; simp at hq
  | some tab =>
    rw [e] at hq
    simp only [Bool.and_eq_true, decide_eq_true_eq, List.all_eq_true, List.contains_iff_mem] at hq
    exact ⟨tab, hq.1.1, e, hq.2.1.1, hq.2.1.2, hq.2.2, hq.1.2⟩
theorem bk_small {k : Nat} (h : k < 14) : (bkOf k).length < 64 ∧ ∀ p ∈ bkOf k, p.1 ∈ all14 := by
  have h1 := keyT_ok k h
  have h2 := keyT_eq h
  refine ⟨?_, fun p hp => h1.2 _ (by rw [← h2]; exact List.mem_map.mpr ⟨p, hp, rfl⟩)⟩
  have h3 : (bkOf k).length = (keyT k).length := by rw [← h2, List.length_map]
  omega
theorem due_small {k : Nat} (h : k < 14) : (dueT (treeAt k)).length < 64 := by
  have h1 := (keys_perm h).length_eq
  rw [List.length_map, List.length_map] at h1
  have := (bk_small h).1
  omega
section
open PySem.W
variable {w : World} {A : Around} {E : Value → Shared → Prop} {s : Shared} {h₀ : Heap} {L : Addr} {m : Str → Option Value} {news : List (Addr × Obj)}
theorem ne_tabsK {a b : Addr} {oa ob : Obj} {ta tb : Tab} {Q : Value → Shared → Prop} (N : News h₀ L s.heap news) (pa : (a, oa) ∈ news) (pb : (b, ob) ∈ news) (la : (a == sysModules) = false) (lb : (b == sysModules) = false)
    (da : IntDict w oa ta) (db : IntDict w ob tb) (hu : A.units < cLine) (hl : ta.length = tb.length) (hh : ∀ q ∈ ta, getG tb q.1 = some q.2) (h : Q (.bool false) s) : wpAny (model LP w) A (compareOp .NotEq (.ref a) (.ref b)) Q E s := by
  obtain ⟨ka, hka, ha⟩ := da
  obtain ⟨kb, hkb, hb⟩ := db
  have hits : ∀ {ka : List (Int × Value)} {ta : Tab}, DR IntV ka ta → (∀ q ∈ ta, getG tb q.1 = some q.2) → KeqHits A.in1 s kb ka true := by
    intro ka ta h
    induction h with
    | nil => intro _; exact .nil
    | @cons x y xs ys hxy _ ih =>
      intro hh
      obtain ⟨x1, x2⟩ := x
      obtain ⟨y1, y2⟩ := y
      obtain ⟨e, t, e2⟩ := hxy
      dsimp only at e e2
      subst e; subst e2
      obtain ⟨v, hv, u, rfl⟩ := hb.get_some (hh _ (.head _))
      have z := KeqHits.hit (A := A.in1) (s := s) hv (PySem.SeqAt.EqAt.int_int y2 t y2 u) (ih fun q hq => hh q (.tail _ hq))
      simpa using z
  refine keq_ne la lb (kda_dict N pa hka) (kda_dict N pb hkb) hu (fun _ => hits ha hh) ?_
  rw [ha.len, hb.len, hl]
  simpa using h
theorem index_strs {D : Addr} {vs : List Value} {n : Nat} {ns : List Str} {x : Str} {t : Tok} {j : Nat} {Q : Value → Shared → Prop} (N : News h₀ L s.heap news) (hm : (D, listO vs n) ∈ news) (hi : StrsAre vs ns) (hj : ns[j]? = some x) (hno : ∀ i < j, ns[i]? ≠ some x) (hz : ns.length ≤ 1000)
    (h : Q (.int j s.toks) { s with toks := s.toks + 1 }) : wpAny (model LP w) A (call (.builtin "list.index") [.ref D, .str x t]) Q E s := by
  have hlen : vs.length = ns.length := (strs_pair hi).length
  have hj' : j < ns.length := by
    rcases Nat.lt_or_ge j ns.length with q | q
    · exact q
    · rw [List.getElem?_eq_none q] at hj; cases hj
  have hsz : vs.toArray.size = vs.length := List.size_toArray ..
  refine call_meets PySem.F.slot_list_index ⟨_, (N _ hm).1, rfl⟩ PySem.F.entry_list_index (PySem.F.args_list_index_2 _ _)
    (MeetsSeq.list_index D vs.toArray n (.str x t) (PyProof.Rows.isStrOf x) (fun y hy => eq_isStrOf x t hi y (by simpa using hy)) j (by omega) (by omega) ?_ (fun i hil hlt => ?_)) ⟨(N _ hm).1, h⟩
  · obtain ⟨u, hu⟩ := strs_get hi hj
    have e : vs.toArray[j]'(by omega) = .str x u := by
      have := List.getElem?_eq_some_iff.mp hu
      obtain ⟨_, e⟩ := this
      simpa using e
    rw [e]
    simp [PyProof.Rows.isStrOf]
  · have hil' : i < ns.length := by omega
    obtain ⟨u, hu⟩ := strs_get hi (List.getElem?_eq_getElem hil')
    have e : vs.toArray[i]'hil = .str ns[i] u := by
      have := List.getElem?_eq_some_iff.mp hu
      obtain ⟨_, e⟩ := this
      simpa using e
    rw [e]
    have hne : ns[i] ≠ x := fun e => hno i hlt (by rw [List.getElem?_eq_getElem hil', e])
    simp [PyProof.Rows.isStrOf]
    exact fun e => hne (by first | exact e | exact e.symm)
end
theorem ints_get : ∀ {vs : List Value} {ns : List Int}, IntsAre vs ns → ∀ {i : Nat} {v : Value}, vs[i]? = some v → ∃ n t, ns[i]? = some n ∧ v = .int n t
  | _, _, .nil, i, v, h => by simp at h
  | _, _, .cons n t _, 0, v, h => by cases h; exact ⟨n, t, rfl, rfl⟩
  | _, _, .cons _ _ h0, i + 1, v, h => ints_get h0 h
theorem mapK_at {K K' β : Type} {f : K → K'} {d : List (K × β)} {j : Nat} {q : K' × β} [DecidableEq K] [DecidableEq K'] (h : (mapK f d)[j]? = some q) : ∃ p ∈ d, q = (f p.1, p.2) := by
  unfold mapK at h
  rw [List.getElem?_map] at h
  obtain ⟨p, hp, e⟩ := Option.map_eq_some_iff.mp h
  exact ⟨p, List.mem_of_getElem? hp, e.symm⟩
theorem tableOf_len (lens : List Int) : ∀ (l : List Int) (a : Tab), (l.foldl (fun a x => putG a x (lens.count x : Int)) a).length ≤ a.length + l.length
  | [], _ => Nat.le_refl _
  | x :: l, a => by
    have h1 := tableOf_len lens l (putG a x (lens.count x : Int))
    have h2 := putG_len a x (lens.count x : Int)
    rw [List.foldl_cons, List.length_cons]
    omega
noncomputable def bothN (k1 k2 i : Nat) : List Tree := (((bkOf k1).take i).map (·.1)).filter fun t => (getG (bkOf k2) t).isSome
noncomputable def bothT (k1 k2 : Nat) : List Tree := bothN k1 k2 (bkOf k1).length
theorem bothN_succ {k1 k2 i : Nat} {p : Tree × Tab} (h : (bkOf k1)[i]? = some p) : bothN k1 k2 (i + 1) = bothN k1 k2 i ++ (if (getG (bkOf k2) p.1).isSome then [p.1] else []) := by
  unfold bothN
  rw [take_snoc h, List.map_append, List.filter_append]
  congr 1
  by_cases e : (getG (bkOf k2) p.1).isSome = true
  · rw [if_pos e]; simp [e]
  · rw [if_neg e]; simp [e]
theorem all14_idx : ∀ i < 14, all14.idxOf (treeAt i) = i := by decide +kernel
theorem names_idx {sg : Nat → Nat} (G : Good sg) {t : Tree} (h : t ∈ all14) : (all14.map (named sg))[all14.idxOf t]? = some (named sg t) ∧ (∀ i < all14.idxOf t, (all14.map (named sg))[i]? ≠ some (named sg t)) ∧ all14.idxOf t < 14 ∧ treeAt (all14.idxOf t) = t := by
  have hlt : all14.idxOf t < all14.length := List.idxOf_lt_length_iff.mpr h
  have e14 : all14.length = 14 := by decide
  have hget : all14[all14.idxOf t]? = some t := by rw [List.getElem?_eq_getElem hlt, List.getElem_idxOf hlt]
  refine ⟨by rw [List.getElem?_map, hget]; rfl, fun i hi e => ?_, by omega, ?_⟩
  · rw [List.getElem?_map] at e
    obtain ⟨u, hu, eu⟩ := Option.map_eq_some_iff.mp e
    have hut := G.inj u (List.mem_of_getElem? hu) t h eu
    subst hut
    have hi14 : i < 14 := by omega
    have h1 := all14_idx i hi14
    have h2 := treeAt_get hi14
    rw [hu] at h2
    rw [← Option.some.inj h2] at h1
    omega
  · unfold treeAt
    rw [List.getD_eq_getElem?_getD, hget]
    rfl
theorem get_some_iff {d : List (Tree × Tab)} {t : Tree} : (getG d t).isSome = decide (t ∈ d.map (·.1)) := by
  induction d with
  | nil => rfl
  | cons p d ih =>
    unfold getG at ih ⊢
    rw [List.find?_cons, List.map_cons]
    by_cases e : p.1 = t
    · simp [e]
    · simp only [e, decide_false]
      rw [ih]
      refine decide_eq_decide.mpr ⟨fun h => .tail _ h, fun h => ?_⟩
      rcases List.mem_cons.mp h with h | h
      · exact absurd h.symm e
      · exact h
noncomputable def bothK (k1 k2 : Nat) : List Tree := (keyT k1).filter fun t => decide (t ∈ keyT k2)
theorem bothT_eq {k1 k2 : Nat} (h1 : k1 < 14) (h2 : k2 < 14) : bothT k1 k2 = bothK k1 k2 := by
  unfold bothT bothN bothK
  rw [List.take_length, keyT_eq h1]
  refine List.filter_congr fun t _ => ?_
  rw [get_some_iff, keyT_eq h2]
noncomputable def aboveT (k : Nat) : List Tree := all14.filter fun t => (List.range 4).all fun i => decide ((rests (treeAt k)).getD i 0 ≤ (rests t).getD i 0)
theorem above_all : (List.range 14).all (fun k => (keyT k).isPerm (aboveT k)) = true := by decide +kernel
theorem above_perm {k : Nat} (h : k < 14) : ((bkOf k).map (·.1)).Perm (aboveT k) := by
  rw [keyT_eq h]
  exact List.isPerm_iff.mp (List.all_eq_true.mp above_all k (List.mem_range.mpr h))
theorem both_all : (List.range 14).all (fun k1 => (List.range 14).all fun k2 => !(bothK k1 k2).isEmpty && (bothK k1 k2).isPerm (aboveT (all14.idxOf (greatT lt0 (bothK k1 k2))))) = true := by decide +kernel
theorem both_perm {k1 k2 : Nat} (h1 : k1 < 14) (h2 : k2 < 14) : (bothT k1 k2).Perm (aboveT (all14.idxOf (greatT lt0 (bothT k1 k2)))) := by
  rw [bothT_eq h1 h2]
  have := List.all_eq_true.mp (List.all_eq_true.mp both_all k1 (List.mem_range.mpr h1)) k2 (List.mem_range.mpr h2)
  rw [Bool.and_eq_true] at this
  exact List.isPerm_iff.mp this.2
theorem both_ok {k1 k2 : Nat} (h1 : k1 < 14) (h2 : k2 < 14) : bothT k1 k2 ≠ [] := by
  rw [bothT_eq h1 h2]
  have := List.all_eq_true.mp (List.all_eq_true.mp both_all k1 (List.mem_range.mpr h1)) k2 (List.mem_range.mpr h2)
  rw [Bool.and_eq_true] at this
  intro e
  rw [e] at this
  exact absurd this.1 (by decide)
theorem both_in {k1 k2 : Nat} (h1 : k1 < 14) : (∀ t ∈ bothT k1 k2, t ∈ all14) ∧ (bothT k1 k2).length < 64 := by
  refine ⟨fun t ht => ?_, ?_⟩
  · have h := (List.mem_filter.mp ht).1
    obtain ⟨p, hp, rfl⟩ := List.mem_map.mp h
    exact (bk_small h1).2 p (List.mem_of_mem_take hp)
  · refine Nat.lt_of_le_of_lt (List.length_filter_le _ _) ?_
    rw [List.length_map, List.length_take]
    have := (bk_small h1).1
    omega
/-- a tuple of the last loop: a number of a tree and a list of names -/
noncomputable def MetV (sg : Nat → Nat) (nw : List (Addr × Obj)) (v : Value) : Prop := ∃ T kc tk nT M vM nM Kc, v = .ref T ∧ (T, tupO (.int ((kc : Nat) : Int) tk) (.ref M) nT) ∈ nw ∧ (M, listO vM nM) ∈ nw ∧ StrsAre vM (List.map (named sg) Kc) ∧ kc < 14 ∧ Kc.Perm (aboveT kc) ∧ (∀ t ∈ Kc, t ∈ all14) ∧ Kc.length < 64
theorem last_addrs {h₀ h : Heap} {L LT T1 T2 T3 : Addr} {o3 o2 oM2 o1 : Obj} {M2 : Addr} {n : Nat} {l : List (Addr × Obj)} (_ : News h₀ L h ((LT, W.listOf #[.ref T1, .ref T2, .ref T3] n) :: (T3, o3) :: (T2, o2) :: (M2, oM2) :: (T1, o1) :: l)) : ∃ a b c d, a = LT ∧ b = T1 ∧ c = T2 ∧ d = T3 := ⟨_, _, _, _, rfl, rfl, rfl, rfl⟩
noncomputable def lowIdx (kc i h : Nat) : List Int := ((List.range h).filter fun j => decide ((rests (treeAt i)).getD j 0 < (rests (treeAt kc)).getD j 0)).map fun (j : Nat) => (j : Int)
theorem lowIdx_yes {kc i h : Nat} (e : (rests (treeAt i)).getD h 0 < (rests (treeAt kc)).getD h 0) : lowIdx kc i (h + 1) = lowIdx kc i h ++ [(h : Int)] := by
  unfold lowIdx
  rw [List.range_succ, List.filter_append, List.map_append, List.filter_cons_of_pos (by simpa using e)]
  rfl
theorem lowIdx_no {kc i h : Nat} (e : ¬ (rests (treeAt i)).getD h 0 < (rests (treeAt kc)).getD h 0) : lowIdx kc i (h + 1) = lowIdx kc i h := by
  unfold lowIdx
  rw [List.range_succ, List.filter_append, List.map_append, List.filter_cons_of_neg (by simpa using e)]
  simp
noncomputable def aboveB (kc : Nat) (t : Tree) : Bool := (List.range 4).all fun i => decide ((rests (treeAt kc)).getD i 0 ≤ (rests t).getD i 0)
noncomputable def aboveN (kc n : Nat) : List Tree := (all14.take n).filter (aboveB kc)
theorem aboveN_end (kc : Nat) : aboveN kc 14 = aboveT kc := by
  unfold aboveN aboveT aboveB
  rw [List.take_of_length_le (by decide)]
theorem lowIdx_above (kc i : Nat) : decide (lowIdx kc i 4 = []) = aboveB kc (treeAt i) := by
  unfold lowIdx aboveB
  have e : ∀ l : List Nat, decide (((l.filter fun j => decide ((rests (treeAt i)).getD j 0 < (rests (treeAt kc)).getD j 0)).map fun (j : Nat) => (j : Int)) = []) = l.all fun j => decide ((rests (treeAt kc)).getD j 0 ≤ (rests (treeAt i)).getD j 0) := by
    intro l
    rw [Bool.eq_iff_iff, decide_eq_true_iff, List.map_eq_nil_iff, List.filter_eq_nil_iff, List.all_eq_true]
    simp only [decide_eq_true_eq, Int.not_lt]
  exact e _
theorem aboveN_succ {kc i : Nat} (h : i < 14) : aboveN kc (i + 1) = aboveN kc i ++ (if aboveB kc (treeAt i) then [treeAt i] else []) := by
  unfold aboveN
  rw [take_snoc (treeAt_get h), List.filter_append]
  congr 1
  by_cases e : aboveB kc (treeAt i) = true
  · rw [if_pos e]; simp [e]
  · rw [if_neg e]; simp [e]
theorem aboveN_len (kc i : Nat) : (aboveN kc i).length ≤ 14 := by
  refine Nat.le_trans (List.length_filter_le _ _) ?_
  rw [List.length_take]
  have : all14.length = 14 := by decide
  omega
theorem ints_at : ∀ {vs : List Value} {ns : List Int}, IntsAre vs ns → ∀ {i : Nat}, i < ns.length → ∃ t, vs[i]? = some (.int (ns.getD i 0) t)
  | _, _, .nil, i, h => by simp at h
  | _, _, .cons n t _, 0, _ => ⟨t, rfl⟩
  | _, _, .cons _ _ h0, i + 1, h => by
    obtain ⟨t, e⟩ := ints_at h0 (i := i) (by simpa using h)
    exact ⟨t, by simpa using e⟩
end PartLawQ
section PartLaw
set_option maxRecDepth 100000
local macro_rules | `(tactic| walk_at "no such key") => `(tactic| skip)
local macro_rules | `(tactic| walk_at "no such key") => `(tactic| skip)
local macro_rules | `(tactic| walk_at "no such key") => `(tactic| skip)
local macro_rules | `(tactic| walk_at "no such key") => `(tactic| skip)
local macro_rules | `(tactic| walk_at "no such key") => `(tactic| skip)
local macro_rules | `(tactic| walk_at "no such key") => `(tactic| skip)
local macro_rules | `(tactic| walk_at "no such key") => `(tactic| skip)
local macro_rules | `(tactic| walk_at "no such key") => `(tactic| skip)
local macro_rules | `(tactic| walk_at "no such key") => `(tactic| skip)
local macro_rules | `(tactic| walk_at "no such key") => `(tactic| skip)
local macro_rules | `(tactic| walk_at "no such key") => `(tactic| skip)
local macro_rules | `(tactic| walk_at "no such key") => `(tactic| skip)
local macro_rules | `(tactic| walk_at "no such key") => `(tactic| skip)
local macro_rules | `(tactic| walk_at "no such key") => `(tactic| skip)
theorem off_Law : True := by
  w_top off
  trivial
local macro_rules | `(tactic| k_mem) => `(tactic| first | exact List.mem_cons_self | (refine' List.mem_cons_of_mem _ ?_; k_mem) | ktr_member)
local macro_rules | `(tactic| k_all) => `(tactic| (with_reducible assumption))
local macro_rules | `(tactic| walk_at $k:str) => if ["eval BinOp", "eval Call", "eval Subscript", "eval Compare", "isTrue Compare", "eval Tuple", "eval List"].contains k.getString then `(tactic| (k_here; k_fold)) else Lean.Macro.throwUnsupported

local macro_rules | `(tactic| walk_at $k:str) => if ["call builtin:list.index", "exec For Tuple List cons nil", "call type:list", "compareOp In str ref"].contains k.getString then `(tactic| (k_here; refine stop_here ?_)) else Lean.Macro.throwUnsupported
local macro_rules | `(tactic| walk_at "subscriptTail") => `(tactic| (k_here; (with_reducible show wpAny _ _ (subscriptTail _ _ (Value.ref _) (Value.str _ _)) _ _ _); refine stop_here ?_))
local macro_rules | `(tactic| walk_at $k:str) => if ["subscriptTail Subscript", "subscriptTail Subscript Name Name Name ref str", "subscriptTail Subscript Name Name Name ref int", "call builtin:len", "getMethod ref", "call builtin:sorted", "compareOp NotEq ref ref", "exec For Name Name cons nil", "call builtin:list.count", "setItem ref int", "subscriptTail Name Name ref int", "subscriptTail Name Subscript ref int", "subscriptTail Subscript Name ref int", "subscriptTail Name Constant ref int", "subscriptTail Subscript Name ref str", "subscriptTail Name Name ref str"].contains k.getString then `(tactic| (k_here; refine stop_here ?_)) else Lean.Macro.throwUnsupported
local macro_rules | `(tactic| walk_at "eval ListComp") => `(tactic| (k_here; (with_reducible show wpAny _ _ (eval (Expr.ListComp _ [PySem.Comprehension.mk _ _ [] _] _ _) _) _ _ _); k_dflt (refine' comp_listS (by with_unfolding_all rfl) (by decide) (by exact rfl) (by decide) (by exact rfl) ?_ (by (intro _; exact rfl)))))
local macro_rules | `(tactic| walk_at "eval ListComp") => `(tactic| (k_here; (with_reducible show wpAny _ _ (eval (Expr.ListComp _ [PySem.Comprehension.mk _ _ [_] _] _ _) _) _ _ _); k_dflt (refine' comp_rangeT (by with_unfolding_all rfl) (by decide) (by exact rfl) (by decide) (by exact rfl) ?_ (by (intro _; exact rfl)))))
local macro_rules | `(tactic| walk_at $k:str) => if ["compareOp Eq ref ref", "call builtin:list.append"].contains k.getString then `(tactic| (k_here; refine stop_here ?_)) else Lean.Macro.throwUnsupported
local macro_rules | `(tactic| walk_at "exec Assign cons ListComp") => `(tactic| (k_here; (with_reducible show wpAny _ _ (exec (Stmt.Assign [Expr.Name _ _] (Expr.ListComp _ [PySem.Comprehension.mk _ _ [] _] _ _) _) _) _ _ _); k_dflt (refine' asg_list (by exact rfl) (by exact rfl) (by exact rfl) (by with_unfolding_all rfl) (by decide) (by exact rfl) (by decide) (by exact rfl) ?_ (by (intro _; exact rfl)))))
local macro_rules | `(tactic| walk_at "exec Assign cons ListComp") => `(tactic| (k_here; (with_reducible show wpAny _ _ (exec (Stmt.Assign [Expr.Name _ _] (Expr.ListComp _ [PySem.Comprehension.mk _ _ [_] _] _ _) _) _) _ _ _); k_dflt (refine' asg_keysT (knd := PySem.strKind _ _) (by exact rfl) (by exact rfl) (by exact rfl) (by with_unfolding_all rfl) (by decide) (by exact rfl) (by decide) (by exact rfl) ?_ (by (intro _; exact rfl)))))
local macro_rules | `(tactic| walk_at "exec Assign") => `(tactic| (k_here; (with_reducible show wpAny _ _ (exec (Stmt.Assign [Expr.Name _ _] (Expr.ListComp _ [PySem.Comprehension.mk _ _ [] _] _ _) _) _) _ _ _); k_dflt (refine' asg_list (by exact rfl) (by exact rfl) (by exact rfl) (by with_unfolding_all rfl) (by decide) (by exact rfl) (by decide) (by exact rfl) ?_ (by (intro _; exact rfl)))))
local macro_rules | `(tactic| walk_at "exec Assign") => `(tactic| (k_here; (with_reducible show wpAny _ _ (exec (Stmt.Assign [Expr.Name _ _] (Expr.ListComp _ [PySem.Comprehension.mk _ _ [_] _] _ _) _) _) _ _ _); k_dflt (refine' asg_keysT (knd := PySem.strKind _ _) (by exact rfl) (by exact rfl) (by exact rfl) (by with_unfolding_all rfl) (by decide) (by exact rfl) (by decide) (by exact rfl) ?_ (by (intro _; exact rfl)))))
local macro_rules | `(tactic| walk_at "call ref") => `(tactic| (k_here; refine stop_here ?_))
theorem stop_any {P : Prop} (h : Stop P) : P := h.of
local macro_rules | `(tactic| walk_at "UnrEndW") => `(tactic| (refine stop_any ?_))
local macro_rules | `(tactic| walk_at "exec For Name Call cons nil") => `(tactic| (k_here; (rename Fr _ _ _ _ => lF'); (with_unfolding_all refine' for_range lF' ?_ (fun _ _ _ _ _ h => wpAny_pure h)); k_whole))
theorem head_addr {h₀ h : Heap} {L a : Addr} {o : Obj} {l : List (Addr × Obj)} (_ : News h₀ L h ((a, o) :: l)) : ∃ x, x = a := ⟨_, rfl⟩
theorem news_second {h₀ h : Heap} {L a : Addr} {p : Addr × Obj} {o : Obj} {l : List (Addr × Obj)} (_ : News h₀ L h (p :: (a, o) :: l)) : ∃ (_ : Unit) (x : Obj), x = o := ⟨(), _, rfl⟩
theorem news_k {h₀ h : Heap} {L a2 : Addr} {p1 p2 p3 p4 p5 p6 : Addr × Obj} {o : Obj} {l : List (Addr × Obj)} (_ : News h₀ L h (p1 :: p2 :: p3 :: p4 :: p5 :: p6 :: (a2, o) :: l)) : ∃ x, x = o := ⟨_, rfl⟩
theorem news_n {h₀ h : Heap} {L a6 : Addr} {p1 p2 p3 : Addr × Obj} {o : Obj} {l : List (Addr × Obj)} (_ : News h₀ L h (p1 :: p2 :: p3 :: (a6, o) :: l)) : ∃ x, x = o := ⟨_, rfl⟩
theorem isList_addr {h : Heap} {a : Addr} {its : Array Value} (_ : h.IsList a its) : ∃ x, x = a := ⟨_, rfl⟩
theorem news_objs6 {h₀ h : Heap} {L : Addr} {a1 a2 a3 a4 a5 a6 : Addr} {o1 o2 o3 o4 o5 o6 : Obj} {l : List (Addr × Obj)} (_ : News h₀ L h ((a6, o6) :: (a5, o5) :: (a4, o4) :: (a3, o3) :: (a2, o2) :: (a1, o1) :: l)) :
    ∃ x1 x2 x3 x4 x5 x6, x1 = o1 ∧ x2 = o2 ∧ x3 = o3 ∧ x4 = o4 ∧ x5 = o5 ∧ x6 = o6 := ⟨_, _, _, _, _, _, rfl, rfl, rfl, rfl, rfl, rfl⟩
section
open PySem.W
theorem pick_ints {vs : List Value} {ns : List Int} (h : IntsAre vs ns) (l : List Nat) : ∃ ms, IntsAre (l.filterMap (vs.toArray[·]?)) ms := by
  induction l with
  | nil => exact ⟨[], .nil⟩
  | cons i r ih =>
    obtain ⟨ms, hm⟩ := ih
    rw [List.filterMap_cons]
    cases q : vs.toArray[i]? with
    | none => exact ⟨ms, hm⟩
    | some v =>
      have q' : vs[i]? = some v := by simpa using q
      obtain ⟨n, t, rfl⟩ : ∃ n t, v = .int n t := by
        have := List.mem_of_getElem? q'
        clear q q' hm
        induction h with
        | nil => cases this
        | cons k t r ih =>
          rcases List.mem_cons.mp this with e | e
          · exact ⟨_, _, e⟩
          · exact ih e
      exact ⟨n :: ms, .cons _ _ hm⟩
variable {prog : Program} {w : World} {A : Around} {E : Value → Shared → Prop} {s : Shared} {h₀ : Heap} {L D : Addr} {m : Str → Option Value} {news : List (Addr × Obj)}
theorem sum_pick {vs : List Value} {ns : List Int} {lo hi st : Option Int} {n : Nat} {Q : Value → Shared → Prop} (hh : A.handled = none) (F : Fr h₀ L s.heap m) (N : News h₀ L s.heap news) (hm : (D, W.listOf (slicePick vs.toArray lo hi st) n) ∈ news) (hi' : IntsAre vs ns)
    (h : ∀ x h' tk t', Fr h₀ L h' m → News h₀ L h' news → Q (.int x t') { s with heap := h', toks := tk }) : wpAny (model prog w) A (call (.builtin "sum") [.ref D]) Q E s := by
  obtain ⟨ms, hms⟩ := pick_ints hi' (sliceRange (sliceBounds lo hi st vs.toArray.size).1 (sliceBounds lo hi st vs.toArray.size).2.1 (sliceBounds lo hi st vs.toArray.size).2.2)
  exact sumK hh F N ⟨_, (N _ hm).1, rfl, _, rfl⟩ hms (h _)
end
theorem txt_snoc (sg : Nat → Nat) (i c : Nat) : txt sg 0 i ++ ⟨#[c]⟩ = txt (fun j => if j = i then c else sg j) 0 (i + 1) := by
  have e : ((List.range (i + 1)).map fun j => if 0 + j = i then c else sg (0 + j)) = ((List.range i).map fun j => sg (0 + j)) ++ [c] := by
    rw [List.range_succ, List.map_append]
    congr 1
    · refine List.map_congr_left fun j hj => ?_
      rw [if_neg (by have := List.mem_range.mp hj; omega)]
    · simp
  show Str.mk (((List.range i).map fun j => sg (0 + j)).toArray ++ #[c]) = Str.mk _
  rw [e]
  simp
theorem chr_bounds (y : Int) : 33 ≤ (33 + y.fmod 90).toNat ∧ (33 + y.fmod 90).toNat < 123 := by
  have hc1 := Int.fmod_nonneg_of_pos y (by decide : (0 : Int) < 90)
  have hc2 := Int.fmod_lt_of_pos y (by decide : (0 : Int) < 90)
  omega
theorem upd_bounds {sg : Nat → Nat} {i c : Nat} (h : ∀ k < i, 33 ≤ sg k ∧ sg k < 123) (hc : 33 ≤ c ∧ c < 123) : ∀ k < i + 1, 33 ≤ (if k = i then c else sg k) ∧ (if k = i then c else sg k) < 123 := by
  intro k hk
  by_cases e : k = i
  · rw [if_pos e]; exact hc
  · rw [if_neg e]; exact h k (by omega)
theorem off6' {I a1 a2 a3 a4 a5 a6 : Addr} {o1 o2 o3 o4 o5 o6 : Obj} (n6 : @Ne Nat I a6) (n5 : @Ne Nat I a5) (n4 : @Ne Nat I a4) (n3 : @Ne Nat I a3) (n2 : @Ne Nat I a2) (n1 : @Ne Nat I a1) : ∀ p ∈ (a6, o6) :: (a5, o5) :: (a4, o4) :: (a3, o3) :: (a2, o2) :: (a1, o1) :: [], p.1 ≠ I := by
  intro p hp
  simp only [List.mem_cons, List.not_mem_nil, or_false] at hp
  rcases hp with rfl | rfl | rfl | rfl | rfl | rfl
  · exact Ne.symm n6
  · exact Ne.symm n5
  · exact Ne.symm n4
  · exact Ne.symm n3
  · exact Ne.symm n2
  · exact Ne.symm n1
theorem off6 {I a1 a2 a3 a4 a5 a6 : Addr} {o1 o2 o3 o4 o5 o6 : Obj} {l : List (Addr × Obj)} (h : ∀ p ∈ (a6, o6) :: (a5, o5) :: (a4, o4) :: (a3, o3) :: (a2, o2) :: (a1, o1) :: l, p.1 ≠ I) :
    (@Ne Nat I a6) ∧ (@Ne Nat I a5) ∧ (@Ne Nat I a4) ∧ (@Ne Nat I a3) ∧ (@Ne Nat I a2) ∧ (@Ne Nat I a1) :=
  ⟨Ne.symm (h _ (.head _)), Ne.symm (h _ (.tail _ (.head _))), Ne.symm (h _ (.tail _ (.tail _ (.head _)))), Ne.symm (h _ (.tail _ (.tail _ (.tail _ (.head _))))), Ne.symm (h _ (.tail _ (.tail _ (.tail _ (.tail _ (.head _)))))), Ne.symm (h _ (.tail _ (.tail _ (.tail _ (.tail _ (.tail _ (.head _))))))) ⟩
set_option maxHeartbeats 8000000 in
theorem law_holds : PySem.Challenge.rw_zn0006_01.Holds := hd (by
  k_go0
  all_goals try k_fold
  rename World => w
  rename (Mine.hd.heap_39 _).In _ => KX
  rename Top _ _ _ _ _ _ => KT
  rename Below _ _ _ _ => KB
  rename Heap.IsList _ _ _ => hLs
  rename IntsAre _ _ => hInts
  rename CellsAre _ _ _ => hCells
  clear hCells
  rename List Value => scr
  obtain ⟨aS, eS⟩ := isList_addr hLs
  subst eS
  rename News _ _ _ _ => N0
  obtain ⟨c1, c2, c3, c4, c5, c6, e1, e2, e3, e4, e5, e6⟩ := news_objs6 N0
  subst e1 e2 e3 e4 e5 e6
  have d1 : c1.data = Data.cell none := by assumption
  have d2 : c2.data = Data.cell none := by assumption
  have d3 : c3.data = Data.cell none := by assumption
  have d4 : c4.data = Data.cell none := by assumption
  have d5 : c5.data = Data.cell none := by assumption
  have d6 : c6.data = Data.cell none := by assumption
  rename Shared => s1
  k_steps
  rename IsRange _ _ _ _ _ _ _ _ => hr0
  rename Fr _ _ _ _ => F1
  rename News _ _ _ _ => N1
  rename _ = Data.cell _ => d1s
  refine ⟨⟨_, 0, 5, _, _, _, 5, _, _, fun i m nw => Kn m [(Str.ofString "script", .ref aS)] ∧ ∃ (sg : Nat → Nat) (o1 o2 : Obj) (t : Tok), nw = (s1.heap.objs.size + 1 + 1 + 1 + 1 + 1 + 1, c6) :: (s1.heap.objs.size + 1 + 1 + 1 + 1 + 1, c5) :: (s1.heap.objs.size + 1 + 1 + 1 + 1, c4) :: (s1.heap.objs.size + 1 + 1 + 1, c3) :: (s1.heap.objs.size + 1 + 1, o2) :: (s1.heap.objs.size + 1, o1) :: [] ∧
      o1.data = .cell (some (.str (txt sg 0 i) t)) ∧ (∃ x, o2.data = .cell x) ∧ ∀ k < i, 33 ≤ sg k ∧ sg k < 123,
    rfl, rfl, F1, N1, hr0, by decide, by decide, ⟨⟨rfl, trivial⟩, fun _ => 0, _, _, _, rfl, d1s, ⟨_, d2⟩, fun _ h => nomatch h⟩, ?_, ?_⟩⟩
  · rintro i ti m2 nw2 I h2 tk2 o hi2 zz1 F2 hc off N2
    try dsimp only
    try k_fold
    obtain ⟨hkn, sg, o1, o2, t1, rfl, q1, ⟨x2, q2⟩, hsg⟩ := zz1
    replace F2 := fr_kn F2 hkn
    dsimp only [knows] at F2
    clear d1s d1 d2 F1 N1 hr0
    try k_fold
    obtain ⟨nI6, nI5, nI4, nI3, nI2, nI1⟩ := off6 off
    (try dsimp only)
    rw [Int.zero_add]
    k_steps
    rename Fr _ _ _ _ => F3
    rename News _ _ _ _ => N3
    refine sum_pick rfl F3 N3 (.head _) hInts ?_
    clear F3 N3
    intro x h4 tk4 t4 F4 N4
    replace N4 := kti_tail N4
    (try dsimp only)
    k_steps
    refine PyProof.Rows.add_str ?_ (by rw [txt_len, sizeLine_eq]; show i + 1 ≤ _; omega)
    intro t5 tk5
    rw [txt_snoc]
    have hcb := chr_bounds (64 + (i : Int) + x)
    generalize hcx : (33 + (64 + (i : Int) + x).fmod 90).toNat = cx at hcb ⊢
    k_steps
    rename Fr _ _ _ _ => F6
    rename News _ _ _ _ => N6
    rename _ = Data.cell (some (Value.str _ _)) => q5
    rename _ = Data.cell (some (Value.int _ _)) => q6
    exact ⟨turn_end F6 N6 _ (.head _) (fun p hp => ⟨.tail _ hp, off6' nI6 nI5 nI4 nI3 nI2 nI1 p hp⟩) trivial ⟨⟨rfl, trivial⟩, fun j => if j = i then cx else sg j, _, _, t5, rfl, q5, ⟨_, q6⟩, upd_bounds hsg hcb⟩⟩
  · rintro m2 nw2 h2 tk2 zz2 F2 N2
    try dsimp only
    try k_fold
    obtain ⟨hkn, sg, o1, o2, t1, rfl, q1, ⟨x2, q2⟩, hsg⟩ := zz2
    replace F2 := fr_kn F2 hkn
    dsimp only [knows] at F2
    clear d1s d1 d2 F1 N1 hr0
    (try dsimp only)
    k_steps
    refine ⟨?_⟩
    k_dflt (refine' con_use ?k1 ?k2 ?k3 ?k4 ?k5 (trees_c w sg 5 0 5 _ _ (by decide) (by decide) (by decide)) ?kf ?kK ?kd ?ku ?_; ((case k1 => k_asm); (case k2 => k_asm); (case k3 => k_asm); (case k4 => k_asm); (case k5 => k_asm); (case kf => first | exact rfl | assumption); (case kK => first | exact rfl | assumption); (case kd => ktr_room); (case ku => ktr_units)))
    intro r3 all3 h3 tk3 F3 N3 sub3 ho3
    try k_fold
    obtain ⟨aT, vT, nT, e3, hmT, hpT⟩ := ho3
    subst e3
    try k_fold
    obtain ⟨nw4, N4, of4, -, new4⟩ := pull6 (b := s1.heap.objs.size) (nw := []) N3 (fun p hp => sub3 p hp) (OffA.nil _) ⟨_, q1⟩ ⟨_, q2⟩ ⟨_, d3⟩ ⟨_, d4⟩ ⟨_, d5⟩ ⟨_, d6⟩
    dsimp only [six] at N4
    have hmT4 := new4 _ hmT list_notC
    have hpT4 : Paired (TreeIn sg nw4) vT all14 := paired_mono (fun v t h => h.tup fun a v1 v2 n hm => new4 _ hm tup_notC) hpT
    clear N3 sub3 new4 hpT hmT N2 F2
    try k_fold
    obtain ⟨o46, o45, o44, o43, o42, o41⟩ := of4.six
    (try dsimp only)
    k_steps
    rename Fr _ _ _ _ => F5
    rename News _ _ _ _ => N5
    rename _ = Data.cell (some (Value.ref _)) => d3s
    clear d3
    refine ⟨⟨_, _, _, aT, vT.toArray, _, _, rfl, rfl, F5, N5, .inr ⟨_, .tail _ (.tail _ (.tail _ (.tail _ (.tail _ (.tail _ hmT4))))), rfl, _, rfl⟩, by rw [List.size_toArray, hpT4.length]; decide,
      fun g => rest_of (fun i ys nw' => ∃ nw2, nw' = six s1.heap.objs.size c6 c5 c4 _ o2 o1 nw2 ∧ OffA (cellAs s1.heap.objs.size) nw2 ∧ (∀ p ∈ nw4, p ∈ nw2) ∧ Paired (IntsIn nw2) ys ((all14.take i).map rests)) ?_ (fun _ _ j => j) _ 0 [] _ (Nat.zero_add _) ⟨nw4, rfl, of4, fun _ h => h, .nil⟩, ?_⟩⟩
    · rintro i v ys nw' I6 oI6 C6 oC6 D6 m6 h6 tk6 E6 hi6 zz3 hP6 hC6 hx6 F6 N6 off6 ne6
      try dsimp only
      try k_fold
      obtain ⟨nw2, rfl, of2, sub2, hp2⟩ := zz3
      try k_fold
      obtain ⟨t, ht, htin⟩ := paired_get hpT4 (by simpa using hP6 : vT[i]? = some v)
      dsimp only [six] at N6
      clear F5 N5 N4
      have htS := List.mem_of_getElem? ht
      have htsz := all14_sz t htS
      (try dsimp only)
      k_steps
      refine ⟨?_⟩
      k_dflt (refine' con_use ?k1 ?k2 ?k3 ?k4 ?k5 (rests_c w sg t ?kR) ?kf ?kK ?kd ?ku ?_; ((case k1 => k_asm); (case k2 => k_asm); (case k3 => k_asm); (case k4 => k_asm); (case k5 => k_asm); (case kf => first | exact rfl | assumption); (case kK => first | exact rfl | assumption); (case kd => ktr_room); (case ku => ktr_units)); (case kR => exact htin.mono fun p hp => by simp [sub2 p hp]))
      intro r7 all7 h7 tk7 F7 N7 sub7 ho7
      try k_fold
      obtain ⟨a7, vs7, n7, e7, hm7, hi7, fr7⟩ := ho7
      subst e7
      try k_fold
      obtain ⟨nw8, N8, of8, off8, s8, new8⟩ := pull9 N7 sub7 of2 off6
      clear N7
      k_steps
      refine LCg.CompEnd.intro F7 N8 _ (fun _ h => h) off8 (.inr ⟨_, .tail _ (.tail _ (.tail _ (.tail _ (.tail _ (.tail _ (s8 _ (sub2 _ hmT4))))))), rfl, _, rfl⟩) ⟨nw8, rfl, of8, fun p hp => s8 p (sub2 p hp), ?_⟩
      rw [take_snoc ht, List.map_append]
      exact paired_app (.cons ⟨_, _, _, rfl, new8 _ hm7 fun q hq => Ne.symm (fr7 q hq), hi7⟩ .nil) (paired_mono (fun _ _ h => h.mono s8) hp2)
    · rintro ys nw' D6 h6 tk6 zz4 F6 N6 o16
      try dsimp only
      try k_fold
      obtain ⟨nw2, rfl, of2, sub2, hp2⟩ := zz4
      try k_fold
      obtain ⟨N7, of7⟩ := behind6 N6 of2 o16
      dsimp only [six] at N7
      clear N6 F5 N5 N4
      rw [List.size_toArray, hpT4.length, List.take_length] at hp2
      try k_fold
      obtain ⟨o76, o75, o74, o73, o72, o71⟩ := of7.six
      (try dsimp only)
      k_steps
      rename Fr _ _ _ _ => F8
      rename News _ _ _ _ => N8
      rename _ = Data.cell (some (Value.ref _)) => d4s
      clear d4
      try k_fold
      obtain ⟨nwR, hnwR⟩ : ∃ l, l = (D6, LCg.lst ys) :: nw2 := ⟨_, rfl⟩
      rw [← hnwR] at N8 o76 o75 o74 o73 o72 o71 of7
      have hmR : (D6, listO ys ys.length) ∈ nwR := by rw [hnwR]; exact .head _
      have hpR : Paired (IntsIn nwR) ys (all14.map rests) := paired_mono (fun _ _ h => h.mono fun p hp => by rw [hnwR]; exact .tail _ hp) hp2
      have hmT5 : (aT, listO vT nT) ∈ nwR := by rw [hnwR]; exact .tail _ (sub2 _ hmT4)
      have hpT5 : Paired (TreeIn sg nwR) vT all14 := paired_mono (fun _ _ h => h.mono fun p hp => by rw [hnwR]; exact .tail _ (sub2 _ hp)) hpT4
      clear hnwR hp2 o16 hmT4 hpT4 sub2 of2 of4 o46 o45 o44 o43 o42 o41
      refine ⟨⟨_, _, D6, ys.toArray, _, _, rfl, rfl, F8, N8, .inr ⟨_, .tail _ (.tail _ (.tail _ (.tail _ (.tail _ (.tail _ hmR))))), rfl, _, rfl⟩, by rw [List.size_toArray, hpR.length]; decide,
        fun g => rest_of (fun i ys nw' => ∃ nw2, nw' = six s1.heap.objs.size c6 c5 _ _ o2 o1 nw2 ∧ OffA (cellAs s1.heap.objs.size) nw2 ∧ (∀ p ∈ nwR, p ∈ nw2) ∧ StrsAre ys ((all14.take i).map (named sg))) ?_ (fun _ _ j => j) _ 0 [] _ (Nat.zero_add _) ⟨nwR, rfl, of7, fun _ h => h, .nil⟩, ?_⟩⟩
      · rintro i v zs nw' I9 oI9 C9 oC9 D9 m9 h9 tk9 E9 hi9 zz5 hP9 hC9 hx9 F9 N9 off9 ne9
        try dsimp only
        try k_fold
        obtain ⟨nw3, rfl, of3, sub3, hp3⟩ := zz5
        try k_fold
        obtain ⟨row, hrow, ar, vr, nr, er, hmr, hir⟩ := paired_get hpR (by simpa using hP9 : ys[i]? = some v)
        subst er
        try k_fold
        obtain ⟨t, ht, hte⟩ := List.getElem?_map .. ▸ hrow |> Option.map_eq_some_iff.mp
        subst hte
        have htS := List.mem_of_getElem? ht
        have hro := rests_ok t htS
        dsimp only [six] at N9
        clear F8 N8
        (try dsimp only)
        k_steps
        refine ⟨?_⟩
        k_dflt (refine' con_use ?k1 ?k2 ?k3 ?k4 ?k5 (spelled_c w sg (n := nr) ?kR hir hro.1 hro.2) ?kf ?kK ?kd ?ku ?_; ((case k1 => k_asm); (case k2 => k_asm); (case k3 => k_asm); (case k4 => k_asm); (case k5 => k_asm); (case kf => first | exact rfl | assumption); (case kK => first | exact rfl | assumption); (case kd => ktr_room); (case ku => ktr_units)); (case kR => exact .tail _ (.tail _ (.tail _ (.tail _ (.tail _ (.tail _ (.tail _ (.tail _ (.tail _ (sub3 _ hmr)))))))))))
        intro r7 all7 h7 tk7 F7 N7 sub7 ho7
        try k_fold
        obtain ⟨t7, e7⟩ := ho7
        subst e7
        try k_fold
        obtain ⟨nw8, N8, of8, off8, s8, new8⟩ := pull9 N7 sub7 of3 off9
        clear N7
        k_steps
        refine LCg.CompEnd.intro F7 N8 _ (fun _ h => h) off8 (.inr ⟨_, .tail _ (.tail _ (.tail _ (.tail _ (.tail _ (.tail _ (s8 _ (sub3 _ hmR))))))), rfl, _, rfl⟩) ⟨nw8, rfl, of8, fun p hp => s8 p (sub3 p hp), ?_⟩
        rw [take_snoc ht, List.map_append, spelled_named sg t htS]
        exact kct_snoc hp3
      · rintro zs nw' D9 h9 tk9 zz6 F9 N9 o19
        try dsimp only
        try k_fold
        obtain ⟨nw3, rfl, of3, sub3, hp3⟩ := zz6
        try k_fold
        obtain ⟨N7, of7⟩ := behind6 N9 of3 o19
        dsimp only [six] at N7
        clear N9 F8 N8
        rw [List.size_toArray, hpR.length, List.length_map, List.take_length] at hp3
        (try dsimp only)
        try k_fold
        obtain ⟨nwN, hnwN⟩ : ∃ l, l = (D9, LCg.lst zs) :: nw3 := ⟨_, rfl⟩
        rw [← hnwN] at N7 of7
        try k_fold
        obtain ⟨o76, o75, o74, o73, o72, o71⟩ := of7.six
        have hmN : (D9, listO zs zs.length) ∈ nwN := by rw [hnwN]; exact .head _
        have sbN : ∀ p ∈ nwR, p ∈ nwN := fun p hp => by rw [hnwN]; exact .tail _ (sub3 p hp)
        replace hmR := sbN _ hmR
        replace hpR := paired_mono (fun _ _ h => IntsIn.mono h sbN) hpR
        replace hmT5 := sbN _ hmT5
        replace hpT5 := paired_mono (fun _ _ h => TreeIn.mono h sbN) hpT5
        clear hnwN sbN o19 sub3 of3
        k_steps
        rename Fr _ _ _ _ => F3
        rename News _ _ _ _ => N3
        refine sum_pick rfl F3 N3 (.head _) hInts ?_
        clear F3 N3
        intro x1 h4 tk4 t4 F4 N4
        replace N4 := kti_tail N4
        (try dsimp only)
        k_steps
        rename Fr _ _ _ _ => F3
        rename News _ _ _ _ => N3
        refine sum_pick rfl F3 N3 (.head _) hInts ?_
        clear F3 N3
        intro x2 h5 tk5 t5 F5 N5
        replace N5 := kti_tail N5
        (try dsimp only)
        k_steps
        rename Fr _ _ _ _ => F6
        rename News _ _ _ _ => N6
        try k_fold
        obtain ⟨aC, eaC⟩ := head_addr N6
        subst eaC
        rename _ < _ ∧ _ => lC
        try k_fold
        obtain ⟨k1, hk1, e1⟩ := mod14 (10 + x1)
        try k_fold
        obtain ⟨k2, hk2, e2⟩ := mod14 (8 + x2)
        rw [e1, e2] at N6
        try k_fold
        obtain ⟨u1, u2, nC, eu1, eu2, enC⟩ := head_ints2 N6
        try k_fold
        obtain ⟨N7, of8⟩ := behind6 N6 of7 (off1_of_lt lC)
        dsimp only [six] at N7
        rw [← eu1, ← eu2, ← enC] at N7 of8
        clear N6 eu1 eu2 enC
        have hG := good_of hsg
        try k_fold
        obtain ⟨nwC, hnwC⟩ : ∃ l, l = (aC, W.listOf #[Value.int k1 u1, Value.int k2 u2] nC) :: nwN := ⟨_, rfl⟩
        rw [← hnwC] at N7 of8
        try k_fold
        obtain ⟨o86, o85, o84, o83, o82, o81⟩ := of8.six
        have hmC : (aC, listO [Value.int k1 u1, Value.int k2 u2] nC) ∈ nwC := by rw [hnwC]; exact .head _
        have sbC : ∀ p ∈ nwN, p ∈ nwC := fun p hp => by rw [hnwC]; exact .tail _ hp
        replace hmN := sbC _ hmN
        replace hmR := sbC _ hmR
        replace hpR := paired_mono (fun _ _ h => IntsIn.mono h sbC) hpR
        replace hmT5 := sbC _ hmT5
        replace hpT5 := paired_mono (fun _ _ h => TreeIn.mono h sbC) hpT5
        clear hnwC sbC o76 o75 o74 o73 o72 o71 of7
        have hpC : Paired (fun v (k : Nat) => ∃ u, v = Value.int (k : Int) u) [Value.int k1 u1, Value.int k2 u2] [k1, k2] := .cons ⟨_, rfl⟩ (.cons ⟨_, rfl⟩ .nil)
        have hkk : ∀ k ∈ [k1, k2], k < 14 := by simp [hk1, hk2]
        refine ⟨⟨_, _, _, aC, [Value.int k1 u1, Value.int k2 u2].toArray, _, _, rfl, rfl, F6, N7, .inr ⟨_, .tail _ (.tail _ (.tail _ (.tail _ (.tail _ (.tail _ hmC))))), rfl, _, rfl⟩, by show 2 ≤ sizeLine; rw [sizeLine_eq]; decide,
          fun g => rest_of (fun i ys nw' => ∃ nw2, nw' = six s1.heap.objs.size c6 c5 _ _ o2 o1 nw2 ∧ OffA (cellAs s1.heap.objs.size) nw2 ∧ (∀ p ∈ nwC, p ∈ nw2) ∧ Paired (fun v k => BookIn w [] nw2 v (mapK (named sg) (bkOf k))) ys ([k1, k2].take i)) ?_ (fun _ _ j => j) _ 0 [] _ (Nat.zero_add _) ⟨nwC, rfl, of8, fun _ h => h, .nil⟩, ?_⟩⟩
        · rintro i v bs nw' I9 oI9 C9 oC9 D10 m9 h9 tk9 E9 hi9 zz7 hP9 hC9 hx9 F9 N9 off9 ne9
          try dsimp only
          try k_fold
          obtain ⟨nw3, rfl, of3, sub3, hp4⟩ := zz7
          try k_fold
          obtain ⟨k, hk, u, ev⟩ := paired_get hpC (by simpa using hP9 : [Value.int k1 u1, Value.int k2 u2][i]? = some v)
          subst ev
          have hk14 := hkk k (List.mem_of_getElem? hk)
          have htg := treeAt_get hk14
          have htS := treeAt_mem hk14
          try k_fold
          obtain ⟨vt, hvt, htin⟩ := paired_get' hpT5 htg
          dsimp only [six] at N9
          clear F6 N7
          (try dsimp only)
          k_steps
          rename News _ _ _ _ => N10
          refine ⟨kim_list (l := vT) N10 (.tail _ (.tail _ (.tail _ (.tail _ (.tail _ (.tail _ (.tail _ (.tail _ (.tail _ (sub3 _ hmT5)))))))))) rfl rfl (Int.natCast_nonneg _) (Int.lt_of_lt_of_le (Int.ofNat_lt.mpr hk14) (by decide)) (by rw [Int.toNat_natCast]; exact hvt) ?_⟩
          k_steps
          refine ⟨?_⟩
          k_dflt (refine' conS_bot ?k1 ?k2 ?k3 ?k4 ?k5 KX KT (book_c w hG htS ?kR (nOf_chk htS)) ?kf ?kK ?kd ?ku ?_; ((case k1 => k_asm); (case k2 => k_asm); (case k3 => k_asm); (case k4 => k_asm); (case k5 => k_asm); (case kf => first | exact rfl | assumption); (case kK => first | exact rfl | assumption); (case kd => ktr_room); (case ku => ktr_units)); (case kR => exact htin.mono fun p hp => by simp [sub3 p hp]))
          intro r7 all7 h7 tk7 F7 N7 sub7 ho7
          try k_fold
          obtain ⟨nw8, N8, of9, off8, s8, new8⟩ := pull9 N7 sub7 of3 off9
          clear N7
          k_steps
          refine LCg.CompEnd.intro F7 N8 _ (fun _ h => h) off8 (.inr ⟨_, .tail _ (.tail _ (.tail _ (.tail _ (.tail _ (.tail _ (s8 _ (sub3 _ hmC))))))), rfl, _, rfl⟩) ⟨nw8, rfl, of9, fun p hp => s8 p (sub3 p hp), ?_⟩
          rw [take_snoc hk]
          have hp8 : Paired (fun v (k : Nat) => BookIn w [] nw8 v (mapK (named sg) (bkOf k))) bs ([k1, k2].take i) := paired_mono (fun _ _ h => BookIn.mono h s8) hp4
          have hp9 : Paired (fun v (k : Nat) => BookIn w [] nw8 v (mapK (named sg) (bkOf k))) [r7] [k] := .cons (BookIn.move ho7 new8) .nil
          exact paired_app hp9 hp8
        · rintro bs nw' D10 h9 tk9 zz8 F9 N9 o19
          try dsimp only
          try k_fold
          obtain ⟨nw3, rfl, of3, sub3, hp4⟩ := zz8
          try k_fold
          obtain ⟨N7, of9⟩ := behind6 N9 of3 o19
          dsimp only [six] at N7
          clear N9 F6
          have hp5 : Paired (fun v k => BookIn w [] nw3 v (mapK (named sg) (bkOf k))) bs [k1, k2] := hp4
          clear hp4
          (try dsimp only)
          try k_fold
          obtain ⟨nwB, hnwB⟩ : ∃ l, l = (D10, LCg.lst bs) :: nw3 := ⟨_, rfl⟩
          rw [← hnwB] at N7 of9
          try k_fold
          obtain ⟨o96, o95, o94, o93, o92, o91⟩ := of9.six
          have hmB : (D10, listO bs bs.length) ∈ nwB := by rw [hnwB]; exact .head _
          have sbB : ∀ p ∈ nw3, p ∈ nwB := fun p hp => by rw [hnwB]; exact .tail _ hp
          replace hmN := sbB _ (sub3 _ hmN)
          replace hmR := sbB _ (sub3 _ hmR)
          replace hmC := sbB _ (sub3 _ hmC)
          replace hpR := paired_mono (fun _ _ h => IntsIn.mono h fun p hp => sbB _ (sub3 _ hp)) hpR
          replace hp5 := paired_mono (fun _ _ h => BookIn.mono h sbB) hp5
          clear hnwB sbB o19 sub3 of3 o86 o85 o84 o83 o82 o81 of8 hmT5 hpT5
          k_steps
          rename _ = Data.cell (some (Value.ref _)) => d5s
          rename IsRange _ _ _ _ _ _ _ _ => hrB
          rename Fr _ _ _ _ => F10
          rename News _ _ _ _ => N10
          clear d5
          try k_fold
          obtain ⟨y1, y2, y3, y4, y5, y6, ex1, ex2, ex3, ex4, ex5, ex6⟩ := news_objs6 N10
          subst ex1 ex2 ex3 ex4 ex5 ex6
          refine ⟨⟨_, 0, 2, _, _, _, 2, _, _, fun i m nw => Kn m [(Str.ofString "names", .ref D9), (Str.ofString "chosen", .ref aC)] ∧ ∃ z6 nw2, nw = six s1.heap.objs.size z6 y5 y4 y3 y2 y1 nw2 ∧ IsC z6 ∧ OffA (cellAs s1.heap.objs.size) nw2 ∧ (∀ p ∈ nwB, p ∈ nw2),
            rfl, rfl, F10, N10, hrB, by decide, by decide, ⟨⟨rfl, rfl, trivial⟩, y6, nwB, rfl, ⟨_, d6⟩, of9, fun _ h => h⟩, ?_, ?_⟩⟩
          · rintro i ti m11 nw11 I h11 tk11 o hi11 zz9 F11 hc off11 N11
            try dsimp only
            try k_fold
            obtain ⟨hkn11, z6, nw2, rfl, ⟨xz, hz6⟩, of11, sb11⟩ := zz9
            dsimp only [six] at N11
            replace F11 := fr_kn F11 hkn11
            dsimp only [knows] at F11
            try k_fold
            obtain ⟨o6, o5, o4, o3, o2, o1⟩ := of11.six
            try k_fold
            obtain ⟨nI6, nI5, nI4, nI3, nI2, nI1⟩ := off6 off11
            try k_fold
            obtain ⟨kk, hkk1⟩ : ∃ kk, [k1, k2][i]? = some kk := ⟨_, List.getElem?_eq_getElem (by simpa using hi11)⟩
            try k_fold
            obtain ⟨vC, hvC, uC, evC⟩ := paired_get' hpC hkk1
            subst evC
            have hk14 := hkk kk (List.mem_of_getElem? hkk1)
            try k_fold
            obtain ⟨vR, hvR, aR, vr, nr, eR, hmr, hir⟩ := paired_get' hpR (i := kk) (y := rests (treeAt kk)) (by rw [List.getElem?_map, treeAt_get hk14]; rfl)
            subst eR
            try k_fold
            obtain ⟨vB, hvB, aB, oB, kvB, eB, loB, hmBk, -, hkB, hdB⟩ := paired_get' hp5 hkk1
            subst eB
            clear F10 N10 hrB
            (try dsimp only)
            rw [Int.zero_add]
            k_steps
            rename News _ _ _ _ => N12
            rename _ = Data.cell (some (Value.int _ _)) => hz7
            try k_fold
            obtain ⟨I9, z7, hz79⟩ := news_second N12
            subst hz79
            refine ⟨kim_list (l := [Value.int k1 u1, Value.int k2 u2]) N12 (.tail _ (.tail _ (.tail _ (.tail _ (.tail _ (.tail _ (.tail _ (sb11 _ hmC)))))))) rfl rfl (Int.natCast_nonneg _) (Int.lt_of_lt_of_le (Int.ofNat_lt.mpr hi11) (by decide)) (by rw [Int.toNat_natCast]; exact hvC) ?_⟩
            k_steps
            rename News _ _ _ _ => N13
            refine ⟨kim_list (l := ys) N13 (.tail _ (.tail _ (.tail _ (.tail _ (.tail _ (.tail _ (.tail _ (sb11 _ hmR)))))))) rfl rfl (Int.natCast_nonneg _) (Int.lt_of_lt_of_le (Int.ofNat_lt.mpr hk14) (by decide)) (by rw [Int.toNat_natCast]; exact hvR) ?_⟩
            k_steps
            have hDue := due_ok (treeAt_mem hk14)
            refine ⟨?_⟩
            k_dflt (refine' con_use ?k1 ?k2 ?k3 ?k4 ?k5 (due_c w (vn := .none) (row := rests (treeAt kk)) (K := kW (treeAt kk)) (rs := rows14) (ns := all14.map (named sg)) (n0 := nr) (nn := zs.length) ?m1 hir hDue.len hDue.go hDue.ok hDue.hK ?m2 ?h4 ?m3 hp3 ?h14 ?hz hDue.inR) ?kf ?kK ?kd ?ku ?_; ((case k1 => k_asm); (case k2 => k_asm); (case k3 => k_asm); (case k4 => k_asm); (case k5 => k_asm); (case kf => first | exact rfl | assumption); (case kK => first | exact rfl | assumption); (case kd => ktr_room); (case ku => ktr_units)))
            case m1 => exact .tail _ (.tail _ (.tail _ (.tail _ (.tail _ (.tail _ (.tail _ (sb11 _ hmr)))))))
            case m2 => exact ⟨_, _, _, rfl, .tail _ (.tail _ (.tail _ (.tail _ (.tail _ (.tail _ (.tail _ (sb11 _ hmR))))))), paired_mono (fun _ _ h => IntsIn.mono h fun p hp => .tail _ (.tail _ (.tail _ (.tail _ (.tail _ (.tail _ (.tail _ (sb11 _ hp)))))))) hpR⟩
            case h4 =>
              intro r hr
              try k_fold
              obtain ⟨t, ht, rfl⟩ := List.mem_map.mp hr
              exact (rests_ok t ht).1
            case m3 => exact .tail _ (.tail _ (.tail _ (.tail _ (.tail _ (.tail _ (.tail _ (sb11 _ hmN)))))))
            case h14 => exact Nat.le_of_eq (by rw [rows14, List.length_map, List.length_map])
            case hz => rw [rows14, List.length_map]; decide
            intro r14 allD h14 tk14 F14 N14 sub14 ho14
            try k_fold
            obtain ⟨aD, oD, eD, loD, hmD, kvD, hkD, hdD⟩ := ho14
            subst eD
            try k_fold
            obtain ⟨nw3, N15, of15, sb15, new15⟩ := pull6 (b := s1.heap.objs.size) (c6 := z7) (nw := (I, o) :: nw2) N14 (fun p hp => sub14 p (six_back [_] hp)) (of11.cons nI6 nI5 nI4 nI3 nI2 nI1) ⟨_, q1⟩ ⟨_, q2⟩ ⟨_, d3s⟩ ⟨_, d4s⟩ ⟨_, d5s⟩ ⟨_, hz7⟩
            dsimp only [six] at N15
            have hI3 := sb15 _ (.head _)
            have hmD3 := new15 _ hmD (dict_notC hkD)
            have hdD3 : DR (IntsIn nw3) kvD (mapK (named sg) (dueT (treeAt kk))) := by
              rw [← dueM_T hG (treeAt_mem hk14)]
              exact hdD.mono fun v b hv => by
                try k_fold
                obtain ⟨a, vs, n, e, hm, hi⟩ := hv
                exact ⟨a, vs, n, e, new15 _ hm list_notC, hi⟩
            have sb3 : ∀ p ∈ nwB, p ∈ nw3 := fun p hp => sb15 _ (.tail _ (sb11 p hp))
            have ofI3 : ∀ p ∈ nwB, p.1 ≠ I := fun p hp => off11 _ (.tail _ (.tail _ (.tail _ (.tail _ (.tail _ (.tail _ (sb11 p hp)))))))
            clear N14 sub14 new15 hdD hmD sb15 o6 o5 o4 o3 o2 o1
            try k_fold
            obtain ⟨o6, o5, o4, o3, o2, o1⟩ := of15.six
            have hkeyB : kvB.map (·.1) = ((bkOf kk).map (·.1)).map (named sg) := by rw [DR.keys hdB, mapK_keys]
            have hkeyD : kvD.map (·.1) = ((dueT (treeAt kk)).map (·.1)).map (named sg) := by rw [DR.keys hdD3, mapK_keys]
            have hlB : kvB.length < 64 := by rw [hdB.len, show (mapK (named sg) (bkOf kk)).length = (bkOf kk).length from List.length_map ..]; exact (bk_small hk14).1
            have hlD : kvD.length < 64 := by rw [hdD3.len, show (mapK (named sg) (dueT (treeAt kk))).length = (dueT (treeAt kk)).length from List.length_map ..]; exact due_small hk14
            (try dsimp only)
            k_steps
            rename News _ _ _ _ => N16
            refine ⟨kim_list (l := bs) N16 (.tail _ (.tail _ (.tail _ (.tail _ (.tail _ (.tail _ (sb3 _ hmB))))))) rfl rfl (Int.natCast_nonneg _) (Int.lt_of_lt_of_le (Int.ofNat_lt.mpr hi11) (by decide)) (by rw [Int.toNat_natCast]; exact hvB) ?_⟩
            k_steps
            rename Fr _ _ _ _ => F17
            rename News _ _ _ _ => N17
            refine ⟨sorted_keysK rfl F17 N17 (.tail _ (.tail _ (.tail _ (.tail _ (.tail _ (.tail _ (sb3 _ hmBk))))))) hkB loB hlB ?_⟩
            intro S1 vS1 ss1 h18 tk18 cS1 F18 N18 ltS1 hS1 hp1 hq1
            clear F17 N17
            (try dsimp only)
            k_steps
            rename Fr _ _ _ _ => F19
            rename News _ _ _ _ => N19
            refine ⟨sorted_keysK rfl F19 N19 (.tail _ (.tail _ (.tail _ (.tail _ (.tail _ (.tail _ (.tail _ hmD3))))))) hkD loD hlD ?_⟩
            intro S2 vS2 ss2 h20 tk20 cS2 F20 N20 ltS2 hS2 hp2 hq2
            clear F19 N19
            (try dsimp only)
            k_steps
            rename News _ _ _ _ => N21
            have hgk : ∀ (l : List Tree), (∀ t ∈ l, t ∈ all14) → ∀ x ∈ l.map (named sg), PyData.strOk x = true := fun l hl x hx => by
              try k_fold
              obtain ⟨t, ht, rfl⟩ := List.mem_map.mp hx
              exact hG.ok t (hl t ht)
            have hinB : ∀ t ∈ (bkOf kk).map (·.1), t ∈ all14 := fun t ht => by
              try k_fold
              obtain ⟨p, hp, rfl⟩ := List.mem_map.mp ht
              exact (bk_small hk14).2 p hp
            have hinD : ∀ t ∈ (dueT (treeAt kk)).map (·.1), t ∈ all14 := fun t ht => hinB t ((keys_perm hk14).mem_iff.mpr ht)
            refine ⟨ne_strsK (vs := vS1) (us := vS2) ⟨_, (N21 _ (.tail _ (.head _))).1, rfl, _, rfl⟩ hS1 ⟨_, (N21 _ (.head _)).1, rfl, _, rfl⟩ hS2 (by ktr_units) (fun x hx => hgk _ hinB x (by rw [← hkeyB]; exact hp1.mem_iff.mp hx)) (fun x hx => hgk _ hinD x (by rw [← hkeyD]; exact hp2.mem_iff.mp hx)) ?_⟩
            have hss : ss1 = ss2 := sortedS_uniq (hp1.trans ((by rw [hkeyB, hkeyD]; exact (keys_perm hk14).map _ : (kvB.map (·.1)).Perm (kvD.map (·.1))).trans hp2.symm)) hq1 hq2
            rw [decide_eq_true hss]
            replace N21 := kti_tail (kti_tail N21)
            clear hS1 hS2 hp1 hp2 hq1 hq2 hss ltS1 ltS2
            k_steps
            rename Fr _ _ _ _ => F22
            rename News _ _ _ _ => N22
            refine ⟨for_keys (knd := PySem.strKind _ _) (enc := PyData.str) (fun _ _ h => Value.isStrOf_shape h) F22 ?_⟩
            k_steps
            refine ⟨⟨aD, oD, kvD, _, _, fun j m nw => Kn m [(Str.ofString "names", .ref D9), (Str.ofString "chosen", .ref aC), (Str.ofString "due", .ref aD)] ∧ ∃ nw4, nw = six s1.heap.objs.size z7 y5 y4 y3 y2 y1 nw4 ∧ OffA (cellAs s1.heap.objs.size) nw4 ∧ (∀ p ∈ nw3, p ∈ nw4),
              rfl, rfl, F22, N22, .tail _ (.tail _ (.tail _ (.tail _ (.tail _ (.tail _ hmD3))))), hkD, loD, ⟨⟨rfl, rfl, rfl, trivial⟩, nw3, rfl, of15, fun _ h => h⟩, ?_, ?_⟩⟩
            · rintro j key x tkey m30 nw30 I2 h30 tk30 o30 hx30 zz10 F30 hc30 off30 N30
              try dsimp only
              try k_fold
              obtain ⟨hkn30, nw4, rfl, of4, sb4⟩ := zz10
              dsimp only [six] at N30
              replace F30 := fr_kn F30 hkn30
              dsimp only [knows] at F30
              try k_fold
              obtain ⟨q, hq, ekey, aL, vL, nL, eL, hmL, hiL⟩ := paired_get hdD3 hx30
              dsimp only at ekey eL
              try k_fold
              obtain ⟨⟨tt, lens⟩, hpd, eq⟩ := mapK_at hq
              subst eq
              dsimp only at ekey eL hiL
              subst ekey; subst eL
              try k_fold
              obtain ⟨tab, hTab⟩ := due_tabs hk14 _ hpd
              have hTin := hTab.inA
              have hTget := hTab.get
              have hTlen := hTab.len
              have hTall := hTab.all
              have hTsum := hTab.sum
              have hTsm := hTab.small
              dsimp only at hTin hTget hTlen hTall hTsum hTsm
              dsimp only [kyVal]
              have hxv := valueAt_of_get hkD hx30
              try k_fold
              obtain ⟨nJ6, nJ5, nJ4, nJ3, nJ2, nJ1⟩ := off6 off30
              clear F22 N22
              (try dsimp only)
              k_steps
              rename News _ _ _ _ => N31
              refine ⟨kda_item (knd := PySem.strKind _ _) N31 (.tail _ (.tail _ (.tail _ (.tail _ (.tail _ (.tail _ (.tail _ (sb4 _ hmD3)))))))) hkD (strKind_is _ _ _ _) hxv ?_⟩
              k_steps
              rename Fr _ _ _ _ => F32
              rename News _ _ _ _ => N32
              rename _ < _ ∧ _ => lTb
              rename Obj.IsDictOf (PySem.intKind _ _) _ [] => hE0
              rename (_ == sysModules) = false => loTb
              try k_fold
              obtain ⟨dTb, edTb⟩ := head_addr N32
              subst edTb
              have offTb : ∀ p ∈ (I2, o30) :: six s1.heap.objs.size z7 y5 y4 y3 y2 y1 nw4, p.1 ≠ dTb := fun p hp => Nat.ne_of_lt (allLt_mem (l := (I2, o30) :: six s1.heap.objs.size z7 y5 y4 y3 y2 y1 nw4) lTb p hp)
              refine ⟨for_list F32 ?_⟩
              k_steps
              refine ⟨⟨aL, listO vL nL, vL, nL, _, _, fun c m nw => Kn m [(Str.ofString "names", .ref D9), (Str.ofString "chosen", .ref aC), (Str.ofString "due", .ref aD), (Str.ofString "name", .str (named sg tt) tkey), (Str.ofString "lengths", .ref aL), (Str.ofString "table", .ref dTb)] ∧ ∃ oT, nw = (dTb, oT) :: (I2, o30) :: six s1.heap.objs.size z7 y5 y4 y3 y2 y1 nw4 ∧ IntDict w oT ((lens.take c).foldl (fun a x => putG a x (lens.count x : Int)) []),
                rfl, rfl, F32, N32, .tail _ (.tail _ (.tail _ (.tail _ (.tail _ (.tail _ (.tail _ (.tail _ (sb4 _ hmL)))))))), rfl, rfl, ⟨⟨rfl, rfl, rfl, rfl, rfl, rfl, trivial⟩, _, rfl, _, hE0, .nil⟩, ?_, ?_⟩⟩
              · rintro c v m33 nw33 I3 h33 tk33 o33 hv33 zz11 F33 hc33 off33 N33
                try dsimp only
                try k_fold
                obtain ⟨hkn33, oT, rfl, kvT, hkT, hdT⟩ := zz11
                dsimp only [six] at N33
                replace F33 := fr_kn F33 hkn33
                dsimp only [knows] at F33
                try k_fold
                obtain ⟨tn, ttn, htn, ev⟩ := ints_get hiL hv33
                subst ev
                have nI3T : (@Ne Nat I3 dTb) := Ne.symm (off33 _ (.head _))
                clear F32 N32
                (try dsimp only)
                k_steps
                rename News _ _ _ _ => N34
                refine ⟨kf_method (its := vL.toArray) (n := nL) N34 (.tail _ (.tail _ (.tail _ (.tail _ (.tail _ (.tail _ (.tail _ (.tail _ (.tail _ (sb4 _ hmL)))))))))) PySem.F.slot_list_count PySem.F.type_list_count ?_⟩
                k_steps
                rename News _ _ _ _ => N35
                refine ⟨count_list_ints (vs := vL) ⟨_, (N35 _ (.tail _ (.tail _ (.tail _ (.tail _ (.tail _ (.tail _ (.tail _ (.tail _ (.tail _ (sb4 _ hmL))))))))))).1, rfl, _, rfl⟩ hiL ?_⟩
                k_steps
                rename Fr _ _ _ _ => F36
                rename News _ _ _ _ => N36
                have hfl := tableOf_len lens (lens.take c) []
                rw [List.length_take] at hfl
                simp only [List.length_nil] at hfl
                have hklen := hdT.len
                refine ⟨kda_set (knd := PySem.intKind _ _) F36 N36 (.tail nI3T (.head offTb)) hkT (intKind_is _ _ _ _) (by rw [sizeLine_eq]; omega) ?_⟩
                clear F36 N36
                intro h37 oT37 F37 N37 hkT37
                (try dsimp only)
                k_steps
                rename Fr _ _ _ _ => F38
                rename News _ _ _ _ => N38
                have he38 : (lens.take (c + 1)).foldl (fun a x => putG a x (lens.count x : Int)) [] = putG ((lens.take c).foldl (fun a x => putG a x (lens.count x : Int)) []) tn (lens.count tn : Int) := foldl_take_succ _ _ _ htn
                refine ⟨turn_end F38 N38 _ (.head _) (fun p hp => ⟨.tail _ hp, ?_⟩) ⟨.tail _ (.tail _ (.tail _ (.tail _ (.tail _ (.tail _ (.tail _ (.tail _ (sb4 _ hmL)))))))), trivial⟩ ⟨⟨rfl, rfl, rfl, rfl, rfl, rfl, trivial⟩, oT37, rfl, _, hkT37, ?_⟩⟩
                · rcases List.mem_cons.mp hp with rfl | hp
                  · exact Ne.symm nI3T
                  · exact off33 p (.tail _ hp)
                · rw [he38]
                  exact hdT.put ⟨_, rfl⟩
              · rintro m33 nw33 h33 tk33 zz12 F33 N33
                try dsimp only
                try k_fold
                obtain ⟨hkn33, oT, rfl, hiT⟩ := zz12
                dsimp only [six] at N33
                replace F33 := fr_kn F33 hkn33
                dsimp only [knows] at F33
                rw [hiL.length, List.take_length] at hiT
                clear F32 N32
                (try dsimp only)
                k_steps
                have inj40 : ∀ p ∈ bkOf kk, named sg p.1 = named sg tt → p.1 = tt := fun p hp e => hG.inj _ ((bk_small hk14).2 p hp) _ hTin e
                try k_fold
                obtain ⟨vTb, hvTb, aTb, oTb, eTb, loB2, hmTb, hiTb, -⟩ := hdB.get_some (k := named sg tt) (b := tab) (by rw [mapK_get inj40]; exact hTget)
                subst eTb
                have hmB4 := sb4 _ (sb3 _ hmB)
                have hmBk4 := sb4 _ (sb3 _ hmBk)
                have hmTb4 := sb4 _ (sb3 _ hmTb)
                have hmL4 := sb4 _ hmL
                rename News _ _ _ _ => N40
                refine ⟨kim_list (l := bs) N40 (.tail _ (.tail _ (.tail _ (.tail _ (.tail _ (.tail _ (.tail _ (.tail _ hmB4)))))))) rfl rfl (Int.natCast_nonneg _) (Int.lt_of_lt_of_le (Int.ofNat_lt.mpr hi11) (by decide)) (by rw [Int.toNat_natCast]; exact hvB) ?_⟩
                k_steps
                rename News _ _ _ _ => N41
                refine ⟨kba_turn (value' := PySem.Expr.Name (Str.ofString "_") ⟨0, 0, 0, 0⟩) (fun _ => rfl) (kda_item (knd := PySem.strKind _ _) N41 (.tail _ (.tail _ (.tail _ (.tail _ (.tail _ (.tail _ (.tail _ (.tail _ hmBk4)))))))) hkB (strKind_is _ _ _ _) hvTb ?_)⟩
                k_steps
                rename News _ _ _ _ => N42
                refine ⟨ne_tabsK N42 (.tail _ (.tail _ (.tail _ (.tail _ (.tail _ (.tail _ (.tail _ (.tail _ hmTb4)))))))) (.head _) loB2 loTb hiTb hiT (by ktr_units) hTlen hTall ?_⟩
                k_steps
                rename News _ _ _ _ => N43
                refine ⟨kim_list (l := bs) N43 (.tail _ (.tail _ (.tail _ (.tail _ (.tail _ (.tail _ (.tail _ (.tail _ hmB4)))))))) rfl rfl (Int.natCast_nonneg _) (Int.lt_of_lt_of_le (Int.ofNat_lt.mpr hi11) (by decide)) (by rw [Int.toNat_natCast]; exact hvB) ?_⟩
                k_steps
                rename News _ _ _ _ => N44
                refine ⟨kba_turn (value' := PySem.Expr.Name (Str.ofString "_") ⟨0, 0, 0, 0⟩) (fun _ => rfl) (kda_item (knd := PySem.strKind _ _) N44 (.tail _ (.tail _ (.tail _ (.tail _ (.tail _ (.tail _ (.tail _ (.tail _ hmBk4)))))))) hkB (strKind_is _ _ _ _) hvTb ?_)⟩
                k_steps
                refine ⟨?_⟩
                k_dflt (refine' con_use ?k1 ?k2 ?k3 ?k4 ?k5 (count_c w ?kM loB2 hiTb) ?kf ?kK ?kd ?ku ?_; ((case k1 => k_asm); (case k2 => k_asm); (case k3 => k_asm); (case k4 => k_asm); (case k5 => k_asm); (case kf => first | exact rfl | assumption); (case kK => first | exact rfl | assumption); (case kd => ktr_room); (case ku => ktr_units)); (case kM => exact .tail _ (.tail _ (.tail _ (.tail _ (.tail _ (.tail _ (.tail _ (.tail _ hmTb4)))))))))
                intro r45 all45 h45 tk45 F45 N45 sub45 ho45
                try k_fold
                obtain ⟨t45, e45⟩ := ho45
                rw [hTsum] at e45
                subst e45
                try k_fold
                obtain ⟨nw6, N46, of46, sb46, -⟩ := pull6 (b := s1.heap.objs.size) (c6 := z7) (nw := (I2, o30) :: nw4) N45 (fun p hp => sub45 p (.tail _ (six_back [_] hp))) (of4.cons nJ6 nJ5 nJ4 nJ3 nJ2 nJ1) ⟨_, q1⟩ ⟨_, q2⟩ ⟨_, d3s⟩ ⟨_, d4s⟩ ⟨_, d5s⟩ ⟨_, hz7⟩
                dsimp only [six] at N46
                have hmL6 := sb46 _ (.tail _ hmL4)
                have hI26 := sb46 _ (.head _)
                clear N45 sub45
                (try dsimp only)
                k_steps
                rename News _ _ _ _ => N47
                refine ⟨len_list ⟨_, (N47 _ (.tail _ (.tail _ (.tail _ (.tail _ (.tail _ (.tail _ hmL6))))))).1, rfl, _, rfl⟩ (by rw [List.size_toArray, hiL.length]; exact Int.lt_of_le_of_lt (Int.ofNat_le.mpr hTsm) (by decide)) ?_⟩
                have hsz50 : vL.toArray.size = lens.length := by rw [List.size_toArray, hiL.length]
                rw [hsz50]
                k_steps
                rename Fr _ _ _ _ => F51
                rename News _ _ _ _ => N51
                refine ⟨turn_end F51 N51 (six s1.heap.objs.size z7 y5 y4 y3 y2 y1 (noI I2 nw6)) (.tail _ (.tail _ (.tail _ (.tail _ (.tail _ (.tail _ hI26)))))) (fun p hp => ?_) ⟨.tail _ (.tail _ (.tail _ (.tail _ (.tail _ (.tail _ (mem_noI (sb46 _ (.tail _ (sb4 _ hmD3))) (off30 _ (.tail _ (.tail _ (.tail _ (.tail _ (.tail _ (.tail _ (sb4 _ hmD3)))))))))))))), trivial⟩ ⟨⟨rfl, rfl, rfl, trivial⟩, noI I2 nw6, rfl, fun a ha p hp => of46 a ha p (noI_off p hp).1, fun p hp => mem_noI (sb46 _ (.tail _ (sb4 _ hp))) (off30 _ (.tail _ (.tail _ (.tail _ (.tail _ (.tail _ (.tail _ (sb4 _ hp)))))))) ⟩⟩
                simp only [List.mem_cons] at hp
                rcases hp with rfl | rfl | rfl | rfl | rfl | rfl | hp
                · exact ⟨by k_mem, Ne.symm nJ6⟩
                · exact ⟨by k_mem, Ne.symm nJ5⟩
                · exact ⟨by k_mem, Ne.symm nJ4⟩
                · exact ⟨by k_mem, Ne.symm nJ3⟩
                · exact ⟨by k_mem, Ne.symm nJ2⟩
                · exact ⟨by k_mem, Ne.symm nJ1⟩
                · exact ⟨by simp [(noI_off p hp).1], (noI_off p hp).2⟩
            · rintro m33 nw33 h33 tk33 zz13 F33 N33
              try dsimp only
              try k_fold
              obtain ⟨hkn33, nw4, rfl, of4, sb4⟩ := zz13
              dsimp only [six] at N33
              replace F33 := fr_kn F33 hkn33
              dsimp only [knows] at F33
              clear F22 N22
              (try dsimp only)
              k_steps
              rename Fr _ _ _ _ => F52
              rename News _ _ _ _ => N52
              refine ⟨turn_end F52 N52 (six s1.heap.objs.size z7 y5 y4 y3 y2 y1 (noI I nw4)) (.tail _ (.tail _ (.tail _ (.tail _ (.tail _ (.tail _ (sb4 _ hI3))))))) (fun p hp => ?_) trivial ⟨⟨rfl, rfl, trivial⟩, z7, noI I nw4, rfl, ⟨_, hz7⟩, fun a ha p hp => of4 a ha p (noI_off p hp).1, fun p hp => mem_noI (sb4 _ (sb3 p hp)) (ofI3 p hp)⟩⟩
              simp only [List.mem_cons] at hp
              rcases hp with rfl | rfl | rfl | rfl | rfl | rfl | hp
              · exact ⟨by k_mem, Ne.symm nI6⟩
              · exact ⟨by k_mem, Ne.symm nI5⟩
              · exact ⟨by k_mem, Ne.symm nI4⟩
              · exact ⟨by k_mem, Ne.symm nI3⟩
              · exact ⟨by k_mem, Ne.symm nI2⟩
              · exact ⟨by k_mem, Ne.symm nI1⟩
              · exact ⟨by simp [(noI_off p hp).1], (noI_off p hp).2⟩
          · rintro m60 nw60 h60 tk60 zz14 F60 N60
            try dsimp only
            try k_fold
            obtain ⟨hkn60, z6, nw2, rfl, ⟨xz6, hz6⟩, of60, sb60⟩ := zz14
            dsimp only [six] at N60
            replace F60 := fr_kn F60 hkn60
            dsimp only [knows] at F60
            clear F10 N10 hrB
            try k_fold
            obtain ⟨o66, o65, o64, o63, o62, o61⟩ := of60.six
            have hmB6 := sb60 _ hmB
            have hmN6 := sb60 _ hmN
            try k_fold
            obtain ⟨vb1, hvb1, aB1, oB1, kvB1, eB1, loB1, hmB1, -, hkB1, hdB1⟩ := paired_get' hp5 (i := 0) (y := k1) rfl
            try k_fold
            obtain ⟨vb2, hvb2, aB2, oB2, kvB2, eB2, loB2, hmB2, -, hkB2, hdB2⟩ := paired_get' hp5 (i := 1) (y := k2) rfl
            subst eB1; subst eB2
            have hmB16 := sb60 _ hmB1
            have hmB26 := sb60 _ hmB2
            have hbs1 := bk_small hk1
            have hbs2 := bk_small hk2
            have hl1 : kvB1.length = (bkOf k1).length := by rw [hdB1.len]; exact List.length_map ..
            (try dsimp only)
            k_steps
            rename News _ _ _ _ => N61
            refine ⟨kim_list (l := bs) N61 (.tail _ (.tail _ (.tail _ (.tail _ (.tail _ (.tail _ hmB6)))))) rfl rfl (by decide) (by decide) hvb1 ?_⟩
            k_steps
            rename Fr _ _ _ _ => F62
            rename News _ _ _ _ => N62
            refine ⟨⟨_, _, aB1, oB1, kvB1, _, _, rfl, rfl, F62, N62, .tail _ (.tail _ (.tail _ (.tail _ (.tail _ (.tail _ hmB16))))), hkB1, loB1, by rw [hl1, sizeLine_eq]; exact Nat.le_trans (Nat.le_of_lt hbs1.1) (by decide),
              fun g => restT_of (fun i ys nw' => nw' = six s1.heap.objs.size z6 y5 y4 y3 y2 y1 nw2 ∧ StrsAre ys ((bothN k1 k2 i).map (named sg))) ?_ (fun _ _ j => j) _ 0 [] _ (Nat.zero_add _) ⟨rfl, .nil⟩, ?_⟩⟩
            · rintro i v ys nw' I63 oI63 C63 oC63 D63 m63 h63 tk63 E63 hi63 zz15 hP63 hC63 hx63 F63 N63 off63 ne63
              try dsimp only
              try k_fold
              obtain ⟨rfl, hs63⟩ := zz15
              try k_fold
              obtain ⟨key, yv, hkey, hkv⟩ := hP63
              try k_fold
              obtain ⟨tkk, ev⟩ := Value.isStrOf_shape hkv
              subst ev
              try k_fold
              obtain ⟨q, hq, ek, -⟩ := paired_get hdB1 hkey
              dsimp only at ek
              subst ek
              unfold mapK at hq
              rw [List.getElem?_map] at hq
              try k_fold
              obtain ⟨⟨tx, tabx⟩, hpx, eqx⟩ := Option.map_eq_some_iff.mp hq
              subst eqx
              have htx := hbs1.2 _ (List.mem_of_getElem? hpx)
              have inj2 : ∀ p ∈ bkOf k2, named sg p.1 = named sg tx → p.1 = tx := fun p hp e => hG.inj _ (hbs2.2 p hp) _ htx e
              dsimp only [six] at N63
              clear F62 N62
              (try dsimp only)
              k_steps
              rename News _ _ _ _ => N64
              refine ⟨kim_list (l := bs) N64 (.tail _ (.tail _ (.tail _ (.tail _ (.tail _ (.tail _ (.tail _ (.tail _ (.tail _ hmB6))))))))) rfl rfl (by decide) (by decide) hvb2 ?_⟩
              k_steps
              (try dsimp only)
              rename News _ _ _ _ => N65
              have hsucc := bothN_succ (k2 := k2) hpx
              dsimp only at hsucc
              try k_fold
              cases hg2 : getG (bkOf k2) tx with
              | none =>
                have hgM : getG (mapK (named sg) (bkOf k2)) (named sg tx) = none := by rw [mapK_get inj2]; exact hg2
                have hvn := hdB2.get_none hgM
                refine ⟨kda_in (knd := PySem.strKind _ _) N65 (.tail _ (.tail _ (.tail _ (.tail _ (.tail _ (.tail _ (.tail _ (.tail _ (.tail _ hmB26))))))))) hkB2 loB2 (strKind_is _ _ _ _) false (by rw [hvn]; rfl) ?_⟩
                k_steps
                rename Fr _ _ _ _ => F66
                rename News _ _ _ _ => N66
                refine LCg.CompEnd.intro F66 N66 _ (fun _ h => h) off63 (.tail _ (.tail _ (.tail _ (.tail _ (.tail _ (.tail _ hmB16)))))) ⟨rfl, ?_⟩
                rw [hsucc, hg2]
                simpa using hs63
              | some tabx2 =>
                try k_fold
                obtain ⟨vx, hvx, -⟩ := hdB2.get_some (k := named sg tx) (b := tabx2) (by rw [mapK_get inj2]; exact hg2)
                refine ⟨kda_in (knd := PySem.strKind _ _) N65 (.tail _ (.tail _ (.tail _ (.tail _ (.tail _ (.tail _ (.tail _ (.tail _ (.tail _ hmB26))))))))) hkB2 loB2 (strKind_is _ _ _ _) true (by rw [hvx]; rfl) ?_⟩
                k_steps
                rename Fr _ _ _ _ => F66
                rename News _ _ _ _ => N66
                refine LCg.CompEnd.intro F66 N66 _ (fun _ h => h) off63 (.tail _ (.tail _ (.tail _ (.tail _ (.tail _ (.tail _ hmB16)))))) ⟨rfl, ?_⟩
                rw [hsucc, hg2, List.map_append]
                exact kct_snoc hs63
            · rintro yb nw' D63 h63 tk63 zz16 F63 N63 o63'
              try dsimp only
              try k_fold
              obtain ⟨rfl, hs63⟩ := zz16
              try k_fold
              obtain ⟨N64, of64⟩ := behind6 N63 of60 o63'
              dsimp only [six] at N64
              clear N63 F62 N62
              rw [hl1] at hs63
              (try dsimp only)
              try k_fold
              obtain ⟨nwT, hnwT⟩ : ∃ l, l = (D63, LCg.lst yb) :: nw2 := ⟨_, rfl⟩
              rw [← hnwT] at N64 of64
              have hmY : (D63, listO yb yb.length) ∈ nwT := by rw [hnwT]; exact .head _
              have sbT : ∀ p ∈ nwB, p ∈ nwT := fun p hp => by rw [hnwT]; exact .tail _ (sb60 p hp)
              clear hnwT o63' hmB6 hmN6 hmB16 hmB26 o66 o65 o64 o63 o62 o61 of60 sb60
              try k_fold
              obtain ⟨o66, o65, o64, o63, o62, o61⟩ := of64.six
              have hbne := both_ok hk1 hk2
              have hbin := both_in (k2 := k2) hk1
              have hys : StrsAre yb ((bothT k1 k2).map (named sg)) := hs63
              clear hs63
              have hgm := greatT_mem (lt := lt0) hbne
              have hgA := hbin.1 _ hgm
              have hnix := names_idx hG hgA
              try k_fold
              obtain ⟨t0, ts, hts⟩ : ∃ t0 ts, bothT k1 k2 = t0 :: ts := by
                try k_fold
                cases e : bothT k1 k2 with
                | nil => exact absurd e hbne
                | cons a b => exact ⟨a, b, rfl⟩
              have hgr := great_best hG (t0 :: ts) t0 (hbin.1 _ (by rw [hts]; exact .head _)) (fun x hx => hbin.1 x (by rw [hts]; exact hx))
              have hgT : (t0 :: ts).foldl (bestT lt0) t0 = greatT lt0 (bothT k1 k2) := by rw [hts]; rfl
              rw [hgT] at hgr
              have hts2 : ts.length ≤ 1000 := by have := hbin.2; rw [hts] at this; simp only [List.length_cons] at this; omega
              have hys2 := hys
              rw [hts] at hys2
              have hmNT := sbT _ hmN
              k_steps
              rename News _ _ _ _ => N67
              refine ⟨kf_method (its := zs.toArray) (n := zs.length) N67 (.tail _ (.tail _ (.tail _ (.tail _ (.tail _ (.tail _ hmNT)))))) PySem.F.slot_list_index PySem.F.type_list_index ?_⟩
              k_steps
              refine ⟨?_⟩
              k_dflt (refine' con_use ?k1 ?k2 ?k3 ?k4 ?k5 (great_c w (n := yb.length) (vs := yb) (s0 := named sg t0) (ss := ts.map (named sg)) ?kM ?kV ?kZ) ?kf ?kK ?kd ?ku ?_; ((case k1 => k_asm); (case k2 => k_asm); (case k3 => k_asm); (case k4 => k_asm); (case k5 => k_asm); (case kf => first | exact rfl | assumption); (case kK => first | exact rfl | assumption); (case kd => ktr_room); (case ku => ktr_units)); (case kM => exact .tail _ (.tail _ (.tail _ (.tail _ (.tail _ (.tail _ hmY)))))); (case kV => exact strs_pair hys2); (case kZ => rw [List.length_map]; exact hts2))
              intro r68 all68 h68 tk68 F68 N68 sub68 ho68
              try k_fold
              obtain ⟨t68, e68⟩ := ho68
              have hgr1 : greatS (named sg t0) (named sg t0 :: ts.map (named sg)) = named sg (greatT lt0 (bothT k1 k2)) := hgr.1
              rw [hgr1] at e68
              subst e68
              try k_fold
              obtain ⟨nwU, N69, of69, sb69, -⟩ := pull6 (b := s1.heap.objs.size) (nw := nwT) N68 sub68 of64 ⟨_, q1⟩ ⟨_, q2⟩ ⟨_, d3s⟩ ⟨_, d4s⟩ ⟨_, d5s⟩ ⟨_, hz6⟩
              dsimp only [six] at N69
              clear N68 sub68 o66 o65 o64 o63 o62 o61
              try k_fold
              obtain ⟨o66, o65, o64, o63, o62, o61⟩ := of69.six
              have sbU : ∀ p ∈ nwB, p ∈ nwU := fun p hp => sb69 p (sbT p hp)
              have hmYU := sb69 _ hmY
              (try dsimp only)
              k_steps
              rename News _ _ _ _ => N70
              refine ⟨index_strs N70 (.tail _ (.tail _ (.tail _ (.tail _ (.tail _ (.tail _ (sbU _ hmN))))))) hp3 hnix.1 hnix.2.1 (by rw [List.length_map]; decide) ?_⟩
              k_steps
              have hmBU := sbU _ hmB
              have hmCU := sbU _ hmC
              have hmB1U := sbU _ hmB1
              have hmB2U := sbU _ hmB2
              have hl2 : kvB2.length = (bkOf k2).length := by rw [hdB2.len]; exact List.length_map ..
              refine ⟨for_listX ?_⟩
              k_steps
              rename News _ _ _ _ => N72
              refine ⟨kim_list (l := [Value.int k1 u1, Value.int k2 u2]) N72 (.tail _ (.tail _ (.tail _ (.tail _ (.tail _ (.tail _ (hmCU))))))) rfl rfl (by decide) (by decide) rfl ?_⟩
              k_steps
              rename News _ _ _ _ => N73
              refine ⟨kim_list (l := bs) N73 (.tail _ (.tail _ (.tail _ (.tail _ (.tail _ (.tail _ (hmBU))))))) rfl rfl (by decide) (by decide) hvb1 ?_⟩
              k_steps
              rename Fr _ _ _ _ => F74
              rename News _ _ _ _ => N74
              refine ⟨list_keysK rfl F74 N74 (.tail _ (.tail _ (.tail _ (.tail _ (.tail _ (.tail _ (hmB1U))))))) hkB1 loB1 (by rw [hl1]; exact hbs1.1) ?_⟩
              clear F74 N74
              intro M1 vM1 cM1 h75 tk75 F75 N75 ltM1 hM1
              (try dsimp only)
              k_steps
              rename News _ _ _ _ => N76
              refine ⟨kim_list (l := [Value.int k1 u1, Value.int k2 u2]) N76 (.tail _ (.tail _ (.tail _ (.tail _ (.tail _ (.tail _ (.tail _ (.tail _ (hmCU))))))))) rfl rfl (by decide) (by decide) rfl ?_⟩
              k_steps
              rename News _ _ _ _ => N77
              refine ⟨kim_list (l := bs) N77 (.tail _ (.tail _ (.tail _ (.tail _ (.tail _ (.tail _ (.tail _ (.tail _ (hmBU))))))))) rfl rfl (by decide) (by decide) hvb2 ?_⟩
              k_steps
              rename Fr _ _ _ _ => F78
              rename News _ _ _ _ => N78
              refine ⟨list_keysK rfl F78 N78 (.tail _ (.tail _ (.tail _ (.tail _ (.tail _ (.tail _ (.tail _ (.tail _ (hmB2U))))))))) hkB2 loB2 (by rw [hl2]; exact hbs2.1) ?_⟩
              clear F78 N78
              intro M2 vM2 cM2 h79 tk79 F79 N79 ltM2 hM2
              (try dsimp only)
              k_steps
              rename Fr _ _ _ _ => F80
              rename News _ _ _ _ => N80
              try k_fold
              obtain ⟨LT, T1, T2, T3, eLT, eT1, eT2, eT3⟩ := last_addrs N80
              subst eLT eT1 eT2 eT3
              have hkeyB1 : kvB1.map (·.1) = ((bkOf k1).map (·.1)).map (named sg) := by rw [DR.keys hdB1, mapK_keys]
              have hkeyB2 : kvB2.map (·.1) = ((bkOf k2).map (·.1)).map (named sg) := by rw [DR.keys hdB2, mapK_keys]
              rw [hkeyB1] at hM1
              rw [hkeyB2] at hM2
              have of81 := ((((((of69.cons (I := M1) (o := listO vM1 cM1) (Nat.ne_of_gt (ltM1 _ (.head _))) (Nat.ne_of_gt (ltM1 _ (.tail _ (.head _)))) (Nat.ne_of_gt (ltM1 _ (.tail _ (.tail _ (.head _))))) (Nat.ne_of_gt (ltM1 _ (.tail _ (.tail _ (.tail _ (.head _)))))) (Nat.ne_of_gt (ltM1 _ (.tail _ (.tail _ (.tail _ (.tail _ (.head _))))))) (Nat.ne_of_gt (ltM1 _ (.tail _ (.tail _ (.tail _ (.tail _ (.tail _ (.head _))))))))).consGt (I := T1) (o := tupO (.int (k1 : Int) u1) (.ref M1) 0) (by omega)).cons (I := M2) (o := listO vM2 cM2) (Nat.ne_of_gt (ltM2 _ (.tail _ (.tail _ (.head _))))) (Nat.ne_of_gt (ltM2 _ (.tail _ (.tail _ (.tail _ (.head _)))))) (Nat.ne_of_gt (ltM2 _ (.tail _ (.tail _ (.tail _ (.tail _ (.head _))))))) (Nat.ne_of_gt (ltM2 _ (.tail _ (.tail _ (.tail _ (.tail _ (.tail _ (.head _)))))))) (Nat.ne_of_gt (ltM2 _ (.tail _ (.tail _ (.tail _ (.tail _ (.tail _ (.tail _ (.head _))))))))) (Nat.ne_of_gt (ltM2 _ (.tail _ (.tail _ (.tail _ (.tail _ (.tail _ (.tail _ (.tail _ (.head _))))))))))).consGt (I := T2) (o := tupO (.int (k2 : Int) u2) (.ref M2) 0) (by omega)).consGt (I := T3) (o := tupO (.int ((all14.idxOf (greatT lt0 (bothT k1 k2)) : Nat) : Int) tk68) (.ref D63) 0) (by omega)).consGt (I := LT) (o := W.listOf #[Value.ref T1, Value.ref T2, Value.ref T3] 0) (by omega))
              have N81 : News _ _ _ (six s1.heap.objs.size z6 y5 y4 y3 y2 y1 ((LT, W.listOf #[Value.ref T1, Value.ref T2, Value.ref T3] 0) :: (T3, tupO (.int ((all14.idxOf (greatT lt0 (bothT k1 k2)) : Nat) : Int) tk68) (.ref D63) 0) :: (T2, tupO (.int (k2 : Int) u2) (.ref M2) 0) :: (M2, listO vM2 cM2) :: (T1, tupO (.int (k1 : Int) u1) (.ref M1) 0) :: (M1, listO vM1 cM1) :: nwU)) := six_front [_, _, _, _, _, _] N80
              try k_fold
              obtain ⟨nwV, hnwV⟩ : ∃ l, l = (LT, W.listOf #[Value.ref T1, Value.ref T2, Value.ref T3] 0) :: (T3, tupO (.int ((all14.idxOf (greatT lt0 (bothT k1 k2)) : Nat) : Int) tk68) (.ref D63) 0) :: (T2, tupO (.int (k2 : Int) u2) (.ref M2) 0) :: (M2, listO vM2 cM2) :: (T1, tupO (.int (k1 : Int) u1) (.ref M1) 0) :: (M1, listO vM1 cM1) :: nwU := ⟨_, rfl⟩
              rw [← hnwV] at N81 of81
              dsimp only [six] at N81
              clear N80
              have sbV : ∀ p ∈ nwU, p ∈ nwV := fun p hp => by rw [hnwV]; exact .tail _ (.tail _ (.tail _ (.tail _ (.tail _ (.tail _ hp)))))
              have hmLT : (LT, listO [Value.ref T1, Value.ref T2, Value.ref T3] 0) ∈ nwV := by rw [hnwV]; exact .head _
              have hmet : ∀ v ∈ [Value.ref T1, Value.ref T2, Value.ref T3], MetV sg nwV v := by
                intro v hv
                simp only [List.mem_cons, List.not_mem_nil, or_false] at hv
                have hbi := both_in (k2 := k2) hk1
                rcases hv with rfl | rfl | rfl
                · exact ⟨_, k1, _, _, _, _, _, _, rfl, by rw [hnwV]; exact .tail _ (.tail _ (.tail _ (.tail _ (.head _)))), by rw [hnwV]; exact .tail _ (.tail _ (.tail _ (.tail _ (.tail _ (.head _))))), hM1, hk1, above_perm hk1, fun t ht => by obtain ⟨p, hp, rfl⟩ := List.mem_map.mp ht; exact hbs1.2 p hp, by rw [List.length_map]; exact hbs1.1⟩
                · exact ⟨_, k2, _, _, _, _, _, _, rfl, by rw [hnwV]; exact .tail _ (.tail _ (.head _)), by rw [hnwV]; exact .tail _ (.tail _ (.tail _ (.head _))), hM2, hk2, above_perm hk2, fun t ht => by obtain ⟨p, hp, rfl⟩ := List.mem_map.mp ht; exact hbs2.2 p hp, by rw [List.length_map]; exact hbs2.1⟩
                · exact ⟨_, all14.idxOf (greatT lt0 (bothT k1 k2)), _, _, _, _, _, _, rfl, by rw [hnwV]; exact .tail _ (.head _), sbV _ hmYU, hys, hnix.2.2.1, both_perm hk1 hk2, hbi.1, hbi.2⟩
              have hmNV := sbV _ (sbU _ hmN)
              have hmRV := sbV _ (sbU _ hmR)
              have hpRV : Paired (IntsIn nwV) _ (all14.map rests) := paired_mono (fun _ _ h => IntsIn.mono h fun p hp => sbV _ (sbU p hp)) hpR
              clear hnwV o66 o65 o64 o63 o62 o61 of69 hM1 hM2 hys hys2
              refine ⟨⟨_, LT, _, [Value.ref T1, Value.ref T2, Value.ref T3], 0, _, _, fun c m nw => Kn m [(Str.ofString "names", .ref D9)] ∧ ∃ za zb nw', nw = six s1.heap.objs.size za y5 y4 y3 zb y1 nw' ∧ IsC za ∧ IsC zb ∧ OffA (cellAs s1.heap.objs.size) nw' ∧ ∀ p ∈ nwV, p ∈ nw',
                rfl, rfl, F80, N81, .tail _ (.tail _ (.tail _ (.tail _ (.tail _ (.tail _ hmLT))))), rfl, rfl, ⟨⟨rfl, trivial⟩, z6, y2, nwV, rfl, ⟨_, hz6⟩, ⟨_, q2⟩, of81, fun _ h => h⟩, ?_, ?_⟩⟩
              · rintro c v m82 nw82 I h82 tk82 o hv82 zz17 F82 hc82 off82 N82
                try dsimp only
                try k_fold
                obtain ⟨hkn82, za, zb, nw', rfl, ⟨xa, hxa⟩, ⟨xb, hxb⟩, of82, sb82⟩ := zz17
                try k_fold
                obtain ⟨T, kc, tkc, nT, M, vM, nM, Kc, eT, hmTT, hmM, hvM, hkc, hpK, hinK, hlK⟩ := hmet v (List.mem_of_getElem? hv82)
                subst eT
                dsimp only [six] at N82
                replace F82 := fr_kn F82 hkn82
                dsimp only [knows] at F82
                try k_fold
                obtain ⟨o66, o65, o64, o63, o62, o61⟩ := of82.six
                try k_fold
                obtain ⟨nI6, nI5, nI4, nI3, nI2, nI1⟩ := off6 off82
                have hmTT' := sb82 _ hmTT
                have hmM' := sb82 _ hmM
                clear F80 N81
                (try dsimp only)
                k_steps
                rename _ = Data.cell (some (Value.int _ _)) => hzk
                rename IsRange _ _ _ _ _ _ _ _ => hr83
                rename Fr _ _ _ _ => F83
                rename News _ _ _ _ => N83
                rename _ < _ ∧ _ => lAb
                try k_fold
                obtain ⟨Ab, eAb⟩ := head_addr N83
                subst eAb
                try k_fold
                obtain ⟨zk, ezk⟩ := news_k N83
                subst ezk
                have nAI : (@Ne Nat Ab I) := by k_ne
                have offAb : ∀ {z1 z2 : Obj}, ∀ p ∈ (I, o) :: six s1.heap.objs.size z1 y5 y4 y3 z2 y1 nw', p.1 ≠ Ab := fun p hp => by
                  simp only [List.mem_cons] at hp
                  rcases hp with rfl | rfl | rfl | rfl | rfl | rfl | rfl | hp
                  · exact Nat.ne_of_lt lAb.1
                  · exact Nat.ne_of_lt lAb.2.1
                  · exact Nat.ne_of_lt lAb.2.2.1
                  · exact Nat.ne_of_lt lAb.2.2.2.1
                  · exact Nat.ne_of_lt lAb.2.2.2.2.1
                  · exact Nat.ne_of_lt lAb.2.2.2.2.2.1
                  · exact Nat.ne_of_lt lAb.2.2.2.2.2.2.1
                  · exact Nat.ne_of_lt (allLt_mem lAb.2.2.2.2.2.2.2 p hp)
                refine ⟨⟨_, 0, 14, _, _, _, 14, _, _, fun i m nw => Kn m [(Str.ofString "names", .ref D9), (Str.ofString "met", .ref M), (Str.ofString "above", .ref Ab)] ∧ ∃ zc vA nA, nw = (Ab, listO vA nA) :: (I, o) :: six s1.heap.objs.size zc y5 y4 y3 zk y1 nw' ∧ IsC zc ∧ StrsAre vA ((aboveN kc i).map (named sg)),
                  rfl, rfl, F83, N83, hr83, by decide, by decide, ⟨⟨rfl, rfl, rfl, trivial⟩, za, [], 0, rfl, ⟨_, hxa⟩, .nil⟩, ?_, ?_⟩⟩
                · rintro i ti m84 nw84 I2 h84 tk84 o84 hi84 zz18 F84 hc84 off84 N84
                  try dsimp only
                  try k_fold
                  obtain ⟨hkn84, zc, vA, nA, rfl, ⟨xc, hxc⟩, hvA⟩ := zz18
                  dsimp only [six] at N84
                  replace F84 := fr_kn F84 hkn84
                  dsimp only [knows] at F84
                  have nJA : (@Ne Nat I2 Ab) := Ne.symm (off84 _ (.head _))
                  have nJI : (@Ne Nat I2 I) := Ne.symm (off84 _ (.tail _ (.head _)))
                  try k_fold
                  obtain ⟨nJ6, nJ5, nJ4, nJ3, nJ2, nJ1⟩ := off6 fun p hp => off84 p (.tail _ (.tail _ hp))
                  have offJ0 : ∀ p ∈ nw', p.1 ≠ I2 := fun p hp => off84 p (.tail _ (.tail _ (.tail _ (.tail _ (.tail _ (.tail _ (.tail _ (.tail _ (hp)))))))))
                  have offJ' : ∀ {z1 z2 : Obj}, ∀ p ∈ (I, o) :: six s1.heap.objs.size z1 y5 y4 y3 z2 y1 nw', p.1 ≠ I2 := fun p hp => by
                    simp only [List.mem_cons] at hp
                    rcases hp with rfl | rfl | rfl | rfl | rfl | rfl | rfl | hp
                    · exact Ne.symm nJI
                    · exact Ne.symm nJ6
                    · exact Ne.symm nJ5
                    · exact Ne.symm nJ4
                    · exact Ne.symm nJ3
                    · exact Ne.symm nJ2
                    · exact Ne.symm nJ1
                    · exact offJ0 p hp
                  have offJ : ∀ {z1 z2 : Obj}, ∀ p ∈ (Ab, listO vA nA) :: (I, o) :: six s1.heap.objs.size z1 y5 y4 y3 z2 y1 nw', p.1 ≠ I2 := fun p hp => by
                    rcases List.mem_cons.mp hp with rfl | hp
                    · exact Ne.symm nJA
                    · exact offJ' p hp
                  clear F83 N83 hr83
                  (try dsimp only)
                  rw [Int.zero_add]
                  k_steps
                  rename _ = Data.cell (some (Value.int _ _)) => hzn
                  rename IsRange _ _ _ _ _ _ _ _ => hr85
                  rename Fr _ _ _ _ => F85
                  rename News _ _ _ _ => N85
                  try k_fold
                  obtain ⟨zn, ezn⟩ := news_n N85
                  subst ezn
                  try k_fold
                  obtain ⟨vR, hvR, aR, vr, nr, eR, hmr, hir⟩ := paired_get' hpRV (i := i) (y := rests (treeAt i)) (by rw [List.getElem?_map, treeAt_get hi84]; rfl)
                  subst eR
                  try k_fold
                  obtain ⟨vK, hvK, aK, vk, nk, eK, hmk, hik⟩ := paired_get' hpRV (i := kc) (y := rests (treeAt kc)) (by rw [List.getElem?_map, treeAt_get hkc]; rfl)
                  subst eK
                  have hmr' := sb82 _ hmr
                  have hmk' := sb82 _ hmk
                  have hmR' := sb82 _ hmRV
                  have hro := rests_ok _ (treeAt_mem hi84)
                  have hko := rests_ok _ (treeAt_mem hkc)
                  refine ⟨⟨_, _, _, _, 0, 4, _, _, _, 4, _, _, rfl, rfl, F85, N85, hr85, by decide, by decide, by rw [sizeLine_eq]; decide,
                    fun g => restT_of (fun h yw nw' => nw' = _ ∧ IntsAre yw (lowIdx kc i h)) ?_ (fun _ _ j => j) _ 0 [] _ (Nat.zero_add _) ⟨rfl, .nil⟩, ?_⟩⟩
                  · rintro h v yw nw9 I9 oI9 C9 oC9 D86 m9 h9 tk9 E9 hh9 zz19 zz20 hC9 hx9 F9 N9 off9 ne9
                    try dsimp only
                    try k_fold
                    obtain ⟨rfl, hs9⟩ := zz19
                    obtain ⟨th, rfl⟩ := zz20
                    rw [Int.zero_add] at hx9
                    try k_fold
                    obtain ⟨tr, htr⟩ := ints_at hir (i := h) (by rw [hro.1]; exact hh9)
                    try k_fold
                    obtain ⟨tq, htq⟩ := ints_at hik (i := h) (by rw [hko.1]; exact hh9)
                    have hh14 : h < 14 := Nat.lt_of_lt_of_le hh9 (by decide)
                    clear F85 N85
                    (try dsimp only)
                    k_steps
                    rename News _ _ _ _ => N87
                    refine ⟨kim_list (l := ys) N87 (.tail _ (.tail _ (.tail _ (.tail _ (.tail _ (.tail _ (.tail _ (.tail _ (.tail _ (.tail _ (.tail _ (.tail _ (hmR'))))))))))))) rfl rfl (Int.natCast_nonneg _) (Int.lt_of_lt_of_le (Int.ofNat_lt.mpr hi84) (by decide)) (by rw [Int.toNat_natCast]; exact hvR) ?_⟩
                    k_steps
                    rename News _ _ _ _ => N88
                    refine ⟨kba_turn (value' := PySem.Expr.Name (Str.ofString "_") ⟨0, 0, 0, 0⟩) (fun _ => rfl) (kim_list (l := vr) N88 (.tail _ (.tail _ (.tail _ (.tail _ (.tail _ (.tail _ (.tail _ (.tail _ (.tail _ (.tail _ (.tail _ (.tail _ (hmr'))))))))))))) rfl rfl (Int.natCast_nonneg _) (Int.lt_of_lt_of_le (Int.ofNat_lt.mpr hh14) (by decide)) (by rw [Int.toNat_natCast]; exact htr) ?_)⟩
                    k_steps
                    rename News _ _ _ _ => N89
                    refine ⟨kim_list (l := ys) N89 (.tail _ (.tail _ (.tail _ (.tail _ (.tail _ (.tail _ (.tail _ (.tail _ (.tail _ (.tail _ (.tail _ (.tail _ (hmR'))))))))))))) rfl rfl (Int.natCast_nonneg _) (Int.lt_of_lt_of_le (Int.ofNat_lt.mpr hkc) (by decide)) (by rw [Int.toNat_natCast]; exact hvK) ?_⟩
                    k_steps
                    rename News _ _ _ _ => N90
                    by_cases hlow : (rests (treeAt i)).getD h 0 < (rests (treeAt kc)).getD h 0
                    · refine ⟨kba_turn (value' := PySem.Expr.Name (Str.ofString "_") ⟨0, 0, 0, 0⟩) (fun _ => rfl) (kim_list (l := vk) N90 (.tail _ (.tail _ (.tail _ (.tail _ (.tail _ (.tail _ (.tail _ (.tail _ (.tail _ (.tail _ (.tail _ (.tail _ (hmk'))))))))))))) rfl rfl (Int.natCast_nonneg _) (Int.lt_of_lt_of_le (Int.ofNat_lt.mpr hh14) (by decide)) (by rw [Int.toNat_natCast]; exact htq) ?_)⟩
                      k_steps
                      rename Fr _ _ _ _ => F91
                      rename News _ _ _ _ => N91
                      refine LCg.CompEnd.intro F91 N91 _ (fun _ h => h) off9 trivial ⟨rfl, ?_⟩
                      rw [lowIdx_yes hlow]
                      exact ints_snoc hs9
                    · refine ⟨kba_turn (value' := PySem.Expr.Name (Str.ofString "_") ⟨0, 0, 0, 0⟩) (fun _ => rfl) (kim_list (l := vk) N90 (.tail _ (.tail _ (.tail _ (.tail _ (.tail _ (.tail _ (.tail _ (.tail _ (.tail _ (.tail _ (.tail _ (.tail _ (hmk'))))))))))))) rfl rfl (Int.natCast_nonneg _) (Int.lt_of_lt_of_le (Int.ofNat_lt.mpr hh14) (by decide)) (by rw [Int.toNat_natCast]; exact htq) ?_)⟩
                      k_steps
                      rename Fr _ _ _ _ => F91
                      rename News _ _ _ _ => N91
                      refine LCg.CompEnd.intro F91 N91 _ (fun _ h => h) off9 trivial ⟨rfl, ?_⟩
                      rw [lowIdx_no hlow]
                      exact hs9
                  · rintro yw nw9 D86 h9 tk9 zz21 F9 N9 o9
                    try dsimp only
                    try k_fold
                    obtain ⟨rfl, hs9⟩ := zz21
                    clear F85 N85
                    (try dsimp only)
                    k_steps
                    rename Fr _ _ _ _ => F92
                    rename News _ _ _ _ => N92
                    refine ⟨eq_intsK (vs := yw) (us := []) ⟨_, (N92 _ (.tail _ (.head _))).1, rfl, _, rfl⟩ hs9 ⟨_, (N92 _ (.head _)).1, rfl, _, rfl⟩ .nil (by ktr_units) ?_⟩
                    rw [lowIdx_above]
                    replace N92 := kti_tail (kti_tail N92)
                    have hsuc := aboveN_succ (kc := kc) hi84
                    clear o9 hs9
                    try k_fold
                    cases eAb : aboveB kc (treeAt i) with
                    | false =>
                      rw [eAb] at hsuc
                      k_steps
                      rename Fr _ _ _ _ => F93
                      rename News _ _ _ _ => N93
                      refine ⟨turn_end F93 N93 _ (.head _) (fun p hp => ⟨.tail _ hp, ?_⟩) trivial ⟨⟨rfl, rfl, rfl, trivial⟩, zn, vA, nA, rfl, ⟨_, hzn⟩, ?_⟩⟩
                      · exact offJ p hp
                      · rw [hsuc]
                        simpa using hvA
                    | true =>
                      rw [eAb] at hsuc
                      try k_fold
                      obtain ⟨tz, htz⟩ := strs_get hp3 (i := i) (x := named sg (treeAt i)) (by rw [List.getElem?_map, treeAt_get hi84]; rfl)
                      have hlA := (strs_pair hvA).length
                      have hlN := aboveN_len kc i
                      rw [List.length_map] at hlA
                      k_steps
                      rename News _ _ _ _ => N94
                      refine ⟨kf_method (its := vA.toArray) (n := nA) N94 (.tail _ (.head _)) PySem.F.slot_list_append PySem.F.type_list_append ?_⟩
                      k_steps
                      rename News _ _ _ _ => N95
                      refine ⟨kim_list (l := zs) N95 (.tail _ (.tail _ (.tail _ (.tail _ (.tail _ (.tail _ (.tail _ (.tail _ (.tail _ (sb82 _ hmNV)))))))))) rfl rfl (Int.natCast_nonneg _) (Int.lt_of_lt_of_le (Int.ofNat_lt.mpr hi84) (by decide)) (by rw [Int.toNat_natCast]; exact htz) ?_⟩
                      k_steps
                      rename Fr _ _ _ _ => F96
                      rename News _ _ _ _ => N96
                      refine ⟨append_K F96 N96 (.tail nJA (.head offAb)) ?_ (by rw [List.size_toArray, hlA, sizeLine_eq]; exact Nat.le_trans hlN (by decide))⟩
                      clear F96 N96
                      intro h97 F97 N97
                      rw [List.push_toArray] at N97
                      (try dsimp only)
                      k_steps
                      rename Fr _ _ _ _ => F98
                      rename News _ _ _ _ => N98
                      refine ⟨turn_end F98 N98 ((Ab, listO (vA ++ [.str (named sg (treeAt i)) tz]) (nA + 1)) :: (I, o) :: six s1.heap.objs.size zn y5 y4 y3 zk y1 nw') (.head _) (fun p hp => ⟨.tail _ hp, ?_⟩) trivial ⟨⟨rfl, rfl, rfl, trivial⟩, zn, _, _, rfl, ⟨_, hzn⟩, ?_⟩⟩
                      · rcases List.mem_cons.mp hp with rfl | hp
                        · exact Ne.symm nJA
                        · exact offJ' p hp
                      · rw [hsuc, List.map_append]
                        exact kct_snoc hvA
                · rintro m84 nw84 h84 tk84 zz22 F84 N84
                  try dsimp only
                  try k_fold
                  obtain ⟨hkn84, zc, vA, nA, rfl, hzc, hvA⟩ := zz22
                  dsimp only [six] at N84
                  replace F84 := fr_kn F84 hkn84
                  dsimp only [knows] at F84
                  clear F83 N83 hr83
                  rw [aboveN_end] at hvA
                  have hmM8 := hmM'
                  have hlM : vM.length < 64 := by rw [(strs_pair hvM).length, List.length_map]; exact hlK
                  have hlA : vA.length < 64 := by rw [(strs_pair hvA).length, List.length_map, ← aboveN_end]; exact Nat.lt_of_le_of_lt (aboveN_len kc 14) (by decide)
                  have hgk : ∀ (l : List Tree), (∀ t ∈ l, t ∈ all14) → ∀ x ∈ l.map (named sg), PyData.strOk x = true := fun l hl x hx => by
                    try k_fold
                    obtain ⟨t, ht, rfl⟩ := List.mem_map.mp hx
                    exact hG.ok t (hl t ht)
                  (try dsimp only)
                  k_steps
                  rename Fr _ _ _ _ => F85
                  rename News _ _ _ _ => N85
                  refine ⟨sorted_listK F85 N85 (.tail _ (.tail _ (.tail _ (.tail _ (.tail _ (.tail _ (.tail _ (.tail _ (hmM8))))))))) hvM hlM ?_⟩
                  clear F85 N85
                  intro S1 vS1 ss1 h86 cS1 F86 N86 ltS1 hS1 hp1 hq1
                  (try dsimp only)
                  k_steps
                  rename Fr _ _ _ _ => F87
                  rename News _ _ _ _ => N87
                  refine ⟨sorted_listK F87 N87 (.tail _ (.head _)) hvA hlA ?_⟩
                  clear F87 N87
                  intro S2 vS2 ss2 h88 cS2 F88 N88 ltS2 hS2 hp2 hq2
                  (try dsimp only)
                  k_steps
                  rename News _ _ _ _ => N89
                  refine ⟨ne_strsK (vs := vS1) (us := vS2) ⟨_, (N89 _ (.tail _ (.head _))).1, rfl, _, rfl⟩ hS1 ⟨_, (N89 _ (.head _)).1, rfl, _, rfl⟩ hS2 (by ktr_units) (fun x hx => hgk Kc hinK x (hp1.mem_iff.mp hx)) (fun x hx => hgk (aboveT kc) (fun t ht => hinK t (hpK.mem_iff.mpr ht)) x (hp2.mem_iff.mp hx)) ?_⟩
                  have hss : ss1 = ss2 := sortedS_uniq ((hp1.trans (hpK.map _)).trans hp2.symm) hq1 hq2
                  rw [decide_eq_true hss]
                  replace N89 := kti_tail (kti_tail N89)
                  clear hS1 hS2 hp1 hp2 hq1 hq2 hss ltS1 ltS2
                  k_steps
                  rename Fr _ _ _ _ => F90
                  rename News _ _ _ _ => N90
                  refine ⟨turn_end F90 N90 (six s1.heap.objs.size zc y5 y4 y3 zk y1 nw') (.tail _ (.head _)) (fun p hp => ⟨.tail _ (.tail _ hp), ?_⟩) ⟨.tail _ (.tail _ (.tail _ (.tail _ (.tail _ (.tail _ (sb82 _ hmLT)))))), trivial⟩ ⟨⟨rfl, trivial⟩, zc, zk, nw', rfl, hzc, ⟨_, hzk⟩, of82, sb82⟩⟩
                  simp only [List.mem_cons] at hp
                  rcases hp with rfl | rfl | rfl | rfl | rfl | rfl | hp
                  · exact Ne.symm nI6
                  · exact Ne.symm nI5
                  · exact Ne.symm nI4
                  · exact Ne.symm nI3
                  · exact Ne.symm nI2
                  · exact Ne.symm nI1
                  · exact off82 p (.tail _ (.tail _ (.tail _ (.tail _ (.tail _ (.tail _ (hp)))))))
              · rintro m82 nw82 h82 tk82 zz23 F82 N82
                try dsimp only
                try k_fold
                obtain ⟨hkn82, za, zb, nw', rfl, hza, hzb, of82, sb82⟩ := zz23
                clear F80 N81
                (try dsimp only)
                k_steps)
end PartLaw
end Mine
set_option maxRecDepth 100000 in
set_option maxHeartbeats 8000000 in
theorem PySem.Challenge.cw_zn0006_01_holds : PySem.Challenge.rw_zn0006_01.Holds := by
  exact Mine.law_holds
