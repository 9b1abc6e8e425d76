import PyProof.Rows.All
import Wide.All
import OpenK.AllK
import Wide.FinOn
import Lean
import PySem.Challenge.RW_bm0005_01
open PySem PySem.W PyProof.Rows PySem.Spec PySem.Calls
set_option Elab.async false
namespace Mine
set_option maxRecDepth 100000
set_option maxHeartbeats 4000000
set_option linter.unusedVariables false
set_option compiler.extract_closed false
section
-- the written part of the heap that the law reaches, laid ahead of the head itself: the walks need no more than this
local macro_rules | `(tactic| o_head ($f $K $as $e)) => `(tactic| (have hK9 := $K; assumption))
set_option maxHeartbeats 0 in
theorem hd (h9 : PySem.Challenge.rw_bm0005_01.row.Holds) : PySem.Challenge.rw_bm0005_01.row.Holds := by
  k_head
end
section
/-- room for a call: sums of small numbers -/
theorem rz {a n c : Nat} (h : a + n < c) : a < c := Nat.lt_of_le_of_lt (Nat.le_add_right a n) h
theorem rm0 {a b n c : Nat} (h : a + n < c) (k : Nat.ble b n = true) : a + b < c := Nat.lt_of_le_of_lt (Nat.add_le_add_left (Nat.le_of_ble_eq_true k) a) h
theorem rm1 {a x b n c : Nat} (h : a + n < c) (k : Nat.ble (x + b) n = true) : a + x + b < c := (Nat.add_assoc a x b).symm ▸ rm0 h k
theorem rm2 {a x y b n c : Nat} (h : a + n < c) (k : Nat.ble (x + y + b) n = true) : a + x + y + b < c := (Nat.add_assoc a x y).symm ▸ rm1 h k
theorem rm3 {a x y z b n c : Nat} (h : a + n < c) (k : Nat.ble (x + y + z + b) n = true) : a + x + y + z + b < c := (Nat.add_assoc a x y).symm ▸ rm2 h k
theorem rm4 {a x y z v b n c : Nat} (h : a + n < c) (k : Nat.ble (x + y + z + v + b) n = true) : a + x + y + z + v + b < c := (Nat.add_assoc a x y).symm ▸ rm3 h k
theorem mem_here {α : Type} {a b : α} {l : List α} (h : a = b) : a ∈ b :: l := h ▸ List.mem_cons_self

section
variable (w : World) (p : Program) (loose : List Str) (mean : ExcName → Option Value) (mg mb : Str → Option Value)

/-- the ground below a call: the heap without the ledger, the frames above which the call stands -/
structure Gd (A : Around) (base : Heap) (fr : List Env) (g h : Heap) (news : List (Addr × Obj)) : Prop where
  below : Below A base fr g
  kb : (hd.heap_1 w.params).In base
  tb : Top p loose mean mg mb base
  dicts : KtsDicts (fr.filterMap (·.frame)) g
  sub : ∀ b o, g.get? b = some o → h.get? b = some o
  size : g.objs.size ≤ h.objs.size
  led : ∀ q ∈ news, h.get? q.1 = some q.2 ∧ g.get? q.1 = none

abbrev AR (dp un : Nat) (gd : Option (List Code)) (fr : List Env) : Around := { handled := none, depth := dp, frames := some fr, guards := gd, units := un }

/-- what the caller waits for -/
def Owes (dp un : Nat) (gd : Option (List Code)) (base : Heap) (fr : List Env) (g : Heap) (news : List (Addr × Obj)) (s : Shared) (R : Result → Shared → Prop) (Q : List (Addr × Obj) → Value → Prop) : Prop :=
  ∀ r tl h' gn tk g', Gd w p loose mean mg mb (AR dp un gd fr) base fr g' h' (news ++ tl) → KtsTurn (fr.filterMap (·.frame)) g g' → (∀ q ∈ news, ∀ t ∈ tl, q.1 ≠ t.1) → AllBare gn → Q (news ++ tl) r →
      R (.ok (.ret r)) ⟨h', gn, s.drawn, tk, s.os⟩

/-- a contract: under Pre of the ledger the call ends, changes nothing that stood but frames' slots, and gives Post of the greater ledger -/
def Spec (f : Addr) (n u : Nat) {X : Type} (Pre : X → List (Addr × Obj) → Args → Prop) (Post : X → List (Addr × Obj) → Value → Prop) : Prop :=
  ∀ (dp un : Nat) (gd : Option (List Code)) (base : Heap) (fr : List Env) (g : Heap) (news : List (Addr × Obj)) (s : Shared) (args : Args) (R : Result → Shared → Prop) (x : X),
    Gd w p loose mean mg mb (AR dp un gd fr) base fr g s.heap news → dp + n < recursionLimit → un + u < cLine → AllBare s.gens → Pre x news args →
    Owes w p loose mean mg mb dp un gd base fr g news s R (Post x) →
    codeAny (model Challenge.rw_bm0005_01.row.prog w) (AR dp un gd fr) (.call (.ref f) args) R s
end

section
variable {w : World} {p : Program} {loose : List Str} {mean : ExcName → Option Value} {mg mb : Str → Option Value}
  {dp un : Nat} {gd : Option (List Code)} {base g : Heap} {fr : List Env} {news : List (Addr × Obj)} {s : Shared} {args : Args} {R : Result → Shared → Prop}
  {name qual : Str} {params : Arguments} {body : List Stmt} {scope : Scope} {dV kV doc pm cdv ct oc : Value} {an od : Option Addr} {osl : Array (Option Value)} {f : Addr} {binds : List (Str × Value)}

theorem Gd.top {A : Around} {h : Heap} (G : Gd w p loose mean mg mb A base fr g h news) : Top p loose mean mg mb g := G.tb.keeps G.below.stays
theorem Gd.kin {A : Around} {h : Heap} (G : Gd w p loose mean mg mb A base fr g h news) : (hd.heap_1 w.params).In g := G.kb.keeps G.below.stays

theorem enter_plain (G : Gd w p loose mean mg mb (AR dp un gd fr) base fr g s.heap news)
    (ho : (hd.heap_1 w.params).lookup f = some ⟨oc, od, .func (fnOf name qual params body scope dV kV doc pm an cdv ct), osl⟩) (hcd : codeIn (hd.heap_1 w.params) cdv qual = true) (hroom : dp < recursionLimit)
    (hbind : BindsTo s (fnOf name qual params body scope dV kV doc pm an cdv ct) args binds) (hloc : ∀ y ∈ binds, scope.names.lookup y.1 = some .local)
    (h : ∀ L' h₁ tk, Fr g L' h₁ (fun y => binds.reverse.lookup y) → News g L' h₁ news → (∀ q ∈ news, q.1 < L') → Below (AR dp un gd fr) base fr g → (hd.heap_1 w.params).In g → Top p loose mean mg mb g → KtsDicts (fr.filterMap (·.frame)) g →
      wpAny (model Challenge.rw_bm0005_01.row.prog w) ((AR dp un gd fr).deeper (envOf qual scope L' f cdv)) (execs body (envOf qual scope L' f cdv))
        (fun fl s' => R (.ok (.ret (match fl with | .ret v => v | _ => .none))) s')
        (fun e s' => wpAny (model Challenge.rw_bm0005_01.row.prog w) ((AR dp un gd fr).deeper (envOf qual scope L' f cdv)) (leaving (envOf qual scope L' f cdv) e) (fun _ s'' => R (.error e) s'') (fun e' s'' => R (.error e') s'') s')
        { s with heap := h₁, toks := tk })
    (hco : scope.isCoroutine = false) (hgen : scope.isGenerator = false) (hk : scope.kind = .function)
    (hcell : ∀ x ∈ scope.names, x.2 ≠ .cell) : codeAny (model Challenge.rw_bm0005_01.row.prog w) (AR dp un gd fr) (.call (.ref f) args) R s := by
  have X : (hd.heap_1 w.params).In s.heap := G.kin.keeps G.sub
  refine codeAny_call_def (fd := fnOf name qual params body scope dV kV doc pm an cdv ct) (body := body) (binds := binds) hroom (X _ _ ho) rfl (G.top.nolimit.keeps G.sub) (codeRec_of X hcd) rfl hbind hcell hloc (fun h₁ hns hk₁ => ?_) hco hgen hk
  exact h s.heap.objs.size h₁ _ ⟨hns, fun b o e => hk₁ b o (G.sub b o e), G.size⟩ (fun q hq => ⟨hk₁ _ _ (G.led q hq).1, Nat.ne_of_lt (Heap.lt_size (G.led q hq).1), (G.led q hq).2⟩)
    (fun q hq => Heap.lt_size (G.led q hq).1) G.below G.kin G.top G.dicts

theorem enter_cells (G : Gd w p loose mean mg mb (AR dp un gd fr) base fr g s.heap news)
    (ho : (hd.heap_1 w.params).lookup f = some ⟨oc, od, .func (fnOf name qual params body scope dV kV doc pm an cdv ct), osl⟩) (hcd : codeIn (hd.heap_1 w.params) cdv qual = true) (hroom : dp < recursionLimit)
    (hbind : BindsTo s (fnOf name qual params body scope dV kV doc pm an cdv ct) args binds)
    (hkind : (binds.all fun y => scope.names.lookup y.1 == some .local || scope.names.lookup y.1 == some .cell) = true)
    (hnd : ((cellsFrom 0 scope.names []).map (·.1)).Nodup)
    (h : ∀ L' h₁ tk cells, Fr g L' h₁ (bindL (envOfC qual scope L' f cdv).kindOf binds fun _ => none) → News g L' h₁ (cells ++ news) →
      CellsAre (bindC (envOfC qual scope L' f cdv).kindOf binds fun _ => none) (cellsFrom (L' + 1) scope.names []) cells → (∀ q ∈ news, q.1 < L') → Below (AR dp un gd fr) base fr g → (hd.heap_1 w.params).In g → Top p loose mean mg mb g → KtsDicts (fr.filterMap (·.frame)) g →
      wpAny (model Challenge.rw_bm0005_01.row.prog w) ((AR dp un gd fr).deeper (envOfC qual scope L' f cdv)) (execs body (envOfC qual scope L' f cdv))
        (fun fl s' => R (.ok (.ret (match fl with | .ret v => v | _ => .none))) s')
        (fun e s' => wpAny (model Challenge.rw_bm0005_01.row.prog w) ((AR dp un gd fr).deeper (envOfC qual scope L' f cdv)) (leaving (envOfC qual scope L' f cdv) e) (fun _ s'' => R (.error e) s'') (fun e' s'' => R (.error e') s'') s')
        { s with heap := h₁, toks := tk })
    (hco : scope.isCoroutine = false) (hgen : scope.isGenerator = false) (hk : scope.kind = .function) :
    codeAny (model Challenge.rw_bm0005_01.row.prog w) (AR dp un gd fr) (.call (.ref f) args) R s := by
  have X : (hd.heap_1 w.params).In s.heap := G.kin.keeps G.sub
  refine codeAny_call_function hroom (X _ _ ho) rfl hco hgen rfl (codeRec_of X hcd) (hbind _ _ _ _ ?_)
  refine wpAny_newFunctionEnv_cells hk (kindsX hkind _) fun env' he s' x => ?_
  subst he
  refine ⟨(G.top.nolimit.keeps G.sub).keeps x.toInCall.keep, codeAny_func ?_⟩
  obtain ⟨h₁, tk, rfl, _⟩ := x.done
  have hk₁ := x.toInCall.keep
  obtain ⟨cells, NC, Y⟩ := Cl.news (h₀ := s.heap) (Nat.le_refl _) fun n c hm => ⟨x.cell n c (lookup_of_mem_nodup (cellsFrom_names scope.names 0 (s.heap.objs.size + 1) [] [] rfl ▸ hnd) hm), x.above n c hm⟩
  refine h s.heap.objs.size h₁ tk cells ⟨x.toInCall.ns, fun b o e => hk₁ b o (G.sub b o e), G.size⟩ (fun q hq => ?_) Y (fun q hq => Heap.lt_size (G.led q hq).1) G.below G.kin G.top G.dicts
  rcases List.mem_append.mp hq with hq | hq
  · refine ⟨(NC q hq).1, (NC q hq).2.1, ?_⟩
    cases e : g.get? q.1 with
    | none => rfl
    | some o => have := (NC q hq).2.2; rw [G.sub _ _ e] at this; cases this
  · exact ⟨hk₁ _ _ (G.led q hq).1, Nat.ne_of_lt (Heap.lt_size (G.led q hq).1), (G.led q hq).2⟩

/-- what a body's end owes -/
theorem fin_spec {Q : List (Addr × Obj) → Value → Prop} {g' h' : Heap} {L' : Addr} {m' : Str → Option Value} {M : List (Addr × Obj)} {r : Value} {gn : Array GenState} {tk : Nat}
    (G : Gd w p loose mean mg mb (AR dp un gd fr) base fr g s.heap news)
    (ret : Owes w p loose mean mg mb dp un gd base fr g news s R Q)
    (T : KtsTurn (fr.filterMap (·.frame)) g g') (F : Fr g' L' h' m') (N : News g' L' h' M) (B : Below (AR dp un gd fr) base fr g') (D : KtsDicts (fr.filterMap (·.frame)) g') (hb : AllBare gn)
    (tl : List (Addr × Obj)) (hM : ∀ q ∈ news ++ tl, q ∈ M) (ord : ∀ q ∈ news, ∀ t ∈ tl, q.1 ≠ t.1) (post : Q (news ++ tl) r) : R (.ok (.ret r)) ⟨h', gn, s.drawn, tk, s.os⟩ :=
  ret r tl h' gn tk g' ⟨B, G.kb, G.tb, D, F.keep, by
    obtain ⟨oL, _, _, hL, _⟩ := F.ns
    exact Nat.le_trans F.above (Nat.le_of_lt (Heap.lt_size hL)), fun q hq => ⟨(N q (hM q hq)).1, (N q (hM q hq)).2.2⟩⟩ T ord hb post
end

section
variable {w : World} {p : Program} {loose : List Str} {mean : ExcName → Option Value} {mg mb : Str → Option Value}
  {A A₀ : Around} {base h₀ : Heap} {env : Env} {outer : List Env} {L : Addr} {m : Str → Option Value} {news : List (Addr × Obj)} {s : Shared} {args : Args} {R : Result → Shared → Prop} {f : Addr} {n u : Nat}
  {X : Type} {Pre : X → List (Addr × Obj) → Args → Prop} {Post : X → List (Addr × Obj) → Value → Prop}

theorem Spec.use (S : Spec w p loose mean mg mb f n u Pre Post) (B : Below A₀ base outer h₀) (F : Fr h₀ L s.heap m) (XB : (hd.heap_1 w.params).In base) (TB : Top p loose mean mg mb base) (D : KtsDicts (outer.filterMap (·.frame)) h₀)
    {M : List (Addr × Obj)} (NM : News h₀ L s.heap M) (hsub : ∀ q ∈ news, q ∈ M) (hA : A.frames = some (env :: outer)) (hf : env.frame = some L) (hke : env.scope.kind = .function) (hh : A.handled = none) (hdp : A.depth + n < recursionLimit) (hu : A.units + u < cLine)
    (hb : AllBare s.gens) (x : X) (hpre : Pre x news args)
    (k : ∀ r tl h' gn tk h₀', KtsTurn (outer.filterMap (·.frame)) h₀ h₀' → Fr h₀' L h' m → News h₀' L h' (M ++ tl) → Below A₀ base outer h₀' → (hd.heap_1 w.params).In h₀' → Top p loose mean mg mb h₀' → KtsDicts (outer.filterMap (·.frame)) h₀' →
      (∀ q ∈ M, ∀ t ∈ tl, q.1 ≠ t.1) → AllBare gn → Post x (news ++ tl) r → R (.ok (.ret r)) ⟨h', gn, s.drawn, tk, s.os⟩) :
    codeAny (model Challenge.rw_bm0005_01.row.prog w) A (.call (.ref f) args) R s := by
  have N : News h₀ L s.heap news := fun q hq => NM q (hsub q hq)
  obtain ⟨hd', dp, frs, gd, un⟩ := A
  dsimp only at hA hh hdp hu
  subst hh hA
  obtain ⟨FG, BG, st, _⟩ := groundX (R := R) (A := AR dp un gd (env :: outer)) B F N rfl hf hke
  obtain ⟨oL, es, ep, hL, hLd, hLk, hLf⟩ := F.ns
  obtain ⟨oL', es', ep', hLg, hLd', _, _⟩ := FG.ns
  have hLe : oL' = oL := by
    have := of_hideAll _ hLg
    rw [hL] at this; exact (Option.some.inj this).symm
  subst hLe
  have nL₀ : h₀.get? L = none := kts_self F
  refine S dp un gd base (env :: outer) _ news s args R x ⟨BG, XB, TB, fun b hb' => ?_, fun b o e => of_hideAll _ e, Nat.le_of_eq (hideAll_size _ _), fun q hq => ⟨(N q hq).1, hideAll_none _ (List.mem_map_of_mem hq)⟩⟩ hdp hu hb hpre
    fun r tl h' gn tk g' G' T' ord hgn post => ?_
  · simp only [List.filterMap_cons, hf] at hb'
    rcases List.mem_cons.mp hb' with rfl | hb'
    · exact ⟨oL', es, ep, hLg, hLd⟩
    · obtain ⟨o, es', n', ho', hd'⟩ := D b hb'
      exact ⟨o, es', n', st b o ho', hd'⟩
  · have T'' : KtsTurn (L :: outer.filterMap (·.frame)) (hideAll s.heap (news.map (·.1))) g' := by
      have e : (env :: outer).filterMap (·.frame) = L :: outer.filterMap (·.frame) := by simp only [List.filterMap_cons, hf]
      rw [e] at T'; exact T'
    obtain ⟨sl, hs⟩ := T''.up hLg
    obtain ⟨T₁, S₁⟩ := kts_turn_at (h := h') (fs := outer.filterMap (·.frame)) (g := h₀)
      (fun b hb' => by
        obtain ⟨_, o, ho', _⟩ := B.frames.mem hb'
        exact ⟨o, ho'⟩)
      (fun b o e nmem => G'.sub b o (T''.other b o (st b o e) (fun q => by
        rcases List.mem_cons.mp q with z | z
        · rw [z, nL₀] at e
          cases e
        · exact nmem z)))
      (fun b o e hm => by
        obtain ⟨sl', hs'⟩ := T''.up (st b o e)
        exact ⟨sl', G'.sub _ _ hs'⟩)
    have B₃ : Below A₀ base outer (ktsHeap h' (outer.filterMap (·.frame)) h₀) := ⟨B.stack, fun b o e => T₁.other b o (B.stays b o e) (fun hm => by
      rw [(B.frames.mem hm).1] at e
      cases e), B.frames.of_keeps fun b o e _ => by
      obtain ⟨sl', hs'⟩ := T₁.up e
      exact ⟨_, hs', rfl⟩⟩
    have nL : ∀ t ∈ news ++ tl, t.1 ≠ L := fun t ht e => by
      have := (G'.led t ht).2; rw [e, hs] at this; cases this
    have N₁ : News (ktsHeap h' (outer.filterMap (·.frame)) h₀) L h' (news ++ tl) := fun q hq => ⟨(G'.led q hq).1, nL q hq, by
      refine T₁.none_ _ ?_
      cases e : h₀.get? q.1 with
      | none => rfl
      | some o =>
        obtain ⟨sl', hs'⟩ := T''.up (st _ _ e)
        have := (G'.led q hq).2
        rw [hs'] at this
        cases this⟩
    have keepM : ∀ q ∈ M, q.1 ∉ news.map (·.1) → g'.get? q.1 = some q.2 := fun q hq hn => by
      have e : (hideAll s.heap (news.map (·.1))).get? q.1 = some q.2 := by
        have := hideAll_get (h := s.heap) (news.map (·.1)) (NM q hq).1 hn
        exact this
      refine T''.other _ _ e fun z => ?_
      rcases List.mem_cons.mp z with z | z
      · exact (NM q hq).2.1 z
      · obtain ⟨o, _, _, ho, _⟩ := D _ z
        have := (NM q hq).2.2; rw [ho] at this; cases this
    refine k r tl h' gn tk _ T₁ ⟨⟨_, es, ep, G'.sub _ _ hs, hLd, hLk, hLf⟩, S₁, by rw [T₁.size]; exact F.above⟩ (fun q hq => ?_) B₃ (XB.keeps B₃.stays) (TB.keeps B₃.stays) (D.turn T₁) (fun q hq t ht => ?_) hgn post
    · rcases List.mem_append.mp hq with hq | hq
      · refine ⟨?_, (NM q hq).2.1, T₁.none_ _ (NM q hq).2.2⟩
        by_cases z : q.1 ∈ news.map (·.1)
        · obtain ⟨q', hq', e⟩ := List.mem_map.mp z
          have h1 := (N q' hq').1; have h2 := (NM q hq).1
          have h3 := (G'.led q' (List.mem_append.mpr (.inl hq'))).1
          rw [e] at h1 h3; rw [h1] at h2; rw [h3, h2]
        · exact G'.sub _ _ (keepM q hq z)
      · exact N₁ q (List.mem_append.mpr (.inr hq))
    · by_cases z : q.1 ∈ news.map (·.1)
      · obtain ⟨q', hq', e⟩ := List.mem_map.mp z
        rw [← e]; exact ord q' hq' t ht
      · intro e
        have h1 := keepM q hq z
        have h2 := (G'.led t (List.mem_append.mpr (.inr ht))).2
        rw [← e, h1] at h2; cases h2
end
end
section

abbrev Led := List (Addr × Obj)
abbrev ent (w : World) (x : String) (t : Tok) (v : Value) : DictEntry := ⟨PyData.keyHash w.params (Str.ofString x), .str (Str.ofString x) t, v⟩
abbrev tupO (vs : List Value) (n : Nat) : Obj := { cls := .type "tuple", data := .seq vs.toArray n }
abbrev lstO (vs : List Value) (n : Nat) : Obj := { cls := .type "list", data := .seq vs.toArray n }

def NAMES : List Str := [Str.ofString "a", Str.ofString "b", Str.ofString "c d", Str.ofString "x1", Str.ofString "it's"]

inductive Path where
  | root | this | wild
  | fields (fs : List Str)
  | index (ps : List Int)
  | child (l r : Path)

inductive PathIn (w : World) (news : Led) : Value → Path → Prop where
  | root {a d : Addr} : (a, instObj 275 d) ∈ news → (d, dictOf [] 0) ∈ news → PathIn w news (.ref a) .root
  | this {a d : Addr} : (a, instObj 336 d) ∈ news → (d, dictOf [] 0) ∈ news → PathIn w news (.ref a) .this
  | wild {a d : Addr} : (a, instObj 634 d) ∈ news → (d, dictOf [] 0) ∈ news → PathIn w news (.ref a) .wild
  | fields {a d T : Addr} {t1 t2 : Tok} {vs : List Value} {n : Nat} {fs : List Str} : (a, instObj 558 d) ∈ news → (d, dictOf [ent w "_deprecated_wildcard_use" t1 (.bool false), ent w "fields" t2 (.ref T)] 2) ∈ news →
      (T, tupO vs n) ∈ news → StrsAre vs fs → PathIn w news (.ref a) (.fields fs)
  | index {a d T : Addr} {t1 : Tok} {vs : List Value} {n : Nat} {ps : List Int} : (a, instObj 735 d) ∈ news → (d, dictOf [ent w "indices" t1 (.ref T)] 1) ∈ news →
      (T, tupO vs n) ∈ news → IntsAre vs ps → PathIn w news (.ref a) (.index ps)
  | child {a d : Addr} {t1 t2 : Tok} {l r : Value} {p q : Path} : (a, instObj 430 d) ∈ news → (d, dictOf [ent w "left" t1 l, ent w "right" t2 r] 2) ∈ news →
      PathIn w news l p → PathIn w news r q → PathIn w news (.ref a) (.child p q)

theorem PathIn.mono {w : World} {news news' : Led} {v : Value} {p : Path} (h : PathIn w news v p) (hs : ∀ q ∈ news, q ∈ news') : PathIn w news' v p := by
  induction h with
  | root h1 h2 => exact .root (hs _ h1) (hs _ h2)
  | this h1 h2 => exact .this (hs _ h1) (hs _ h2)
  | wild h1 h2 => exact .wild (hs _ h1) (hs _ h2)
  | fields h1 h2 h3 h4 => exact .fields (hs _ h1) (hs _ h2) (hs _ h3) h4
  | index h1 h2 h3 h4 => exact .index (hs _ h1) (hs _ h2) (hs _ h3) h4
  | child h1 h2 _ _ i1 i2 => exact .child (hs _ h1) (hs _ h2) i1 i2

theorem alF {d : Addr} {l : Led} {q : Addr × Obj} (h : ∀ p ∈ l, p.1 < d) (hq : q ∈ l) : q.1 < d := h q hq
theorem al0 {d : Addr} {l : Led} {q : Addr × Obj} (h : AllLt d l) (hq : q ∈ l) : q.1 < d := ktn_ltOf h q hq
theorem al1 {a0 : Prop} {d : Addr} {l : Led} {q : Addr × Obj} (h : a0 ∧ AllLt d l) (hq : q ∈ l) : q.1 < d := al0 h.2 hq
theorem al2 {a0 a1 : Prop} {d : Addr} {l : Led} {q : Addr × Obj} (h : a0 ∧ a1 ∧ AllLt d l) (hq : q ∈ l) : q.1 < d := al1 h.2 hq
theorem al3 {a0 a1 a2 : Prop} {d : Addr} {l : Led} {q : Addr × Obj} (h : a0 ∧ a1 ∧ a2 ∧ AllLt d l) (hq : q ∈ l) : q.1 < d := al2 h.2 hq
theorem al4 {a0 a1 a2 a3 : Prop} {d : Addr} {l : Led} {q : Addr × Obj} (h : a0 ∧ a1 ∧ a2 ∧ a3 ∧ AllLt d l) (hq : q ∈ l) : q.1 < d := al3 h.2 hq
theorem al5 {a0 a1 a2 a3 a4 : Prop} {d : Addr} {l : Led} {q : Addr × Obj} (h : a0 ∧ a1 ∧ a2 ∧ a3 ∧ a4 ∧ AllLt d l) (hq : q ∈ l) : q.1 < d := al4 h.2 hq
theorem al6 {a0 a1 a2 a3 a4 a5 : Prop} {d : Addr} {l : Led} {q : Addr × Obj} (h : a0 ∧ a1 ∧ a2 ∧ a3 ∧ a4 ∧ a5 ∧ AllLt d l) (hq : q ∈ l) : q.1 < d := al5 h.2 hq
theorem al7 {a0 a1 a2 a3 a4 a5 a6 : Prop} {d : Addr} {l : Led} {q : Addr × Obj} (h : a0 ∧ a1 ∧ a2 ∧ a3 ∧ a4 ∧ a5 ∧ a6 ∧ AllLt d l) (hq : q ∈ l) : q.1 < d := al6 h.2 hq
theorem al8 {a0 a1 a2 a3 a4 a5 a6 a7 : Prop} {d : Addr} {l : Led} {q : Addr × Obj} (h : a0 ∧ a1 ∧ a2 ∧ a3 ∧ a4 ∧ a5 ∧ a6 ∧ a7 ∧ AllLt d l) (hq : q ∈ l) : q.1 < d := al7 h.2 hq
theorem al9 {a0 a1 a2 a3 a4 a5 a6 a7 a8 : Prop} {d : Addr} {l : Led} {q : Addr × Obj} (h : a0 ∧ a1 ∧ a2 ∧ a3 ∧ a4 ∧ a5 ∧ a6 ∧ a7 ∧ a8 ∧ AllLt d l) (hq : q ∈ l) : q.1 < d := al8 h.2 hq
theorem al10 {a0 a1 a2 a3 a4 a5 a6 a7 a8 a9 : Prop} {d : Addr} {l : Led} {q : Addr × Obj} (h : a0 ∧ a1 ∧ a2 ∧ a3 ∧ a4 ∧ a5 ∧ a6 ∧ a7 ∧ a8 ∧ a9 ∧ AllLt d l) (hq : q ∈ l) : q.1 < d := al9 h.2 hq
theorem al11 {a0 a1 a2 a3 a4 a5 a6 a7 a8 a9 a10 : Prop} {d : Addr} {l : Led} {q : Addr × Obj} (h : a0 ∧ a1 ∧ a2 ∧ a3 ∧ a4 ∧ a5 ∧ a6 ∧ a7 ∧ a8 ∧ a9 ∧ a10 ∧ AllLt d l) (hq : q ∈ l) : q.1 < d := al10 h.2 hq
theorem al12 {a0 a1 a2 a3 a4 a5 a6 a7 a8 a9 a10 a11 : Prop} {d : Addr} {l : Led} {q : Addr × Obj} (h : a0 ∧ a1 ∧ a2 ∧ a3 ∧ a4 ∧ a5 ∧ a6 ∧ a7 ∧ a8 ∧ a9 ∧ a10 ∧ a11 ∧ AllLt d l) (hq : q ∈ l) : q.1 < d := al11 h.2 hq
theorem al13 {a0 a1 a2 a3 a4 a5 a6 a7 a8 a9 a10 a11 a12 : Prop} {d : Addr} {l : Led} {q : Addr × Obj} (h : a0 ∧ a1 ∧ a2 ∧ a3 ∧ a4 ∧ a5 ∧ a6 ∧ a7 ∧ a8 ∧ a9 ∧ a10 ∧ a11 ∧ a12 ∧ AllLt d l) (hq : q ∈ l) : q.1 < d := al12 h.2 hq
theorem al14 {a0 a1 a2 a3 a4 a5 a6 a7 a8 a9 a10 a11 a12 a13 : Prop} {d : Addr} {l : Led} {q : Addr × Obj} (h : a0 ∧ a1 ∧ a2 ∧ a3 ∧ a4 ∧ a5 ∧ a6 ∧ a7 ∧ a8 ∧ a9 ∧ a10 ∧ a11 ∧ a12 ∧ a13 ∧ AllLt d l) (hq : q ∈ l) : q.1 < d := al13 h.2 hq
theorem al15 {a0 a1 a2 a3 a4 a5 a6 a7 a8 a9 a10 a11 a12 a13 a14 : Prop} {d : Addr} {l : Led} {q : Addr × Obj} (h : a0 ∧ a1 ∧ a2 ∧ a3 ∧ a4 ∧ a5 ∧ a6 ∧ a7 ∧ a8 ∧ a9 ∧ a10 ∧ a11 ∧ a12 ∧ a13 ∧ a14 ∧ AllLt d l) (hq : q ∈ l) : q.1 < d := al14 h.2 hq
theorem al16 {a0 a1 a2 a3 a4 a5 a6 a7 a8 a9 a10 a11 a12 a13 a14 a15 : Prop} {d : Addr} {l : Led} {q : Addr × Obj} (h : a0 ∧ a1 ∧ a2 ∧ a3 ∧ a4 ∧ a5 ∧ a6 ∧ a7 ∧ a8 ∧ a9 ∧ a10 ∧ a11 ∧ a12 ∧ a13 ∧ a14 ∧ a15 ∧ AllLt d l) (hq : q ∈ l) : q.1 < d := al15 h.2 hq
/-- the ledger M is news and, above it, tl -/
inductive Split : Led → Led → Led → Prop where
  | nil {news : Led} : Split news news []
  | cons {a : Addr × Obj} {M news tl : Led} : (∀ q ∈ news, q.1 ≠ a.1) → Split M news tl → Split (a :: M) news (a :: tl)
  | app {M M' news tl : Led} : (∀ q ∈ news, ∀ t ∈ M', q.1 ≠ t.1) → Split M news tl → Split (M ++ M') news (tl ++ M')
theorem Split.mem {M news tl : Led} (S : Split M news tl) : ∀ q ∈ news ++ tl, q ∈ M := by
  induction S with
  | nil => intro q hq; simpa using hq
  | cons _ _ ih =>
    intro q hq
    simp only [List.mem_append, List.mem_cons] at hq ih ⊢
    rcases hq with h | h | h
    · exact .inr (ih q (.inl h))
    · exact .inl h
    · exact .inr (ih q (.inr h))
  | app _ _ ih =>
    intro q hq
    simp only [List.mem_append] at hq ih ⊢
    rcases hq with h | h | h
    · exact .inl (ih q (.inl h))
    · exact .inl (ih q (.inr h))
    · exact .inr h
theorem Split.back {M news tl : Led} (S : Split M news tl) : ∀ q ∈ M, q ∈ news ++ tl := by
  induction S with
  | nil => intro q hq; simpa using hq
  | cons _ _ ih =>
    intro q hq
    simp only [List.mem_append, List.mem_cons] at hq ih ⊢
    rcases hq with h | h
    · exact .inr (.inl h)
    · rcases ih q h with h | h
      · exact .inl h
      · exact .inr (.inr h)
  | app _ _ ih =>
    intro q hq
    simp only [List.mem_append] at hq ih ⊢
    rcases hq with h | h
    · rcases ih q h with h | h
      · exact .inl h
      · exact .inr (.inl h)
    · exact .inr (.inr h)
theorem Split.ord {M news tl : Led} (S : Split M news tl) : ∀ q ∈ news, ∀ t ∈ tl, q.1 ≠ t.1 := by
  induction S with
  | nil => intro _ _ _ h; cases h
  | cons h _ ih =>
    intro q hq t ht
    rcases List.mem_cons.mp ht with rfl | ht
    · exact h q hq
    · exact ih q hq t ht
  | app h S ih =>
    intro q hq t ht
    rcases List.mem_append.mp ht with ht | ht
    · exact ih q hq t ht
    · exact h q hq t ht

theorem ord_sub {S X l : Led} (h : ∀ q ∈ X, ∀ t ∈ l, q.1 ≠ t.1) (hs : ∀ q ∈ S, q ∈ X) : ∀ q ∈ S, ∀ t ∈ l, q.1 ≠ t.1 := fun q hq t ht => h q (hs q hq) t ht
section
variable {w : World} {p : Program} {loose : List Str} {mean : ExcName → Option Value} {mg mb : Str → Option Value}
  {dp un : Nat} {gd : Option (List Code)} {base g : Heap} {fr : List Env} {news : Led} {s : Shared} {R : Result → Shared → Prop}
theorem fin_led {Q : Led → Value → Prop} {g' h' : Heap} {L' : Addr} {m' : Str → Option Value} {M tl : Led} {r : Value} {gn : Array GenState} {tk : Nat} {dr : Drawn} {os : OsState}
    (G : Gd w p loose mean mg mb (AR dp un gd fr) base fr g s.heap news)
    (ret : Owes w p loose mean mg mb dp un gd base fr g news s R Q) (e1 : s.drawn = dr) (e2 : s.os = os)
    (T : KtsTurn (fr.filterMap (·.frame)) g g') (F : Fr g' L' h' m') (N : News g' L' h' M) (B : Below (AR dp un gd fr) base fr g') (D : KtsDicts (fr.filterMap (·.frame)) g') (hb : AllBare gn)
    (S : Split M news tl) (post : (∀ q ∈ M, q ∈ news ++ tl) → Q (news ++ tl) r) : R (.ok (.ret r)) ⟨h', gn, dr, tk, os⟩ := e1 ▸ e2 ▸
  fin_spec G ret T F N B D hb tl S.mem S.ord (post S.back)
end

/-- what a rule's user owes: the ledger grown by tl, the frame as it stood -/
def Gives (h₀ : Heap) (L : Addr) (m : Str → Option Value) (news : Led) (s : Shared) (Q : Value → Shared → Prop) (P : Led → Value → Prop) : Prop :=
  ∀ r tl h' tk, Fr h₀ L h' m → News h₀ L h' (news ++ tl) → (∀ q ∈ news, ∀ t ∈ tl, q.1 ≠ t.1) → P (news ++ tl) r → Q r { s with heap := h', toks := tk }
theorem end_rule {h₀ h' : Heap} {L : Addr} {m : Str → Option Value} {news M tl : Led} {s : Shared} {Q : Value → Shared → Prop} {P : Led → Value → Prop} {r : Value} {tk : Nat} (k : Gives h₀ L m news s Q P) (F : Fr h₀ L h' m) (N : News h₀ L h' M) (S : Split M news tl)
    (post : (∀ q ∈ M, q ∈ news ++ tl) → P (news ++ tl) r) : Q r { s with heap := h', toks := tk } := k r tl h' tk F (fun q hq => N q (S.mem q hq)) S.ord (post S.back)

def GivesT (h₀ : Heap) (L : Addr) (m : Str → Option Value) (news : Led) (s : Shared) (Q : Value → Shared → Prop) (P : Led → Value → Prop) : Prop :=
  ∀ r tl h' tk, Fr h₀ L h' m → News h₀ L h' (news ++ tl) → (∀ q ∈ news, ∀ t ∈ tl, q.1 ≠ t.1) → P tl r → Q r { s with heap := h', toks := tk }
theorem end_ruleT {h₀ h' : Heap} {L : Addr} {m : Str → Option Value} {news M tl : Led} {s : Shared} {Q : Value → Shared → Prop} {P : Led → Value → Prop} {r : Value} {tk : Nat} (k : GivesT h₀ L m news s Q P) (F : Fr h₀ L h' m) (N : News h₀ L h' M) (S : Split M news tl)
    (post : P tl r) : Q r { s with heap := h', toks := tk } := k r tl h' tk F (fun q hq => N q (S.mem q hq)) S.ord post
end
local macro_rules | `(tactic| k_mem) => `(tactic| first
  | (with_reducible refine mem_here ?_; exact rfl)
  | (with_reducible refine List.mem_cons_of_mem _ ?_; k_mem)
  | (with_reducible refine List.mem_append_left _ ?_; k_mem)
  | (with_reducible refine List.mem_append_right _ ?_; k_mem)
  | assumption)
local macro_rules | `(tactic| walk_at "m_rm") => `(tactic| first | (refine rm0 (by assumption) ?_; exact rfl) | (refine rm1 (by assumption) ?_; exact rfl) | (refine rm2 (by assumption) ?_; exact rfl) | (refine rm3 (by assumption) ?_; exact rfl) | (refine rm4 (by assumption) ?_; exact rfl))
local macro_rules | `(tactic| k_room) => `(tactic| first | walk_at "m_rm" | ((try simp only [depth_under_make, depth_under_kw, depth_in1, depth_deeper, Around.deeper_units]); (try dsimp only); first | walk_at "m_rm" | omega))
local macro_rules | `(tactic| walk_at "m_enter") => `(tactic| (refine' enter_plain ?kG ?k6 ?k7 ?k8 ?k9 ?kB ?_ ?c2 ?c3 ?c4 ?c5; (case kG => assumption); (case k6 => k_is); (case k7 => k_is); (case k8 => first | exact rz (by assumption) | omega); (case k9 => first | exact BindsTo.of_eq rfl | exact binds_K (by k_in) rfl (by k_is) rfl rfl rfl); (case kB => exact locs rfl); (case c2 => exact rfl); (case c3 => exact rfl); (case c4 => exact rfl); (case c5 => decide); intro L' h' tk' F' N' l' B' X' T' D'; (try dsimp only)))
local macro_rules | `(tactic| walk_at "m_lt") => `(tactic| first
  | assumption
  | exact alF (by assumption) (by assumption)
  | exact al0 (by assumption) (by assumption)
  | exact al1 (by assumption) (by assumption)
  | exact al2 (by assumption) (by assumption)
  | exact al3 (by assumption) (by assumption)
  | exact al4 (by assumption) (by assumption)
  | exact al5 (by assumption) (by assumption)
  | exact al6 (by assumption) (by assumption)
  | exact al7 (by assumption) (by assumption)
  | exact al8 (by assumption) (by assumption)
  | exact al9 (by assumption) (by assumption)
  | exact al10 (by assumption) (by assumption)
  | exact al11 (by assumption) (by assumption)
  | exact al12 (by assumption) (by assumption)
  | exact al13 (by assumption) (by assumption)
  | exact al14 (by assumption) (by assumption)
  | exact al15 (by assumption) (by assumption)
  | exact al16 (by assumption) (by assumption)
  | (refine Nat.lt_trans ?_ (by assumption); walk_at "m_lt"))
local macro_rules | `(tactic| walk_at "m_split") => `(tactic| first
  | exact Split.nil
  | (refine' Split.app ?h9 ?r9; (case h9 => first | assumption | exact ord_sub (by assumption) (by walk_at "m_sub")); (case r9 => walk_at "m_split"))
  | (refine' Split.cons ?h9 ?r9; (case h9 => (intro q9 hq9; (try dsimp only); refine Nat.ne_of_lt ?_; walk_at "m_lt")); (case r9 => walk_at "m_split")))
local macro_rules | `(tactic| walk_at "m_turn") => `(tactic| first | assumption | exact KtsTurn.refl | exact KtsTurn.trans (by assumption) (by assumption) | exact KtsTurn.trans (by assumption) (KtsTurn.trans (by assumption) (by assumption)) | exact KtsTurn.trans (by assumption) (KtsTurn.trans (by assumption) (KtsTurn.trans (by assumption) (by assumption))))
local macro_rules | `(tactic| walk_at "m_fin") => `(tactic| (refine' fin_led ?mG ?mR ?m1 ?m2 ?mT ?mF ?mN ?mB ?mD ?mb ?mS ?_; (case mG => assumption); (case mR => assumption); (case m1 => exact rfl); (case m2 => exact rfl); (case mF => k_asm); (case mT => walk_at "m_turn"); (case mN => k_asm); (case mB => k_asm); (case mD => k_asm); (case mb => assumption); (case mS => walk_at "m_split")))
local macro_rules | `(tactic| walk_at "m_sub") => `(tactic| (intro q9 hq9; first | exact hq9 | (simp only [List.mem_cons, List.mem_append, hq9, true_or, or_true]; done)))
local macro_rules | `(tactic| walk_at "m_path") => `(tactic| first | assumption | exact PathIn.mono (by assumption) (by walk_at "m_sub"))
local macro_rules | `(tactic| walk_at "m_end") => `(tactic| (refine' end_rule ?mk ?mF ?mN ?mS ?_; (case mk => assumption); (case mF => k_asm); (case mN => k_asm); (case mS => walk_at "m_split")))
local macro_rules | `(tactic| walk_at "m_endT") => `(tactic| (refine' end_ruleT ?mk ?mF ?mN ?mS ?_; (case mk => assumption); (case mF => k_asm); (case mN => k_asm); (case mS => walk_at "m_split")))
local macro_rules | `(tactic| walk_at "ms") => `(tactic| (repeat (focus (first | with_reducible assumption | ((with_reducible show _ = _); exact rfl) | ((with_reducible show _ < _); k_room) | ((with_reducible show _ ∈ _); k_mem) | walk_at "m_x" | walk_at "m_sub" | walk_at "m_doc" | walk_at "m_dat" | walk_at "m_path" | walk_at "m_arg" | walk_at "m_turn" | walk_at "m_split" | assumption))))
local macro_rules | `(tactic| walk_at "mi") => `(tactic| (intro r' tl' h' gn' tk' g' T' F' N' B' X' TP' D' o' b'))
local macro_rules | `(tactic| walk_at "mk") => `(tactic| (repeat (focus (first | with_reducible assumption | k_is | k_inst))))
section

def Stepy (C : Addr) : Prop := C = 430 ∨ C = 558 ∨ C = 634 ∨ C = 735
theorem isi_no {prog : Program} {w : World} {A : Around} {E : Value → Shared → Prop} {s : Shared} {C D x : Addr} {ox od : Obj} {Q : Value → Shared → Prop} (hC : Stepy C) (hD : D = 336 ∨ D = 275) (X : (hd.heap_1 w.params).In s.heap) (I : PySem.W.InstAt s.heap x ox C (some od))
    (h : Q (.bool false) { s with toks := s.toks + 1 }) : wpAny (model prog w) A (call (.builtin "isinstance") [.ref x, .ref D]) Q E s := by
  have keep := (rfl : Challenge.rw_bm0005_01 = Challenge.rw_bm0005_01)
  revert X keep
  k_fill
  intro X _
  rcases hC with rfl | rfl | rfl | rfl <;> rcases hD with rfl | rfl <;>
  k_dflt (refine' kin_callC X I ?zk3 ?zk4 ?zk5 ?zk6 ?zk7 ?zk8 ?zk9 ?_; (case zk3 => kin_no); (case zk4 => k_is); (case zk5 => k_is); (case zk6 => k_is); (case zk7 => k_is); (case zk8 => k_is); (case zk9 => k_is); exact h)

local macro_rules | `(tactic| walk_at "call builtin:isinstance") => `(tactic| ((with_reducible rename Stepy _ => hStepy); refine' isi_no (C := _) ?hC ?hD ?X ?I ?_; (case I => k_inst); (case hC => assumption); (case hD => first | exact Or.inl rfl | exact Or.inr rfl); (case X => k_in)))
inductive PathOther (w : World) (news : Led) : Value → Path → Prop where
  | mk {a d C : Addr} {o : Obj} {p : Path} : (a, instObj C d) ∈ news → (d, o) ∈ news → Stepy C → PathIn w news (.ref a) p → PathOther w news (.ref a) p
theorem PathIn.other {w : World} {news : Led} {v : Value} {p : Path} (h : PathIn w news v p) (h1 : p ≠ .root) (h2 : p ≠ .this) : PathOther w news v p := by
  cases h with
  | root => exact absurd rfl h1
  | this => exact absurd rfl h2
  | wild a b => exact .mk a b (.inr (.inr (.inl rfl))) (.wild a b)
  | fields a b c d => exact .mk a b (.inr (.inl rfl)) (.fields a b c d)
  | index a b c d => exact .mk a b (.inr (.inr (.inr rfl))) (.index a b c d)
  | child a b c d => exact .mk a b (.inl rfl) (.child a b c d)

def kidOf : Path → Path → Path
  | .root, c => c
  | .this, c => c
  | p, c => .child p c
theorem kidOf_other {p c : Path} (h1 : p ≠ .root) (h2 : p ≠ .this) : kidOf p c = .child p c := by
  cases p with
  | root => exact absurd rfl h1
  | this => exact absurd rfl h2
  | _ => rfl


section
variable {w : World} {p : Program} {loose : List Str} {mean : ExcName → Option Value} {mg mb : Str → Option Value}

theorem child_spec : Spec w p loose mean mg mb 133 6 60
    (fun (x : Path × Path) news args => ∃ a b, args = ⟨[a, b], []⟩ ∧ PathIn w news a x.1 ∧ PathIn w news b x.2 ∧ x.2 ≠ .root ∧ x.2 ≠ .this)
    (fun x news r => PathIn w news r (kidOf x.1 x.2)) := by
  intro dp un gd base fr g news s args R x G hdp hun hgn hpre ret
  obtain ⟨a, b, rfl, ha, hb, n1, n2⟩ := hpre
  obtain ⟨x, y⟩ := x
  have KB := G.kb
  have TB := G.tb
  revert KB
  k_fill
  intro KB
  dsimp only at ha hb ret n1 n2
  by_cases x1 : x = .root
  · subst x1
    cases ha with
    | root h1 h2 =>
      k_dflt walk_at "m_enter"
      k_fold
      k_steps
      walk_at "m_fin"
      intro hM; exact hb.mono fun q hq => hM q hq
  · by_cases x2 : x = .this
    · subst x2
      cases ha with
      | this h1 h2 =>
        k_dflt walk_at "m_enter"
        k_fold
        k_steps
        walk_at "m_fin"
        intro hM; exact hb.mono fun q hq => hM q hq
    · rw [kidOf_other x1 x2] at ret
      cases ha.other x1 x2 with
      | mk a1 a2 a3 _ =>
      cases hb.other n1 n2 with
      | mk b1 b2 b3 _ =>
      k_dflt walk_at "m_enter"
      k_fold
      k_steps
      walk_at "m_fin"
      intro hM
      exact .child (hM _ (by k_mem)) (hM _ (by k_mem)) (ha.mono fun q hq => hM q (by simp only [List.mem_cons, hq, or_true])) (hb.mono fun q hq => hM q (by simp only [List.mem_cons, hq, or_true]))
end
end
section
inductive Doc where
  | leaf (v : Value)
  | list (a : Addr) (xs : List Doc)
  | dict (a : Addr) (es : List (Str × Tok × Doc))
def Doc.val : Doc → Value
  | .leaf v => v
  | .list a _ => .ref a
  | .dict a _ => .ref a
def Doc.isList : Doc → Bool
  | .list .. => true
  | _ => false
def Doc.isDict : Doc → Bool
  | .dict .. => true
  | _ => false
def entsOf (w : World) (es : List (Str × Tok × Doc)) : List DictEntry := es.map fun e => ⟨PyData.keyHash w.params e.1, .str e.1 e.2.1, e.2.2.val⟩

inductive DocIn (w : World) (news : Led) : Doc → Prop where
  | none : DocIn w news (.leaf .none)
  | int {i : Int} {t : Tok} : DocIn w news (.leaf (.int i t))
  | str {x : Str} {t : Tok} : DocIn w news (.leaf (.str x t))
  | list {a : Addr} {xs : List Doc} {n : Nat} : (a, lstO (xs.map Doc.val) n) ∈ news → xs.length ≤ 3 → (∀ x ∈ xs, DocIn w news x) → DocIn w news (.list a xs)
  | dict {a : Addr} {es : List (Str × Tok × Doc)} {n : Nat} : (a, dictOf (entsOf w es) n) ∈ news → (a == sysModules) = false → es.length ≤ 3 → (es.map (·.1)).Nodup → (∀ e ∈ es, e.1 ∈ NAMES) → (∀ e ∈ es, DocIn w news e.2.2) → DocIn w news (.dict a es)
theorem DocIn.mono {w : World} {news news' : Led} {d : Doc} (h : DocIn w news d) (hs : ∀ q ∈ news, q ∈ news') : DocIn w news' d := by
  induction h with
  | none => exact .none
  | int => exact .int
  | str => exact .str
  | list h1 h2 _ ih => exact .list (hs _ h1) h2 ih
  | dict h1 h0 h2 h3 h4 _ ih => exact .dict (hs _ h1) h0 h2 h3 h4 ih

inductive Key where
  | name (x : Str)
  | place (i : Int)
def Key.path : Key → Path
  | .name x => .fields [x]
  | .place i => .index [i]
def Doc.get : Doc → Key → Option Doc
  | .dict _ es, .name x => (es.find? fun e => e.1 == x).map (·.2.2)
  | .list _ xs, .place i => if -(xs.length : Int) ≤ i ∧ i < xs.length then xs[(if i < 0 then i + xs.length else i).toNat]? else none
  | _, _ => none
theorem find_in {α : Type} {f : α → Bool} {x : α} : ∀ {l : List α}, l.find? f = some x → x ∈ l := List.mem_of_find?_eq_some
theorem DocIn.get {w : World} {news : Led} {d d' : Doc} {k : Key} (h : DocIn w news d) (e : d.get k = some d') : DocIn w news d' := by
  cases h with
  | none | int | str => cases k <;> simp [Doc.get] at e
  | list h1 h2 h3 =>
    cases k with
    | name => simp [Doc.get] at e
    | place i =>
      simp only [Doc.get] at e
      split at e
      · exact h3 _ (List.mem_of_getElem? e)
      · cases e
  | dict h1 h0 h2 h3 h4 h5 =>
    cases k with
    | place => simp [Doc.get] at e
    | name x =>
      simp only [Doc.get, Option.map_eq_some_iff] at e
      obtain ⟨y, hy, rfl⟩ := e
      exact h5 _ (find_in hy)

theorem DocIn.get' {w : World} {news : Led} {d d' : Doc} {k : Key} (e : d.get k = some d') (h : DocIn w news d) : DocIn w news d' := h.get e

inductive Step where
  | names (xs : List Str)
  | places (ps : List Int)
  | all
def Step.down : Step → Doc → List (Key × Doc)
  | .names xs, d => xs.filterMap fun x => (d.get (.name x)).map fun e => (.name x, e)
  | .places ps, d => ps.filterMap fun i => (d.get (.place i)).map fun e => (.place i, e)
  | .all, .dict _ es => es.map fun e => (.name e.1, e.2.2)
  | .all, .list _ xs => xs.zipIdx.map fun e => (.place (e.2 : Int), e.1)
  | .all, .leaf _ => []
def Step.path : Step → Path
  | .names xs => .fields xs
  | .places ps => .index ps
  | .all => .wild

/-- a datum: the value d lies under the keys ks below root -/
inductive DatIn (w : World) (news : Led) (root : Doc) : Value → List Key → Doc → Prop where
  | base {a dx : Addr} {t1 t2 t3 : Tok} {pv : Value} {p : Path} : (a, instObj 212 dx) ∈ news → (dx, dictOf [ent w "_value" t1 root.val, ent w "path" t2 pv, ent w "context" t3 .none] 3) ∈ news →
      PathIn w news pv p → (p = .root ∨ p = .this) → DatIn w news root (.ref a) [] root
  | step {a dx b : Addr} {t1 t2 t3 : Tok} {pv : Value} {k : Key} {ks : List Key} {d d' : Doc} : (a, instObj 212 dx) ∈ news → (dx, dictOf [ent w "_value" t1 d'.val, ent w "path" t2 pv, ent w "context" t3 (.ref b)] 3) ∈ news →
      PathIn w news pv k.path → DatIn w news root (.ref b) ks d → d.get k = some d' → DatIn w news root (.ref a) (ks ++ [k]) d'
theorem DatIn.mono {w : World} {news news' : Led} {root d : Doc} {v : Value} {ks : List Key} (h : DatIn w news root v ks d) (hs : ∀ q ∈ news, q ∈ news') : DatIn w news' root v ks d := by
  induction h with
  | base h1 h2 h3 h4 => exact .base (hs _ h1) (hs _ h2) (h3.mono hs) h4
  | step h1 h2 h3 _ h5 ih => exact .step (hs _ h1) (hs _ h2) (h3.mono hs) ih h5
theorem DatIn.doc {w : World} {news : Led} {root d : Doc} {v : Value} {ks : List Key} (h : DatIn w news root v ks d) (hr : DocIn w news root) : DocIn w news d := by
  induction h with
  | base => exact hr
  | step _ _ _ _ h5 ih => exact ih.get h5
/-- its objects alone -/
theorem DatIn.objs {w : World} {news : Led} {root d : Doc} {v : Value} {ks : List Key} (h : DatIn w news root v ks d) :
    ∃ a dx t1 t2 t3 pv cv, v = .ref a ∧ (a, instObj 212 dx) ∈ news ∧ (dx, dictOf [ent w "_value" t1 d.val, ent w "path" t2 pv, ent w "context" t3 cv] 3) ∈ news := by
  cases h with
  | base h1 h2 => exact ⟨_, _, _, _, _, _, _, rfl, h1, h2⟩
  | step h1 h2 => exact ⟨_, _, _, _, _, _, _, rfl, h1, h2⟩
/-- what find is handed: the document, or a datum of it -/
inductive ArgIn (w : World) (news : Led) (root : Doc) : Value → List Key → Doc → Prop where
  | raw : ArgIn w news root root.val [] root
  | dat {v : Value} {ks : List Key} {d : Doc} : DatIn w news root v ks d → ArgIn w news root v ks d
theorem ArgIn.mono {w : World} {news news' : Led} {root d : Doc} {v : Value} {ks : List Key} (h : ArgIn w news root v ks d) (hs : ∀ q ∈ news, q ∈ news') : ArgIn w news' root v ks d := by
  cases h with
  | raw => exact .raw
  | dat h => exact .dat (h.mono hs)
end
local macro_rules | `(tactic| walk_at "m_doc") => `(tactic| first | assumption | exact DocIn.get' (by assumption) (by assumption) | exact DocIn.mono (DocIn.get' (by assumption) (by assumption)) (by walk_at "m_sub") | exact DocIn.mono (by assumption) (by walk_at "m_sub"))
local macro_rules | `(tactic| walk_at "m_dat") => `(tactic| first | assumption | exact DatIn.mono (by assumption) (by walk_at "m_sub"))
section
section
variable {w : World} {p : Program} {loose : List Str} {mean : ExcName → Option Value} {mg mb : Str → Option Value} {A A₀ : Around} {E : Value → Shared → Prop} {s : Shared} {h₀ base : Heap} {outer : List Env} {L : Addr} {m : Str → Option Value} {news : Led} {d : Doc} {Q : Value → Shared → Prop}
theorem isi_doc_own (F : Fr h₀ L s.heap m) (X : (hd.heap_1 w.params).In h₀) (N : News h₀ L s.heap news) (hd : DocIn w news d) (h : ∀ tk, Q (.bool false) { s with toks := tk }) :
    wpAny (model Challenge.rw_bm0005_01.row.prog w) A (call (.builtin "isinstance") [d.val, .ref 212]) Q E s := by
  revert X
  k_fill
  intro X
  cases hd <;> (dsimp only [Doc.val]; k_dflt walk1; first | exact h _ | trace_state)
theorem isi_doc_list (F : Fr h₀ L s.heap m) (X : (hd.heap_1 w.params).In h₀) (N : News h₀ L s.heap news) (hd : DocIn w news d) (h : ∀ tk, Q (.bool d.isList) { s with toks := tk }) :
    wpAny (model Challenge.rw_bm0005_01.row.prog w) A (call (.builtin "isinstance") [d.val, .type "list"]) Q E s := by
  revert X
  k_fill
  intro X
  cases hd <;> (dsimp only [Doc.val]; k_dflt walk1; first | exact h _ | trace_state)
theorem isi_doc_dict (F : Fr h₀ L s.heap m) (X : (hd.heap_1 w.params).In h₀) (N : News h₀ L s.heap news) (hd : DocIn w news d) (h : ∀ tk, Q (.bool d.isDict) { s with toks := tk }) :
    wpAny (model Challenge.rw_bm0005_01.row.prog w) A (call (.builtin "isinstance") [d.val, .type "dict"]) Q E s := by
  revert X
  k_fill
  intro X
  cases hd <;> (dsimp only [Doc.val]; k_dflt walk1; first | exact h _ | trace_state)
theorem isi_doc_seq (F : Fr h₀ L s.heap m) (X : (hd.heap_1 w.params).In h₀) (N : News h₀ L s.heap news) {T : Addr} {n : Nat} (hT : (T, tupO [.type "list", .type "tuple"] n) ∈ news) (hd : DocIn w news d) (h : ∀ tk, Q (.bool d.isList) { s with toks := tk }) :
    wpAny (model Challenge.rw_bm0005_01.row.prog w) A (call (.builtin "isinstance") [d.val, .ref T]) Q E s := by
  revert X
  k_fill
  intro X
  cases hd <;> (dsimp only [Doc.val]; k_dflt walk1; first | exact h _ | trace_state)
end
end
local macro_rules | `(tactic| walk_at "call builtin:isinstance") => `(tactic| ((with_reducible show wpAny _ _ (call _ [Doc.val _, _]) _ _ _); k_dflt (first
  | (refine' isi_doc_own ?F ?X ?N ?hd ?_; (case F => k_asm); (case X => k_asm); (case N => k_asm); (case hd => walk_at "m_doc"); intro tk9)
  | (refine' isi_doc_list ?F ?X ?N ?hd ?_; (case F => k_asm); (case X => k_asm); (case N => k_asm); (case hd => walk_at "m_doc"); intro tk9)
  | (refine' isi_doc_dict ?F ?X ?N ?hd ?_; (case F => k_asm); (case X => k_asm); (case N => k_asm); (case hd => walk_at "m_doc"); intro tk9)
  | (refine' isi_doc_seq ?F ?X ?N ?hT ?hd ?_; (case F => k_asm); (case X => k_asm); (case N => k_asm); (case hT => k_mem); (case hd => walk_at "m_doc"); intro tk9))))
section
section
variable {w : World} {p : Program} {loose : List Str} {mean : ExcName → Option Value} {mg mb : Str → Option Value}
theorem wrap_spec : Spec w p loose mean mg mb 161 10 90
    (fun (x : Doc × List Key × Doc) news args => ∃ v, args = ⟨[.ref 212, v], []⟩ ∧ DocIn w news x.1 ∧ ArgIn w news x.1 v x.2.1 x.2.2)
    (fun x news r => DatIn w news x.1 r x.2.1 x.2.2) := by
  intro dp un gd base fr g news s args R x G hdp hun hgn hpre ret
  obtain ⟨root, ks, d⟩ := x
  obtain ⟨v, rfl, hr, ha⟩ := hpre
  have KB := G.kb
  have TB := G.tb
  revert KB
  k_fill
  intro KB
  dsimp only at hr ha ret
  cases ha with
  | raw =>
    k_dflt walk_at "m_enter"
    k_fold
    k_steps
    walk_at "m_fin"
    intro hM
    exact .base (hM _ (by k_mem)) (hM _ (by k_mem)) (.this (hM _ (by k_mem)) (hM _ (by k_mem))) (.inr rfl)
  | dat hdat =>
    obtain ⟨a, dx, t1, t2, t3, pv, cv, rfl, h1, h2⟩ := hdat.objs
    k_dflt walk_at "m_enter"
    k_fold
    k_steps
    walk_at "m_fin"
    intro hM; walk_at "m_dat"
end
end
section
section
variable {prog : Program} {w : World} {A : Around} {s : Shared} {E : Value → Shared → Prop} {pl : Sem Bool} {m : Str → Option Value}
theorem miss_NoneType : typeLookup (.type "NoneType") (Str.ofString "get") = pure none := am_miss_of_fast (by kernel_rfl)
theorem miss_int : typeLookup (.type "int") (Str.ofString "get") = pure none := am_miss_of_fast (by kernel_rfl)
theorem miss_str : typeLookup (.type "str") (Str.ofString "get") = pure none := am_miss_of_fast (by kernel_rfl)
theorem miss_list : typeLookup (.type "list") (Str.ofString "get") = pure none := am_miss_of_fast (by kernel_rfl)
theorem getMethod_miss {M : Model} {v : Value} {T : String} {name : Str} {Q : Value × List Value → Shared → Prop} (hT : s.TypeIs v T) (pa : PlainAttrs T) (hm : typeLookup (.type T) name = pure none)
    (h : wpAny M A (getAttr v name) (fun r s' => Q (r, []) s') E s) : wpAny M A (getMethod v name pl) Q E s := by
  obtain ⟨g, hg, hcan⟩ := pa.ga
  unfold getMethod
  refine wpAny_bind (wpAny_specialOf hT hg ?_)
  show wpAny M A (if (Manifest.canonical g != "object.__getattribute__") = true then _ else _) Q E s
  rw [hcan, if_neg Bool.false_ne_true]
  refine wpAny_bind (wpAny_specialOf hT pa.noGetattr ?_)
  refine wpAny_bind (wpAny_specialOf hT hm ?_)
  exact wpAny_bind (wpAny_mono h (fun _ _ x => wpAny_pure x) fun _ _ x => x)
theorem ga_miss {v : Value} {T id : String} {name : Str} {Q : Value → Shared → Prop} (hT : ∀ s' : Shared, s'.heap = s.heap → s'.TypeIs v T) (f3 : typeLookup (.type T) "__getattribute__" = pure (some (.builtin id)))
    (f4 : bindSpecial (.builtin id) v = pure (.builtin id, [v])) (f5 : typeLookup (.type T) "__getattr__" = pure none)
    (hcall : ∀ tk (Q' E' : Value → Shared → Prop), (∀ h' tk' e, Heap.NewAttrErr s.heap h' e v name → E' (.ref e) { s with heap := h', toks := tk' }) → wpAny (model prog w) A (call (.builtin id) [v, .str name tk] []) Q' E' { s with toks := s.toks + 1 })
    (h : ∀ h' tk e, Heap.NewExcOf s.heap h' e "AttributeError" → E (.ref e) { s with heap := h', toks := tk }) : wpAny (model prog w) A (getAttr v name) Q E s := by
  unfold getAttr
  refine wpAny_bind (wpAny_mkText ?_)
  unfold getAttrBy
  refine wpAny_holding (wpAny_bind (wpAny_typeOf (hT _ rfl) (wpAny_bind (wpAny_of_eq f3 ?_))))
  show wpAny _ _ (getAttrByItsOwn v (.str name s.toks) (.type T) (.builtin id) true false) _ _ _
  unfold getAttrByItsOwn
  refine wpAny_bind (wpAny_pure (a := none) ?_)
  refine wpAny_bind (wpAny_attempt ?_)
  refine wpAny_holding ?_
  show wpAny _ _ (boundAndCalled (.builtin id) v (.str name s.toks)) _ _ _
  unfold boundAndCalled
  refine wpAny_bind (wpAny_of_eq f4 ?_)
  refine hcall _ _ _ ?_
  intro h' tk' e hx
  show wpAny _ _ (getattributeRaised v (.str name s.toks) (.type T) (.ref e) none true false) _ _ _
  obtain ⟨t', u', he⟩ := hx.there
  unfold getattributeRaised
  refine wpAny_bind (wpAny_isInstance (T := "AttributeError") (U := "AttributeError") ⟨_, he, rfl⟩ sub_AttributeError ?_)
  rw [if_pos rfl]
  refine wpAny_bind (wpAny_of_eq (show hookBehind (.type T) none = pure none from f5) ?_)
  show wpAny _ _ (attributeErrorLeaves v (.str name s.toks) (.ref e) true false) _ _ _
  unfold attributeErrorLeaves
  show wpAny _ _ (do noteAttr (.ref e) v (.str name s.toks); throw (.ref e)) _ _ _
  refine wpAny_bind ?_
  unfold noteAttr
  show wpAny _ _ (do if ← lacksNameAndObj (.ref e) then _ else _) _ _ _
  refine wpAny_bind ?_
  unfold lacksNameAndObj
  refine wpAny_bind (wpAny_isInstance (T := "AttributeError") (U := "AttributeError") ⟨_, he, rfl⟩ sub_AttributeError ?_)
  rw [if_neg (by decide)]
  refine wpAny_bind (wpAny_load he ?_)
  refine wpAny_pure ?_
  exact wpAny_pure (wpAny_throw (h _ _ _ hx.of))
theorem gm_none {Q : Value × List Value → Shared → Prop} (hA : A.handled = none) (h : ∀ h' tk e, Heap.NewExcOf s.heap h' e "AttributeError" → E (.ref e) { s with heap := h', toks := tk }) :
    wpAny (model prog w) A (getMethod .none (Str.ofString "get") pl) Q E s := by
  refine getMethod_miss (T := "NoneType") rfl F.plainAttrs_NoneType miss_NoneType (ga_miss (T := "NoneType") (fun _ _ => rfl) F.slot_NoneType_getattribute.lookup (F.slot_NoneType_getattribute.bind _) am_none_getattr_none (fun tk Q' E' hE => ?_) h)
  exact call_meets F.slot_NoneType_getattribute rfl F.entry_object_getattribute (F.args_object_getattribute_2 _ _) (meets_getattribute_miss_none _ _ miss_NoneType (by decide +kernel)) ⟨hA, hE⟩
theorem gm_int {Q : Value × List Value → Shared → Prop} {i : Int} {t : Tok} (hA : A.handled = none) (h : ∀ h' tk e, Heap.NewExcOf s.heap h' e "AttributeError" → E (.ref e) { s with heap := h', toks := tk }) :
    wpAny (model prog w) A (getMethod (.int i t) (Str.ofString "get") pl) Q E s := by
  refine getMethod_miss (T := "int") rfl F.plainAttrs_int miss_int (ga_miss (T := "int") (fun _ _ => rfl) F.slot_int_getattribute.lookup (F.slot_int_getattribute.bind _) am_int_getattr_none (fun tk Q' E' hE => ?_) h)
  exact call_meets F.slot_int_getattribute rfl am_entry_int_getattribute (F.args_int_getattribute_2 _ _) (meets_getattribute_miss_int _ _ _ _ miss_int (by decide +kernel)) ⟨hA, hE⟩
theorem gm_str {Q : Value × List Value → Shared → Prop} {x : Str} {t : Tok} (hA : A.handled = none) (h : ∀ h' tk e, Heap.NewExcOf s.heap h' e "AttributeError" → E (.ref e) { s with heap := h', toks := tk }) :
    wpAny (model prog w) A (getMethod (.str x t) (Str.ofString "get") pl) Q E s := by
  refine getMethod_miss (T := "str") rfl F.plainAttrs_str miss_str (ga_miss (T := "str") (fun _ _ => rfl) F.slot_str_getattribute.lookup (F.slot_str_getattribute.bind _) am_str_getattr_none (fun tk Q' E' hE => ?_) h)
  exact call_meets F.slot_str_getattribute rfl F.entry_object_getattribute (F.args_object_getattribute_2 _ _) (meets_getattribute_miss_str _ _ _ _ miss_str (by decide +kernel)) ⟨hA, hE⟩
theorem gm_list {Q : Value × List Value → Shared → Prop} {a : Addr} {vs : List Value} {n : Nat} (hx : s.heap.get? a = some (lstO vs n)) (hA : A.handled = none) (h : ∀ h' tk e, Heap.NewExcOf s.heap h' e "AttributeError" → E (.ref e) { s with heap := h', toks := tk }) :
    wpAny (model prog w) A (getMethod (.ref a) (Str.ofString "get") pl) Q E s := by
  refine getMethod_miss (T := "list") ⟨_, hx, rfl⟩ F.plainAttrs_list miss_list (ga_miss (T := "list") (fun s' e => ⟨_, by rw [e]; exact hx, rfl⟩) F.slot_list_getattribute.lookup (F.slot_list_getattribute.bind _) am_list_getattr_none (fun tk Q' E' hE => ?_) h)
  exact call_meets F.slot_list_getattribute ⟨_, hx, rfl⟩ am_entry_list_getattribute (F.args_list_getattribute_2 _ _) (meets_getattribute_miss_list _ _ _ _ _ _ miss_list (by decide +kernel) (by decide +kernel)) ⟨hx, hA, hE⟩
theorem handed_doc {news : Led} {d : Doc} (h : DocIn w news d) : handedIn d.val = true := by
  cases h <;> rfl
theorem handedOut_doc {M : Model} {news : Led} {d : Doc} {Q : Value → Shared → Prop} (h : DocIn w news d) (hq : Q d.val s) : wpAny M A (handedOut d.val) Q E s := by
  rw [handedOut_of (handed_doc h)]; exact wpAny_pure hq
/-- of what is no dict 'get' raises -/
theorem gm_miss {Q : Value × List Value → Shared → Prop} {news : Led} {h₀ : Heap} {L : Addr} {d : Doc} (N : News h₀ L s.heap news) (hd : DocIn w news d) (hn : d.isDict = false) (hA : A.handled = none)
    (h : ∀ h' tk e, Heap.NewExcOf s.heap h' e "AttributeError" → E (.ref e) { s with heap := h', toks := tk }) : wpAny (model prog w) A (getMethod d.val (Str.ofString "get") pl) Q E s := by
  cases hd with
  | none => exact gm_none hA h
  | int => exact gm_int hA h
  | str => exact gm_str hA h
  | list h1 => exact gm_list (N _ h1).1 hA h
  | dict => cases hn

end
end
section
section
variable {w : World} {p : Program} {loose : List Str} {mean : ExcName → Option Value} {mg mb : Str → Option Value} {A₀ : Around} {E : Value → Shared → Prop} {s : Shared} {h g base : Heap} {outer : List Env} {L a e : Addr} {m : Str → Option Value} {name : Str} {scope : Scope} {cd : Value} {news : Led}
  {b₀ : Stmt} {suite : List Stmt} {pos tpos p1 p2 : Pos} {kk : Nat} {Q : Flow → Shared → Prop}

theorem noted_first {A : Around} {env : Env} {Q : Shared → Prop} {oe : Obj} {vs : Array Value} (hfr : A.frames = some (env :: outer)) (hl : s.heap.FunFrames base (env :: outer)) (hf : env.frame = some L)
    (he : s.heap.get? e = some oe) (hkb : base.StaysIn s.heap) (hen : base.get? e = none) (hd : oe.data = .fields vs) (h1 : vs[1]? = some .none)
    (h : ∀ h', Heap.Left base (env :: outer) e oe.cls s.heap h' → Q { s with heap := h' }) :
    wpAny (model Challenge.rw_bm0005_01.row.prog w) A (noteFrame (.ref e) env) (fun _ s₂ => wpAny (model Challenge.rw_bm0005_01.row.prog w) A (setFlight (.ref e) none) (fun _ s₃ => Q s₃) E s₂) E s := by
  unfold noteFrame
  simp only [hf]
  refine wpAny_bind (wpAny_field he hd h1 ?_)
  rw [if_neg (by decide)]
  exact wpAny_newEntry hfr hl hf he hkb hen hd (Array.getElem?_eq_some_iff.mp h1).1 h

theorem catch_here {x1 x2 : Str} {T1 T2 : String} {b1 b2 : Bool} (B : Below A₀ base outer g) (F : Fr g L h m) (N : News g L h news) (D : KtsDicts (outer.filterMap (·.frame)) g) (XB : (hd.heap_1 w.params).In base) (TB : Top p loose mean mg mb base)
    (x : Heap.NewExcOf h s.heap e "AttributeError")
    (k : ∀ h' g' tk, KtsTurn (outer.filterMap (·.frame)) g g' → Fr g' L h' m → News g' L h' news → Below A₀ base outer g' → (hd.heap_1 w.params).In g' → Top p loose mean mg mb g' → KtsDicts (outer.filterMap (·.frame)) g' →
      wpAny (model Challenge.rw_bm0005_01.row.prog w) ((A₀.deeper (envOf name scope L a cd)).mark (some (.ref e))) (execs (b₀ :: suite) (envOf name scope L a cd)) Q E { s with heap := h', toks := tk })
    (e1 : nsIn (hd.heap_1 w.params) mainGlobals x1 = some none) (v1 : bootBuiltins x1 = some (.type T1)) (n1 : x1 ≠ "__name__") (k1 : (envOf name scope L a cd).kindOf x1 = some .globalImplicit) (d1 : (x1 == ("__debug__" : Str)) = false)
    (e2 : nsIn (hd.heap_1 w.params) mainGlobals x2 = some none) (v2 : bootBuiltins x2 = some (.type T2)) (n2 : x2 ≠ "__name__") (k2 : (envOf name scope L a cd).kindOf x2 = some .globalImplicit) (d2 : (x2 == ("__debug__" : Str)) = false)
    (hexc1 : isSubtype (.type T1) (.type "BaseException") = pure true) (hnt1 : isSubtype (.type ((Manifest.find? T1).elim "type" fun x => x.metatype)) (.type "tuple") = pure false)
    (hexc2 : isSubtype (.type T2) (.type "BaseException") = pure true) (hnt2 : isSubtype (.type ((Manifest.find? T2).elim "type" fun x => x.metatype)) (.type "tuple") = pure false)
    (hsub1 : isSubtype (.type "AttributeError") (.type T1) = pure b1) (hsub2 : isSubtype (.type "AttributeError") (.type T2) = pure b2) (hb : (b1 || b2) = true)
    (hk : scope.kind = .function)
    (hE : PassesOwnAt (model Challenge.rw_bm0005_01.row.prog w) ((A₀.deeper (envOf name scope L a cd)).mark (some (.ref e))) (A₀.deeper (envOf name scope L a cd)) (envOf name scope L a cd) E) :
    wpAny (model Challenge.rw_bm0005_01.row.prog w) (A₀.deeper (envOf name scope L a cd)) (noteFrame (.ref e) (envOf name scope L a cd))
      (fun _ s₂ => wpAny (model Challenge.rw_bm0005_01.row.prog w) (A₀.deeper (envOf name scope L a cd)) (setFlight (.ref e) none) (fun _ s₃ =>
        wpAny (model Challenge.rw_bm0005_01.row.prog w) (A₀.deeper (envOf name scope L a cd)) (handleBy (.ref e) (envOf name scope L a cd) [.ExceptHandler (some (.Tuple [.Name x1 p1, .Name x2 p2] kk tpos)) none (b₀ :: suite) pos]) Q E s₃) E s₂) E s := by
  have K' := B.push (name := name) (a := a) (cd := cd) F hk
  obtain ⟨ob, vs, he, hcls, hd, h1⟩ := x.there
  have hin : ∀ env ∈ (envOf name scope L a cd :: outer), ∀ b, env.frame = some b → b ∈ (envOf name scope L a cd :: outer).filterMap (·.frame) := fun env he b hb => List.mem_filterMap.mpr ⟨env, he, hb⟩
  generalize hBB : hideAll h ((envOf name scope L a cd :: outer).filterMap (·.frame)) = BB
  have hBs : ∀ b o, BB.get? b = some o → h.get? b = some o := fun b o q => by rw [← hBB] at q; exact of_hideAll _ q
  have hBG : ∀ b o, h.get? b = some o → b ∉ (envOf name scope L a cd :: outer).filterMap (·.frame) → BB.get? b = some o := fun b o q nm => by rw [← hBB]; exact hideAll_get _ q nm
  have hBe : BB.get? e = none := by
    cases q : BB.get? e with
    | none => rfl
    | some o => have := hBs _ _ q; rw [x.new] at this; cases this
  have FF : s.heap.FunFrames BB (envOf name scope L a cd :: outer) := by
    rw [← hBB]
    exact (funFrames_hide K'.frames hin).of_keeps fun b o hb _ => ⟨o, x.keeps b o hb, rfl⟩
  refine noted_first K'.stack FF rfl he (fun b o q => x.keeps _ _ (hBs _ _ q)) hBe hd h1 fun h₁ lf => ?_
  obtain ⟨l1, l2, l3, l4⟩ := lf
  have sm₁ : h.UpToSlots h₁ := fun b o q hn => l4 b o (x.keeps _ _ q) hn
  obtain ⟨g₁, T₁, F₁, B₁⟩ := kts_ground B F hBG l1 sm₁
  have X₁ : (Mine.hd.heap_1 w.params).In g₁ := XB.keeps B₁.stays
  have P₁ : TopRead p loose mg mb g₁ := topRead_of (TB.keeps B₁.stays)
  obtain ⟨oe, ws, T, oT, ts, he₁, hcls₁, hd₁, hw1, hnT, hTe, hT, hdT, h3⟩ := l3
  refine wpAny_handleBy_tup2 (X := "AttributeError") hexc1 hnt1 hexc2 hnt2 hsub1 hsub2 ?_
  refine Tuple_ (spliced_more (name_B F₁ X₁ P₁ e1 v1 n1 (spliced_more (name_B F₁ X₁ P₁ e2 v2 n2 (spliced_none ?_) hk k2 d2)) hk k1 d1))
  refine wpAny_newObj_type ⟨_, rfl, IsTup.new _ _, ⟨oe, Heap.get?_push_of_some _ he₁, by rw [hcls₁, hcls]⟩, ?_⟩ (by show 2 ≤ sizeLine; decide)
  rw [if_pos hb]
  have he₂ := Heap.get?_push_of_some (h := h₁) { cls := .type "tuple", dict := none, data := .seq [Value.type T1, .type T2].toArray } he₁
  have hT₂ := Heap.get?_push_of_some (h := h₁) { cls := .type "tuple", dict := none, data := .seq [Value.type T1, .type T2].toArray } hT
  refine wpAny_setFlight_none he₂ hd₁ hw1 hT₂ hdT (Array.getElem?_eq_some_iff.mp h3).1 ?_
  have other : ∀ b o, b ≠ T → h₁.get? b = some o → ((h₁.push { cls := .type "tuple", dict := none, data := .seq [Value.type T1, .type T2].toArray }).update T (Obj.mapFields (·.setIfInBounds 3 .none))).get? b = some o := fun b o hb q =>
    (Heap.get?_update_other _ _ (Ne.symm hb)).trans (Heap.get?_push_of_some _ q)
  generalize hh₃ : (h₁.push { cls := .type "tuple", dict := none, data := .seq [Value.type T1, .type T2].toArray }).update T (Obj.mapFields (·.setIfInBounds 3 .none)) = h₃ at other ⊢
  have st₃ : BB.StaysIn h₃ := fun b o q => other b o (fun z => by rw [z, hnT] at q; cases q) (l1 b o q)
  have sm₃ : h.UpToSlots h₃ := fun b o q hn => by
    obtain ⟨sl, hs⟩ := sm₁ b o q hn
    refine ⟨sl, other b _ (fun z => ?_) hs⟩
    subst z
    rw [hs] at hT
    obtain rfl := Option.some.inj hT
    exact hn ts hdT
  obtain ⟨g₃, T₃, F₃, B₃⟩ := kts_ground B F hBG st₃ sm₃
  refine wpAny_passesOwnAt hE (k h₃ g₃ _ T₃ F₃ (fun q hq => ⟨st₃ _ _ (hBG _ _ (N q hq).1 fun z => ?_), (N q hq).2.1, T₃.none_ _ (N q hq).2.2⟩) B₃ (XB.keeps B₃.stays) (TB.keeps B₃.stays) (D.turn T₃))
  rcases kts_mem z with z | z
  · exact (N q hq).2.1 z
  · obtain ⟨o, es, n, ho, _⟩ := D _ z
    have := (N q hq).2.2
    rw [ho] at this; cases this
end
theorem ce_t1 : isSubtype (.type "TypeError") (.type "BaseException") = pure true := by rw [isSubtype_type]; kernel_rfl
theorem ce_t2 : isSubtype (.type ((Manifest.find? "TypeError").elim "type" fun x => x.metatype)) (.type "tuple") = pure false := isSubtype_of_subB (by decide +kernel)
theorem ce_t3 : isSubtype (.type "AttributeError") (.type "BaseException") = pure true := by rw [isSubtype_type]; kernel_rfl
theorem ce_t4 : isSubtype (.type ((Manifest.find? "AttributeError").elim "type" fun x => x.metatype)) (.type "tuple") = pure false := isSubtype_of_subB (by decide +kernel)
theorem ce_t5 : isSubtype (.type "AttributeError") (.type "TypeError") = pure false := isSubtype_of_subB (by decide +kernel)
theorem ce_v1 : bootBuiltins (Str.ofString "TypeError") = some (.type "TypeError") := by kernel_rfl
theorem ce_v2 : bootBuiltins (Str.ofString "AttributeError") = some (.type "AttributeError") := by kernel_rfl
end
section
section
variable {prog : Program} {w : World} {A : Around} {s : Shared} {E : Value → Shared → Prop} {pl : Sem Bool} {m : Str → Option Value}
theorem in_at {h : Heap} {a : Addr} {o : Obj} (X : (hd.heap_1 w.params).In h) (e : (hd.heap_1 w.params).lookup a = some o) : h.get? a = some o := X _ _ e
theorem gm_dict {M : Model} {Q : Value × List Value → Shared → Prop} {news : Led} {h₀ : Heap} {L a : Addr} {es : List DictEntry} {n : Nat} (N : News h₀ L s.heap news) (hm : (a, dictOf es n) ∈ news) (h : Q (.builtin "dict.get", [.ref a]) s) :
    wpAny M A (getMethod (.ref a) (Str.ofString "get") pl) Q E s :=
  getMethod_builtin (T := "dict") ⟨_, (N _ hm).1, rfl⟩ F.plainAttrs_dict F.slot_dict_get (by kernel_rfl) (fun b e => by cases e; exact ⟨_, (N _ hm).1, rfl⟩) h

theorem entsOf_find (es : List (Str × Tok × Doc)) (x : Str) : findBy Value.isStrOf (entsOf w es).toArray x = ((Doc.dict 0 es).get (.name x)).map Doc.val := by
  unfold findBy entsOf
  simp only [Doc.get, List.find?_toArray]
  induction es with
  | nil => rfl
  | cons e r ih =>
    simp only [List.map_cons, List.find?_cons]
    have hb : Value.isStrOf x (.str e.1 e.2.1) = (e.1 == x) := by
      rw [← isStr_of]; rfl
    rw [hb]
    cases hx : (e.1 == x) with
    | true => rfl
    | false => exact ih
theorem doc_map {h : Heap} {news : Led} {h₀ : Heap} {L a : Addr} {es : List (Str × Tok × Doc)} {n : Nat} (N : News h₀ L h news) (hm : (a, dictOf (entsOf w es) n) ∈ news) : h.MapOf (strKind prog w) a (fun x => ((Doc.dict 0 es).get (.name x)).map Doc.val) :=
  ⟨_, _, n, (N _ hm).1, ⟨rfl, rfl, rfl⟩, rfl, fun e he => by
    simp only [entsOf, List.mem_toArray, List.mem_map] at he
    obtain ⟨y, _, rfl⟩ := he
    exact ⟨y.1, strKind_is prog w y.1 y.2.1, rfl⟩, fun x => entsOf_find es x⟩
theorem get_dict {Q : Value → Shared → Prop} {news : Led} {h₀ : Heap} {L a : Addr} {es : List (Str × Tok × Doc)} {n : Nat} {x : Str} {t : Tok} {dflt : Value} (N : News h₀ L s.heap news) (hm : (a, dictOf (entsOf w es) n) ∈ news) (lo : (a == sysModules) = false)
    (h1 : (Doc.dict a es).get (.name x) = none → ∀ tk, Q dflt { s with toks := tk }) (h2 : ∀ d', (Doc.dict a es).get (.name x) = some d' → ∀ tk, Q d'.val { s with toks := tk }) :
    wpAny (model prog w) A (call (.builtin "dict.get") [.ref a, .str x t, dflt]) Q E s := by
  have hmp := doc_map (prog := prog) N hm
  refine call_meetsIn F.slot_dict_get hmp.typeIs F.entry_dict_get (F.args_dict_get_3 _ _ _) (meets_dict_get_default (strKind prog w) a (strKind_is prog w x t) lo dflt) ⟨_, hmp, ?_⟩
  have e : (Doc.dict 0 es).get (.name x) = (Doc.dict a es).get (.name x) := rfl
  rw [e]
  cases hg : (Doc.dict a es).get (.name x) with
  | none => exact h1 hg _
  | some d' => exact h2 d' hg _
theorem is_doc {M : Model} {Q : Value → Shared → Prop} {news : Led} {h₀ : Heap} {L b : Addr} {d : Doc} {ob : Obj} (F : Fr h₀ L s.heap m) (N : News h₀ L s.heap news) (hd : DocIn w news d) (hb : h₀.get? b = some ob) (h : Q (.bool false) s) :
    wpAny M A (compareOp .Is d.val (.ref b)) Q E s := by
  have ne : ∀ {a : Addr} {o : Obj}, (a, o) ∈ news → a ≠ b := fun hm e => by
    have := (N _ hm).2.2
    rw [e] at this; simp only at this; rw [hb] at this; cases this
  cases hd with
  | none => exact wpAny_is_other rfl (by intro x; cases x) h
  | int => exact wpAny_is_other rfl (by intro x; cases x) h
  | str => exact wpAny_is_other rfl (by intro x; cases x) h
  | list h1 => exact kto_is (N _ h1).1 (F.keep _ _ hb) (ne h1) (show Value.type "list" ≠ Value.type "tuple" by decide) h
  | dict h1 => exact kto_is (N _ h1).1 (F.keep _ _ hb) (ne h1) (show Value.type "dict" ≠ Value.type "tuple" by decide) h
end
theorem NAMES_star : ∀ x ∈ NAMES, (x == Str.ofString "*") = false := by decide +kernel
end
local macro_rules | `(tactic| k_handed) => `(tactic| exact handed_doc (by walk_at "m_doc"))
local macro_rules | `(tactic| walk_at "handedOut") => `(tactic| (refine handedOut_doc (by walk_at "m_doc") ?_))
local macro_rules | `(tactic| walk_at "getMethod") => `(tactic| ((with_reducible show wpAny _ _ (getMethod (Doc.val _) _ _) _ _ _); refine' gm_miss ?N ?hd ?hq ?A ?_; (case N => k_asm); (case hd => walk_at "m_doc"); (case hq => assumption); (case A => rfl); intro h9 tk9 e9 x9))
local macro_rules | `(tactic| walk_at "noteFrame ref") => `(tactic| ((with_reducible rename Heap.NewExcOf _ _ _ _ => xE9); refine' catch_here (T1 := "TypeError") (T2 := "AttributeError") ?B ?F ?N ?D ?XB ?TB ?xx ?_ ?e1 ?v1 ?n1 ?k1 ?d1 ?e2 ?v2 ?n2 ?k2 ?d2 ce_t1 ce_t2 ce_t3 ce_t4 ce_t5 sub_AttributeError rfl ?hk ?hE; (case xx => exact xE9); (case F => k_asm); (case B => k_asm); (case N => k_asm); (case D => k_asm); (case XB => assumption); (case TB => assumption); (case e1 => k_dflt k_is); (case v1 => exact ce_v1); (case n1 => decide); (case k1 => rfl); (case d1 => decide); (case e2 => k_dflt k_is); (case v2 => exact ce_v2); (case n2 => decide); (case k2 => rfl); (case d2 => decide); (case hk => rfl); (case hE => passes_own); intro h9 g9 tk9 T9 F9 N9 B9 X9 P9 D9))
section
local macro_rules | `(tactic| walk_at "getMethod ref") => `(tactic| (refine' gm_dict ?N ?hm ?_; (case N => k_asm); (case hm => k_mem)))
local macro_rules | `(tactic| walk_at "call builtin:dict.get") => `(tactic| (refine' get_dict ?N ?hm ?lo ?_ ?_; (case N => k_asm); (case hm => k_mem); (case lo => assumption); (all_goals intros)))
local macro_rules | `(tactic| walk_at "compareOp Is") => `(tactic| ((with_reducible show wpAny _ _ (compareOp _ (Doc.val _) _) _ _ _); refine' is_doc ?F ?N ?hd ?hb ?_; (case F => k_asm); (case N => k_asm); (case hd => walk_at "m_doc"); (case hb => (refine' in_at ?X9 ?e9; (case X9 => assumption); (case e9 => k_dflt k_is)))))
section
variable {w : World} {p : Program} {loose : List Str} {mean : ExcName → Option Value} {mg mb : Str → Option Value}
def GfdPost (w : World) (x : Doc × List Key × Doc × Str) (news : Led) (r : Value) : Prop :=
  match x.2.2.1.get (.name x.2.2.2) with
  | none => r = .none
  | some d' => DatIn w news x.1 r (x.2.1 ++ [.name x.2.2.2]) d'
theorem gfd_spec : Spec w p loose mean mg mb 470 12 120
    (fun (x : Doc × List Key × Doc × Str) news args => ∃ v t, args = ⟨[v, .str x.2.2.2 t, .bool false], []⟩ ∧ x.2.2.2 ∈ NAMES ∧ DocIn w news x.1 ∧ DatIn w news x.1 v x.2.1 x.2.2.1)
    (fun x news r => GfdPost w x news r) := by
  intro dp un gd base fr g news s args R x G hdp hun hgn hpre ret
  obtain ⟨root, ks, d, fx⟩ := x
  obtain ⟨v, ft, rfl, hnm, hr, ha⟩ := hpre
  have KB := G.kb
  have TB := G.tb
  revert KB
  k_fill
  intro KB
  dsimp only at hr ha ret hnm
  obtain ⟨a, dx, t1, t2, t3, pv, cv, rfl, h1, h2⟩ := ha.objs
  have hd := ha.doc hr
  cases hq : d.isDict with
  | false =>
    k_dflt walk_at "m_enter"
    k_fold
    k_steps
    dsimp only
    k_steps
    walk_at "m_fin"
    intro _
    show GfdPost w (root, ks, d, fx) _ _
    unfold GfdPost
    have e : d.get (.name fx) = none := by
      cases d with
      | leaf => rfl
      | list => rfl
      | dict => cases hq
    simp only [e]
  | true =>
    have hd0 := hd
    cases hd with
    | none | int | str | list => cases hq
    | dict e1 e0 e2 e3 e4 e5 =>
      dsimp only [Doc.val] at h2
      k_dflt walk_at "m_enter"
      k_fold
      k_steps
      · dsimp only
        k_steps
        walk_at "m_fin"
        intro _
        have hg := (by assumption : (Doc.dict _ _).get (.name fx) = none)
        show GfdPost w (root, ks, _, fx) _ _
        unfold GfdPost
        simp only [hg]
      · walk_at "m_fin"
        intro hM
        have hg := (by assumption : (Doc.dict _ _).get (.name fx) = some _)
        show GfdPost w (root, ks, _, fx) _ _
        unfold GfdPost
        simp only [hg]
        exact .step (hM _ (by k_mem)) (hM _ (by k_mem)) (.fields (hM _ (by k_mem)) (hM _ (by k_mem)) (hM _ (by k_mem)) (.cons _ _ .nil)) (ha.mono fun q hq => hM q (by simp only [List.mem_cons, hq, or_true])) hg
end
end
section
theorem end_ruleC {h₀ h' : Heap} {L : Addr} {m : Str → Option Value} {news M tl : Led} {s : Shared} {R : Result → Shared → Prop} {P : Led → Value → Prop} {r : Value} {tk : Nat} (k : GivesT h₀ L m news s (fun v s' => R (.ok (.ret v)) s') P) (F : Fr h₀ L h' m) (N : News h₀ L h' M) (S : Split M news tl)
    (post : P tl r) : R (.ok (.ret r)) { s with heap := h', toks := tk } := k r tl h' tk F (fun q hq => N q (S.mem q hq)) S.ord post
local macro_rules | `(tactic| walk_at "m_endC") => `(tactic| (refine' end_ruleC ?mk ?mF ?mN ?mS ?_; (case mk => assumption); (case mF => k_asm); (case mN => k_asm); (case mS => walk_at "m_split")))
section
variable {w : World} {p : Program} {loose : List Str} {mean : ExcName → Option Value} {mg mb : Str → Option Value}
  {A A₀ : Around} {base h₀ : Heap} {env : Env} {outer : List Env} {L : Addr} {m : Str → Option Value} {news : Led} {s : Shared} {Q E : Value → Shared → Prop}
theorem mk_field1C {R : Result → Shared → Prop} {x : Str} {t : Tok} (B : Below A₀ base outer h₀) (F : Fr h₀ L s.heap m) (X : (hd.heap_1 w.params).In h₀) (N : News h₀ L s.heap news) (T : Top p loose mean mg mb h₀)
    (hA : A.frames = some (env :: outer)) (hf : env.frame = some L) (hke : env.scope.kind = .function) (hh : A.handled = none) (hdp : A.depth + 8 < recursionLimit) (hu : A.units + 60 < cLine) (hx : x ∈ NAMES)
    (k : GivesT h₀ L m news s (fun v s' => R (.ok (.ret v)) s') fun tl r => PathIn w tl r (.fields [x])) :
    codeAny (model Challenge.rw_bm0005_01.row.prog w) A (.call (.ref 453) ⟨[.ref 558, .str x t], []⟩) R s := by
  obtain ⟨hd', dp, frs, gd, un⟩ := A
  dsimp only at hA hh hdp hu
  subst hh hA
  revert X
  k_fill
  intro X
  k_dflt (refine' kp_rest ?zk1 ?zk2 ?zk3 ?zk4 ?zk5 ?zkA ?zkF ?zkK ?zk6 ?zk7 ?zk8 ?zkV ?zkP ?zkG ?zkB ?_ ?zc2 ?zc3 ?zc4 ?zc5; (case zkA => exact rfl); (case zkF => exact hf); (case zkK => exact hke); (case zk1 => k_asm); (case zk2 => k_asm); (case zk3 => k_asm); (case zk4 => k_asm); (case zk5 => k_asm); (case zk6 => k_is); (case zk7 => k_is); (case zk8 => k_room); (case zkV => kl_lit); (case zkP => exact rfl); (case zkG => exact fun _ => rfl); (case zkB => exact fun _ => locs rfl); (case zc5 => decide); (case zc2 => exact rfl); (case zc3 => exact rfl); (case zc4 => exact rfl); k_whole; intro D' g' L' h' l1 FG' F' N' B' X' T'; (try dsimp only))
  k_fold
  k_steps
  walk_at "m_endC"
  exact .fields (by k_mem) (by k_mem) (by k_mem) (.cons _ _ .nil)
end
end
section
section
variable {w : World} {p : Program} {loose : List Str} {mean : ExcName → Option Value} {mg mb : Str → Option Value}
  {A A₀ : Around} {base h₀ : Heap} {env : Env} {outer : List Env} {L : Addr} {m : Str → Option Value} {news : Led} {s : Shared} {E : Value → Shared → Prop}
theorem truthy_step {Q : Bool → Shared → Prop} {C x d : Addr} {o : Obj} (hC : Stepy C) (F : Fr h₀ L s.heap m) (X : (hd.heap_1 w.params).In h₀) (N : News h₀ L s.heap news) (h1 : (x, instObj C d) ∈ news) (h2 : (d, o) ∈ news)
    (h : ∀ tk, Q true { s with toks := tk }) : wpAny (model Challenge.rw_bm0005_01.row.prog w) A (truthy (.ref x)) Q E s := by
  revert X
  k_fill
  intro X
  rcases hC with rfl | rfl | rfl | rfl <;> (k_dflt walk1; exact h _)
local macro_rules | `(tactic| walk_at "truthy ref") => `(tactic| ((with_reducible rename Stepy _ => hStepy); refine' truthy_step ?hC ?F ?X ?N ?h1 ?h2 ?_; (case F => k_asm); (case X => k_asm); (case N => k_asm); (case h1 => k_mem); (case h2 => k_mem); (case hC => assumption); intro tk9))
theorem mk_dat {nw : Led} {Q : Value → Shared → Prop} {root d d' : Doc} {ks : List Key} {ky : Key} {pv cv : Value} (B : Below A₀ base outer h₀) (F : Fr h₀ L s.heap m) (X : (hd.heap_1 w.params).In h₀) (N : News h₀ L s.heap news) (T : Top p loose mean mg mb h₀)
    (hA : A.frames = some (env :: outer)) (hf : env.frame = some L) (hke : env.scope.kind = .function) (hh : A.handled = none) (hdp : A.depth + 8 < recursionLimit) (hu : A.units + 60 < cLine)
    (hsub : ∀ q ∈ nw, q ∈ news) (hp : PathIn w nw pv ky.path) (hc : DatIn w nw root cv ks d) (hr : DocIn w nw root) (hg : d.get ky = some d')
    (k : GivesT h₀ L m news s Q fun tl r => DatIn w (nw ++ tl) root r (ks ++ [ky]) d') :
    wpAny (model Challenge.rw_bm0005_01.row.prog w) A (call (.ref 212) [d'.val] [(Str.ofString "path", pv), (Str.ofString "context", cv)]) Q E s := by
  obtain ⟨hd', dp, frs, gd, un⟩ := A
  dsimp only at hA hh hdp hu
  subst hh hA
  have hd0 : DocIn w news d' := ((hc.doc hr).get hg).mono hsub
  obtain ⟨c, dx, t1, t2, t3, pv', cv', rfl, c1, c2⟩ := hc.objs
  have ho := hp.other (by cases ky <;> simp [Key.path]) (by cases ky <;> simp [Key.path])
  cases ho with
  | mk a1 a2 a3 _ =>
  replace a1 := hsub _ a1
  replace a2 := hsub _ a2
  replace c1 := hsub _ c1
  replace c2 := hsub _ c2
  revert X
  k_fill
  intro X
  k_dflt (refine' call_cls ?zF ?zX ?zN ?zhm ?zhi ?zhf ?_; (case zF => k_asm); (case zX => k_asm); (case zN => k_asm); (case zhm => k_is); (case zhi => k_is); (case zhf => k_is))
  intro x dx' h' F' N' l1 l2
  try k_lt l1
  k_lt2 l2
  k_dflt (refine' code_def ?zk1 ?zk2 ?zk3 ?zk4 ?zk5 ?zkA ?zkF ?zkK ?zk6 ?zk7 ?zk8 ?zk9 ?zkB ?_ ?zc2 ?zc3 ?zc4 ?zc5; (case zkA => exact rfl); (case zkF => exact hf); (case zkK => exact hke); (case zk1 => k_asm); (case zk2 => k_asm); (case zk3 => k_asm); (case zk4 => k_asm); (case zk5 => k_asm); (case zk6 => k_is); (case zk7 => k_is); (case zk8 => k_room); (case zk9 => first | exact BindsTo.of_eq rfl | exact binds_K (by k_in) rfl (by k_is) rfl rfl rfl); (case zkB => exact locs rfl); (case zc2 => exact rfl); (case zc3 => exact rfl); (case zc4 => exact rfl); (case zc5 => decide); intro g' L' h' FG' F' N' B' X' T'; (try dsimp only))
  k_fold
  k_steps
  walk_at "m_endT"
  exact .step (by k_mem) (by k_mem) (hp.mono fun q hq => List.mem_append_left _ hq) (hc.mono fun q hq => List.mem_append_left _ hq) hg
/-- the part of the ledger that facts are told of -/
def Here (R : Led) : Prop := ∀ q ∈ R, q ∈ R
theorem here (R : Led) : Here R := fun _ h => h
theorem mk_dat_in {R tlp : Led} {Q : Value → Shared → Prop} {root d d' : Doc} {ks : List Key} {ky : Key} {pv cv : Value} (B : Below A₀ base outer h₀) (F : Fr h₀ L s.heap m) (X : (hd.heap_1 w.params).In h₀) (N : News h₀ L s.heap news) (T : Top p loose mean mg mb h₀)
    (hA : A.frames = some (env :: outer)) (hf : env.frame = some L) (hke : env.scope.kind = .function) (hh : A.handled = none) (hdp : A.depth + 8 < recursionLimit) (hu : A.units + 60 < cLine) (_hh : Here R)
    (hp : PathIn w tlp pv ky.path) (hsub : ∀ q ∈ R ++ tlp, q ∈ news) (hc : DatIn w R root cv ks d) (hr : DocIn w R root) (hg : d.get ky = some d')
    (k : GivesT h₀ L m news s Q fun tl r => DatIn w (R ++ tlp ++ tl) root r (ks ++ [ky]) d') :
    wpAny (model Challenge.rw_bm0005_01.row.prog w) A (call (.ref 212) [d'.val] [(Str.ofString "path", pv), (Str.ofString "context", cv)]) Q E s :=
  mk_dat (nw := R ++ tlp) B F X N T hA hf hke hh hdp hu hsub (hp.mono fun q hq => List.mem_append_right _ hq) (hc.mono fun q hq => List.mem_append_left _ hq) (hr.mono fun q hq => List.mem_append_left _ hq) hg k
end
end
section
section
variable {w : World} {p : Program} {loose : List Str} {mean : ExcName → Option Value} {mg mb : Str → Option Value}
  {A A₀ : Around} {base h₀ : Heap} {env : Env} {outer : List Env} {L : Addr} {m : Str → Option Value} {news : Led} {s : Shared} {Q E : Value → Shared → Prop}
theorem mk_index1 {x : Int} {t : Tok} (B : Below A₀ base outer h₀) (F : Fr h₀ L s.heap m) (X : (hd.heap_1 w.params).In h₀) (N : News h₀ L s.heap news) (T : Top p loose mean mg mb h₀)
    (hA : A.frames = some (env :: outer)) (hf : env.frame = some L) (hke : env.scope.kind = .function) (hh : A.handled = none) (hdp : A.depth + 8 < recursionLimit) (hu : A.units + 60 < cLine)
    (k : GivesT h₀ L m news s Q fun tl r => PathIn w tl r (.index [x])) :
    wpAny (model Challenge.rw_bm0005_01.row.prog w) A (call (.ref 735) [.int x t]) Q E s := by
  obtain ⟨hd', dp, frs, gd, un⟩ := A
  dsimp only at hA hh hdp hu
  subst hh hA
  revert X
  k_fill
  intro X
  k_dflt (refine' call_cls ?zF ?zX ?zN ?zhm ?zhi ?zhf ?_; (case zF => k_asm); (case zX => k_asm); (case zN => k_asm); (case zhm => k_is); (case zhi => k_is); (case zhf => k_is))
  intro xo dx' h' F' N' l1 l2
  try k_lt l1
  k_lt2 l2
  k_dflt (refine' kp_rest ?zk1 ?zk2 ?zk3 ?zk4 ?zk5 ?zkA ?zkF ?zkK ?zk6 ?zk7 ?zk8 ?zkV ?zkP ?zkG ?zkB ?_ ?zc2 ?zc3 ?zc4 ?zc5; (case zkA => exact rfl); (case zkF => exact hf); (case zkK => exact hke); (case zk1 => k_asm); (case zk2 => k_asm); (case zk3 => k_asm); (case zk4 => k_asm); (case zk5 => k_asm); (case zk6 => k_is); (case zk7 => k_is); (case zk8 => k_room); (case zkV => kl_lit); (case zkP => exact rfl); (case zkG => exact fun _ => rfl); (case zkB => exact fun _ => locs rfl); (case zc5 => decide); (case zc2 => exact rfl); (case zc3 => exact rfl); (case zc4 => exact rfl); k_whole; intro D' g' L' h' l1 FG' F' N' B' X' T'; (try dsimp only))
  k_fold
  try k_lt l1
  k_steps
  walk_at "m_endT"
  exact .index (by k_mem) (by k_mem) (by k_mem) (.cons _ _ .nil)
end
end
section
open PyProof.Rows.LCg in
section
variable {prog : Program} {w : World} {A A₀ : Around} {h₀ g h h' base : Heap} {outer : List Env} {L : Addr} {m : Str → Option Value} {gn : Array GenState} {M M' : Led}

/-- a place in a function's body: the ground may have been turned and generators may have ended -/
structure Std (A₀ : Around) (base : Heap) (outer : List Env) (h₀ : Heap) (L : Addr) (m : Str → Option Value) (g h : Heap) (gn : Array GenState) (M : Led) : Prop where
  T : KtsTurn (outer.filterMap (·.frame)) h₀ g
  F : Fr g L h m
  N : News g L h M
  B : Below A₀ base outer g
  D : KtsDicts (outer.filterMap (·.frame)) g
  gens : AllBare gn
theorem Std.new (S : Std A₀ base outer h₀ L m g h gn M) {b : Addr} (hb : h.get? b = none) : g.get? b = none := by
  cases e : g.get? b with
  | none => rfl
  | some o => rw [S.F.keep b o e] at hb; cases hb
theorem Std.but (S : Std A₀ base outer h₀ L m g h gn M) {wr : List Addr} (hk : ∀ b o, b ∉ wr → h.get? b = some o → h'.get? b = some o) (hg : ∀ b ∈ wr, g.get? b = none) (hL : L ∉ wr) (off : ∀ q ∈ M, q.1 ∉ wr) : Std A₀ base outer h₀ L m g h' gn M where
  T := S.T
  F := ⟨S.F.ns.at' fun o e => hk L o hL e, fun b o e => hk b o (fun z => by rw [hg b z] at e; cases e) (S.F.keep b o e), S.F.above⟩
  N := fun q hq => ⟨hk _ _ (off q hq) (S.N q hq).1, (S.N q hq).2⟩
  B := S.B
  D := S.D
  gens := S.gens
theorem Std.grow (S : Std A₀ base outer h₀ L m g h gn M) (hk : ∀ b o, h.get? b = some o → h'.get? b = some o) : Std A₀ base outer h₀ L m g h' gn M :=
  S.but (wr := []) (fun b o _ e => hk b o e) (fun _ hb => by cases hb) (fun hb => by cases hb) (fun _ _ hb => by cases hb)
theorem Std.cut (S : Std A₀ base outer h₀ L m g h gn M) (hs : ∀ q ∈ M', q ∈ M) : Std A₀ base outer h₀ L m g h gn M' := ⟨S.T, S.F, fun q hq => S.N q (hs q hq), S.B, S.D, S.gens⟩
theorem Std.add (S : Std A₀ base outer h₀ L m g h gn M) {b : Addr} {o : Obj} (e : h.get? b = some o) (hL : b ≠ L) (hg : g.get? b = none) : Std A₀ base outer h₀ L m g h gn ((b, o) :: M) := ⟨S.T, S.F, fun q hq => by
  rcases List.mem_cons.mp hq with rfl | hq
  · exact ⟨e, hL, hg⟩
  · exact S.N q hq, S.B, S.D, S.gens⟩

/-- how a loop of a comprehension goes: the body is what is done once the target is bound -/
def Emits (prog : Program) (w : World) (A : Around) (e : Expr) (d : Nat) (it acc : Value) (env : Env) (target : Expr) (R : Result → Shared → Prop) (body : (Shared → Prop) → (Value → Shared → Prop) → Shared → Prop) : Prop :=
  ∀ (I : Nat → Shared → Prop), (∀ n s, I n s → wpAny (model prog w) A (pyNext it) (fun r s₁ => match r with
      | none => R (.ok .next) s₁
      | some v => wpAny (model prog w) A (letOwnedTupleGo target it v) (fun _ s₀ => wpAny (model prog w) A (assign target env v) (fun _ s₂ => body (fun s' => ∃ m, m < n ∧ I m s') (notedBy (model prog w) A env fun e s' => R (.error e) s') s₂)
          (notedBy (model prog w) A env fun e s' => R (.error e) s') s₀) (notedBy (model prog w) A env fun e s' => R (.error e) s') s₁) (notedBy (model prog w) A env fun e s' => R (.error e) s') s) →
    ∀ n s, I n s → codeAny (model prog w) A (.compLoop e d it acc env) R s

abbrev testsB (prog : Program) (w : World) (A : Around) (ifs : List Expr) (env : Env) (Q : Bool → Shared → Prop) (E : Value → Shared → Prop) (s : Shared) : Prop :=
  wpAny (model prog w) A (forIn ifs true fun c r => if r = true then do let ok ← isTrue c env (eval c env); pure (ForInStep.yield ok) else pure (ForInStep.yield r)) Q E s
abbrev emitB (prog : Program) (w : World) (A : Around) (ifs : List Expr) (elt : Expr) (env : Env) (acc : Value) (K : Shared → Prop) (N : Value → Shared → Prop) (s : Shared) : Prop :=
  testsB prog w A ifs env (fun ok s₃ => if ok = true then wpAny (model prog w) A (eval elt env) (fun x s₄ => wpAny (model prog w) A (call (.builtin "list.append") [acc, x]) (fun _ s₅ => K s₅) N s₄) N s₃ else K s₃) N s
abbrev nestB (prog : Program) (w : World) (A : Around) (e iter₂ : Expr) (env : Env) (acc : Value) (K : Shared → Prop) (N : Value → Shared → Prop) (s : Shared) : Prop :=
  wpAny (model prog w) A (eval iter₂ env) (fun x s₁ => wpAny (model prog w) A (pyIter x) (fun it s₂ => codeAny (model prog w) A (.compStart e 1 it acc env) (fun r s' => match r with | .ok _ => K s' | .error x => cameBackBy (model prog w) A env N x s') s₂) N s₁) N s

theorem emits_one {elt target iter : Expr} {ifs : List Expr} {scope : Scope} {pos : Pos} {it acc : Value} {env : Env} {R : Result → Shared → Prop} :
    Emits prog w A (.ListComp elt [⟨target, iter, ifs, 0⟩] scope pos) 0 it acc env target R (emitB prog w A ifs elt env acc) := by
  intro I turn n s hI
  refine codeAny_loop rfl I (fun n s hI => ?_) n hI
  show wpAny _ A ((compTurn (.ListComp elt [⟨target, iter, ifs, 0⟩] scope pos) 0 it acc env).onRaise (fun x => do noteFrame x env; theTreesLotGoes x)) _ _ s
  refine wpAny_noted ?_
  rw [compTurn_list]
  refine wpAny_bind (wpAny_standAt (wpAny_bind (wpAny_mono (turn n s hI) (fun r s₁ h₁ => ?_) fun _ _ h' => h')))
  cases r with
  | none => exact wpAny_pure h₁
  | some v =>
    refine wpAny_bind (wpAny_mono h₁ (fun _ s₀ h₀ => ?_) fun _ _ h' => h')
    refine wpAny_bind (wpAny_mono h₀ (fun _ s₂ h₂ => wpAny_bind (wpAny_mono h₂ (fun ok s₃ h₃ => ?_) fun _ _ h' => h')) fun _ _ h' => h')
    cases ok with
    | false => exact wpAny_pure ⟨rfl, by simpa using h₃⟩
    | true =>
      simp only [if_true] at h₃
      exact wpAny_bind (wpAny_bind (wpAny_mono h₃ (fun x s₄ h₄ => wpAny_bind (wpAny_mono h₄ (fun _ s₅ h₅ => wpAny_pure (wpAny_pure ⟨rfl, h₅⟩)) fun _ _ h' => h')) fun _ _ h' => h'))

theorem compTurn_in (elt target iter target₂ iter₂ : Expr) (scope : Scope) (pos : Pos) (it acc : Value) (env : Env) :
    compTurn (.ListComp elt [⟨target, iter, [], 0⟩, ⟨target₂, iter₂, [], 0⟩] scope pos) 1 it acc env = (do
      standAt iter₂.pos
      match ← pyNext it with
      | none => pure (.done .next)
      | some v =>
        letOwnedTupleGo target₂ it v
        assign target₂ env v
        let mut ok := true
        for c in ([] : List Expr) do
          if ok then ok ← isTrue c env (eval c env)
        if ok then
          (do let _ ← call (.builtin "list.append") [acc, ← eval elt env])
        again (.compLoop (.ListComp elt [⟨target, iter, [], 0⟩, ⟨target₂, iter₂, [], 0⟩] scope pos) 1 it acc env)) := by rfl
theorem compTurn_out (elt target iter target₂ iter₂ : Expr) (scope : Scope) (pos : Pos) (it acc : Value) (env : Env) :
    compTurn (.ListComp elt [⟨target, iter, [], 0⟩, ⟨target₂, iter₂, [], 0⟩] scope pos) 0 it acc env = (do
      standAt iter.pos
      match ← pyNext it with
      | none => pure (.done .next)
      | some v =>
        letOwnedTupleGo target it v
        assign target env v
        let mut ok := true
        for c in ([] : List Expr) do
          if ok then ok ← isTrue c env (eval c env)
        if ok then
          match (some (⟨target₂, iter₂, [], 0⟩ : Comprehension)) with
          | some g' =>
            let x ← eval g'.iter env
            standAt g'.iter.pos
            let x ← foldedSetIterable g'.iter env x
            let _ ← runOwn (.compStart (.ListComp elt [⟨target, iter, [], 0⟩, ⟨target₂, iter₂, [], 0⟩] scope pos) 1 (← holding [x] (pyIter x)) acc env) env
          | none => (do let _ ← call (.builtin "list.append") [acc, ← eval elt env])
        again (.compLoop (.ListComp elt [⟨target, iter, [], 0⟩, ⟨target₂, iter₂, [], 0⟩] scope pos) 0 it acc env)) := by rfl
theorem emits_in {elt target iter target₂ iter₂ : Expr} {scope : Scope} {pos : Pos} {it acc : Value} {env : Env} {R : Result → Shared → Prop} :
    Emits prog w A (.ListComp elt [⟨target, iter, [], 0⟩, ⟨target₂, iter₂, [], 0⟩] scope pos) 1 it acc env target₂ R (emitB prog w A [] elt env acc) := by
  intro I turn n s hI
  refine codeAny_loop rfl I (fun n s hI => ?_) n hI
  show wpAny _ A ((compTurn (.ListComp elt [⟨target, iter, [], 0⟩, ⟨target₂, iter₂, [], 0⟩] scope pos) 1 it acc env).onRaise (fun x => do noteFrame x env; theTreesLotGoes x)) _ _ s
  refine wpAny_noted ?_
  rw [compTurn_in]
  refine wpAny_bind (wpAny_standAt (wpAny_bind (wpAny_mono (turn n s hI) (fun r s₁ h₁ => ?_) fun _ _ h' => h')))
  cases r with
  | none => exact wpAny_pure h₁
  | some v =>
    refine wpAny_bind (wpAny_mono h₁ (fun _ s₀ h₀ => ?_) fun _ _ h' => h')
    refine wpAny_bind (wpAny_mono h₀ (fun _ s₂ h₂ => wpAny_bind (wpAny_mono h₂ (fun ok s₃ h₃ => ?_) fun _ _ h' => h')) fun _ _ h' => h')
    cases ok with
    | false => exact wpAny_pure ⟨rfl, by simpa using h₃⟩
    | true =>
      simp only [if_true] at h₃
      exact wpAny_bind (wpAny_bind (wpAny_mono h₃ (fun x s₄ h₄ => wpAny_bind (wpAny_mono h₄ (fun _ s₅ h₅ => wpAny_pure (wpAny_pure ⟨rfl, h₅⟩)) fun _ _ h' => h')) fun _ _ h' => h'))
theorem emits_out {elt target iter target₂ iter₂ : Expr} {scope : Scope} {pos : Pos} {it acc : Value} {env : Env} {R : Result → Shared → Prop} (hs : ∀ x, foldedSetIterable iter₂ env x = pure x) (hA : A.mark none = A) :
    Emits prog w A (.ListComp elt [⟨target, iter, [], 0⟩, ⟨target₂, iter₂, [], 0⟩] scope pos) 0 it acc env target R (nestB prog w A (.ListComp elt [⟨target, iter, [], 0⟩, ⟨target₂, iter₂, [], 0⟩] scope pos) iter₂ env acc) := by
  intro I turn n s hI
  refine codeAny_loop rfl I (fun n s hI => ?_) n hI
  show wpAny _ A ((compTurn (.ListComp elt [⟨target, iter, [], 0⟩, ⟨target₂, iter₂, [], 0⟩] scope pos) 0 it acc env).onRaise (fun x => do noteFrame x env; theTreesLotGoes x)) _ _ s
  refine wpAny_noted ?_
  rw [compTurn_out]
  refine wpAny_bind (wpAny_standAt (wpAny_bind (wpAny_mono (turn n s hI) (fun r s₁ h₁ => ?_) fun _ _ h' => h')))
  cases r with
  | none => exact wpAny_pure h₁
  | some v =>
    refine wpAny_bind (wpAny_mono h₁ (fun _ s₀ h₀ => ?_) fun _ _ h' => h')
    refine wpAny_bind (wpAny_mono h₀ (fun _ s₂ h₂ => ?_) fun _ _ h' => h')
    refine wpAny_bind (wpAny_tests_nil ?_)
    simp only [if_true]
    refine wpAny_bind (wpAny_mono h₂ (fun x s₃ h₃ => ?_) fun _ _ h' => h')
    refine wpAny_bind (wpAny_standAt (wpAny_bind (wpAny_of_eq (hs x) ?_)))
    refine wpAny_bind (wpAny_holding (wpAny_mono h₃ (fun it₂ s₄ h₄ => ?_) fun _ _ h' => h'))
    refine wpAny_bind (wpAny_runOwn ?_)
    rw [hA]
    refine codeAny_mono h₄ fun r s₅ h₅ => ?_
    cases r with
    | ok f => exact wpAny_pure ⟨rfl, h₅⟩
    | error x => exact h₅
end

section
open PyProof.Rows.LCg
variable {prog : Program} {w : World} {A A₀ : Around} {h₀ base : Heap} {outer : List Env} {L : Addr} {m : Str → Option Value} {s : Shared}

/-- the ledger inside a comprehension: the iterator's objects, the frame, the list -/
abbrev inLed (own : Led) (C : Addr) (oC : Obj) (D : Addr) (ys : List Value) (rest : Led) : Led := own ++ (C, oC) :: (D, lst ys) :: rest
abbrev inLedO (own : Led) (C : Addr) (oC : Obj) (D : Addr) (oD : Obj) (rest : Led) : Led := own ++ (C, oC) :: (D, oD) :: rest
structure Apart (wr : List Addr) (C D : Addr) (rest : Led) : Prop where
  off : ∀ q ∈ rest, q.1 ∉ wr ∧ q.1 ≠ C ∧ q.1 ≠ D
  wc : C ∉ wr
  wd : D ∉ wr
  cd : C ≠ D
theorem Apart.grow {own : Led} {C D : Addr} {oC oD : Obj} {rest tl : Led} {wr : List Addr} (hw : own.map (·.1) = wr) (a : Apart wr C D rest) (h : ∀ q ∈ (own ++ (C, oC) :: (D, oD) :: rest), ∀ t ∈ tl, q.1 ≠ t.1) : Apart wr C D (rest ++ tl) :=
  ⟨fun q hq => by
    rcases List.mem_append.mp hq with hq | hq
    · exact a.off q hq
    · refine ⟨fun hb => ?_, (h (C, oC) (by simp) q hq).symm, (h (D, oD) (by simp) q hq).symm⟩
      rw [← hw] at hb
      obtain ⟨p, hp, e⟩ := List.mem_map.mp hb
      exact h p (List.mem_append_left _ hp) q hq e, a.wc, a.wd, a.cd⟩
theorem own_of {h : Heap} : ∀ {wr : List Addr}, (∀ b ∈ wr, ∃ o, h.get? b = some o) → ∃ own : Led, own.map (·.1) = wr ∧ ∀ q ∈ own, h.get? q.1 = some q.2
  | [], _ => ⟨[], rfl, fun _ h => by cases h⟩
  | b :: wr, hb => by
    obtain ⟨o, e⟩ := hb b List.mem_cons_self
    obtain ⟨own, e1, e2⟩ := own_of (wr := wr) fun b h => hb b (List.mem_cons_of_mem _ h)
    refine ⟨(b, o) :: own, by simp [e1], fun q hq => ?_⟩
    rcases List.mem_cons.mp hq with rfl | hq
    · exact e
    · exact e2 q hq
theorem Std.adds {g h : Heap} {gn : Array GenState} {M : Led} (S : Std A₀ base outer h₀ L m g h gn M) {own : Led} (e : ∀ q ∈ own, h.get? q.1 = some q.2) (hL : ∀ q ∈ own, q.1 ≠ L) (hg : ∀ q ∈ own, g.get? q.1 = none) : Std A₀ base outer h₀ L m g h gn (own ++ M) := ⟨S.T, S.F, fun q hq => by
  rcases List.mem_append.mp hq with hq | hq
  · exact ⟨e q hq, hL q hq, hg q hq⟩
  · exact S.N q hq, S.B, S.D, S.gens⟩

theorem comp_coreT {Y : Type} {tl₀ : Led} {obj : Y → Obj} {e : Expr} {d : Nat} {target : Expr} {cenv : Env} {J D : Addr} {fp wr : List Addr} {n : Nat} {P Md : Nat → Value → Heap → Prop} {St : Nat → Heap → Prop} {Bnd : Nat → (Str → Option Value) → Prop}
    {body : (Shared → Prop) → (Value → Shared → Prop) → Shared → Prop} {R : Result → Shared → Prop} {rest : Led} {Inv : Nat → Y → Led → Prop} {g₁ : Heap} {ys₀ : Y} {m₁ : Str → Option Value}
    (W : KTurns prog w A target J fp wr n P Md St) (EM : Emits prog w A e d (.ref J) (.ref D) cenv target R body)
    (hfp : ∀ b ∈ fp, b ∈ wr ∨ ∃ o, (b, o) ∈ rest) (hJo : ∀ i h, St i h → ∀ b ∈ wr, ∃ o, h.get? b = some o)
    (hassign : ∀ i v (s : Shared) (mc : Str → Option Value) (Q : Unit → Shared → Prop) (E : Value → Shared → Prop), P i v s.heap → (∀ q ∈ rest, s.heap.get? q.1 = some q.2) → s.heap.Ns cenv.locals mc →
      (∀ h' tk mc', h'.Ns cenv.locals mc' → Bnd i mc' → (∀ b o, b ≠ cenv.locals → s.heap.get? b = some o → h'.get? b = some o) → Q () { s with heap := h', toks := tk }) → wpAny (model prog w) A (assign target cenv v) Q E s)
    (hbody : ∀ i own oC mc h gn tk g ys tl (K : Shared → Prop) (N : Value → Shared → Prop), i < n → own.map (·.1) = wr → Bnd i mc → NsObj oC mc → KtsTurn (outer.filterMap (·.frame)) g₁ g → Std A₀ base outer h₀ L m g h gn (inLedO own cenv.locals oC D (obj ys) (rest ++ tl)) → Apart wr cenv.locals D (rest ++ tl) → Inv i ys tl →
      (∀ ys' tl' oC' mc' h' gn' tk' g', NsObj oC' mc' → KtsTurn (outer.filterMap (·.frame)) g g' → Std A₀ base outer h₀ L m g' h' gn' (inLedO own cenv.locals oC' D (obj ys') (rest ++ tl')) → Apart wr cenv.locals D (rest ++ tl') → (∀ q ∈ rest, ∀ t ∈ tl', q.1 ≠ t.1) → Inv (i + 1) ys' tl' → K ⟨h', gn', s.drawn, tk', s.os⟩) →
      (∀ q ∈ rest, ∀ t ∈ tl, q.1 ≠ t.1) → body K N ⟨h, gn, s.drawn, tk, s.os⟩)
    (hst : St 0 s.heap) (hn : s.heap.Ns cenv.locals m₁) (hCL : cenv.locals ≠ L) (hC₀ : g₁.get? cenv.locals = none) (S : Std A₀ base outer h₀ L m g₁ s.heap s.gens ((D, obj ys₀) :: (rest ++ tl₀))) (hJL : ∀ b ∈ wr, b ≠ L) (hJ₀ : ∀ b ∈ wr, g₁.get? b = none) (ap : Apart wr cenv.locals D (rest ++ tl₀)) (ord₀ : ∀ q ∈ rest, ∀ t ∈ tl₀, q.1 ≠ t.1) (hI : Inv 0 ys₀ tl₀)
    (hR : ∀ g h gn tk ys tl mc, KtsTurn (outer.filterMap (·.frame)) g₁ g → Std A₀ base outer h₀ L m g h gn ((D, obj ys) :: (rest ++ tl)) → Apart wr cenv.locals D (rest ++ tl) → h.Ns cenv.locals mc → (∀ q ∈ rest, ∀ t ∈ tl, q.1 ≠ t.1) → Inv n ys tl → R (.ok .next) ⟨h, gn, s.drawn, tk, s.os⟩) :
    codeAny (model prog w) A (.compLoop e d (.ref J) (.ref D) cenv) R s := by
  refine EM (fun k s' => ∃ h' gn tk i ys mc g tl, s' = ⟨h', gn, s.drawn, tk, s.os⟩ ∧ i ≤ n ∧ k = n + 1 - i ∧ St i h' ∧ h'.Ns cenv.locals mc ∧ KtsTurn (outer.filterMap (·.frame)) g₁ g ∧ Std A₀ base outer h₀ L m g h' gn ((D, obj ys) :: (rest ++ tl)) ∧ Apart wr cenv.locals D (rest ++ tl) ∧ (∀ q ∈ rest, ∀ t ∈ tl, q.1 ≠ t.1) ∧ Inv i ys tl)
    ?_ (n + 1) s ⟨s.heap, s.gens, s.toks, 0, ys₀, m₁, g₁, tl₀, rfl, Nat.zero_le _, rfl, hst, hn, .refl, S, ap, ord₀, hI⟩
  rintro k s' ⟨h', gn, tk, i, ys, mc, g, tl, rfl, hi, rfl, hst', hn', T', S', ap', ord, inv⟩
  have gJ : ∀ b ∈ wr, g.get? b = none := fun b hb => T'.none_ _ (hJ₀ b hb)
  have gC : g.get? cenv.locals = none := T'.none_ _ hC₀
  have offJ : ∀ q ∈ ((D, obj ys) :: (rest ++ tl)), q.1 ∉ wr := fun q hq => by
    rcases List.mem_cons.mp hq with rfl | hq
    · exact ap'.wd
    · exact (ap'.off q hq).1
  have offC : ∀ q ∈ ((D, obj ys) :: (rest ++ tl)), q.1 ≠ cenv.locals := fun q hq => by
    rcases List.mem_cons.mp hq with rfl | hq
    · exact ap'.cd.symm
    · exact (ap'.off q hq).2.1
  have hLw : L ∉ wr := fun hb => hJL L hb rfl
  by_cases hlt : i < n
  · refine W.item i _ _ _ hlt hst' fun v h₂ tk₂ hMd hk₂ => ?_
    have S₂ := S'.but hk₂ gJ hLw offJ
    have hn₂ := hn'.at' fun o e => hk₂ _ o ap'.wc e
    refine W.go i v _ _ _ hMd fun h₃ hP hst₃ hk₃ => ?_
    have S₃ := S₂.but hk₃ gJ hLw offJ
    have hn₃ := hn₂.at' fun o e => hk₃ _ o ap'.wc e
    refine hassign i v _ mc _ _ hP (fun q hq => (S₃.N q (List.mem_cons_of_mem _ (List.mem_append.mpr (.inl hq)))).1) hn₃ fun h₄ tk₄ mc' hn₄ hB hk₄ => ?_
    have S₄ := S₃.but (wr := [cenv.locals]) (fun b o hb e => hk₄ b o (fun z => hb (List.mem_singleton.mpr z)) e) (fun b hb => by rw [List.mem_singleton.mp hb]; exact gC) (fun hb => hCL (List.mem_singleton.mp hb).symm) (fun q hq hb => offC q hq (List.mem_singleton.mp hb))
    have inC : cenv.locals ∉ fp := fun hb => by
      rcases hfp _ hb with z | ⟨o, ho⟩
      · exact ap.wc z
      · exact (ap.off _ (List.mem_append.mpr (.inl ho))).2.1 rfl
    have hst₄ : St (i + 1) h₄ := W.frame _ _ _ hst₃ fun b hb o e => hk₄ b o (fun z => inC (z ▸ hb)) e
    obtain ⟨own, ew, eo⟩ := own_of (hJo _ _ hst₄)
    have inw : ∀ q ∈ own, q.1 ∈ wr := fun q hq => ew ▸ List.mem_map_of_mem hq
    obtain ⟨oC, heC, hoC⟩ := ns_obj hn₄
    have S₅ : Std A₀ base outer h₀ L m g h₄ gn (inLedO own cenv.locals oC D (obj ys) (rest ++ tl)) := (S₄.add heC hCL gC).adds eo (fun q hq => hJL _ (inw q hq)) (fun q hq => gJ _ (inw q hq))
    refine hbody i own oC mc' h₄ gn tk₄ g ys tl _ _ hlt ew hB hoC T' S₅ ap' inv ?_ ord
    intro ys' tl' oC' mc'' h₅ gn₅ tk₅ g₅ hoC' T₅ S₆ ap₆ ord₆ inv₆
    refine ⟨n + 1 - (i + 1), by omega, h₅, gn₅, tk₅, i + 1, ys', mc'', g₅, tl', rfl, hlt, rfl, ?_, hoC'.ns (S₆.N _ (List.mem_append_right _ List.mem_cons_self)).1, T'.trans T₅, S₆.cut fun q hq => List.mem_append_right _ (List.mem_cons_of_mem _ hq), ap₆, ord₆, inv₆⟩
    refine W.frame _ _ _ hst₄ fun b hb o e => ?_
    rcases hfp b hb with z | ⟨o', ho⟩
    · rw [← ew] at z
      obtain ⟨q, hq, rfl⟩ := List.mem_map.mp z
      rw [eo q hq] at e; cases e
      exact (S₆.N q (List.mem_append_left _ hq)).1
    · have := (S₅.N (b, o') (List.mem_append_right _ (List.mem_cons_of_mem _ (List.mem_cons_of_mem _ (List.mem_append.mpr (.inl ho)))))).1
      rw [this] at e; cases e
      exact (S₆.N (b, o') (List.mem_append_right _ (List.mem_cons_of_mem _ (List.mem_cons_of_mem _ (List.mem_append.mpr (.inl ho)))))).1
  · obtain rfl : i = n := Nat.le_antisymm hi (Nat.not_lt.mp hlt)
    refine W.done _ _ _ hst' fun h₂ tk₂ hk₂ => ?_
    exact hR g h₂ gn tk₂ ys tl mc T' (S'.but hk₂ gJ hLw offJ) ap' (hn'.at' fun o e => hk₂ _ o ap'.wc e) ord inv
theorem comp_core {Y : Type} {obj : Y → Obj} {e : Expr} {d : Nat} {target : Expr} {cenv : Env} {J D : Addr} {fp wr : List Addr} {n : Nat} {P Md : Nat → Value → Heap → Prop} {St : Nat → Heap → Prop} {Bnd : Nat → (Str → Option Value) → Prop}
    {body : (Shared → Prop) → (Value → Shared → Prop) → Shared → Prop} {R : Result → Shared → Prop} {rest : Led} {Inv : Nat → Y → Led → Prop} {g₁ : Heap} {ys₀ : Y} {m₁ : Str → Option Value}
    (W : KTurns prog w A target J fp wr n P Md St) (EM : Emits prog w A e d (.ref J) (.ref D) cenv target R body)
    (hfp : ∀ b ∈ fp, b ∈ wr ∨ ∃ o, (b, o) ∈ rest) (hJo : ∀ i h, St i h → ∀ b ∈ wr, ∃ o, h.get? b = some o)
    (hassign : ∀ i v (s : Shared) (mc : Str → Option Value) (Q : Unit → Shared → Prop) (E : Value → Shared → Prop), P i v s.heap → (∀ q ∈ rest, s.heap.get? q.1 = some q.2) → s.heap.Ns cenv.locals mc →
      (∀ h' tk mc', h'.Ns cenv.locals mc' → Bnd i mc' → (∀ b o, b ≠ cenv.locals → s.heap.get? b = some o → h'.get? b = some o) → Q () { s with heap := h', toks := tk }) → wpAny (model prog w) A (assign target cenv v) Q E s)
    (hbody : ∀ i own oC mc h gn tk g ys tl (K : Shared → Prop) (N : Value → Shared → Prop), i < n → own.map (·.1) = wr → Bnd i mc → NsObj oC mc → KtsTurn (outer.filterMap (·.frame)) g₁ g → Std A₀ base outer h₀ L m g h gn (inLedO own cenv.locals oC D (obj ys) (rest ++ tl)) → Apart wr cenv.locals D (rest ++ tl) → Inv i ys tl →
      (∀ ys' tl' oC' mc' h' gn' tk' g', NsObj oC' mc' → KtsTurn (outer.filterMap (·.frame)) g g' → Std A₀ base outer h₀ L m g' h' gn' (inLedO own cenv.locals oC' D (obj ys') (rest ++ tl')) → Apart wr cenv.locals D (rest ++ tl') → (∀ q ∈ rest, ∀ t ∈ tl', q.1 ≠ t.1) → Inv (i + 1) ys' tl' → K ⟨h', gn', s.drawn, tk', s.os⟩) →
      (∀ q ∈ rest, ∀ t ∈ tl, q.1 ≠ t.1) → body K N ⟨h, gn, s.drawn, tk, s.os⟩)
    (hst : St 0 s.heap) (hn : s.heap.Ns cenv.locals m₁) (hCL : cenv.locals ≠ L) (hC₀ : g₁.get? cenv.locals = none) (S : Std A₀ base outer h₀ L m g₁ s.heap s.gens ((D, obj ys₀) :: rest)) (hJL : ∀ b ∈ wr, b ≠ L) (hJ₀ : ∀ b ∈ wr, g₁.get? b = none) (ap : Apart wr cenv.locals D rest) (hI : Inv 0 ys₀ [])
    (hR : ∀ g h gn tk ys tl mc, KtsTurn (outer.filterMap (·.frame)) g₁ g → Std A₀ base outer h₀ L m g h gn ((D, obj ys) :: (rest ++ tl)) → Apart wr cenv.locals D (rest ++ tl) → h.Ns cenv.locals mc → (∀ q ∈ rest, ∀ t ∈ tl, q.1 ≠ t.1) → Inv n ys tl → R (.ok .next) ⟨h, gn, s.drawn, tk, s.os⟩) :
    codeAny (model prog w) A (.compLoop e d (.ref J) (.ref D) cenv) R s :=
  comp_coreT (tl₀ := []) W EM hfp hJo hassign hbody hst hn hCL hC₀ (by rw [List.append_nil]; exact S) hJL hJ₀ (by rw [List.append_nil]; exact ap) (fun _ _ _ h => by cases h) hI hR
end
end
section
open PyProof.Rows.LCg
section
variable {prog : Program} {w : World} {A A₀ : Around} {h₀ base : Heap} {outer : List Env} {L : Addr} {m : Str → Option Value} {s : Shared} {E : Value → Shared → Prop}

theorem comp_blockT {tl₀ : Led} {elt target iter : Expr} {ifs : List Expr} {gs : List Comprehension} {scope : Scope} {pos : Pos} {cl : List (Str × Addr)} {env : Env} {J : Addr} {own₀ : Led} {fp wr : List Addr} {n : Nat} {P Md : Nat → Value → Heap → Prop} {St : Nat → Heap → Prop} {Bnd : Nat → (Str → Option Value) → Prop}
    {body : Addr → Addr → (Shared → Prop) → (Value → Shared → Prop) → Shared → Prop} {RR : Value → Addr → Result → Shared → Prop} {news : Led} {Inv : Nat → List Value → Led → Prop} {g₁ : Heap}
    (W : KTurns prog w A target J fp wr n P Md St) (EM : ∀ C D R, Emits prog w A (.ListComp elt (⟨target, iter, ifs, 0⟩ :: gs) scope pos) 0 (.ref J) (.ref D) (compEnvC scope cl C env) target R (body C D))
    (hself : ∀ i (s : Shared) (Q : Value → Shared → Prop) (E : Value → Shared → Prop), St i s.heap → Q (.ref J) s → wpAny (model prog w) A (pyIter (.ref J)) Q E s)
    (hfp : ∀ b ∈ fp, b ∈ wr ∨ ∃ o, (b, o) ∈ news) (hJo : ∀ i h, St i h → ∀ b ∈ wr, ∃ o, h.get? b = some o)
    (hassign : ∀ C i v (s : Shared) (mc : Str → Option Value) (Q : Unit → Shared → Prop) (E : Value → Shared → Prop), P i v s.heap → (∀ q ∈ news, s.heap.get? q.1 = some q.2) → s.heap.Ns C mc →
      (∀ h' tk mc', h'.Ns C mc' → Bnd i mc' → (∀ b o, b ≠ C → s.heap.get? b = some o → h'.get? b = some o) → Q () { s with heap := h', toks := tk }) → wpAny (model prog w) A (assign target (compEnvC scope cl C env) v) Q E s)
    (hcell : ∀ y ∈ scope.names, y.2 ≠ .cell) (hkind : scope.kind = .function)
    (hbody : ∀ C D i own oC mc h gn tk g ys tl (K : Shared → Prop) (N : Value → Shared → Prop), (∀ q ∈ news, q.1 < D) → i < n → own.map (·.1) = wr → Bnd i mc → NsObj oC mc → KtsTurn (outer.filterMap (·.frame)) g₁ g → Std A₀ base outer h₀ L m g h gn (inLed own C oC D ys (news ++ tl)) → Apart wr C D (news ++ tl) → Inv i ys tl →
      (∀ ys' tl' oC' mc' h' gn' tk' g', NsObj oC' mc' → KtsTurn (outer.filterMap (·.frame)) g g' → Std A₀ base outer h₀ L m g' h' gn' (inLed own C oC' D ys' (news ++ tl')) → Apart wr C D (news ++ tl') → (∀ q ∈ news, ∀ t ∈ tl', q.1 ≠ t.1) → Inv (i + 1) ys' tl' → K ⟨h', gn', s.drawn, tk', s.os⟩) →
      (∀ q ∈ news, ∀ t ∈ tl, q.1 ≠ t.1) → body C D K N ⟨h, gn, s.drawn, tk, s.os⟩)
    (hst : St 0 s.heap) (hown : own₀.map (·.1) = wr) (S : Std A₀ base outer h₀ L m g₁ s.heap s.gens (own₀ ++ (news ++ tl₀))) (hJn : ∀ q ∈ news ++ tl₀, q.1 ∉ wr) (ord₀ : ∀ q ∈ news, ∀ t ∈ tl₀, q.1 ≠ t.1) (hI : Inv 0 [] tl₀)
    (hRR : ∀ D C g h gn tk ys tl mc, KtsTurn (outer.filterMap (·.frame)) g₁ g → Std A₀ base outer h₀ L m g h gn ((D, lst ys) :: (news ++ tl)) → (∀ q ∈ (D, lst ys) :: (news ++ tl), q.1 ≠ C) → C ≠ L → g.get? C = none → h.Ns C mc → (∀ q ∈ news, q.1 < D) → (∀ q ∈ news, ∀ t ∈ tl, q.1 ≠ t.1) → Inv n ys tl → RR (.ref D) C (.ok .next) ⟨h, gn, s.drawn, tk, s.os⟩) :
    wpAny (model prog w) A (newList []) (fun acc s₃ => wpAny (model prog w) A (newFunctionEnv scope env.globals cl [] env.qual none .none (some env)) (fun cenv s₄ =>
      codeAny (model prog w) A (.compStart (.ListComp elt (⟨target, iter, ifs, 0⟩ :: gs) scope pos) 0 (.ref J) acc { cenv with scope := relabel scope env }) (RR acc cenv.locals) s₄) E s₃) E s := by
  refine wpAny_newObj_type (wpAny_newFunctionEnv hcell (by intro y hy; simp at hy) (fun h₁ hns₁ hsb₁ => ?_) hkind)
  dsimp only at hns₁ hsb₁ ⊢
  generalize hH2 : s.heap.push { cls := .type "list", dict := none, data := .seq ([] : List Value).toArray } = H2 at hns₁ hsb₁ ⊢
  have hC : H2.objs.size = s.heap.objs.size + 1 := by rw [← hH2, Heap.size_push]
  have hDC : s.heap.objs.size ≠ H2.objs.size := by rw [hC]; exact Nat.ne_of_lt (Nat.lt_succ_self _)
  have below : ∀ b, b < s.heap.objs.size → b ≠ H2.objs.size ∧ b ≠ s.heap.objs.size := fun b hb => ⟨by rw [hC]; exact Nat.ne_of_lt (Nat.lt_succ_of_lt hb), Nat.ne_of_lt hb⟩
  have old : ∀ b o, s.heap.get? b = some o → h₁.get? b = some o := fun b o e => hsb₁.extBut b o (below b (Heap.lt_size e)).1 (Heap.get?_push_of_some _ (hH2 ▸ Heap.get?_push_of_some _ e))
  have hacc : h₁.get? s.heap.objs.size = some (lst []) := hsb₁.extBut _ _ hDC (Heap.get?_push_of_some _ (hH2 ▸ Heap.get?_push_size _ rfl))
  have hst₁ : St 0 h₁ := W.frame _ _ _ hst fun b _ o e => old b o e
  have fresh : ∀ a, s.heap.objs.size ≤ a → s.heap.get? a = none := fun a ha => by
    cases e : s.heap.get? a with
    | none => rfl
    | some o' => exact absurd (Heap.lt_size e) (Nat.not_lt.mpr ha)
  have hD₀ : g₁.get? s.heap.objs.size = none := S.new (fresh _ (Nat.le_refl _))
  have hC₀ : g₁.get? H2.objs.size = none := S.new (fresh _ (by rw [hC]; exact Nat.le_succ _))
  have hLlt : L < s.heap.objs.size := S.F.ns.lt
  have hDL : s.heap.objs.size ≠ L := Ne.symm (below L hLlt).2
  have hCL : H2.objs.size ≠ L := Ne.symm (below L hLlt).1
  have NJ : ∀ b ∈ wr, b < s.heap.objs.size ∧ b ≠ L ∧ g₁.get? b = none := fun b hb => by
    rw [← hown] at hb
    obtain ⟨q, hq, rfl⟩ := List.mem_map.mp hb
    have x := S.N q (List.mem_append_left _ hq)
    exact ⟨Heap.lt_size x.1, x.2⟩
  have nlt : ∀ q ∈ news ++ tl₀, q.1 < s.heap.objs.size := fun q hq => Heap.lt_size (S.N q (List.mem_append_right _ hq)).1
  have ap : Apart wr H2.objs.size s.heap.objs.size (news ++ tl₀) := ⟨fun q hq => ⟨hJn q hq, (below _ (nlt q hq)).1, (below _ (nlt q hq)).2⟩, fun hb => (below _ (NJ _ hb).1).1 rfl, fun hb => (below _ (NJ _ hb).1).2 rfl, hDC.symm⟩
  have S₁ : Std A₀ base outer h₀ L m g₁ h₁ s.gens ((s.heap.objs.size, lst []) :: (news ++ tl₀)) := ((S.grow old).cut fun q hq => List.mem_append_right _ hq).add hacc hDL hD₀
  have loop : ∀ s₃ : Shared, s₃ = { s with heap := h₁, toks := s.toks + ([] : List (Str × Value)).length } →
      codeAny (model prog w) A (.compLoop (.ListComp elt (⟨target, iter, ifs, 0⟩ :: gs) scope pos) 0 (.ref J) (.ref s.heap.objs.size) (compEnvC scope cl H2.objs.size env))
        (RR (.ref s.heap.objs.size) H2.objs.size) s₃ := by
    rintro s₃ rfl
    refine comp_coreT (tl₀ := tl₀) (obj := lst) (s := { s with heap := h₁, toks := s.toks + ([] : List (Str × Value)).length }) (cenv := compEnvC scope cl H2.objs.size env) W (EM H2.objs.size s.heap.objs.size _) hfp hJo (fun i v s mc Q E hP hq hn k => hassign H2.objs.size i v s mc Q E hP hq hn k)
      (fun i own oC mc h gn tk g ys tl K N hi hw hB hO hT hS hA hI k ord => ?_) hst₁ hns₁ hCL hC₀ S₁ (fun b hb => (NJ b hb).2.1) (fun b hb => (NJ b hb).2.2) ap ord₀ hI
      (fun g h gn tk ys tl mc hT hS hA hn ord hI => ?_)
    · exact hbody H2.objs.size s.heap.objs.size i own oC mc h gn tk g ys tl K N (fun q hq => nlt q (List.mem_append.mpr (.inl hq))) hi hw hB hO hT hS hA hI k ord
    · refine hRR _ _ g h gn tk ys tl mc hT hS (fun q hq => ?_) hCL (hT.none_ _ hC₀) hn (fun q hq => nlt q (List.mem_append.mpr (.inl hq))) ord hI
      rcases List.mem_cons.mp hq with rfl | hq
      · exact hDC
      · exact (hA.off q hq).2.1
  exact codeAny_compStart_list (loop _ rfl) (hself 0 _ _ _ hst₁ (loop _ rfl))
theorem comp_block {elt target iter : Expr} {ifs : List Expr} {gs : List Comprehension} {scope : Scope} {pos : Pos} {cl : List (Str × Addr)} {env : Env} {J : Addr} {own₀ : Led} {fp wr : List Addr} {n : Nat} {P Md : Nat → Value → Heap → Prop} {St : Nat → Heap → Prop} {Bnd : Nat → (Str → Option Value) → Prop}
    {body : Addr → Addr → (Shared → Prop) → (Value → Shared → Prop) → Shared → Prop} {RR : Value → Addr → Result → Shared → Prop} {news : Led} {Inv : Nat → List Value → Led → Prop} {g₁ : Heap}
    (W : KTurns prog w A target J fp wr n P Md St) (EM : ∀ C D R, Emits prog w A (.ListComp elt (⟨target, iter, ifs, 0⟩ :: gs) scope pos) 0 (.ref J) (.ref D) (compEnvC scope cl C env) target R (body C D))
    (hself : ∀ i (s : Shared) (Q : Value → Shared → Prop) (E : Value → Shared → Prop), St i s.heap → Q (.ref J) s → wpAny (model prog w) A (pyIter (.ref J)) Q E s)
    (hfp : ∀ b ∈ fp, b ∈ wr ∨ ∃ o, (b, o) ∈ news) (hJo : ∀ i h, St i h → ∀ b ∈ wr, ∃ o, h.get? b = some o)
    (hassign : ∀ C i v (s : Shared) (mc : Str → Option Value) (Q : Unit → Shared → Prop) (E : Value → Shared → Prop), P i v s.heap → (∀ q ∈ news, s.heap.get? q.1 = some q.2) → s.heap.Ns C mc →
      (∀ h' tk mc', h'.Ns C mc' → Bnd i mc' → (∀ b o, b ≠ C → s.heap.get? b = some o → h'.get? b = some o) → Q () { s with heap := h', toks := tk }) → wpAny (model prog w) A (assign target (compEnvC scope cl C env) v) Q E s)
    (hcell : ∀ y ∈ scope.names, y.2 ≠ .cell) (hkind : scope.kind = .function)
    (hbody : ∀ C D i own oC mc h gn tk g ys tl (K : Shared → Prop) (N : Value → Shared → Prop), (∀ q ∈ news, q.1 < D) → i < n → own.map (·.1) = wr → Bnd i mc → NsObj oC mc → KtsTurn (outer.filterMap (·.frame)) g₁ g → Std A₀ base outer h₀ L m g h gn (inLed own C oC D ys (news ++ tl)) → Apart wr C D (news ++ tl) → Inv i ys tl →
      (∀ ys' tl' oC' mc' h' gn' tk' g', NsObj oC' mc' → KtsTurn (outer.filterMap (·.frame)) g g' → Std A₀ base outer h₀ L m g' h' gn' (inLed own C oC' D ys' (news ++ tl')) → Apart wr C D (news ++ tl') → (∀ q ∈ news, ∀ t ∈ tl', q.1 ≠ t.1) → Inv (i + 1) ys' tl' → K ⟨h', gn', s.drawn, tk', s.os⟩) →
      (∀ q ∈ news, ∀ t ∈ tl, q.1 ≠ t.1) → body C D K N ⟨h, gn, s.drawn, tk, s.os⟩)
    (hst : St 0 s.heap) (hown : own₀.map (·.1) = wr) (S : Std A₀ base outer h₀ L m g₁ s.heap s.gens (own₀ ++ news)) (hJn : ∀ q ∈ news, q.1 ∉ wr) (hI : Inv 0 [] [])
    (hRR : ∀ D C g h gn tk ys tl mc, KtsTurn (outer.filterMap (·.frame)) g₁ g → Std A₀ base outer h₀ L m g h gn ((D, lst ys) :: (news ++ tl)) → (∀ q ∈ (D, lst ys) :: (news ++ tl), q.1 ≠ C) → C ≠ L → g.get? C = none → h.Ns C mc → (∀ q ∈ news, q.1 < D) → (∀ q ∈ news, ∀ t ∈ tl, q.1 ≠ t.1) → Inv n ys tl → RR (.ref D) C (.ok .next) ⟨h, gn, s.drawn, tk, s.os⟩) :
    wpAny (model prog w) A (newList []) (fun acc s₃ => wpAny (model prog w) A (newFunctionEnv scope env.globals cl [] env.qual none .none (some env)) (fun cenv s₄ =>
      codeAny (model prog w) A (.compStart (.ListComp elt (⟨target, iter, ifs, 0⟩ :: gs) scope pos) 0 (.ref J) acc { cenv with scope := relabel scope env }) (RR acc cenv.locals) s₄) E s₃) E s :=
  comp_blockT (tl₀ := []) W EM hself hfp hJo hassign hcell hkind hbody hst hown (by rw [List.append_nil]; exact S) (by rw [List.append_nil]; exact hJn) (fun _ _ _ h => by cases h) hI hRR
end
end
section
open PyProof.Rows.LCg
section
variable {w : World} {p : Program} {loose : List Str} {mean : ExcName → Option Value} {mg mb : Str → Option Value}
  {A A₀ : Around} {h₀ base : Heap} {outer : List Env} {L : Addr} {m : Str → Option Value} {s : Shared} {E : Value → Shared → Prop}

/-- what the user of an element is owed -/
def Hands (w : World) (p : Program) (loose : List Str) (mean : ExcName → Option Value) (mg mb : Str → Option Value) (A₀ : Around) (base : Heap) (outer : List Env) (L : Addr) (m : Str → Option Value) (g : Heap) (M : Led) (s : Shared) (Q : Value → Shared → Prop) (Post : Led → Value → Prop) : Prop :=
  ∀ r tl h' gn tk g', KtsTurn (outer.filterMap (·.frame)) g g' → Fr g' L h' m → News g' L h' (M ++ tl) → Below A₀ base outer g' → KtsDicts (outer.filterMap (·.frame)) g' → AllBare gn → (∀ q ∈ M, ∀ t ∈ tl, q.1 ≠ t.1) → Post tl r → Q r ⟨h', gn, s.drawn, tk, s.os⟩
theorem hands_end {g g' h' : Heap} {M M' tl : Led} {Q : Value → Shared → Prop} {Post : Led → Value → Prop} {r : Value} {gn : Array GenState} {tk : Nat} {dr : Drawn} {os : OsState} (k : Hands w p loose mean mg mb A₀ base outer L m g M s Q Post) (e1 : s.drawn = dr) (e2 : s.os = os)
    (T : KtsTurn (outer.filterMap (·.frame)) g g') (F : Fr g' L h' m) (N : News g' L h' M') (B : Below A₀ base outer g') (D : KtsDicts (outer.filterMap (·.frame)) g') (hb : AllBare gn) (S : Split M' M tl) (post : (∀ q ∈ M', q ∈ M ++ tl) → Post tl r) : Q r ⟨h', gn, dr, tk, os⟩ := e1 ▸ e2 ▸
  k r tl h' gn tk g' T F (fun q hq => N q (S.mem q hq)) B D hb S.ord (post S.back)

/-- one element of a comprehension -/
def EltAt (w : World) (p : Program) (loose : List Str) (mean : ExcName → Option Value) (mg mb : Str → Option Value) (A A₀ : Around) (base : Heap) (outer : List Env) (h₀ : Heap) (L : Addr) (m : Str → Option Value) (ifs : List Expr) (elt : Expr) (scope : Scope) (cl : List (Str × Addr)) (env : Env)
    (Bnd : Nat → (Str → Option Value) → Prop) (n : Nat) (news : Led) (Inv : Nat → List Value → Led → Prop) (s : Shared) : Prop :=
  ∀ i own C oC D mc h gn tk g ys tl (Q : Value → Shared → Prop) (Z : Value → Shared → Prop) (E' : Value → Shared → Prop), i < n → Bnd i mc → NsObj oC mc → Fr g L h m → News g L h (inLed own C oC D ys (news ++ tl)) → Below A₀ base outer g → (hd.heap_1 w.params).In g → Top p loose mean mg mb g → KtsDicts (outer.filterMap (·.frame)) g → AllBare gn → Inv i ys tl →
    (∀ q ∈ news, ∀ t ∈ tl, q.1 ≠ t.1) → Here (news ++ tl) →
    Hands w p loose mean mg mb A₀ base outer L m g (inLed own C oC D ys (news ++ tl)) s Q (fun tl₂ y => Inv (i + 1) (ys ++ [y]) (tl ++ tl₂)) →
    Hands w p loose mean mg mb A₀ base outer L m g (inLed own C oC D ys (news ++ tl)) s Z (fun tl₂ _ => Inv (i + 1) ys (tl ++ tl₂)) →
    testsB Challenge.rw_bm0005_01.row.prog w A ifs (compEnvC scope cl C env) (fun ok s₃ => if ok = true then wpAny (model Challenge.rw_bm0005_01.row.prog w) A (eval elt (compEnvC scope cl C env)) Q E' s₃ else Z .none s₃) E' ⟨h, gn, s.drawn, tk, s.os⟩

theorem ord_add {news tl tl₂ M : Led} (h1 : ∀ q ∈ news, ∀ t ∈ tl, q.1 ≠ t.1) (h2 : ∀ q ∈ M, ∀ t ∈ tl₂, q.1 ≠ t.1) (hs : ∀ q ∈ news, q ∈ M) : ∀ q ∈ news, ∀ t ∈ tl ++ tl₂, q.1 ≠ t.1 := fun q hq t ht => by
  rcases List.mem_append.mp ht with ht | ht
  · exact h1 q hq t ht
  · exact h2 q (hs q hq) t ht

theorem elt_body {ifs : List Expr} {elt : Expr} {scope : Scope} {cl : List (Str × Addr)} {env : Env} {Bnd : Nat → (Str → Option Value) → Prop} {n : Nat} {news : Led} {Inv : Nat → List Value → Led → Prop}
    (XB : (hd.heap_1 w.params).In base) (TB : Top p loose mean mg mb base)
    (EA : EltAt w p loose mean mg mb A A₀ base outer h₀ L m ifs elt scope cl env Bnd n news Inv s) (hlen : ∀ i ys tl, Inv i ys tl → ys.length ≤ sizeLine) (wr : List Addr) (C D : Addr)
    (i : Nat) (own : Led) (hw : own.map (·.1) = wr) (oC : Obj) (mc : Str → Option Value) (h : Heap) (gn : Array GenState) (tk : Nat) (g : Heap) (ys : List Value) (tl : Led) (K : Shared → Prop) (N : Value → Shared → Prop)
    (hi : i < n) (hB : Bnd i mc) (hO : NsObj oC mc) (S : Std A₀ base outer h₀ L m g h gn (inLed own C oC D ys (news ++ tl))) (ap : Apart wr C D (news ++ tl)) (hI : Inv i ys tl)
    (k : ∀ ys' tl' oC' mc' h' gn' tk' g', NsObj oC' mc' → KtsTurn (outer.filterMap (·.frame)) g g' → Std A₀ base outer h₀ L m g' h' gn' (inLed own C oC' D ys' (news ++ tl')) → Apart wr C D (news ++ tl') → (∀ q ∈ news, ∀ t ∈ tl', q.1 ≠ t.1) → Inv (i + 1) ys' tl' → K ⟨h', gn', s.drawn, tk', s.os⟩)
    (ord : ∀ q ∈ news, ∀ t ∈ tl, q.1 ≠ t.1) : emitB Challenge.rw_bm0005_01.row.prog w A ifs elt (compEnvC scope cl C env) (.ref D) K N ⟨h, gn, s.drawn, tk, s.os⟩ := by
  have X := XB.keeps S.B.stays
  have T := TB.keeps S.B.stays
  have back : ∀ h' gn' g' tl₂, KtsTurn (outer.filterMap (·.frame)) g g' → Fr g' L h' m → News g' L h' (inLed own C oC D ys (news ++ tl) ++ tl₂) → Below A₀ base outer g' → KtsDicts (outer.filterMap (·.frame)) g' → AllBare gn' → (∀ q ∈ inLed own C oC D ys (news ++ tl), ∀ t ∈ tl₂, q.1 ≠ t.1) →
      Std A₀ base outer h₀ L m g' h' gn' (inLed own C oC D ys (news ++ (tl ++ tl₂))) ∧ Apart wr C D (news ++ (tl ++ tl₂)) := fun h' gn' g' tl₂ T' F' N' B' D' b' o' =>
    ⟨⟨S.T.trans T', F', fun q hq => N' q (by simpa [inLed, List.append_assoc] using hq), B', D', b'⟩, by rw [← List.append_assoc]; exact ap.grow hw o'⟩
  refine wpAny_mono (EA i own C oC D mc h gn tk g ys tl
    (fun x s₄ => wpAny (model Challenge.rw_bm0005_01.row.prog w) A (call (.builtin "list.append") [.ref D, x]) (fun _ s₅ => K s₅) N s₄) (fun _ s' => K s') N hi hB hO S.F S.N S.B X T S.D S.gens hI ord (here _) ?_ ?_) (fun ok s₃ h₃ => h₃) fun _ _ e => e
  · intro y tl₂ h' gn' tk' g' T' F' N' B' D' b' o' post
    obtain ⟨S', ap'⟩ := back h' gn' g' tl₂ T' F' N' B' D' b' o'
    have zD := S'.N (D, lst ys) (List.mem_append_right _ (List.mem_cons_of_mem _ List.mem_cons_self))
    have inw : ∀ q ∈ own, q.1 ∈ wr := fun q hq => hw ▸ List.mem_map_of_mem hq
    refine append_at (hsz := by show ys.toArray.size ≤ sizeLine; rw [List.size_toArray]; exact hlen _ _ _ hI) zD.1 fun h₅ hs₅ hD₅ => ?_
    have S₅ := (S'.cut (M' := own ++ (C, oC) :: (news ++ (tl ++ tl₂))) fun q hq => by
      rcases List.mem_append.mp hq with hq | hq
      · exact List.mem_append_left _ hq
      · rcases List.mem_cons.mp hq with rfl | hq
        · exact List.mem_append_right _ List.mem_cons_self
        · exact List.mem_append_right _ (List.mem_cons_of_mem _ (List.mem_cons_of_mem _ hq))).but (wr := [D]) (fun b o hb e => hs₅.extBut b o (fun z => hb (List.mem_singleton.mpr z)) e) (fun b hb => by rw [List.mem_singleton.mp hb]; exact zD.2.2) (fun hb => zD.2.1 (List.mem_singleton.mp hb).symm) (fun q hq hb => by
        have hb := List.mem_singleton.mp hb
        rcases List.mem_append.mp hq with hq | hq
        · exact ap'.wd (hb ▸ inw q hq)
        · rcases List.mem_cons.mp hq with rfl | hq
          · exact ap'.cd hb
          · exact (ap'.off q hq).2.2 hb)
    have S₆ := S₅.add (hD₅.trans (congrArg some (lst_snoc ys y))) zD.2.1 zD.2.2
    refine k (ys ++ [y]) (tl ++ tl₂) oC mc h₅ gn' tk' g' hO T' (S₆.cut fun q hq => ?_) ap' (ord_add ord o' fun q hq => ?_) post
    · rcases List.mem_append.mp hq with hq | hq
      · exact List.mem_cons_of_mem _ (List.mem_append_left _ hq)
      · rcases List.mem_cons.mp hq with rfl | hq
        · exact List.mem_cons_of_mem _ (List.mem_append_right _ List.mem_cons_self)
        · rcases List.mem_cons.mp hq with rfl | hq
          · exact List.mem_cons_self
          · exact List.mem_cons_of_mem _ (List.mem_append_right _ (List.mem_cons_of_mem _ hq))
    · exact List.mem_append_right _ (List.mem_cons_of_mem _ (List.mem_cons_of_mem _ (List.mem_append.mpr (.inl hq))))
  · intro y tl₂ h' gn' tk' g' T' F' N' B' D' b' o' post
    obtain ⟨S', ap'⟩ := back h' gn' g' tl₂ T' F' N' B' D' b' o'
    exact k ys (tl ++ tl₂) oC mc h' gn' tk' g' hO T' S' ap' (ord_add ord o' fun q hq => List.mem_append_right _ (List.mem_cons_of_mem _ (List.mem_cons_of_mem _ (List.mem_append.mpr (.inl hq))))) post

/-- the end of a comprehension that is a value -/
def DoneE (A₀ : Around) (base : Heap) (outer : List Env) (L : Addr) (m : Str → Option Value) (g₁ : Heap) (news : Led) (s : Shared) (Q : Value → Shared → Prop) (Post : Led → List Value → Prop) : Prop :=
  ∀ D g h gn tk ys tl, KtsTurn (outer.filterMap (·.frame)) g₁ g → Fr g L h m → News g L h ((D, lst ys) :: (news ++ tl)) → Below A₀ base outer g → KtsDicts (outer.filterMap (·.frame)) g → AllBare gn → (∀ q ∈ news, q.1 < D) → (∀ q ∈ news, ∀ t ∈ tl, q.1 ≠ t.1) → Post tl ys → Q (.ref D) ⟨h, gn, s.drawn, tk, s.os⟩
/-- the end of a comprehension that a name is bound to -/
def DoneA (A₀ : Around) (base : Heap) (outer : List Env) (L : Addr) (m : Str → Option Value) (g₁ : Heap) (news : Led) (s : Shared) (y : Str) (Q : Value → Shared → Prop) (Post : Led → List Value → Prop) : Prop :=
  ∀ D g h gn tk ys tl, KtsTurn (outer.filterMap (·.frame)) g₁ g → Fr g L h (fun z => if z = y then some (.ref D) else m z) → News g L h ((D, lst ys) :: (news ++ tl)) → Below A₀ base outer g → KtsDicts (outer.filterMap (·.frame)) g → AllBare gn → (∀ q ∈ news, q.1 < D) → (∀ q ∈ news, ∀ t ∈ tl, q.1 ≠ t.1) → Post tl ys → Q .none ⟨h, gn, s.drawn, tk, s.os⟩

theorem done_e {g₁ : Heap} {news : Led} {Q : Value → Shared → Prop} {Post : Led → List Value → Prop} (k : DoneE A₀ base outer L m g₁ news s Q Post) {D C : Addr} {g h : Heap} {gn : Array GenState} {tk : Nat} {ys : List Value} {tl : Led} {mc : Str → Option Value} {M : Model}
    (T : KtsTurn (outer.filterMap (·.frame)) g₁ g) (S : Std A₀ base outer h₀ L m g h gn ((D, lst ys) :: (news ++ tl))) (off : ∀ q ∈ (D, lst ys) :: (news ++ tl), q.1 ≠ C) (hCL : C ≠ L) (hC₀ : g.get? C = none) (hn : h.Ns C mc) (hlt : ∀ q ∈ news, q.1 < D) (ord : ∀ q ∈ news, ∀ t ∈ tl, q.1 ≠ t.1) (post : Post tl ys) :
    compPost M A E none Q (.ref D) C (.ok .next) ⟨h, gn, s.drawn, tk, s.os⟩ := by
  refine ⟨mc, hn, fun h'' hs'' => ?_⟩
  have S' := S.but (wr := [C]) (h' := h'') (fun b o hb e => hs''.extBut b o (fun z => hb (List.mem_singleton.mpr z)) e) (fun b hb => by rw [List.mem_singleton.mp hb]; exact hC₀) (fun hb => hCL (List.mem_singleton.mp hb).symm) (fun q hq hb => off q hq (List.mem_singleton.mp hb))
  exact k D g h'' gn tk ys tl T S'.F S'.N S'.B S'.D S'.gens hlt ord post

theorem done_a {env : Env} {y : Str} {py : Pos} {g₁ : Heap} {news : Led} {Q : Value → Shared → Prop} {Post : Led → List Value → Prop} (hLe : env.locals = L) (hy : env.kindOf y = some .local) (hp : (env.scope.kind == .class || (env.scope.kind == .module && env.locals != env.globals)) = false)
    (k : DoneA A₀ base outer L m g₁ news s y Q Post) {D C : Addr} {g h : Heap} {gn : Array GenState} {tk : Nat} {ys : List Value} {tl : Led} {mc : Str → Option Value} {M : Model}
    (T : KtsTurn (outer.filterMap (·.frame)) g₁ g) (S : Std A₀ base outer h₀ L m g h gn ((D, lst ys) :: (news ++ tl))) (off : ∀ q ∈ (D, lst ys) :: (news ++ tl), q.1 ≠ C) (hCL : C ≠ L) (hC₀ : g.get? C = none) (hn : h.Ns C mc) (hlt : ∀ q ∈ news, q.1 < D) (ord : ∀ q ∈ news, ∀ t ∈ tl, q.1 ≠ t.1) (post : Post tl ys) :
    compPost M A E (some (assign (.Name y py) env)) Q (.ref D) C (.ok .next) ⟨h, gn, s.drawn, tk, s.os⟩ := by
  subst hLe
  show wpAny _ A (assign (.Name y py) env (.ref D)) _ _ _
  refine wpAny_assign_Name (wpAny_storeName_local hy S.F.ns (fun h₂ hn₂ hs₂ => ?_) hp)
  have gL : g.get? env.locals = none := kts_self S.F
  refine ⟨mc, hn.sameBut hs₂ hCL, fun h'' hs'' => ?_⟩
  have hk : ∀ b o, b ≠ C → b ≠ env.locals → h.get? b = some o → h''.get? b = some o := fun b o h1 h2 e => hs''.extBut b o h1 (hs₂.extBut b o h2 e)
  refine k D g h'' gn _ ys tl T ⟨hn₂.sameBut hs'' (Ne.symm hCL), fun b o e => hk b o (fun z => ?_) (fun z => ?_) (S.F.keep b o e), S.F.above⟩ (fun q hq => ⟨hk _ _ (off q hq) (S.N q hq).2.1 (S.N q hq).1, (S.N q hq).2⟩) S.B S.D S.gens hlt ord post
  · rw [z, hC₀] at e; cases e
  · rw [z, gL] at e; cases e
end
section
variable {w : World} {p : Program} {loose : List Str} {mean : ExcName → Option Value} {mg mb : Str → Option Value}
  {A A₀ : Around} {g₁ base : Heap} {outer : List Env} {L : Addr} {m : Str → Option Value} {s : Shared} {E : Value → Shared → Prop}

theorem comp_e {M : Model} {elt iter target : Expr} {ifs : List Expr} {gs : List Comprehension} {scope : Scope} {cl : List (Str × Addr)} {pos : Pos} {env : Env} {Q : Value → Shared → Prop}
    (hclos : closureFor scope env = pure cl) (hkind : scope.kind = .function) (hnames : ∀ y ∈ scope.names, y.2 = .local → scope.names.lookup y.1 = some .local)
    (hs : ∀ x, foldedSetIterable iter env x = pure x)
    (h : wpAny M A (eval iter env) (fun x s₁ => wpAny M A (pyIter x) (fun it s₂ => wpAny M A (newList []) (fun acc s₃ =>
      wpAny M A (newFunctionEnv scope env.globals cl [] env.qual none .none (some env)) (fun cenv s₄ =>
        codeAny M A (.compStart (.ListComp elt (⟨target, iter, ifs, 0⟩ :: gs) scope pos) 0 it acc { cenv with scope := relabel scope env }) (compPost M A E none Q acc cenv.locals) s₄) E s₃) E s₂) E s₁) E s) :
    wpAny M A (eval (.ListComp elt (⟨target, iter, ifs, 0⟩ :: gs) scope pos) env) Q E s := by
  rw [eval_ListComp]
  exact wpAny_comprehension_free (use := none) rfl hs hclos hkind hnames h
theorem comp_a {M : Model} {elt iter target : Expr} {ifs : List Expr} {gs : List Comprehension} {scope : Scope} {cl : List (Str × Addr)} {pos spos : Pos} {env : Env} {y : Str} {py : Pos} {Q : Flow → Shared → Prop}
    (hsw : swapsWith (.ListComp elt (⟨target, iter, ifs, 0⟩ :: gs) scope pos) (some (.Name y py)) spos.line env = pure true)
    (hclos : closureFor scope env = pure cl) (hkind : scope.kind = .function) (hnames : ∀ y ∈ scope.names, y.2 = .local → scope.names.lookup y.1 = some .local)
    (hs : ∀ x, foldedSetIterable iter env x = pure x)
    (h : wpAny M A (eval iter env) (fun x s₁ => wpAny M A (pyIter x) (fun it s₂ => wpAny M A (newList []) (fun acc s₃ =>
      wpAny M A (newFunctionEnv scope env.globals cl [] env.qual none .none (some env)) (fun cenv s₄ =>
        codeAny M A (.compStart (.ListComp elt (⟨target, iter, ifs, 0⟩ :: gs) scope pos) 0 it acc { cenv with scope := relabel scope env }) (compPost M A E (some (assign (.Name y py) env)) (fun _ s' => Q .next s') acc cenv.locals) s₄) E s₃) E s₂) E s₁) E s) :
    wpAny M A (exec (.Assign [.Name y py] (.ListComp elt (⟨target, iter, ifs, 0⟩ :: gs) scope pos) spos) env) Q E s := by
  rw [exec_Assign_Name_used _ _ _ _ hsw]
  refine wpAny_bind (wpAny_standAt (wpAny_bind ?_))
  show wpAny _ A (do let _ ← comprehension (.ListComp elt (⟨target, iter, ifs, 0⟩ :: gs) scope pos) scope env _ (newList []) false (eval iter env) (some (assign (.Name y py) env))) _ _ s
  exact wpAny_bind (wpAny_mono (wpAny_comprehension_free (use := some (assign (.Name y py) env)) (Q := fun _ s' => Q .next s') rfl hs hclos hkind hnames h) (fun _ s' hq => wpAny_pure (wpAny_pure hq)) fun _ _ e => e)

/-- what the end of a comprehension's block has to meet -/
def BlockEnd (A₀ : Around) (base : Heap) (outer : List Env) (L : Addr) (m : Str → Option Value) (g₁ : Heap) (news : Led) (s : Shared) (n : Nat) (Inv : Nat → List Value → Led → Prop) (RR : Value → Addr → Result → Shared → Prop) : Prop :=
  ∀ D C g h gn tk ys tl mc, KtsTurn (outer.filterMap (·.frame)) g₁ g → Std A₀ base outer g₁ L m g h gn ((D, lst ys) :: (news ++ tl)) → (∀ q ∈ (D, lst ys) :: (news ++ tl), q.1 ≠ C) → C ≠ L → g.get? C = none → h.Ns C mc → (∀ q ∈ news, q.1 < D) → (∀ q ∈ news, ∀ t ∈ tl, q.1 ≠ t.1) → Inv n ys tl → RR (.ref D) C (.ok .next) ⟨h, gn, s.drawn, tk, s.os⟩
theorem blockEnd_e {M : Model} {news : Led} {n : Nat} {Inv : Nat → List Value → Led → Prop} {Q : Value → Shared → Prop} (k : DoneE A₀ base outer L m g₁ news s Q (fun tl ys => Inv n ys tl)) : BlockEnd A₀ base outer L m g₁ news s n Inv (compPost M A E none Q) :=
  fun _ _ _ _ _ _ _ _ _ hT hS off hCL hC hn hlt ord hI => done_e k hT hS off hCL hC hn hlt ord hI
theorem blockEnd_a {M : Model} {news : Led} {n : Nat} {Inv : Nat → List Value → Led → Prop} {env : Env} {y : Str} {py : Pos} {Q : Value → Shared → Prop} (hLe : env.locals = L) (hy : env.kindOf y = some .local) (hp : (env.scope.kind == .class || (env.scope.kind == .module && env.locals != env.globals)) = false)
    (k : DoneA A₀ base outer L m g₁ news s y Q (fun tl ys => Inv n ys tl)) : BlockEnd A₀ base outer L m g₁ news s n Inv (compPost M A E (some (assign (.Name y py) env)) Q) :=
  fun _ _ _ _ _ _ _ _ _ hT hS off hCL hC hn hlt ord hI => done_a hLe hy hp k hT hS off hCL hC hn hlt ord hI

theorem assign_name {prog : Program} {scope : Scope} {cl : List (Str × Addr)} {env : Env} {x : Str} {px : Pos} (hkind : scope.kind = .function) (hx : scope.names.lookup x = some .local) (C : Addr) (v : Value) (s : Shared) (mc : Str → Option Value) (Q : Unit → Shared → Prop) (E : Value → Shared → Prop) (hn : s.heap.Ns C mc)
    (k : ∀ h' tk mc', h'.Ns C mc' → mc' x = some v → (∀ b o, b ≠ C → s.heap.get? b = some o → h'.get? b = some o) → Q () { s with heap := h', toks := tk }) : wpAny (model prog w) A (assign (.Name x px) (compEnvC scope cl C env) v) Q E s := by
  refine wpAny_assign_Name (wpAny_storeName_local (lookup_relabel_local hx) hn (fun h₂ hn₂ hs₂ => ?_) (by simp [compEnvC, relabel, hkind]))
  exact k h₂ _ _ hn₂ (by simp) fun b o hb e => hs₂.extBut b o hb e
theorem isList_of {h : Heap} {a : Addr} {vs : List Value} {n : Nat} (e : h.get? a = some (lstO vs n)) : h.IsList a vs.toArray := ⟨_, e, rfl, n, rfl⟩
theorem isTup_of {h : Heap} {a : Addr} {vs : List Value} {n : Nat} (e : h.get? a = some (tupO vs n)) : h.IsTuple a vs.toArray := ⟨_, e, rfl, n, rfl⟩

/-- any source: an iterator made, its turns known -/
theorem src_any {elt iter target : Expr} {ifs : List Expr} {scope : Scope} {cl : List (Str × Addr)} {pos : Pos} {env : Env} {news own₀ : Led} {Inv : Nat → List Value → Led → Prop} {RR : Value → Addr → Result → Shared → Prop} {J : Addr} {fp wr : List Addr} {n : Nat} {P Md : Nat → Value → Heap → Prop} {St : Nat → Heap → Prop} {Bnd : Nat → (Str → Option Value) → Prop}
    (B : Below A₀ base outer g₁) (F : Fr g₁ L s.heap m) (XB : (hd.heap_1 w.params).In base) (TB : Top p loose mean mg mb base) (Dk : KtsDicts (outer.filterMap (·.frame)) g₁) (N : News g₁ L s.heap (own₀ ++ news)) (hb : AllBare s.gens)
    (W : KTurns Challenge.rw_bm0005_01.row.prog w A target J fp wr n P Md St)
    (hself : ∀ i (s : Shared) (Q : Value → Shared → Prop) (E : Value → Shared → Prop), St i s.heap → Q (.ref J) s → wpAny (model Challenge.rw_bm0005_01.row.prog w) A (pyIter (.ref J)) Q E s)
    (hfp : ∀ b ∈ fp, b ∈ wr ∨ ∃ o, (b, o) ∈ news) (hJo : ∀ i h, St i h → ∀ b ∈ wr, ∃ o, h.get? b = some o)
    (hassign : ∀ C i v (s : Shared) (mc : Str → Option Value) (Q : Unit → Shared → Prop) (E : Value → Shared → Prop), P i v s.heap → (∀ q ∈ news, s.heap.get? q.1 = some q.2) → s.heap.Ns C mc →
      (∀ h' tk mc', h'.Ns C mc' → Bnd i mc' → (∀ b o, b ≠ C → s.heap.get? b = some o → h'.get? b = some o) → Q () { s with heap := h', toks := tk }) → wpAny (model Challenge.rw_bm0005_01.row.prog w) A (assign target (compEnvC scope cl C env) v) Q E s)
    (hcell : ∀ y ∈ scope.names, y.2 ≠ .cell) (hkind : scope.kind = .function) (hst : St 0 s.heap) (hown : own₀.map (·.1) = wr) (hoff : ∀ q ∈ news, q.1 ∉ wr)
    (hlen : ∀ i ys tl, Inv i ys tl → ys.length ≤ sizeLine) (hI : Inv 0 [] [])
    (EA : EltAt w p loose mean mg mb A A₀ base outer g₁ L m ifs elt scope cl env Bnd n news Inv s)
    (fin : BlockEnd A₀ base outer L m g₁ news s n Inv RR) :
    wpAny (model Challenge.rw_bm0005_01.row.prog w) A (newList []) (fun acc s₃ => wpAny (model Challenge.rw_bm0005_01.row.prog w) A (newFunctionEnv scope env.globals cl [] env.qual none .none (some env)) (fun cenv s₄ =>
      codeAny (model Challenge.rw_bm0005_01.row.prog w) A (.compStart (.ListComp elt [⟨target, iter, ifs, 0⟩] scope pos) 0 (.ref J) acc { cenv with scope := relabel scope env }) (RR acc cenv.locals) s₄) E s₃) E s := by
  refine comp_block (h₀ := g₁) (body := fun C D => emitB _ w A ifs elt (compEnvC scope cl C env) (.ref D)) W (fun C D R => emits_one) hself hfp hJo hassign
    hcell hkind (fun C D i own oC mc h gn tk g ys tl K N _ hi hw hB hO _ hS hA hI k ord => ?_) hst hown ⟨.refl, F, N, B, Dk, hb⟩ hoff hI
    (fun D C g h gn tk ys tl mc hT hS off hCL hC hn hlt ord hI => fin D C g h gn tk ys tl mc hT hS off hCL hC hn hlt ord hI)
  exact elt_body XB TB EA hlen _ C D i own hw oC mc h gn tk g ys tl K N hi hB hO hS hA hI k ord

theorem src_list {elt iter : Expr} {x : Str} {px : Pos} {ifs : List Expr} {scope : Scope} {cl : List (Str × Addr)} {pos : Pos} {env : Env} {news : Led} {Inv : Nat → List Value → Led → Prop} {RR : Value → Addr → Result → Shared → Prop} {ax : Addr} {vs : List Value} {nn : Nat}
    (B : Below A₀ base outer g₁) (F : Fr g₁ L s.heap m) (XB : (hd.heap_1 w.params).In base) (TB : Top p loose mean mg mb base) (Dk : KtsDicts (outer.filterMap (·.frame)) g₁) (N : News g₁ L s.heap news) (hb : AllBare s.gens) (hh : A.handled = none)
    (hm : (ax, lstO vs nn) ∈ news) (hcell : ∀ y ∈ scope.names, y.2 ≠ .cell) (hkind : scope.kind = .function) (hx : scope.names.lookup x = some .local)
    (hlen : ∀ i ys tl, Inv i ys tl → ys.length ≤ sizeLine) (hI : Inv 0 [] [])
    (EA : EltAt w p loose mean mg mb A A₀ base outer g₁ L m ifs elt scope cl env (fun i mc => ∃ v, vs[i]? = some v ∧ mc x = some v) vs.length news Inv s)
    (fin : BlockEnd A₀ base outer L m g₁ news s vs.length Inv RR) :
    wpAny (model Challenge.rw_bm0005_01.row.prog w) A (pyIter (.ref ax)) (fun it s₂ => wpAny (model Challenge.rw_bm0005_01.row.prog w) A (newList []) (fun acc s₃ => wpAny (model Challenge.rw_bm0005_01.row.prog w) A (newFunctionEnv scope env.globals cl [] env.qual none .none (some env)) (fun cenv s₄ =>
      codeAny (model Challenge.rw_bm0005_01.row.prog w) A (.compStart (.ListComp elt [⟨.Name x px, iter, ifs, 0⟩] scope pos) 0 it acc { cenv with scope := relabel scope env }) (RR acc cenv.locals) s₄) E s₃) E s₂) E s := by
  have hl := isList_of (N _ hm).1
  have hlt : ax < s.heap.objs.size := Heap.lt_size (N _ hm).1
  refine wpAny_pyIter_list hl ?_
  have up : ∀ b o, s.heap.get? b = some o → (s.heap.push { cls := .type "list_iterator", data := .fields #[.ref ax, .int 0 0] }).get? b = some o := fun b o e => Heap.get?_push_of_some _ e
  have S₀ : Std A₀ base outer g₁ L m g₁ s.heap s.gens news := ⟨.refl, F, N, B, Dk, hb⟩
  have S₁ := (S₀.grow up).add (Heap.get?_push_size s.heap (o := { cls := .type "list_iterator", data := .fields #[.ref ax, .int 0 0] }) rfl) (Nat.ne_of_gt F.ns.lt) (next_is_new F)
  have W := Walks.list (prog := Challenge.rw_bm0005_01.row.prog) (w := w) hh s.heap.objs.size ax (Nat.ne_of_lt hlt) vs.toArray
  refine src_any (s := { s with heap := s.heap.push { cls := .type "list_iterator", data := .fields #[.ref ax, .int 0 0] } }) (own₀ := [_]) (n := vs.toArray.size) (Bnd := fun i mc => ∃ v, vs[i]? = some v ∧ mc x = some v) B S₁.F XB TB Dk S₁.N hb
    (KTurns.ofWalks (target := .Name x px) W fun i v s' Q E _ hQ => wpAny_pure hQ) (fun i s' Q E st hQ => W.self i s' Q E st hQ)
    (fun b hb => ?_) (fun i h st b hb => by rw [List.mem_singleton.mp hb]; obtain ⟨o, e, _⟩ := st.1; exact ⟨o, e⟩) (fun C i v s mc Q E hP _ hn k => assign_name hkind hx C v s mc Q E hn fun h' tk mc' hn' hx' hk => k h' tk mc' hn' ⟨v, by simpa using hP, hx'⟩ hk)
    hcell hkind ⟨⟨_, Heap.get?_push_size _ rfl, rfl, rfl⟩, hl.push _⟩ rfl (fun q hq hb => absurd (List.mem_singleton.mp hb) (Nat.ne_of_lt (Heap.lt_size (N q hq).1))) hlen hI EA fin
  rcases List.mem_cons.mp hb with rfl | hb
  · exact .inl (List.mem_singleton.mpr rfl)
  · rw [List.mem_singleton.mp hb]; exact .inr ⟨_, hm⟩
end
end
section
open PyProof.Rows.LCg
section
variable {w : World} {p : Program} {loose : List Str} {mean : ExcName → Option Value} {mg mb : Str → Option Value}
  {A A₀ : Around} {g₁ base : Heap} {outer : List Env} {L : Addr} {m : Str → Option Value} {s : Shared} {E : Value → Shared → Prop}

theorem src_tuple {elt iter : Expr} {x : Str} {px : Pos} {ifs : List Expr} {scope : Scope} {cl : List (Str × Addr)} {pos : Pos} {env : Env} {news : Led} {Inv : Nat → List Value → Led → Prop} {RR : Value → Addr → Result → Shared → Prop} {ax : Addr} {vs : List Value} {nn : Nat}
    (B : Below A₀ base outer g₁) (F : Fr g₁ L s.heap m) (XB : (hd.heap_1 w.params).In base) (TB : Top p loose mean mg mb base) (Dk : KtsDicts (outer.filterMap (·.frame)) g₁) (N : News g₁ L s.heap news) (hb : AllBare s.gens) (hh : A.handled = none)
    (hm : (ax, tupO vs nn) ∈ news) (hcell : ∀ y ∈ scope.names, y.2 ≠ .cell) (hkind : scope.kind = .function) (hx : scope.names.lookup x = some .local)
    (hlen : ∀ i ys tl, Inv i ys tl → ys.length ≤ sizeLine) (hI : Inv 0 [] [])
    (EA : EltAt w p loose mean mg mb A A₀ base outer g₁ L m ifs elt scope cl env (fun i mc => ∃ v, vs[i]? = some v ∧ mc x = some v) vs.length news Inv s)
    (fin : BlockEnd A₀ base outer L m g₁ news s vs.length Inv RR) :
    wpAny (model Challenge.rw_bm0005_01.row.prog w) A (pyIter (.ref ax)) (fun it s₂ => wpAny (model Challenge.rw_bm0005_01.row.prog w) A (newList []) (fun acc s₃ => wpAny (model Challenge.rw_bm0005_01.row.prog w) A (newFunctionEnv scope env.globals cl [] env.qual none .none (some env)) (fun cenv s₄ =>
      codeAny (model Challenge.rw_bm0005_01.row.prog w) A (.compStart (.ListComp elt [⟨.Name x px, iter, ifs, 0⟩] scope pos) 0 it acc { cenv with scope := relabel scope env }) (RR acc cenv.locals) s₄) E s₃) E s₂) E s := by
  have hl := isTup_of (N _ hm).1
  have hlt : ax < s.heap.objs.size := Heap.lt_size (N _ hm).1
  refine wpAny_pyIter_tuple hl ?_
  have up : ∀ b o, s.heap.get? b = some o → (s.heap.push { cls := .type "tuple_iterator", data := .fields #[.ref ax, .int 0 0] }).get? b = some o := fun b o e => Heap.get?_push_of_some _ e
  have S₀ : Std A₀ base outer g₁ L m g₁ s.heap s.gens news := ⟨.refl, F, N, B, Dk, hb⟩
  have S₁ := (S₀.grow up).add (Heap.get?_push_size s.heap (o := { cls := .type "tuple_iterator", data := .fields #[.ref ax, .int 0 0] }) rfl) (Nat.ne_of_gt F.ns.lt) (next_is_new F)
  have W := Walks.tuple (prog := Challenge.rw_bm0005_01.row.prog) (w := w) hh s.heap.objs.size ax (Nat.ne_of_lt hlt) vs.toArray
  refine src_any (s := { s with heap := s.heap.push { cls := .type "tuple_iterator", data := .fields #[.ref ax, .int 0 0] } }) (own₀ := [_]) (n := vs.toArray.size) (Bnd := fun i mc => ∃ v, vs[i]? = some v ∧ mc x = some v) B S₁.F XB TB Dk S₁.N hb
    (KTurns.ofWalks (target := .Name x px) W fun i v s' Q E _ hQ => wpAny_pure hQ) (fun i s' Q E st hQ => W.self i s' Q E st hQ)
    (fun b hb => ?_) (fun i h st b hb => by rw [List.mem_singleton.mp hb]; obtain ⟨o, e, _⟩ := st.1; exact ⟨o, e⟩) (fun C i v s mc Q E hP hq hn k => assign_name hkind hx C v s mc Q E hn fun h' tk mc' hn' hx' hk => k h' tk mc' hn' ⟨v, by simpa using hP, hx'⟩ hk)
    hcell hkind ⟨⟨_, Heap.get?_push_size _ rfl, rfl, rfl⟩, hl.at fun o e => up _ _ e⟩ rfl (fun q hq hb => absurd (List.mem_singleton.mp hb) (Nat.ne_of_lt (Heap.lt_size (N q hq).1))) hlen hI EA fin
  rcases List.mem_cons.mp hb with rfl | hb
  · exact .inl (List.mem_singleton.mpr rfl)
  · rw [List.mem_singleton.mp hb]; exact .inr ⟨_, hm⟩
/-- the items are pairs of the ledger -/
def PairsIn (news : Led) (vs : List Value) (xys : List (Value × Value)) : Prop := ∀ (i : Nat) (v : Value), vs[i]? = some v → ∃ (T : Addr) (n : Nat) (x y : Value), v = Value.ref T ∧ xys[i]? = some (x, y) ∧ (T, tupO [x, y] n) ∈ news

theorem pair_turns {prog : Program} {elts : List Expr} {kk : Nat} {tp : Pos} (hh : A.handled = none) (J ax : Addr) (hne : ax ≠ J) (vs : List Value) (hv : ∀ (i : Nat) (v : Value), vs[i]? = some v → ∃ T : Addr, v = Value.ref T) :
    KTurns prog w A (.Tuple elts kk tp) J [J, ax] [J] vs.toArray.size (fun i v _ => vs[i]? = some v) (fun i v h => vs[i]? = some v ∧ (h.IsListIter J ax (i + 1) ∧ h.IsList ax vs.toArray)) (fun i h => h.IsListIter J ax i ∧ h.IsList ax vs.toArray) where
  sub := (Walks.list (prog := prog) (w := w) hh J ax hne vs.toArray).sub
  frame := (Walks.list (prog := prog) (w := w) hh J ax hne vs.toArray).frame
  item := fun i s Q E hi st hQ => (Walks.list (prog := prog) (w := w) hh J ax hne vs.toArray).item i s Q E hi st fun v h' tk hP st' hk => hQ v h' tk ⟨by simpa using hP, st'⟩ hk
  go := fun i v s Q E hm hQ => by
    obtain ⟨T, rfl⟩ := hv i v hm.1
    exact wpAny_letOwnedTupleGo_listiter hm.2.1 (hQ s.heap hm.1 hm.2 fun _ _ _ e => e)
  done := (Walks.list (prog := prog) (w := w) hh J ax hne vs.toArray).done

theorem assign_pair {prog : Program} {scope : Scope} {cl : List (Str × Addr)} {env : Env} {a b : Str} {pa pb tp : Pos} {kk : Nat} (hh : A.handled = none) (hkind : scope.kind = .function) (ha : scope.names.lookup a = some .local) (hbn : scope.names.lookup b = some .local) (hab : a ≠ b) (C T : Addr) (x y : Value) (n : Nat) (s : Shared) (mc : Str → Option Value) (Q : Unit → Shared → Prop) (E : Value → Shared → Prop) (hT : s.heap.get? T = some (tupO [x, y] n)) (hn : s.heap.Ns C mc)
    (k : ∀ h' tk mc', h'.Ns C mc' → (mc' a = some x ∧ mc' b = some y) → (∀ b o, b ≠ C → s.heap.get? b = some o → h'.get? b = some o) → Q () { s with heap := h', toks := tk }) : wpAny (model prog w) A (assign (.Tuple [.Name a pa, .Name b pb] kk tp) (compEnvC scope cl C env) (.ref T)) Q E s :=
  kcp_assign (env := compEnvC scope cl C env) hh (isTup_of hT) (lookup_relabel_local ha) (lookup_relabel_local hbn) (by simp [compEnvC, relabel, hkind]) hn fun h' tk hn' hk => k h' tk _ hn' ⟨by simp [hab], by simp⟩ hk

theorem src_pairs {elt iter : Expr} {x₁ x₂ : Str} {px₁ px₂ tp : Pos} {kk : Nat} {ifs : List Expr} {scope : Scope} {cl : List (Str × Addr)} {pos : Pos} {env : Env} {news : Led} {Inv : Nat → List Value → Led → Prop} {RR : Value → Addr → Result → Shared → Prop} {ax : Addr} {vs : List Value} {nn : Nat} {xys : List (Value × Value)}
    (B : Below A₀ base outer g₁) (F : Fr g₁ L s.heap m) (XB : (hd.heap_1 w.params).In base) (TB : Top p loose mean mg mb base) (Dk : KtsDicts (outer.filterMap (·.frame)) g₁) (N : News g₁ L s.heap news) (hb : AllBare s.gens) (hh : A.handled = none)
    (hm : (ax, lstO vs nn) ∈ news) (hp : PairsIn news vs xys) (hcell : ∀ y ∈ scope.names, y.2 ≠ .cell) (hkind : scope.kind = .function) (hx₁ : scope.names.lookup x₁ = some .local) (hx₂ : scope.names.lookup x₂ = some .local) (hxx : x₁ ≠ x₂)
    (hlen : ∀ i ys tl, Inv i ys tl → ys.length ≤ sizeLine) (hI : Inv 0 [] [])
    (EA : EltAt w p loose mean mg mb A A₀ base outer g₁ L m ifs elt scope cl env (fun i mc => ∃ x y, xys[i]? = some (x, y) ∧ mc x₁ = some x ∧ mc x₂ = some y) vs.length news Inv s)
    (fin : BlockEnd A₀ base outer L m g₁ news s vs.length Inv RR) :
    wpAny (model Challenge.rw_bm0005_01.row.prog w) A (pyIter (.ref ax)) (fun it s₂ => wpAny (model Challenge.rw_bm0005_01.row.prog w) A (newList []) (fun acc s₃ => wpAny (model Challenge.rw_bm0005_01.row.prog w) A (newFunctionEnv scope env.globals cl [] env.qual none .none (some env)) (fun cenv s₄ =>
      codeAny (model Challenge.rw_bm0005_01.row.prog w) A (.compStart (.ListComp elt [⟨.Tuple [.Name x₁ px₁, .Name x₂ px₂] kk tp, iter, ifs, 0⟩] scope pos) 0 it acc { cenv with scope := relabel scope env }) (RR acc cenv.locals) s₄) E s₃) E s₂) E s := by
  have hl := isList_of (N _ hm).1
  have hlt : ax < s.heap.objs.size := Heap.lt_size (N _ hm).1
  refine wpAny_pyIter_list hl ?_
  have up : ∀ b o, s.heap.get? b = some o → (s.heap.push { cls := .type "list_iterator", data := .fields #[.ref ax, .int 0 0] }).get? b = some o := fun b o e => Heap.get?_push_of_some _ e
  have S₀ : Std A₀ base outer g₁ L m g₁ s.heap s.gens news := ⟨.refl, F, N, B, Dk, hb⟩
  have S₁ := (S₀.grow up).add (Heap.get?_push_size s.heap (o := { cls := .type "list_iterator", data := .fields #[.ref ax, .int 0 0] }) rfl) (Nat.ne_of_gt F.ns.lt) (next_is_new F)
  have W := Walks.list (prog := Challenge.rw_bm0005_01.row.prog) (w := w) hh s.heap.objs.size ax (Nat.ne_of_lt hlt) vs.toArray
  refine src_any (s := { s with heap := s.heap.push { cls := .type "list_iterator", data := .fields #[.ref ax, .int 0 0] } }) (own₀ := [_]) (n := vs.toArray.size) (Bnd := fun i mc => ∃ x y, xys[i]? = some (x, y) ∧ mc x₁ = some x ∧ mc x₂ = some y) B S₁.F XB TB Dk S₁.N hb
    (pair_turns hh s.heap.objs.size ax (Nat.ne_of_lt hlt) vs fun i v e => by obtain ⟨T, _, _, _, h, _⟩ := hp i v e; exact ⟨T, h⟩) (fun i s' Q E st hQ => W.self i s' Q E st hQ)
    (fun b hb => ?_) (fun i h st b hb => by rw [List.mem_singleton.mp hb]; obtain ⟨o, e, _⟩ := st.1; exact ⟨o, e⟩) (fun C i v s mc Q E hP hq hn k => by
      obtain ⟨T, n, x, y, rfl, hxy, hT⟩ := hp i v hP
      exact assign_pair hh hkind hx₁ hx₂ hxx C T x y n s mc Q E (hq _ hT) hn fun h' tk mc' hn' hx' hk => k h' tk mc' hn' ⟨x, y, hxy, hx'⟩ hk)
    hcell hkind ⟨⟨_, Heap.get?_push_size _ rfl, rfl, rfl⟩, hl.push _⟩ rfl (fun q hq hb => absurd (List.mem_singleton.mp hb) (Nat.ne_of_lt (Heap.lt_size (N q hq).1))) hlen hI EA fin
  rcases List.mem_cons.mp hb with rfl | hb
  · exact .inl (List.mem_singleton.mpr rfl)
  · rw [List.mem_singleton.mp hb]; exact .inr ⟨_, hm⟩
/-- the outer clause's turn: the inner clause's list -/
def OutAt (w : World) (p : Program) (loose : List Str) (mean : ExcName → Option Value) (mg mb : Str → Option Value) (A A₀ : Around) (base : Heap) (outer : List Env) (h₀ : Heap) (L : Addr) (m : Str → Option Value) (iter₂ : Expr) (scope : Scope) (cl : List (Str × Addr)) (env : Env)
    (Bnd : Nat → (Str → Option Value) → Prop) (n : Nat) (news : Led) (Inv : Nat → List Value → Led → Prop) (s : Shared) : Prop :=
  ∀ i own C oC D mc h gn tk g ys tl (Q : Value → Shared → Prop) (E' : Value → Shared → Prop), i < n → Bnd i mc → NsObj oC mc → Fr g L h m → News g L h (inLed own C oC D ys (news ++ tl)) → Below A₀ base outer g → (hd.heap_1 w.params).In g → Top p loose mean mg mb g → KtsDicts (outer.filterMap (·.frame)) g → AllBare gn → Inv i ys tl →
    (∀ q ∈ news, ∀ t ∈ tl, q.1 ≠ t.1) → Here (news ++ tl) →
    Hands w p loose mean mg mb A₀ base outer L m g (inLed own C oC D ys (news ++ tl)) s Q (fun tl₂ r => ∃ ax vs nn, r = .ref ax ∧ (ax, lstO vs nn) ∈ news ++ (tl ++ tl₂) ∧ (ys ++ vs).length ≤ sizeLine ∧ Inv (i + 1) (ys ++ vs) (tl ++ tl₂)) →
    wpAny (model Challenge.rw_bm0005_01.row.prog w) A (eval iter₂ (compEnvC scope cl C env)) Q E' ⟨h, gn, s.drawn, tk, s.os⟩

theorem compStart_in {prog : Program} {elt target target₂ iter iter₂ ifs ifs₂ rest scope pos it acc env} {R : Result → Shared → Prop}
    (h0 : codeAny (model prog w) A (.compLoop (.ListComp elt (⟨target, iter, ifs, 0⟩ :: ⟨target₂, iter₂, ifs₂, 0⟩ :: rest) scope pos) 1 it acc env) R s)
    (h : wpAny (model prog w) A (pyIter it) (fun it' s' => codeAny (model prog w) A (.compLoop (.ListComp elt (⟨target, iter, ifs, 0⟩ :: ⟨target₂, iter₂, ifs₂, 0⟩ :: rest) scope pos) 1 it' acc env) R s')
      (notedBy (model prog w) A env fun x s' => R (.error x) s') s) :
    codeAny (model prog w) A (.compStart (.ListComp elt (⟨target, iter, ifs, 0⟩ :: ⟨target₂, iter₂, ifs₂, 0⟩ :: rest) scope pos) 1 it acc env) R s := by
  refine codeAny_of_tree ?_
  show wpAny _ _ ((compStart (.ListComp elt (⟨target, iter, ifs, 0⟩ :: ⟨target₂, iter₂, ifs₂, 0⟩ :: rest) scope pos) 1 it acc env).onRaise (fun x => do noteFrame x env; standAt theWindowsPlace)) _ _ s
  refine wpAny_notedAt ?_
  unfold compStart
  show wpAny _ _ (ask >>= _) _ _ s
  refine wpAny_bind (wpAny_askSetting (wpAny_ite ?_))
  split
  · first
      | exact wpAny_bind (wpAny_pure (wpAny_pure (And.intro rfl h0)))
      | exact wpAny_pure (And.intro rfl h0)
  · first
      | exact wpAny_bind (wpAny_rule (wpAny_bind (wpAny_standAt (wpAny_bind (wpAny_mono h (fun it' s' h' => wpAny_pure (And.intro rfl h')) fun _ _ x => x)))))
      | (refine wpAny_bind (wpAny_rule ?_); show wpAny _ _ (standAt iter₂.pos >>= _) _ _ s; exact wpAny_bind (wpAny_standAt (wpAny_bind (wpAny_mono h (fun it' s' h' => wpAny_pure (And.intro rfl h')) fun _ _ x => x))))

theorem nest_body {target iter iter₂ : Expr} {x₂ : Str} {px₂ pe : Pos} {scope : Scope} {pos : Pos} {cl : List (Str × Addr)} {env : Env} {Bnd : Nat → (Str → Option Value) → Prop} {n : Nat} {news : Led} {Inv : Nat → List Value → Led → Prop}
    (XB : (hd.heap_1 w.params).In base) (TB : Top p loose mean mg mb base) (hh : A.handled = none) (hkind : scope.kind = .function) (hx₂ : scope.names.lookup x₂ = some .local) (hdb : (x₂ == ("__debug__" : Str)) = false)
    (OA : OutAt w p loose mean mg mb A A₀ base outer g₁ L m iter₂ scope cl env Bnd n news Inv s) (wr : List Addr) (C D : Addr)
    (i : Nat) (own : Led) (hw : own.map (·.1) = wr) (oC : Obj) (mc : Str → Option Value) (h : Heap) (gn : Array GenState) (tk : Nat) (g : Heap) (ys : List Value) (tl : Led) (K : Shared → Prop) (N : Value → Shared → Prop)
    (hi : i < n) (hB : Bnd i mc) (hO : NsObj oC mc) (S : Std A₀ base outer g₁ L m g h gn (inLed own C oC D ys (news ++ tl))) (ap : Apart wr C D (news ++ tl)) (hI : Inv i ys tl)
    (k : ∀ ys' tl' oC' mc' h' gn' tk' g', NsObj oC' mc' → KtsTurn (outer.filterMap (·.frame)) g g' → Std A₀ base outer g₁ L m g' h' gn' (inLed own C oC' D ys' (news ++ tl')) → Apart wr C D (news ++ tl') → (∀ q ∈ news, ∀ t ∈ tl', q.1 ≠ t.1) → Inv (i + 1) ys' tl' → K ⟨h', gn', s.drawn, tk', s.os⟩)
    (ord : ∀ q ∈ news, ∀ t ∈ tl, q.1 ≠ t.1) : nestB Challenge.rw_bm0005_01.row.prog w A (.ListComp (.Name x₂ pe) [⟨target, iter, [], 0⟩, ⟨.Name x₂ px₂, iter₂, [], 0⟩] scope pos) iter₂ (compEnvC scope cl C env) (.ref D) K N ⟨h, gn, s.drawn, tk, s.os⟩ := by
  have X := XB.keeps S.B.stays
  have T := TB.keeps S.B.stays
  refine OA i own C oC D mc h gn tk g ys tl _ N hi hB hO S.F S.N S.B X T S.D S.gens hI ord (here _) ?_
  rintro r tl₂ h' gn' tk' g' T' F' N' B' D' b' o' ⟨ax, vs, nn, rfl, hm, hlen, post⟩
  have S' : Std A₀ base outer g₁ L m g' h' gn' (inLed own C oC D ys (news ++ (tl ++ tl₂))) := ⟨S.T.trans T', F', fun q hq => N' q (by simpa [inLed, List.append_assoc] using hq), B', D', b'⟩
  have ap' : Apart wr C D (news ++ (tl ++ tl₂)) := by rw [← List.append_assoc]; exact ap.grow hw o'
  have inw : ∀ q ∈ own, q.1 ∈ wr := fun q hq => hw ▸ List.mem_map_of_mem hq
  have ord' : ∀ q ∈ news, ∀ t ∈ tl ++ tl₂, q.1 ≠ t.1 := ord_add ord o' fun q hq => List.mem_append_right _ (List.mem_cons_of_mem _ (List.mem_cons_of_mem _ (List.mem_append.mpr (.inl hq))))
  have zax := S'.N (ax, lstO vs nn) (List.mem_append_right _ (List.mem_cons_of_mem _ (List.mem_cons_of_mem _ hm)))
  have zC := S'.N (C, oC) (List.mem_append_right _ List.mem_cons_self)
  have zD := S'.N (D, lst ys) (List.mem_append_right _ (List.mem_cons_of_mem _ List.mem_cons_self))
  have hl := isList_of zax.1
  have hlt : ax < h'.objs.size := Heap.lt_size zax.1
  refine wpAny_pyIter_list (s := ⟨h', gn', s.drawn, tk', s.os⟩) hl ?_
  have up : ∀ b o, h'.get? b = some o → (h'.push { cls := .type "list_iterator", data := .fields #[.ref ax, .int 0 0] }).get? b = some o := fun b o e => Heap.get?_push_of_some _ e
  have S₁ := S'.grow up
  have J₂0 : g'.get? h'.objs.size = none := next_is_new F'
  have eJ₂ := Heap.get?_push_size h' (o := { cls := .type "list_iterator", data := .fields #[.ref ax, .int 0 0] }) rfl
  have W := Walks.list (prog := Challenge.rw_bm0005_01.row.prog) (w := w) hh h'.objs.size ax (Nat.ne_of_lt hlt) vs.toArray
  have old : ∀ q ∈ inLed own C oC D ys (news ++ (tl ++ tl₂)), q.1 ≠ h'.objs.size := fun q hq => Nat.ne_of_lt (Heap.lt_size (S'.N q hq).1)
  have loop : codeAny (model Challenge.rw_bm0005_01.row.prog w) A (.compLoop (.ListComp (.Name x₂ pe) [⟨target, iter, [], 0⟩, ⟨.Name x₂ px₂, iter₂, [], 0⟩] scope pos) 1 (.ref h'.objs.size) (.ref D) (compEnvC scope cl C env))
      (fun r s' => match r with | .ok _ => K s' | .error x => cameBackBy (model Challenge.rw_bm0005_01.row.prog w) A (compEnvC scope cl C env) N x s') ⟨h'.push { cls := .type "list_iterator", data := .fields #[.ref ax, .int 0 0] }, gn', s.drawn, tk', s.os⟩ := by
    refine comp_core (obj := lst) (wr := [h'.objs.size]) (s := ⟨h'.push { cls := .type "list_iterator", data := .fields #[.ref ax, .int 0 0] }, gn', s.drawn, tk', s.os⟩) (cenv := compEnvC scope cl C env) (h₀ := g₁) (g₁ := g') (m₁ := mc) (ys₀ := ys) (rest := own ++ (news ++ (tl ++ tl₂))) (A₀ := A₀) (base := base) (outer := outer) (L := L) (m := m)
      (Bnd := fun i mc => ∃ v, vs[i]? = some v ∧ mc x₂ = some v) (Inv := fun j ys' tl' => ys' = ys ++ vs.take j ∧ tl' = [])
      (KTurns.ofWalks (target := .Name x₂ px₂) W fun i v s' Q E _ hQ => wpAny_pure hQ) emits_in
      (fun b hb => ?_) (fun i h st b hb => by rw [List.mem_singleton.mp hb]; obtain ⟨o, e, _⟩ := st.1; exact ⟨o, e⟩) (fun i v s mc Q E hP _ hn k => assign_name hkind hx₂ C v s mc Q E hn fun h' tk mc' hn' hx' hk => k h' tk mc' hn' ⟨v, by simpa using hP, hx'⟩ hk)
      (fun j own₂ oC₂ mc₂ h₂ gn₂ tk₂ g₂ ys₂ tl₃ K₂ N₂ hj hw₂ hB₂ hO₂ hT₂ hS₂ hA₂ hI₂ k₂ ord₂ => ?_) ⟨⟨_, eJ₂, rfl, rfl⟩, hl.push _⟩ (hO.ns (up _ _ zC.1)) zC.2.1 zC.2.2 (S₁.cut fun q hq => ?_) (fun b hb => by rw [List.mem_singleton.mp hb]; exact Nat.ne_of_gt F'.ns.lt) (fun b hb => by rw [List.mem_singleton.mp hb]; exact J₂0) ⟨fun q hq => ?_, fun hb => old _ (List.mem_append_right _ List.mem_cons_self) (List.mem_singleton.mp hb), fun hb => old _ (List.mem_append_right _ (List.mem_cons_of_mem _ List.mem_cons_self)) (List.mem_singleton.mp hb), ap.cd⟩ ⟨by simp, rfl⟩
      (fun g₃ h₃ gn₃ tk₃ ys₃ tl₃ mc₃ hT₃ hS₃ hA₃ hn₃ ord₃ hI₃ => ?_)
    · rcases List.mem_cons.mp hb with rfl | hb
      · exact .inl (List.mem_singleton.mpr rfl)
      · rw [List.mem_singleton.mp hb]; exact .inr ⟨_, List.mem_append_right _ hm⟩
    · obtain ⟨rfl, rfl⟩ := hI₂
      obtain ⟨v, hv, hmv⟩ := hB₂
      refine wpAny_tests_nil ?_
      simp only [if_true]
      have zC₂ := hS₂.N (C, oC₂) (List.mem_append_right _ List.mem_cons_self)
      have zD₂ := hS₂.N (D, lst _) (List.mem_append_right _ (List.mem_cons_of_mem _ List.mem_cons_self))
      refine wpAny_Name (wpAny_loadName_local (by simp [compEnvC, relabel, hkind]) (lookup_relabel_local hx₂) (hO₂.ns zC₂.1) hmv ?_) hdb
      refine append_at (hsz := by
        show (ys ++ vs.take j).toArray.size ≤ sizeLine
        rw [List.size_toArray]
        refine Nat.le_trans ?_ hlen
        simp only [List.length_append, List.length_take]; omega) zD₂.1 fun h₅ hs₅ hD₅ => ?_
      have inw₂ : ∀ q ∈ own₂, q.1 ∈ [h'.objs.size] := fun q hq => hw₂ ▸ List.mem_map_of_mem hq
      have S₅ := (hS₂.cut (M' := own₂ ++ (C, oC₂) :: (own ++ (news ++ (tl ++ tl₂)) ++ [])) fun q hq => by
        rcases List.mem_append.mp hq with hq | hq
        · exact List.mem_append_left _ hq
        · rcases List.mem_cons.mp hq with rfl | hq
          · exact List.mem_append_right _ List.mem_cons_self
          · exact List.mem_append_right _ (List.mem_cons_of_mem _ (List.mem_cons_of_mem _ hq))).but (wr := [D]) (fun b o hb e => hs₅.extBut b o (fun z => hb (List.mem_singleton.mpr z)) e) (fun b hb => by rw [List.mem_singleton.mp hb]; exact zD₂.2.2) (fun hb => zD₂.2.1 (List.mem_singleton.mp hb).symm) (fun q hq hb => by
          have hb := List.mem_singleton.mp hb
          rcases List.mem_append.mp hq with hq | hq
          · exact hA₂.wd (hb ▸ inw₂ q hq)
          · rcases List.mem_cons.mp hq with rfl | hq
            · exact hA₂.cd hb
            · exact (hA₂.off q hq).2.2 hb)
      have S₆ := S₅.add (hD₅.trans (congrArg some (lst_snoc (ys ++ vs.take j) v))) zD₂.2.1 zD₂.2.2
      refine k₂ (ys ++ vs.take j ++ [v]) [] oC₂ mc₂ h₅ gn₂ tk₂ g₂ hO₂ .refl (S₆.cut fun q hq => ?_) hA₂ (fun _ _ _ h => by cases h) ⟨by rw [List.take_add_one, hv]; simp, rfl⟩
      rcases List.mem_append.mp hq with hq | hq
      · exact List.mem_cons_of_mem _ (List.mem_append_left _ hq)
      · rcases List.mem_cons.mp hq with rfl | hq
        · exact List.mem_cons_of_mem _ (List.mem_append_right _ List.mem_cons_self)
        · rcases List.mem_cons.mp hq with rfl | hq
          · exact List.mem_cons_self
          · exact List.mem_cons_of_mem _ (List.mem_append_right _ (List.mem_cons_of_mem _ hq))
    · rcases List.mem_cons.mp hq with rfl | hq
      · exact List.mem_append_right _ (List.mem_cons_of_mem _ List.mem_cons_self)
      · rcases List.mem_append.mp hq with hq | hq
        · exact List.mem_append_left _ hq
        · exact List.mem_append_right _ (List.mem_cons_of_mem _ (List.mem_cons_of_mem _ hq))
    · rcases List.mem_append.mp hq with hq | hq
      · refine ⟨fun hb => old _ (List.mem_append_left _ hq) (List.mem_singleton.mp hb), fun z => ap.wc (by have := inw q hq; rw [z] at this; exact this), fun z => ap.wd (by have := inw q hq; rw [z] at this; exact this)⟩
      · exact ⟨fun hb => old _ (List.mem_append_right _ (List.mem_cons_of_mem _ (List.mem_cons_of_mem _ hq))) (List.mem_singleton.mp hb), (ap'.off q hq).2⟩
    · obtain ⟨rfl, rfl⟩ := hI₃
      obtain ⟨oC₃, heC₃, hoC₃⟩ := ns_obj hn₃
      have e : ys ++ vs.take vs.toArray.size = ys ++ vs := by simp
      rw [e] at hS₃
      have gC₃ : g₃.get? C = none := hT₃.none_ _ zC.2.2
      refine k (ys ++ vs) (tl ++ tl₂) oC₃ mc₃ h₃ gn₃ tk₃ g₃ hoC₃ (T'.trans hT₃) ((hS₃.add heC₃ zC.2.1 gC₃).cut fun q hq => ?_) ap' ord' post
      simp only [inLed, List.append_nil] at hq ⊢
      rcases List.mem_append.mp hq with h | h
      · exact List.mem_cons_of_mem _ (List.mem_cons_of_mem _ (List.mem_append_left _ h))
      · rcases List.mem_cons.mp h with rfl | h
        · exact List.mem_cons_self
        · rcases List.mem_cons.mp h with rfl | h
          · exact List.mem_cons_of_mem _ List.mem_cons_self
          · exact List.mem_cons_of_mem _ (List.mem_cons_of_mem _ (List.mem_append_right _ h))
  exact compStart_in loop (W.self 0 _ _ _ ⟨⟨_, eJ₂, rfl, rfl⟩, hl.push _⟩ loop)

theorem src_nest {iter iter₂ : Expr} {x x₂ : Str} {px px₂ pe : Pos} {scope : Scope} {cl : List (Str × Addr)} {pos : Pos} {env : Env} {news : Led} {Inv : Nat → List Value → Led → Prop} {RR : Value → Addr → Result → Shared → Prop} {ax : Addr} {vs : List Value} {nn : Nat}
    (B : Below A₀ base outer g₁) (F : Fr g₁ L s.heap m) (XB : (hd.heap_1 w.params).In base) (TB : Top p loose mean mg mb base) (Dk : KtsDicts (outer.filterMap (·.frame)) g₁) (N : News g₁ L s.heap news) (hb : AllBare s.gens) (hh : A.handled = none) (hA : A.mark none = A)
    (hs : ∀ C x, foldedSetIterable iter₂ (compEnvC scope cl C env) x = pure x)
    (hm : (ax, lstO vs nn) ∈ news) (hcell : ∀ y ∈ scope.names, y.2 ≠ .cell) (hkind : scope.kind = .function) (hx : scope.names.lookup x = some .local) (hx₂ : scope.names.lookup x₂ = some .local) (hdb : (x₂ == ("__debug__" : Str)) = false)
    (hI : Inv 0 [] [])
    (OA : OutAt w p loose mean mg mb A A₀ base outer g₁ L m iter₂ scope cl env (fun i mc => ∃ v, vs[i]? = some v ∧ mc x = some v) vs.length news Inv s)
    (fin : BlockEnd A₀ base outer L m g₁ news s vs.length Inv RR) :
    wpAny (model Challenge.rw_bm0005_01.row.prog w) A (pyIter (.ref ax)) (fun it s₂ => wpAny (model Challenge.rw_bm0005_01.row.prog w) A (newList []) (fun acc s₃ => wpAny (model Challenge.rw_bm0005_01.row.prog w) A (newFunctionEnv scope env.globals cl [] env.qual none .none (some env)) (fun cenv s₄ =>
      codeAny (model Challenge.rw_bm0005_01.row.prog w) A (.compStart (.ListComp (.Name x₂ pe) [⟨.Name x px, iter, [], 0⟩, ⟨.Name x₂ px₂, iter₂, [], 0⟩] scope pos) 0 it acc { cenv with scope := relabel scope env }) (RR acc cenv.locals) s₄) E s₃) E s₂) E s := by
  have hl := isList_of (N _ hm).1
  have hlt : ax < s.heap.objs.size := Heap.lt_size (N _ hm).1
  refine wpAny_pyIter_list hl ?_
  have up : ∀ b o, s.heap.get? b = some o → (s.heap.push { cls := .type "list_iterator", data := .fields #[.ref ax, .int 0 0] }).get? b = some o := fun b o e => Heap.get?_push_of_some _ e
  have S₀ : Std A₀ base outer g₁ L m g₁ s.heap s.gens news := ⟨.refl, F, N, B, Dk, hb⟩
  have S₁ := (S₀.grow up).add (Heap.get?_push_size s.heap (o := { cls := .type "list_iterator", data := .fields #[.ref ax, .int 0 0] }) rfl) (Nat.ne_of_gt F.ns.lt) (next_is_new F)
  refine comp_block (own₀ := [_]) (s := { s with heap := s.heap.push { cls := .type "list_iterator", data := .fields #[.ref ax, .int 0 0] } }) (h₀ := g₁) (body := fun C D => nestB _ w A (.ListComp (.Name x₂ pe) [⟨.Name x px, iter, [], 0⟩, ⟨.Name x₂ px₂, iter₂, [], 0⟩] scope pos) iter₂ (compEnvC scope cl C env) (.ref D)) (Bnd := fun i mc => ∃ v, vs[i]? = some v ∧ mc x = some v)
    (KTurns.ofWalks (target := .Name x px) (Walks.list hh s.heap.objs.size ax (Nat.ne_of_lt hlt) vs.toArray) fun i v s' Q E _ hQ => wpAny_pure hQ) (fun C D R => emits_out (hs C) hA) (fun i s' Q E st hQ => (Walks.list hh s.heap.objs.size ax (Nat.ne_of_lt hlt) vs.toArray).self i s' Q E st hQ)
    (fun b hb => ?_) (fun i h st b hb => by rw [List.mem_singleton.mp hb]; obtain ⟨o, e, _⟩ := st.1; exact ⟨o, e⟩) (fun C i v s mc Q E hP _ hn k => assign_name hkind hx C v s mc Q E hn fun h' tk mc' hn' hx' hk => k h' tk mc' hn' ⟨v, by simpa using hP, hx'⟩ hk)
    hcell hkind (fun C D i own oC mc h gn tk g ys tl K N _ hi hw hB hO _ hS hA hI k ord => ?_) ⟨⟨_, Heap.get?_push_size _ rfl, rfl, rfl⟩, hl.push _⟩ rfl S₁ (fun q hq hb => absurd (List.mem_singleton.mp hb) (Nat.ne_of_lt (Heap.lt_size (N q hq).1))) hI
    (fun D C g h gn tk ys tl mc hT hS off hCL hC hn hlt ord hI => fin D C g h gn tk ys tl mc hT hS off hCL hC hn hlt ord (by simpa using hI))
  · rcases List.mem_cons.mp hb with rfl | hb
    · exact .inl (List.mem_singleton.mpr rfl)
    · rw [List.mem_singleton.mp hb]; exact .inr ⟨_, hm⟩
  · exact nest_body XB TB hh hkind hx₂ hdb OA _ C D i own hw oC mc h gn tk g ys tl K N (by simpa using hi) hB hO hS hA hI k ord
theorem src_nestP {iter iter₂ : Expr} {x y x₂ : Str} {px py tp px₂ pe : Pos} {kk : Nat} {scope : Scope} {cl : List (Str × Addr)} {pos : Pos} {env : Env} {news : Led} {Inv : Nat → List Value → Led → Prop} {RR : Value → Addr → Result → Shared → Prop} {ax : Addr} {vs : List Value} {nn : Nat} {xys : List (Value × Value)}
    (B : Below A₀ base outer g₁) (F : Fr g₁ L s.heap m) (XB : (hd.heap_1 w.params).In base) (TB : Top p loose mean mg mb base) (Dk : KtsDicts (outer.filterMap (·.frame)) g₁) (N : News g₁ L s.heap news) (hb : AllBare s.gens) (hh : A.handled = none) (hA : A.mark none = A)
    (hs : ∀ C x, foldedSetIterable iter₂ (compEnvC scope cl C env) x = pure x)
    (hm : (ax, lstO vs nn) ∈ news) (hp : PairsIn news vs xys) (hcell : ∀ y ∈ scope.names, y.2 ≠ .cell) (hkind : scope.kind = .function) (hx : scope.names.lookup x = some .local) (hy : scope.names.lookup y = some .local) (hxy : x ≠ y) (hx₂ : scope.names.lookup x₂ = some .local) (hdb : (x₂ == ("__debug__" : Str)) = false)
    (hI : Inv 0 [] [])
    (OA : OutAt w p loose mean mg mb A A₀ base outer g₁ L m iter₂ scope cl env (fun i mc => ∃ a b, xys[i]? = some (a, b) ∧ mc x = some a ∧ mc y = some b) vs.length news Inv s)
    (fin : BlockEnd A₀ base outer L m g₁ news s vs.length Inv RR) :
    wpAny (model Challenge.rw_bm0005_01.row.prog w) A (pyIter (.ref ax)) (fun it s₂ => wpAny (model Challenge.rw_bm0005_01.row.prog w) A (newList []) (fun acc s₃ => wpAny (model Challenge.rw_bm0005_01.row.prog w) A (newFunctionEnv scope env.globals cl [] env.qual none .none (some env)) (fun cenv s₄ =>
      codeAny (model Challenge.rw_bm0005_01.row.prog w) A (.compStart (.ListComp (.Name x₂ pe) [⟨.Tuple [.Name x px, .Name y py] kk tp, iter, [], 0⟩, ⟨.Name x₂ px₂, iter₂, [], 0⟩] scope pos) 0 it acc { cenv with scope := relabel scope env }) (RR acc cenv.locals) s₄) E s₃) E s₂) E s := by
  have hl := isList_of (N _ hm).1
  have hlt : ax < s.heap.objs.size := Heap.lt_size (N _ hm).1
  refine wpAny_pyIter_list hl ?_
  have up : ∀ b o, s.heap.get? b = some o → (s.heap.push { cls := .type "list_iterator", data := .fields #[.ref ax, .int 0 0] }).get? b = some o := fun b o e => Heap.get?_push_of_some _ e
  have S₀ : Std A₀ base outer g₁ L m g₁ s.heap s.gens news := ⟨.refl, F, N, B, Dk, hb⟩
  have S₁ := (S₀.grow up).add (Heap.get?_push_size s.heap (o := { cls := .type "list_iterator", data := .fields #[.ref ax, .int 0 0] }) rfl) (Nat.ne_of_gt F.ns.lt) (next_is_new F)
  refine comp_block (own₀ := [_]) (s := { s with heap := s.heap.push { cls := .type "list_iterator", data := .fields #[.ref ax, .int 0 0] } }) (h₀ := g₁) (body := fun C D => nestB _ w A (.ListComp (.Name x₂ pe) [⟨.Tuple [.Name x px, .Name y py] kk tp, iter, [], 0⟩, ⟨.Name x₂ px₂, iter₂, [], 0⟩] scope pos) iter₂ (compEnvC scope cl C env) (.ref D)) (Bnd := fun i mc => ∃ a b, xys[i]? = some (a, b) ∧ mc x = some a ∧ mc y = some b)
    (pair_turns hh s.heap.objs.size ax (Nat.ne_of_lt hlt) vs fun i v e => by obtain ⟨T, _, _, _, h, _⟩ := hp i v e; exact ⟨T, h⟩) (fun C D R => emits_out (hs C) hA) (fun i s' Q E st hQ => (Walks.list hh s.heap.objs.size ax (Nat.ne_of_lt hlt) vs.toArray).self i s' Q E st hQ)
    (fun b hb => ?_) (fun i h st b hb => by rw [List.mem_singleton.mp hb]; obtain ⟨o, e, _⟩ := st.1; exact ⟨o, e⟩) (fun C i v s mc Q E hP hq hn k => ?_)
    hcell hkind (fun C D i own oC mc h gn tk g ys tl K N _ hi hw hB hO _ hS hA hI k ord => ?_) ⟨⟨_, Heap.get?_push_size _ rfl, rfl, rfl⟩, hl.push _⟩ rfl S₁ (fun q hq hb => absurd (List.mem_singleton.mp hb) (Nat.ne_of_lt (Heap.lt_size (N q hq).1))) hI
    (fun D C g h gn tk ys tl mc hT hS off hCL hC hn hlt ord hI => fin D C g h gn tk ys tl mc hT hS off hCL hC hn hlt ord (by simpa using hI))
  · rcases List.mem_cons.mp hb with rfl | hb
    · exact .inl (List.mem_singleton.mpr rfl)
    · rw [List.mem_singleton.mp hb]; exact .inr ⟨_, hm⟩
  · obtain ⟨T, n, a, b, rfl, hxy', hT⟩ := hp i v hP
    exact assign_pair hh hkind hx hy hxy C T a b n s mc Q E (hq _ hT) hn fun h' tk mc' hn' hx' hk => k h' tk mc' hn' ⟨a, b, hxy', hx'⟩ hk
  · exact nest_body XB TB hh hkind hx₂ hdb OA _ C D i own hw oC mc h gn tk g ys tl K N (by simpa using hi) hB hO hS hA hI k ord
end
end
section
section
variable {w : World} {p : Program} {loose : List Str} {mean : ExcName → Option Value} {mg mb : Str → Option Value}
  {A A₀ : Around} {base h₀ : Heap} {env : Env} {outer : List Env} {L : Addr} {m : Str → Option Value} {news M : Led} {s : Shared} {Q E : Value → Shared → Prop} {f : Addr} {n u : Nat}

/-- what the user of a contract is handed -/
def Comes (w : World) (p : Program) (loose : List Str) (mean : ExcName → Option Value) (mg mb : Str → Option Value) (A₀ : Around) (base : Heap) (outer : List Env) (L : Addr) (m : Str → Option Value) (h₀ : Heap) (M : Led) (s : Shared) (Q : Value → Shared → Prop) (Post : Led → Value → Prop) : Prop :=
  ∀ r tl h' gn tk h₀', KtsTurn (outer.filterMap (·.frame)) h₀ h₀' → Fr h₀' L h' m → News h₀' L h' (M ++ tl) → Below A₀ base outer h₀' → (hd.heap_1 w.params).In h₀' → Top p loose mean mg mb h₀' → KtsDicts (outer.filterMap (·.frame)) h₀' →
      (∀ q ∈ M, ∀ t ∈ tl, q.1 ≠ t.1) → AllBare gn → Post tl r → Q r ⟨h', gn, s.drawn, tk, s.os⟩
theorem Spec.call {X : Type} {Pre : X → Led → Args → Prop} {Post : X → Led → Value → Prop} {pos : List Value} {kw : List (Str × Value)} (S : Spec w p loose mean mg mb f n u Pre Post) (F : Fr h₀ L s.heap m) (B : Below A₀ base outer h₀) (XB : (hd.heap_1 w.params).In base) (TB : Top p loose mean mg mb base) (D : KtsDicts (outer.filterMap (·.frame)) h₀)
    (N : News h₀ L s.heap M) (sub : ∀ q ∈ news, q ∈ M) (hA : A.frames = some (env :: outer)) (hf : env.frame = some L) (hke : env.scope.kind = .function) (hh : A.handled = none) (hdp : A.depth + n < recursionLimit) (hu : A.units + u < cLine)
    (hb : AllBare s.gens) (x : X) (hpre : Pre x news ⟨pos, kw⟩) (k : Comes w p loose mean mg mb A₀ base outer L m h₀ M s Q (fun tl r => Post x (news ++ tl) r)) : wpAny (model Challenge.rw_bm0005_01.row.prog w) A (call (.ref f) pos kw) Q E s :=
  wpAny_call (S.use B F XB TB D N sub hA hf hke hh hdp hu hb x hpre fun r tl h' gn tk h₀' T F N B X TP D o b P => k r tl h' gn tk h₀' T F N B X TP D o b P)

theorem Spec.code {X : Type} {Pre : X → Led → Args → Prop} {Post : X → Led → Value → Prop} {args : Args} {R : Result → Shared → Prop} (S : Spec w p loose mean mg mb f n u Pre Post) (F : Fr h₀ L s.heap m) (B : Below A₀ base outer h₀) (XB : (hd.heap_1 w.params).In base) (TB : Top p loose mean mg mb base) (D : KtsDicts (outer.filterMap (·.frame)) h₀)
    (N : News h₀ L s.heap M) (sub : ∀ q ∈ news, q ∈ M) (hA : A.frames = some (env :: outer)) (hf : env.frame = some L) (hke : env.scope.kind = .function) (hh : A.handled = none) (hdp : A.depth + n < recursionLimit) (hu : A.units + u < cLine)
    (hb : AllBare s.gens) (x : X) (hpre : Pre x news args) (k : Comes w p loose mean mg mb A₀ base outer L m h₀ M s (fun v s' => R (.ok (.ret v)) s') (fun tl r => Post x (news ++ tl) r)) : codeAny (model Challenge.rw_bm0005_01.row.prog w) A (.call (.ref f) args) R s :=
  S.use B F XB TB D N sub hA hf hke hh hdp hu hb x hpre fun r tl h' gn tk h₀' T F N B X TP D o b P => k r tl h' gn tk h₀' T F N B X TP D o b P
theorem use_wrap {root d : Doc} {ks : List Key} {v : Value} (F : Fr h₀ L s.heap m) (B : Below A₀ base outer h₀) (XB : (hd.heap_1 w.params).In base) (TB : Top p loose mean mg mb base) (D : KtsDicts (outer.filterMap (·.frame)) h₀)
    (N : News h₀ L s.heap M) (sub : ∀ q ∈ news, q ∈ M) (hA : A.frames = some (env :: outer)) (hf : env.frame = some L) (hke : env.scope.kind = .function) (hh : A.handled = none) (hdp : A.depth + 10 < recursionLimit) (hu : A.units + 90 < cLine)
    (hb : AllBare s.gens) (hr : DocIn w news root) (ha : ArgIn w news root v ks d)
    (k : Comes w p loose mean mg mb A₀ base outer L m h₀ M s Q (fun tl r => DatIn w (news ++ tl) root r ks d)) : wpAny (model Challenge.rw_bm0005_01.row.prog w) A (call (.ref 161) [.ref 212, v]) Q E s :=
  wrap_spec.call F B XB TB D N sub hA hf hke hh hdp hu hb (root, ks, d) ⟨v, rfl, hr, ha⟩ k
theorem use_wrapC {root d : Doc} {ks : List Key} {v : Value} {R : Result → Shared → Prop} (F : Fr h₀ L s.heap m) (B : Below A₀ base outer h₀) (XB : (hd.heap_1 w.params).In base) (TB : Top p loose mean mg mb base) (D : KtsDicts (outer.filterMap (·.frame)) h₀)
    (N : News h₀ L s.heap M) (hA : A.frames = some (env :: outer)) (hf : env.frame = some L) (hke : env.scope.kind = .function) (hh : A.handled = none) (hdp : A.depth + 10 < recursionLimit) (hu : A.units + 90 < cLine)
    (hb : AllBare s.gens) (ha : ArgIn w news root v ks d) (hr : DocIn w news root) (sub : ∀ q ∈ news, q ∈ M)
    (k : Comes w p loose mean mg mb A₀ base outer L m h₀ M s (fun v s' => R (.ok (.ret v)) s') (fun tl r => DatIn w (news ++ tl) root r ks d)) : codeAny (model Challenge.rw_bm0005_01.row.prog w) A (.call (.ref 161) ⟨[.ref 212, v], []⟩) R s :=
  wrap_spec.code F B XB TB D N sub hA hf hke hh hdp hu hb (root, ks, d) ⟨v, rfl, hr, ha⟩ k
theorem use_gfd {root d : Doc} {ks : List Key} {v : Value} {x : Str} {t : Tok} (F : Fr h₀ L s.heap m) (B : Below A₀ base outer h₀) (XB : (hd.heap_1 w.params).In base) (TB : Top p loose mean mg mb base) (D : KtsDicts (outer.filterMap (·.frame)) h₀)
    (N : News h₀ L s.heap M) (hA : A.frames = some (env :: outer)) (hf : env.frame = some L) (hke : env.scope.kind = .function) (hh : A.handled = none) (hdp : A.depth + 12 < recursionLimit) (hu : A.units + 120 < cLine)
    (hb : AllBare s.gens) (ha : DatIn w news root v ks d) (hr : DocIn w news root) (hx : x ∈ NAMES) (sub : ∀ q ∈ news, q ∈ M)
    (k : Comes w p loose mean mg mb A₀ base outer L m h₀ M s Q (fun tl r => GfdPost w (root, ks, d, x) (news ++ tl) r)) : wpAny (model Challenge.rw_bm0005_01.row.prog w) A (call (.ref 470) [v, .str x t, .bool false]) Q E s :=
  gfd_spec.call F B XB TB D N sub hA hf hke hh hdp hu hb (root, ks, d, x) ⟨v, t, rfl, hx, hr, ha⟩ k
end

theorem GfdPost.mono {w : World} {x : Doc × List Key × Doc × Str} {news news' : Led} {r : Value} (h : GfdPost w x news r) (hs : ∀ q ∈ news, q ∈ news') : GfdPost w x news' r := by
  unfold GfdPost at h ⊢
  split at h
  · exact h
  · exact h.mono hs
/-- lists of datums -/
def DatsIn (w : World) (news : Led) (root : Doc) (vs : List Value) (xs : List (List Key × Doc)) : Prop := Paired (fun v x => DatIn w news root v x.1 x.2) vs xs
theorem paired_imp {α β : Type} {F G : α → β → Prop} (h : ∀ a b, F a b → G a b) : ∀ {l₁ : List α} {l₂ : List β}, Paired F l₁ l₂ → Paired G l₁ l₂
  | _, _, .nil => .nil
  | _, _, .cons h₁ t => .cons (h _ _ h₁) (paired_imp h t)
theorem paired_app {α β : Type} {F : α → β → Prop} : ∀ {l₁ l₃ : List α} {l₂ l₄ : List β}, Paired F l₁ l₂ → Paired F l₃ l₄ → Paired F (l₁ ++ l₃) (l₂ ++ l₄)
  | _, _, _, _, .nil, h => h
  | _, _, _, _, .cons h₁ t, h => .cons h₁ (paired_app t h)
theorem paired_get {α β : Type} {F : α → β → Prop} : ∀ {l₁ : List α} {l₂ : List β} {i : Nat} {a : α}, Paired F l₁ l₂ → l₁[i]? = some a → ∃ b, l₂[i]? = some b ∧ F a b
  | _, _, 0, _, .cons h₁ _, e => by cases e; exact ⟨_, rfl, h₁⟩
  | _, _, i + 1, _, .cons _ t, e => paired_get (i := i) t (by simpa using e)
  | _, _, _, _, .nil, e => by simp at e
theorem DatsIn.mono {w : World} {news news' : Led} {root : Doc} {vs : List Value} {xs : List (List Key × Doc)} (h : DatsIn w news root vs xs) (hs : ∀ q ∈ news, q ∈ news') : DatsIn w news' root vs xs := paired_imp (fun _ _ x => x.mono hs) h

/-- a path's walk: keys below d -/
def Path.walk : Path → Doc → List (List Key × Doc)
  | .root, d => [([], d)]
  | .this, d => [([], d)]
  | .wild, d => (Step.all.down d).map fun e => ([e.1], e.2)
  | .fields xs, d => ((Step.names xs).down d).map fun e => ([e.1], e.2)
  | .index ps, d => ((Step.places ps).down d).map fun e => ([e.1], e.2)
  | .child l r, d => (l.walk d).flatMap fun x => (r.walk x.2).map fun y => (x.1 ++ y.1, y.2)
def under (ks : List Key) (xs : List (List Key × Doc)) : List (List Key × Doc) := xs.map fun x => (ks ++ x.1, x.2)
def FindPost (w : World) (root : Doc) (xs : List (List Key × Doc)) (news : Led) (r : Value) : Prop := ∃ a vs n, r = .ref a ∧ (a, lstO vs n) ∈ news ∧ DatsIn w news root vs xs

section
variable {M : Model} {A : Around} {E : Value → Shared → Prop} {s : Shared} {name : Str} {scope : Scope} {L a : Addr} {cd : Value} {h₀ : Heap} {m : Str → Option Value}
theorem apart_of {c : Addr} : ∀ {l : Led}, (∀ q ∈ l, q.1 ≠ c) → ApartOr c l
  | [], _ => trivial
  | p :: _, h => ⟨.inl (h p List.mem_cons_self), apart_of fun q hq => h q (List.mem_cons_of_mem _ hq)⟩
theorem store_cell {x : Str} {c : Addr} {o : Obj} {v₀ : Option Value} {v : Value} {own rest : Led} {Q : Unit → Shared → Prop} (F : Fr h₀ L s.heap m) (N : News h₀ L s.heap (own ++ (c, o) :: rest))
    (hc : (cellsFrom (L + 1) scope.names []).lookup x = some c) (hd : o.data = .cell v₀) (off : ∀ q ∈ own ++ rest, q.1 ≠ c)
    (h : ∀ h' o', Fr h₀ L h' m → News h₀ L h' (own ++ (c, o') :: rest) → o'.data = .cell (some v) → Q () { s with heap := h' })
    (hk : scope.kind = .function := by rfl) (hl : (envOfC name scope L a cd).kindOf x = some .cell := by rfl) :
    wpAny M A (storeName (envOfC name scope L a cd) x v) Q E s :=
  stCNk F N hc hd (apart_of fun q hq => off q (List.mem_append.mpr (.inl hq))) (apart_of fun q hq => off q (List.mem_append.mpr (.inr hq))) h hk hl
end

theorem sub_cons {a : Addr × Obj} {S M : Led} (h : ∀ q ∈ S, q ∈ M) : ∀ q ∈ S, q ∈ a :: M := fun q hq => List.mem_cons_of_mem _ (h q hq)
theorem sub_left {S M M' : Led} (h : ∀ q ∈ S, q ∈ M) : ∀ q ∈ S, q ∈ M ++ M' := fun q hq => List.mem_append.mpr (.inl (h q hq))
theorem sub_right {S M M' : Led} (h : ∀ q ∈ S, q ∈ M') : ∀ q ∈ S, q ∈ M ++ M' := fun q hq => List.mem_append.mpr (.inr (h q hq))
theorem sub_both {S S' M : Led} (h : ∀ q ∈ S, q ∈ M) (h' : ∀ q ∈ S', q ∈ M) : ∀ q ∈ S ++ S', q ∈ M := fun q hq => by
  rcases List.mem_append.mp hq with hq | hq
  · exact h q hq
  · exact h' q hq
theorem sub_head {a : Addr × Obj} {S M : Led} (h : a ∈ M) (h' : ∀ q ∈ S, q ∈ M) : ∀ q ∈ a :: S, q ∈ M := fun q hq => by
  rcases List.mem_cons.mp hq with rfl | hq
  · exact h
  · exact h' q hq
theorem lt_sub {S X : Led} {d : Addr} (h : ∀ q ∈ X, q.1 < d) (hs : ∀ q ∈ S, q ∈ X) : ∀ q ∈ S, q.1 ≠ d := fun q hq => Nat.ne_of_lt (h q (hs q hq))
theorem off_nil {c : Addr} : ∀ q ∈ ([] : Led), q.1 ≠ c := fun _ h => by cases h
theorem off_gt {c : Addr} {a : Addr} {o : Obj} {l : Led} (h : c < a) (hl : ∀ q ∈ l, q.1 ≠ c) : ∀ q ∈ (a, o) :: l, q.1 ≠ c := fun q hq => by
  rcases List.mem_cons.mp hq with rfl | hq
  · exact Nat.ne_of_gt h
  · exact hl q hq
theorem off_lt {c : Addr} {a : Addr} {o : Obj} {l : Led} (h : a < c) (hl : ∀ q ∈ l, q.1 ≠ c) : ∀ q ∈ (a, o) :: l, q.1 ≠ c := fun q hq => by
  rcases List.mem_cons.mp hq with rfl | hq
  · exact Nat.ne_of_lt h
  · exact hl q hq
theorem off_app {c : Addr} {l l' : Led} (h : ∀ q ∈ l, q.1 ≠ c) (h' : ∀ q ∈ l', q.1 ≠ c) : ∀ q ∈ l ++ l', q.1 ≠ c := fun q hq => by
  rcases List.mem_append.mp hq with hq | hq
  · exact h q hq
  · exact h' q hq
theorem off_old {c d : Addr} {l : Led} (h : ∀ q ∈ l, q.1 < d) (hd : d ≤ c) : ∀ q ∈ l, q.1 ≠ c := fun q hq => Nat.ne_of_lt (Nat.lt_of_lt_of_le (h q hq) hd)
theorem off_new {c : Addr} {o : Obj} {M l : Led} (h : ∀ q ∈ M, ∀ t ∈ l, q.1 ≠ t.1) (hm : (c, o) ∈ M) : ∀ q ∈ l, q.1 ≠ c := fun q hq => (h _ hm q hq).symm

section
open PyProof.Rows.LCg
variable {w : World} {p : Program} {loose : List Str} {mean : ExcName → Option Value} {mg mb : Str → Option Value}
  {A A₀ : Around} {g₁ base : Heap} {outer : List Env} {L : Addr} {m : Str → Option Value} {s : Shared} {E : Value → Shared → Prop}
theorem strsAt {vs : List Value} {xs : List Str} (h : StrsAre vs xs) : ∀ {i : Nat} {v : Value}, vs[i]? = some v → ∃ x t, v = .str x t ∧ xs[i]? = some x := by
  induction h with
  | nil => intro i v e; simp at e
  | cons x t _ ih =>
    intro i v e
    cases i with
    | zero => simp at e; exact ⟨_, _, e.symm, rfl⟩
    | succ i => exact ih (by simpa using e)
theorem intsAt {vs : List Value} {xs : List Int} (h : IntsAre vs xs) : ∀ {i : Nat} {v : Value}, vs[i]? = some v → ∃ x t, v = .int x t ∧ xs[i]? = some x := by
  induction h with
  | nil => intro i v e; simp at e
  | cons x t _ ih =>
    intro i v e
    cases i with
    | zero => simp at e; exact ⟨_, _, e.symm, rfl⟩
    | succ i => exact ih (by simpa using e)
theorem strsLen {vs : List Value} {xs : List Str} (h : StrsAre vs xs) : vs.length = xs.length := by
  induction h with
  | nil => rfl
  | cons => simp_all
theorem intsLen {vs : List Value} {xs : List Int} (h : IntsAre vs xs) : vs.length = xs.length := by
  induction h with
  | nil => rfl
  | cons => simp_all
theorem paired_take {α β : Type} {F : α → β → Prop} {ys : List α} {xs : List β} {i : Nat} {y : α} {x : β} (h : Paired F ys (xs.take i)) (hx : xs[i]? = some x) (hy : F y x) : Paired F (ys ++ [y]) (xs.take (i + 1)) := by
  rw [List.take_add_one, hx]; exact h.snoc hy
theorem paired_take_len {α β : Type} {F : α → β → Prop} {ys : List α} {xs : List β} {i : Nat} (h : Paired F ys (xs.take i)) : ys.length ≤ xs.length := by
  rw [h.length, List.length_take]; exact Nat.min_le_right _ _
theorem paired_take_all {α β : Type} {F : α → β → Prop} {ys : List α} {xs : List β} {n : Nat} (h : Paired F ys (xs.take n)) (hn : xs.length ≤ n) : Paired F ys xs := by
  rwa [List.take_of_length_le hn] at h

theorem tupleI {elt iter : Expr} {x : Str} {px : Pos} {ifs : List Expr} {scope : Scope} {cl : List (Str × Addr)} {pos : Pos} {env : Env} {news : Led} (J : Led → Nat → List Value → Prop) {RR : Value → Addr → Result → Shared → Prop} {ax : Addr} {vs : List Value} {nn : Nat}
    (F : Fr g₁ L s.heap m) (B : Below A₀ base outer g₁) (XB : (hd.heap_1 w.params).In base) (TB : Top p loose mean mg mb base) (Dk : KtsDicts (outer.filterMap (·.frame)) g₁) (N : News g₁ L s.heap news) (hb : AllBare s.gens) (hh : A.handled = none)
    (hm : (ax, tupO vs nn) ∈ news) (hcell : ∀ y ∈ scope.names, y.2 ≠ .cell) (hkind : scope.kind = .function) (hx : scope.names.lookup x = some .local)
    (hlen : ∀ M i ys, J M i ys → ys.length ≤ sizeLine) (hI : ∀ M, J M 0 [])
    (EA : EltAt w p loose mean mg mb A A₀ base outer g₁ L m ifs elt scope cl env (fun i mc => ∃ v, vs[i]? = some v ∧ mc x = some v) vs.length news (fun i ys tl => J (news ++ tl) i ys) s)
    (fin : BlockEnd A₀ base outer L m g₁ news s vs.length (fun i ys tl => J (news ++ tl) i ys) RR) :
    wpAny (model Challenge.rw_bm0005_01.row.prog w) A (pyIter (.ref ax)) (fun it s₂ => wpAny (model Challenge.rw_bm0005_01.row.prog w) A (newList []) (fun acc s₃ => wpAny (model Challenge.rw_bm0005_01.row.prog w) A (newFunctionEnv scope env.globals cl [] env.qual none .none (some env)) (fun cenv s₄ =>
      codeAny (model Challenge.rw_bm0005_01.row.prog w) A (.compStart (.ListComp elt [⟨.Name x px, iter, ifs, 0⟩] scope pos) 0 it acc { cenv with scope := relabel scope env }) (RR acc cenv.locals) s₄) E s₃) E s₂) E s :=
  src_tuple B F XB TB Dk N hb hh hm hcell hkind hx (fun i ys tl h => hlen _ i ys h) (hI _) EA fin
theorem listI {elt iter : Expr} {x : Str} {px : Pos} {ifs : List Expr} {scope : Scope} {cl : List (Str × Addr)} {pos : Pos} {env : Env} {news : Led} (J : Led → Nat → List Value → Prop) {RR : Value → Addr → Result → Shared → Prop} {ax : Addr} {vs : List Value} {nn : Nat}
    (F : Fr g₁ L s.heap m) (B : Below A₀ base outer g₁) (XB : (hd.heap_1 w.params).In base) (TB : Top p loose mean mg mb base) (Dk : KtsDicts (outer.filterMap (·.frame)) g₁) (N : News g₁ L s.heap news) (hb : AllBare s.gens) (hh : A.handled = none)
    (hm : (ax, lstO vs nn) ∈ news) (hcell : ∀ y ∈ scope.names, y.2 ≠ .cell) (hkind : scope.kind = .function) (hx : scope.names.lookup x = some .local)
    (hlen : ∀ M i ys, J M i ys → ys.length ≤ sizeLine) (hI : ∀ M, J M 0 [])
    (EA : EltAt w p loose mean mg mb A A₀ base outer g₁ L m ifs elt scope cl env (fun i mc => ∃ v, vs[i]? = some v ∧ mc x = some v) vs.length news (fun i ys tl => J (news ++ tl) i ys) s)
    (fin : BlockEnd A₀ base outer L m g₁ news s vs.length (fun i ys tl => J (news ++ tl) i ys) RR) :
    wpAny (model Challenge.rw_bm0005_01.row.prog w) A (pyIter (.ref ax)) (fun it s₂ => wpAny (model Challenge.rw_bm0005_01.row.prog w) A (newList []) (fun acc s₃ => wpAny (model Challenge.rw_bm0005_01.row.prog w) A (newFunctionEnv scope env.globals cl [] env.qual none .none (some env)) (fun cenv s₄ =>
      codeAny (model Challenge.rw_bm0005_01.row.prog w) A (.compStart (.ListComp elt [⟨.Name x px, iter, ifs, 0⟩] scope pos) 0 it acc { cenv with scope := relabel scope env }) (RR acc cenv.locals) s₄) E s₃) E s₂) E s :=
  src_list B F XB TB Dk N hb hh hm hcell hkind hx (fun i ys tl h => hlen _ i ys h) (hI _) EA fin
end

theorem DatsIn.add {w : World} {M : Led} {root : Doc} {vs : List Value} {xs : List (List Key × Doc)} {v : Value} {x : List Key × Doc} (h : DatsIn w M root vs xs) (hv : DatIn w M root v x.1 x.2) : DatsIn w M root (vs ++ [v]) (xs ++ [x]) := Paired.snoc h hv
def pick (d : Doc) (ks : List Key) (fs : List Str) : List (List Key × Doc) := fs.filterMap fun x => (d.get (.name x)).map fun e => (ks ++ [Key.name x], e)
theorem pick_walk (d : Doc) (ks : List Key) (fs : List Str) : under ks ((Path.fields fs).walk d) = pick d ks fs := by
  simp only [under, Path.walk, Step.down, pick, List.map_filterMap]
  congr 1
  funext x
  cases d.get (.name x) <;> rfl
theorem pick_len (d : Doc) (ks : List Key) (fs : List Str) : (pick d ks fs).length ≤ fs.length := List.length_filterMap_le _ _
theorem pick_none {d : Doc} {ks : List Key} {fs : List Str} {i : Nat} {x : Str} (hx : fs[i]? = some x) (h : d.get (.name x) = none) : pick d ks (fs.take (i + 1)) = pick d ks (fs.take i) := by
  rw [List.take_add_one, hx]; simp [pick, h]
theorem pick_some {d e : Doc} {ks : List Key} {fs : List Str} {i : Nat} {x : Str} (hx : fs[i]? = some x) (h : d.get (.name x) = some e) : pick d ks (fs.take (i + 1)) = pick d ks (fs.take i) ++ [(ks ++ [Key.name x], e)] := by
  rw [List.take_add_one, hx]; simp [pick, h]
end
local macro_rules | `(tactic| walk_at "m_sub") => `(tactic| first
  | (with_reducible exact fun q hq => hq)
  | (with_reducible assumption)
  | ((with_reducible refine sub_left ?_); with_reducible exact fun q hq => hq)
  | ((with_reducible refine sub_both ?_ ?_); (focus walk_at "m_sub"); walk_at "m_sub")
  | ((with_reducible refine sub_head ?_ ?_); (focus (k_dflt k_mem)); walk_at "m_sub")
  | ((with_reducible refine sub_cons ?_); walk_at "m_sub")
  | ((with_reducible refine sub_left ?_); walk_at "m_sub")
  | ((with_reducible refine sub_right ?_); walk_at "m_sub"))
local macro_rules | `(tactic| walk_at "m_enterC") => `(tactic| (refine' enter_cells ?kG ?k6 ?k7 ?k8 ?k9 ?kB ?kD ?_ ?c2 ?c3 ?c4; (case kG => assumption); (case k6 => k_is); (case k7 => k_is); (case k8 => first | exact rz (by assumption) | omega); (case k9 => first | exact BindsTo.of_eq rfl | exact binds_K (by k_in) rfl (by k_is) rfl rfl rfl); (case kB => exact rfl); (case kD => decide +kernel); (case c2 => exact rfl); (case c3 => exact rfl); (case c4 => exact rfl); intro L' h' tk' cells' F' N' Y' l' B' X' T' D'; k_cells Y'; (try simp only [List.cons_append, List.nil_append] at N'); (try dsimp only)))
local macro_rules | `(tactic| walk_at "m_call") => `(tactic| ((case F => k_asm); (case B => k_asm); (case XB => assumption); (case TB => assumption); (case D => k_asm); (case N => k_asm); (case sub => exact fun q hq => hq); (case A => exact rfl); (case f => exact rfl); (case ke => exact rfl); (case h => exact rfl); (case dp => k_room); (case u => k_room); (case b => assumption)))
local macro_rules | `(tactic| walk_at "m_back") => `(tactic| (intro r' tl' h' gn' tk' g' T' F' N' B' X' TP' D' o' b' P'; (try simp only [List.cons_append, List.nil_append] at N'); (try dsimp only at P')))
local macro_rules | `(tactic| walk_at "m_arg") => `(tactic| first | assumption | exact ArgIn.mono (by assumption) (by walk_at "m_sub"))
local macro_rules | `(tactic| walk_at "m_ltc") => `(tactic| first | assumption | exact Nat.lt_succ_self _ | exact Nat.lt_succ_of_lt (Nat.lt_succ_self _) | exact Nat.lt_succ_of_lt (Nat.lt_succ_of_lt (Nat.lt_succ_self _)) | exact Nat.lt_succ_of_lt (Nat.lt_succ_of_lt (Nat.lt_succ_of_lt (Nat.lt_succ_self _))) | exact And.left (by assumption) | exact And.left (And.right (by assumption)) | exact And.left (And.right (And.right (by assumption))) | exact And.left (And.right (And.right (And.right (by assumption)))) | exact And.left (And.right (And.right (And.right (And.right (by assumption))))) | exact And.left (And.right (And.right (And.right (And.right (And.right (by assumption)))))) | exact And.left (And.right (And.right (And.right (And.right (And.right (And.right (by assumption))))))))
local macro_rules | `(tactic| walk_at "m_off") => `(tactic| (repeat (first
  | exact off_nil
  | (refine off_gt ?_ ?_; focus (walk_at "m_ltc"))
  | (refine off_lt ?_ ?_; focus (walk_at "m_ltc"))
  | refine off_app ?_ ?_
  | (refine off_old (by assumption) ?_; focus ((repeat (first | exact Nat.le_refl _ | refine Nat.le_succ_of_le ?_)); done))
  | (refine' off_new (o := _) ?h9 ?m9; (case h9 => assumption); (case m9 => k_mem)))))
local macro_rules | `(tactic| walk_at "storeName") => `(tactic| ((with_reducible show wpAny _ _ (storeName (envOfC _ _ _ _ _) _ _) _ _ _); first
  | (refine' store_cell (own := []) ?F ?N ?hc ?hd ?off ?_; (case F => k_asm); (case N => k_asm); (case hc => exact rfl); (case hd => assumption); (case off => walk_at "m_off"); intro h' o' F' N' d'; (try simp only [List.cons_append, List.nil_append] at N'))
  | (refine' store_cell (own := [_]) ?F ?N ?hc ?hd ?off ?_; (case F => k_asm); (case N => k_asm); (case hc => exact rfl); (case hd => assumption); (case off => walk_at "m_off"); intro h' o' F' N' d'; (try simp only [List.cons_append, List.nil_append] at N'))
  | (refine' store_cell (own := [_, _]) ?F ?N ?hc ?hd ?off ?_; (case F => k_asm); (case N => k_asm); (case hc => exact rfl); (case hd => assumption); (case off => walk_at "m_off"); intro h' o' F' N' d'; (try simp only [List.cons_append, List.nil_append] at N'))
  | (refine' store_cell (own := [_, _, _]) ?F ?N ?hc ?hd ?off ?_; (case F => k_asm); (case N => k_asm); (case hc => exact rfl); (case hd => assumption); (case off => walk_at "m_off"); intro h' o' F' N' d'; (try simp only [List.cons_append, List.nil_append] at N'))
  | (refine' store_cell (own := [_, _, _, _]) ?F ?N ?hc ?hd ?off ?_; (case F => k_asm); (case N => k_asm); (case hc => exact rfl); (case hd => assumption); (case off => walk_at "m_off"); intro h' o' F' N' d'; (try simp only [List.cons_append, List.nil_append] at N'))))
local macro_rules | `(tactic| walk_at "exec Assign cons ListComp") => `(tactic| (k_dflt (refine' comp_a ?sw ?cl ?kd ?nm ?hs ?_; (case sw => with_unfolding_all rfl); (case cl => with_unfolding_all rfl); (case kd => rfl); (case nm => decide); (case hs => (intro _; rfl)))))
local macro_rules | `(tactic| walk_at "eval ListComp") => `(tactic| (k_dflt (refine' comp_e ?cl ?kd ?nm ?hs ?_; (case cl => with_unfolding_all rfl); (case kd => rfl); (case nm => decide); (case hs => (intro _; rfl)))))
local macro_rules | `(tactic| walk_at "pyIter ref") => `(tactic| fail "pyIter")
local macro_rules | `(tactic| walk_at "m_split") => `(tactic| first
  | exact Split.nil
  | (refine' Split.app ?h9 ?r9; (case h9 => first | assumption | exact ord_sub (by assumption) (by walk_at "m_sub")); (case r9 => walk_at "m_split"))
  | (refine' Split.cons ?h9 ?r9; (case h9 => first | exact lt_sub (by assumption) (by walk_at "m_sub") | (refine off_old (by assumption) ?_; (repeat (first | exact Nat.le_refl _ | refine Nat.le_succ_of_le ?_)); done) | (intro q9 hq9; (try dsimp only); refine Nat.ne_of_lt ?_; walk_at "m_lt")); (case r9 => walk_at "m_split")))
local macro_rules | `(tactic| walk_at "m_wrp") => `(tactic| (walk_at "m_back"; rename_i P'; have P9' := P'; obtain ⟨a9', dx9', t19', t29', t39', pv9', cv9', e9', h19', h29'⟩ := DatIn.objs P9'; subst e9'; have hd9' := DatIn.doc P9' (by walk_at "m_doc"); (try dsimp only [Doc.val] at h29')))
section
local macro_rules | `(tactic| walk_at "call ref") => `(tactic| (k_dflt (apply call_meth; walk_at "ms"; apply use_wrapC; walk_at "ms"; walk_at "m_wrp")))
local macro_rules | `(tactic| walk_at "call ref") => `(tactic| (k_dflt (apply use_gfd; walk_at "ms"; walk_at "mi"; intro P'; (try dsimp only at P'))))
section
variable {w : World} {p : Program} {loose : List Str} {mean : ExcName → Option Value} {mg mb : Str → Option Value}
theorem fields_base : Spec w p loose mean mg mb 499 30 300
    (fun (x : Doc × List Key × Doc × List Str) news args => ∃ v a, args = ⟨[v, a], [(Str.ofString "create", .bool false)]⟩ ∧ PathIn w news v (.fields x.2.2.2) ∧ (∀ y ∈ x.2.2.2, y ∈ NAMES) ∧ x.2.2.2.length ≤ 2 ∧ DocIn w news x.1 ∧ ArgIn w news x.1 a x.2.1 x.2.2.1)
    (fun x news r => FindPost w x.1 (under x.2.1 ((Path.fields x.2.2.2).walk x.2.2.1)) news r) := by
  intro dp un gd base fr g news s args R x G hdp hun hgn hpre ret
  obtain ⟨root, ks, d, fs⟩ := x
  obtain ⟨v, a, rfl, hp, hfs, hl2, hr, ha⟩ := hpre
  have KB := G.kb
  have TB := G.tb
  revert KB
  k_fill
  intro KB
  dsimp only at hr ha ret hp hfs hl2
  cases hp with
  | fields p1 p2 p3 p4 =>
  k_dflt walk_at "m_enterC"
  try k_fold
  k_steps
  k_dflt (refine' tupleI (fun M i ys => Paired (fun v f => GfdPost w (root, ks, d, f) M v) ys (fs.take i)) ?zF ?zB ?zXB ?zTB ?zD ?zN ?zb ?zhh ?zhm ?zhcell ?zkd ?zhx ?zlen ?zI ?zEA ?zfin; (case zF => k_asm); (case zB => k_asm); (case zXB => assumption); (case zTB => assumption); (case zD => k_asm); (case zN => k_asm); (case zb => assumption); (case zhh => exact rfl); (case zhm => k_mem); (case zhcell => decide); (case zkd => exact rfl); (case zhx => exact rfl))
  case zlen => exact fun M i ys h => Nat.le_trans (paired_take_len h) (Nat.le_trans hl2 (by decide))
  case zI => exact fun M => .nil
  case zEA =>
    intro i own C oC D mc h gn tk g2 ys tl Q Z E' hi hB hO F' N' B' X' TP' D' b' hI ord hH kQ kZ
    obtain ⟨v, hv, hmc⟩ := hB
    obtain ⟨x, t, rfl, hx⟩ := strsAt p4 hv
    have hxN : x ∈ NAMES := hfs _ (List.mem_of_getElem? hx)
    refine wpAny_tests_nil ?_
    simp only [if_true]
    k_steps
    (refine' hands_end ?zk ?ze1 ?ze2 ?zT ?zF ?zN ?zB ?zD ?zb ?zS ?_; (case zk => assumption); (case ze1 => exact rfl); (case ze2 => exact rfl); (case zF => k_asm); (case zN => k_asm); (case zB => k_asm); (case zD => k_asm); (case zT => walk_at "m_turn"); (case zb => assumption); (case zS => walk_at "m_split"))
    intro hM
    dsimp only at hI ⊢
    refine paired_take (paired_imp (fun _ _ h9 => GfdPost.mono h9 ?_) hI) hx (GfdPost.mono (by assumption) ?_)
    · walk_at "m_sub"
    · walk_at "m_sub"
  case zfin =>
    refine' blockEnd_a ?ze1 ?ze2 ?ze3 ?_
    case ze1 => rfl
    case ze2 => rfl
    case ze3 => rfl
    intro D g2 h gn tk ys tl T' F' N' B' D' b' hlt ord hI
    k_steps
    have hY := paired_take_all hI (Nat.le_of_eq (strsLen p4).symm)
    have hYl : ys.length = fs.length := hY.length
    k_dflt (refine' listI (fun M i zs => DatsIn w M root zs (pick d ks (fs.take i))) ?zF ?zB ?zXB ?zTB ?zD ?zN ?zb ?zhh ?zhm ?zhcell ?zkd ?zhx ?zlen ?zI ?zEA ?zfin; (case zF => k_asm); (case zB => k_asm); (case zXB => assumption); (case zTB => assumption); (case zD => k_asm); (case zN => k_asm); (case zb => assumption); (case zhh => exact rfl); (case zhm => k_mem); (case zhcell => decide); (case zkd => exact rfl); (case zhx => exact rfl))
    case zlen =>
      intro M i zs h9
      have e1 := h9.length
      have e2 := pick_len d ks (fs.take i)
      rw [List.length_take] at e2
      exact Nat.le_trans (Nat.le_trans (Nat.le_of_eq e1) (Nat.le_trans e2 (Nat.le_trans (Nat.min_le_right _ _) hl2))) (by decide)
    case zI => exact fun M => .nil
    case zEA =>
      intro i own C oC D2 mc h2 gn2 tk2 g3 zs tl2 Q Z E' hi hB hO F' N' B' X' TP' D' b' hI2 ord2 hH kQ kZ
      obtain ⟨v, hv, hmc⟩ := hB
      obtain ⟨x, hx, hG⟩ := paired_get hY hv
      refine wpAny_tests_one ?_
      unfold GfdPost at hG
      dsimp only at hG
      cases hg : d.get (.name x) with
      | none =>
        simp only [hg] at hG
        subst hG
        k_steps
        (refine' hands_end ?zk ?ze1 ?ze2 ?zT ?zF ?zN ?zB ?zD ?zb ?zS ?_; (case zk => assumption); (case ze1 => exact rfl); (case ze2 => exact rfl); (case zF => k_asm); (case zN => k_asm); (case zB => k_asm); (case zD => k_asm); (case zT => walk_at "m_turn"); (case zb => assumption); (case zS => walk_at "m_split"))
        intro hM
        dsimp only at hI2 ⊢
        rw [pick_none hx hg]
        exact hI2.mono (by walk_at "m_sub")
      | some e =>
        simp only [hg] at hG
        obtain ⟨a, dx, t1, t2, t3, pv, cv, rfl, q1, q2⟩ := hG.objs
        k_steps
        (refine' hands_end ?zk ?ze1 ?ze2 ?zT ?zF ?zN ?zB ?zD ?zb ?zS ?_; (case zk => assumption); (case ze1 => exact rfl); (case ze2 => exact rfl); (case zF => k_asm); (case zN => k_asm); (case zB => k_asm); (case zD => k_asm); (case zT => walk_at "m_turn"); (case zb => assumption); (case zS => walk_at "m_split"))
        intro hM
        dsimp only at hI2 ⊢
        rw [pick_some hx hg]
        exact (hI2.mono (by walk_at "m_sub")).add (hG.mono (by walk_at "m_sub"))
    case zfin =>
      refine' blockEnd_e ?_
      intro D2 g3 h3 gn3 tk3 zs tl3 T' F' N' B' D' b' hlt2 ord2 hZ
      refine' fin_led ?zmG ?zmR ?zm1 ?zm2 ?zmT ?zmF ?zmN ?zmB ?zmD ?zmb ?zmS ?_
      case zmG => assumption
      case zmR => assumption
      case zm1 => exact rfl
      case zm2 => exact rfl
      case zmF => k_asm
      case zmT => walk_at "m_turn"
      case zmN => k_asm
      case zmB => k_asm
      case zmD => k_asm
      case zmb => assumption
      case zmS => walk_at "m_split"
      intro hM
      have e1 : fs.length ≤ ys.length := Nat.le_of_eq hYl.symm
      rw [List.take_of_length_le e1] at hZ
      dsimp only
      rw [pick_walk]
      exact ⟨D2, zs, _, rfl, hM _ (by k_mem), hZ.mono fun q hq => hM q (by (revert q; walk_at "m_sub"))⟩
end
end
section
section
variable {w : World} {p : Program} {loose : List Str} {mean : ExcName → Option Value} {mg mb : Str → Option Value}
  {A A₀ : Around} {base h₀ : Heap} {env : Env} {outer : List Env} {L : Addr} {m : Str → Option Value} {news M : Led} {s : Shared} {Q E : Value → Shared → Prop} {f : Addr} {n u : Nat}
/-- the contract of 'find' at a path -/
abbrev FindSpec (w : World) (p : Program) (loose : List Str) (mean : ExcName → Option Value) (mg mb : Str → Option Value) (f : Addr) (n u : Nat) (q : Path) : Prop :=
  Spec w p loose mean mg mb f n u (fun (x : Doc × List Key × Doc) news args => ∃ v a, args = ⟨[v, a], []⟩ ∧ PathIn w news v q ∧ DocIn w news x.1 ∧ ArgIn w news x.1 a x.2.1 x.2.2) (fun x news r => FindPost w x.1 (under x.2.1 (q.walk x.2.2)) news r)
theorem use_fbase {root d : Doc} {ks : List Key} {v a : Value} {fs : List Str} (F : Fr h₀ L s.heap m) (B : Below A₀ base outer h₀) (XB : (hd.heap_1 w.params).In base) (TB : Top p loose mean mg mb base) (D : KtsDicts (outer.filterMap (·.frame)) h₀)
    (N : News h₀ L s.heap M) (hA : A.frames = some (env :: outer)) (hf : env.frame = some L) (hke : env.scope.kind = .function) (hh : A.handled = none) (hdp : A.depth + 30 < recursionLimit) (hu : A.units + 300 < cLine)
    (hb : AllBare s.gens) (hp : PathIn w news v (.fields fs)) (hn : ∀ y ∈ fs, y ∈ NAMES) (hl : fs.length ≤ 2) (ha : ArgIn w news root a ks d) (hr : DocIn w news root) (sub : ∀ q ∈ news, q ∈ M)
    (k : Comes w p loose mean mg mb A₀ base outer L m h₀ M s Q (fun tl r => FindPost w root (under ks ((Path.fields fs).walk d)) (news ++ tl) r)) : wpAny (model Challenge.rw_bm0005_01.row.prog w) A (call (.ref 499) [v, a] [(Str.ofString "create", .bool false)]) Q E s :=
  fields_base.call F B XB TB D N sub hA hf hke hh hdp hu hb (root, ks, d, fs) ⟨v, a, rfl, hp, hn, hl, hr, ha⟩ k
end
local macro_rules | `(tactic| walk_at "call ref") => `(tactic| (k_dflt (apply use_fbase; walk_at "ms"; walk_at "mi"; intro P'; (try dsimp only at P'))))
section
variable {w : World} {p : Program} {loose : List Str} {mean : ExcName → Option Value} {mg mb : Str → Option Value}
theorem fields_find {fs : List Str} (hn : ∀ y ∈ fs, y ∈ NAMES) (hl : fs.length ≤ 2) : FindSpec w p loose mean mg mb 487 32 310 (.fields fs) := by
  intro dp un gd base fr g news s args R x G hdp hun hgn hpre ret
  obtain ⟨root, ks, d⟩ := x
  obtain ⟨v, a, rfl, hp, hr, ha⟩ := hpre
  have KB := G.kb
  have TB := G.tb
  revert KB
  k_fill
  intro KB
  dsimp only at hr ha ret hp
  have hp0 := hp
  cases hp with
  | fields p1 p2 p3 p4 =>
  k_dflt walk_at "m_enter"
  k_fold
  k_steps
  walk_at "m_fin"
  intro hM
  obtain ⟨c, vs, n, rfl, q1, q2⟩ := (by assumption : FindPost _ _ _ _ _)
  exact ⟨c, vs, n, rfl, hM _ q1, q2.mono hM⟩
end
end
section
section
variable {w : World} {p : Program} {loose : List Str} {mean : ExcName → Option Value} {mg mb : Str → Option Value}
  {A A₀ : Around} {g₁ base : Heap} {outer : List Env} {L : Addr} {s : Shared}

theorem fr_congr {g h : Heap} {m m' : Str → Option Value} (F : Fr g L h m) (e : ∀ z, m z = m' z) : Fr g L h m' := by
  have : m = m' := funext e
  rwa [← this]

/-- what a loop's body owes to the next turn -/
def Nexts (A₀ : Around) (base : Heap) (outer : List Env) (L : Addr) (g : Heap) (J : Addr) (oJ : Obj) (s : Shared) (Q : Flow → Shared → Prop) (Post : (Str → Option Value) → Led → Prop) : Prop :=
  ∀ m M h gn tk g', KtsTurn (outer.filterMap (·.frame)) g g' → Fr g' L h m → News g' L h ((J, oJ) :: M) → Below A₀ base outer g' → KtsDicts (outer.filterMap (·.frame)) g' → AllBare gn → (∀ q ∈ M, q.1 ≠ J) → Post m M → Q .next ⟨h, gn, s.drawn, tk, s.os⟩
theorem nexts_end {g g' h : Heap} {J : Addr} {oJ : Obj} {Q : Flow → Shared → Prop} {Post : (Str → Option Value) → Led → Prop} {m : Str → Option Value} {M M' : Led} {gn : Array GenState} {tk : Nat} {dr : Drawn} {os : OsState} (k : Nexts A₀ base outer L g J oJ s Q Post) (e1 : s.drawn = dr) (e2 : s.os = os)
    (T : KtsTurn (outer.filterMap (·.frame)) g g') (F : Fr g' L h m) (N : News g' L h M') (B : Below A₀ base outer g') (D : KtsDicts (outer.filterMap (·.frame)) g') (hb : AllBare gn) (hs : ∀ q ∈ (J, oJ) :: M, q ∈ M') (off : ∀ q ∈ M, q.1 ≠ J) (post : Post m M) : Q .next ⟨h, gn, dr, tk, os⟩ := e1 ▸ e2 ▸
  k m M h gn tk g' T F (fun q hq => N q (hs q hq)) B D hb off post

/-- one turn of a loop -/
def TurnAt (w : World) (p : Program) (loose : List Str) (mean : ExcName → Option Value) (mg mb : Str → Option Value) (A A₀ : Around) (base : Heap) (outer : List Env) (L : Addr) (g₁ : Heap) (body : List Stmt) (env : Env)
    (Bnd : Nat → (Str → Option Value) → (Str → Option Value) → Prop) (n : Nat) (Inv : Nat → (Str → Option Value) → Led → Prop) (s : Shared) : Prop :=
  ∀ i J oJ m m' M h gn tk g (Q : Flow → Shared → Prop) (E' : Value → Shared → Prop), i < n → Bnd i m m' → Inv i m M → KtsTurn (outer.filterMap (·.frame)) g₁ g → Fr g L h m' → News g L h ((J, oJ) :: M) → Below A₀ base outer g → (hd.heap_1 w.params).In g → Top p loose mean mg mb g → KtsDicts (outer.filterMap (·.frame)) g → AllBare gn → (∀ q ∈ M, q.1 ≠ J) →
    Nexts A₀ base outer L g J oJ s Q (fun m M => Inv (i + 1) m M) → wpAny (model Challenge.rw_bm0005_01.row.prog w) A (execs body env) Q E' ⟨h, gn, s.drawn, tk, s.os⟩

theorem for_core {target : Expr} {body : List Stmt} {env : Env} {J : Addr} {oJ : Obj} {fp : List Addr} {n : Nat} {P Md : Nat → Value → Heap → Prop} {St : Nat → Heap → Prop} {Bnd : Nat → (Str → Option Value) → (Str → Option Value) → Prop}
    {R : Result → Shared → Prop} {keep M₁ : Led} {Inv : Nat → (Str → Option Value) → Led → Prop} {m₁ : Str → Option Value} (XB : (hd.heap_1 w.params).In base) (TB : Top p loose mean mg mb base)
    (W : KTurns Challenge.rw_bm0005_01.row.prog w A target J fp [J] n P Md St) (hLe : env.locals = L) (hfp : ∀ b ∈ fp, b = J ∨ ∃ o, (b, o) ∈ keep) (hkeep : ∀ i m M, Inv i m M → ∀ q ∈ keep, q ∈ M) (hJo : ∀ i h, St i h → ∃ o, h.get? J = some o)
    (hassign : ∀ i v (s : Shared) (mc : Str → Option Value) (Q : Unit → Shared → Prop) (E : Value → Shared → Prop), P i v s.heap → (∀ q ∈ keep, s.heap.get? q.1 = some q.2) → s.heap.Ns L mc →
      (∀ h' tk mc', h'.Ns L mc' → Bnd i mc mc' → (∀ b o, b ≠ L → s.heap.get? b = some o → h'.get? b = some o) → Q () { s with heap := h', toks := tk }) → wpAny (model Challenge.rw_bm0005_01.row.prog w) A (assign target env v) Q E s)
    (step : TurnAt w p loose mean mg mb A A₀ base outer L g₁ body env Bnd n Inv s)
    (hst : St 0 s.heap) (S : Std A₀ base outer g₁ L m₁ g₁ s.heap s.gens M₁) (hJL : J ≠ L) (hJ₀ : g₁.get? J = none) (off : ∀ q ∈ M₁, q.1 ≠ J) (h0 : Inv 0 m₁ M₁)
    (hR : ∀ g h gn tk m M, KtsTurn (outer.filterMap (·.frame)) g₁ g → Fr g L h m → News g L h M → Below A₀ base outer g → KtsDicts (outer.filterMap (·.frame)) g → AllBare gn → Inv n m M → R (.ok .next) ⟨h, gn, s.drawn, tk, s.os⟩) :
    codeAny (model Challenge.rw_bm0005_01.row.prog w) A (.forLoop target (.ref J) body [] env) R s := by
  refine codeAny_forLoop_any (fun k s' => ∃ h' gn tk i m M g, s' = ⟨h', gn, s.drawn, tk, s.os⟩ ∧ i ≤ n ∧ k = n + 1 - i ∧ St i h' ∧ KtsTurn (outer.filterMap (·.frame)) g₁ g ∧ Std A₀ base outer g₁ L m g h' gn M ∧ (∀ q ∈ M, q.1 ≠ J) ∧ Inv i m M)
    ?_ (n + 1) ⟨s.heap, s.gens, s.toks, 0, m₁, M₁, g₁, rfl, Nat.zero_le _, rfl, hst, .refl, S, off, h0⟩
  rintro k s' ⟨h', gn, tk, i, m, M, g, rfl, hi, rfl, hst', T', S', off', inv⟩
  have gJ : g.get? J = none := T'.none_ _ hJ₀
  by_cases hlt : i < n
  · refine W.item i _ _ _ hlt hst' fun v h₂ tk₂ hMd hk₂ => ?_
    have S₂ := S'.but hk₂ (fun b hb => by rw [List.mem_singleton.mp hb]; exact gJ) (fun hb => hJL (List.mem_singleton.mp hb).symm) (fun q hq hb => off' q hq (List.mem_singleton.mp hb))
    refine W.go i v _ _ _ hMd fun h₃ hP hst₃ hk₃ => ?_
    have S₃ := S₂.but hk₃ (fun b hb => by rw [List.mem_singleton.mp hb]; exact gJ) (fun hb => hJL (List.mem_singleton.mp hb).symm) (fun q hq hb => off' q hq (List.mem_singleton.mp hb))
    refine hassign i v _ m _ _ hP (fun q hq => (S₃.N q (hkeep _ _ _ inv q hq)).1) S₃.F.ns fun h₄ tk₄ mc' hn₄ hB hk₄ => ?_
    have gL : g.get? L = none := kts_self S₃.F
    have hLf : L ∉ fp := fun hb => by
      rcases hfp _ hb with z | ⟨o, ho⟩
      · exact hJL z.symm
      · exact (S'.N _ (hkeep _ _ _ inv _ ho)).2.1 rfl
    have F₄ : Fr g L h₄ mc' := ⟨hn₄, fun b o e => hk₄ b o (fun z => by rw [z, gL] at e; cases e) (S₃.F.keep b o e), S₃.F.above⟩
    have hst₄ : St (i + 1) h₄ := W.frame _ _ _ hst₃ fun b hb o e => hk₄ b o (fun z => hLf (z ▸ hb)) e
    obtain ⟨oJ, heJ⟩ := hJo _ _ hst₄
    have N₄ : News g L h₄ ((J, oJ) :: M) := fun q hq => by
      rcases List.mem_cons.mp hq with rfl | hq
      · exact ⟨heJ, hJL, gJ⟩
      · exact ⟨hk₄ _ _ (S₃.N q hq).2.1 (S₃.N q hq).1, (S₃.N q hq).2⟩
    refine step i J oJ m mc' M h₄ gn tk₄ g _ _ hlt hB inv T' F₄ N₄ S₃.B (XB.keeps S₃.B.stays) (TB.keeps S₃.B.stays) S₃.D S₃.gens off' ?_
    intro m₅ M₅ h₅ gn₅ tk₅ g₅ T₅ F₅ N₅ B₅ D₅ b₅ off₅ inv₅
    refine ⟨n + 1 - (i + 1), by omega, h₅, gn₅, tk₅, i + 1, m₅, M₅, g₅, rfl, hlt, rfl, ?_, T'.trans T₅, ⟨T'.trans T₅, F₅, fun q hq => N₅ q (List.mem_cons_of_mem _ hq), B₅, D₅, b₅⟩, off₅, inv₅⟩
    refine W.frame _ _ _ hst₄ fun b hb o e => ?_
    rcases hfp b hb with z | ⟨o', ho⟩
    · subst z
      rw [heJ] at e; cases e
      exact (N₅ _ List.mem_cons_self).1
    · have := (N₄ (b, o') (List.mem_cons_of_mem _ (hkeep _ _ _ inv _ ho))).1
      rw [this] at e; cases e
      exact (N₅ (b, o') (List.mem_cons_of_mem _ (hkeep _ _ _ inv₅ _ ho))).1
  · obtain rfl : i = n := Nat.le_antisymm hi (Nat.not_lt.mp hlt)
    refine W.done _ _ _ hst' fun h₂ tk₂ hk₂ => ?_
    have S₂ := S'.but hk₂ (fun b hb => by rw [List.mem_singleton.mp hb]; exact gJ) (fun hb => hJL (List.mem_singleton.mp hb).symm) (fun q hq hb => off' q hq (List.mem_singleton.mp hb))
    exact wpAny_execs_nil (hR g h₂ gn tk₂ m M T' S₂.F S₂.N S₂.B S₂.D S₂.gens inv)
end
section
variable {w : World} {p : Program} {loose : List Str} {mean : ExcName → Option Value} {mg mb : Str → Option Value}
  {A A₀ : Around} {g₁ base : Heap} {outer : List Env} {L : Addr} {s : Shared} {E : Value → Shared → Prop}
/-- after a loop -/
def Loops (A₀ : Around) (base : Heap) (outer : List Env) (L : Addr) (g₁ : Heap) (s : Shared) (R : Result → Shared → Prop) (Post : (Str → Option Value) → Led → Prop) : Prop :=
  ∀ g h gn tk m M, KtsTurn (outer.filterMap (·.frame)) g₁ g → Fr g L h m → News g L h M → Below A₀ base outer g → KtsDicts (outer.filterMap (·.frame)) g → AllBare gn → Post m M → R (.ok .next) ⟨h, gn, s.drawn, tk, s.os⟩
/-- the target is a name -/
def BndName (vs : List Value) (x : Str) (i : Nat) (m m' : Str → Option Value) : Prop := ∃ v, vs[i]? = some v ∧ m' = fun z => if z = x then some v else m z

theorem for_tuple {x : Str} {px : Pos} {body : List Stmt} {env : Env} {M₁ : Led} {Inv : Nat → (Str → Option Value) → Led → Prop} {m₁ : Str → Option Value} {R : Result → Shared → Prop} {ax : Addr} {vs : List Value} {nn : Nat}
    (F : Fr g₁ L s.heap m₁) (B : Below A₀ base outer g₁) (XB : (hd.heap_1 w.params).In base) (TB : Top p loose mean mg mb base) (D : KtsDicts (outer.filterMap (·.frame)) g₁) (N : News g₁ L s.heap M₁) (hb : AllBare s.gens) (hh : A.handled = none)
    (hm : (ax, tupO vs nn) ∈ M₁) (hLe : env.locals = L) (hx : env.kindOf x = some .local) (hp : (env.scope.kind == .class || (env.scope.kind == .module && env.locals != env.globals)) = false)
    (hkeep : ∀ i m M, Inv i m M → (ax, tupO vs nn) ∈ M) (h0 : Inv 0 m₁ M₁)
    (step : TurnAt w p loose mean mg mb A A₀ base outer L g₁ body env (BndName vs x) vs.length Inv s) (k : Loops A₀ base outer L g₁ s R (Inv vs.length)) :
    wpAny (model Challenge.rw_bm0005_01.row.prog w) A (pyIter (.ref ax)) (fun it s₂ => codeAny (model Challenge.rw_bm0005_01.row.prog w) A (.forLoop (.Name x px) it body [] env) R s₂) E s := by
  subst hLe
  have hl := isTup_of (N _ hm).1
  have hlt : ax < s.heap.objs.size := Heap.lt_size (N _ hm).1
  refine wpAny_pyIter_tuple hl ?_
  have up : ∀ b o, s.heap.get? b = some o → (s.heap.push { cls := .type "tuple_iterator", data := .fields #[.ref ax, .int 0 0] }).get? b = some o := fun b o e => Heap.get?_push_of_some _ e
  have S₀ : Std A₀ base outer g₁ env.locals m₁ g₁ s.heap s.gens M₁ := ⟨.refl, F, N, B, D, hb⟩
  refine for_core (s := { s with heap := s.heap.push { cls := .type "tuple_iterator", data := .fields #[.ref ax, .int 0 0] } }) (keep := [(ax, tupO vs nn)]) (Inv := Inv) (Bnd := BndName vs x) (n := vs.toArray.size) (m₁ := m₁) (M₁ := M₁) (oJ := ({ cls := .type "tuple_iterator", data := .fields #[.ref ax, .int 0 0] } : Obj)) XB TB
    (KTurns.ofWalks (target := .Name x px) (Walks.tuple hh s.heap.objs.size ax (Nat.ne_of_lt hlt) vs.toArray) fun i v s' Q E _ hQ => wpAny_pure hQ) rfl
    (fun b hb => ?_) (fun i m M h q hq => by rw [List.mem_singleton.mp hq]; exact hkeep i m M h) (fun i h st => by obtain ⟨o, e, _⟩ := st.1; exact ⟨o, e⟩)
    (fun i v s' mc Q E hP _ hn k => wpAny_assign_Name (wpAny_storeName_local hx hn (fun h₂ hn₂ hs₂ => k h₂ _ _ hn₂ ⟨v, by simpa using hP, rfl⟩ fun b o hb e => hs₂.extBut b o hb e) hp))
    (fun i J oJ m m' M h gn tk g Q E' hi => step i J oJ m m' M h gn tk g Q E' (by simpa using hi)) ⟨⟨_, Heap.get?_push_size _ rfl, rfl, rfl⟩, hl.at fun o e => up _ _ e⟩ (S₀.grow up) (Nat.ne_of_gt F.ns.lt) (next_is_new F) (fun q hq => Nat.ne_of_lt (Heap.lt_size (N q hq).1)) h0
    (fun g h gn tk m M T F N B D b inv => k g h gn tk m M T F N B D b (by simpa using inv))
  rcases List.mem_cons.mp hb with rfl | hb
  · exact .inl rfl
  · rw [List.mem_singleton.mp hb]; exact .inr ⟨_, List.mem_singleton.mpr rfl⟩
theorem for_list {x : Str} {px : Pos} {body : List Stmt} {env : Env} {M₁ : Led} {Inv : Nat → (Str → Option Value) → Led → Prop} {m₁ : Str → Option Value} {R : Result → Shared → Prop} {ax : Addr} {vs : List Value} {nn : Nat}
    (F : Fr g₁ L s.heap m₁) (B : Below A₀ base outer g₁) (XB : (hd.heap_1 w.params).In base) (TB : Top p loose mean mg mb base) (D : KtsDicts (outer.filterMap (·.frame)) g₁) (N : News g₁ L s.heap M₁) (hb : AllBare s.gens) (hh : A.handled = none)
    (hm : (ax, lstO vs nn) ∈ M₁) (hLe : env.locals = L) (hx : env.kindOf x = some .local) (hp : (env.scope.kind == .class || (env.scope.kind == .module && env.locals != env.globals)) = false)
    (hkeep : ∀ i m M, Inv i m M → (ax, lstO vs nn) ∈ M) (h0 : Inv 0 m₁ M₁)
    (step : TurnAt w p loose mean mg mb A A₀ base outer L g₁ body env (BndName vs x) vs.length Inv s) (k : Loops A₀ base outer L g₁ s R (Inv vs.length)) :
    wpAny (model Challenge.rw_bm0005_01.row.prog w) A (pyIter (.ref ax)) (fun it s₂ => codeAny (model Challenge.rw_bm0005_01.row.prog w) A (.forLoop (.Name x px) it body [] env) R s₂) E s := by
  subst hLe
  have hl := isList_of (N _ hm).1
  have hlt : ax < s.heap.objs.size := Heap.lt_size (N _ hm).1
  refine wpAny_pyIter_list hl ?_
  have up : ∀ b o, s.heap.get? b = some o → (s.heap.push { cls := .type "list_iterator", data := .fields #[.ref ax, .int 0 0] }).get? b = some o := fun b o e => Heap.get?_push_of_some _ e
  have S₀ : Std A₀ base outer g₁ env.locals m₁ g₁ s.heap s.gens M₁ := ⟨.refl, F, N, B, D, hb⟩
  refine for_core (s := { s with heap := s.heap.push { cls := .type "list_iterator", data := .fields #[.ref ax, .int 0 0] } }) (keep := [(ax, lstO vs nn)]) (Inv := Inv) (Bnd := BndName vs x) (n := vs.toArray.size) (m₁ := m₁) (M₁ := M₁) (oJ := ({ cls := .type "list_iterator", data := .fields #[.ref ax, .int 0 0] } : Obj)) XB TB
    (KTurns.ofWalks (target := .Name x px) (Walks.list hh s.heap.objs.size ax (Nat.ne_of_lt hlt) vs.toArray) fun i v s' Q E _ hQ => wpAny_pure hQ) rfl
    (fun b hb => ?_) (fun i m M h q hq => by rw [List.mem_singleton.mp hq]; exact hkeep i m M h) (fun i h st => by obtain ⟨o, e, _⟩ := st.1; exact ⟨o, e⟩)
    (fun i v s' mc Q E hP _ hn k => wpAny_assign_Name (wpAny_storeName_local hx hn (fun h₂ hn₂ hs₂ => k h₂ _ _ hn₂ ⟨v, by simpa using hP, rfl⟩ fun b o hb e => hs₂.extBut b o hb e) hp))
    (fun i J oJ m m' M h gn tk g Q E' hi => step i J oJ m m' M h gn tk g Q E' (by simpa using hi)) ⟨⟨_, Heap.get?_push_size _ rfl, rfl, rfl⟩, hl.push _⟩ (S₀.grow up) (Nat.ne_of_gt F.ns.lt) (next_is_new F) (fun q hq => Nat.ne_of_lt (Heap.lt_size (N q hq).1)) h0
    (fun g h gn tk m M T F N B D b inv => k g h gn tk m M T F N B D b (by simpa using inv))
  rcases List.mem_cons.mp hb with rfl | hb
  · exact .inl rfl
  · rw [List.mem_singleton.mp hb]; exact .inr ⟨_, List.mem_singleton.mpr rfl⟩
end
section
variable {w : World} {p : Program} {loose : List Str} {mean : ExcName → Option Value} {mg mb : Str → Option Value}
  {A A₀ : Around} {g₁ base : Heap} {outer : List Env} {L : Addr} {s : Shared} {E : Value → Shared → Prop}
/-- one turn of a loop that changes no local but its own -/
def TurnI (w : World) (p : Program) (loose : List Str) (mean : ExcName → Option Value) (mg mb : Str → Option Value) (A A₀ : Around) (base : Heap) (outer : List Env) (L : Addr) (g₁ : Heap) (body : List Stmt) (env : Env)
    (vs : List Value) (x : Str) (m₁ : Str → Option Value) (Kk : Nat → Led → Prop) (s : Shared) : Prop :=
  ∀ i v J oJ M h gn tk g (Q : Flow → Shared → Prop) (E' : Value → Shared → Prop), vs[i]? = some v → Kk i M → KtsTurn (outer.filterMap (·.frame)) g₁ g → Fr g L h (fun z => if z = x then some v else m₁ z) → News g L h ((J, oJ) :: M) → Below A₀ base outer g → (hd.heap_1 w.params).In g → Top p loose mean mg mb g → KtsDicts (outer.filterMap (·.frame)) g → AllBare gn → (∀ q ∈ M, q.1 ≠ J) →
    Nexts A₀ base outer L g J oJ s Q (fun m M => (∀ z, z ≠ x → m z = m₁ z) ∧ Kk (i + 1) M) → wpAny (model Challenge.rw_bm0005_01.row.prog w) A (execs body env) Q E' ⟨h, gn, s.drawn, tk, s.os⟩
def LoopsI (A₀ : Around) (base : Heap) (outer : List Env) (L : Addr) (g₁ : Heap) (s : Shared) (R : Result → Shared → Prop) (x : Str) (m₁ : Str → Option Value) (Post : Led → Prop) : Prop :=
  ∀ g h gn tk M (o : Option Value), KtsTurn (outer.filterMap (·.frame)) g₁ g → Fr g L h (fun z => if z = x then o else m₁ z) → News g L h M → Below A₀ base outer g → KtsDicts (outer.filterMap (·.frame)) g → AllBare gn → Post M → R (.ok .next) ⟨h, gn, s.drawn, tk, s.os⟩
theorem turnI {body : List Stmt} {env : Env} {vs : List Value} {x : Str} {m₁ : Str → Option Value} {Kk : Nat → Led → Prop} (h : TurnI w p loose mean mg mb A A₀ base outer L g₁ body env vs x m₁ Kk s) :
    TurnAt w p loose mean mg mb A A₀ base outer L g₁ body env (BndName vs x) vs.length (fun i m M => (∀ z, z ≠ x → m z = m₁ z) ∧ Kk i M) s := by
  intro i J oJ m m' M h' gn tk g Q E' _ hB hI T F N B X TP D b off k
  obtain ⟨v, hv, rfl⟩ := hB
  refine h i v J oJ M h' gn tk g Q E' hv hI.2 T (fr_congr F fun z => ?_) N B X TP D b off k
  by_cases hz : z = x
  · simp [hz]
  · simp [hz, hI.1 z hz]
theorem loopsI {R : Result → Shared → Prop} {x : Str} {m₁ : Str → Option Value} {Post : Led → Prop} (k : LoopsI A₀ base outer L g₁ s R x m₁ Post) : Loops A₀ base outer L g₁ s R (fun m M => (∀ z, z ≠ x → m z = m₁ z) ∧ Post M) := by
  intro g h gn tk m M T F N B D b hI
  refine k g h gn tk M (m x) T (fr_congr F fun z => ?_) N B D b hI.2
  by_cases hz : z = x
  · simp [hz]
  · simp [hz, hI.1 z hz]
theorem forTupleI {x : Str} {px : Pos} {body : List Stmt} {env : Env} {M₁ : Led} (Kk : Led → Nat → Led → Prop) {m₁ : Str → Option Value} {R : Result → Shared → Prop} {ax : Addr} {vs : List Value} {nn : Nat}
    (F : Fr g₁ L s.heap m₁) (B : Below A₀ base outer g₁) (XB : (hd.heap_1 w.params).In base) (TB : Top p loose mean mg mb base) (D : KtsDicts (outer.filterMap (·.frame)) g₁) (N : News g₁ L s.heap M₁) (hb : AllBare s.gens) (hh : A.handled = none)
    (hm : (ax, tupO vs nn) ∈ M₁) (hLe : env.locals = L) (hx : env.kindOf x = some .local) (hp : (env.scope.kind == .class || (env.scope.kind == .module && env.locals != env.globals)) = false)
    (hkeep : ∀ i M, Kk M₁ i M → (ax, tupO vs nn) ∈ M) (h0 : Kk M₁ 0 M₁)
    (step : TurnI w p loose mean mg mb A A₀ base outer L g₁ body env vs x m₁ (Kk M₁) s) (k : LoopsI A₀ base outer L g₁ s R x m₁ (Kk M₁ vs.length)) :
    wpAny (model Challenge.rw_bm0005_01.row.prog w) A (pyIter (.ref ax)) (fun it s₂ => codeAny (model Challenge.rw_bm0005_01.row.prog w) A (.forLoop (.Name x px) it body [] env) R s₂) E s :=
  for_tuple (Inv := fun i m M => (∀ z, z ≠ x → m z = m₁ z) ∧ Kk M₁ i M) F B XB TB D N hb hh hm hLe hx hp (fun i m M h => hkeep i M h.2) ⟨fun _ _ => rfl, h0⟩ (turnI step) (loopsI k)
theorem forListI {x : Str} {px : Pos} {body : List Stmt} {env : Env} {M₁ : Led} (Kk : Led → Nat → Led → Prop) {m₁ : Str → Option Value} {R : Result → Shared → Prop} {ax : Addr} {vs : List Value} {nn : Nat}
    (F : Fr g₁ L s.heap m₁) (B : Below A₀ base outer g₁) (XB : (hd.heap_1 w.params).In base) (TB : Top p loose mean mg mb base) (D : KtsDicts (outer.filterMap (·.frame)) g₁) (N : News g₁ L s.heap M₁) (hb : AllBare s.gens) (hh : A.handled = none)
    (hm : (ax, lstO vs nn) ∈ M₁) (hLe : env.locals = L) (hx : env.kindOf x = some .local) (hp : (env.scope.kind == .class || (env.scope.kind == .module && env.locals != env.globals)) = false)
    (hkeep : ∀ i M, Kk M₁ i M → (ax, lstO vs nn) ∈ M) (h0 : Kk M₁ 0 M₁)
    (step : TurnI w p loose mean mg mb A A₀ base outer L g₁ body env vs x m₁ (Kk M₁) s) (k : LoopsI A₀ base outer L g₁ s R x m₁ (Kk M₁ vs.length)) :
    wpAny (model Challenge.rw_bm0005_01.row.prog w) A (pyIter (.ref ax)) (fun it s₂ => codeAny (model Challenge.rw_bm0005_01.row.prog w) A (.forLoop (.Name x px) it body [] env) R s₂) E s :=
  for_list (Inv := fun i m M => (∀ z, z ≠ x → m z = m₁ z) ∧ Kk M₁ i M) F B XB TB D N hb hh hm hLe hx hp (fun i m M h => hkeep i M h.2) ⟨fun _ _ => rfl, h0⟩ (turnI step) (loopsI k)
end
end
section
theorem ls0 {d : Addr} {l S : Led} (h : AllLt d l) (hs : ∀ q ∈ S, q ∈ l) : ∀ q ∈ S, q.1 ≠ d := fun q hq => Nat.ne_of_lt (ktn_ltOf h q (hs q hq))
theorem ls1 {a0 : Prop} {d : Addr} {l S : Led} (h : a0 ∧ AllLt d l) (hs : ∀ q ∈ S, q ∈ l) : ∀ q ∈ S, q.1 ≠ d := ls0 h.2 hs
theorem ls2 {a0 a1 : Prop} {d : Addr} {l S : Led} (h : a0 ∧ a1 ∧ AllLt d l) (hs : ∀ q ∈ S, q ∈ l) : ∀ q ∈ S, q.1 ≠ d := ls1 h.2 hs
theorem ls3 {a0 a1 a2 : Prop} {d : Addr} {l S : Led} (h : a0 ∧ a1 ∧ a2 ∧ AllLt d l) (hs : ∀ q ∈ S, q ∈ l) : ∀ q ∈ S, q.1 ≠ d := ls2 h.2 hs
theorem ls4 {a0 a1 a2 a3 : Prop} {d : Addr} {l S : Led} (h : a0 ∧ a1 ∧ a2 ∧ a3 ∧ AllLt d l) (hs : ∀ q ∈ S, q ∈ l) : ∀ q ∈ S, q.1 ≠ d := ls3 h.2 hs
theorem ls5 {a0 a1 a2 a3 a4 : Prop} {d : Addr} {l S : Led} (h : a0 ∧ a1 ∧ a2 ∧ a3 ∧ a4 ∧ AllLt d l) (hs : ∀ q ∈ S, q ∈ l) : ∀ q ∈ S, q.1 ≠ d := ls4 h.2 hs
theorem ls6 {a0 a1 a2 a3 a4 a5 : Prop} {d : Addr} {l S : Led} (h : a0 ∧ a1 ∧ a2 ∧ a3 ∧ a4 ∧ a5 ∧ AllLt d l) (hs : ∀ q ∈ S, q ∈ l) : ∀ q ∈ S, q.1 ≠ d := ls5 h.2 hs
theorem ls7 {a0 a1 a2 a3 a4 a5 a6 : Prop} {d : Addr} {l S : Led} (h : a0 ∧ a1 ∧ a2 ∧ a3 ∧ a4 ∧ a5 ∧ a6 ∧ AllLt d l) (hs : ∀ q ∈ S, q ∈ l) : ∀ q ∈ S, q.1 ≠ d := ls6 h.2 hs
theorem ls8 {a0 a1 a2 a3 a4 a5 a6 a7 : Prop} {d : Addr} {l S : Led} (h : a0 ∧ a1 ∧ a2 ∧ a3 ∧ a4 ∧ a5 ∧ a6 ∧ a7 ∧ AllLt d l) (hs : ∀ q ∈ S, q ∈ l) : ∀ q ∈ S, q.1 ≠ d := ls7 h.2 hs
theorem ls9 {a0 a1 a2 a3 a4 a5 a6 a7 a8 : Prop} {d : Addr} {l S : Led} (h : a0 ∧ a1 ∧ a2 ∧ a3 ∧ a4 ∧ a5 ∧ a6 ∧ a7 ∧ a8 ∧ AllLt d l) (hs : ∀ q ∈ S, q ∈ l) : ∀ q ∈ S, q.1 ≠ d := ls8 h.2 hs
theorem ls10 {a0 a1 a2 a3 a4 a5 a6 a7 a8 a9 : Prop} {d : Addr} {l S : Led} (h : a0 ∧ a1 ∧ a2 ∧ a3 ∧ a4 ∧ a5 ∧ a6 ∧ a7 ∧ a8 ∧ a9 ∧ AllLt d l) (hs : ∀ q ∈ S, q ∈ l) : ∀ q ∈ S, q.1 ≠ d := ls9 h.2 hs
theorem ls11 {a0 a1 a2 a3 a4 a5 a6 a7 a8 a9 a10 : Prop} {d : Addr} {l S : Led} (h : a0 ∧ a1 ∧ a2 ∧ a3 ∧ a4 ∧ a5 ∧ a6 ∧ a7 ∧ a8 ∧ a9 ∧ a10 ∧ AllLt d l) (hs : ∀ q ∈ S, q ∈ l) : ∀ q ∈ S, q.1 ≠ d := ls10 h.2 hs
theorem ls12 {a0 a1 a2 a3 a4 a5 a6 a7 a8 a9 a10 a11 : Prop} {d : Addr} {l S : Led} (h : a0 ∧ a1 ∧ a2 ∧ a3 ∧ a4 ∧ a5 ∧ a6 ∧ a7 ∧ a8 ∧ a9 ∧ a10 ∧ a11 ∧ AllLt d l) (hs : ∀ q ∈ S, q ∈ l) : ∀ q ∈ S, q.1 ≠ d := ls11 h.2 hs
theorem ls13 {a0 a1 a2 a3 a4 a5 a6 a7 a8 a9 a10 a11 a12 : Prop} {d : Addr} {l S : Led} (h : a0 ∧ a1 ∧ a2 ∧ a3 ∧ a4 ∧ a5 ∧ a6 ∧ a7 ∧ a8 ∧ a9 ∧ a10 ∧ a11 ∧ a12 ∧ AllLt d l) (hs : ∀ q ∈ S, q ∈ l) : ∀ q ∈ S, q.1 ≠ d := ls12 h.2 hs
theorem ls14 {a0 a1 a2 a3 a4 a5 a6 a7 a8 a9 a10 a11 a12 a13 : Prop} {d : Addr} {l S : Led} (h : a0 ∧ a1 ∧ a2 ∧ a3 ∧ a4 ∧ a5 ∧ a6 ∧ a7 ∧ a8 ∧ a9 ∧ a10 ∧ a11 ∧ a12 ∧ a13 ∧ AllLt d l) (hs : ∀ q ∈ S, q ∈ l) : ∀ q ∈ S, q.1 ≠ d := ls13 h.2 hs
theorem ls15 {a0 a1 a2 a3 a4 a5 a6 a7 a8 a9 a10 a11 a12 a13 a14 : Prop} {d : Addr} {l S : Led} (h : a0 ∧ a1 ∧ a2 ∧ a3 ∧ a4 ∧ a5 ∧ a6 ∧ a7 ∧ a8 ∧ a9 ∧ a10 ∧ a11 ∧ a12 ∧ a13 ∧ a14 ∧ AllLt d l) (hs : ∀ q ∈ S, q ∈ l) : ∀ q ∈ S, q.1 ≠ d := ls14 h.2 hs
theorem ls16 {a0 a1 a2 a3 a4 a5 a6 a7 a8 a9 a10 a11 a12 a13 a14 a15 : Prop} {d : Addr} {l S : Led} (h : a0 ∧ a1 ∧ a2 ∧ a3 ∧ a4 ∧ a5 ∧ a6 ∧ a7 ∧ a8 ∧ a9 ∧ a10 ∧ a11 ∧ a12 ∧ a13 ∧ a14 ∧ a15 ∧ AllLt d l) (hs : ∀ q ∈ S, q ∈ l) : ∀ q ∈ S, q.1 ≠ d := ls15 h.2 hs
theorem seq_list_iadd : seqSlot? (.type "list") (dunderI "add") = pure (some (.builtin "list.__iadd__")) := PySem.seqSlot_of F.slot_list_iadd.lookup (by decide +kernel)
theorem fi_list_iadd : ((some (Value.builtin "list.__iadd__")).isSome && !isSeqSlot (some (Value.builtin "list.__iadd__"))) = false := by decide +kernel
section
variable {prog : Program} {w : World} {A : Around} {s : Shared} {E : Value → Shared → Prop} {m : Str → Option Value} {h₀ : Heap} {L D b : Addr} {M R stuff : Led} {n n' : Nat} {vs zs xs : List Value}
theorem inplace_list {M : Model} {a b : Value} {Q : Value → Shared → Prop} (ha : s.TypeIs a "list") (hb : s.TypeIs b "list") (hc : wpAny M A (call (.builtin "list.__iadd__") [a, b]) Q E s) : wpAny M A (inplaceOp .Add a b) Q E s := by
  unfold inplaceOp
  refine wpAny_holding ?_
  have hfi : fillsInplaceSlot (.type "list") "add" (Operator.Add == .Add) = pure false := by
    unfold fillsInplaceSlot
    show (typeLookup (.type "list") (dunderI "add") >>= fun fi => pure (fi.isSome && !isSeqSlot fi)) = pure false
    rw [F.slot_list_iadd.lookup]
    show (pure ((some (Value.builtin "list.__iadd__")).isSome && !isSeqSlot (some (Value.builtin "list.__iadd__"))) : Sem Bool) = pure false
    exact congrArg pure fi_list_iadd
  refine wpAny_bind (wpAny_typeOf ha (wpAny_bind (wpAny_of_eq hfi ?_)))
  show wpAny M A (if false = true then _ else _) Q E s
  rw [if_neg Bool.false_ne_true]
  refine wpAny_bind (wpAny_binaryOp1_none (nm := "add") ha hb noFill_list_add ?_)
  refine wpAny_bind (wpAny_of_eq seq_list_iadd ?_)
  exact wpAny_bind (wpAny_rule hc)

/-- an object of the ledger is written -/
theorem led_write {h h' : Heap} {o o' : Obj} {M' : Led} (F : Fr h₀ L h m) (N : News h₀ L h M) (hD : (D, o) ∈ M) (hk : ∀ b o, b ≠ D → h.get? b = some o → h'.get? b = some o) (e : h'.get? D = some o') (hM : ∀ q ∈ M', q ∈ M) (off : ∀ q ∈ M', q.1 ≠ D) :
    Fr h₀ L h' m ∧ News h₀ L h' ((D, o') :: M') := by
  obtain ⟨_, hL, hg⟩ := N _ hD
  refine ⟨⟨F.ns.at' fun o e => hk L o (Ne.symm hL) e, fun b o e => hk b o (fun z => by rw [z, hg] at e; cases e) (F.keep b o e), F.above⟩, fun q hq => ?_⟩
  rcases List.mem_cons.mp hq with rfl | hq
  · exact ⟨e, hL, hg⟩
  · exact ⟨hk _ _ (off q hq) (N q (hM q hq)).1, (N q (hM q hq)).2⟩
/-- the ledger M grown by stuff, in which D is written anew -/
theorem split_write {h h' : Heap} {J : Addr} {oJ o o' : Obj} (F : Fr h₀ L h m) (N : News h₀ L h M) (S : Split M ((J, oJ) :: (D, o) :: R) stuff) (hJ : D ≠ J) (off : ∀ q ∈ R, q.1 ≠ D) (hk : ∀ b o, b ≠ D → h.get? b = some o → h'.get? b = some o) (e : h'.get? D = some o') :
    Fr h₀ L h' m ∧ News h₀ L h' ((J, oJ) :: (D, o') :: (R ++ stuff)) := by
  obtain ⟨F', N'⟩ := led_write (M' := (J, oJ) :: (R ++ stuff)) F N (S.mem (D, o) (by simp)) hk e (fun q hq => S.mem q (by
    simp only [List.mem_cons, List.mem_append] at hq ⊢
    rcases hq with h | h | h
    · exact .inl (.inl h)
    · exact .inl (.inr (.inr h))
    · exact .inr h)) (fun q hq => by
    simp only [List.mem_cons, List.mem_append] at hq
    rcases hq with rfl | h | h
    · exact hJ.symm
    · exact off q h
    · exact (S.ord (D, o) (by simp) q h).symm)
  refine ⟨F', fun q hq => N' q ?_⟩
  simp only [List.mem_cons] at hq ⊢
  rcases hq with h | h | h
  · exact .inr (.inl h)
  · exact .inl h
  · exact .inr (.inr h)
theorem lst_app (zs xs : List Value) (n : Nat) : ∃ n', Obj.mapSeq (fun x => x ++ xs.toArray) (lstO zs n) = lstO (zs ++ xs) n' := by
  refine ⟨if (zs.toArray ++ xs.toArray).size == zs.toArray.size then n else n + 1, ?_⟩
  show ({ cls := .type "list", data := .seq (zs.toArray ++ xs.toArray) (if (zs.toArray ++ xs.toArray).size == zs.toArray.size then n else n + 1) } : Obj) = _
  rw [List.append_toArray]
theorem size_fit {zs xs : List Value} (h : zs.length + xs.length ≤ 100) : ¬(!zs.toArray.isEmpty && Builtin.List.listTooLong (zs.toArray.size + xs.toArray.size)) = true := by
  have : Builtin.List.listTooLong (zs.toArray.size + xs.toArray.size) = false := by
    simp only [List.size_toArray, Builtin.List.listTooLong]
    exact decide_eq_false (Nat.not_lt.mpr (Nat.le_trans h (show 100 ≤ sizeLine by decide)))
  rw [this]; simp
/-- 'zs += xs' -/
theorem iadd_turn {J : Addr} {oJ : Obj} {Q : Value → Shared → Prop} (FF : Fr h₀ L s.heap m) (N : News h₀ L s.heap M) (hb : (b, lstO xs n') ∈ M) (offJ : ∀ q ∈ (D, lstO zs n) :: R, q.1 ≠ J) (_hj : (J, oJ) ∈ M) (off : ∀ q ∈ R, q.1 ≠ D) (S : Split M ((J, oJ) :: (D, lstO zs n) :: R) stuff) (hz : zs.length ≤ 90) (hx : xs.length ≤ 10)
    (k : ∀ h' n₂, (∀ q ∈ (J, oJ) :: (D, lstO zs n) :: R, ∀ t ∈ stuff, q.1 ≠ t.1) → Fr h₀ L h' m → News h₀ L h' ((J, oJ) :: (D, lstO (zs ++ xs) n₂) :: (R ++ stuff)) → Q (.ref D) { s with heap := h' }) : wpAny (model prog w) A (inplaceOp .Add (.ref D) (.ref b)) Q E s := by
  have hJ : D ≠ J := offJ (D, lstO zs n) (by simp)
  have hlen : zs.length + xs.length ≤ 100 := by omega
  have zD := N _ (S.mem (D, lstO zs n) (by simp))
  have zb := N _ hb
  refine inplace_list ⟨_, zD.1, rfl⟩ ⟨_, zb.1, rfl⟩ ?_
  refine call_meets F.slot_list_iadd ⟨_, zD.1, rfl⟩ F.entry_list_iadd (F.args_list_iadd_2 _ _) (PySem.AutoSeq1.list___iadd___list_list_0 D zs.toArray n b xs.toArray n' (size_fit hlen) ?_ ?_) ⟨zD.1, zb.1, ?_⟩
  · rw [List.size_toArray]; exact Nat.le_trans (by omega) (show 100 ≤ sizeLine by decide)
  · simp only [List.size_toArray]; exact Nat.le_trans hlen (show 100 ≤ sizeLine + 1 by decide)
  · obtain ⟨n₂, e₂⟩ := lst_app zs xs n
    obtain ⟨F', N'⟩ := split_write (h' := s.heap.update D (Obj.mapSeq fun x => x ++ xs.toArray)) (o' := lstO (zs ++ xs) n₂) FF N S hJ off (fun b o hb e => (Heap.get?_update_other _ _ (Ne.symm hb)).trans e) (by
      rw [Heap.get?_update_self _ zD.1 (by rw [e₂]; rfl), e₂])
    exact k _ n₂ S.ord F' N'
/-- 'zs.append(v)' -/
theorem append_turn {J : Addr} {oJ : Obj} {v : Value} {Q : Value → Shared → Prop} (FF : Fr h₀ L s.heap m) (N : News h₀ L s.heap M) (offJ : ∀ q ∈ (D, lstO zs n) :: R, q.1 ≠ J) (_hj : (J, oJ) ∈ M) (off : ∀ q ∈ R, q.1 ≠ D) (S : Split M ((J, oJ) :: (D, lstO zs n) :: R) stuff) (hz : zs.length ≤ 90)
    (k : ∀ h' n₂, (∀ q ∈ (J, oJ) :: (D, lstO zs n) :: R, ∀ t ∈ stuff, q.1 ≠ t.1) → Fr h₀ L h' m → News h₀ L h' ((J, oJ) :: (D, lstO (zs ++ [v]) n₂) :: (R ++ stuff)) → Q .none { s with heap := h' }) : wpAny (model prog w) A (call (.builtin "list.append") [.ref D, v]) Q E s := by
  have hJ : D ≠ J := offJ (D, lstO zs n) (by simp)
  have zD := N _ (S.mem (D, lstO zs n) (by simp))
  refine append_at (hsz := by rw [List.size_toArray]; exact Nat.le_trans hz (by decide)) zD.1 fun h' hs hD => ?_
  obtain ⟨F', N'⟩ := split_write (h' := h') (o' := lstO (zs ++ [v]) (n + 1)) FF N S hJ off (fun b o hb e => hs.extBut b o hb e) (hD.trans (by rw [show (lstO (zs ++ [v]) (n + 1)) = ({ cls := .type "list", data := .seq (zs.toArray.push v) (n + 1) } : Obj) from by simp [List.push_toArray]]))
  exact k _ _ S.ord F' N'
def Doc.items : Doc → List Doc
  | .list _ xs => xs
  | _ => []
theorem list_doc {d : Doc} (hd : DocIn w M d) (hl : d.isList = true) : ∃ a n, d.val = .ref a ∧ (a, lstO (d.items.map Doc.val) n) ∈ M ∧ d.items.length ≤ 3 := by
  cases hd with
  | none | int | str | dict => cases hl
  | list h1 h2 => exact ⟨_, _, rfl, h1, h2⟩
theorem place_some {d : Doc} {i : Int} (hl : d.isList = true) (h1 : -(d.items.length : Int) ≤ i) (h2 : i < (d.items.length : Int)) : ∃ e, d.get (.place i) = some e ∧ d.items[(if i < 0 then i + d.items.length else i).toNat]? = some e := by
  cases d with
  | leaf | dict => cases hl
  | list a xs =>
    simp only [Doc.items] at h1 h2 ⊢
    have e : (Doc.list a xs).get (.place i) = xs[(if i < 0 then i + xs.length else i).toNat]? := by simp only [Doc.get]; rw [if_pos ⟨h1, h2⟩]
    have hlt : (if i < 0 then i + (xs.length : Int) else i).toNat < xs.length := by split <;> omega
    exact ⟨_, e.trans (List.getElem?_eq_getElem hlt), List.getElem?_eq_getElem hlt⟩
theorem place_none {d : Doc} {i : Int} (hl : d.isList = true) (h : ¬(-(d.items.length : Int) ≤ i ∧ i < (d.items.length : Int))) : d.get (.place i) = none := by
  cases d with
  | leaf | dict => cases hl
  | list a xs => simp only [Doc.items] at h; simp only [Doc.get]; rw [if_neg h]
theorem place_nolist {d : Doc} {i : Int} (hl : d.isList = false) : d.get (.place i) = none := by cases d <;> first | rfl | cases hl
theorem small_fit : (100 : Int) < 2 ^ 63 := by decide
theorem truthy_doc {d : Doc} {Q : Bool → Shared → Prop} (N : News h₀ L s.heap M) (hd : DocIn w M d) (hl : d.isList = true) (h : ∀ tk, Q (decide (0 < d.items.length)) { s with toks := tk }) : wpAny (model prog w) A (truthy d.val) Q E s := by
  obtain ⟨a, n, e, hm, h3⟩ := list_doc hd hl
  rw [e]
  have il := isList_of (N _ hm).1
  refine wpAny_truthy_list il (by simp only [List.size_toArray, List.length_map]; omega) ?_
  have e2 : (!((d.items.map Doc.val).toArray.isEmpty)) = decide (0 < d.items.length) := by cases d.items <;> simp
  rw [e2]; exact h _
theorem len_doc {d : Doc} {Q : Value → Shared → Prop} (N : News h₀ L s.heap M) (hd : DocIn w M d) (hl : d.isList = true) (h : ∀ tk tk', Q (.int (d.items.length : Int) tk') { s with toks := tk }) : wpAny (model prog w) A (call (.builtin "len") [d.val]) Q E s := by
  obtain ⟨a, n, e, hm, h3⟩ := list_doc hd hl
  rw [e]
  have il := isList_of (N _ hm).1
  refine Calls.call_len_list il (by simp only [List.size_toArray, List.length_map]; omega) ?_
  have e2 : ((d.items.map Doc.val).toArray.size : Int) = (d.items.length : Int) := by simp
  rw [e2]; exact h _ _
theorem item_doc {d : Doc} {i : Int} {u : Tok} {value slice : Expr} {Q : Value → Shared → Prop} (N : News h₀ L s.heap M) (hd : DocIn w M d) (hl : d.isList = true) (h1 : -(d.items.length : Int) ≤ i) (h2 : i < (d.items.length : Int)) (h : ∀ e, d.get (.place i) = some e → Q e.val s)
    (hs : ∀ a, subscripted slice false (.ref a) (.int i u) = operate [.ref a, .int i u] (getItem (.ref a) (.int i u))) : wpAny (model prog w) A (subscriptTail value slice d.val (.int i u)) Q E s := by
  obtain ⟨a, n, e, hm, h3⟩ := list_doc hd hl
  obtain ⟨x, hx, hx'⟩ := place_some hl h1 h2
  rw [e]
  have il := isList_of (N _ hm).1
  by_cases hi : i < 0
  · rw [if_pos hi] at hx'
    exact tail_any il.typeIs slot_list_getitem.lookup (wpAny_getItem_list_neg il hi (by simpa using h1) (by omega) (by
      simp only [List.getElem?_toArray, List.size_toArray, List.length_map, List.getElem?_map, hx']; rfl) (h x hx)) (hs a)
  · rw [if_neg hi] at hx'
    exact tail_any il.typeIs slot_list_getitem.lookup (wpAny_getItem_list il (by omega) (by omega) (by
      simp only [List.getElem?_toArray, List.getElem?_map, hx']; rfl) (h x hx)) (hs a)
end

theorem skip1 {h₀ h : Heap} {L : Addr} {x : Addr × Obj} {M : Led} (N : News h₀ L h (x :: M)) : News h₀ L h M := fun q hq => N q (List.mem_cons_of_mem _ hq)
theorem skip2 {h₀ h : Heap} {L : Addr} {x y : Addr × Obj} {M : Led} (N : News h₀ L h (x :: y :: M)) : News h₀ L h (x :: M) := fun q hq => N q (by
  rcases List.mem_cons.mp hq with h | h
  · exact List.mem_cons.mpr (.inl h)
  · exact List.mem_cons_of_mem _ (List.mem_cons_of_mem _ h))
/-- a loop's invariant: the list at the ledger's head grows, the rest grows by made objects -/
def Grow (P : Nat → Led → List Value → Prop) (M₁ : Led) (i : Nat) (M : Led) : Prop :=
  ∃ D o R zs n tl, M₁ = (D, o) :: R ∧ M = (D, lstO zs n) :: (R ++ tl) ∧ (∀ q ∈ R ++ tl, q.1 ≠ D) ∧ (∀ q ∈ R, ∀ t ∈ tl, q.1 ≠ t.1) ∧ P i (R ++ tl) zs
theorem Grow.start {P : Nat → Led → List Value → Prop} {D : Addr} {n : Nat} {R : Led} (off : ∀ q ∈ R, q.1 ≠ D) (h : P 0 R []) : Grow P ((D, lstO [] n) :: R) 0 ((D, lstO [] n) :: R) :=
  ⟨D, _, R, [], n, [], rfl, by rw [List.append_nil], by rw [List.append_nil]; exact off, fun _ _ _ h => (by cases h), by rw [List.append_nil]; exact h⟩
theorem Grow.next {P : Nat → Led → List Value → Prop} {D : Addr} {o : Obj} {zs : List Value} {n i : Nat} {R tl stuff : Led} (off : ∀ q ∈ R ++ tl, q.1 ≠ D) (offs : ∀ q ∈ stuff, q.1 ≠ D) (ord : ∀ q ∈ R, ∀ t ∈ tl, q.1 ≠ t.1) (ords : ∀ q ∈ R, ∀ t ∈ stuff, q.1 ≠ t.1)
    (h : P i (R ++ tl ++ stuff) zs) : Grow P ((D, o) :: R) i ((D, lstO zs n) :: (R ++ tl ++ stuff)) :=
  ⟨D, o, R, zs, n, tl ++ stuff, rfl, by rw [List.append_assoc], fun q hq => by
    rw [← List.append_assoc] at hq
    rcases List.mem_append.mp hq with hq | hq
    · exact off q hq
    · exact offs q hq, fun q hq t ht => by
    rcases List.mem_append.mp ht with ht | ht
    · exact ord q hq t ht
    · exact ords q hq t ht, by rw [← List.append_assoc]; exact h⟩

section
variable {A₀ : Around} {base : Heap} {outer : List Env} {L : Addr} {s : Shared}
theorem grow_end {P : Nat → Led → List Value → Prop} {g g' h : Heap} {J D : Addr} {oJ o : Obj} {Q : Flow → Shared → Prop} {x : Str} {m₁ m : Str → Option Value} {R tl stuff : Led} {zs zs' : List Value} {n n₂ i : Nat} {gn : Array GenState} {tk : Nat} {dr : Drawn} {os : OsState}
    (k : Nexts A₀ base outer L g J oJ s Q (fun m M => (∀ z, z ≠ x → m z = m₁ z) ∧ Grow P ((D, o) :: R) i M)) (e1 : s.drawn = dr) (e2 : s.os = os)
    (T : KtsTurn (outer.filterMap (·.frame)) g g') (F : Fr g' L h m) (N : News g' L h ((J, oJ) :: (D, lstO zs' n₂) :: (R ++ tl ++ stuff))) (B : Below A₀ base outer g') (Dk : KtsDicts (outer.filterMap (·.frame)) g') (hb : AllBare gn)
    (offJ : ∀ q ∈ (D, lstO zs n) :: (R ++ tl), q.1 ≠ J) (off : ∀ q ∈ R ++ tl, q.1 ≠ D) (ord : ∀ q ∈ R, ∀ t ∈ tl, q.1 ≠ t.1) (os' : ∀ q ∈ (J, oJ) :: (D, lstO zs n) :: (R ++ tl), ∀ t ∈ stuff, q.1 ≠ t.1)
    (hm : ∀ z, z ≠ x → m z = m₁ z) (post : P i (R ++ tl ++ stuff) zs') : Q .next ⟨h, gn, dr, tk, os⟩ :=
  nexts_end k e1 e2 T F N B Dk hb (fun q hq => hq) (fun q hq => by
    rcases List.mem_cons.mp hq with rfl | hq
    · exact offJ (D, lstO zs n) (by simp)
    · rcases List.mem_append.mp hq with hq | hq
      · exact offJ q (List.mem_cons_of_mem _ hq)
      · exact (os' (J, oJ) (by simp) q hq).symm) ⟨hm, Grow.next off (fun q hq => (os' (D, lstO zs n) (by simp) q hq).symm) ord (fun q hq t ht => os' q (by simp [hq]) t ht) post⟩
theorem grow_stay {P : Nat → Led → List Value → Prop} {g g' h : Heap} {J D : Addr} {oJ o : Obj} {Q : Flow → Shared → Prop} {x : Str} {m₁ m : Str → Option Value} {R tl : Led} {zs : List Value} {n i : Nat} {gn : Array GenState} {tk : Nat} {dr : Drawn} {os : OsState}
    (k : Nexts A₀ base outer L g J oJ s Q (fun m M => (∀ z, z ≠ x → m z = m₁ z) ∧ Grow P ((D, o) :: R) i M)) (e1 : s.drawn = dr) (e2 : s.os = os)
    (T : KtsTurn (outer.filterMap (·.frame)) g g') (F : Fr g' L h m) (N : News g' L h ((J, oJ) :: (D, lstO zs n) :: (R ++ tl))) (B : Below A₀ base outer g') (Dk : KtsDicts (outer.filterMap (·.frame)) g') (hb : AllBare gn)
    (offJ : ∀ q ∈ (D, lstO zs n) :: (R ++ tl), q.1 ≠ J) (off : ∀ q ∈ R ++ tl, q.1 ≠ D) (ord : ∀ q ∈ R, ∀ t ∈ tl, q.1 ≠ t.1)
    (hm : ∀ z, z ≠ x → m z = m₁ z) (post : P i (R ++ tl) zs) : Q .next ⟨h, gn, dr, tk, os⟩ :=
  nexts_end k e1 e2 T F N B Dk hb (fun q hq => hq) offJ ⟨hm, D, o, R, zs, n, tl, rfl, rfl, off, ord, post⟩
end

theorem map_same {x : Str} {m : Str → Option Value} {v : Option Value} : ∀ z, z ≠ x → (if z = x then v else m z) = m z := fun _ h => if_neg h
theorem map_same2 {x y : Str} {m : Str → Option Value} {u v : Option Value} (hy : m y = u) : ∀ z, z ≠ x → (if z = y then u else if z = x then v else m z) = m z := fun z h => by
  by_cases hz : z = y
  · rw [if_pos hz, hz, hy]
  · rw [if_neg hz, if_neg h]
theorem here_of {R : Led} {D : Addr} (_h : ∀ q ∈ R, q.1 ≠ D) : Here R := here R
end
section
open PyProof.Rows.LCg
abbrev enumO (it : Addr) (i : Int) (old : Value) : Obj := { cls := .type "enumerate", data := .fields #[.none, .bool false, .ref it, rawInt i, .none, old] }
def LitO (oi : Obj) (l : Addr) : Prop := oi.cls = .type "list_iterator" ∧ oi.data = .fields #[.ref l, .int 0 0]
def kvsOf (es : List (Str × Tok × Doc)) : List (Str × Value) := es.map fun e => (e.1, e.2.2.val)
section
variable {w : World} {p : Program} {loose : List Str} {mean : ExcName → Option Value} {mg mb : Str → Option Value}
  {A A₀ : Around} {h₀ g₁ base : Heap} {outer : List Env} {L : Addr} {m : Str → Option Value} {s : Shared} {E : Value → Shared → Prop} {M news : Led}
theorem doc_pairs (prog : Program) (es : List (Str × Tok × Doc)) : Pairs (strKind prog w) (entsOf w es) (kvsOf es) := by
  induction es with
  | nil => exact .nil
  | cons e r ih => exact .cons (strKind_is prog w e.1 e.2.1) rfl ih
theorem doc_dictAt (prog : Program) {h : Heap} {a : Addr} {es : List (Str × Tok × Doc)} {n : Nat} (e : h.get? a = some (dictOf (entsOf w es) n)) (nd : (es.map (·.1)).Nodup) : h.DictAt (strKind prog w) a (kvsOf es) n :=
  ⟨_, _, e, ⟨rfl, rfl, rfl⟩, rfl, fun e he => by
    simp only [entsOf, List.mem_toArray, List.mem_map] at he
    obtain ⟨y, _, rfl⟩ := he
    exact ⟨y.1, strKind_is prog w y.1 y.2.1, rfl⟩, by simpa using doc_pairs prog es, by
    have e : (kvsOf es).map (·.1) = es.map (·.1) := by simp [kvsOf]
    rw [e]; exact nd⟩
/-- enumerate of a list of the ledger -/
theorem call_enum {l : Addr} {vs : List Value} {n : Nat} {Q : Value → Shared → Prop} (FF : Fr h₀ L s.heap m) (N : News h₀ L s.heap M) (hm : (l, lstO vs n) ∈ M)
    (h : ∀ h' e it oi, LitO oi l → Fr h₀ L h' m → News h₀ L h' ((e, enumO it 0 .none) :: (it, oi) :: M) → (∀ q ∈ M, q.1 < it) → it < e → Q (.ref e) { s with heap := h' }) :
    wpAny (model Challenge.rw_bm0005_01.row.prog w) A (call (.type "enumerate") [.ref l]) Q E s := by
  have fresh : ∀ a, s.heap.objs.size ≤ a → h₀.get? a = none := fun a ha => by
    cases e : h₀.get? a with
    | none => rfl
    | some o' => exact absurd (Heap.lt_size (FF.keep a o' e)) (Nat.not_lt.mpr ha)
  have hL := FF.ns.lt
  refine call_enumerate_list (isList_of (N _ hm).1) fun h' hE hI hsz hk => ?_
  obtain ⟨oi, hoi, hc, hdt⟩ := hI
  refine h h' (s.heap.objs.size + 1) s.heap.objs.size oi ⟨hc, hdt⟩ ⟨FF.ns.at' fun o e => hk _ _ e, fun b o e => hk b o (FF.keep b o e), FF.above⟩ (fun q hq => ?_) (fun q hq => Heap.lt_size (N q hq).1) (Nat.lt_succ_self _)
  rcases List.mem_cons.mp hq with rfl | hq
  · exact ⟨hE, Nat.ne_of_gt (Nat.lt_succ_of_lt hL), fresh _ (Nat.le_succ _)⟩
  · rcases List.mem_cons.mp hq with rfl | hq
    · exact ⟨hoi, Nat.ne_of_gt hL, fresh _ (Nat.le_refl _)⟩
    · exact ⟨hk _ _ (N q hq).1, (N q hq).2⟩
/-- a comprehension over enumerate of a list -/
theorem enumI {elt iter : Expr} {x₁ x₂ : Str} {px₁ px₂ tp : Pos} {kk : Nat} {ifs : List Expr} {scope : Scope} {cl : List (Str × Addr)} {pos : Pos} {env : Env} {it e : Addr} {oi : Obj} (J : Led → Nat → List Value → Prop) {RR : Value → Addr → Result → Shared → Prop} {ax : Addr} {vs : List Value} {nn : Nat}
    (F : Fr g₁ L s.heap m) (B : Below A₀ base outer g₁) (XB : (hd.heap_1 w.params).In base) (TB : Top p loose mean mg mb base) (Dk : KtsDicts (outer.filterMap (·.frame)) g₁) (N : News g₁ L s.heap ((e, enumO it 0 .none) :: (it, oi) :: news)) (hb : AllBare s.gens) (hh : A.handled = none)
    (hoi : LitO oi ax) (hlt₁ : ∀ q ∈ news, q.1 < it) (hlt₂ : it < e)
    (hm : (ax, lstO vs nn) ∈ news) (hcell : ∀ y ∈ scope.names, y.2 ≠ .cell) (hkind : scope.kind = .function) (hx₁ : scope.names.lookup x₁ = some .local) (hx₂ : scope.names.lookup x₂ = some .local) (hxx : x₁ ≠ x₂)
    (hlen : ∀ M i ys, J M i ys → ys.length ≤ sizeLine) (hI : ∀ M, J M 0 [])
    (EA : EltAt w p loose mean mg mb A A₀ base outer g₁ L m ifs elt scope cl env (fun i mc => ∃ t v, vs[i]? = some v ∧ mc x₁ = some (.int i t) ∧ mc x₂ = some v) vs.length news (fun i ys tl => J (news ++ tl) i ys) s)
    (fin : BlockEnd A₀ base outer L m g₁ news s vs.length (fun i ys tl => J (news ++ tl) i ys) RR) :
    wpAny (model Challenge.rw_bm0005_01.row.prog w) A (pyIter (.ref e)) (fun it s₂ => wpAny (model Challenge.rw_bm0005_01.row.prog w) A (newList []) (fun acc s₃ => wpAny (model Challenge.rw_bm0005_01.row.prog w) A (newFunctionEnv scope env.globals cl [] env.qual none .none (some env)) (fun cenv s₄ =>
      codeAny (model Challenge.rw_bm0005_01.row.prog w) A (.compStart (.ListComp elt [⟨.Tuple [.Name x₁ px₁, .Name x₂ px₂] kk tp, iter, ifs, 0⟩] scope pos) 0 it acc { cenv with scope := relabel scope env }) (RR acc cenv.locals) s₄) E s₃) E s₂) E s := by
  have ze := N _ List.mem_cons_self
  have zi := N _ (List.mem_cons_of_mem _ List.mem_cons_self)
  have zl := N _ (List.mem_cons_of_mem _ (List.mem_cons_of_mem _ hm))
  have hl := isList_of zl.1
  have hli : ax < it := hlt₁ _ hm
  have hIt : s.heap.IsListIter it ax 0 := ⟨oi, zi.1, hoi.1, hoi.2⟩
  have W := (WalksT.enumerate (prog := Challenge.rw_bm0005_01.row.prog) (w := w) hh e it ax (Nat.ne_of_gt hlt₂) (Nat.ne_of_lt (Nat.lt_trans hli hlt₂)) (Nat.ne_of_lt hli) vs.toArray).toU
  refine wpAny_pyIter_enum ze.1 ?_
  refine src_any (own₀ := [(e, _), (it, oi)]) (n := vs.toArray.size) (Bnd := fun i mc => ∃ t v, vs[i]? = some v ∧ mc x₁ = some (.int i t) ∧ mc x₂ = some v) B F XB TB Dk N hb
    (KTurns.ofWalksU W) (fun i s' Q E st hQ => W.self i s' Q E st hQ)
    (fun b hb => ?_) (fun i h st b hb => ?_) (fun C i v s mc Q E hP hq hn k => ?_)
    hcell hkind ⟨⟨.none, ze.1⟩, hIt, hl⟩ rfl (fun q hq hb => ?_) (fun i ys tl h => hlen _ i ys h) (hI _) EA fin
  · rcases List.mem_cons.mp hb with rfl | hb
    · exact .inl (by simp)
    · rcases List.mem_cons.mp hb with rfl | hb
      · exact .inl (by simp)
      · rw [List.mem_singleton.mp hb]; exact .inr ⟨_, hm⟩
  · obtain ⟨⟨old, h1⟩, ⟨o2, h2, _⟩, _⟩ := st
    rcases List.mem_cons.mp hb with rfl | hb
    · exact ⟨_, h1⟩
    · rw [List.mem_singleton.mp hb]; exact ⟨_, h2⟩
  · obtain ⟨T, vals, rfl, ⟨t, x, hx, rfl⟩, hT⟩ := hP
    refine kcp_assign (env := compEnvC scope cl C env) hh hT (lookup_relabel_local hx₁) (lookup_relabel_local hx₂) (by simp [compEnvC, relabel, hkind]) hn fun h' tk hn' hk => k h' tk _ hn' ⟨t, x, by simpa using hx, by simp [hxx], by simp⟩ hk
  · rcases List.mem_cons.mp hb with h | hb
    · exact absurd (hlt₁ q hq) (by rw [h]; exact Nat.not_lt.mpr (Nat.le_of_lt hlt₂))
    · exact absurd (hlt₁ q hq) (by rw [List.mem_singleton.mp hb]; exact Nat.lt_irrefl _)

theorem call_items {a : Addr} {es : List (Str × Tok × Doc)} {n : Nat} {Q : Value → Shared → Prop} (FF : Fr h₀ L s.heap m) (N : News h₀ L s.heap M) (hm : (a, dictOf (entsOf w es) n) ∈ M) (nd : (es.map (·.1)).Nodup) (lo : (a == sysModules) = false)
    (h : ∀ h' vw ov, ov.cls = .type "dict_items" → ov.data = .fields #[.ref a] → Fr h₀ L h' m → News h₀ L h' ((vw, ov) :: M) → (∀ q ∈ M, q.1 < vw) → Q (.ref vw) { s with heap := h' }) :
    wpAny (model Challenge.rw_bm0005_01.row.prog w) A (call (.builtin "dict.items") [.ref a]) Q E s := by
  have hD := (doc_dictAt (w := w) Challenge.rw_bm0005_01.row.prog (N _ hm).1 nd).dictOf
  have fresh : h₀.get? s.heap.objs.size = none := by
    cases e : h₀.get? s.heap.objs.size with
    | none => rfl
    | some o' => exact absurd (Heap.lt_size (FF.keep _ o' e)) (Nat.lt_irrefl _)
  refine call_meetsIn PySem.F.slot_dict_items hD.typeIs PySem.F.entry_dict_items (PySem.F.args_dict_items_1 _) (meets_dict_items (strKind _ w) a lo) ⟨⟨_, hD⟩, ?_⟩
  refine h _ s.heap.objs.size { cls := .type "dict_items", data := .fields #[.ref a] } rfl rfl (FF.push _) (fun q hq => ?_) (fun q hq => Heap.lt_size (N q hq).1)
  rcases List.mem_cons.mp hq with rfl | hq
  · exact ⟨Heap.get?_push_size _ rfl, Nat.ne_of_gt FF.ns.lt, fresh⟩
  · exact ⟨Heap.get?_push_of_some _ (N q hq).1, (N q hq).2⟩

theorem itemsI {elt iter : Expr} {x₁ x₂ : Str} {px₁ px₂ tp : Pos} {kk : Nat} {ifs : List Expr} {scope : Scope} {cl : List (Str × Addr)} {pos : Pos} {env : Env} {vw : Addr} {ov : Obj} (J : Led → Nat → List Value → Prop) {RR : Value → Addr → Result → Shared → Prop} {a : Addr} {es : List (Str × Tok × Doc)} {nn : Nat}
    (F : Fr g₁ L s.heap m) (B : Below A₀ base outer g₁) (XB : (hd.heap_1 w.params).In base) (TB : Top p loose mean mg mb base) (Dk : KtsDicts (outer.filterMap (·.frame)) g₁) (N : News g₁ L s.heap news) (hb : AllBare s.gens) (hh : A.handled = none)
    (hv : (vw, ov) ∈ news) (hv1 : ov.cls = .type "dict_items") (hv2 : ov.data = .fields #[.ref a]) (nd : (es.map (·.1)).Nodup)
    (hm : (a, dictOf (entsOf w es) nn) ∈ news) (hcell : ∀ y ∈ scope.names, y.2 ≠ .cell) (hkind : scope.kind = .function) (hx₁ : scope.names.lookup x₁ = some .local) (hx₂ : scope.names.lookup x₂ = some .local) (hxx : x₁ ≠ x₂)
    (hlen : ∀ M i ys, J M i ys → ys.length ≤ sizeLine) (hI : ∀ M, J M 0 [])
    (EA : EltAt w p loose mean mg mb A A₀ base outer g₁ L m ifs elt scope cl env (fun i mc => ∃ e t, es[i]? = some e ∧ mc x₁ = some (.str e.1 t) ∧ mc x₂ = some e.2.2.val) es.length news (fun i ys tl => J (news ++ tl) i ys) s)
    (fin : BlockEnd A₀ base outer L m g₁ news s es.length (fun i ys tl => J (news ++ tl) i ys) RR) :
    wpAny (model Challenge.rw_bm0005_01.row.prog w) A (pyIter (.ref vw)) (fun it s₂ => wpAny (model Challenge.rw_bm0005_01.row.prog w) A (newList []) (fun acc s₃ => wpAny (model Challenge.rw_bm0005_01.row.prog w) A (newFunctionEnv scope env.globals cl [] env.qual none .none (some env)) (fun cenv s₄ =>
      codeAny (model Challenge.rw_bm0005_01.row.prog w) A (.compStart (.ListComp elt [⟨.Tuple [.Name x₁ px₁, .Name x₂ px₂] kk tp, iter, ifs, 0⟩] scope pos) 0 it acc { cenv with scope := relabel scope env }) (RR acc cenv.locals) s₄) E s₃) E s₂) E s := by
  have hat := doc_dictAt (w := w) Challenge.rw_bm0005_01.row.prog (N _ hm).1 nd
  have hne : a ≠ s.heap.objs.size := Nat.ne_of_lt (Heap.lt_size (N _ hm).1)
  have el : (kvsOf es).length = es.length := by simp [kvsOf]
  refine wpAny_pyIter_items ⟨ov, (N _ hv).1, hv1, hv2⟩ hat ?_
  have up : ∀ b o, s.heap.get? b = some o → (s.heap.push { cls := .type "dict_itemiterator", data := .fields #[.none, .bool false, .ref a, .int 0 0, .int (kvsOf es).length 0, .int nn 0, .none, .none] }).get? b = some o := fun b o e => Heap.get?_push_of_some _ e
  have S₀ : Std A₀ base outer g₁ L m g₁ s.heap s.gens news := ⟨.refl, F, N, B, Dk, hb⟩
  have S₁ := (S₀.grow up).add (Heap.get?_push_size s.heap (o := { cls := .type "dict_itemiterator", data := .fields #[.none, .bool false, .ref a, .int 0 0, .int (kvsOf es).length 0, .int nn 0, .none, .none] }) rfl) (Nat.ne_of_gt F.ns.lt) (next_is_new F)
  have W := kti_itemsTurns (knd := strKind Challenge.rw_bm0005_01.row.prog w) (elts := [.Name x₁ px₁, .Name x₂ px₂]) (kk := kk) (pos := tp) (A := A) hh s.heap.objs.size a hne (kvsOf es) nn
  rw [el] at W
  refine src_any (s := { s with heap := s.heap.push { cls := .type "dict_itemiterator", data := .fields #[.none, .bool false, .ref a, .int 0 0, .int (kvsOf es).length 0, .int nn 0, .none, .none] } }) (own₀ := [_]) (n := es.length) (Bnd := fun i mc => ∃ e t, es[i]? = some e ∧ mc x₁ = some (.str e.1 t) ∧ mc x₂ = some e.2.2.val) B S₁.F XB TB Dk S₁.N hb
    W (fun i s' Q E st hQ => ?_)
    (fun b hb => ?_) (fun i h st b hb => by rw [List.mem_singleton.mp hb]; obtain ⟨⟨_, _, e⟩, _⟩ := st; exact ⟨_, e⟩) (fun C i v s mc Q E hP hq hn kz => ?_)
    hcell hkind ⟨⟨.none, .none, by rw [← el]; exact Heap.get?_push_size _ rfl⟩, hat.push _⟩ rfl (fun q hq hb => absurd (List.mem_singleton.mp hb) (Nat.ne_of_lt (Heap.lt_size (N q hq).1))) (fun i ys tl h => hlen _ i ys h) (hI _) EA fin
  · obtain ⟨⟨ok, ov, e⟩, _⟩ := st
    exact kcp_self e hQ
  · rcases List.mem_cons.mp hb with rfl | hb
    · exact .inl (List.mem_singleton.mpr rfl)
    · rw [List.mem_singleton.mp hb]; exact .inr ⟨_, hm⟩
  · obtain ⟨T, key, k, x, rfl, hx, hkey, hT⟩ := hP
    obtain ⟨t, rfl⟩ := Value.isStrOf_shape hkey
    obtain ⟨y, hy, e⟩ : ∃ y, es[i]? = some y ∧ (y.1, y.2.2.val) = (k, x) := by
      simpa [kvsOf, List.getElem?_map] using hx
    cases e
    exact kcp_assign (env := compEnvC scope cl C env) hh hT (lookup_relabel_local hx₁) (lookup_relabel_local hx₂) (by simp [compEnvC, relabel, hkind]) hn fun h' tk hn' hk => kz h' tk _ hn' ⟨y, t, hy, by simp [hxx], by simp⟩ hk

theorem dictI {elt iter : Expr} {x : Str} {px : Pos} {ifs : List Expr} {scope : Scope} {cl : List (Str × Addr)} {pos : Pos} {env : Env} (J : Led → Nat → List Value → Prop) {RR : Value → Addr → Result → Shared → Prop} {a : Addr} {es : List (Str × Tok × Doc)} {nn : Nat}
    (F : Fr g₁ L s.heap m) (B : Below A₀ base outer g₁) (XB : (hd.heap_1 w.params).In base) (TB : Top p loose mean mg mb base) (Dk : KtsDicts (outer.filterMap (·.frame)) g₁) (N : News g₁ L s.heap news) (hb : AllBare s.gens) (hh : A.handled = none)
    (nd : (es.map (·.1)).Nodup) (lo : (a == sysModules) = false)
    (hm : (a, dictOf (entsOf w es) nn) ∈ news) (hcell : ∀ y ∈ scope.names, y.2 ≠ .cell) (hkind : scope.kind = .function) (hx : scope.names.lookup x = some .local)
    (hlen : ∀ M i ys, J M i ys → ys.length ≤ sizeLine) (hI : ∀ M, J M 0 [])
    (EA : EltAt w p loose mean mg mb A A₀ base outer g₁ L m ifs elt scope cl env (fun i mc => ∃ e t, es[i]? = some e ∧ mc x = some (.str e.1 t)) es.length news (fun i ys tl => J (news ++ tl) i ys) s)
    (fin : BlockEnd A₀ base outer L m g₁ news s es.length (fun i ys tl => J (news ++ tl) i ys) RR) :
    wpAny (model Challenge.rw_bm0005_01.row.prog w) A (pyIter (.ref a)) (fun it s₂ => wpAny (model Challenge.rw_bm0005_01.row.prog w) A (newList []) (fun acc s₃ => wpAny (model Challenge.rw_bm0005_01.row.prog w) A (newFunctionEnv scope env.globals cl [] env.qual none .none (some env)) (fun cenv s₄ =>
      codeAny (model Challenge.rw_bm0005_01.row.prog w) A (.compStart (.ListComp elt [⟨.Name x px, iter, ifs, 0⟩] scope pos) 0 it acc { cenv with scope := relabel scope env }) (RR acc cenv.locals) s₄) E s₃) E s₂) E s := by
  have hat := doc_dictAt (w := w) Challenge.rw_bm0005_01.row.prog (N _ hm).1 nd
  have hne : a ≠ s.heap.objs.size := Nat.ne_of_lt (Heap.lt_size (N _ hm).1)
  have el : (kvsOf es).length = es.length := by simp [kvsOf]
  refine wpAny_pyIter_dict lo hat ?_
  have up : ∀ b o, s.heap.get? b = some o → (s.heap.push { cls := .type "dict_keyiterator", data := .fields #[.ref a, .int 0 0, .int (kvsOf es).length 0, .int nn 0] }).get? b = some o := fun b o e => Heap.get?_push_of_some _ e
  have S₀ : Std A₀ base outer g₁ L m g₁ s.heap s.gens news := ⟨.refl, F, N, B, Dk, hb⟩
  have S₁ := (S₀.grow up).add (Heap.get?_push_size s.heap (o := { cls := .type "dict_keyiterator", data := .fields #[.ref a, .int 0 0, .int (kvsOf es).length 0, .int nn 0] }) rfl) (Nat.ne_of_gt F.ns.lt) (next_is_new F)
  have W := Walks.dictKeys (knd := strKind Challenge.rw_bm0005_01.row.prog w) (A := A) hh s.heap.objs.size a hne (kvsOf es) nn
  rw [el] at W
  refine src_any (s := { s with heap := s.heap.push { cls := .type "dict_keyiterator", data := .fields #[.ref a, .int 0 0, .int (kvsOf es).length 0, .int nn 0] } }) (own₀ := [_]) (n := es.length) (Bnd := fun i mc => ∃ e t, es[i]? = some e ∧ mc x = some (.str e.1 t)) B S₁.F XB TB Dk S₁.N hb
    (KTurns.ofWalks (target := .Name x px) W fun i v s' Q E _ hQ => wpAny_pure hQ) (fun i s' Q E st hQ => W.self i s' Q E st hQ)
    (fun b hb => ?_) (fun i h st b hb => by rw [List.mem_singleton.mp hb]; obtain ⟨⟨o, e, _⟩, _⟩ := st; exact ⟨_, e⟩) (fun C i v s mc Q E hP hq hn k => ?_)
    hcell hkind ⟨⟨_, Heap.get?_push_size _ rfl, rfl, by rw [el]; rfl⟩, hat.push _⟩ rfl (fun q hq hb => absurd (List.mem_singleton.mp hb) (Nat.ne_of_lt (Heap.lt_size (N q hq).1))) (fun i ys tl h => hlen _ i ys h) (hI _) EA fin
  · rcases List.mem_cons.mp hb with rfl | hb
    · exact .inl (List.mem_singleton.mpr rfl)
    · rw [List.mem_singleton.mp hb]; exact .inr ⟨_, hm⟩
  · obtain ⟨k', x', hx', hkey⟩ := hP
    obtain ⟨t, rfl⟩ := Value.isStrOf_shape hkey
    obtain ⟨y, hy, e⟩ : ∃ y, es[i]? = some y ∧ (y.1, y.2.2.val) = (k', x') := by
      simpa [kvsOf, List.getElem?_map] using hx'
    cases e
    exact assign_name hkind hx C _ s mc Q E hn fun h' tk mc' hn' hx' hk => k h' tk mc' hn' ⟨y, t, hy, hx'⟩ hk

theorem call_enum_doc {d : Doc} {Q : Value → Shared → Prop} (FF : Fr h₀ L s.heap m) (N : News h₀ L s.heap M) (hd : DocIn w M d) (hl : d.isList = true)
    (h : ∀ h' e it oi al n, (al, lstO (d.items.map Doc.val) n) ∈ M → LitO oi al → Fr h₀ L h' m → News h₀ L h' ((e, enumO it 0 .none) :: (it, oi) :: M) → (∀ q ∈ M, q.1 < it) → it < e → Q (.ref e) { s with heap := h' }) :
    wpAny (model Challenge.rw_bm0005_01.row.prog w) A (call (.type "enumerate") [d.val]) Q E s := by
  obtain ⟨a, n, e, hm, h3⟩ := list_doc hd hl
  rw [e]
  exact call_enum FF N hm fun h' e it oi hoi F' N' l1 l2 => h h' e it oi a n hm hoi F' N' l1 l2
end
theorem wild_list {d : Doc} {ks : List Key} (hl : d.isList = true) : under ks (Path.wild.walk d) = d.items.zipIdx.map fun e => (ks ++ [Key.place (e.2 : Int)], e.1) := by
  cases d with
  | leaf | dict => cases hl
  | list a xs => simp [under, Path.walk, Step.down, Doc.items, List.map_map, Function.comp_def]
theorem wild_take {d e : Doc} {ks : List Key} {i : Nat} (h : d.items[i]? = some e) :
    (d.items.zipIdx.map fun e => (ks ++ [Key.place (e.2 : Int)], e.1)).take (i + 1) = (d.items.zipIdx.map fun e => (ks ++ [Key.place (e.2 : Int)], e.1)).take i ++ [(ks ++ [Key.place (i : Int)], e)] := by
  rw [List.take_add_one]
  congr 1
  simp [List.getElem?_map, List.getElem?_zipIdx, h]
theorem place_at {d e : Doc} {i : Nat} (hl : d.isList = true) (h : d.items[i]? = some e) : d.get (.place (i : Int)) = some e := by
  have hi : i < d.items.length := (List.getElem?_eq_some_iff.mp h).1
  obtain ⟨x, h1, h2⟩ := place_some (i := (i : Int)) hl (by omega) (by omega)
  rw [if_neg (by omega), Int.toNat_natCast, h] at h2
  rw [h1, ← h2]
end
section
open PyProof.Rows.LCg
/-- the frame's map when the names ns may have changed -/
def spread : List Str → (Str → Option Value) → (Str → Option Value) → Str → Option Value
  | [], _, m₁, z => m₁ z
  | a :: r, m, m₁, z => if z = a then m a else spread r m m₁ z
theorem spread_eq {m m₁ : Str → Option Value} : ∀ {ns : List Str}, (∀ z, z ∉ ns → m z = m₁ z) → ∀ z, m z = spread ns m m₁ z
  | [], h, z => h z (by simp)
  | a :: r, h, z => by
    unfold spread
    by_cases hz : z = a
    · rw [if_pos hz, hz]
    · rw [if_neg hz]
      by_cases hr : z ∈ r
      · have : ∀ {l : List Str}, z ∈ l → m z = spread l m m₁ z := by
          intro l
          induction l with
          | nil => intro h; cases h
          | cons b l ih =>
            intro hm
            unfold spread
            by_cases hb : z = b
            · rw [if_pos hb, hb]
            · rw [if_neg hb]; exact ih (by rcases List.mem_cons.mp hm with h | h; exact absurd h hb; exact h)
        exact this hr
      · have : ∀ {l : List Str}, z ∉ l → spread l m m₁ z = m₁ z := by
          intro l
          induction l with
          | nil => intro _; rfl
          | cons b l ih =>
            intro hm
            unfold spread
            rw [if_neg (fun e : z = b => hm (by rw [e]; exact List.mem_cons_self))]
            exact ih fun h => hm (List.mem_cons_of_mem _ h)
        rw [this hr]
        exact h z (by simp [hz, hr])
section
variable {w : World} {p : Program} {loose : List Str} {mean : ExcName → Option Value} {mg mb : Str → Option Value}
  {A A₀ : Around} {h₀ g₁ base : Heap} {outer : List Env} {L : Addr} {m₁ : Str → Option Value} {s : Shared} {E : Value → Shared → Prop} {M news : Led}
/-- one turn of a loop that changes its target and the names ns -/
def TurnG (w : World) (p : Program) (loose : List Str) (mean : ExcName → Option Value) (mg mb : Str → Option Value) (A A₀ : Around) (base : Heap) (outer : List Env) (L : Addr) (g₁ : Heap) (body : List Stmt) (env : Env)
    (Bv : Nat → Value → Prop) (n : Nat) (x : Str) (ns : List Str) (m₁ : Str → Option Value) (Kk : Nat → (Str → Option Value) → Led → Prop) (s : Shared) : Prop :=
  ∀ i v J oJ m M h gn tk g (Q : Flow → Shared → Prop) (E' : Value → Shared → Prop), i < n → Bv i v → Kk i m M → KtsTurn (outer.filterMap (·.frame)) g₁ g → Fr g L h (fun z => if z = x then some v else spread ns m m₁ z) → News g L h ((J, oJ) :: M) → Below A₀ base outer g → (hd.heap_1 w.params).In g → Top p loose mean mg mb g → KtsDicts (outer.filterMap (·.frame)) g → AllBare gn → (∀ q ∈ M, q.1 ≠ J) →
    Nexts A₀ base outer L g J oJ s Q (fun m' M' => (∀ z, z ∉ x :: ns → m' z = m₁ z) ∧ Kk (i + 1) m' M') → wpAny (model Challenge.rw_bm0005_01.row.prog w) A (execs body env) Q E' ⟨h, gn, s.drawn, tk, s.os⟩
def LoopsG (A₀ : Around) (base : Heap) (outer : List Env) (L : Addr) (g₁ : Heap) (s : Shared) (R : Result → Shared → Prop) (x : Str) (ns : List Str) (m₁ : Str → Option Value) (Post : (Str → Option Value) → Led → Prop) : Prop :=
  ∀ g h gn tk m M, KtsTurn (outer.filterMap (·.frame)) g₁ g → Fr g L h (spread (x :: ns) m m₁) → News g L h M → Below A₀ base outer g → KtsDicts (outer.filterMap (·.frame)) g → AllBare gn → Post m M → R (.ok .next) ⟨h, gn, s.drawn, tk, s.os⟩
theorem turnG {body : List Stmt} {env : Env} {Bv : Nat → Value → Prop} {n : Nat} {x : Str} {ns : List Str} {Kk : Nat → (Str → Option Value) → Led → Prop} (h : TurnG w p loose mean mg mb A A₀ base outer L g₁ body env Bv n x ns m₁ Kk s) :
    TurnAt w p loose mean mg mb A A₀ base outer L g₁ body env (fun i m m' => ∃ v, Bv i v ∧ m' = fun z => if z = x then some v else m z) n (fun i m M => (∀ z, z ∉ x :: ns → m z = m₁ z) ∧ Kk i m M) s := by
  intro i J oJ m m' M h' gn tk g Q E' hi hB hI T F N B X TP D b off k
  obtain ⟨v, hv, rfl⟩ := hB
  refine h i v J oJ m M h' gn tk g Q E' hi hv hI.2 T (fr_congr F fun z => ?_) N B X TP D b off k
  by_cases hz : z = x
  · rw [if_pos hz, if_pos hz]
  · rw [if_neg hz, if_neg hz]
    have e := spread_eq hI.1 z
    rw [show spread (x :: ns) m m₁ z = spread ns m m₁ z from if_neg hz] at e
    exact e
theorem loopsG {R : Result → Shared → Prop} {x : Str} {ns : List Str} {Post : (Str → Option Value) → Led → Prop} (k : LoopsG A₀ base outer L g₁ s R x ns m₁ Post) : Loops A₀ base outer L g₁ s R (fun m M => (∀ z, z ∉ x :: ns → m z = m₁ z) ∧ Post m M) := by
  intro g h gn tk m M T F N B D b hI
  exact k g h gn tk m M T (fr_congr F (spread_eq hI.1)) N B D b hI.2

theorem forListG {x : Str} {px : Pos} {body : List Stmt} {env : Env} {M₁ : Led} (ns : List Str) (Kk : Led → Nat → (Str → Option Value) → Led → Prop) {R : Result → Shared → Prop} {ax : Addr} {vs : List Value} {nn : Nat}
    (F : Fr g₁ L s.heap m₁) (B : Below A₀ base outer g₁) (XB : (hd.heap_1 w.params).In base) (TB : Top p loose mean mg mb base) (D : KtsDicts (outer.filterMap (·.frame)) g₁) (N : News g₁ L s.heap M₁) (hb : AllBare s.gens) (hh : A.handled = none)
    (hm : (ax, lstO vs nn) ∈ M₁) (hLe : env.locals = L) (hx : env.kindOf x = some .local) (hp : (env.scope.kind == .class || (env.scope.kind == .module && env.locals != env.globals)) = false)
    (hkeep : ∀ i m M, Kk M₁ i m M → (ax, lstO vs nn) ∈ M) (h0 : Kk M₁ 0 m₁ M₁)
    (step : TurnG w p loose mean mg mb A A₀ base outer L g₁ body env (fun i v => vs[i]? = some v) vs.length x ns m₁ (Kk M₁) s) (k : LoopsG A₀ base outer L g₁ s R x ns m₁ (Kk M₁ vs.length)) :
    wpAny (model Challenge.rw_bm0005_01.row.prog w) A (pyIter (.ref ax)) (fun it s₂ => codeAny (model Challenge.rw_bm0005_01.row.prog w) A (.forLoop (.Name x px) it body [] env) R s₂) E s :=
  for_list (Inv := fun i m M => (∀ z, z ∉ x :: ns → m z = m₁ z) ∧ Kk M₁ i m M) F B XB TB D N hb hh hm hLe hx hp (fun i m M h => hkeep i m M h.2) ⟨fun _ _ => rfl, h0⟩ (turnG step) (loopsG k)

abbrev rangeO (n : Int) (t u : Tok) : Obj := { cls := .type "range", data := .fields #[.int 0 t, .int n u, .int 1 (t + 1)] }
theorem call_range {n : Int} {t : Tok} {m : Str → Option Value} {Q : Value → Shared → Prop} (FF : Fr h₀ L s.heap m) (N : News h₀ L s.heap M)
    (h : ∀ h' r tk t', Fr h₀ L h' m → News h₀ L h' ((r, rangeO n t' t) :: M) → (∀ q ∈ M, q.1 < r) → Q (.ref r) { s with heap := h', toks := tk }) :
    wpAny (model Challenge.rw_bm0005_01.row.prog w) A (call (.type "range") [.int n t]) Q E s := by
  have fresh : h₀.get? s.heap.objs.size = none := by
    cases e : h₀.get? s.heap.objs.size with
    | none => rfl
    | some o' => exact absurd (Heap.lt_size (FF.keep _ o' e)) (Nat.lt_irrefl _)
  refine call_range_1 (h _ _ _ s.toks (FF.push _) (fun q hq => ?_) (fun q hq => Heap.lt_size (N q hq).1))
  rcases List.mem_cons.mp hq with rfl | hq
  · exact ⟨Heap.get?_push_size _ rfl, Nat.ne_of_gt FF.ns.lt, fresh⟩
  · exact ⟨Heap.get?_push_of_some _ (N q hq).1, (N q hq).2⟩
theorem small_range {n : Int} (h0 : 0 ≤ n) (h1 : n ≤ 100) : Builtin.Range.small 0 n 1 = true ∧ Builtin.Range.rangeSize 0 n 1 = n := by
  have : ∀ k : Nat, k ≤ 100 → Builtin.Range.small 0 (k : Int) 1 = true ∧ Builtin.Range.rangeSize 0 (k : Int) 1 = (k : Int) := by decide +kernel
  obtain ⟨k, rfl⟩ := Int.eq_ofNat_of_zero_le h0
  exact this k (by omega)
theorem forRangeG {x : Str} {px : Pos} {body : List Stmt} {env : Env} {M₁ : Led} (ns : List Str) (Kk : Led → Nat → (Str → Option Value) → Led → Prop) {R : Result → Shared → Prop} {ax : Addr} {k : Nat} {t u : Tok}
    (F : Fr g₁ L s.heap m₁) (B : Below A₀ base outer g₁) (XB : (hd.heap_1 w.params).In base) (TB : Top p loose mean mg mb base) (D : KtsDicts (outer.filterMap (·.frame)) g₁) (N : News g₁ L s.heap M₁) (hb : AllBare s.gens) (hh : A.handled = none)
    (hm : (ax, rangeO (k : Int) t u) ∈ M₁) (hk : k ≤ 100) (hLe : env.locals = L) (hx : env.kindOf x = some .local) (hp : (env.scope.kind == .class || (env.scope.kind == .module && env.locals != env.globals)) = false)
    (h0 : Kk M₁ 0 m₁ M₁)
    (step : TurnG w p loose mean mg mb A A₀ base outer L g₁ body env (fun i v => ∃ t, v = .int (i : Int) t) k x ns m₁ (Kk M₁) s) (kk : LoopsG A₀ base outer L g₁ s R x ns m₁ (Kk M₁ k)) :
    wpAny (model Challenge.rw_bm0005_01.row.prog w) A (pyIter (.ref ax)) (fun it s₂ => codeAny (model Challenge.rw_bm0005_01.row.prog w) A (.forLoop (.Name x px) it body [] env) R s₂) E s := by
  subst hLe
  have hr : IsRange s.heap ax 0 (k : Int) 1 t u (t + 1) := (N _ hm).1
  obtain ⟨hs, hz⟩ := small_range (n := (k : Int)) (by omega) (by omega)
  refine wpAny_pyIter_range hr hs ?_
  rw [hz]
  have up : ∀ b o, s.heap.get? b = some o → (s.heap.push { cls := .type "range_iterator", data := .fields #[rawInt 0, rawInt (k : Int), rawInt 1] }).get? b = some o := fun b o e => Heap.get?_push_of_some _ e
  have S₀ : Std A₀ base outer g₁ env.locals m₁ g₁ s.heap s.gens M₁ := ⟨.refl, F, N, B, D, hb⟩
  have W := Walks.range (prog := Challenge.rw_bm0005_01.row.prog) (w := w) hh s.heap.objs.size 0 1 k
  refine for_core (s := { s with heap := s.heap.push { cls := .type "range_iterator", data := .fields #[rawInt 0, rawInt (k : Int), rawInt 1] } }) (keep := []) (Inv := fun i m M => (∀ z, z ∉ x :: ns → m z = m₁ z) ∧ Kk M₁ i m M) (Bnd := fun i m m' => ∃ v, (∃ t, v = Value.int (i : Int) t) ∧ m' = fun z => if z = x then some v else m z) (n := k) (m₁ := m₁) (M₁ := M₁) (oJ := ({ cls := .type "range_iterator", data := .fields #[rawInt 0, rawInt (k : Int), rawInt 1] } : Obj)) XB TB
    (KTurns.ofWalks (target := .Name x px) W fun i v s' Q E _ hQ => wpAny_pure hQ) rfl
    (fun b hb => .inl (by simpa using hb)) (fun i m M h q hq => by cases hq) (fun i h st => ⟨_, st⟩)
    (fun i v s' mc Q E hP _ hn kx => wpAny_assign_Name (wpAny_storeName_local hx hn (fun h₂ hn₂ hs₂ => kx h₂ _ _ hn₂ ⟨v, by simpa using hP, rfl⟩ fun b o hb e => hs₂.extBut b o hb e) hp))
    (turnG step) (by simpa using Heap.get?_push_size _ rfl) (S₀.grow up) (Nat.ne_of_gt F.ns.lt) (next_is_new F) (fun q hq => Nat.ne_of_lt (Heap.lt_size (N q hq).1)) ⟨fun _ _ => rfl, h0⟩
    (fun g h gn tk m M T F N B D b inv => loopsG kk g h gn tk m M T F N B D b inv)

/-- a comprehension over a range -/
theorem rangeI {elt iter : Expr} {x : Str} {px : Pos} {ifs : List Expr} {scope : Scope} {cl : List (Str × Addr)} {pos : Pos} {env : Env} {m : Str → Option Value} (J : Led → Nat → List Value → Prop) {RR : Value → Addr → Result → Shared → Prop} {ax : Addr} {k : Nat} {t u : Tok}
    (F : Fr g₁ L s.heap m) (B : Below A₀ base outer g₁) (XB : (hd.heap_1 w.params).In base) (TB : Top p loose mean mg mb base) (Dk : KtsDicts (outer.filterMap (·.frame)) g₁) (N : News g₁ L s.heap news) (hb : AllBare s.gens) (hh : A.handled = none)
    (hm : (ax, rangeO (k : Int) t u) ∈ news) (hk : k ≤ 100) (hcell : ∀ y ∈ scope.names, y.2 ≠ .cell) (hkind : scope.kind = .function) (hx : scope.names.lookup x = some .local)
    (hlen : ∀ M i ys, J M i ys → ys.length ≤ sizeLine) (hI : ∀ M, J M 0 [])
    (EA : EltAt w p loose mean mg mb A A₀ base outer g₁ L m ifs elt scope cl env (fun i mc => ∃ t, mc x = some (.int (i : Int) t)) k news (fun i ys tl => J (news ++ tl) i ys) s)
    (fin : BlockEnd A₀ base outer L m g₁ news s k (fun i ys tl => J (news ++ tl) i ys) RR) :
    wpAny (model Challenge.rw_bm0005_01.row.prog w) A (pyIter (.ref ax)) (fun it s₂ => wpAny (model Challenge.rw_bm0005_01.row.prog w) A (newList []) (fun acc s₃ => wpAny (model Challenge.rw_bm0005_01.row.prog w) A (newFunctionEnv scope env.globals cl [] env.qual none .none (some env)) (fun cenv s₄ =>
      codeAny (model Challenge.rw_bm0005_01.row.prog w) A (.compStart (.ListComp elt [⟨.Name x px, iter, ifs, 0⟩] scope pos) 0 it acc { cenv with scope := relabel scope env }) (RR acc cenv.locals) s₄) E s₃) E s₂) E s := by
  have hr : IsRange s.heap ax 0 (k : Int) 1 t u (t + 1) := (N _ hm).1
  obtain ⟨hs, hz⟩ := small_range (n := (k : Int)) (by omega) (by omega)
  refine wpAny_pyIter_range hr hs ?_
  rw [hz]
  have up : ∀ b o, s.heap.get? b = some o → (s.heap.push { cls := .type "range_iterator", data := .fields #[rawInt 0, rawInt (k : Int), rawInt 1] }).get? b = some o := fun b o e => Heap.get?_push_of_some _ e
  have S₀ : Std A₀ base outer g₁ L m g₁ s.heap s.gens news := ⟨.refl, F, N, B, Dk, hb⟩
  have S₁ := (S₀.grow up).add (Heap.get?_push_size s.heap (o := { cls := .type "range_iterator", data := .fields #[rawInt 0, rawInt (k : Int), rawInt 1] }) rfl) (Nat.ne_of_gt F.ns.lt) (next_is_new F)
  have W := Walks.range (prog := Challenge.rw_bm0005_01.row.prog) (w := w) hh s.heap.objs.size 0 1 k
  refine src_any (s := { s with heap := s.heap.push { cls := .type "range_iterator", data := .fields #[rawInt 0, rawInt (k : Int), rawInt 1] } }) (own₀ := [_]) (n := k) (Bnd := fun i mc => ∃ t, mc x = some (.int (i : Int) t)) B S₁.F XB TB Dk S₁.N hb
    (KTurns.ofWalks (target := .Name x px) W fun i v s' Q E _ hQ => wpAny_pure hQ) (fun i s' Q E st hQ => W.self i s' Q E st hQ)
    (fun b hb => .inl (by simpa using hb)) (fun i h st b hb => by rw [List.mem_singleton.mp hb]; exact ⟨_, st⟩) (fun C i v s mc Q E hP hq hn kx => ?_)
    hcell hkind (by simpa using Heap.get?_push_size _ rfl) rfl (fun q hq hb => absurd (List.mem_singleton.mp hb) (Nat.ne_of_lt (Heap.lt_size (N q hq).1))) (fun i ys tl h => hlen _ i ys h) (hI _) EA fin
  obtain ⟨t, rfl⟩ := hP
  exact assign_name hkind hx C _ s mc Q E hn fun h' tk mc' hn' hx' hk => kx h' tk mc' hn' ⟨t, by simpa using hx'⟩ hk
end
end
local macro_rules | `(tactic| walk_at "And") => `(tactic| ((with_reducible show MethP _ _ _ _ _ ∧ _); k_dflt ((with_reducible refine' And.intro ?mp9 ?_); (case mp9 => (refine' methP ?N ?q ?X; (case N => k_asm); (case q => k_mem); (case X => k_in)))); (try dsimp only [List.nil_append, List.cons_append])))
local macro_rules | `(tactic| walk_at "m_go") => `(tactic| (repeat' (first | (k_unfold; (try dsimp only)) | (k_end; wrow_close) | walk1 | (dsimp only; walk1) | (dsimp only; k_unfold; (try dsimp only)) | (leave1; walk_say "STEP leave1"; try dsimp only) | fail "no step")))
local macro_rules | `(tactic| walk_at "m_ls") => `(tactic| first
  | (with_reducible refine lt_sub (by assumption) ?_; walk_at "m_sub")
  | (with_reducible refine ls0 (by assumption) ?_; walk_at "m_sub")
  | (with_reducible refine ls1 (by assumption) ?_; walk_at "m_sub")
  | (with_reducible refine ls2 (by assumption) ?_; walk_at "m_sub")
  | (with_reducible refine ls3 (by assumption) ?_; walk_at "m_sub")
  | (with_reducible refine ls4 (by assumption) ?_; walk_at "m_sub")
  | (with_reducible refine ls5 (by assumption) ?_; walk_at "m_sub")
  | (with_reducible refine ls6 (by assumption) ?_; walk_at "m_sub")
  | (with_reducible refine ls7 (by assumption) ?_; walk_at "m_sub")
  | (with_reducible refine ls8 (by assumption) ?_; walk_at "m_sub")
  | (with_reducible refine ls9 (by assumption) ?_; walk_at "m_sub")
  | (with_reducible refine ls10 (by assumption) ?_; walk_at "m_sub")
  | (with_reducible refine ls11 (by assumption) ?_; walk_at "m_sub")
  | (with_reducible refine ls12 (by assumption) ?_; walk_at "m_sub")
  | (with_reducible refine ls13 (by assumption) ?_; walk_at "m_sub")
  | (with_reducible refine ls14 (by assumption) ?_; walk_at "m_sub")
  | (with_reducible refine ls15 (by assumption) ?_; walk_at "m_sub")
  | (with_reducible refine ls16 (by assumption) ?_; walk_at "m_sub")
  | ((with_reducible refine off_lt ?_ ?_); (focus (walk_at "m_ltc")); walk_at "m_ls")
  | (with_reducible exact off_nil))
local macro_rules | `(tactic| walk_at "m_split") => `(tactic| first
  | exact Split.nil
  | (refine' Split.app ?h9 ?r9; (case h9 => first | assumption | exact ord_sub (by assumption) (by walk_at "m_sub")); (case r9 => walk_at "m_split"))
  | (refine' Split.cons ?h9 ?r9; (case h9 => first | walk_at "m_ls" | (refine off_old (by assumption) ?_; (repeat (first | exact Nat.le_refl _ | refine Nat.le_succ_of_le ?_)); done) | (intro q9 hq9; (try dsimp only); refine Nat.ne_of_lt ?_; walk_at "m_lt")); (case r9 => walk_at "m_split")))
local macro_rules | `(tactic| walk_at "truthy") => `(tactic| ((with_reducible show wpAny _ _ (truthy (Doc.val _)) _ _ _); k_dflt (refine' truthy_doc ?N ?hd ?hl ?_; (case N => k_asm); (case hd => walk_at "m_doc"); (case hl => assumption)); intro tk9))
local macro_rules | `(tactic| walk_at "call builtin:len") => `(tactic| ((with_reducible show wpAny _ _ (call _ [Doc.val _]) _ _ _); k_dflt (refine' len_doc ?N ?hd ?hl ?_; (case N => k_asm); (case hd => walk_at "m_doc"); (case hl => assumption)); intro tk9 tk8))
local macro_rules | `(tactic| walk_at "subscriptTail Name Name int") => `(tactic| ((with_reducible show wpAny _ _ (subscriptTail _ _ (Doc.val _) (Value.int _ _)) _ _ _); k_dflt (refine' item_doc ?N ?hd ?hl ?h1 ?h2 ?_ ?hs; (case N => k_asm); (case hd => walk_at "m_doc"); (case hl => assumption); (case hs => (intro a9; with_unfolding_all rfl)); (case h1 => assumption); (case h2 => assumption)); intro e9 he9))
local macro_rules | `(tactic| walk_at "call ref") => `(tactic| ((with_reducible show wpAny _ _ (call (Value.ref 735) [Value.int _ _]) _ _ _); k_dflt (refine' mk_index1 ?B ?F ?X ?N ?T ?A ?f ?ke ?h ?dp ?u ?_; (case F => k_asm); (case B => k_asm); (case X => k_asm); (case N => k_asm); (case T => k_asm); (case A => exact rfl); (case f => exact rfl); (case ke => exact rfl); (case h => exact rfl); (case dp => k_room); (case u => k_room); intro r' tl' h' tk' F' N' o' P'; (try dsimp only at P'))))
local macro_rules | `(tactic| walk_at "call ref") => `(tactic| ((with_reducible show wpAny _ _ (call (Value.ref 212) [Doc.val _] _) _ _ _); k_dflt (refine' mk_dat_in (ky := Key.place _) ?B ?F ?X ?N ?T ?A ?f ?ke ?h ?dp ?u ?hH ?hp ?su ?hc ?hr ?hg ?_; (case F => k_asm); (case B => k_asm); (case X => k_asm); (case N => k_asm); (case T => k_asm); (case A => exact rfl); (case f => exact rfl); (case ke => exact rfl); (case h => exact rfl); (case dp => k_room); (case u => k_room); (case hH => assumption); (case hp => assumption); (case su => walk_at "m_sub"); (case hc => walk_at "m_dat"); (case hr => walk_at "m_doc"); (case hg => assumption); intro r' tl' h' tk' F' N' o' P'; (try dsimp only at P'))))
local macro_rules | `(tactic| walk_at "inplaceOp Add ref ref") => `(tactic| (k_dflt (refine' iadd_turn ?F ?N ?hb ?oJ ?hj ?of ?S ?hz ?hx ?_; (case F => k_asm); (case N => k_asm); (case hb => k_mem); (case oJ => assumption); (case hj => k_mem); (case of => assumption); (case S => walk_at "m_split"); (case hz => assumption); (case hx => exact Nat.le_of_ble_eq_true rfl); intro h' n2' os' F' N')))
local macro_rules | `(tactic| walk_at "m_map") => `(tactic| first | exact map_same | exact map_same2 rfl | exact map_same2 (if_pos rfl))
local macro_rules | `(tactic| walk_at "m_grow") => `(tactic| (refine' grow_end ?k ?e1 ?e2 ?T ?F ?N ?B ?D ?b ?oJ ?of ?or ?os ?m ?_; (case k => assumption); (case e1 => exact rfl); (case e2 => exact rfl); (case F => k_asm); (case N => k_asm); (case B => k_asm); (case D => k_asm); (case T => walk_at "m_turn"); (case b => assumption); (case oJ => assumption); (case of => assumption); (case or => assumption); (case os => assumption)))
local macro_rules | `(tactic| walk_at "m_stay") => `(tactic| (refine' grow_stay ?k ?e1 ?e2 ?T ?F ?N ?B ?D ?b ?oJ ?of ?or ?m ?_; (case k => assumption); (case e1 => exact rfl); (case e2 => exact rfl); (case F => k_asm); (case N => k_asm); (case B => k_asm); (case D => k_asm); (case T => walk_at "m_turn"); (case b => assumption); (case oJ => assumption); (case of => assumption); (case or => assumption)))
local macro_rules | `(tactic| walk_at "call builtin:list.append") => `(tactic| (k_dflt (refine' append_turn ?F ?N ?oJ ?hj ?of ?S ?hz ?_; (case F => k_asm); (case N => k_asm); (case oJ => assumption); (case hj => k_mem); (case of => assumption); (case S => walk_at "m_split"); (case hz => assumption); intro h' n2' os' F' N')))
section
local macro_rules | `(tactic| walk_at "call ref") => `(tactic| (k_dflt (apply call_meth; walk_at "ms"; apply use_wrapC; walk_at "ms"; walk_at "m_wrp")))
local macro_rules | `(tactic| walk_at "exec For Name Attribute cons nil") => `(tactic| (k_dflt (refine' wpAny_For ?_ ?hs; (case hs => (intro _; rfl)))))
def pickI (d : Doc) (ks : List Key) (ps : List Int) : List (List Key × Doc) := ps.filterMap fun i => (d.get (.place i)).map fun e => (ks ++ [Key.place i], e)
theorem pickI_walk (d : Doc) (ks : List Key) (ps : List Int) : under ks ((Path.index ps).walk d) = pickI d ks ps := by
  simp only [under, Path.walk, Step.down, pickI, List.map_filterMap]
  congr 1
  funext x
  cases d.get (.place x) <;> rfl
theorem pickI_none {d : Doc} {ks : List Key} {ps : List Int} {i : Nat} {x : Int} (hx : ps[i]? = some x) (h : d.get (.place x) = none) : pickI d ks (ps.take (i + 1)) = pickI d ks (ps.take i) := by
  rw [List.take_add_one, hx]; simp [pickI, h]
theorem pickI_some {d e : Doc} {ks : List Key} {ps : List Int} {i : Nat} {x : Int} (hx : ps[i]? = some x) (h : d.get (.place x) = some e) : pickI d ks (ps.take (i + 1)) = pickI d ks (ps.take i) ++ [(ks ++ [Key.place x], e)] := by
  rw [List.take_add_one, hx]; simp [pickI, h]
section
variable {w : World} {p : Program} {loose : List Str} {mean : ExcName → Option Value} {mg mb : Str → Option Value}
theorem index_base : Spec w p loose mean mg mb 671 30 300
    (fun (x : Doc × List Key × Doc × List Int) news args => ∃ v a, args = ⟨[v, a], [(Str.ofString "create", .bool false)]⟩ ∧ PathIn w news v (.index x.2.2.2) ∧ x.2.2.2.length ≤ 2 ∧ DocIn w news x.1 ∧ ArgIn w news x.1 a x.2.1 x.2.2.1)
    (fun x news r => FindPost w x.1 (under x.2.1 ((Path.index x.2.2.2).walk x.2.2.1)) news r) := by
  intro dp un gd base fr g news s args R x G hdp hun hgn hpre ret
  obtain ⟨root, ks, d, ps⟩ := x
  obtain ⟨v, a, rfl, hp, hl2, hr, ha⟩ := hpre
  have KB := G.kb
  have TB := G.tb
  revert KB
  k_fill
  intro KB
  dsimp only at hr ha ret hp hl2
  have hp0 := hp
  cases hp with
  | index p1 p2 p3 p4 =>
  cases hq : d.isList with
  | false =>
    k_dflt walk_at "m_enter"
    k_fold
    walk_at "m_go"
    walk_at "m_fin"
    intro hM
    have e : under ks ((Path.index ps).walk d) = [] := by
      simp [Path.walk, Step.down, place_nolist hq, under]
    rw [e]
    exact ⟨_, [], _, rfl, hM _ (by k_mem), .nil⟩
  | true =>
    k_dflt walk_at "m_enter"
    k_fold
    walk_at "m_go"
    with_reducible rename News _ _ _ _ => NN
    k_dflt (refine' forTupleI (Grow fun i M zs => DatsIn w M root zs (pickI d ks (ps.take i))) ?zF ?zB ?zXB ?zTB ?zD ?zN ?zb ?zhh ?zhm ?ze ?zhx ?zhp ?zkeep ?zh0 ?zstep ?zk; (case zF => k_asm); (case zB => k_asm); (case zXB => assumption); (case zTB => assumption); (case zD => k_asm); (case zN => exact skip2 (skip1 NN)); (case zb => assumption); (case zhh => exact rfl); (case zhm => k_mem); (case ze => exact rfl); (case zhx => exact rfl); (case zhp => exact rfl))
    case zkeep =>
      rintro i M ⟨D, o, R, zs, n, tl, e1, rfl, _⟩
      cases e1
      k_mem
    case zh0 => exact Grow.start (by walk_at "m_ls") .nil
    case zstep =>
      intro i v J oJ M h gn tk g2 Q E' hv hK T' F' N' B' X' TP' D' b' off k
      obtain ⟨x, t, rfl, hx⟩ := intsAt p4 hv
      obtain ⟨D, o, R, zs, n, tl, e1, rfl, off1, ord1, hP⟩ := hK
      cases e1
      have hH9 := here_of off1
      have hz9 : zs.length ≤ 90 := by
        have e1 := hP.length
        have e2 : (pickI d ks (ps.take i)).length ≤ (ps.take i).length := List.length_filterMap_le _ _
        rw [List.length_take] at e2; omega
      walk_at "m_go"
      · walk_at "m_grow"
        case m => walk_at "m_map"
        rw [pickI_some hx (by assumption)]
        exact (hP.mono (by walk_at "m_sub")).add (DatIn.mono (by assumption) (by walk_at "m_sub"))
      all_goals (walk_at "m_stay"; (case m => walk_at "m_map"); rw [pickI_none hx (place_none hq (by omega))]; exact hP)
    case zk =>
      intro g2 h gn tk M o T' F' N' B' D' b' hK
      obtain ⟨D, o, R, zs, n, tl, e1, rfl, off1, ord1, hP⟩ := hK
      cases e1
      walk_at "m_go"
      walk_at "m_fin"
      intro hM
      rw [List.take_of_length_le (Nat.le_of_eq (intsLen p4).symm)] at hP
      rw [pickI_walk]
      exact ⟨_, zs, _, rfl, hM _ (by k_mem), hP.mono fun q hq => hM q (by (revert q; walk_at "m_sub"))⟩
end
end
section
section
variable {w : World} {p : Program} {loose : List Str} {mean : ExcName → Option Value} {mg mb : Str → Option Value}
  {A A₀ : Around} {base h₀ : Heap} {env : Env} {outer : List Env} {L : Addr} {m : Str → Option Value} {news M : Led} {s : Shared} {Q E : Value → Shared → Prop} {f : Addr} {n u : Nat}
theorem use_ibase {root d : Doc} {ks : List Key} {v a : Value} {ps : List Int} (F : Fr h₀ L s.heap m) (B : Below A₀ base outer h₀) (XB : (hd.heap_1 w.params).In base) (TB : Top p loose mean mg mb base) (D : KtsDicts (outer.filterMap (·.frame)) h₀)
    (N : News h₀ L s.heap M) (hA : A.frames = some (env :: outer)) (hf : env.frame = some L) (hke : env.scope.kind = .function) (hh : A.handled = none) (hdp : A.depth + 30 < recursionLimit) (hu : A.units + 300 < cLine)
    (hb : AllBare s.gens) (hp : PathIn w news v (.index ps)) (hl : ps.length ≤ 2) (ha : ArgIn w news root a ks d) (hr : DocIn w news root) (sub : ∀ q ∈ news, q ∈ M)
    (k : Comes w p loose mean mg mb A₀ base outer L m h₀ M s Q (fun tl r => FindPost w root (under ks ((Path.index ps).walk d)) (news ++ tl) r)) : wpAny (model Challenge.rw_bm0005_01.row.prog w) A (call (.ref 671) [v, a] [(Str.ofString "create", .bool false)]) Q E s :=
  index_base.call F B XB TB D N sub hA hf hke hh hdp hu hb (root, ks, d, ps) ⟨v, a, rfl, hp, hl, hr, ha⟩ k
end
local macro_rules | `(tactic| walk_at "call ref") => `(tactic| ((with_reducible show wpAny _ _ (call (Value.ref 671) _ _) _ _ _); k_dflt (apply use_ibase; walk_at "ms"; walk_at "mi"; intro P'; (try dsimp only at P'))))
section
variable {w : World} {p : Program} {loose : List Str} {mean : ExcName → Option Value} {mg mb : Str → Option Value}
theorem index_find {ps : List Int} (hl : ps.length ≤ 2) : FindSpec w p loose mean mg mb 657 32 310 (.index ps) := by
  intro dp un gd base fr g news s args R x G hdp hun hgn hpre ret
  obtain ⟨root, ks, d⟩ := x
  obtain ⟨v, a, rfl, hp, hr, ha⟩ := hpre
  have KB := G.kb
  have TB := G.tb
  revert KB
  k_fill
  intro KB
  dsimp only at hr ha ret hp
  have hp0 := hp
  cases hp with
  | index p1 p2 p3 p4 =>
  k_dflt walk_at "m_enter"
  k_fold
  with_reducible rename Fr _ _ _ _ => FF9
  replace FF9 := fr_congr (m' := fun y => List.lookup y [(Str.ofString "datum", _), (Str.ofString "self", _)]) FF9 (fun z => congrArg (List.lookup z) rfl)
  walk_at "m_go"
  walk_at "m_fin"
  intro hM
  obtain ⟨c, vs, n, rfl, q1, q2⟩ := (by assumption : FindPost _ _ _ _ _)
  exact ⟨c, vs, n, rfl, hM _ q1, q2.mono hM⟩
end
end
section
local macro_rules | `(tactic| walk_at "zz0") => `(tactic| skip)
local macro_rules | `(tactic| walk_at "call ref") => `(tactic| (k_dflt (apply call_meth; walk_at "ms"; apply use_wrapC; walk_at "ms"; walk_at "m_wrp")))
section
variable {w : World} {p : Program} {loose : List Str} {mean : ExcName → Option Value} {mg mb : Str → Option Value}
theorem this_find : FindSpec w p loose mean mg mb 291 22 200 .this := by
  intro dp un gd base fr g news s args R x G hdp hun hgn hpre ret
  obtain ⟨root, ks, d⟩ := x
  obtain ⟨v, a, rfl, hp, hr, ha⟩ := hpre
  have KB := G.kb
  have TB := G.tb
  revert KB
  k_fill
  intro KB
  dsimp only at hr ha ret hp
  cases hp with
  | this p1 p2 =>
  k_dflt walk_at "m_enter"
  k_fold
  with_reducible rename Fr _ _ _ _ => FF9
  replace FF9 := fr_congr (m' := fun y => List.lookup y [(Str.ofString "datum", _), (Str.ofString "self", _)]) FF9 (fun z => congrArg (List.lookup z) rfl)
  walk_at "m_go"
  walk_at "m_fin"
  intro hM
  have e : under ks (Path.this.walk d) = [(ks, d)] := by simp [Path.walk, under]
  rw [e]
  exact ⟨_, [_], _, rfl, hM _ (by k_mem), .cons (DatIn.mono (by assumption) fun q hq => hM q (by (revert q; walk_at "m_sub"))) .nil⟩
theorem root_find : Spec w p loose mean mg mb 230 12 120
    (fun (x : Doc) news args => ∃ v, args = ⟨[v, x.val], []⟩ ∧ PathIn w news v .root ∧ DocIn w news x) (fun x news r => FindPost w x [([], x)] news r) := by
  intro dp un gd base fr g news s args R x G hdp hun hgn hpre ret
  obtain ⟨v, rfl, hp, hr⟩ := hpre
  have KB := G.kb
  have TB := G.tb
  revert KB
  k_fill
  intro KB
  dsimp only at hr ret hp
  cases hp with
  | root p1 p2 =>
  k_dflt walk_at "m_enter"
  k_fold
  with_reducible rename Fr _ _ _ _ => FF9
  replace FF9 := fr_congr (m' := fun y => List.lookup y [(Str.ofString "data", _), (Str.ofString "self", _)]) FF9 (fun z => congrArg (List.lookup z) rfl)
  walk_at "m_go"
  walk_at "m_fin"
  intro hM
  exact ⟨_, [_], _, rfl, hM _ (by k_mem), .cons (.base (hM _ (by k_mem)) (hM _ (by k_mem)) (.root (hM _ (by k_mem)) (hM _ (by k_mem))) (.inl rfl)) .nil⟩
end
end
section
local macro_rules | `(tactic| walk_at "call type:enumerate") => `(tactic| ((with_reducible show wpAny _ _ (call _ [Doc.val _]) _ _ _); k_dflt (refine' call_enum_doc ?F ?N ?hd ?hl ?_; (case F => k_asm); (case N => k_asm); (case hd => walk_at "m_doc"); (case hl => assumption); intro h' e' it' oi' al' n' hm' hoi' F' N' l1' l2')))
section
variable {w : World} {p : Program} {loose : List Str} {mean : ExcName → Option Value} {mg mb : Str → Option Value}
theorem elems_spec : Spec w p loose mean mg mb 742 20 200
    (fun (x : Doc × List Key × Doc) news args => ∃ v, args = ⟨[v], []⟩ ∧ DocIn w news x.1 ∧ DatIn w news x.1 v x.2.1 x.2.2 ∧ x.2.2.isList = true)
    (fun x news r => FindPost w x.1 (under x.2.1 (Path.wild.walk x.2.2)) news r) := by
  intro dp un gd base fr g news s args R x G hdp hun hgn hpre ret
  obtain ⟨root, ks, d⟩ := x
  obtain ⟨v, rfl, hr, hdat, hl⟩ := hpre
  have KB := G.kb
  have TB := G.tb
  revert KB
  k_fill
  intro KB
  dsimp only at hr hdat ret hl
  have hdoc := hdat.doc hr
  obtain ⟨c, dx, t1, t2, t3, pv', cv', rfl, c1, c2⟩ := hdat.objs
  k_dflt walk_at "m_enterC"
  try k_fold
  walk_at "m_go"
  k_dflt (refine' enumI (fun M i ys => DatsIn w M root ys ((d.items.zipIdx.map fun e => (ks ++ [Key.place (e.2 : Int)], e.1)).take i)) ?zF ?zB ?zXB ?zTB ?zD ?zN ?zb ?zhh ?zoi ?zl1 ?zl2 ?zhm ?zhcell ?zkd ?zhx1 ?zhx2 ?zhxx ?zlen ?zI ?zEA ?zfin; (case zF => k_asm); (case zB => k_asm); (case zXB => assumption); (case zTB => assumption); (case zD => k_asm); (case zN => k_asm); (case zb => assumption); (case zhh => exact rfl); (case zoi => assumption); (case zl1 => assumption); (case zl2 => assumption); (case zhm => assumption); (case zhcell => decide); (case zkd => exact rfl); (case zhx1 => exact rfl); (case zhx2 => exact rfl); (case zhxx => decide))
  case zlen =>
    intro M i ys h9
    have e1 := h9.length
    have e2 := (list_doc hdoc hl)
    obtain ⟨_, _, _, _, e3⟩ := e2
    rw [e1, List.length_take, List.length_map, List.length_zipIdx]
    exact Nat.le_trans (Nat.min_le_right _ _) (Nat.le_trans e3 (by decide))
  case zI => exact fun M => .nil
  case zEA =>
    intro i own C oC D mc h gn tk g2 ys tl Q Z E' hi hB hO F' N' B' X' TP' D' b' hI ord hH kQ kZ
    obtain ⟨t, v, hv, hm1, hm2⟩ := hB
    obtain ⟨e, he, rfl⟩ : ∃ e, d.items[i]? = some e ∧ e.val = v := by simpa [List.getElem?_map] using hv
    have hg := place_at hl he
    refine wpAny_tests_nil ?_
    simp only [if_true]
    walk_at "m_go"
    (refine' hands_end ?zk ?ze1 ?ze2 ?zT ?zF ?zN ?zB ?zD ?zb ?zS ?_; (case zk => assumption); (case ze1 => exact rfl); (case ze2 => exact rfl); (case zF => k_asm); (case zN => k_asm); (case zB => k_asm); (case zD => k_asm); (case zT => walk_at "m_turn"); (case zb => assumption); (case zS => walk_at "m_split"))
    intro hM
    dsimp only
    rw [wild_take he]
    exact (hI.mono (by walk_at "m_sub")).add (DatIn.mono (by assumption) (by walk_at "m_sub"))
  case zfin =>
    refine' blockEnd_e ?_
    intro D2 g3 h3 gn3 tk3 zs tl3 T' F' N' B' D' b' hlt2 ord2 hZ
    refine' fin_led ?zmG ?zmR ?zm1 ?zm2 ?zmT ?zmF ?zmN ?zmB ?zmD ?zmb ?zmS ?_
    case zmG => assumption
    case zmR => assumption
    case zm1 => exact rfl
    case zm2 => exact rfl
    case zmF => k_asm
    case zmT => walk_at "m_turn"
    case zmN => k_asm
    case zmB => k_asm
    case zmD => k_asm
    case zmb => assumption
    case zmS => walk_at "m_split"
    intro hM
    rw [List.take_of_length_le (by simp)] at hZ
    rw [wild_list hl]
    exact ⟨D2, zs, _, rfl, hM _ (by k_mem), hZ.mono fun q hq => hM q (by (revert q; walk_at "m_sub"))⟩
end
end
section
theorem gm_items {s : Shared} {M : Model} {A : Around} {E : Value → Shared → Prop} {pl : Sem Bool} {Q : Value × List Value → Shared → Prop} {news : Led} {h₀ : Heap} {L a : Addr} {es : List DictEntry} {n : Nat} (N : News h₀ L s.heap news) (hm : (a, dictOf es n) ∈ news) (h : Q (.builtin "dict.items", [.ref a]) s) :
    wpAny M A (getMethod (.ref a) (Str.ofString "items") pl) Q E s :=
  getMethod_builtin (T := "dict") ⟨_, (N _ hm).1, rfl⟩ F.plainAttrs_dict F.slot_dict_items (by kernel_rfl) (fun b e => by cases e; exact ⟨_, (N _ hm).1, rfl⟩) h
theorem wild_dict {a : Addr} {es : List (Str × Tok × Doc)} {ks : List Key} : under ks (Path.wild.walk (.dict a es)) = es.map fun e => (ks ++ [Key.name e.1], e.2.2) := by
  simp [under, Path.walk, Step.down, List.map_map, Function.comp_def]
theorem wild_none {d : Doc} {ks : List Key} (h1 : d.isList = false) (h2 : d.isDict = false) : under ks (Path.wild.walk d) = [] := by
  cases d with
  | leaf => rfl
  | list => cases h1
  | dict => cases h2
theorem dict_take {es : List (Str × Tok × Doc)} {ks : List Key} {i : Nat} {e : Str × Tok × Doc} (h : es[i]? = some e) :
    (es.map fun e => (ks ++ [Key.name e.1], e.2.2)).take (i + 1) = (es.map fun e => (ks ++ [Key.name e.1], e.2.2)).take i ++ [(ks ++ [Key.name e.1], e.2.2)] := by
  rw [List.take_add_one]; congr 1; simp [h]
theorem name_at {a : Addr} {es : List (Str × Tok × Doc)} (nd : (es.map (·.1)).Nodup) {i : Nat} {e : Str × Tok × Doc} (h : es[i]? = some e) : (Doc.dict a es).get (.name e.1) = some e.2.2 := by
  simp only [Doc.get, Option.map_eq_some_iff]
  refine ⟨e, ?_, rfl⟩
  induction es generalizing i with
  | nil => simp at h
  | cons x r ih =>
    simp only [List.map_cons, List.nodup_cons] at nd
    cases i with
    | zero => simp at h; subst h; simp
    | succ i =>
      simp only [List.getElem?_cons_succ] at h
      have : x.1 ≠ e.1 := fun z => nd.1 (by rw [z]; exact List.mem_map_of_mem (List.mem_of_getElem? h))
      rw [List.find?_cons_of_neg (by simpa using this)]
      exact ih nd.2 h
section
variable {w : World} {p : Program} {loose : List Str} {mean : ExcName → Option Value} {mg mb : Str → Option Value}
  {A A₀ : Around} {base h₀ : Heap} {env : Env} {outer : List Env} {L : Addr} {m : Str → Option Value} {news M : Led} {s : Shared} {Q E : Value → Shared → Prop} {f : Addr} {n u : Nat}
theorem use_elems {root d : Doc} {ks : List Key} {v : Value} (F : Fr h₀ L s.heap m) (B : Below A₀ base outer h₀) (XB : (hd.heap_1 w.params).In base) (TB : Top p loose mean mg mb base) (D : KtsDicts (outer.filterMap (·.frame)) h₀)
    (N : News h₀ L s.heap M) (hA : A.frames = some (env :: outer)) (hf : env.frame = some L) (hke : env.scope.kind = .function) (hh : A.handled = none) (hdp : A.depth + 20 < recursionLimit) (hu : A.units + 200 < cLine)
    (hb : AllBare s.gens) (hp : DatIn w news root v ks d) (hr : DocIn w news root) (hl : d.isList = true) (sub : ∀ q ∈ news, q ∈ M)
    (k : Comes w p loose mean mg mb A₀ base outer L m h₀ M s Q (fun tl r => FindPost w root (under ks (Path.wild.walk d)) (news ++ tl) r)) : wpAny (model Challenge.rw_bm0005_01.row.prog w) A (call (.ref 742) [v]) Q E s :=
  elems_spec.call F B XB TB D N sub hA hf hke hh hdp hu hb (root, ks, d) ⟨v, rfl, hr, hp, hl⟩ k
end
local macro_rules | `(tactic| walk_at "call ref") => `(tactic| (k_dflt (apply call_meth; walk_at "ms"; apply use_wrapC; walk_at "ms"; walk_at "m_wrp")))
local macro_rules | `(tactic| walk_at "call ref") => `(tactic| ((with_reducible show wpAny _ _ (call (Value.ref 742) [_]) _ _ _); k_dflt (apply use_elems; walk_at "ms"; walk_at "mi"; intro P'; (try dsimp only at P'))))
local macro_rules | `(tactic| walk_at "getMethod ref") => `(tactic| (refine' gm_items ?N ?hm ?_; (case N => k_asm); (case hm => k_mem)))
local macro_rules | `(tactic| walk_at "call builtin:dict.items") => `(tactic| (k_dflt (refine' call_items ?F ?N ?hm ?nd ?lo ?_; (case F => k_asm); (case N => k_asm); (case hm => k_mem); (case nd => assumption); (case lo => assumption); intro h' vw' ov' hv1' hv2' F' N' l1')))
local macro_rules | `(tactic| walk_at "call ref") => `(tactic| (k_dflt (apply call_meth; walk_at "ms"; apply mk_field1C; walk_at "ms"; intro r' tl' h' tk' F' N' o' P'; (try dsimp only at P'))))
local macro_rules | `(tactic| walk_at "call ref") => `(tactic| ((with_reducible show wpAny _ _ (call (Value.ref 212) [Doc.val _] _) _ _ _); k_dflt (refine' mk_dat_in (ky := Key.name _) ?B ?F ?X ?N ?T ?A ?f ?ke ?h ?dp ?u ?hH ?hp ?su ?hc ?hr ?hg ?_; (case F => k_asm); (case B => k_asm); (case X => k_asm); (case N => k_asm); (case T => k_asm); (case A => exact rfl); (case f => exact rfl); (case ke => exact rfl); (case h => exact rfl); (case dp => k_room); (case u => k_room); (case hH => assumption); (case hp => assumption); (case su => walk_at "m_sub"); (case hc => walk_at "m_dat"); (case hr => walk_at "m_doc"); (case hg => assumption); intro r' tl' h' tk' F' N' o' P'; (try dsimp only at P'))))
section
variable {w : World} {p : Program} {loose : List Str} {mean : ExcName → Option Value} {mg mb : Str → Option Value}
theorem wild_find : FindSpec w p loose mean mg mb 582 40 400 .wild := by
  intro dp un gd base fr g news s args R x G hdp hun hgn hpre ret
  obtain ⟨root, ks, d⟩ := x
  obtain ⟨v, a, rfl, hp, hr, ha⟩ := hpre
  have KB := G.kb
  have TB := G.tb
  revert KB
  k_fill
  intro KB
  dsimp only at hr ha ret hp
  cases hp with
  | wild p1 p2 =>
  cases hq : d.isList with
  | true =>
    k_dflt walk_at "m_enterC"
    try k_fold
    walk_at "m_go"
    walk_at "m_fin"
    intro hM
    obtain ⟨c, vs, n, rfl, q1, q2⟩ := (by assumption : FindPost _ _ _ _ _)
    exact ⟨c, vs, n, rfl, hM _ (by k_mem), q2.mono fun q hq => hM q (by (revert q; walk_at "m_sub"))⟩
  | false =>
    cases hq2 : d.isDict with
    | false =>
      k_dflt walk_at "m_enterC"
      try k_fold
      walk_at "m_go"
      walk_at "m_fin"
      intro hM
      rw [wild_none hq hq2]
      exact ⟨_, [], _, rfl, hM _ (by k_mem), .nil⟩
    | true =>
      have hdoc : DocIn w news d := by
        cases ha with
        | raw => exact hr
        | dat h => exact h.doc hr
      cases hdoc with
      | none | int | str | list => cases hq2
      | dict e1 e0 e2 e3 e4 e5 =>
      rename_i ad es nd'
      k_dflt walk_at "m_enterC"
      try k_fold
      walk_at "m_go"
      k_dflt (refine' itemsI (fun M i ys => DatsIn w M root ys ((es.map fun e => (ks ++ [Key.name e.1], e.2.2)).take i)) ?zF ?zB ?zXB ?zTB ?zD ?zN ?zb ?zhh ?zhv ?zhv1 ?zhv2 ?znd ?zhm ?zhcell ?zkd ?zhx1 ?zhx2 ?zhxx ?zlen ?zI ?zEA ?zfin; (case zF => k_asm); (case zB => k_asm); (case zXB => assumption); (case zTB => assumption); (case zD => k_asm); (case zN => k_asm); (case zb => assumption); (case zhh => exact rfl); (case zhv => k_mem); (case zhv1 => assumption); (case zhv2 => assumption); (case znd => assumption); (case zhm => k_mem); (case zhcell => decide); (case zkd => exact rfl); (case zhx1 => exact rfl); (case zhx2 => exact rfl); (case zhxx => decide))
      case zlen =>
        intro M i ys h9
        rw [h9.length, List.length_take, List.length_map]
        exact Nat.le_trans (Nat.min_le_right _ _) (Nat.le_trans e2 (by decide))
      case zI => exact fun M => .nil
      case zEA =>
        intro i own C oC D mc h gn tk g2 ys tl Q Z E' hi hB hO F' N' B' X' TP' D' b' hI ord hH kQ kZ
        obtain ⟨e, t, he, hm1, hm2⟩ := hB
        have hg := name_at (a := ad) e3 he
        have hxN := e4 _ (List.mem_of_getElem? he)
        refine wpAny_tests_nil ?_
        simp only [if_true]
        walk_at "m_go"
        (refine' hands_end ?zk ?ze1 ?ze2 ?zT ?zF ?zN ?zB ?zD ?zb ?zS ?_; (case zk => assumption); (case ze1 => exact rfl); (case ze2 => exact rfl); (case zF => k_asm); (case zN => k_asm); (case zB => k_asm); (case zD => k_asm); (case zT => walk_at "m_turn"); (case zb => assumption); (case zS => walk_at "m_split"))
        intro hM
        dsimp only
        rw [dict_take he]
        exact (hI.mono (by walk_at "m_sub")).add (DatIn.mono (by assumption) (by walk_at "m_sub"))
      case zfin =>
        refine' blockEnd_e ?_
        intro D2 g3 h3 gn3 tk3 zs tl3 T' F' N' B' D' b' hlt2 ord2 hZ
        walk_at "m_fin"
        intro hM
        rw [List.take_of_length_le (by simp)] at hZ
        rw [wild_dict]
        exact ⟨D2, zs, _, rfl, hM _ (by k_mem), hZ.mono fun q hq => hM q (by (revert q; walk_at "m_sub"))⟩
end
end
section
def findOf : Path → Addr
  | .root => 230
  | .this => 291
  | .wild => 582
  | .fields _ => 487
  | .index _ => 657
  | .child _ _ => 357
def width : Path → Nat
  | .root => 1
  | .this => 1
  | .wild => 3
  | .fields fs => fs.length
  | .index ps => ps.length
  | .child l r => width l * width r
def nOf : Path → Nat
  | .child l r => 20 + nOf l + nOf r
  | _ => 40
def uOf : Path → Nat
  | .child l r => 200 + uOf l + uOf r
  | _ => 400
def Good : Path → Prop
  | .root => False
  | .this => True
  | .wild => True
  | .fields fs => (∀ y ∈ fs, y ∈ NAMES) ∧ fs.length ≤ 2
  | .index ps => ps.length ≤ 2
  | .child l r => Good l ∧ Good r ∧ width (.child l r) ≤ 100
theorem Good.noRoot {q : Path} (h : Good q) : q ≠ .root := fun e => by rw [e] at h; exact h
section
variable {w : World} {p : Program} {loose : List Str} {mean : ExcName → Option Value} {mg mb : Str → Option Value}
  {A A₀ : Around} {base h₀ : Heap} {env : Env} {outer : List Env} {L : Addr} {m : Str → Option Value} {news M : Led} {s : Shared} {E : Value → Shared → Prop}
theorem keep_adr {f : Addr} (hf : f = 230 ∨ f = 291 ∨ f = 582 ∨ f = 487 ∨ f = 657 ∨ f = 357) {h : Heap} (X : (hd.heap_1 w.params).In h) : keepIn (hd.heap_1 w.params) (.ref f) = true := by
  have keep := (rfl : Challenge.rw_bm0005_01 = Challenge.rw_bm0005_01)
  revert X keep
  k_fill
  intro X _
  rcases hf with rfl | rfl | rfl | rfl | rfl | rfl <;> (refine Eq.trans (b := true) ?_ rfl; k_is)
theorem keep_find (q : Path) {h : Heap} (X : (hd.heap_1 w.params).In h) : keepIn (hd.heap_1 w.params) (.ref (findOf q)) = true :=
  keep_adr (by cases q <;> simp [findOf]) X
theorem gm_find {q : Path} {v : Value} {pl : Sem Bool} {Q : Value × List Value → Shared → Prop} (F : Fr h₀ L s.heap m) (X : (hd.heap_1 w.params).In h₀) (N : News h₀ L s.heap M) (hp : PathIn w M v q) (h : Q (.ref (findOf q), [v]) s) :
    wpAny (model Challenge.rw_bm0005_01.row.prog w) A (getMethod v (Str.ofString "find") pl) Q E s := by
  revert X
  k_fill
  intro X
  cases hp <;> (k_dflt walk1; exact h)
end

theorem Spec.weak {w : World} {p : Program} {loose : List Str} {mean : ExcName → Option Value} {mg mb : Str → Option Value} {f : Addr} {n u n' u' : Nat} {X : Type} {Pre : X → Led → Args → Prop} {Post : X → Led → Value → Prop} (S : Spec w p loose mean mg mb f n u Pre Post) (hn : n ≤ n') (hu : u ≤ u') : Spec w p loose mean mg mb f n' u' Pre Post :=
  fun dp un gd base fr g news s args R x G h1 h2 hb hp ret => S dp un gd base fr g news s args R x G (Nat.lt_of_le_of_lt (Nat.add_le_add_left hn _) h1) (Nat.lt_of_le_of_lt (Nat.add_le_add_left hu _) h2) hb hp ret
section
variable {w : World} {p : Program} {loose : List Str} {mean : ExcName → Option Value} {mg mb : Str → Option Value}
  {A A₀ : Around} {base h₀ : Heap} {env : Env} {outer : List Env} {L : Addr} {m : Str → Option Value} {news M : Led} {s : Shared} {Q E : Value → Shared → Prop} {n u : Nat}
abbrev FindOf (w : World) (p : Program) (loose : List Str) (mean : ExcName → Option Value) (mg mb : Str → Option Value) (q : Path) : Prop := FindSpec w p loose mean mg mb (findOf q) (nOf q) (uOf q) q
theorem use_find {q : Path} {root d : Doc} {ks : List Key} {v a : Value} (S : FindOf w p loose mean mg mb q) (F : Fr h₀ L s.heap m) (B : Below A₀ base outer h₀) (XB : (hd.heap_1 w.params).In base) (TB : Top p loose mean mg mb base) (D : KtsDicts (outer.filterMap (·.frame)) h₀)
    (N : News h₀ L s.heap M) (hA : A.frames = some (env :: outer)) (hf : env.frame = some L) (hke : env.scope.kind = .function) (hh : A.handled = none) (hdp : A.depth + nOf q < recursionLimit) (hu : A.units + uOf q < cLine)
    (hb : AllBare s.gens) (ha : ArgIn w news root a ks d) (hp : PathIn w news v q) (hr : DocIn w news root) (sub : ∀ q ∈ news, q ∈ M)
    (k : Comes w p loose mean mg mb A₀ base outer L m h₀ M s Q (fun tl r => FindPost w root (under ks (q.walk d)) (news ++ tl) r)) : wpAny (model Challenge.rw_bm0005_01.row.prog w) A (call (.ref (findOf q)) [v, a]) Q E s :=
  S.call F B XB TB D N sub hA hf hke hh hdp hu hb (root, ks, d) ⟨v, a, rfl, hp, hr, ha⟩ k
end
theorem doc_of_walk {w : World} {M : Led} : ∀ {q : Path} {d : Doc}, DocIn w M d → ∀ x ∈ q.walk d, DocIn w M x.2
  | .root, d, h, x, hx => by simp only [Path.walk, List.mem_singleton] at hx; subst hx; exact h
  | .this, d, h, x, hx => by simp only [Path.walk, List.mem_singleton] at hx; subst hx; exact h
  | .wild, d, h, x, hx => by
    cases h with
    | none | int | str => simp [Path.walk, Step.down] at hx
    | list h1 h2 h3 =>
      simp only [Path.walk, Step.down, List.map_map, List.mem_map] at hx
      obtain ⟨e, he, rfl⟩ := hx
      have z := List.mem_zipIdx' he
      exact h3 e.1 (by rw [z.2]; exact List.getElem_mem _)
    | dict h1 h0 h2 h3 h4 h5 =>
      simp only [Path.walk, Step.down, List.map_map, List.mem_map] at hx
      obtain ⟨e, he, rfl⟩ := hx
      exact h5 _ he
  | .fields fs, d, h, x, hx => by
    simp only [Path.walk, Step.down, List.mem_map, List.mem_filterMap, Option.map_eq_some_iff] at hx
    obtain ⟨e, ⟨y, hy, z, hz, rfl⟩, rfl⟩ := hx
    exact h.get hz
  | .index fs, d, h, x, hx => by
    simp only [Path.walk, Step.down, List.mem_map, List.mem_filterMap, Option.map_eq_some_iff] at hx
    obtain ⟨e, ⟨y, hy, z, hz, rfl⟩, rfl⟩ := hx
    exact h.get hz
  | .child l r, d, h, x, hx => by
    simp only [Path.walk, List.mem_flatMap, List.mem_map] at hx
    obtain ⟨e, he, z, hz, rfl⟩ := hx
    exact doc_of_walk (doc_of_walk h e he) z hz
theorem flat_len {α β : Type} {f : α → List β} {b : Nat} : ∀ {l : List α}, (∀ x ∈ l, (f x).length ≤ b) → (l.flatMap f).length ≤ l.length * b
  | [], _ => by simp
  | x :: l, h => by
    rw [List.flatMap_cons, List.length_append, List.length_cons, Nat.succ_mul, Nat.add_comm]
    exact Nat.add_le_add (flat_len fun y hy => h y (List.mem_cons_of_mem _ hy)) (h x List.mem_cons_self)
theorem walk_len {w : World} {M : Led} : ∀ {q : Path} {d : Doc}, DocIn w M d → (q.walk d).length ≤ width q
  | .root, d, h => by simp [Path.walk, width]
  | .this, d, h => by simp [Path.walk, width]
  | .wild, d, h => by
    cases h with
    | none | int | str => simp [Path.walk, Step.down]
    | list h1 h2 h3 => simpa [Path.walk, Step.down, width] using h2
    | dict h1 h0 h2 h3 h4 h5 => simpa [Path.walk, Step.down, width] using h2
  | .fields fs, d, h => by
    simp only [Path.walk, Step.down, List.length_map, width]; exact List.length_filterMap_le _ _
  | .index fs, d, h => by
    simp only [Path.walk, Step.down, List.length_map, width]; exact List.length_filterMap_le _ _
  | .child l r, d, h => by
    simp only [Path.walk, width]
    refine Nat.le_trans (flat_len (b := width r) fun x hx => ?_) (Nat.mul_le_mul_right _ (walk_len h))
    rw [List.length_map]; exact walk_len (doc_of_walk h x hx)
/-- the matches of a child's path, told so far -/
def kids (ks : List Key) (l r : Path) (d : Doc) (i : Nat) : List (List Key × Doc) := ((l.walk d).take i).flatMap fun x => under (ks ++ x.1) (r.walk x.2)
theorem kids_all {ks : List Key} {l r : Path} {d : Doc} {i : Nat} (h : (l.walk d).length ≤ i) : kids ks l r d i = under ks ((Path.child l r).walk d) := by
  unfold kids
  rw [List.take_of_length_le h]
  simp only [Path.walk, under, List.map_flatMap, List.map_map, Function.comp_def, List.append_assoc]
theorem kids_next {ks : List Key} {l r : Path} {d : Doc} {i : Nat} {x : List Key × Doc} (h : (l.walk d)[i]? = some x) : kids ks l r d (i + 1) = kids ks l r d i ++ under (ks ++ x.1) (r.walk x.2) := by
  unfold kids
  rw [List.take_add_one, h, List.flatMap_append]; simp
theorem kids_len {w : World} {M : Led} {ks : List Key} {l r : Path} {d : Doc} (hd : DocIn w M d) (i : Nat) : (kids ks l r d i).length ≤ width (.child l r) := by
  unfold kids
  refine Nat.le_trans (flat_len (b := width r) fun x hx => ?_) (Nat.mul_le_mul_right (width r) (Nat.le_trans (List.length_take_le' i _) (walk_len (q := l) hd)))
  rw [under, List.length_map]; exact walk_len (doc_of_walk hd x (List.mem_of_mem_take hx))
end
section
local macro_rules | `(tactic| walk_at "getMethod") => `(tactic| ((with_reducible show wpAny _ _ (getMethod _ (Str.ofString "find") _) _ _ _); k_dflt (apply gm_find; walk_at "ms")))
local macro_rules | `(tactic| walk_at "callWith ref") => `(tactic| ((with_reducible show wpAny _ _ (callWith _ (Value.ref (findOf _)) _ _ _) _ _ _); k_dflt (refine' callWith_K ?k1 ?k2 ?_; (case k1 => k_asm); (case k2 => exact keep_find _ (by k_asm)))))
local macro_rules | `(tactic| walk_at "call ref") => `(tactic| ((with_reducible show wpAny _ _ (call (Value.ref (findOf _)) _) _ _ _); k_dflt (apply use_find; walk_at "ms"; walk_at "mi"; intro P'; (try dsimp only at P'); obtain ⟨c', vs', n', e', hm', hd'⟩ := P'; subst e')))
local macro_rules | `(tactic| walk_at "m_x") => `(tactic| exact ArgIn.dat (by assumption))
theorem nest_post {w : World} {S T T₀ X : Led} {root d : Doc} {ks : List Key} {l r : Path} {i n : Nat} {c : Addr} {vs ys : List Value} {x : List Key × Doc} (hm : (c, lstO vs n) ∈ S) (hd : DatsIn w S root vs (under (ks ++ x.1) (r.walk x.2))) (hI : DatsIn w T₀ root ys (kids ks l r d i)) (hx : (l.walk d)[i]? = some x) (hdoc : DocIn w X d) (hw : width (.child l r) ≤ 100)
    (hS : ∀ q ∈ S, q ∈ T) (hT : ∀ q ∈ T₀, q ∈ T) : ∃ ax vs nn, Value.ref c = .ref ax ∧ (ax, lstO vs nn) ∈ T ∧ (ys ++ vs).length ≤ sizeLine ∧ DatsIn w T root (ys ++ vs) (kids ks l r d (i + 1)) := by
  have e : DatsIn w T root (ys ++ vs) (kids ks l r d (i + 1)) := by rw [kids_next hx]; exact paired_app (hI.mono hT) (hd.mono hS)
  refine ⟨c, vs, n, rfl, hS _ hm, ?_, e⟩
  rw [e.length]
  exact Nat.le_trans (kids_len hdoc _) (Nat.le_trans hw (by decide))
section
variable {w : World} {p : Program} {loose : List Str} {mean : ExcName → Option Value} {mg mb : Str → Option Value}
  {A A₀ : Around} {g₁ base : Heap} {outer : List Env} {L : Addr} {m : Str → Option Value} {s : Shared} {E : Value → Shared → Prop}
theorem nestI {iter iter₂ : Expr} {x x₂ : Str} {px px₂ pe : Pos} {scope : Scope} {cl : List (Str × Addr)} {pos : Pos} {env : Env} {news : Led} (J : Led → Nat → List Value → Prop) {RR : Value → Addr → Result → Shared → Prop} {ax : Addr} {vs : List Value} {nn : Nat}
    (F : Fr g₁ L s.heap m) (B : Below A₀ base outer g₁) (XB : (hd.heap_1 w.params).In base) (TB : Top p loose mean mg mb base) (Dk : KtsDicts (outer.filterMap (·.frame)) g₁) (N : News g₁ L s.heap news) (hb : AllBare s.gens) (hh : A.handled = none) (hA : A.mark none = A)
    (hs : ∀ C x, foldedSetIterable iter₂ (compEnvC scope cl C env) x = pure x)
    (hm : (ax, lstO vs nn) ∈ news) (hcell : ∀ y ∈ scope.names, y.2 ≠ .cell) (hkind : scope.kind = .function) (hx : scope.names.lookup x = some .local) (hx₂ : scope.names.lookup x₂ = some .local) (hdb : (x₂ == ("__debug__" : Str)) = false)
    (hI : ∀ M, J M 0 [])
    (OA : OutAt w p loose mean mg mb A A₀ base outer g₁ L m iter₂ scope cl env (fun i mc => ∃ v, vs[i]? = some v ∧ mc x = some v) vs.length news (fun i ys tl => J (news ++ tl) i ys) s)
    (fin : BlockEnd A₀ base outer L m g₁ news s vs.length (fun i ys tl => J (news ++ tl) i ys) RR) :
    wpAny (model Challenge.rw_bm0005_01.row.prog w) A (pyIter (.ref ax)) (fun it s₂ => wpAny (model Challenge.rw_bm0005_01.row.prog w) A (newList []) (fun acc s₃ => wpAny (model Challenge.rw_bm0005_01.row.prog w) A (newFunctionEnv scope env.globals cl [] env.qual none .none (some env)) (fun cenv s₄ =>
      codeAny (model Challenge.rw_bm0005_01.row.prog w) A (.compStart (.ListComp (.Name x₂ pe) [⟨.Name x px, iter, [], 0⟩, ⟨.Name x₂ px₂, iter₂, [], 0⟩] scope pos) 0 it acc { cenv with scope := relabel scope env }) (RR acc cenv.locals) s₄) E s₃) E s₂) E s :=
  src_nest B F XB TB Dk N hb hh hA hs hm hcell hkind hx hx₂ hdb (hI _) OA fin
end
section
variable {w : World} {p : Program} {loose : List Str} {mean : ExcName → Option Value} {mg mb : Str → Option Value}
theorem child_find {l r : Path} (hg : Good (.child l r)) (IL : FindOf w p loose mean mg mb l) (IR : FindOf w p loose mean mg mb r) : FindOf w p loose mean mg mb (.child l r) := by
  intro dp un gd base fr g news s args R x G hdp hun hgn hpre ret
  obtain ⟨root, ks, d⟩ := x
  obtain ⟨v, a, rfl, hp, hr, ha⟩ := hpre
  have hdp1 : dp + (20 + nOf l + nOf r) < recursionLimit := hdp
  have hun1 : un + (200 + uOf l + uOf r) < cLine := hun
  have KB := G.kb
  have TB := G.tb
  revert KB
  k_fill
  intro KB
  dsimp only at hr ha ret hp
  have hdoc : DocIn w news d := by
    cases ha with
    | raw => exact hr
    | dat h => exact h.doc hr
  cases hp with
  | child p1 p2 pl pr =>
  show codeAny _ _ (.call (.ref 357) _) _ _
  k_dflt walk_at "m_enterC"
  try k_fold
  walk_at "m_go"
  k_dflt (refine' nestI (fun M i ys => DatsIn w M root ys (kids ks l r d i)) ?zF ?zB ?zXB ?zTB ?zD ?zN ?zb ?zhh ?zhA ?zhs ?zhm ?zhcell ?zkd ?zhx ?zhx2 ?zhdb ?zI ?zOA ?zfin; (case zF => k_asm); (case zB => k_asm); (case zXB => assumption); (case zTB => assumption); (case zD => k_asm); (case zN => k_asm); (case zb => assumption); (case zhh => exact rfl); (case zhA => exact rfl); (case zhs => exact fun _ _ => rfl); (case zhm => k_mem); (case zhcell => decide); (case zkd => exact rfl); (case zhx => exact rfl); (case zhx2 => exact rfl); (case zhdb => exact rfl))
  case zI => exact fun M => .nil
  case zOA =>
    intro i own C oC D mc h gn tk g2 ys tl Q E' hi hB hO F' N' B' X' TP' D' b' hI ord hH kQ
    obtain ⟨v, hv, hmv⟩ := hB
    obtain ⟨y, hy, hDv⟩ := paired_get (by assumption : DatsIn _ _ _ _ _) hv
    obtain ⟨x, hx, rfl⟩ : ∃ x, (l.walk d)[i]? = some x ∧ (ks ++ x.1, x.2) = y := by simpa [under, List.getElem?_map] using hy
    dsimp only at hDv
    walk_at "m_go"
    (refine' hands_end ?zk ?ze1 ?ze2 ?zT ?zF ?zN ?zB ?zD ?zb ?zS ?_; (case zk => assumption); (case ze1 => exact rfl); (case ze2 => exact rfl); (case zF => k_asm); (case zN => k_asm); (case zB => k_asm); (case zD => k_asm); (case zT => walk_at "m_turn"); (case zb => assumption); (case zS => walk_at "m_split"))
    intro hM
    refine nest_post (by assumption) (by assumption) hI hx hdoc hg.2.2 ?_ ?_
    · walk_at "m_sub"
    · walk_at "m_sub"
  case zfin =>
    refine' blockEnd_e ?_
    intro D2 g3 h3 gn3 tk3 zs tl3 T' F' N' B' D' b' hlt2 ord2 hZ
    walk_at "m_fin"
    intro hM
    have hd9 := (by assumption : DatsIn w _ root _ (under ks (l.walk d)))
    rw [kids_all (Nat.le_of_eq (by rw [hd9.length, under, List.length_map]))] at hZ
    exact ⟨D2, zs, _, rfl, hM _ (by k_mem), hZ.mono fun q hq => hM q (by (revert q; walk_at "m_sub"))⟩
end
theorem find_all {w : World} {p : Program} {loose : List Str} {mean : ExcName → Option Value} {mg mb : Str → Option Value} : ∀ {q : Path}, Good q → FindOf w p loose mean mg mb q
  | .root, h => h.elim
  | .this, _ => this_find.weak (by decide) (by decide)
  | .wild, _ => wild_find.weak (by decide) (by decide)
  | .fields _, h => (fields_find h.1 h.2).weak (show 32 ≤ 40 by decide) (show 310 ≤ 400 by decide)
  | .index _, h => (index_find h).weak (show 32 ≤ 40 by decide) (show 310 ≤ 400 by decide)
  | .child _ _, h => child_find h (find_all h.1) (find_all h.2.1)
end
section
def fullOf (p₀ : Path) (ks : List Key) : Path := ks.foldl (fun p k => kidOf p k.path) p₀
theorem fullOf_snoc (p₀ : Path) (ks : List Key) (k : Key) : fullOf p₀ (ks ++ [k]) = kidOf (fullOf p₀ ks) k.path := by simp [fullOf]
theorem handedOut_ref {M : Model} {A : Around} {E : Value → Shared → Prop} {s : Shared} {a : Addr} {Q : Value → Shared → Prop} (hq : Q (.ref a) s) : wpAny M A (handedOut (.ref a)) Q E s := by
  rw [handedOut_of rfl]; exact wpAny_pure hq
local macro_rules | `(tactic| walk_at "handedOut") => `(tactic| (k_dflt (refine handedOut_ref ?_)))
theorem PathIn.ref {w : World} {M : Led} {v : Value} {q : Path} (h : PathIn w M v q) : ∃ a, v = .ref a := by cases h <;> exact ⟨_, rfl⟩
def FullPost (w : World) (ks : List Key) (news : Led) (r : Value) : Prop := ∃ p₀ : Path, (p₀ = .root ∨ p₀ = .this) ∧ PathIn w news r (fullOf p₀ ks)
section
variable {w : World} {p : Program} {loose : List Str} {mean : ExcName → Option Value} {mg mb : Str → Option Value}
  {A A₀ : Around} {base h₀ : Heap} {env : Env} {outer : List Env} {L : Addr} {m : Str → Option Value} {news M : Led} {s : Shared} {Q E : Value → Shared → Prop} {n u : Nat}
theorem gm_child {q : Path} {v : Value} {pl : Sem Bool} {Q : Value × List Value → Shared → Prop} (F : Fr h₀ L s.heap m) (X : (hd.heap_1 w.params).In h₀) (N : News h₀ L s.heap M) (hp : PathIn w M v q) (h : Q (.ref 133, [v]) s) :
    wpAny (model Challenge.rw_bm0005_01.row.prog w) A (getMethod v (Str.ofString "child") pl) Q E s := by
  revert X
  k_fill
  intro X
  cases hp <;> (k_dflt walk1; exact h)
abbrev FullSpec (w : World) (p : Program) (loose : List Str) (mean : ExcName → Option Value) (mg mb : Str → Option Value) (n : Nat) : Prop :=
  Spec w p loose mean mg mb 201 (20 * (n + 1)) (300 * (n + 1)) (fun (x : Doc × List Key × Doc) news args => ∃ v, args = ⟨[v], []⟩ ∧ x.2.1.length ≤ n ∧ DatIn w news x.1 v x.2.1 x.2.2) (fun x news r => FullPost w x.2.1 news r)
theorem use_full {root d : Doc} {ks : List Key} {v : Value} {R : Result → Shared → Prop} (S : FullSpec w p loose mean mg mb n) (F : Fr h₀ L s.heap m) (B : Below A₀ base outer h₀) (XB : (hd.heap_1 w.params).In base) (TB : Top p loose mean mg mb base) (D : KtsDicts (outer.filterMap (·.frame)) h₀)
    (N : News h₀ L s.heap M) (hA : A.frames = some (env :: outer)) (hf : env.frame = some L) (hke : env.scope.kind = .function) (hh : A.handled = none) (hdp : A.depth + 20 * (n + 1) < recursionLimit) (hu : A.units + 300 * (n + 1) < cLine)
    (hb : AllBare s.gens) (hl : ks.length ≤ n) (ha : DatIn w news root v ks d) (sub : ∀ q ∈ news, q ∈ M)
    (k : Comes w p loose mean mg mb A₀ base outer L m h₀ M s (fun v s' => R (.ok (.ret v)) s') (fun tl r => FullPost w ks (news ++ tl) r)) : codeAny (model Challenge.rw_bm0005_01.row.prog w) A (.call (.ref 201) ⟨[v], []⟩) R s :=
  S.code F B XB TB D N sub hA hf hke hh hdp hu hb (root, ks, d) ⟨v, rfl, hl, ha⟩ k
theorem use_child {x y : Path} {a b : Value} (F : Fr h₀ L s.heap m) (B : Below A₀ base outer h₀) (XB : (hd.heap_1 w.params).In base) (TB : Top p loose mean mg mb base) (D : KtsDicts (outer.filterMap (·.frame)) h₀)
    (N : News h₀ L s.heap M) (sub : ∀ q ∈ news, q ∈ M) (hA : A.frames = some (env :: outer)) (hf : env.frame = some L) (hke : env.scope.kind = .function) (hh : A.handled = none) (hdp : A.depth + 6 < recursionLimit) (hu : A.units + 60 < cLine)
    (hb : AllBare s.gens) (ha : PathIn w news a x) (hy : PathIn w news b y) (n1 : y ≠ .root) (n2 : y ≠ .this)
    (k : Comes w p loose mean mg mb A₀ base outer L m h₀ M s Q (fun tl r => PathIn w (news ++ tl) r (kidOf x y))) : wpAny (model Challenge.rw_bm0005_01.row.prog w) A (call (.ref 133) [a, b]) Q E s :=
  child_spec.call F B XB TB D N sub hA hf hke hh hdp hu hb (x, y) ⟨a, b, rfl, ha, hy, n1, n2⟩ k
theorem Key.path_root (k : Key) : k.path ≠ .root := by cases k <;> simp [Key.path]
theorem Key.path_this (k : Key) : k.path ≠ .this := by cases k <;> simp [Key.path]
end
local macro_rules | `(tactic| walk_at "getMethod ref") => `(tactic| ((with_reducible show wpAny _ _ (getMethod _ (Str.ofString "child") _) _ _ _); k_dflt (apply gm_child; walk_at "ms")))
local macro_rules | `(tactic| walk_at "getAttr ref") => `(tactic| ((with_reducible show wpAny _ _ (getAttr _ (Str.ofString "full_path") _) _ _ _); k_dflt (apply get_prop; walk_at "mk"; apply use_full; walk_at "ms"; walk_at "mi"; intro P'; obtain ⟨p0', hp0', hP'⟩ := P'; obtain ⟨a9', e9'⟩ := PathIn.ref hP'; subst e9'; (try dsimp only))))
local macro_rules | `(tactic| walk_at "call ref") => `(tactic| ((with_reducible show wpAny _ _ (call (Value.ref 133) [_, _]) _ _ _); k_dflt (refine' use_child (y := Key.path _) ?F ?B ?XB ?TB ?D ?N ?sub ?A ?f ?ke ?h ?dp ?u ?b ?ha ?hy ?n1 ?n2 ?_; (case F => k_asm); (case B => k_asm); (case XB => assumption); (case TB => assumption); (case D => k_asm); (case N => k_asm); (case A => exact rfl); (case f => exact rfl); (case ke => exact rfl); (case h => exact rfl); (case dp => k_room); (case u => k_room); (case b => assumption); (case ha => assumption); (case hy => walk_at "m_path"); (case n1 => exact Key.path_root _); (case n2 => exact Key.path_this _); (case sub => walk_at "m_sub"); intro r' tl' h' gn' tk' g' T' F' N' B' X' TP' D' o' b' P')))
section
variable {w : World} {p : Program} {loose : List Str} {mean : ExcName → Option Value} {mg mb : Str → Option Value}
theorem full_spec : ∀ n, FullSpec w p loose mean mg mb n := by
  intro n
  induction n with
  | zero =>
    intro dp un gd base fr g news s args R x G hdp hun hgn hpre ret
    obtain ⟨root, ks, d⟩ := x
    obtain ⟨v, rfl, hl, hdat⟩ := hpre
    have KB := G.kb
    have TB := G.tb
    revert KB
    k_fill
    intro KB
    dsimp only at hl hdat ret
    cases hdat with
    | step => simp at hl
    | base d1 d2 d3 d4 =>
    k_dflt walk_at "m_enter"
    k_fold
    with_reducible rename Fr _ _ _ _ => FF9
    replace FF9 := fr_congr (m' := fun y => List.lookup y [(Str.ofString "self", _)]) FF9 (fun z => congrArg (List.lookup z) rfl)
    walk_at "m_go"
    walk_at "m_fin"
    intro hM
    exact ⟨_, d4, d3.mono fun q hq => hM q (by (revert q; walk_at "m_sub"))⟩
  | succ n IH =>
    intro dp un gd base fr g news s args R x G hdp hun hgn hpre ret
    obtain ⟨root, ks, d⟩ := x
    obtain ⟨v, rfl, hl, hdat⟩ := hpre
    have hdp1 : dp + 20 * (n + 1) + 20 < recursionLimit := by have := hdp; omega
    have hun1 : un + 300 * (n + 1) + 300 < cLine := by have := hun; omega
    have KB := G.kb
    have TB := G.tb
    revert KB
    k_fill
    intro KB
    dsimp only at hl hdat ret
    cases hdat with
    | base d1 d2 d3 d4 =>
      k_dflt walk_at "m_enter"
      k_fold
      with_reducible rename Fr _ _ _ _ => FF9
      replace FF9 := fr_congr (m' := fun y => List.lookup y [(Str.ofString "self", _)]) FF9 (fun z => congrArg (List.lookup z) rfl)
      walk_at "m_go"
      walk_at "m_fin"
      intro hM
      exact ⟨_, d4, d3.mono fun q hq => hM q (by (revert q; walk_at "m_sub"))⟩
    | step d1 d2 d3 d4 d5 =>
      rename_i ky ks' d'
      have hl' : ks'.length ≤ n := by simp at hl; exact hl
      obtain ⟨a9, dx9, t19, t29, t39, pv9, cv9, e9, h19, h29⟩ := d4.objs
      cases e9
      obtain ⟨ap, eap⟩ := d3.ref
      subst eap
      k_dflt walk_at "m_enter"
      k_fold
      with_reducible rename Fr _ _ _ _ => FF9
      replace FF9 := fr_congr (m' := fun y => List.lookup y [(Str.ofString "self", _)]) FF9 (fun z => congrArg (List.lookup z) rfl)
      walk_at "m_go"
      walk_at "m_fin"
      intro hM
      refine ⟨_, by assumption, ?_⟩
      rw [fullOf_snoc]
      exact PathIn.mono (by assumption) fun q hq => hM q (by (revert q; walk_at "m_sub"))
end
end
section
theorem slot_pat_match : Slot "re.Pattern" "match" "re.Pattern.match" :=
  .of (owner := "re.Pattern") (n := "match") (by rw [typeLookup_type, builtinLookup_eq_fast]; kernel_rfl) (by decide +kernel) (by decide +kernel) (by decide +kernel)
    (by first | exact .inl (by decide +kernel) | exact .inr (by decide +kernel)) (by rw [isSubtype_type]; kernel_rfl)
theorem entry_pat_match : entryFor table "re.Pattern.match" = some Builtin.«re.Pattern.match» := entryFor_of_tree (by kernel_rfl)
theorem args_pat_match (a b : Value) : argsOk "re.Pattern.match" ⟨[a, b], []⟩ := by unfold argsOk; kernel_rfl
theorem plainAttrs_pat : PlainAttrs "re.Pattern" :=
  ⟨⟨"object.__getattribute__", by rw [typeLookup_type, builtinLookup_eq_fast]; kernel_rfl, by decide +kernel⟩, by rw [typeLookup_type, builtinLookup_eq_fast]; kernel_rfl⟩
def patCode : List Int := [14, 4, 0, 1, 4294967295, 6, 0, 24, 6, 0, 1, 16, 64, 1, 13, 11, 9, 0, 0, 2281701374, 134217726, 0, 0, 0, 0, 0, 24, 16, 0, 4294967295, 13, 11, 9, 0, 67051520, 2281701375, 134217726, 0, 0, 0, 0, 0, 1, 6, 5, 1]
abbrev codeO : Obj := { cls := .type "tuple", data := .seq (patCode.map fun i => Value.int i 0).toArray 0 }
abbrev patO (c : Addr) (x0 : Value) (t1 t2 t3 : Tok) : Obj := { cls := .type "re.Pattern", data := .fields #[x0, .int 32 t1, .int 0 t2, .none, .none, .ref c, .int 0 t3] }
section
open Builtin Builtin.Re
variable {M : Model} {A : Around} {s : Shared} {E : Value → Shared → Prop}
theorem drive_one {n : Nat} {m : Sre.M} {Q : Sre.M → Shared → Prop} (h : (m.runFor reTurnSteps).outcome.isSome = true) (hq : Q (m.runFor reTurnSteps) s) : wpAny M A (reDrive (n + 1) m) Q E s := by
  show wpAny M A (if (m.runFor reTurnSteps).outcome.isSome = true then pure (m.runFor reTurnSteps) else _) Q E s
  rw [if_pos h]; exact wpAny_pure hq
theorem drive_next {n : Nat} {m : Sre.M} {Q : Sre.M → Shared → Prop} (h : (m.runFor reTurnSteps).outcome.isSome = false) (hq : wpAny M A (reDrive n (m.runFor reTurnSteps)) Q E s) : wpAny M A (reDrive (n + 1) m) Q E s := by
  show wpAny M A (if (m.runFor reTurnSteps).outcome.isSome = true then pure (m.runFor reTurnSteps) else _) Q E s
  rw [if_neg (by rw [h]; exact Bool.false_ne_true)]
  exact wpAny_bind (wpAny_rule hq)
def turns : Nat → Sre.M → Sre.M
  | 0, m => m
  | k + 1, m => turns k (m.runFor reTurnSteps)
def quiet : Nat → Sre.M → Bool
  | 0, _ => true
  | k + 1, m => !(m.runFor reTurnSteps).outcome.isSome && quiet k (m.runFor reTurnSteps)
theorem drive_many {Q : Sre.M → Shared → Prop} : ∀ {k n : Nat} {m : Sre.M}, quiet k m = true → ((turns k m).runFor reTurnSteps).outcome.isSome = true → Q ((turns k m).runFor reTurnSteps) s → wpAny M A (reDrive (n + k + 1) m) Q E s
  | 0, n, m, _, h, hq => drive_one h hq
  | k + 1, n, m, hq, h, q => by
    simp only [quiet, Bool.and_eq_true, Bool.not_eq_true'] at hq
    refine drive_next (n := n + k + 1) hq.1 (drive_many hq.2 h q)
theorem rules_quiet {b : Nat → PUnit → Sem (ForInStep PUnit)} (hb : ∀ i u (Q : ForInStep PUnit → Shared → Prop), Q (.yield ⟨⟩) s → wpAny M A (b i u) Q E s) {Q : PUnit → Shared → Prop} : ∀ {l : List Nat}, Q ⟨⟩ s → wpAny M A (forIn l PUnit.unit b) Q E s
  | [], h => wpAny_pure h
  | i :: l, h => by
    rw [List.forIn_cons]
    exact wpAny_bind (hb i _ _ (rules_quiet hb h))
theorem run_end {m : Sre.M} {k : Nat} {Q : Option Sre.M → Shared → Prop} (hk : k + 1 ≤ 2 ^ 64) (h1 : quiet k m = true) (h2 : ((turns k m).runFor reTurnSteps).outcome.isSome = true)
    (h3 : ((turns k m).runFor reTurnSteps).outcome = some .matched → Q (some ((turns k m).runFor reTurnSteps)) s) (h4 : ((turns k m).runFor reTurnSteps).outcome = some .failed → Q none s)
    (h5 : ((turns k m).runFor reTurnSteps).outcome = some .matched ∨ ((turns k m).runFor reTurnSteps).outcome = some .failed) : wpAny M A (reRunToEnd m) Q E s := by
  unfold reRunToEnd
  have e : 2 ^ 64 = (2 ^ 64 - (k + 1)) + k + 1 := by omega
  refine wpAny_bind ?_
  rw [e]
  refine drive_many h1 h2 ?_
  refine wpAny_bind (rules_quiet (fun i u Q hq => ?_) ?_)
  · split
    · exact wpAny_bind (wpAny_rule (wpAny_pure hq))
    · exact wpAny_pure hq
  · rcases h5 with h5 | h5
    · rw [h5]; exact wpAny_pure (h3 h5)
    · rw [h5]; exact wpAny_pure (h4 h5)
end

def patText (i : Nat) : Str := NAMES.getD i (Str.ofString "a")
def patM (x : Str) : Sre.M := Sre.forMatch (patCode.map Int.toNat).toArray x.cps 0 0 (min (2 ^ 63 - 1) x.cps.size) false false
def patTurns (x : Str) : Nat := ((List.range 200).find? fun k => ((turns k (patM x)).runFor Builtin.Re.reTurnSteps).outcome.isSome).getD 0
section
open Builtin Builtin.Re
variable {prog : Program} {w : World} {A : Around} {s : Shared} {E : Value → Shared → Prop}
theorem named_eq (v : Value) : reNamed "re.Pattern.match" "match" ["string", "pos", "endpos"] 1 [v] [] = pure [some v, none, none] := by rfl
theorem code_nat : ((patCode.map fun i => Value.int i 0).toArray.map reRawOf).map (·.toNat) = (patCode.map Int.toNat).toArray := by
  simp only [List.map_toArray, List.map_map]; rfl
theorem target_of {a c : Addr} {x0 : Value} {t1 t2 t3 t : Tok} {x : Str} {Q : ReTarget → Shared → Prop} (hp : s.heap.get? a = some (patO c x0 t1 t2 t3)) (hc : s.heap.get? c = some codeO)
    (h : Q ⟨.ref a, .str x t, (patCode.map Int.toNat).toArray, x.cps, 0, 0, 0, min (2 ^ 63 - 1) x.cps.size⟩ s) : wpAny (model prog w) A (reTarget "re.Pattern.match" "match" ⟨[.ref a, .str x t], []⟩) Q E s := by
  unfold reTarget
  show wpAny _ _ (reNamed "re.Pattern.match" "match" ["string", "pos", "endpos"] 1 [.str x t] [] >>= _) _ _ _
  refine wpAny_bind (wpAny_of_eq (named_eq _) ?_)
  show wpAny _ _ (fieldsOf (.ref a) >>= _) _ _ _
  refine wpAny_bind (wpAny_fieldsOf hp rfl ?_)
  show wpAny _ _ (reTextOf (.str x t) >>= _) _ _ _
  refine wpAny_bind (wpAny_pure (a := (x.cps, 0)) ?_)
  show wpAny _ _ (reRawItems (.ref c) >>= _) _ _ _
  refine wpAny_bind ?_
  show wpAny _ _ (seqItems? (.ref c) >>= _) _ _ _
  refine wpAny_bind (wpAny_seqItems hc rfl ?_)
  refine wpAny_pure (wpAny_pure ?_)
  show Q ⟨_, _, ((patCode.map fun i => Value.int i 0).toArray.map reRawOf).map (·.toNat), _, _, _, _, _⟩ s
  rw [code_nat]
  exact h
/-- the state of the machine at its end -/
def patEnd (x : Str) : Sre.M := (turns (patTurns x) (patM x)).runFor reTurnSteps
theorem pat_quiet : ∀ x ∈ NAMES, quiet (patTurns x) (patM x) = true ∧ (patEnd x).outcome.isSome = true ∧ patTurns x + 1 ≤ 2 ^ 64 := by decide +kernel
def plainName (x : Str) : Bool := x == Str.ofString "a" || x == Str.ofString "b" || x == Str.ofString "x1"
def isEnd : Option Sre.Outcome → Bool → Bool
  | some .matched, b => b
  | some .failed, b => !b
  | _, _ => false
theorem pat_hit : ∀ x ∈ NAMES, isEnd (patEnd x).outcome (plainName x) = true := by decide +kernel
theorem isEnd_true {o : Option Sre.Outcome} (h : isEnd o true = true) : o = some .matched := by
  unfold isEnd at h; split at h <;> simp_all
theorem isEnd_false {o : Option Sre.Outcome} (h : isEnd o false = true) : o = some .failed := by
  unfold isEnd at h; split at h <;> simp_all
theorem new_match {pt st : Value} {pos lim : Nat} {m : Sre.M} {Q : Value → Shared → Prop}
    (h : Q (.ref (s.heap.push { cls := .type "tuple", data := .seq [rawInt m.start, rawInt m.handed].toArray }).objs.size) { s with heap := (s.heap.push { cls := .type "tuple", data := .seq [rawInt m.start, rawInt m.handed].toArray }).push { cls := .type "re.Match", data := .fields [st, pt, rawInt pos, rawInt lim, rawInt m.lastindex, .ref s.heap.objs.size].toArray } }) :
    wpAny (model prog w) A (reNewMatch pt st 0 pos lim m) Q E s := by
  unfold reNewMatch
  show wpAny _ _ (newTuple [rawInt m.start, rawInt m.handed] >>= fun v => newFields "re.Match" [st, pt, rawInt pos, rawInt lim, rawInt m.lastindex, v]) _ _ _
  exact wpAny_bind (wpAny_newTuple (wpAny_newObj_type h (by size_fits)) (show 2 ≤ sizeLine by decide))
theorem push2 {h₀ h : Heap} {L : Addr} {m : Str → Option Value} {M : Led} {o1 o2 : Obj} (f1 : o1.isFreed = false) (f2 : o2.isFreed = false) (FF : Fr h₀ L h m) (N : News h₀ L h M) : Fr h₀ L ((h.push o1).push o2) m ∧ News h₀ L ((h.push o1).push o2) (((h.push o1).objs.size, o2) :: (h.objs.size, o1) :: M) ∧ (∀ q ∈ M, q.1 < h.objs.size) ∧ h.objs.size < (h.push o1).objs.size := by
  have fresh : ∀ a, h.objs.size ≤ a → h₀.get? a = none := fun a ha => by
    cases e : h₀.get? a with
    | none => rfl
    | some o' => exact absurd (Heap.lt_size (FF.keep a o' e)) (Nat.not_lt.mpr ha)
  have hL := FF.ns.lt
  refine ⟨(FF.push _).push _, fun q hq => ?_, fun q hq => Heap.lt_size (N q hq).1, by rw [Heap.size_push]; exact Nat.lt_succ_self _⟩
  rcases List.mem_cons.mp hq with rfl | hq
  · exact ⟨Heap.get?_push_size _ f2, by rw [Heap.size_push]; exact Nat.ne_of_gt (Nat.lt_succ_of_lt hL), fresh _ (by rw [Heap.size_push]; exact Nat.le_succ _)⟩
  · rcases List.mem_cons.mp hq with rfl | hq
    · exact ⟨Heap.get?_push_of_some _ (Heap.get?_push_size _ f1), Nat.ne_of_gt hL, fresh _ (Nat.le_refl _)⟩
    · exact ⟨Heap.get?_push_of_some _ (Heap.get?_push_of_some _ (N q hq).1), (N q hq).2⟩
theorem call_match {h₀ : Heap} {L a c : Addr} {m : Str → Option Value} {M : Led} {x0 : Value} {t1 t2 t3 t : Tok} {x : Str} {Q : Value → Shared → Prop} (FF : Fr h₀ L s.heap m) (N : News h₀ L s.heap M) (hp : s.heap.get? a = some (patO c x0 t1 t2 t3)) (hc : s.heap.get? c = some codeO) (hx : x ∈ NAMES)
    (h1 : plainName x = true → ∀ h' Mt oM T oT, oM.cls = .type "re.Match" → Fr h₀ L h' m → News h₀ L h' ((Mt, oM) :: (T, oT) :: M) → (∀ q ∈ M, q.1 < T) → T < Mt → Q (.ref Mt) { s with heap := h' })
    (h2 : plainName x = false → Q .none s) : wpAny (model prog w) A (call (.builtin "re.Pattern.match") [.ref a, .str x t]) Q E s := by
  refine wpAny_call_entry slot_pat_match ⟨_, hp, rfl⟩ entry_pat_match ?_ (args_pat_match _ _)
  show wpAny _ _ (reTarget "re.Pattern.match" "match" ⟨[.ref a, .str x t], []⟩ >>= fun t => reAnswer t (Sre.forMatch t.code t.text t.groups t.pos t.lim false false)) _ _ _
  refine wpAny_bind (target_of hp hc ?_)
  unfold reAnswer
  show wpAny _ _ (reRunToEnd (patM x) >>= _) _ _ _
  obtain ⟨q1, q2, q3⟩ := pat_quiet x hx
  have q4 := pat_hit x hx
  refine wpAny_bind (run_end (k := patTurns x) q3 q1 q2 (fun e => ?_) (fun e => ?_) ?_)
  · have hpl : plainName x = true := by
      cases hb : plainName x with
      | true => rfl
      | false => rw [hb] at q4; have := isEnd_false q4; unfold patEnd at this; rw [e] at this; cases this
    refine wpAny_bind (new_match ?_)
    refine wpAny_pure ⟨_, rfl, ?_⟩
    have P := @push2 h₀ s.heap L m M { cls := .type "tuple", data := .seq [rawInt (patEnd x).start, rawInt (patEnd x).handed].toArray } { cls := .type "re.Match", data := .fields [Value.str x t, .ref a, rawInt 0, rawInt (min (2 ^ 63 - 1) x.cps.size : Nat), rawInt (patEnd x).lastindex, .ref s.heap.objs.size].toArray } rfl rfl FF N
    exact h1 hpl _ _ _ _ _ rfl P.1 P.2.1 P.2.2.1 P.2.2.2
  · have hpl : plainName x = false := by
      cases hb : plainName x with
      | false => rfl
      | true => rw [hb] at q4; have := isEnd_true q4; unfold patEnd at this; rw [e] at this; cases this
    exact wpAny_pure ⟨_, rfl, h2 hpl⟩
  · cases hb : plainName x with
    | true => rw [hb] at q4; exact .inl (isEnd_true q4)
    | false => rw [hb] at q4; exact .inr (isEnd_false q4)
theorem special_none_bool : typeLookup (.type "re.Match") "__bool__" = pure none := am_miss_of_fast (by kernel_rfl)
theorem special_none_len : typeLookup (.type "re.Match") "__len__" = pure none := am_miss_of_fast (by kernel_rfl)
theorem truthy_match {a : Addr} {o : Obj} {Q : Bool → Shared → Prop} (e : s.heap.get? a = some o) (hc : o.cls = .type "re.Match") (h : Q true s) : wpAny (model prog w) A (truthy (.ref a)) Q E s := by
  have hT : s.TypeIs (.ref a) "re.Match" := ⟨o, e, hc⟩
  unfold truthy
  refine wpAny_bind (wpAny_callSpecial?_none (name := Str.ofString "__bool__") hT special_none_bool ?_)
  refine wpAny_bind (wpAny_specialOf (name := Str.ofString "__len__") hT special_none_len ?_)
  exact wpAny_pure h
end
end
section
def nameText (x : Str) : Str := if plainName x then x else reprText x
theorem names_repr : ∀ x ∈ NAMES, (reprText x).length ≤ 20 := by decide +kernel
theorem repr_str {w : World} {prog : Program} {A : Around} {s : Shared} {E : Value → Shared → Prop} {x : Str} {t : Tok} {Q : Value → Shared → Prop} (hx : (reprText x).length ≤ 20) (h : ∀ t' k, Q (.str (reprText x) t') { s with toks := k }) : wpAny (model prog w) A (pyReprObj (.str x t)) Q E s :=
  wpAny_pyReprObj_gives (typeIs_str s x t) F.slot_str_repr F.entry_str_repr (F.args_str_repr_1 _) (gives_str_repr x t) (h _ _) rfl (Nat.le_trans hx (by decide))
local macro_rules | `(tactic| walk_at "pyReprObj str") => `(tactic| (k_dflt (refine' repr_str ?hx ?_; (case hx => assumption); intro t9' k9')))
theorem names_cases : ∀ x ∈ NAMES, plainName x = true ∨ x = Str.ofString "c d" ∨ x = Str.ofString "it's" := by decide +kernel
theorem names_star : ∀ x ∈ NAMES, (x == Str.ofString "*") = false := by decide +kernel
theorem names_len : ∀ x ∈ NAMES, x.length ≤ 10 := by decide +kernel
theorem gm_match {s : Shared} {M : Model} {A : Around} {E : Value → Shared → Prop} {pl : Sem Bool} {Q : Value × List Value → Shared → Prop} {a c : Addr} {x0 : Value} {t1 t2 t3 : Tok} (hp : s.heap.get? a = some (patO c x0 t1 t2 t3)) (h : Q (.builtin "re.Pattern.match", [.ref a]) s) :
    wpAny M A (getMethod (.ref a) (Str.ofString "match") pl) Q E s :=
  getMethod_builtin (T := "re.Pattern") ⟨_, hp, rfl⟩ plainAttrs_pat slot_pat_match (by kernel_rfl) (fun b e => by cases e; exact ⟨_, hp, rfl⟩) h
theorem join_led {w : World} {prog : Program} {A : Around} {s : Shared} {E : Value → Shared → Prop} {h₀ : Heap} {L D : Addr} {M : Led} {n : Nat} {vs : List Value} {ys : List Str} {sep : Str} {t : Tok} {Q : Value → Shared → Prop} (N : News h₀ L s.heap M) (hm : (D, lstO vs n) ∈ M) (hi : StrsAre vs ys) (hsep : sep.length ≤ 16) (hw : (ys.map (·.length)).sum + ys.length ≤ 1048576)
    (h : ∀ t' k, Q (.str (Txt.join sep ys) t') { s with toks := k }) : wpAny (model prog w) A (call (.builtin "str.join") [.str sep t, .ref D]) Q E s :=
  join_listW (isList_of (N _ hm).1) (by simpa using hi) hsep hw h
theorem truthy_led {w : World} {prog : Program} {A : Around} {s : Shared} {E : Value → Shared → Prop} {h₀ : Heap} {L a : Addr} {M : Led} {o : Obj} {Q : Bool → Shared → Prop} (N : News h₀ L s.heap M) (hc : o.cls = .type "re.Match") (hm : (a, o) ∈ M) (h : Q true s) : wpAny (model prog w) A (truthy (.ref a)) Q E s :=
  truthy_match (N _ hm).1 hc h
local macro_rules | `(tactic| walk_at "truthy ref") => `(tactic| (k_dflt (refine' truthy_led ?N ?hc ?hm ?_; (case N => k_asm); (case hc => assumption); (case hm => k_mem))))
local macro_rules | `(tactic| walk_at "exec For Name Attribute cons nil") => `(tactic| (k_dflt (refine' wpAny_For ?_ ?hs; (case hs => (intro _; rfl)))))
local macro_rules | `(tactic| walk_at "getMethod ref") => `(tactic| ((with_reducible show wpAny _ _ (getMethod _ (Str.ofString "match") _) _ _ _); k_dflt (refine' gm_match ?hp ?_; (case hp => (refine' in_at ?X9 ?e9; (case X9 => k_in); (case e9 => k_is))))))
theorem call_hit {w : World} {prog : Program} {A : Around} {s : Shared} {E : Value → Shared → Prop} {h₀ : Heap} {L a c : Addr} {m : Str → Option Value} {M : Led} {x0 : Value} {t1 t2 t3 t : Tok} {x : Str} {Q : Value → Shared → Prop} (FF : Fr h₀ L s.heap m) (N : News h₀ L s.heap M) (hl : plainName x = true) (hp : s.heap.get? a = some (patO c x0 t1 t2 t3)) (hc : s.heap.get? c = some codeO) (hx : x ∈ NAMES)
    (h1 : ∀ h' Mt oM T oT, oM.cls = .type "re.Match" → Fr h₀ L h' m → News h₀ L h' ((Mt, oM) :: (T, oT) :: M) → (∀ q ∈ M, q.1 < T) → T < Mt → Q (.ref Mt) { s with heap := h' }) : wpAny (model prog w) A (call (.builtin "re.Pattern.match") [.ref a, .str x t]) Q E s :=
  call_match FF N hp hc hx (fun _ => h1) fun h => by rw [hl] at h; cases h
theorem call_miss {w : World} {prog : Program} {A : Around} {s : Shared} {E : Value → Shared → Prop} {h₀ : Heap} {L a c : Addr} {m : Str → Option Value} {M : Led} {x0 : Value} {t1 t2 t3 t : Tok} {x : Str} {Q : Value → Shared → Prop} (FF : Fr h₀ L s.heap m) (N : News h₀ L s.heap M) (hl : plainName x = false) (hp : s.heap.get? a = some (patO c x0 t1 t2 t3)) (hc : s.heap.get? c = some codeO) (hx : x ∈ NAMES)
    (h2 : Q .none s) : wpAny (model prog w) A (call (.builtin "re.Pattern.match") [.ref a, .str x t]) Q E s :=
  call_match FF N hp hc hx (fun h => by rw [hl] at h; cases h) fun _ => h2
local macro_rules | `(tactic| walk_at "call builtin:re.Pattern.match") => `(tactic| (k_dflt first
  | (refine' call_hit ?F ?N ?hl ?hp ?hc ?hx ?_; (case F => k_asm); (case N => k_asm); (case hl => assumption); (case hp => (refine' in_at ?X9 ?e9; (case X9 => k_in); (case e9 => k_is))); (case hc => (refine' in_at ?X8 ?e8; (case X8 => k_in); (case e8 => k_is))); (case hx => assumption); intro h' Mt' oM' T' oT' hc' F' N' l1' l2')
  | (refine' call_miss ?F ?N ?hl ?hp ?hc ?hx ?_; (case F => k_asm); (case N => k_asm); (case hl => assumption); (case hp => (refine' in_at ?X9 ?e9; (case X9 => k_in); (case e9 => k_is))); (case hc => (refine' in_at ?X8 ?e8; (case X8 => k_in); (case e8 => k_is))); (case hx => assumption))))
local macro_rules | `(tactic| walk_at "m_strs") => `(tactic| first | assumption | exact StrsAre.nil | (refine StrsAre.cons _ _ ?_; walk_at "m_strs"))
local macro_rules | `(tactic| walk_at "call builtin:str.join") => `(tactic| (k_dflt (refine' join_led ?N ?hm ?hi ?hs ?hw ?_; (case N => k_asm); (case hm => k_mem); (case hi => walk_at "m_strs"); (case hs => decide); (case hw => first | assumption | (simp only [List.map_cons, List.map_nil, List.sum_cons, List.sum_nil, List.length_cons, List.length_nil]; first | decide | omega)); intro t9' k9')))
section
variable {w : World} {p : Program} {loose : List Str} {mean : ExcName → Option Value} {mg mb : Str → Option Value}
theorem str_plain {x : Str} (hx : x ∈ NAMES) (hpl : plainName x = true) : Spec w p loose mean mg mb 534 20 200
    (fun (_ : Unit) news args => ∃ v, args = ⟨[v], []⟩ ∧ PathIn w news v (.fields [x]))
    (fun _ news r => ∃ t, r = .str (nameText (x)) t) := by
  intro dp un gd base fr g news s args R x0 G hdp hun hgn hpre ret
  obtain ⟨v, rfl, hp⟩ := hpre
  have hstar := names_star _ hx
  have hlen := names_len _ hx
  have KB := G.kb
  have TB := G.tb
  revert KB
  k_fill
  intro KB
  cases hp with
  | fields p1 p2 p3 p4 =>
  cases p4 with
  | cons _ t p5 =>
  cases p5
  k_dflt walk_at "m_enter"
  k_fold
  with_reducible rename Fr _ _ _ _ => FF9
  replace FF9 := fr_congr (m' := fun y => List.lookup y [(Str.ofString "self", _)]) FF9 (fun z => congrArg (List.lookup z) rfl)
  walk_at "m_go"
  with_reducible rename News _ _ _ _ => NN
  k_dflt (refine' forTupleI (Grow fun i M zs => (i = 0 → zs = []) ∧ (i = 1 → ∃ t', zs = [.str x t'])) ?zF ?zB ?zXB ?zTB ?zD ?zN ?zb ?zhh ?zhm ?ze ?zhx ?zhp ?zkeep ?zh0 ?zstep ?zk; (case zF => k_asm); (case zB => k_asm); (case zXB => assumption); (case zTB => assumption); (case zD => k_asm); (case zN => exact NN); (case zb => assumption); (case zhh => exact rfl); (case zhm => k_mem); (case ze => exact rfl); (case zhx => exact rfl); (case zhp => exact rfl))
  case zkeep =>
    rintro i M ⟨D, o, R, zs, n, tl, e1, rfl, _⟩
    cases e1
    k_mem
  case zh0 => exact Grow.start (by walk_at "m_ls") ⟨fun _ => rfl, fun h => by cases h⟩
  case zstep =>
    intro i v J oJ M h gn tk g2 Q E' hv hK T' F' N' B' X' TP' D' b' off k
    obtain rfl : i = 0 := by
      have := (List.getElem?_eq_some_iff.mp hv).1
      simp at this; exact this
    simp at hv
    subst hv
    obtain ⟨D, o, R, zs, n, tl, e1, rfl, off1, ord1, hP⟩ := hK
    cases e1
    obtain rfl := hP.1 rfl
    have hz9 : ([] : List Value).length ≤ 90 := by decide
    walk_at "m_go"
    walk_at "m_grow"
    case m => walk_at "m_map"
    exact ⟨fun h => (by cases h), fun _ => ⟨_, rfl⟩⟩
  case zk =>
    intro g2 h gn tk M o T' F' N' B' D' b' hK
    obtain ⟨D, o, R, zs, n, tl, e1, rfl, off1, ord1, hP⟩ := hK
    cases e1
    obtain ⟨t', rfl⟩ := hP.2 rfl
    walk_at "m_go"
    walk_at "m_fin"
    intro hM
    exact ⟨_, by simp only [nameText, hpl]; rfl⟩
theorem str_quoted {x : Str} (hx : x ∈ NAMES) (hpl : plainName x = false) : Spec w p loose mean mg mb 534 20 200
    (fun (_ : Unit) news args => ∃ v, args = ⟨[v], []⟩ ∧ PathIn w news v (.fields [x]))
    (fun _ news r => ∃ t, r = .str (nameText (x)) t) := by
  intro dp un gd base fr g news s args R x0 G hdp hun hgn hpre ret
  obtain ⟨v, rfl, hp⟩ := hpre
  have hstar := names_star _ hx
  have hlen := names_repr _ hx
  have KB := G.kb
  have TB := G.tb
  revert KB
  k_fill
  intro KB
  cases hp with
  | fields p1 p2 p3 p4 =>
  cases p4 with
  | cons _ t p5 =>
  cases p5
  k_dflt walk_at "m_enter"
  k_fold
  with_reducible rename Fr _ _ _ _ => FF9
  replace FF9 := fr_congr (m' := fun y => List.lookup y [(Str.ofString "self", _)]) FF9 (fun z => congrArg (List.lookup z) rfl)
  walk_at "m_go"
  with_reducible rename News _ _ _ _ => NN
  k_dflt (refine' forTupleI (Grow fun i M zs => (i = 0 → zs = []) ∧ (i = 1 → ∃ t', zs = [.str (reprText x) t'])) ?zF ?zB ?zXB ?zTB ?zD ?zN ?zb ?zhh ?zhm ?ze ?zhx ?zhp ?zkeep ?zh0 ?zstep ?zk; (case zF => k_asm); (case zB => k_asm); (case zXB => assumption); (case zTB => assumption); (case zD => k_asm); (case zN => exact NN); (case zb => assumption); (case zhh => exact rfl); (case zhm => k_mem); (case ze => exact rfl); (case zhx => exact rfl); (case zhp => exact rfl))
  case zkeep =>
    rintro i M ⟨D, o, R, zs, n, tl, e1, rfl, _⟩
    cases e1
    k_mem
  case zh0 => exact Grow.start (by walk_at "m_ls") ⟨fun _ => rfl, fun h => by cases h⟩
  case zstep =>
    intro i v J oJ M h gn tk g2 Q E' hv hK T' F' N' B' X' TP' D' b' off k
    obtain rfl : i = 0 := by
      have := (List.getElem?_eq_some_iff.mp hv).1
      simp at this; exact this
    simp at hv
    subst hv
    obtain ⟨D, o, R, zs, n, tl, e1, rfl, off1, ord1, hP⟩ := hK
    cases e1
    obtain rfl := hP.1 rfl
    have hz9 : ([] : List Value).length ≤ 90 := by decide
    walk_at "m_go"
    walk_at "m_grow"
    case m => walk_at "m_map"
    exact ⟨fun h => (by cases h), fun _ => ⟨_, rfl⟩⟩
  case zk =>
    intro g2 h gn tk M o T' F' N' B' D' b' hK
    obtain ⟨D, o, R, zs, n, tl, e1, rfl, off1, ord1, hP⟩ := hK
    cases e1
    obtain ⟨t', rfl⟩ := hP.2 rfl
    walk_at "m_go"
    walk_at "m_fin"
    intro hM
    exact ⟨_, by simp only [nameText, hpl]; rfl⟩
theorem str_field1 {x : Str} (hx : x ∈ NAMES) : Spec w p loose mean mg mb 534 20 200
    (fun (_ : Unit) news args => ∃ v, args = ⟨[v], []⟩ ∧ PathIn w news v (.fields [x]))
    (fun _ news r => ∃ t, r = .str (nameText x) t) := by
  cases hpl : plainName x with
  | true => exact str_plain hx hpl
  | false => exact str_quoted hx hpl
end
end
section
abbrev namesO (t1 t2 t3 t4 t5 : Tok) (n : Nat) : Obj := lstO [.str (Str.ofString "a") t1, .str (Str.ofString "b") t2, .str (Str.ofString "c d") t3, .str (Str.ofString "x1") t4, .str (Str.ofString "it's") t5] n
def nameAt (i : Int) : Str := NAMES.getD i.toNat (Str.ofString "a")
theorem nameAt_mem (i : Int) : nameAt i ∈ NAMES := by
  unfold nameAt
  rw [List.getD_eq_getElem?_getD]
  cases h : NAMES[i.toNat]? with
  | none => show Str.ofString "a" ∈ NAMES; decide +kernel
  | some x => exact List.mem_of_getElem? h
section
variable {prog : Program} {w : World} {A : Around} {s : Shared} {E : Value → Shared → Prop}
theorem item_names {i : Int} {u : Tok} {a : Addr} {t1 t2 t3 t4 t5 : Tok} {n : Nat} {value slice : Expr} {Q : Value → Shared → Prop} (hN : s.heap.get? a = some (namesO t1 t2 t3 t4 t5 n)) (h0 : 0 ≤ i) (h5 : i < 5) (h : ∀ t, Q (.str (nameAt i) t) s)
    (hs : subscripted slice false (.ref a) (.int i u) = operate [.ref a, .int i u] (getItem (.ref a) (.int i u))) : wpAny (model prog w) A (subscriptTail value slice (.ref a) (.int i u)) Q E s := by
  have il := isList_of hN
  obtain ⟨t, ht⟩ : ∃ t, ([Value.str (Str.ofString "a") t1, .str (Str.ofString "b") t2, .str (Str.ofString "c d") t3, .str (Str.ofString "x1") t4, .str (Str.ofString "it's") t5] : List Value)[i.toNat]? = some (.str (nameAt i) t) := by
    have hi : i = 0 ∨ i = 1 ∨ i = 2 ∨ i = 3 ∨ i = 4 := by omega
    rcases hi with rfl | rfl | rfl | rfl | rfl
    · exact ⟨t1, rfl⟩
    · exact ⟨t2, rfl⟩
    · exact ⟨t3, rfl⟩
    · exact ⟨t4, rfl⟩
    · exact ⟨t5, rfl⟩
  exact tail_any il.typeIs slot_list_getitem.lookup (wpAny_getItem_list il h0 (by omega) (by simpa using ht) (h t)) hs
end

section
variable {A₀ : Around} {base : Heap} {outer : List Env} {L : Addr} {s : Shared}
theorem grow_endC {C : (Str → Option Value) → Prop} {P : Nat → Led → List Value → Prop} {g g' h : Heap} {J D : Addr} {oJ o : Obj} {Q : Flow → Shared → Prop} {m : Str → Option Value} {R tl stuff : Led} {zs zs' : List Value} {n n₂ i : Nat} {gn : Array GenState} {tk : Nat} {dr : Drawn} {os : OsState}
    (k : Nexts A₀ base outer L g J oJ s Q (fun m M => C m ∧ Grow P ((D, o) :: R) i M)) (e1 : s.drawn = dr) (e2 : s.os = os)
    (T : KtsTurn (outer.filterMap (·.frame)) g g') (F : Fr g' L h m) (N : News g' L h ((J, oJ) :: (D, lstO zs' n₂) :: (R ++ tl ++ stuff))) (B : Below A₀ base outer g') (Dk : KtsDicts (outer.filterMap (·.frame)) g') (hb : AllBare gn)
    (offJ : ∀ q ∈ (D, lstO zs n) :: (R ++ tl), q.1 ≠ J) (off : ∀ q ∈ R ++ tl, q.1 ≠ D) (ord : ∀ q ∈ R, ∀ t ∈ tl, q.1 ≠ t.1) (os' : ∀ q ∈ (J, oJ) :: (D, lstO zs n) :: (R ++ tl), ∀ t ∈ stuff, q.1 ≠ t.1)
    (hm : C m) (post : P i (R ++ tl ++ stuff) zs') : Q .next ⟨h, gn, dr, tk, os⟩ :=
  nexts_end k e1 e2 T F N B Dk hb (fun q hq => hq) (fun q hq => by
    rcases List.mem_cons.mp hq with rfl | hq
    · exact offJ (D, lstO zs n) (by simp)
    · rcases List.mem_append.mp hq with hq | hq
      · exact offJ q (List.mem_cons_of_mem _ hq)
      · exact (os' (J, oJ) (by simp) q hq).symm) ⟨hm, Grow.next off (fun q hq => (os' (D, lstO zs n) (by simp) q hq).symm) ord (fun q hq t ht => os' q (by simp [hq]) t ht) post⟩
end
end
local macro_rules | `(tactic| walk_at "subscriptTail") => `(tactic| ((with_reducible show wpAny _ _ (subscriptTail _ _ (Value.ref 771) (Value.int _ _)) _ _ _); k_dflt (refine' item_names ?hN ?h0 ?h5 ?_ ?hs; (case hN => (refine' in_at ?X9 ?e9; (case X9 => k_in); (case e9 => k_is))); (case h0 => l_idx); (case h5 => l_idx); (case hs => with_unfolding_all rfl); intro t9')))
local macro_rules | `(tactic| walk_at "m_growC") => `(tactic| (refine' grow_endC ?k ?e1 ?e2 ?T ?F ?N ?B ?D ?b ?oJ ?of ?or ?os ?m ?_; (case k => assumption); (case e1 => exact rfl); (case e2 => exact rfl); (case F => k_asm); (case N => k_asm); (case B => k_asm); (case D => k_asm); (case T => walk_at "m_turn"); (case b => assumption); (case oJ => assumption); (case of => assumption); (case or => assumption); (case os => assumption)))
local macro_rules | `(tactic| walk_at "m_mapC") => `(tactic| (intro z9 hz9; simp only [List.mem_cons, List.not_mem_nil, not_or, or_false] at hz9; (repeat' split); first | rfl | (exfalso; simp_all; done) | (simp_all; done)))
section
local macro_rules | `(tactic| walk_at "exec For Name Name cons nil") => `(tactic| (k_dflt (refine' wpAny_For ?_ ?hs; (case hs => (intro _; rfl)))))
inductive StepIn (w : World) (news : Led) : Value → Step → Prop where
  | names {T A : Addr} {t : Tok} {vs : List Value} {n m : Nat} {xs : List Str} : (T, tupO [.str (Str.ofString "names") t, .ref A] n) ∈ news → (A, lstO vs m) ∈ news → StrsAre vs xs → (∀ x ∈ xs, x ∈ NAMES) → 1 ≤ xs.length → xs.length ≤ 2 → StepIn w news (.ref T) (.names xs)
  | places {T A : Addr} {t : Tok} {vs : List Value} {n m : Nat} {ps : List Int} : (T, tupO [.str (Str.ofString "places") t, .ref A] n) ∈ news → (A, lstO vs m) ∈ news → IntsAre vs ps → (∀ i ∈ ps, -3 ≤ i ∧ i ≤ 3) → 1 ≤ ps.length → ps.length ≤ 2 → StepIn w news (.ref T) (.places ps)
  | all {T A : Addr} {t : Tok} {n m : Nat} : (T, tupO [.str (Str.ofString "all") t, .ref A] n) ∈ news → (A, lstO [] m) ∈ news → StepIn w news (.ref T) .all
theorem StepIn.mono {w : World} {news news' : Led} {v : Value} {st : Step} (h : StepIn w news v st) (hs : ∀ q ∈ news, q ∈ news') : StepIn w news' v st := by
  cases h with
  | names h1 h2 h3 h4 h5 h6 => exact .names (hs _ h1) (hs _ h2) h3 h4 h5 h6
  | places h1 h2 h3 h4 h5 h6 => exact .places (hs _ h1) (hs _ h2) h3 h4 h5 h6
  | all h1 h2 => exact .all (hs _ h1) (hs _ h2)
def StepsIn (w : World) (news : Led) (vs : List Value) (xs : List Step) : Prop := Paired (StepIn w news) vs xs
theorem steps_snoc {w : World} {M M' : Led} {zs : List Value} {st : List Step} {i : Nat} {v : Value} {x : Step} (hst : st.length = i) (hP : StepsIn w M zs st) (hs : ∀ q ∈ M, q ∈ M') (h : StepIn w M' v x) : ∃ st', st'.length = i + 1 ∧ StepsIn w M' (zs ++ [v]) st' :=
  ⟨st ++ [x], by simp [hst], Paired.snoc (paired_imp (fun _ _ h => h.mono hs) hP) h⟩
theorem names_in1 (a : Int) : ∀ x ∈ [nameAt a], x ∈ NAMES := fun x hx => by rw [List.mem_singleton.mp hx]; exact nameAt_mem a
theorem names_in2 (a b : Int) : ∀ x ∈ [nameAt a, nameAt b], x ∈ NAMES := fun x hx => by
  rcases List.mem_cons.mp hx with rfl | hx
  · exact nameAt_mem a
  · exact names_in1 b x hx
theorem places_in1 (a : Int) : ∀ i ∈ [a.fmod 7 - 3], -3 ≤ i ∧ i ≤ 3 := fun x hx => by
  rw [List.mem_singleton.mp hx]
  have h1 := fmod_lo a (n := 7) (by decide)
  have h2 := fmod_hi a (n := 7) (by decide)
  omega
theorem places_in2 (a b : Int) : ∀ i ∈ [a.fmod 7 - 3, b.fmod 3], -3 ≤ i ∧ i ≤ 3 := fun x hx => by
  rcases List.mem_cons.mp hx with rfl | hx
  · exact places_in1 a _ (by simp)
  · rw [List.mem_singleton.mp hx]
    have h1 := fmod_lo b (n := 3) (by decide)
    have h2 := fmod_hi b (n := 3) (by decide)
    omega
section
variable {w : World} {p : Program} {loose : List Str} {mean : ExcName → Option Value} {mg mb : Str → Option Value}
theorem steps_spec : Spec w p loose mean mg mb 788 20 200
    (fun (x : List Int) news args => ∃ a vs n, args = ⟨[.ref a], []⟩ ∧ (a, lstO vs n) ∈ news ∧ IntsAre vs x ∧ x.length ≤ 3)
    (fun x news r => ∃ b ws n st, r = .ref b ∧ (b, lstO ws n) ∈ news ∧ st.length = x.length ∧ StepsIn w news ws st) := by
  intro dp un gd base fr g news s args R x G hdp hun hgn hpre ret
  obtain ⟨a, vs, n, rfl, ha, hv, hl⟩ := hpre
  have KB := G.kb
  have TB := G.tb
  revert KB
  k_fill
  intro KB
  dsimp only at hv ret hl
  k_dflt walk_at "m_enter"
  k_fold
  with_reducible rename Fr _ _ _ _ => FF9
  replace FF9 := fr_congr (m' := fun y => List.lookup y [(Str.ofString "numbers", _)]) FF9 (fun z => congrArg (List.lookup z) rfl)
  walk_at "m_go"
  with_reducible rename News _ _ _ _ => NN
  k_dflt (refine' forListG [Str.ofString "kind", Str.ofString "more"] (fun M₁ i _ M => Grow (fun i M zs => ∃ st, st.length = i ∧ StepsIn w M zs st) M₁ i M) ?zF ?zB ?zXB ?zTB ?zD ?zN ?zb ?zhh ?zhm ?ze ?zhx ?zhp ?zkeep ?zh0 ?zstep ?zk; (case zF => k_asm); (case zB => k_asm); (case zXB => assumption); (case zTB => assumption); (case zD => k_asm); (case zN => exact NN); (case zb => assumption); (case zhh => exact rfl); (case zhm => k_mem); (case ze => exact rfl); (case zhx => exact rfl); (case zhp => exact rfl))
  case zkeep =>
    rintro i m M ⟨D, o, R, zs, n, tl, e1, rfl, _⟩
    cases e1
    k_mem
  case zh0 => exact Grow.start (by walk_at "m_ls") ⟨[], rfl, .nil⟩
  case zstep =>
    intro i v J oJ m M h gn tk g2 Q E' hi hv' hK T' F' N' B' X' TP' D' b' off k
    obtain ⟨x1, t, rfl, hx⟩ := intsAt hv hv'
    obtain ⟨D, o, R, zs, n, tl, e1, rfl, off1, ord1, st, hst, hP⟩ := hK
    cases e1
    have hz9 : zs.length ≤ 90 := by
      have e1 := hP.length
      have e2 := intsLen hv
      omega
    simp only [spread] at F'
    walk_at "m_go"
    all_goals (walk_at "m_growC"; (case m => walk_at "m_mapC"))
    · refine steps_snoc hst hP (fun q hq => List.mem_append_left _ hq) (.names (by k_mem) (by k_mem) (.cons _ _ .nil) (names_in1 _) (Nat.le_of_ble_eq_true rfl) (Nat.le_of_ble_eq_true rfl))
    · refine steps_snoc hst hP (fun q hq => List.mem_append_left _ hq) (.names (by k_mem) (by k_mem) (.cons _ _ (.cons _ _ .nil)) (names_in2 _ _) (Nat.le_of_ble_eq_true rfl) (Nat.le_of_ble_eq_true rfl))
    · refine steps_snoc hst hP (fun q hq => List.mem_append_left _ hq) (.places (by k_mem) (by k_mem) (.cons _ _ .nil) (places_in1 _) (Nat.le_of_ble_eq_true rfl) (Nat.le_of_ble_eq_true rfl))
    · refine steps_snoc hst hP (fun q hq => List.mem_append_left _ hq) (.places (by k_mem) (by k_mem) (.cons _ _ (.cons _ _ .nil)) (places_in2 _ _) (Nat.le_of_ble_eq_true rfl) (Nat.le_of_ble_eq_true rfl))
    · refine steps_snoc hst hP (fun q hq => List.mem_append_left _ hq) (.all (by k_mem) (by k_mem))
  case zk =>
    intro g2 h gn tk m M T' F' N' B' D' b' hK
    obtain ⟨D, o, R, zs, n, tl, e1, rfl, off1, ord1, st, hst, hP⟩ := hK
    cases e1
    simp only [spread] at F'
    walk_at "m_go"
    walk_at "m_fin"
    intro hM
    exact ⟨_, zs, _, st, rfl, hM _ (by k_mem), by rw [hst, intsLen hv], paired_imp (fun a b h => h.mono fun q hq => hM q (by (revert q; walk_at "m_sub"))) hP⟩
end
end
section
section
variable {w : World} {p : Program} {loose : List Str} {mean : ExcName → Option Value} {mg mb : Str → Option Value}
theorem one_spec : Spec w p loose mean mg mb 795 20 200
    (fun (x : Step) news args => ∃ v, args = ⟨[v], []⟩ ∧ StepIn w news v x)
    (fun x news r => PathIn w news r x.path) := by
  intro dp un gd base fr g news s args R x G hdp hun hgn hpre ret
  obtain ⟨v, rfl, hs⟩ := hpre
  have KB := G.kb
  have TB := G.tb
  revert KB
  k_fill
  intro KB
  cases hs with
  | all h1 h2 =>
    k_dflt walk_at "m_enter"
    k_fold
    with_reducible rename Fr _ _ _ _ => FF9
    replace FF9 := fr_congr (m' := fun y => List.lookup y [(Str.ofString "step", _)]) FF9 (fun z => congrArg (List.lookup z) rfl)
    walk_at "m_go"
    walk_at "m_fin"
    intro hM
    exact .wild (hM _ (by k_mem)) (hM _ (by k_mem))
  | names h1 h2 h3 h4 h5 h6 =>
    cases h3 with
    | nil => simp at h5
    | cons x t h3 =>
    cases h3 with
    | nil =>
      k_dflt walk_at "m_enter"
      k_fold
      with_reducible rename Fr _ _ _ _ => FF9
      replace FF9 := fr_congr (m' := fun y => List.lookup y [(Str.ofString "step", _)]) FF9 (fun z => congrArg (List.lookup z) rfl)
      walk_at "m_go"
      walk_at "m_fin"
      intro hM
      have hb : ([x].any fun x => x == Str.ofString "*") = false := by simp only [List.any_cons, List.any_nil, names_star _ (h4 x (by simp)), Bool.or_false]
      rw [hb] at hM ⊢
      exact .fields (hM _ (by k_mem)) (hM _ (by k_mem)) (hM _ (by k_mem)) (.cons _ _ .nil)
    | cons y t2 h3 =>
    cases h3 with
    | cons => simp at h6
    | nil =>
      k_dflt walk_at "m_enter"
      k_fold
      with_reducible rename Fr _ _ _ _ => FF9
      replace FF9 := fr_congr (m' := fun y => List.lookup y [(Str.ofString "step", _)]) FF9 (fun z => congrArg (List.lookup z) rfl)
      walk_at "m_go"
      walk_at "m_fin"
      intro hM
      have hb : ([x, y].any fun x => x == Str.ofString "*") = false := by simp only [List.any_cons, List.any_nil, names_star _ (h4 x (by simp)), names_star _ (h4 y (by simp)), Bool.or_false]
      rw [hb] at hM ⊢
      exact .fields (hM _ (by k_mem)) (hM _ (by k_mem)) (hM _ (by k_mem)) (.cons _ _ (.cons _ _ .nil))
  | places h1 h2 h3 h4 h5 h6 =>
    cases h3 with
    | nil => simp at h5
    | cons x t h3 =>
    cases h3 with
    | nil =>
      k_dflt walk_at "m_enter"
      k_fold
      with_reducible rename Fr _ _ _ _ => FF9
      replace FF9 := fr_congr (m' := fun y => List.lookup y [(Str.ofString "step", _)]) FF9 (fun z => congrArg (List.lookup z) rfl)
      walk_at "m_go"
      walk_at "m_fin"
      intro hM
      exact (by assumption : PathIn _ _ _ (.index [_])).mono fun q hq => hM q (by (revert q; walk_at "m_sub"))
    | cons y t2 h3 =>
    cases h3 with
    | cons => simp at h6
    | nil =>
      k_dflt walk_at "m_enter"
      k_fold
      with_reducible rename Fr _ _ _ _ => FF9
      replace FF9 := fr_congr (m' := fun y => List.lookup y [(Str.ofString "step", _)]) FF9 (fun z => congrArg (List.lookup z) rfl)
      walk_at "m_go"
      walk_at "m_fin"
      intro hM
      exact .index (hM _ (by k_mem)) (hM _ (by k_mem)) (hM _ (by k_mem)) (.cons _ _ (.cons _ _ .nil))
end
theorem Step.path_root (k : Step) : k.path ≠ .root := by cases k <;> simp [Step.path]
theorem Step.path_this (k : Step) : k.path ≠ .this := by cases k <;> simp [Step.path]
section
variable {A₀ : Around} {base : Heap} {outer : List Env} {L : Addr} {s : Shared}
theorem plain_end {C : (Str → Option Value) → Prop} {PP : (Str → Option Value) → Led → Prop} {g g' h : Heap} {J : Addr} {oJ : Obj} {Q : Flow → Shared → Prop} {m : Str → Option Value} {M₁ tl stuff M' : Led} {gn : Array GenState} {tk : Nat} {dr : Drawn} {os : OsState}
    (k : Nexts A₀ base outer L g J oJ s Q (fun m M => C m ∧ ∃ tl, M = M₁ ++ tl ∧ (∀ q ∈ M₁, ∀ t ∈ tl, q.1 ≠ t.1) ∧ PP m M)) (e1 : s.drawn = dr) (e2 : s.os = os)
    (T : KtsTurn (outer.filterMap (·.frame)) g g') (F : Fr g' L h m) (N : News g' L h M') (B : Below A₀ base outer g') (Dk : KtsDicts (outer.filterMap (·.frame)) g') (hb : AllBare gn)
    (offJ : ∀ q ∈ M₁ ++ tl, q.1 ≠ J) (ord : ∀ q ∈ M₁, ∀ t ∈ tl, q.1 ≠ t.1) (S : Split M' ((J, oJ) :: (M₁ ++ tl)) stuff)
    (hm : C m) (post : PP m (M₁ ++ (tl ++ stuff))) : Q .next ⟨h, gn, dr, tk, os⟩ :=
  nexts_end k e1 e2 T F N B Dk hb (M := M₁ ++ (tl ++ stuff)) (fun q hq => S.mem q (by
    rw [List.cons_append, List.append_assoc]; exact hq)) (fun q hq => by
    rw [← List.append_assoc] at hq
    rcases List.mem_append.mp hq with hq | hq
    · exact offJ q hq
    · exact (S.ord (J, oJ) (by simp) q hq).symm) ⟨hm, tl ++ stuff, rfl, fun q hq t ht => by
    rcases List.mem_append.mp ht with ht | ht
    · exact ord q hq t ht
    · exact S.ord q (by simp [hq]) t ht, post⟩
end
section
variable {w : World} {p : Program} {loose : List Str} {mean : ExcName → Option Value} {mg mb : Str → Option Value}
  {A A₀ : Around} {base h₀ : Heap} {env : Env} {outer : List Env} {L : Addr} {m : Str → Option Value} {news M : Led} {s : Shared} {Q E : Value → Shared → Prop}
theorem use_one {x : Step} {v : Value} (F : Fr h₀ L s.heap m) (B : Below A₀ base outer h₀) (XB : (hd.heap_1 w.params).In base) (TB : Top p loose mean mg mb base) (D : KtsDicts (outer.filterMap (·.frame)) h₀)
    (N : News h₀ L s.heap M) (hA : A.frames = some (env :: outer)) (hf : env.frame = some L) (hke : env.scope.kind = .function) (hh : A.handled = none) (hdp : A.depth + 20 < recursionLimit) (hu : A.units + 200 < cLine)
    (hb : AllBare s.gens) (hs : StepIn w news v x) (sub : ∀ q ∈ news, q ∈ M)
    (k : Comes w p loose mean mg mb A₀ base outer L m h₀ M s Q (fun tl r => PathIn w (news ++ tl) r x.path)) : wpAny (model Challenge.rw_bm0005_01.row.prog w) A (call (.ref 795) [v]) Q E s :=
  one_spec.call F B XB TB D N sub hA hf hke hh hdp hu hb x ⟨v, rfl, hs⟩ k
theorem use_child_in {R N₀ tlp : Led} {x y : Path} {a b : Value} (F : Fr h₀ L s.heap m) (B : Below A₀ base outer h₀) (XB : (hd.heap_1 w.params).In base) (TB : Top p loose mean mg mb base) (D : KtsDicts (outer.filterMap (·.frame)) h₀)
    (N : News h₀ L s.heap M) (hA : A.frames = some (env :: outer)) (hf : env.frame = some L) (hke : env.scope.kind = .function) (hh : A.handled = none) (hdp : A.depth + 6 < recursionLimit) (hu : A.units + 60 < cLine)
    (hb : AllBare s.gens) (_hH : Here R) (hy : PathIn w (N₀ ++ tlp) b y) (ha : PathIn w R a x) (h0 : ∀ q ∈ N₀, q ∈ R) (sub : ∀ q ∈ R ++ tlp, q ∈ M) (n1 : y ≠ .root) (n2 : y ≠ .this)
    (k : Comes w p loose mean mg mb A₀ base outer L m h₀ M s Q (fun tl r => PathIn w (R ++ tlp ++ tl) r (kidOf x y))) : wpAny (model Challenge.rw_bm0005_01.row.prog w) A (call (.ref 133) [a, b]) Q E s :=
  use_child F B XB TB D N sub hA hf hke hh hdp hu hb (ha.mono fun q hq => List.mem_append_left _ hq) (hy.mono fun q hq => by
    rcases List.mem_append.mp hq with hq | hq
    · exact List.mem_append_left _ (h0 q hq)
    · exact List.mem_append_right _ hq) n1 n2 k
theorem here_off {R : Led} {J : Addr} (_h : ∀ q ∈ R, q.1 ≠ J) : Here R := here R
end
end
local macro_rules | `(tactic| walk_at "getMethod ref") => `(tactic| ((with_reducible show wpAny _ _ (getMethod _ (Str.ofString "child") _) _ _ _); k_dflt (apply gm_child; walk_at "ms")))
local macro_rules | `(tactic| walk_at "call ref") => `(tactic| ((with_reducible show wpAny _ _ (call (Value.ref 133) _) _ _ _); k_dflt (refine' use_child_in ?F ?B ?XB ?TB ?D ?N ?A ?f ?ke ?h ?dp ?u ?b ?hH ?hy ?ha ?h0 ?sub ?n1 ?n2 ?_; (case F => k_asm); (case B => k_asm); (case XB => assumption); (case TB => assumption); (case D => k_asm); (case N => k_asm); (case A => exact rfl); (case f => exact rfl); (case ke => exact rfl); (case h => exact rfl); (case dp => k_room); (case u => k_room); (case b => assumption); (case hH => assumption); (case hy => assumption); (case ha => walk_at "m_path"); (case h0 => walk_at "m_sub"); (case n1 => first | exact Key.path_root _ | exact Step.path_root _); (case n2 => first | exact Key.path_this _ | exact Step.path_this _); (case sub => walk_at "m_sub"); intro r' tl' h' gn' tk' g' T' F' N' B' X' TP' D' o' b' P')))
local macro_rules | `(tactic| walk_at "call ref") => `(tactic| ((with_reducible show wpAny _ _ (call (Value.ref 795) _) _ _ _); k_dflt (apply use_one; walk_at "ms"; walk_at "mi"; intro P'; (try dsimp only at P'))))
local macro_rules | `(tactic| walk_at "m_plain") => `(tactic| (refine' plain_end ?k ?e1 ?e2 ?T ?F ?N ?B ?D ?b ?oJ ?or ?S ?m ?_; (case k => assumption); (case e1 => exact rfl); (case e2 => exact rfl); (case F => k_asm); (case N => k_asm); (case B => k_asm); (case D => k_asm); (case T => walk_at "m_turn"); (case b => assumption); (case oJ => assumption); (case or => assumption); (case S => walk_at "m_split")))
section
def chainOf (p₀ : Path) (st : List Step) : Path := st.foldl (fun p s => kidOf p s.path) p₀
theorem chainOf_take {p₀ : Path} {st : List Step} {i : Nat} {x : Step} (h : st[i]? = some x) : chainOf p₀ (st.take (i + 1)) = kidOf (chainOf p₀ (st.take i)) x.path := by
  rw [List.take_add_one, h]; simp [chainOf]
local macro_rules | `(tactic| walk_at "exec For Name Name cons nil") => `(tactic| (k_dflt (refine' wpAny_For ?_ ?hs; (case hs => (intro _; rfl)))))
section
variable {w : World} {p : Program} {loose : List Str} {mean : ExcName → Option Value} {mg mb : Str → Option Value}
theorem path_spec : Spec w p loose mean mg mb 812 30 300
    (fun (x : List Step) news args => ∃ a ws n, args = ⟨[.ref a], []⟩ ∧ (a, lstO ws n) ∈ news ∧ StepsIn w news ws x)
    (fun x news r => PathIn w news r (chainOf .root x)) := by
  intro dp un gd base fr g news s args R x G hdp hun hgn hpre ret
  obtain ⟨a, ws, n, rfl, ha, hs⟩ := hpre
  have KB := G.kb
  have TB := G.tb
  revert KB
  k_fill
  intro KB
  dsimp only at hs ret
  k_dflt walk_at "m_enter"
  k_fold
  with_reducible rename Fr _ _ _ _ => FF9
  replace FF9 := fr_congr (m' := fun y => List.lookup y [(Str.ofString "steps", _)]) FF9 (fun z => congrArg (List.lookup z) rfl)
  walk_at "m_go"
  with_reducible rename News _ _ _ _ => NN
  k_dflt (refine' forListG [Str.ofString "path"] (fun M₁ i m M => ∃ tl, M = M₁ ++ tl ∧ (∀ q ∈ M₁, ∀ t ∈ tl, q.1 ≠ t.1) ∧ ∃ v, m (Str.ofString "path") = some v ∧ PathIn w M v (chainOf .root (x.take i))) ?zF ?zB ?zXB ?zTB ?zD ?zN ?zb ?zhh ?zhm ?ze ?zhx ?zhp ?zkeep ?zh0 ?zstep ?zk; (case zF => k_asm); (case zB => k_asm); (case zXB => assumption); (case zTB => assumption); (case zD => k_asm); (case zN => exact NN); (case zb => assumption); (case zhh => exact rfl); (case zhm => k_mem); (case ze => exact rfl); (case zhx => exact rfl); (case zhp => exact rfl))
  case zkeep =>
    rintro i m M ⟨tl, rfl, _⟩
    k_mem
  case zh0 => exact ⟨[], (List.append_nil _).symm, (fun _ _ _ h => by cases h), _, rfl, .root (by k_mem) (by k_mem)⟩
  case zstep =>
    intro i v J oJ m M h gn tk g2 Q E' hi hv' hK T' F' N' B' X' TP' D' b' off k
    obtain ⟨sx, hsx, hst⟩ := paired_get hs hv'
    obtain ⟨tl, rfl, ord1, pv, hpv, hP⟩ := hK
    obtain ⟨pa, rfl⟩ := hP.ref
    have hH9 := here_off off
    simp only [spread, hpv] at F'
    walk_at "m_go"
    walk_at "m_plain"
    case m => walk_at "m_mapC"
    refine ⟨_, rfl, ?_⟩
    rw [chainOf_take hsx]
    exact PathIn.mono (by assumption) (by walk_at "m_sub")
  case zk =>
    intro g2 h gn tk m M T' F' N' B' D' b' hK
    obtain ⟨tl, rfl, ord1, pv, hpv, hP⟩ := hK
    simp only [spread, hpv] at F'
    walk_at "m_go"
    walk_at "m_fin"
    intro hM
    rw [List.take_of_length_le (Nat.le_of_eq hs.length.symm)] at hP
    exact hP.mono fun q hq => hM q (by (revert q; walk_at "m_sub"))
end
end
section
inductive KeyVal : Value → Key → Prop where
  | name {x : Str} {t : Tok} : KeyVal (.str x t) (.name x)
  | place {i : Int} {t : Tok} : KeyVal (.int i t) (.place i)
/-- a pair of keys and the value below them -/
inductive MatchIn (w : World) (news : Led) : Value → (List Key × Doc) → Prop where
  | mk {T K : Addr} {vs : List Value} {n m : Nat} {ks : List Key} {d : Doc} : (T, tupO [.ref K, d.val] n) ∈ news → (K, lstO vs m) ∈ news → Paired KeyVal vs ks → DocIn w news d → MatchIn w news (.ref T) (ks, d)
theorem MatchIn.mono {w : World} {news news' : Led} {v : Value} {x : List Key × Doc} (h : MatchIn w news v x) (hs : ∀ q ∈ news, q ∈ news') : MatchIn w news' v x := by
  cases h with
  | mk h1 h2 h3 h4 => exact .mk (hs _ h1) (hs _ h2) h3 (h4.mono hs)
def MatchesIn (w : World) (news : Led) (vs : List Value) (xs : List (List Key × Doc)) : Prop := Paired (MatchIn w news) vs xs
theorem MatchesIn.mono {w : World} {news news' : Led} {vs : List Value} {xs : List (List Key × Doc)} (h : MatchesIn w news vs xs) (hs : ∀ q ∈ news, q ∈ news') : MatchesIn w news' vs xs := paired_imp (fun _ _ h => h.mono hs) h
section
variable {prog : Program} {w : World} {A : Around} {s : Shared} {E : Value → Shared → Prop} {m : Str → Option Value} {h₀ : Heap} {L : Addr} {M : Led}
theorem item_dict {a : Addr} {es : List (Str × Tok × Doc)} {n : Nat} {x : Str} {t : Tok} {e : Doc} {value slice : Expr} {Q : Value → Shared → Prop} (N : News h₀ L s.heap M) (hm : (a, dictOf (entsOf w es) n) ∈ M) (hg : (Doc.dict a es).get (.name x) = some e) (h : ∀ tk, Q e.val { s with toks := tk })
    (hs : subscripted slice false (.ref a) (.str x t) = operate [.ref a, .str x t] (getItem (.ref a) (.str x t))) : wpAny (model prog w) A (subscriptTail value slice (.ref a) (.str x t)) Q E s := by
  have hmp := doc_map (prog := prog) N hm
  have e0 : (Doc.dict 0 es).get (.name x) = (Doc.dict a es).get (.name x) := rfl
  exact tail_any hmp.typeIs slot_dict_getitem.lookup (wpAny_getItem_of (strKind_is prog w x t) hmp (v := e.val) (by rw [e0, hg]; rfl) (h _)) hs
theorem in_dict {a : Addr} {es : List (Str × Tok × Doc)} {n : Nat} {x : Str} {t : Tok} {Q : Value → Shared → Prop} (N : News h₀ L s.heap M) (hm : (a, dictOf (entsOf w es) n) ∈ M) (lo : (a == sysModules) = false) (b : Bool) (hb : ((Doc.dict a es).get (.name x)).isSome = b) (h : ∀ tk, Q (.bool b) { s with toks := tk }) :
    wpAny (model prog w) A (compareOp .In (.str x t) (.ref a)) Q E s := by
  have hmp := doc_map (prog := prog) N hm
  refine wpAny_in_of (strKind_is prog w x t) lo hmp ?_
  have e0 : (((Doc.dict 0 es).get (.name x)).map Doc.val).isSome = b := by rw [← hb]; cases h : (Doc.dict 0 es).get (.name x) <;> simp [show (Doc.dict a es).get (.name x) = (Doc.dict 0 es).get (.name x) from rfl, h]
  rw [e0]; exact h _
/-- two lists of the ledger, joined -/
theorem concat_lists {a b : Addr} {xs ys : List Value} {n k : Nat} {Q : Value → Shared → Prop} (FF : Fr h₀ L s.heap m) (N : News h₀ L s.heap M) (ha : (a, lstO xs n) ∈ M) (hb : (b, lstO ys k) ∈ M) (hlen : xs.length + ys.length ≤ 100)
    (h : ∀ h' c, Fr h₀ L h' m → News h₀ L h' ((c, lstO (xs ++ ys) 0) :: M) → (∀ q ∈ M, q.1 < c) → Q (.ref c) { s with heap := h' }) : wpAny (model prog w) A (binaryOp .Add (.ref a) (.ref b)) Q E s := by
  have za := N _ ha
  have zb := N _ hb
  have fresh : h₀.get? s.heap.objs.size = none := by
    cases e : h₀.get? s.heap.objs.size with
    | none => rfl
    | some o' => exact absurd (Heap.lt_size (FF.keep _ o' e)) (Nat.lt_irrefl _)
  refine wpAny_binaryOp_concat ⟨_, za.1, rfl⟩ ⟨_, zb.1, rfl⟩ noFill_list_add seq_list_add ?_
  refine call_meets F.slot_list_add ⟨_, za.1, rfl⟩ F.entry_list_add (F.args_list_add_2 _ _) (PySem.AutoSeq1.list___add___list_list_0 a xs.toArray n b ys.toArray k ?_) ⟨za.1, zb.1, ?_⟩
  · simp only [List.size_toArray]; exact Nat.le_trans hlen (by decide)
  · have e : (xs.toArray ++ ys.toArray) = (xs ++ ys).toArray := by simp
    rw [e]
    refine h _ _ (FF.push _) (fun q hq => ?_) (fun q hq => Heap.lt_size (N q hq).1)
    rcases List.mem_cons.mp hq with rfl | hq
    · exact ⟨Heap.get?_push_size _ rfl, Nat.ne_of_gt FF.ns.lt, fresh⟩
    · exact ⟨Heap.get?_push_of_some _ (N q hq).1, (N q hq).2⟩
end
end
local macro_rules | `(tactic| walk_at "subscriptTail Name Name str") => `(tactic| ((with_reducible show wpAny _ _ (subscriptTail _ _ (Value.ref _) (Value.str _ _)) _ _ _); k_dflt (refine' item_dict ?N ?hm ?hg ?_ ?hs; (case N => k_asm); (case hm => k_mem); (case hg => assumption); (case hs => with_unfolding_all rfl); intro tk9)))
local macro_rules | `(tactic| walk_at "subscriptTail") => `(tactic| ((with_reducible show wpAny _ _ (subscriptTail _ _ (Value.ref _) (Value.str _ _)) _ _ _); k_dflt (refine' item_dict ?N ?hm ?hg ?_ ?hs; (case N => k_asm); (case hm => k_mem); (case hg => assumption); (case hs => with_unfolding_all rfl); intro tk9)))
local macro_rules | `(tactic| walk_at "compareOp In str ref") => `(tactic| ((with_reducible show wpAny _ _ (compareOp _ (Value.str _ _) (Value.ref _)) _ _ _); k_dflt (refine' in_dict ?N ?hm ?lo _ ?hb ?_; (case N => k_asm); (case hm => k_mem); (case lo => assumption); (case hb => assumption); intro tk9)))
local macro_rules | `(tactic| walk_at "binaryOp Add ref ref") => `(tactic| (k_dflt (refine' concat_lists ?F ?N ?ha ?hb ?hl ?_; (case F => k_asm); (case N => k_asm); (case ha => k_mem); (case hb => k_mem); (case hl => (simp only [List.length_cons, List.length_nil]; omega)); intro h' c' F' N' l1')))
section
def downs (ks : List Key) (xs : List (Key × Doc)) : List (List Key × Doc) := xs.map fun e => (ks ++ [e.1], e.2)
theorem downs_none {d : Doc} {ks : List Key} {xs : List Str} {i : Nat} {x : Str} (hx : xs[i]? = some x) (h : d.get (.name x) = none) : downs ks ((Step.names (xs.take (i + 1))).down d) = downs ks ((Step.names (xs.take i)).down d) := by
  rw [List.take_add_one, hx]; simp [downs, Step.down, h]
theorem downs_some {d e : Doc} {ks : List Key} {xs : List Str} {i : Nat} {x : Str} (hx : xs[i]? = some x) (h : d.get (.name x) = some e) : downs ks ((Step.names (xs.take (i + 1))).down d) = downs ks ((Step.names (xs.take i)).down d) ++ [(ks ++ [Key.name x], e)] := by
  rw [List.take_add_one, hx]; simp [downs, Step.down, h]
theorem downsI_none {d : Doc} {ks : List Key} {xs : List Int} {i : Nat} {x : Int} (hx : xs[i]? = some x) (h : d.get (.place x) = none) : downs ks ((Step.places (xs.take (i + 1))).down d) = downs ks ((Step.places (xs.take i)).down d) := by
  rw [List.take_add_one, hx]; simp [downs, Step.down, h]
theorem downsI_some {d e : Doc} {ks : List Key} {xs : List Int} {i : Nat} {x : Int} (hx : xs[i]? = some x) (h : d.get (.place x) = some e) : downs ks ((Step.places (xs.take (i + 1))).down d) = downs ks ((Step.places (xs.take i)).down d) ++ [(ks ++ [Key.place x], e)] := by
  rw [List.take_add_one, hx]; simp [downs, Step.down, h]
section
variable {w : World} {p : Program} {loose : List Str} {mean : ExcName → Option Value} {mg mb : Str → Option Value}
theorem down_names_dict {xs : List Str} {ks : List Key} {a : Addr} {es : List (Str × Tok × Doc)} (hk : ks.length ≤ 10) : Spec w p loose mean mg mb 800 20 200
    (fun (_ : Unit) news args => ∃ sv kv vs n, args = ⟨[sv, .ref kv, .ref a], []⟩ ∧ StepIn w news sv (.names xs) ∧ (kv, lstO vs n) ∈ news ∧ Paired KeyVal vs ks ∧ DocIn w news (.dict a es))
    (fun _ news r => ∃ b ms n, r = .ref b ∧ (b, lstO ms n) ∈ news ∧ MatchesIn w news ms (downs ks ((Step.names xs).down (.dict a es)))) := by
  intro dp un gd base fr g news s args R x0 G hdp hun hgn hpre ret
  obtain ⟨sv, kv, vs, n, rfl, hs, hkv, hks, hd⟩ := hpre
  have KB := G.kb
  have TB := G.tb
  revert KB
  k_fill
  intro KB
  dsimp only at ret
  have hd0 := hd
  cases hd with
  | dict e1 e0 e2 e3 e4 e5 =>
  cases hs with
  | names h1 h2 h3 h4 h5 h6 =>
  k_dflt walk_at "m_enterC"
  try k_fold
  walk_at "m_go"
  k_dflt (refine' listI (fun M i ys => MatchesIn w M ys (downs ks ((Step.names (xs.take i)).down (.dict a es)))) ?zF ?zB ?zXB ?zTB ?zD ?zN ?zb ?zhh ?zhm ?zhcell ?zkd ?zhx ?zlen ?zI ?zEA ?zfin; (case zF => k_asm); (case zB => k_asm); (case zXB => assumption); (case zTB => assumption); (case zD => k_asm); (case zN => k_asm); (case zb => assumption); (case zhh => exact rfl); (case zhm => k_mem); (case zhcell => decide); (case zkd => exact rfl); (case zhx => exact rfl))
  case zlen =>
    intro M i ys h9
    have e1 := h9.length
    have e2 : (downs ks ((Step.names (xs.take i)).down (.dict a es))).length ≤ (xs.take i).length := by simp only [downs, List.length_map, Step.down]; exact List.length_filterMap_le _ _
    rw [List.length_take] at e2
    exact Nat.le_trans (show ys.length ≤ 2 by omega) (by decide)
  case zI => exact fun M => .nil
  case zEA =>
    intro i own C oC D mc h gn tk g2 ys tl Q Z E' hi hB hO F' N' B' X' TP' D' b' hI ord hH kQ kZ
    obtain ⟨v, hv, hmc⟩ := hB
    obtain ⟨x, t, rfl, hx⟩ := strsAt h3 hv
    have hkl : vs.length + 1 ≤ 100 := by have := hks.length; omega
    refine wpAny_tests_one ?_
    cases hg : (Doc.dict a es).get (.name x) with
    | none =>
      have hgb : ((Doc.dict a es).get (.name x)).isSome = false := by rw [hg]; rfl
      walk_at "m_go"
      (refine' hands_end ?zk ?ze1 ?ze2 ?zT ?zF ?zN ?zB ?zD ?zb ?zS ?_; (case zk => assumption); (case ze1 => exact rfl); (case ze2 => exact rfl); (case zF => k_asm); (case zN => k_asm); (case zB => k_asm); (case zD => k_asm); (case zT => walk_at "m_turn"); (case zb => assumption); (case zS => walk_at "m_split"))
      intro hM
      dsimp only
      rw [downs_none hx hg]
      exact hI.mono (by walk_at "m_sub")
    | some e =>
      have hgb : ((Doc.dict a es).get (.name x)).isSome = true := by rw [hg]; rfl
      walk_at "m_go"
      (refine' hands_end ?zk ?ze1 ?ze2 ?zT ?zF ?zN ?zB ?zD ?zb ?zS ?_; (case zk => assumption); (case ze1 => exact rfl); (case ze2 => exact rfl); (case zF => k_asm); (case zN => k_asm); (case zB => k_asm); (case zD => k_asm); (case zT => walk_at "m_turn"); (case zb => assumption); (case zS => walk_at "m_split"))
      intro hM
      dsimp only
      rw [downs_some hx hg]
      exact Paired.snoc (hI.mono (by walk_at "m_sub")) (.mk (by k_mem) (by k_mem) (Paired.snoc hks .name) ((hd0.get hg).mono (by walk_at "m_sub")))
  case zfin =>
    refine' blockEnd_e ?_
    intro D2 g3 h3' gn3 tk3 zs tl3 T' F' N' B' D' b' hlt2 ord2 hZ
    walk_at "m_fin"
    intro hM
    rw [List.take_of_length_le (Nat.le_of_eq (strsLen h3).symm)] at hZ
    exact ⟨D2, zs, _, rfl, hM _ (by k_mem), hZ.mono fun q hq => hM q (by (revert q; walk_at "m_sub"))⟩
end
end
section
section
variable {w : World} {p : Program} {loose : List Str} {mean : ExcName → Option Value} {mg mb : Str → Option Value}
theorem down_names_other {ks : List Key} {xs : List Str} {d : Doc} (hq : d.isDict = false) (hk : ks.length ≤ 10) : Spec w p loose mean mg mb 800 20 200
    (fun (_ : Unit) news args => ∃ sv kv vs n, args = ⟨[sv, .ref kv, d.val], []⟩ ∧ StepIn w news sv (.names xs) ∧ (kv, lstO vs n) ∈ news ∧ Paired KeyVal vs ks ∧ DocIn w news d)
    (fun _ news r => ∃ b ms n, r = .ref b ∧ (b, lstO ms n) ∈ news ∧ MatchesIn w news ms (downs ks (((.names xs) : Step).down d))) := by
  intro dp un gd base fr g news s args R x0 G hdp hun hgn hpre ret
  obtain ⟨sv, kv, vs, n, rfl, hs, hkv, hks, hd⟩ := hpre
  have KB := G.kb
  have TB := G.tb
  revert KB
  k_fill
  intro KB
  dsimp only at ret
  cases hs with
  | names h1 h2 h3 h4 h5 h6 =>
  k_dflt walk_at "m_enterC"
  try k_fold
  walk_at "m_go"
  k_dflt (refine' listI (fun M i ys => MatchesIn w M ys (downs ks ((Step.names (xs.take i)).down d))) ?zF ?zB ?zXB ?zTB ?zD ?zN ?zb ?zhh ?zhm ?zhcell ?zkd ?zhx ?zlen ?zI ?zEA ?zfin; (case zF => k_asm); (case zB => k_asm); (case zXB => assumption); (case zTB => assumption); (case zD => k_asm); (case zN => k_asm); (case zb => assumption); (case zhh => exact rfl); (case zhm => k_mem); (case zhcell => decide); (case zkd => exact rfl); (case zhx => exact rfl))
  case zlen =>
    intro M i ys h9
    have e1 := h9.length
    have e2 : (downs ks ((Step.names (xs.take i)).down d)).length ≤ (xs.take i).length := by simp only [downs, List.length_map, Step.down]; exact List.length_filterMap_le _ _
    rw [List.length_take] at e2
    exact Nat.le_trans (show ys.length ≤ 2 by omega) (by decide)
  case zI => exact fun M => .nil
  case zEA =>
    intro i own C oC D mc h gn tk g2 ys tl Q Z E' hi hB hO F' N' B' X' TP' D' b' hI ord hH kQ kZ
    obtain ⟨v, hv, hmc⟩ := hB
    obtain ⟨x, t, rfl, hx⟩ := strsAt h3 hv
    have hkl : vs.length + 1 ≤ 100 := by have := hks.length; omega
    refine wpAny_tests_one ?_
    have hg : d.get (.name x) = none := by cases d <;> first | rfl | cases hq
    walk_at "m_go"
    (refine' hands_end ?zk ?ze1 ?ze2 ?zT ?zF ?zN ?zB ?zD ?zb ?zS ?_; (case zk => assumption); (case ze1 => exact rfl); (case ze2 => exact rfl); (case zF => k_asm); (case zN => k_asm); (case zB => k_asm); (case zD => k_asm); (case zT => walk_at "m_turn"); (case zb => assumption); (case zS => walk_at "m_split"))
    intro hM
    dsimp only
    rw [downs_none hx hg]
    exact hI.mono (by walk_at "m_sub")
  case zfin =>
    refine' blockEnd_e ?_
    intro D2 g3 h3' gn3 tk3 zs tl3 T' F' N' B' D' b' hlt2 ord2 hZ
    walk_at "m_fin"
    intro hM
    rw [List.take_of_length_le (Nat.le_of_eq (strsLen h3).symm)] at hZ
    exact ⟨D2, zs, _, rfl, hM _ (by k_mem), hZ.mono fun q hq => hM q (by (revert q; walk_at "m_sub"))⟩
theorem down_places_other {ks : List Key} {xs : List Int} {d : Doc} (hq : d.isList = false) (hk : ks.length ≤ 10) : Spec w p loose mean mg mb 800 20 200
    (fun (_ : Unit) news args => ∃ sv kv vs n, args = ⟨[sv, .ref kv, d.val], []⟩ ∧ StepIn w news sv (.places xs) ∧ (kv, lstO vs n) ∈ news ∧ Paired KeyVal vs ks ∧ DocIn w news d)
    (fun _ news r => ∃ b ms n, r = .ref b ∧ (b, lstO ms n) ∈ news ∧ MatchesIn w news ms (downs ks (((.places xs) : Step).down d))) := by
  intro dp un gd base fr g news s args R x0 G hdp hun hgn hpre ret
  obtain ⟨sv, kv, vs, n, rfl, hs, hkv, hks, hd⟩ := hpre
  have KB := G.kb
  have TB := G.tb
  revert KB
  k_fill
  intro KB
  dsimp only at ret
  cases hs with
  | places h1 h2 h3 h4 h5 h6 =>
  k_dflt walk_at "m_enterC"
  try k_fold
  walk_at "m_go"
  k_dflt (refine' listI (fun M i ys => MatchesIn w M ys (downs ks ((Step.places (xs.take i)).down d))) ?zF ?zB ?zXB ?zTB ?zD ?zN ?zb ?zhh ?zhm ?zhcell ?zkd ?zhx ?zlen ?zI ?zEA ?zfin; (case zF => k_asm); (case zB => k_asm); (case zXB => assumption); (case zTB => assumption); (case zD => k_asm); (case zN => k_asm); (case zb => assumption); (case zhh => exact rfl); (case zhm => k_mem); (case zhcell => decide); (case zkd => exact rfl); (case zhx => exact rfl))
  case zlen =>
    intro M i ys h9
    have e1 := h9.length
    have e2 : (downs ks ((Step.places (xs.take i)).down d)).length ≤ (xs.take i).length := by simp only [downs, List.length_map, Step.down]; exact List.length_filterMap_le _ _
    rw [List.length_take] at e2
    exact Nat.le_trans (show ys.length ≤ 2 by omega) (by decide)
  case zI => exact fun M => .nil
  case zEA =>
    intro i own C oC D mc h gn tk g2 ys tl Q Z E' hi hB hO F' N' B' X' TP' D' b' hI ord hH kQ kZ
    obtain ⟨v, hv, hmc⟩ := hB
    obtain ⟨x, t, rfl, hx⟩ := intsAt h3 hv
    have hkl : vs.length + 1 ≤ 100 := by have := hks.length; omega
    refine wpAny_tests_one ?_
    have hg : d.get (.place x) = none := place_nolist hq
    walk_at "m_go"
    (refine' hands_end ?zk ?ze1 ?ze2 ?zT ?zF ?zN ?zB ?zD ?zb ?zS ?_; (case zk => assumption); (case ze1 => exact rfl); (case ze2 => exact rfl); (case zF => k_asm); (case zN => k_asm); (case zB => k_asm); (case zD => k_asm); (case zT => walk_at "m_turn"); (case zb => assumption); (case zS => walk_at "m_split"))
    intro hM
    dsimp only
    rw [downsI_none hx hg]
    exact hI.mono (by walk_at "m_sub")
  case zfin =>
    refine' blockEnd_e ?_
    intro D2 g3 h3' gn3 tk3 zs tl3 T' F' N' B' D' b' hlt2 ord2 hZ
    walk_at "m_fin"
    intro hM
    rw [List.take_of_length_le (Nat.le_of_eq (intsLen h3).symm)] at hZ
    exact ⟨D2, zs, _, rfl, hM _ (by k_mem), hZ.mono fun q hq => hM q (by (revert q; walk_at "m_sub"))⟩
end
end
section
section
variable {w : World} {p : Program} {loose : List Str} {mean : ExcName → Option Value} {mg mb : Str → Option Value}
theorem down_places_list {ks : List Key} {xs : List Int} {d : Doc} (hq : d.isList = true) (hk : ks.length ≤ 10) : Spec w p loose mean mg mb 800 20 200
    (fun (_ : Unit) news args => ∃ sv kv vs n, args = ⟨[sv, .ref kv, d.val], []⟩ ∧ StepIn w news sv (.places xs) ∧ (kv, lstO vs n) ∈ news ∧ Paired KeyVal vs ks ∧ DocIn w news d)
    (fun _ news r => ∃ b ms n, r = .ref b ∧ (b, lstO ms n) ∈ news ∧ MatchesIn w news ms (downs ks (((.places xs) : Step).down d))) := by
  intro dp un gd base fr g news s args R x0 G hdp hun hgn hpre ret
  obtain ⟨sv, kv, vs, n, rfl, hs, hkv, hks, hd⟩ := hpre
  have KB := G.kb
  have TB := G.tb
  revert KB
  k_fill
  intro KB
  dsimp only at ret
  cases hs with
  | places h1 h2 h3 h4 h5 h6 =>
  k_dflt walk_at "m_enterC"
  try k_fold
  walk_at "m_go"
  k_dflt (refine' listI (fun M i ys => MatchesIn w M ys (downs ks ((Step.places (xs.take i)).down d))) ?zF ?zB ?zXB ?zTB ?zD ?zN ?zb ?zhh ?zhm ?zhcell ?zkd ?zhx ?zlen ?zI ?zEA ?zfin; (case zF => k_asm); (case zB => k_asm); (case zXB => assumption); (case zTB => assumption); (case zD => k_asm); (case zN => k_asm); (case zb => assumption); (case zhh => exact rfl); (case zhm => k_mem); (case zhcell => decide); (case zkd => exact rfl); (case zhx => exact rfl))
  case zlen =>
    intro M i ys h9
    have e1 := h9.length
    have e2 : (downs ks ((Step.places (xs.take i)).down d)).length ≤ (xs.take i).length := by simp only [downs, List.length_map, Step.down]; exact List.length_filterMap_le _ _
    rw [List.length_take] at e2
    exact Nat.le_trans (show ys.length ≤ 2 by omega) (by decide)
  case zI => exact fun M => .nil
  case zEA =>
    intro i own C oC D mc h gn tk g2 ys tl Q Z E' hi hB hO F' N' B' X' TP' D' b' hI ord hH kQ kZ
    obtain ⟨v, hv, hmc⟩ := hB
    obtain ⟨x, t, rfl, hx⟩ := intsAt h3 hv
    have hkl : vs.length + 1 ≤ 100 := by have := hks.length; omega
    refine wpAny_tests_one ?_
    walk_at "m_go"
    · (refine' hands_end ?zk ?ze1 ?ze2 ?zT ?zF ?zN ?zB ?zD ?zb ?zS ?_; (case zk => assumption); (case ze1 => exact rfl); (case ze2 => exact rfl); (case zF => k_asm); (case zN => k_asm); (case zB => k_asm); (case zD => k_asm); (case zT => walk_at "m_turn"); (case zb => assumption); (case zS => walk_at "m_split"))
      intro hM
      dsimp only
      rw [downsI_some hx (by assumption)]
      exact Paired.snoc (hI.mono (by walk_at "m_sub")) (.mk (by k_mem) (by k_mem) (Paired.snoc hks .place) ((DocIn.get hd (by assumption)).mono (by walk_at "m_sub")))
    · (refine' hands_end ?zk ?ze1 ?ze2 ?zT ?zF ?zN ?zB ?zD ?zb ?zS ?_; (case zk => assumption); (case ze1 => exact rfl); (case ze2 => exact rfl); (case zF => k_asm); (case zN => k_asm); (case zB => k_asm); (case zD => k_asm); (case zT => walk_at "m_turn"); (case zb => assumption); (case zS => walk_at "m_split"))
      intro hM
      dsimp only
      rw [downsI_none hx (place_none hq (by omega))]
      exact hI.mono (by walk_at "m_sub")
    · (refine' hands_end ?zk ?ze1 ?ze2 ?zT ?zF ?zN ?zB ?zD ?zb ?zS ?_; (case zk => assumption); (case ze1 => exact rfl); (case ze2 => exact rfl); (case zF => k_asm); (case zN => k_asm); (case zB => k_asm); (case zD => k_asm); (case zT => walk_at "m_turn"); (case zb => assumption); (case zS => walk_at "m_split"))
      intro hM
      dsimp only
      rw [downsI_none hx (place_none hq (by omega))]
      exact hI.mono (by walk_at "m_sub")
  case zfin =>
    refine' blockEnd_e ?_
    intro D2 g3 h3' gn3 tk3 zs tl3 T' F' N' B' D' b' hlt2 ord2 hZ
    walk_at "m_fin"
    intro hM
    rw [List.take_of_length_le (Nat.le_of_eq (intsLen h3).symm)] at hZ
    exact ⟨D2, zs, _, rfl, hM _ (by k_mem), hZ.mono fun q hq => hM q (by (revert q; walk_at "m_sub"))⟩
end
end
section
theorem downs_dict {ks : List Key} {a : Addr} {es : List (Str × Tok × Doc)} : downs ks (Step.all.down (.dict a es)) = es.map fun e => (ks ++ [Key.name e.1], e.2.2) := by
  simp [downs, Step.down, List.map_map, Function.comp_def]
theorem downs_list {d : Doc} {ks : List Key} (hl : d.isList = true) : downs ks (Step.all.down d) = d.items.zipIdx.map fun e => (ks ++ [Key.place (e.2 : Int)], e.1) := by
  cases d with
  | leaf | dict => cases hl
  | list a xs => simp [downs, Step.down, Doc.items, List.map_map, Function.comp_def]
theorem downs_leaf {d : Doc} {ks : List Key} (hl : d.isList = false) (hq : d.isDict = false) : downs ks (Step.all.down d) = [] := by
  cases d with
  | leaf => rfl
  | list => cases hl
  | dict => cases hq
theorem place_nodict {d : Doc} (hl : d.isList = true) : d.isDict = false := by cases d <;> first | rfl | cases hl
local macro_rules | `(tactic| walk_at "call type:enumerate") => `(tactic| ((with_reducible show wpAny _ _ (call _ [Doc.val _]) _ _ _); k_dflt (refine' call_enum_doc ?F ?N ?hd ?hl ?_; (case F => k_asm); (case N => k_asm); (case hd => walk_at "m_doc"); (case hl => assumption); intro h' e' it' oi' al' n' hm' hoi' F' N' l1' l2')))
section
variable {w : World} {p : Program} {loose : List Str} {mean : ExcName → Option Value} {mg mb : Str → Option Value}
theorem down_all_dict {ks : List Key} {a : Addr} {es : List (Str × Tok × Doc)} (hk : ks.length ≤ 10) : Spec w p loose mean mg mb 800 20 200
    (fun (_ : Unit) news args => ∃ sv kv vs n, args = ⟨[sv, .ref kv, .ref a], []⟩ ∧ StepIn w news sv .all ∧ (kv, lstO vs n) ∈ news ∧ Paired KeyVal vs ks ∧ DocIn w news (.dict a es))
    (fun _ news r => ∃ b ms n, r = .ref b ∧ (b, lstO ms n) ∈ news ∧ MatchesIn w news ms (downs ks (Step.all.down (.dict a es)))) := by
  intro dp un gd base fr g news s args R x0 G hdp hun hgn hpre ret
  obtain ⟨sv, kv, vs, n, rfl, hs, hkv, hks, hd⟩ := hpre
  have KB := G.kb
  have TB := G.tb
  revert KB
  k_fill
  intro KB
  dsimp only at ret
  have hd0 := hd
  cases hd with
  | dict e1 e0 e2 e3 e4 e5 =>
  cases hs with
  | all h1 h2 =>
  k_dflt walk_at "m_enterC"
  try k_fold
  walk_at "m_go"
  k_dflt (refine' dictI (fun M i ys => MatchesIn w M ys ((es.map fun e => (ks ++ [Key.name e.1], e.2.2)).take i)) ?zF ?zB ?zXB ?zTB ?zD ?zN ?zb ?zhh ?znd ?zlo ?zhm ?zhcell ?zkd ?zhx ?zlen ?zI ?zEA ?zfin; (case zF => k_asm); (case zB => k_asm); (case zXB => assumption); (case zTB => assumption); (case zD => k_asm); (case zN => k_asm); (case zb => assumption); (case zhh => exact rfl); (case znd => assumption); (case zlo => assumption); (case zhm => k_mem); (case zhcell => decide); (case zkd => exact rfl); (case zhx => exact rfl))
  case zlen =>
    intro M i ys h9
    rw [h9.length, List.length_take, List.length_map]
    exact Nat.le_trans (Nat.min_le_right _ _) (Nat.le_trans e2 (by decide))
  case zI => exact fun M => .nil
  case zEA =>
    intro i own C oC D mc h gn tk g2 ys tl Q Z E' hi hB hO F' N' B' X' TP' D' b' hI ord hH kQ kZ
    obtain ⟨e, t, he, hmc⟩ := hB
    have hg := name_at (a := a) e3 he
    have hkl : vs.length + 1 ≤ 100 := by have := hks.length; omega
    refine wpAny_tests_nil ?_
    simp only [if_true]
    walk_at "m_go"
    (refine' hands_end ?zk ?ze1 ?ze2 ?zT ?zF ?zN ?zB ?zD ?zb ?zS ?_; (case zk => assumption); (case ze1 => exact rfl); (case ze2 => exact rfl); (case zF => k_asm); (case zN => k_asm); (case zB => k_asm); (case zD => k_asm); (case zT => walk_at "m_turn"); (case zb => assumption); (case zS => walk_at "m_split"))
    intro hM
    dsimp only
    rw [dict_take he]
    exact Paired.snoc (hI.mono (by walk_at "m_sub")) (.mk (by k_mem) (by k_mem) (Paired.snoc hks .name) ((hd0.get hg).mono (by walk_at "m_sub")))
  case zfin =>
    refine' blockEnd_e ?_
    intro D2 g3 h3' gn3 tk3 zs tl3 T' F' N' B' D' b' hlt2 ord2 hZ
    walk_at "m_fin"
    intro hM
    rw [List.take_of_length_le (by simp)] at hZ
    rw [downs_dict]
    exact ⟨D2, zs, _, rfl, hM _ (by k_mem), hZ.mono fun q hq => hM q (by (revert q; walk_at "m_sub"))⟩
theorem down_all_list {ks : List Key} {d : Doc} (hl : d.isList = true) (hk : ks.length ≤ 10) : Spec w p loose mean mg mb 800 20 200
    (fun (_ : Unit) news args => ∃ sv kv vs n, args = ⟨[sv, .ref kv, d.val], []⟩ ∧ StepIn w news sv .all ∧ (kv, lstO vs n) ∈ news ∧ Paired KeyVal vs ks ∧ DocIn w news d)
    (fun _ news r => ∃ b ms n, r = .ref b ∧ (b, lstO ms n) ∈ news ∧ MatchesIn w news ms (downs ks (Step.all.down d))) := by
  intro dp un gd base fr g news s args R x0 G hdp hun hgn hpre ret
  obtain ⟨sv, kv, vs, n, rfl, hs, hkv, hks, hd⟩ := hpre
  have KB := G.kb
  have TB := G.tb
  revert KB
  k_fill
  intro KB
  dsimp only at ret
  have hdd := place_nodict hl
  cases hs with
  | all h1 h2 =>
  k_dflt walk_at "m_enterC"
  try k_fold
  walk_at "m_go"
  k_dflt (refine' enumI (fun M i ys => MatchesIn w M ys ((d.items.zipIdx.map fun e => (ks ++ [Key.place (e.2 : Int)], e.1)).take i)) ?zF ?zB ?zXB ?zTB ?zD ?zN ?zb ?zhh ?zoi ?zl1 ?zl2 ?zhm ?zhcell ?zkd ?zhx1 ?zhx2 ?zhxx ?zlen ?zI ?zEA ?zfin; (case zF => k_asm); (case zB => k_asm); (case zXB => assumption); (case zTB => assumption); (case zD => k_asm); (case zN => k_asm); (case zb => assumption); (case zhh => exact rfl); (case zoi => assumption); (case zl1 => assumption); (case zl2 => assumption); (case zhm => assumption); (case zhcell => decide); (case zkd => exact rfl); (case zhx1 => exact rfl); (case zhx2 => exact rfl); (case zhxx => decide))
  case zlen =>
    intro M i ys h9
    have e1 := h9.length
    obtain ⟨_, _, _, _, e3⟩ := list_doc hd hl
    rw [e1, List.length_take, List.length_map, List.length_zipIdx]
    exact Nat.le_trans (Nat.min_le_right _ _) (Nat.le_trans e3 (by decide))
  case zI => exact fun M => .nil
  case zEA =>
    intro i own C oC D mc h gn tk g2 ys tl Q Z E' hi hB hO F' N' B' X' TP' D' b' hI ord hH kQ kZ
    obtain ⟨t, v, hv, hm1, hm2⟩ := hB
    obtain ⟨e, he, rfl⟩ : ∃ e, d.items[i]? = some e ∧ e.val = v := by simpa [List.getElem?_map] using hv
    have hg := place_at hl he
    have hkl : vs.length + 1 ≤ 100 := by have := hks.length; omega
    refine wpAny_tests_nil ?_
    simp only [if_true]
    walk_at "m_go"
    (refine' hands_end ?zk ?ze1 ?ze2 ?zT ?zF ?zN ?zB ?zD ?zb ?zS ?_; (case zk => assumption); (case ze1 => exact rfl); (case ze2 => exact rfl); (case zF => k_asm); (case zN => k_asm); (case zB => k_asm); (case zD => k_asm); (case zT => walk_at "m_turn"); (case zb => assumption); (case zS => walk_at "m_split"))
    intro hM
    dsimp only
    rw [wild_take he]
    exact Paired.snoc (hI.mono (by walk_at "m_sub")) (.mk (by k_mem) (by k_mem) (Paired.snoc hks .place) ((hd.get hg).mono (by walk_at "m_sub")))
  case zfin =>
    refine' blockEnd_e ?_
    intro D2 g3 h3' gn3 tk3 zs tl3 T' F' N' B' D' b' hlt2 ord2 hZ
    walk_at "m_fin"
    intro hM
    rw [List.take_of_length_le (by simp)] at hZ
    rw [downs_list hl]
    exact ⟨D2, zs, _, rfl, hM _ (by k_mem), hZ.mono fun q hq => hM q (by (revert q; walk_at "m_sub"))⟩
theorem down_all_none {ks : List Key} {d : Doc} (hl : d.isList = false) (hq : d.isDict = false) (hk : ks.length ≤ 10) : Spec w p loose mean mg mb 800 20 200
    (fun (_ : Unit) news args => ∃ sv kv vs n, args = ⟨[sv, .ref kv, d.val], []⟩ ∧ StepIn w news sv .all ∧ (kv, lstO vs n) ∈ news ∧ Paired KeyVal vs ks ∧ DocIn w news d)
    (fun _ news r => ∃ b ms n, r = .ref b ∧ (b, lstO ms n) ∈ news ∧ MatchesIn w news ms (downs ks (Step.all.down d))) := by
  intro dp un gd base fr g news s args R x0 G hdp hun hgn hpre ret
  obtain ⟨sv, kv, vs, n, rfl, hs, hkv, hks, hd⟩ := hpre
  have KB := G.kb
  have TB := G.tb
  revert KB
  k_fill
  intro KB
  dsimp only at ret
  cases hs with
  | all h1 h2 =>
  k_dflt walk_at "m_enterC"
  try k_fold
  walk_at "m_go"
  walk_at "m_fin"
  intro hM
  rw [downs_leaf hl hq]
  exact ⟨_, [], _, rfl, hM _ (by k_mem), .nil⟩
end
end
section
section
variable {w : World} {p : Program} {loose : List Str} {mean : ExcName → Option Value} {mg mb : Str → Option Value}
  {A A₀ : Around} {base h₀ : Heap} {env : Env} {outer : List Env} {L : Addr} {m : Str → Option Value} {news M : Led} {s : Shared} {Q E : Value → Shared → Prop}
theorem down_spec {st : Step} {ks : List Key} {d : Doc} (hk : ks.length ≤ 10) : Spec w p loose mean mg mb 800 20 200
    (fun (_ : Unit) news args => ∃ sv kv vs n, args = ⟨[sv, .ref kv, d.val], []⟩ ∧ StepIn w news sv st ∧ (kv, lstO vs n) ∈ news ∧ Paired KeyVal vs ks ∧ DocIn w news d)
    (fun _ news r => ∃ b ms n, r = .ref b ∧ (b, lstO ms n) ∈ news ∧ MatchesIn w news ms (downs ks (st.down d))) := by
  cases st with
  | names xs =>
    cases hq : d.isDict with
    | false => exact down_names_other hq hk
    | true => cases d with
      | leaf | list => cases hq
      | dict => exact down_names_dict hk
  | places xs =>
    cases hq : d.isList with
    | false => exact down_places_other hq hk
    | true => exact down_places_list hq hk
  | all =>
    cases hl : d.isList with
    | true => exact down_all_list hl hk
    | false =>
      cases hq : d.isDict with
      | false => exact down_all_none hl hq hk
      | true => cases d with
        | leaf | list => cases hq
        | dict => exact down_all_dict hk
theorem use_down {st : Step} {ks : List Key} {d : Doc} {sv : Value} {kv : Addr} {vs : List Value} {n : Nat} (hk : ks.length ≤ 10) (F : Fr h₀ L s.heap m) (B : Below A₀ base outer h₀) (XB : (hd.heap_1 w.params).In base) (TB : Top p loose mean mg mb base) (D : KtsDicts (outer.filterMap (·.frame)) h₀)
    (N : News h₀ L s.heap M) (sub : ∀ q ∈ news, q ∈ M) (hA : A.frames = some (env :: outer)) (hf : env.frame = some L) (hke : env.scope.kind = .function) (hh : A.handled = none) (hdp : A.depth + 20 < recursionLimit) (hu : A.units + 200 < cLine)
    (hb : AllBare s.gens) (hs : StepIn w news sv st) (hkv : (kv, lstO vs n) ∈ news) (hks : Paired KeyVal vs ks) (hd : DocIn w news d)
    (k : Comes w p loose mean mg mb A₀ base outer L m h₀ M s Q (fun tl r => ∃ b ms n, r = .ref b ∧ (b, lstO ms n) ∈ news ++ tl ∧ MatchesIn w (news ++ tl) ms (downs ks (st.down d)))) : wpAny (model Challenge.rw_bm0005_01.row.prog w) A (call (.ref 800) [sv, .ref kv, d.val]) Q E s :=
  (down_spec hk).call F B XB TB D N sub hA hf hke hh hdp hu hb () ⟨sv, kv, vs, n, rfl, hs, hkv, hks, hd⟩ k
end
end
section
-- a loop whose target is a cell
section
variable {w : World} {p : Program} {loose : List Str} {mean : ExcName → Option Value} {mg mb : Str → Option Value}
  {A A₀ : Around} {h₀ g₁ base : Heap} {outer : List Env} {L : Addr} {m₁ : Str → Option Value} {s : Shared} {E : Value → Shared → Prop} {M news : Led}
/-- what a turn owes -/
def NextsC (A₀ : Around) (base : Heap) (outer : List Env) (L : Addr) (g : Heap) (J : Addr) (oJ : Obj) (c : Addr) (s : Shared) (Q : Flow → Shared → Prop) (Post : (Str → Option Value) → Led → Prop) : Prop :=
  ∀ m M h gn tk g' oc v₀, oc.data = .cell v₀ → KtsTurn (outer.filterMap (·.frame)) g g' → Fr g' L h m → News g' L h ((J, oJ) :: (c, oc) :: M) → Below A₀ base outer g' → KtsDicts (outer.filterMap (·.frame)) g' → AllBare gn → (∀ q ∈ M, q.1 ≠ J) → (∀ q ∈ M, q.1 ≠ c) → Post m M → Q .next ⟨h, gn, s.drawn, tk, s.os⟩
theorem nextsC_end {g g' h : Heap} {J c : Addr} {oJ oc : Obj} {v₀ : Option Value} {Q : Flow → Shared → Prop} {Post : (Str → Option Value) → Led → Prop} {m : Str → Option Value} {M M' : Led} {gn : Array GenState} {tk : Nat} {dr : Drawn} {os : OsState} (k : NextsC A₀ base outer L g J oJ c s Q Post) (e1 : s.drawn = dr) (e2 : s.os = os) (hc : oc.data = .cell v₀)
    (T : KtsTurn (outer.filterMap (·.frame)) g g') (F : Fr g' L h m) (N : News g' L h M') (B : Below A₀ base outer g') (D : KtsDicts (outer.filterMap (·.frame)) g') (hb : AllBare gn) (hs : ∀ q ∈ (J, oJ) :: (c, oc) :: M, q ∈ M') (off : ∀ q ∈ M, q.1 ≠ J) (offc : ∀ q ∈ M, q.1 ≠ c) (post : Post m M) : Q .next ⟨h, gn, dr, tk, os⟩ := e1 ▸ e2 ▸
  k m M h gn tk g' oc v₀ hc T F (fun q hq => N q (hs q hq)) B D hb off offc post
def TurnC (w : World) (p : Program) (loose : List Str) (mean : ExcName → Option Value) (mg mb : Str → Option Value) (A A₀ : Around) (base : Heap) (outer : List Env) (L : Addr) (g₁ : Heap) (body : List Stmt) (env : Env)
    (Bv : Nat → Value → Prop) (n : Nat) (c : Addr) (ns : List Str) (m₁ : Str → Option Value) (Kk : Nat → (Str → Option Value) → Led → Prop) (s : Shared) : Prop :=
  ∀ i v J oJ oc m M h gn tk g (Q : Flow → Shared → Prop) (E' : Value → Shared → Prop), i < n → Bv i v → Kk i m M → oc.data = .cell (some v) → KtsTurn (outer.filterMap (·.frame)) g₁ g → Fr g L h (spread ns m m₁) → News g L h ((J, oJ) :: (c, oc) :: M) → Below A₀ base outer g → (hd.heap_1 w.params).In g → Top p loose mean mg mb g → KtsDicts (outer.filterMap (·.frame)) g → AllBare gn → (∀ q ∈ M, q.1 ≠ J) → (∀ q ∈ M, q.1 ≠ c) →
    NextsC A₀ base outer L g J oJ c s Q (fun m' M' => (∀ z, z ∉ ns → m' z = m₁ z) ∧ Kk (i + 1) m' M') → wpAny (model Challenge.rw_bm0005_01.row.prog w) A (execs body env) Q E' ⟨h, gn, s.drawn, tk, s.os⟩
def LoopsC (A₀ : Around) (base : Heap) (outer : List Env) (L : Addr) (g₁ : Heap) (c : Addr) (s : Shared) (R : Result → Shared → Prop) (ns : List Str) (m₁ : Str → Option Value) (Post : (Str → Option Value) → Led → Prop) : Prop :=
  ∀ g h gn tk m M oc v₀, oc.data = .cell v₀ → KtsTurn (outer.filterMap (·.frame)) g₁ g → Fr g L h (spread ns m m₁) → News g L h ((c, oc) :: M) → Below A₀ base outer g → KtsDicts (outer.filterMap (·.frame)) g → AllBare gn → (∀ q ∈ M, q.1 ≠ c) → Post m M → R (.ok .next) ⟨h, gn, s.drawn, tk, s.os⟩

theorem for_coreC {target : Expr} {body : List Stmt} {env : Env} {J c : Addr} {fp : List Addr} {n : Nat} {P Md : Nat → Value → Heap → Prop} {St : Nat → Heap → Prop} {Bv : Nat → Value → Prop} {ns : List Str}
    {R : Result → Shared → Prop} {keep M₁ : Led} {Kk : Nat → (Str → Option Value) → Led → Prop} {oc₁ : Obj} {v₁ : Option Value} (XB : (hd.heap_1 w.params).In base) (TB : Top p loose mean mg mb base)
    (W : KTurns Challenge.rw_bm0005_01.row.prog w A target J fp [J] n P Md St) (hLe : env.locals = L) (hfp : ∀ b ∈ fp, b = J ∨ ∃ o, (b, o) ∈ keep) (hkeep : ∀ i m M, Kk i m M → ∀ q ∈ keep, q ∈ M) (hJo : ∀ i h, St i h → ∃ o, h.get? J = some o)
    (hassign : ∀ i v (s : Shared) (mc : Str → Option Value) oc v₀ (Q : Unit → Shared → Prop) (E : Value → Shared → Prop), P i v s.heap → (∀ q ∈ keep, s.heap.get? q.1 = some q.2) → s.heap.Ns L mc → s.heap.get? c = some oc → oc.data = .cell v₀ →
      (∀ h' tk oc', h'.Ns L mc → h'.get? c = some oc' → oc'.data = .cell (some v) → Bv i v → (∀ b o, b ≠ L → b ≠ c → s.heap.get? b = some o → h'.get? b = some o) → Q () { s with heap := h', toks := tk }) → wpAny (model Challenge.rw_bm0005_01.row.prog w) A (assign target env v) Q E s)
    (step : TurnC w p loose mean mg mb A A₀ base outer L g₁ body env Bv n c ns m₁ Kk s)
    (hst : St 0 s.heap) (S : Std A₀ base outer g₁ L m₁ g₁ s.heap s.gens ((c, oc₁) :: M₁)) (hcd : oc₁.data = .cell v₁) (hJL : J ≠ L) (hJc : J ≠ c) (hJ₀ : g₁.get? J = none) (off : ∀ q ∈ M₁, q.1 ≠ J) (offc : ∀ q ∈ M₁, q.1 ≠ c) (h0 : Kk 0 m₁ M₁)
    (hR : LoopsC A₀ base outer L g₁ c s R ns m₁ (Kk n)) :
    codeAny (model Challenge.rw_bm0005_01.row.prog w) A (.forLoop target (.ref J) body [] env) R s := by
  have hc₀ : g₁.get? c = none := (S.N _ List.mem_cons_self).2.2
  have hcL : c ≠ L := (S.N _ List.mem_cons_self).2.1
  refine codeAny_forLoop_any (fun k s' => ∃ h' gn tk i m M g oc v₀, s' = ⟨h', gn, s.drawn, tk, s.os⟩ ∧ i ≤ n ∧ k = n + 1 - i ∧ St i h' ∧ oc.data = .cell v₀ ∧ KtsTurn (outer.filterMap (·.frame)) g₁ g ∧ Std A₀ base outer g₁ L m g h' gn ((c, oc) :: M) ∧ (∀ q ∈ M, q.1 ≠ J) ∧ (∀ q ∈ M, q.1 ≠ c) ∧ (∀ z, z ∉ ns → m z = m₁ z) ∧ Kk i m M)
    ?_ (n + 1) ⟨s.heap, s.gens, s.toks, 0, m₁, M₁, g₁, oc₁, v₁, rfl, Nat.zero_le _, rfl, hst, hcd, .refl, S, off, offc, fun _ _ => rfl, h0⟩
  rintro k s' ⟨h', gn, tk, i, m, M, g, oc, v₀, rfl, hi, rfl, hst', hd', T', S', off', offc', hm', inv⟩
  have gJ : g.get? J = none := T'.none_ _ hJ₀
  have gc : g.get? c = none := T'.none_ _ hc₀
  have offJ : ∀ q ∈ (c, oc) :: M, q.1 ∉ [J] := fun q hq hb => by
    rcases List.mem_cons.mp hq with rfl | hq
    · exact hJc (List.mem_singleton.mp hb).symm
    · exact off' q hq (List.mem_singleton.mp hb)
  by_cases hlt : i < n
  · refine W.item i _ _ _ hlt hst' fun v h₂ tk₂ hMd hk₂ => ?_
    have S₂ := S'.but hk₂ (fun b hb => by rw [List.mem_singleton.mp hb]; exact gJ) (fun hb => hJL (List.mem_singleton.mp hb).symm) offJ
    refine W.go i v _ _ _ hMd fun h₃ hP hst₃ hk₃ => ?_
    have S₃ := S₂.but hk₃ (fun b hb => by rw [List.mem_singleton.mp hb]; exact gJ) (fun hb => hJL (List.mem_singleton.mp hb).symm) offJ
    refine hassign i v _ m oc v₀ _ _ hP (fun q hq => (S₃.N q (List.mem_cons_of_mem _ (hkeep _ _ _ inv q hq))).1) S₃.F.ns (S₃.N _ List.mem_cons_self).1 hd' fun h₄ tk₄ oc' hn₄ hc₄ hd₄ hB hk₄ => ?_
    have gL : g.get? L = none := kts_self S₃.F
    have hLf : L ∉ fp := fun hb => by
      rcases hfp _ hb with z | ⟨o, ho⟩
      · exact hJL z.symm
      · exact (S'.N _ (List.mem_cons_of_mem _ (hkeep _ _ _ inv _ ho))).2.1 rfl
    have hcf : c ∉ fp := fun hb => by
      rcases hfp _ hb with z | ⟨o, ho⟩
      · exact hJc z.symm
      · exact offc' _ (hkeep _ _ _ inv _ ho) rfl
    have F₄ : Fr g L h₄ (spread ns m m₁) := fr_congr ⟨hn₄, fun b o e => hk₄ b o (fun z => by rw [z, gL] at e; cases e) (fun z => by rw [z, gc] at e; cases e) (S₃.F.keep b o e), S₃.F.above⟩ (spread_eq hm')
    have hst₄ : St (i + 1) h₄ := W.frame _ _ _ hst₃ fun b hb o e => hk₄ b o (fun z => hLf (z ▸ hb)) (fun z => hcf (z ▸ hb)) e
    obtain ⟨oJ, heJ⟩ := hJo _ _ hst₄
    have N₄ : News g L h₄ ((J, oJ) :: (c, oc') :: M) := fun q hq => by
      rcases List.mem_cons.mp hq with rfl | hq
      · exact ⟨heJ, hJL, gJ⟩
      · rcases List.mem_cons.mp hq with rfl | hq
        · exact ⟨hc₄, hcL, gc⟩
        · exact ⟨hk₄ _ _ (S₃.N q (List.mem_cons_of_mem _ hq)).2.1 (offc' q hq) (S₃.N q (List.mem_cons_of_mem _ hq)).1, (S₃.N q (List.mem_cons_of_mem _ hq)).2⟩
    refine step i v J oJ oc' m M h₄ gn tk₄ g _ _ hlt hB inv hd₄ T' F₄ N₄ S₃.B (XB.keeps S₃.B.stays) (TB.keeps S₃.B.stays) S₃.D S₃.gens off' offc' ?_
    intro m₅ M₅ h₅ gn₅ tk₅ g₅ oc₅ v₅ hd₅ T₅ F₅ N₅ B₅ D₅ b₅ off₅ offc₅ inv₅
    refine ⟨n + 1 - (i + 1), by omega, h₅, gn₅, tk₅, i + 1, m₅, M₅, g₅, oc₅, v₅, rfl, hlt, rfl, ?_, hd₅, T'.trans T₅, ⟨T'.trans T₅, F₅, fun q hq => N₅ q (List.mem_cons_of_mem _ hq), B₅, D₅, b₅⟩, off₅, offc₅, inv₅⟩
    refine W.frame _ _ _ hst₄ fun b hb o e => ?_
    rcases hfp b hb with z | ⟨o', ho⟩
    · subst z
      rw [heJ] at e; cases e
      exact (N₅ _ List.mem_cons_self).1
    · have := (N₄ (b, o') (List.mem_cons_of_mem _ (List.mem_cons_of_mem _ (hkeep _ _ _ inv _ ho)))).1
      rw [this] at e; cases e
      exact (N₅ (b, o') (List.mem_cons_of_mem _ (List.mem_cons_of_mem _ (hkeep _ _ _ inv₅.2 _ ho)))).1
  · obtain rfl : i = n := Nat.le_antisymm hi (Nat.not_lt.mp hlt)
    refine W.done _ _ _ hst' fun h₂ tk₂ hk₂ => ?_
    have S₂ := S'.but hk₂ (fun b hb => by rw [List.mem_singleton.mp hb]; exact gJ) (fun hb => hJL (List.mem_singleton.mp hb).symm) offJ
    exact wpAny_execs_nil (hR g h₂ gn tk₂ m M oc v₀ hd' T' (fr_congr S₂.F (spread_eq hm')) S₂.N S₂.B S₂.D S₂.gens offc' inv)
end
section
variable {w : World} {p : Program} {loose : List Str} {mean : ExcName → Option Value} {mg mb : Str → Option Value}
  {A A₀ : Around} {g₁ base : Heap} {outer : List Env} {L : Addr} {m₁ : Str → Option Value} {s : Shared} {E : Value → Shared → Prop}
theorem forListC {x : Str} {px : Pos} {body : List Stmt} {env : Env} {M₁ : Led} (c : Addr) (ns : List Str) (Kk : Led → Nat → (Str → Option Value) → Led → Prop) {R : Result → Shared → Prop} {ax : Addr} {vs : List Value} {nn : Nat} {oc₁ : Obj} {v₁ : Option Value}
    (F : Fr g₁ L s.heap m₁) (B : Below A₀ base outer g₁) (XB : (hd.heap_1 w.params).In base) (TB : Top p loose mean mg mb base) (D : KtsDicts (outer.filterMap (·.frame)) g₁) (N : News g₁ L s.heap M₁) (hb : AllBare s.gens) (hh : A.handled = none)
    (hcm : (c, oc₁) ∈ M₁) (hcd : oc₁.data = .cell v₁) (hcl : env.cells.lookup x = some c)
    (M₂ : Led) (sub : ∀ q ∈ M₂, q ∈ M₁) (offc : ∀ q ∈ M₂, q.1 ≠ c) (hm : (ax, lstO vs nn) ∈ M₂) (hLe : env.locals = L) (hx : env.kindOf x = some .cell) (hk : env.scope.kind = .function)
    (hkeep : ∀ i m M, Kk M₂ i m M → (ax, lstO vs nn) ∈ M) (h0 : Kk M₂ 0 m₁ M₂)
    (step : TurnC w p loose mean mg mb A A₀ base outer L g₁ body env (fun i v => vs[i]? = some v) vs.length c ns m₁ (Kk M₂) s) (k : LoopsC A₀ base outer L g₁ c s R ns m₁ (Kk M₂ vs.length)) :
    wpAny (model Challenge.rw_bm0005_01.row.prog w) A (pyIter (.ref ax)) (fun it s₂ => codeAny (model Challenge.rw_bm0005_01.row.prog w) A (.forLoop (.Name x px) it body [] env) R s₂) E s := by
  subst hLe
  have hl := isList_of (N _ (sub _ hm)).1
  have hlt : ax < s.heap.objs.size := Heap.lt_size (N _ (sub _ hm)).1
  refine wpAny_pyIter_list hl ?_
  have up : ∀ b o, s.heap.get? b = some o → (s.heap.push { cls := .type "list_iterator", data := .fields #[.ref ax, .int 0 0] }).get? b = some o := fun b o e => Heap.get?_push_of_some _ e
  have N₂ : News g₁ env.locals s.heap ((c, oc₁) :: M₂) := fun q hq => by
    rcases List.mem_cons.mp hq with rfl | hq
    · exact N _ hcm
    · exact N _ (sub _ hq)
  have S₀ : Std A₀ base outer g₁ env.locals m₁ g₁ s.heap s.gens ((c, oc₁) :: M₂) := ⟨.refl, F, N₂, B, D, hb⟩
  refine for_coreC (c := c) (ns := ns) (s := { s with heap := s.heap.push { cls := .type "list_iterator", data := .fields #[.ref ax, .int 0 0] } }) (keep := [(ax, lstO vs nn)]) (Kk := Kk M₂) (Bv := fun i v => vs[i]? = some v) (n := vs.toArray.size) (m₁ := m₁) (M₁ := M₂) XB TB
    (KTurns.ofWalks (target := .Name x px) (Walks.list hh s.heap.objs.size ax (Nat.ne_of_lt hlt) vs.toArray) fun i v s' Q E _ hQ => wpAny_pure hQ) rfl
    (fun b hb => ?_) (fun i m M h q hq => by rw [List.mem_singleton.mp hq]; exact hkeep i m M h) (fun i h st => by obtain ⟨o, e, _⟩ := st.1; exact ⟨o, e⟩)
    (fun i v s' mc oc v₀ Q E hP _ hn hc₄ hd₄ kx => wpAny_assign_Name (wpAny_storeName_cell hk hx hcl ⟨oc, hc₄, hd₄⟩ fun h₂ hc₂ hs₂ => ?_))
    (fun i v J oJ oc m M h gn tk g Q E' hi => step i v J oJ oc m M h gn tk g Q E' (by simpa using hi)) ⟨⟨_, Heap.get?_push_size _ rfl, rfl, rfl⟩, hl.push _⟩ (S₀.grow up) hcd (Nat.ne_of_gt F.ns.lt) (Nat.ne_of_gt (Heap.lt_size (N _ hcm).1)) (next_is_new F) (fun q hq => Nat.ne_of_lt (Heap.lt_size (N q (sub q hq)).1)) offc h0
    (fun g h gn tk m M oc v₀ hd T F N B D b off inv => k g h gn tk m M oc v₀ hd T F N B D b off (by simpa using inv))
  · rcases List.mem_cons.mp hb with rfl | hb
    · exact .inl rfl
    · rw [List.mem_singleton.mp hb]; exact .inr ⟨_, List.mem_singleton.mpr rfl⟩
  · obtain ⟨oc', e₁, e₂⟩ := hc₂
    exact kx h₂ _ oc' (hn.at' fun o e => hs₂.extBut _ _ (fun z => by
      have := (N _ hcm).2.1
      exact this z.symm) e) e₁ e₂ (by simpa using hP) fun b o _ hb e => hs₂.extBut b o hb e
theorem forListC3 {x : Str} {px : Pos} {body : List Stmt} {env : Env} {a₁ a₂ a₃ : Addr × Obj} {M₂ : Led} {c : Addr} (ns : List Str) (Kk : Led → Nat → (Str → Option Value) → Led → Prop) {R : Result → Shared → Prop} {ax : Addr} {vs : List Value} {nn : Nat} {oc₁ : Obj} {v₁ : Option Value}
    (F : Fr g₁ L s.heap m₁) (B : Below A₀ base outer g₁) (XB : (hd.heap_1 w.params).In base) (TB : Top p loose mean mg mb base) (D : KtsDicts (outer.filterMap (·.frame)) g₁) (N : News g₁ L s.heap (a₁ :: a₂ :: a₃ :: (c, oc₁) :: M₂)) (hb : AllBare s.gens) (hh : A.handled = none)
    (hcd : oc₁.data = .cell v₁) (hcl : env.cells.lookup x = some c)
    (offc : ∀ q ∈ a₁ :: a₂ :: a₃ :: M₂, q.1 ≠ c) (hm : (ax, lstO vs nn) ∈ a₁ :: a₂ :: a₃ :: M₂) (hLe : env.locals = L) (hx : env.kindOf x = some .cell) (hk : env.scope.kind = .function)
    (hkeep : ∀ i m M, Kk (a₁ :: a₂ :: a₃ :: M₂) i m M → (ax, lstO vs nn) ∈ M) (h0 : Kk (a₁ :: a₂ :: a₃ :: M₂) 0 m₁ (a₁ :: a₂ :: a₃ :: M₂))
    (step : TurnC w p loose mean mg mb A A₀ base outer L g₁ body env (fun i v => vs[i]? = some v) vs.length c ns m₁ (Kk (a₁ :: a₂ :: a₃ :: M₂)) s) (k : LoopsC A₀ base outer L g₁ c s R ns m₁ (Kk (a₁ :: a₂ :: a₃ :: M₂) vs.length)) :
    wpAny (model Challenge.rw_bm0005_01.row.prog w) A (pyIter (.ref ax)) (fun it s₂ => codeAny (model Challenge.rw_bm0005_01.row.prog w) A (.forLoop (.Name x px) it body [] env) R s₂) E s :=
  forListC c ns Kk F B XB TB D N hb hh (by simp) hcd hcl (a₁ :: a₂ :: a₃ :: M₂) (fun q hq => by
    simp only [List.mem_cons] at hq ⊢
    rcases hq with h | h | h | h
    · exact .inl h
    · exact .inr (.inl h)
    · exact .inr (.inr (.inl h))
    · exact .inr (.inr (.inr (.inr h)))) offc hm hLe hx hk hkeep h0 step k
end
section
variable {w : World} {p : Program} {loose : List Str} {mean : ExcName → Option Value} {mg mb : Str → Option Value}
  {A A₀ : Around} {g₁ base : Heap} {outer : List Env} {L : Addr} {m : Str → Option Value} {s : Shared} {E : Value → Shared → Prop}
theorem nestPI {iter iter₂ : Expr} {x y x₂ : Str} {px py tp px₂ pe : Pos} {kk : Nat} {scope : Scope} {cl : List (Str × Addr)} {pos : Pos} {env : Env} {news : Led} (J : Led → Nat → List Value → Prop) {RR : Value → Addr → Result → Shared → Prop} {ax : Addr} {vs : List Value} {nn : Nat} {xys : List (Value × Value)}
    (B : Below A₀ base outer g₁) (F : Fr g₁ L s.heap m) (XB : (hd.heap_1 w.params).In base) (TB : Top p loose mean mg mb base) (Dk : KtsDicts (outer.filterMap (·.frame)) g₁) (N : News g₁ L s.heap news) (hb : AllBare s.gens) (hh : A.handled = none) (hA : A.mark none = A)
    (hs : ∀ C x, foldedSetIterable iter₂ (compEnvC scope cl C env) x = pure x)
    (hm : (ax, lstO vs nn) ∈ news) (hp : PairsIn news vs xys) (hcell : ∀ y ∈ scope.names, y.2 ≠ .cell) (hkind : scope.kind = .function) (hx : scope.names.lookup x = some .local) (hy : scope.names.lookup y = some .local) (hxy : x ≠ y) (hx₂ : scope.names.lookup x₂ = some .local) (hdb : (x₂ == ("__debug__" : Str)) = false)
    (hI : ∀ M, J M 0 [])
    (OA : OutAt w p loose mean mg mb A A₀ base outer g₁ L m iter₂ scope cl env (fun i mc => ∃ a b, xys[i]? = some (a, b) ∧ mc x = some a ∧ mc y = some b) vs.length news (fun i ys tl => J (news ++ tl) i ys) s)
    (fin : BlockEnd A₀ base outer L m g₁ news s vs.length (fun i ys tl => J (news ++ tl) i ys) RR) :
    wpAny (model Challenge.rw_bm0005_01.row.prog w) A (pyIter (.ref ax)) (fun it s₂ => wpAny (model Challenge.rw_bm0005_01.row.prog w) A (newList []) (fun acc s₃ => wpAny (model Challenge.rw_bm0005_01.row.prog w) A (newFunctionEnv scope env.globals cl [] env.qual none .none (some env)) (fun cenv s₄ =>
      codeAny (model Challenge.rw_bm0005_01.row.prog w) A (.compStart (.ListComp (.Name x₂ pe) [⟨.Tuple [.Name x px, .Name y py] kk tp, iter, [], 0⟩, ⟨.Name x₂ px₂, iter₂, [], 0⟩] scope pos) 0 it acc { cenv with scope := relabel scope env }) (RR acc cenv.locals) s₄) E s₃) E s₂) E s :=
  src_nestP B F XB TB Dk N hb hh hA hs hm hp hcell hkind hx hy hxy hx₂ hdb (hI _) OA fin
end
end
section
/-- the law's own walk -/
def turnOf (xs : List (List Key × Doc)) (s : Step) (i : Nat) : List (List Key × Doc) := (xs.take i).flatMap fun m => downs m.1 (s.down m.2)
def goStep (xs : List (List Key × Doc)) (s : Step) : List (List Key × Doc) := xs.flatMap fun m => downs m.1 (s.down m.2)
def walkOf (st : List Step) (d : Doc) : List (List Key × Doc) := st.foldl goStep [([], d)]
theorem walkOf_take {st : List Step} {i : Nat} {x : Step} {d : Doc} (h : st[i]? = some x) : walkOf (st.take (i + 1)) d = goStep (walkOf (st.take i) d) x := by
  rw [List.take_add_one, h]; simp [walkOf]
theorem turn_all {xs : List (List Key × Doc)} {s : Step} {i : Nat} (h : xs.length ≤ i) : turnOf xs s i = goStep xs s := by
  unfold turnOf goStep; rw [List.take_of_length_le h]
theorem turn_next {xs : List (List Key × Doc)} {s : Step} {i : Nat} {x : List Key × Doc} (h : xs[i]? = some x) : turnOf xs s (i + 1) = turnOf xs s i ++ downs x.1 (s.down x.2) := by
  unfold turnOf
  rw [List.take_add_one, h, List.flatMap_append]; simp
theorem downs_under {s : Step} {ks : List Key} {d : Doc} : downs ks (s.down d) = under ks (s.path.walk d) := by
  cases s <;> simp [downs, under, Step.path, Path.walk, Function.comp_def]
theorem step_width {w : World} {M : Led} {v : Value} {s : Step} (h : StepIn w M v s) : width s.path ≤ 3 := by
  cases h with
  | names _ _ _ _ _ h => exact Nat.le_trans h (by decide)
  | places _ _ _ _ _ h => exact Nat.le_trans h (by decide)
  | all => exact Nat.le_refl 3
theorem turn_len {w : World} {M : Led} {xs : List (List Key × Doc)} {s : Step} (hs : width s.path ≤ 3) (hd : ∀ x ∈ xs, DocIn w M x.2) (i : Nat) : (turnOf xs s i).length ≤ xs.length * 3 := by
  unfold turnOf
  refine Nat.le_trans (flat_len (b := 3) fun x hx => ?_) (Nat.mul_le_mul_right 3 (List.length_take_le' i _))
  rw [downs_under, under, List.length_map]
  exact Nat.le_trans (walk_len (hd x (List.mem_of_mem_take hx))) hs
theorem walkOf_doc {w : World} {M : Led} : ∀ {st : List Step} {xs : List (List Key × Doc)}, (∀ x ∈ xs, DocIn w M x.2) → ∀ x ∈ st.foldl goStep xs, DocIn w M x.2
  | [], _, h, x, hx => h x hx
  | s :: st, xs, h, x, hx => by
    refine walkOf_doc (st := st) (xs := goStep xs s) (fun y hy => ?_) x hx
    obtain ⟨e, he, hy⟩ := List.mem_flatMap.mp hy
    rw [downs_under, under, List.mem_map] at hy
    obtain ⟨z, hz, rfl⟩ := hy
    exact doc_of_walk (h e he) z hz
theorem walkOf_len {w : World} {M : Led} : ∀ {st : List Step} {xs : List (List Key × Doc)}, (∀ x ∈ xs, DocIn w M x.2) → (∀ s ∈ st, width s.path ≤ 3) → (st.foldl goStep xs).length ≤ xs.length * 3 ^ st.length
  | [], _, _, _ => by simp
  | s :: st, xs, h, hw => by
    have h2 := walkOf_len (st := st) (xs := goStep xs s) (fun x hx => walkOf_doc (st := [s]) h x hx) (fun t ht => hw t (List.mem_cons_of_mem _ ht))
    have h3 := turn_len (hw s List.mem_cons_self) h xs.length
    rw [turn_all (Nat.le_refl _)] at h3
    refine Nat.le_trans h2 (Nat.le_trans (Nat.mul_le_mul_right _ h3) (Nat.le_of_eq ?_))
    rw [List.length_cons, Nat.pow_succ, Nat.mul_assoc, Nat.mul_comm 3]
theorem walkOf_keys : ∀ {st : List Step} {xs : List (List Key × Doc)} {k : Nat}, (∀ x ∈ xs, x.1.length = k) → ∀ x ∈ st.foldl goStep xs, x.1.length = k + st.length
  | [], _, _, h, x, hx => h x hx
  | s :: st, xs, k, h, x, hx => by
    have := walkOf_keys (st := st) (xs := goStep xs s) (k := k + 1) (fun y hy => by
      obtain ⟨e, he, hy⟩ := List.mem_flatMap.mp hy
      obtain ⟨z, hz, rfl⟩ := List.mem_map.mp hy
      simp [h e he]) x hx
    rw [this, List.length_cons]; omega
/-- the law's walk is the path's walk -/
theorem chain_walk : ∀ {st : List Step} {p₀ : Path} {d : Doc}, p₀ ≠ .root → p₀ ≠ .this → (chainOf p₀ st).walk d = st.foldl goStep (p₀.walk d)
  | [], _, _, _, _ => rfl
  | s :: st, p₀, d, h1, h2 => by
    have := chain_walk (st := st) (p₀ := .child p₀ s.path) (d := d) (by intro h; cases h) (by intro h; cases h)
    rw [show chainOf p₀ (s :: st) = chainOf (kidOf p₀ s.path) st from rfl, kidOf_other h1 h2, this, List.foldl_cons]
    congr 1
    simp only [Path.walk, goStep]
    congr 1
    funext x
    rw [downs_under]; rfl
theorem chain_root {st : List Step} {d : Doc} : (chainOf .root st).walk d = walkOf st d := by
  cases st with
  | nil => rfl
  | cons s st =>
    have hne : s.path ≠ .root ∧ s.path ≠ .this := by cases s <;> exact ⟨nofun, nofun⟩
    rw [show chainOf .root (s :: st) = chainOf s.path st from rfl, chain_walk hne.1 hne.2, walkOf, List.foldl_cons]
    congr 1
    simp [goStep, downs_under, under]
/-- the pairs of keys and values of a list of matches -/
inductive PairAt (w : World) (M : Led) : Value × Value → List Key × Doc → Prop where
  | mk {K : Addr} {vs : List Value} {n : Nat} {ks : List Key} {d : Doc} : (K, lstO vs n) ∈ M → Paired KeyVal vs ks → DocIn w M d → PairAt w M (.ref K, d.val) (ks, d)
theorem match_pairs {w : World} {M : Led} : ∀ {ms : List Value} {xs : List (List Key × Doc)}, MatchesIn w M ms xs → ∃ xys, PairsIn M ms xys ∧ Paired (PairAt w M) xys xs
  | _, _, .nil => ⟨[], fun i v h => by simp at h, .nil⟩
  | _, _, .cons h t => by
    obtain ⟨xys, h1, h2⟩ := match_pairs t
    cases h with
    | mk e1 e2 e3 e4 =>
      refine ⟨_ :: xys, fun i v h => ?_, .cons (.mk e2 e3 e4) h2⟩
      cases i with
      | zero => cases h; exact ⟨_, _, _, _, rfl, rfl, e1⟩
      | succ i => obtain ⟨T, n, a, b, e, ea, eb⟩ := h1 i v (by simpa using h); exact ⟨T, n, a, b, e, by simpa using ea, eb⟩
theorem matches_doc {w : World} {M : Led} : ∀ {ms : List Value} {xs : List (List Key × Doc)}, MatchesIn w M ms xs → ∀ x ∈ xs, DocIn w M x.2
  | _, _, .nil, _, h => by cases h
  | _, _, .cons h t, x, hx => by
    rcases List.mem_cons.mp hx with rfl | hx
    · cases h; assumption
    · exact matches_doc t x hx
end
section
local macro_rules | `(tactic| walk_at "exec For Name Name cons nil") => `(tactic| (k_dflt (refine' wpAny_For ?_ ?hs; (case hs => (intro _; rfl)))))
section
variable {w : World} {p : Program} {loose : List Str} {mean : ExcName → Option Value} {mg mb : Str → Option Value}
  {A A₀ : Around} {base h₀ : Heap} {env : Env} {outer : List Env} {L : Addr} {m : Str → Option Value} {news M : Led} {s : Shared} {Q E : Value → Shared → Prop}
theorem use_down_in {st : Step} {ks : List Key} {d : Doc} {sv : Value} {kv : Addr} {vs : List Value} {n : Nat} (_hH : Here news) (hk : ks.length ≤ 10) (F : Fr h₀ L s.heap m) (B : Below A₀ base outer h₀) (XB : (hd.heap_1 w.params).In base) (TB : Top p loose mean mg mb base) (D : KtsDicts (outer.filterMap (·.frame)) h₀)
    (N : News h₀ L s.heap M) (sub : ∀ q ∈ news, q ∈ M) (hA : A.frames = some (env :: outer)) (hf : env.frame = some L) (hke : env.scope.kind = .function) (hh : A.handled = none) (hdp : A.depth + 20 < recursionLimit) (hu : A.units + 200 < cLine)
    (hb : AllBare s.gens) (hs : StepIn w news sv st) (hkv : (kv, lstO vs n) ∈ news) (hks : Paired KeyVal vs ks) (hd : DocIn w news d)
    (k : Comes w p loose mean mg mb A₀ base outer L m h₀ M s Q (fun tl r => ∃ b ms n, r = .ref b ∧ (b, lstO ms n) ∈ news ++ tl ∧ MatchesIn w (news ++ tl) ms (downs ks (st.down d)))) : wpAny (model Challenge.rw_bm0005_01.row.prog w) A (call (.ref 800) [sv, .ref kv, d.val]) Q E s :=
  use_down hk F B XB TB D N sub hA hf hke hh hdp hu hb hs hkv hks hd k
end
local macro_rules | `(tactic| walk_at "call ref") => `(tactic| ((with_reducible show wpAny _ _ (call (Value.ref 800) _) _ _ _); k_dflt (refine' use_down_in ?hH ?hk ?F ?B ?XB ?TB ?D ?N ?sub ?A ?f ?ke ?h ?dp ?u ?b ?hs ?hkv ?hks ?hd ?_; (case hH => assumption); (case F => k_asm); (case B => k_asm); (case XB => assumption); (case TB => assumption); (case D => k_asm); (case N => k_asm); (case A => exact rfl); (case f => exact rfl); (case ke => exact rfl); (case h => exact rfl); (case dp => k_room); (case u => k_room); (case b => assumption); (case sub => walk_at "m_sub"); (case hk => assumption); (case hs => exact StepIn.mono (by assumption) (by walk_at "m_sub")); (case hkv => k_mem); (case hks => assumption); (case hd => walk_at "m_doc"); intro r' tl' h' gn' tk' g' T' F' N' B' X' TP' D' o' b' P'; (try dsimp only at P'); obtain ⟨c', vs', n', e', hm', hd'⟩ := P'; subst e')))
theorem ne_sub {S X : Led} {d : Addr} (h : ∀ q ∈ X, q.1 ≠ d) (hs : ∀ q ∈ S, q ∈ X) : ∀ q ∈ S, q.1 ≠ d := fun q hq => h q (hs q hq)
theorem paired_mem {α β : Type} {F : α → β → Prop} : ∀ {l₁ : List α} {l₂ : List β}, Paired F l₁ l₂ → ∀ b ∈ l₂, ∃ a, F a b
  | _, _, .nil, _, h => by cases h
  | _, _, .cons h₁ t, b, h => by
    rcases List.mem_cons.mp h with rfl | h
    · exact ⟨_, h₁⟩
    · exact paired_mem t b h
section
variable {A₀ : Around} {base : Heap} {outer : List Env} {L : Addr} {s : Shared}
theorem plain_endC {C : (Str → Option Value) → Prop} {PP : (Str → Option Value) → Led → Prop} {g g' h : Heap} {J c : Addr} {oJ oc : Obj} {v₀ : Option Value} {Q : Flow → Shared → Prop} {m : Str → Option Value} {M₁ tl stuff M' : Led} {gn : Array GenState} {tk : Nat} {dr : Drawn} {os : OsState}
    (k : NextsC A₀ base outer L g J oJ c s Q (fun m M => C m ∧ ∃ tl, M = M₁ ++ tl ∧ (∀ q ∈ M₁, ∀ t ∈ tl, q.1 ≠ t.1) ∧ PP m M)) (e1 : s.drawn = dr) (e2 : s.os = os) (hc : oc.data = .cell v₀)
    (T : KtsTurn (outer.filterMap (·.frame)) g g') (F : Fr g' L h m) (N : News g' L h M') (B : Below A₀ base outer g') (Dk : KtsDicts (outer.filterMap (·.frame)) g') (hb : AllBare gn)
    (offJ : ∀ q ∈ M₁ ++ tl, q.1 ≠ J) (offc : ∀ q ∈ M₁ ++ tl, q.1 ≠ c) (ord : ∀ q ∈ M₁, ∀ t ∈ tl, q.1 ≠ t.1) (S : Split M' ((J, oJ) :: (c, oc) :: (M₁ ++ tl)) stuff)
    (hm : C m) (post : PP m (M₁ ++ (tl ++ stuff))) : Q .next ⟨h, gn, dr, tk, os⟩ :=
  nextsC_end k e1 e2 hc T F N B Dk hb (M := M₁ ++ (tl ++ stuff)) (fun q hq => S.mem q (by
    rw [List.cons_append, List.cons_append, List.append_assoc]; exact hq)) (fun q hq => by
    rw [← List.append_assoc] at hq
    rcases List.mem_append.mp hq with hq | hq
    · exact offJ q hq
    · exact (S.ord (J, oJ) (by simp) q hq).symm) (fun q hq => by
    rw [← List.append_assoc] at hq
    rcases List.mem_append.mp hq with hq | hq
    · exact offc q hq
    · exact (S.ord (c, oc) (by simp) q hq).symm) ⟨hm, tl ++ stuff, rfl, fun q hq t ht => by
    rcases List.mem_append.mp ht with ht | ht
    · exact ord q hq t ht
    · exact S.ord q (by simp [hq]) t ht, post⟩
end
theorem walk_post {w : World} {T T₀ T₁ : Led} {xs : List (List Key × Doc)} {st : Step} {i n : Nat} {c : Addr} {ms ys : List Value} {x : List Key × Doc} (hm : (c, lstO ms n) ∈ T₁) (hd : MatchesIn w T₁ ms (downs x.1 (st.down x.2))) (hI : MatchesIn w T₀ ys (turnOf xs st i)) (hx : xs[i]? = some x) (hlen : xs.length ≤ 27) (hw : width st.path ≤ 3) (hdoc : ∀ x ∈ xs, DocIn w T x.2)
    (hS : ∀ q ∈ T₁, q ∈ T) (hT : ∀ q ∈ T₀, q ∈ T) : ∃ ax vs nn, Value.ref c = .ref ax ∧ (ax, lstO vs nn) ∈ T ∧ (ys ++ vs).length ≤ sizeLine ∧ MatchesIn w T (ys ++ vs) (turnOf xs st (i + 1)) := by
  have e : MatchesIn w T (ys ++ ms) (turnOf xs st (i + 1)) := by rw [turn_next hx]; exact paired_app (hI.mono hT) (hd.mono hS)
  refine ⟨c, ms, n, rfl, hS _ hm, ?_, e⟩
  rw [e.length]
  exact Nat.le_trans (turn_len hw hdoc _) (Nat.le_trans (Nat.mul_le_mul_right 3 hlen) (by decide))
local macro_rules | `(tactic| walk_at "m_plainC") => `(tactic| (refine' plain_endC ?k ?e1 ?e2 ?hc ?T ?F ?N ?B ?D ?b ?oJ ?oc ?or ?S ?m ?_; (case k => assumption); (case e1 => exact rfl); (case e2 => exact rfl); (case hc => assumption); (case F => k_asm); (case N => k_asm); (case B => k_asm); (case D => k_asm); (case T => walk_at "m_turn"); (case b => assumption); (case oJ => assumption); (case oc => assumption); (case or => assumption); (case S => walk_at "m_split")))
local macro_rules | `(tactic| walk_at "m_ls") => `(tactic| (with_reducible refine ne_sub (by assumption) ?_; walk_at "m_sub"))
theorem walk_post2 {w : World} {a b : Addr × Obj} {R t : Led} {v : Value} {ys : List Value} {xs : List (List Key × Doc)} (h : ∃ ax vs nn, v = .ref ax ∧ (ax, lstO vs nn) ∈ R ++ t ∧ (ys ++ vs).length ≤ sizeLine ∧ MatchesIn w (R ++ t) (ys ++ vs) xs) :
    ∃ ax vs nn, v = .ref ax ∧ (ax, lstO vs nn) ∈ a :: b :: (R ++ t) ∧ (ys ++ vs).length ≤ sizeLine ∧ MatchesIn w (R ++ t) (ys ++ vs) xs := by
  obtain ⟨ax, vs, nn, e1, e2, e3, e4⟩ := h
  exact ⟨ax, vs, nn, e1, List.mem_cons_of_mem _ (List.mem_cons_of_mem _ e2), e3, e4⟩
section
variable {w : World} {p : Program} {loose : List Str} {mean : ExcName → Option Value} {mg mb : Str → Option Value}
theorem walk_spec : Spec w p loose mean mg mb 805 30 300
    (fun (x : List Step × Doc) news args => ∃ a ws n, args = ⟨[.ref a, x.2.val], []⟩ ∧ (a, lstO ws n) ∈ news ∧ StepsIn w news ws x.1 ∧ x.1.length ≤ 3 ∧ DocIn w news x.2)
    (fun x news r => ∃ b ms n, r = .ref b ∧ (b, lstO ms n) ∈ news ∧ MatchesIn w news ms (walkOf x.1 x.2)) := by
  intro dp un gd base fr g news s args R x0 G hdp hun hgn hpre ret
  obtain ⟨x, d⟩ := x0
  obtain ⟨a, ws, n, rfl, ha, hs, hl, hd⟩ := hpre
  have KB := G.kb
  have TB := G.tb
  revert KB
  k_fill
  intro KB
  dsimp only at ret hs hl hd
  k_dflt walk_at "m_enterC"
  try k_fold
  walk_at "m_go"
  k_dflt (refine' forListC3 [Str.ofString "told"] (fun M₁ i m M => ∃ tl, M = M₁ ++ tl ∧ (∀ q ∈ M₁, ∀ t ∈ tl, q.1 ≠ t.1) ∧ ∃ b ms nn, m (Str.ofString "told") = some (.ref b) ∧ (b, lstO ms nn) ∈ M ∧ MatchesIn w M ms (walkOf (x.take i) d)) ?zF ?zB ?zXB ?zTB ?zD ?zN ?zb ?zhh ?zhcd ?zhcl ?zoffc ?zhm ?ze ?zhx ?zhk ?zkeep ?zh0 ?zstep ?zkz; (case zF => k_asm); (case zB => k_asm); (case zXB => assumption); (case zTB => assumption); (case zD => k_asm); (case zN => k_asm); (case zb => assumption); (case zhh => exact rfl); (case zhcd => assumption); (case zhcl => exact rfl); (case zhm => k_mem); (case ze => exact rfl); (case zhx => exact rfl); (case zhk => exact rfl))
  case zoffc =>
    refine off_gt ?_ (off_gt ?_ (off_gt ?_ (off_old (by assumption) ?_)))
    · first | walk_at "m_ltc" | walk_at "m_lt"
    · first | walk_at "m_ltc" | walk_at "m_lt"
    · first | walk_at "m_ltc" | walk_at "m_lt"
    · exact Nat.le_succ_of_le (Nat.le_refl _)
  case zkeep =>
    rintro i m M ⟨tl, rfl, _⟩
    k_mem
  case zh0 =>
    refine ⟨[], (List.append_nil _).symm, (fun _ _ _ h => by cases h), _, _, _, rfl, by k_mem, ?_⟩
    exact .cons (.mk (by k_mem) (by k_mem) .nil (hd.mono (by walk_at "m_sub"))) .nil
  case zstep =>
    intro i v J oJ oc m M h gn tk g2 Q E' hi hv' hK hdc T' F' N' B' X' TP' D' b' off offc k
    obtain ⟨sx, hsx, hst⟩ := paired_get hs hv'
    obtain ⟨tl, hMe, ord1, b, ms, nn, hpv, hb, hP⟩ := hK
    have hsM : ∀ q ∈ news, q ∈ M := by rw [hMe]; walk_at "m_sub"
    have hw9 := step_width hst
    have hdo := matches_doc hP
    have hke : ∀ y ∈ walkOf (x.take i) d, y.1.length ≤ 10 := fun y hy => by
      have e := walkOf_keys (st := x.take i) (xs := [([], d)]) (k := 0) (fun z hz => by rw [List.mem_singleton.mp hz]; rfl) y hy
      rw [e, List.length_take]; omega
    have hle : (walkOf (x.take i) d).length ≤ 27 := by
      refine Nat.le_trans (walkOf_len (w := w) (M := news) (fun z hz => by rw [List.mem_singleton.mp hz]; exact hd) fun s hs' => ?_) ?_
      · obtain ⟨v9, h9⟩ := paired_mem hs _ (List.mem_of_mem_take hs')
        exact step_width h9
      · rw [List.length_singleton, Nat.one_mul, List.length_take]
        exact Nat.le_trans (Nat.pow_le_pow_right (by decide) (Nat.le_trans (Nat.min_le_right _ _) hl)) (by decide)
    obtain ⟨xys, hxy, hpa⟩ := match_pairs hP
    simp only [spread, hpv] at F'
    walk_at "m_go"
    k_dflt (refine' src_nestP (xys := xys) (Inv := fun i9 ys t9 => MatchesIn w (M ++ t9) ys (turnOf (walkOf (x.take i) d) sx i9)) ?zB ?zF ?zXB ?zTB ?zD ?zN ?zb ?zhh ?zhA ?zhs ?zhm ?zhp ?zhcell ?zkd ?zhx ?zhy ?zhxy ?zhx2 ?zhdb ?zI ?zOA ?zfin; (case zF => k_asm); (case zB => k_asm); (case zXB => assumption); (case zTB => assumption); (case zD => k_asm); (case zN => k_asm); (case zb => assumption); (case zhh => exact rfl); (case zhA => exact rfl); (case zhs => exact fun _ _ => rfl); (case zhm => k_mem); (case zhp => exact fun i9 v9 h9 => (by obtain ⟨T9, n9, a9, b9, e9, f9, g9⟩ := hxy i9 v9 h9; exact ⟨T9, n9, a9, b9, e9, f9, by k_mem⟩)); (case zhcell => decide); (case zkd => exact rfl); (case zhx => exact rfl); (case zhy => exact rfl); (case zhxy => decide); (case zhx2 => exact rfl); (case zhdb => exact rfl))
    case zI => exact .nil
    case zOA =>
      intro i2 own C oC D mc h gn tk g3 ys tl2 Q E' hi2 hB hO F' N' B' X' TP' D' b' hI ord hH kQ
      obtain ⟨a9, b9, hab, hma, hmb⟩ := hB
      obtain ⟨y, hy, hpr⟩ := paired_get hpa hab
      cases hpr with
      | mk e1 e2 e3 =>
      have hk9 := hke _ (List.mem_of_getElem? hy)
      have hH8 := here (M ++ tl2)
      walk_at "m_go"
      (refine' hands_end ?zk ?ze1 ?ze2 ?zT ?zF ?zN ?zB ?zD ?zb ?zS ?_; (case zk => assumption); (case ze1 => exact rfl); (case ze2 => exact rfl); (case zF => k_asm); (case zN => k_asm); (case zB => k_asm); (case zD => k_asm); (case zT => walk_at "m_turn"); (case zb => assumption); (case zS => walk_at "m_split"))
      intro hM
      refine walk_post2 (walk_post (by assumption) (by assumption) hI hy hle hw9 (fun z hz => (hdo z hz).mono (by walk_at "m_sub")) ?_ ?_)
      · walk_at "m_sub"
      · walk_at "m_sub"
    case zfin =>
      refine' blockEnd_a ?ze1 ?ze2 ?ze3 ?_
      case ze1 => exact rfl
      case ze2 => exact rfl
      case ze3 => exact rfl
      intro D2 g3 h3 gn3 tk3 zs tl3 T' F' N' B' D' b' hlt2 ord2 hZ
      subst hMe
      walk_at "m_go"
      refine' plain_endC ?zk ?ze1 ?ze2 ?zhc ?zT ?zF ?zN ?zB ?zD ?zb ?zoJ ?zoc ?zor ?zS ?zm ?_; (case zk => assumption); (case ze1 => exact rfl); (case ze2 => exact rfl); (case zhc => assumption); (case zF => k_asm); (case zN => k_asm); (case zB => k_asm); (case zD => k_asm); (case zT => walk_at "m_turn"); (case zb => assumption); (case zoJ => assumption); (case zoc => assumption); (case zor => assumption); (case zS => walk_at "m_split")
      case zm => walk_at "m_mapC"
      rw [turn_all (Nat.le_of_eq hP.length.symm)] at hZ
      rw [walkOf_take hsx]
      exact ⟨D2, zs, _, rfl, by k_mem, MatchesIn.mono hZ (by walk_at "m_sub")⟩
  case zkz =>
    intro g2 h gn tk m M oc v0 hdc T' F' N' B' D' b' off hK
    obtain ⟨tl, rfl, ord1, b, ms, nn, hpv, hb, hP⟩ := hK
    simp only [spread, hpv] at F'
    have hnc : ∀ q ∈ news, q.1 ≠ _ := ne_sub off (by walk_at "m_sub")
    walk_at "m_go"
    walk_at "m_fin"
    intro hM
    rw [List.take_of_length_le (Nat.le_of_eq hs.length.symm)] at hP
    exact ⟨b, ms, nn, rfl, hM _ (by k_mem), hP.mono fun q hq => hM q (by (revert q; walk_at "m_sub"))⟩
end
end
section
-- a generator expression over a tuple of one, joined
section
variable {w : World} {p : Program} {loose : List Str} {mean : ExcName → Option Value} {mg mb : Str → Option Value}
  {A : Around} {h₀ : Heap} {L : Addr} {m : Str → Option Value} {M : Led} {s : Shared} {E : Value → Shared → Prop}

/-- the code of a generator expression: found in the table, or made -/
theorem code_step {prog : Program} {env : Env} {c P : Addr} {ps : Array Value} {pos : Pos} {qual : Str} {scope : Scope} {Q : Value → Shared → Prop} (hc : env.code = .ref c) (C : CodeHd s.heap c P) (hP : s.heap.get? P = some (tabObj ps)) (ht : TriplesOk ps.toList)
    (k : ∀ code h' tk ps', Heap.ExtBut P s.heap h' → s.heap.objs.size ≤ h'.objs.size → h'.get? P = some (tabObj ps') → TriplesOk ps'.toList → Q code { s with heap := h', toks := tk }) : wpAny (model prog w) A (genexprCode env pos qual scope) Q E s := by
  cases hnf : codeAmong pos ps.toList with
  | some cv => exact wpAny_genexprCode_hit hc (C.code hP ht) hnf (k cv s.heap s.toks ps (Heap.ExtBut.refl _ _) (Nat.le_refl _) hP ht)
  | none =>
    refine wpAny_genexprCodeX hc (C.code hP ht) (C.tab hP) hnf fun c' h' tk hx hge hlt _ _ htab _ => k _ h' tk _ hx (Nat.le_trans hge (Nat.le_of_lt hlt)) htab.2 ?_
    rw [show (ps ++ #[rawInt pos.line, rawInt pos.col, Value.ref c']).toList = ps.toList ++ [rawInt pos.line, rawInt pos.col, .ref c'] by simp]
    exact TriplesOk_snoc _ _ _ _ ht

abbrev oneTxt (txt : Str) : Nat → Value → Prop := fun j y => ∃ i, (passing (fun _ => true) 1 0)[j]? = some i ∧ ∃ u, y = .str txt u
abbrev GenTxt (w : World) (A : Around) (K a : Addr) (txt : Str) (s : Shared) : Prop := Gen Challenge.rw_bm0005_01.row.prog w A K a (passing (fun _ => true) 1 0).length (oneTxt txt) s

/-- what is owed behind a generator expression's source -/
def GenSrc (w : World) (A : Around) (env : Env) (scope : Scope) (cl : List (Str × Addr)) (pos : Pos) (x : Str) (elt : Expr) (Q E : Value → Shared → Prop) (xv : Value) (s : Shared) : Prop :=
    wpAny (model Challenge.rw_bm0005_01.row.prog w) A (pyIter xv) (fun it s₂ => s₂.heap.NoLimit ∧ wpAny (model Challenge.rw_bm0005_01.row.prog w) A (genexprCode env pos (env.qual ++ "<genexpr>") scope) (fun code s₃ => wpAny (model Challenge.rw_bm0005_01.row.prog w) A (builtinsFor env.globals env.builtins) (fun bi s₄ =>
        ∃ I fp wr n₀ P St₀ pz F, it = .ref I ∧ (∀ A' : Around, A'.handled = none → Walks Challenge.rw_bm0005_01.row.prog w A' I fp wr n₀ P St₀) ∧ St₀ 0 s₄.heap ∧ (∀ b ∈ fp, b < s₄.heap.objs.size) ∧ s₄.heap.NoLimit ∧ cStatics ∉ wr ∧
          (∀ href : Heap, (∀ b o, s₄.heap.get? b = some o → href.get? b = some o) →
            QuietGen Challenge.rw_bm0005_01.row.prog w (genEnv scope cl s₄.heap.objs.size code bi env) x [] elt (List.range s₄.heap.objs.size) wr P pz F href) ∧
          (∀ a h₅ tk gs, gs.bare = true → s₄.heap.objs.size < a → h₅.objs.size = a + 1 → (∀ b o, s₄.heap.get? b = some o → h₅.get? b = some o) →
            WalksS Challenge.rw_bm0005_01.row.prog w A.in4 a (a :: s₄.heap.objs.size :: List.range s₄.heap.objs.size) (s₄.heap.objs.size :: wr) (GenOnlyQ s₄.gens.size) (passing pz n₀ 0).length
              (fun j y => ∃ i, (passing pz n₀ 0)[j]? = some i ∧ F i y) (GenAt Challenge.rw_bm0005_01.row.prog w A.in4 a s₄.gens.size s₄.heap.objs.size (List.range s₄.heap.objs.size) wr pz n₀ F) →
            GenAt Challenge.rw_bm0005_01.row.prog w A.in4 a s₄.gens.size s₄.heap.objs.size (List.range s₄.heap.objs.size) wr pz n₀ F 0 { s₄ with gens := s₄.gens.push gs, toks := tk, heap := h₅ } →
            Q (.ref a) { s₄ with gens := s₄.gens.push gs, toks := tk, heap := h₅ })) E s₃) E s₂) E s
theorem gen_exp {env : Env} {elt iter : Expr} {x : Str} {px : Pos} {scope : Scope} {cl : List (Str × Addr)} {pos : Pos} {Q : Value → Shared → Prop}
    (hh : A.handled = none) (hco : scope.isCoroutine = false) (hclos : closureFor scope env = pure cl) (hcell : ∀ y ∈ scope.names, y.2 ≠ .cell) (h0 : scope.names.lookup (".0" : Str) = some NameKind.local)
    (hx : scope.names.lookup x = some .local) (hkind : scope.kind = .function) (hroom : A.depth < recursionLimit) (h : wpAny (model Challenge.rw_bm0005_01.row.prog w) A (eval iter env) (GenSrc w A env scope cl pos x elt Q E) E s) (hs : ∀ x, genFold iter env x = pure x) :
    wpAny (model Challenge.rw_bm0005_01.row.prog w) A (eval (.GeneratorExp elt [⟨.Name x px, iter, [], 0⟩] scope pos) env) Q E s :=
  wpAny_GeneratorExp_walksQ hh hco hclos hcell h0 hx hkind hroom h hs
theorem gen_tuple {env : Env} {scope : Scope} {cl : List (Str × Addr)} {pos : Pos} {x txt : Str} {elt : Expr} {c P ax : Addr} {ps : Array Value} {v : Value} {nn : Nat} {Q : Value → Shared → Prop}
    (F : Fr h₀ L s.heap m) (T : Top p loose mean mg mb h₀) (N : News h₀ L s.heap ((P, tabObj ps) :: M)) (off : ∀ q ∈ M, q.1 ≠ P) (hb : AllBare s.gens) (hh : A.handled = none)
    (hc : CodeHd h₀ c P) (ht : TriplesOk ps.toList) (hcode : env.code = .ref c) (hgl : env.globals = mainGlobals) (hm : (ax, tupO [v] nn) ∈ M)
    (hq : ∀ (A' : Around) E' (s₂ : Shared) C code m₂, A'.handled = none → (∀ b o, h₀.get? b = some o → s₂.heap.get? b = some o) → s₂.heap.Ns C m₂ → m₂ x = some v → wpAny (model Challenge.rw_bm0005_01.row.prog w) A' (eval elt (genEnv scope cl C code builtinsNs env)) (fun y s₃ => (∃ u, y = .str txt u) ∧ Keeps s₂ s₃) E' s₂)
    (k : ∀ a h' gn tk ps' K, Fr h₀ L h' m → News h₀ L h' ((P, tabObj ps') :: M) → TriplesOk ps'.toList → AllBare gn → GenTxt w A K a txt ⟨h', gn, s.drawn, tk, s.os⟩ → (∀ q ∈ (P, tabObj ps') :: M, q.1 ≤ K) → L ≤ K → Q (.ref a) ⟨h', gn, s.drawn, tk, s.os⟩) :
    GenSrc w A env scope cl pos x elt Q E (.ref ax) s := by
  have hlt : ∀ q ∈ (P, tabObj ps) :: M, q.1 < s.heap.objs.size := fun q hq => Heap.lt_size (N q hq).1
  have hPn : s.heap.get? P = some (tabObj ps) := (N _ List.mem_cons_self).1
  have hP0 : h₀.get? P = none := (N _ List.mem_cons_self).2.2
  have hPL : P ≠ L := (N _ List.mem_cons_self).2.1
  have htu : s.heap.IsTuple ax #[v] := isTup_of (N _ (List.mem_cons_of_mem _ hm)).1
  have haxlt : ax < s.heap.objs.size := hlt _ (List.mem_cons_of_mem _ hm)
  have haxP : ax ≠ P := off _ hm
  have hlim : s.heap.NoLimit := T.nolimit.keeps F.keep
  have hcP : cStatics ≠ P := fun e => by
    obtain ⟨_, hns, _⟩ := T.nolimit
    obtain ⟨o, es, ep, ho, hd, _⟩ := hns
    rw [e, hP0] at ho; cases ho
  have hcs : cStatics < s.heap.objs.size := let ⟨_, hn, _⟩ := hlim; hn.lt
  refine wpAny_pyIter_tuple htu ⟨hlim.push _, ?_⟩
  generalize hI : ({ cls := .type "tuple_iterator", data := .fields #[.ref ax, .int 0 0] } : Obj) = oI
  have up : ∀ b o, s.heap.get? b = some o → (s.heap.push oI).get? b = some o := fun b o e => Heap.get?_push_of_some _ e
  have F₁ : Fr h₀ L (s.heap.push oI) m := F.push _
  refine code_step (s := { s with heap := s.heap.push oI }) hcode (hc.keeps F₁.keep) (up _ _ hPn) ht fun code h₃ tk₃ ps' hx₃ hge hP₃ ht₃ => ?_
  have hsz₃ : s.heap.objs.size + 1 ≤ h₃.objs.size := by rw [← Heap.size_push s.heap oI]; exact hge
  have k₃ : ∀ b o, b ≠ P → s.heap.get? b = some o → h₃.get? b = some o := fun b o hb e => hx₃ b o hb (up b o e)
  have kg : ∀ b o, h₀.get? b = some o → h₃.get? b = some o := fun b o e => k₃ b o (fun z => by rw [z, hP0] at e; cases e) (F.keep b o e)
  have F₃ : Fr h₀ L h₃ m := ⟨F.ns.at' fun o e => k₃ L o hPL.symm e, kg, F.above⟩
  have hlim₃ : h₃.NoLimit := T.nolimit.keeps kg
  have hIlt : s.heap.objs.size < h₃.objs.size := hsz₃
  have hIP : s.heap.objs.size ≠ P := fun e => Nat.lt_irrefl _ (e ▸ hlt _ List.mem_cons_self : s.heap.objs.size < s.heap.objs.size)
  obtain ⟨bm, ob, BM⟩ := bmod_of_top T
  have M₃ : BMod h₃ env.globals mg bm ob := hgl ▸ BM.keeps kg
  refine wpAny_builtinsFor M₃.ns M₃.name M₃.ne M₃.obj M₃.cls M₃.dict M₃.data ?_
  refine ⟨s.heap.objs.size, [s.heap.objs.size, ax], [s.heap.objs.size], (#[v] : Array Value).size, fun i v' => (#[v] : Array Value)[i]? = some v', _, fun _ => true, fun _ y => ∃ u, y = .str txt u, rfl,
    fun A' hA => Walks.tuple hA s.heap.objs.size ax (Nat.ne_of_lt haxlt) #[v], ⟨?_, ?_⟩, ?_, hlim₃, ?_, ?_, ?_⟩
  · subst hI
    exact ⟨_, hx₃ _ _ hIP (Heap.get?_push_size s.heap rfl), rfl, rfl⟩
  · exact htu.at fun o e => k₃ ax o haxP e
  · intro b hb
    simp only [List.mem_cons, List.not_mem_nil, or_false] at hb
    rcases hb with rfl | rfl
    · exact hIlt
    · exact Nat.lt_trans haxlt hIlt
  · intro hb
    rw [List.mem_singleton.mp hb] at hcs
    exact Nat.lt_irrefl _ hcs
  · intro href hk
    refine ⟨fun A' E' i v' s₂ m₂ _ _ _ _ _ => wpAny_pure ⟨rfl, s₂.heap, s₂.toks, rfl, fun _ _ e => e⟩, fun A' E' i v' s₂ m₂ hA hPi _ hn hx hkeep => ?_⟩
    have hv : v' = v := by
      cases i with
      | zero => simpa using hPi.symm
      | succ i => simp at hPi
    subst hv
    refine hq A' E' s₂ _ code m₂ hA (fun b o e => ?_) hn hx
    have hlt₀ : b < s.heap.objs.size := Heap.lt_size (F.keep b o e)
    refine hkeep b (List.mem_range.mpr (Nat.lt_trans hlt₀ hIlt)) (fun hb => ?_) o (hk b o (kg b o e))
    rw [List.mem_singleton.mp hb] at hlt₀
    exact Nat.lt_irrefl _ hlt₀
  · intro a h₅ tk gs hgs hal hsz₅ hk₅ W hat
    have hlt' : 0 < s.heap.objs.size := Nat.lt_of_le_of_lt (Nat.zero_le _) haxlt
    refine k a h₅ _ tk ps' (s.heap.objs.size - 1) (F₃.keeps hk₅) (fun q hq => ?_) ht₃ (hb.push hgs) ⟨_, _, _, _, W, hat, fun i s' st => st.1.typeIs, List.mem_cons_self, fun b hb => ?_, fun b hb => ?_⟩ (fun q hq => ?_) (Nat.le_sub_one_of_lt F.ns.lt)
    · rcases List.mem_cons.mp hq with rfl | hq
      · exact ⟨hk₅ _ _ hP₃, hPL, hP0⟩
      · exact ⟨hk₅ _ _ (k₃ _ _ (off q hq) (N q (List.mem_cons_of_mem _ hq)).1), (N q (List.mem_cons_of_mem _ hq)).2⟩
    · show b < h₅.objs.size
      rw [hsz₅]
      rcases List.mem_cons.mp hb with rfl | hb
      · exact Nat.lt_succ_self _
      · rcases List.mem_cons.mp hb with rfl | hb
        · exact Nat.lt_succ_of_lt hal
        · exact Nat.lt_succ_of_lt (Nat.lt_trans (List.mem_range.mp hb) hal)
    · rcases List.mem_cons.mp hb with rfl | hb
      · exact Nat.lt_of_lt_of_le (Nat.sub_lt hlt' Nat.one_pos) (Nat.le_trans (Nat.le_succ _) hsz₃)
      · rw [List.mem_singleton.mp hb]; exact Nat.sub_lt hlt' Nat.one_pos
    · refine Nat.le_sub_one_of_lt ?_
      rcases List.mem_cons.mp hq with rfl | hq
      · exact hlt (P, tabObj ps) List.mem_cons_self
      · exact hlt q (List.mem_cons_of_mem _ hq)
theorem join_gen {sep txt : Str} {t : Tok} {a K : Addr} {Q : Value → Shared → Prop} (F : Fr h₀ L s.heap m) (N : News h₀ L s.heap M) (hb : AllBare s.gens) (X : GenTxt w A K a txt s) (hK : ∀ q ∈ M, q.1 ≤ K) (hLK : L ≤ K) (hs : sep.length ≤ 16) (hl : txt.length ≤ 1000)
    (k : ∀ h' gn tk t', Fr h₀ L h' m → News h₀ L h' M → AllBare gn → Q (.str txt t') ⟨h', gn, s.drawn, tk, s.os⟩) : wpAny (model Challenge.rw_bm0005_01.row.prog w) A (call (.builtin "str.join") [.str sep t, .ref a]) Q E s := by
  obtain ⟨fp, wr, g, St, W, hst, hT, ha, hfp, hwr⟩ := X
  have W := W.in4_2
  have hn : (passing (fun _ => true) 1 0).length = 1 := rfl
  rw [hn] at W
  refine SC.joinGen W hT hst hfp ha (fun j v ⟨_, _, h⟩ => ⟨_, h⟩) (fun s' lt hm hacc => ?_) (by decide)
  have hl2 : lt.map (·.1) = [txt] := by
    have hsz : lt.length = 1 := by simpa [strValues] using hacc.1
    match lt, hsz with
    | [(y, u)], _ =>
      obtain ⟨_, _, u', hv⟩ := hacc.2 0 (.str y u) (by simp [strValues])
      injection hv with h1 _
      simp [h1]
  rw [hl2]
  have nw : ∀ b, b ≤ K → b ∉ wr := fun b hbK hmem => Nat.lt_irrefl _ (Nat.lt_of_lt_of_le (hwr b hmem) hbK)
  refine ⟨joinOk_of_weight (by simp only [List.map_cons, List.map_nil, List.sum_cons, List.sum_nil, List.length_cons, List.length_nil]; omega) hs, fun t' k' => ?_⟩
  obtain ⟨sh, sg, sd, st, so⟩ := s'
  obtain ⟨h1, h2, h3, h4, h5⟩ := hm
  dsimp only at h1 h2 h3 h4
  subst h3 h4
  refine k sh sg k' t' ⟨F.ns.at' fun o e => h1 L o (nw L hLK) e, fun b o e => h1 b o (nw b ?_) (F.keep b o e), F.above⟩ (fun q hq => ⟨h1 _ _ (nw _ (hK q hq)) (N q hq).1, (N q hq).2⟩) (h2.bare hb)
  exact Nat.le_trans (Nat.le_of_lt (Nat.lt_of_lt_of_le (Heap.lt_size e) F.above)) hLK
theorem elt_str {A' : Around} {E' : Value → Shared → Prop} {env : Env} {scope : Scope} {cl : List (Str × Addr)} {C : Addr} {code : Value} {m₂ : Str → Option Value} {x : Str} {np xp pos : Pos} {i : Int} {t : Tok} {s₂ : Shared} (X : (hd.heap_1 w.params).In s₂.heap) (T : Top p loose mean mg mb s₂.heap) (e : nsIn (hd.heap_1 w.params) mainGlobals (Str.ofString "str") = some none)
    (hi : i.natAbs.log2 < 1920) (hn : s₂.heap.Ns C m₂) (hx : m₂ x = some (.int i t)) (hgl : env.globals = mainGlobals) (hk : scope.kind = .function) (hl : scope.names.lookup x = some .local) (hg : scope.names.lookup (Str.ofString "str") = some .globalImplicit) (hd : (x == ("__debug__" : Str)) = false) :
    wpAny (model Challenge.rw_bm0005_01.row.prog w) A' (eval (.Call (.Name (Str.ofString "str") np) [.Name x xp] [] pos) (genEnv scope cl C code builtinsNs env)) (fun y s₃ => (∃ u, y = .str (Str.ofString (toString i)) u) ∧ Keeps s₂ s₃) E' s₂ := by
  refine Call_name1 rfl (Name_function_global hk hg (loadGlobal_builtin (env := genEnv scope cl C code builtinsNs env) (mg := mg) (mb := mb) (v := .type "str") (show s₂.heap.Ns env.globals mg from hgl ▸ T.g) (mg_none_of X T.g e) T.b ((T.builtins _ (by decide)).trans (by boot_by_name)) ?_))
  refine callWith_type1 (wpAny_Name (wpAny_loadName_local hk hl hn hx ?_) hd)
  exact P.str_of_int hi ⟨⟨_, rfl⟩, s₂.heap, _, rfl, fun _ _ e => e⟩
theorem log_small {i : Int} (h1 : -10 ≤ i) (h2 : i ≤ 10) : i.natAbs.log2 < 1920 := Nat.lt_of_le_of_lt (Nat.log2_le_self _) (by omega)
theorem place_len : ∀ {i : Int}, -10 ≤ i → i ≤ 10 → (Str.ofString (toString i)).length ≤ 1000 := by
  have h : ∀ k : Nat, k ≤ 20 → (Str.ofString (toString ((k : Int) - 10))).length ≤ 1000 := by decide +kernel
  intro i h1 h2
  have := h (i + 10).toNat (by omega)
  rwa [show (((i + 10).toNat : Nat) : Int) - 10 = i by omega] at this
end
end
section
-- a contract of a call that may grow the table 708
section
variable (w : World) (p : Program) (loose : List Str) (mean : ExcName → Option Value) (mg mb : Str → Option Value)
abbrev tabE (ps : Array Value) : Addr × Obj := (708, tabObj ps)
def OwesP (dp un : Nat) (gd : Option (List Code)) (base : Heap) (fr : List Env) (g : Heap) (news : Led) (s : Shared) (R : Result → Shared → Prop) (Q : Led → Value → Prop) : Prop :=
  ∀ r tl h' gn tk g' ps', Gd w p loose mean mg mb (AR dp un gd fr) base fr g' h' (tabE ps' :: (news ++ tl)) → KtsTurn (fr.filterMap (·.frame)) g g' → (∀ q ∈ news, ∀ t ∈ tl, q.1 ≠ t.1) → (∀ t ∈ tl, t.1 ≠ 708) → TriplesOk ps'.toList → AllBare gn → Q (news ++ tl) r →
      R (.ok (.ret r)) ⟨h', gn, s.drawn, tk, s.os⟩
def SpecP (f : Addr) (n u : Nat) {X : Type} (Pre : X → Led → Args → Prop) (Post : X → Led → Value → Prop) : Prop :=
  ∀ (dp un : Nat) (gd : Option (List Code)) (base : Heap) (fr : List Env) (g : Heap) (news : Led) (ps : Array Value) (s : Shared) (args : Args) (R : Result → Shared → Prop) (x : X),
    Gd w p loose mean mg mb (AR dp un gd fr) base fr g s.heap (tabE ps :: news) → (∀ q ∈ news, q.1 ≠ 708) → TriplesOk ps.toList → dp + n < recursionLimit → un + u < cLine → AllBare s.gens → Pre x news args →
    OwesP w p loose mean mg mb dp un gd base fr g news s R (Post x) →
    codeAny (model Challenge.rw_bm0005_01.row.prog w) (AR dp un gd fr) (.call (.ref f) args) R s
end
section
variable {w : World} {p : Program} {loose : List Str} {mean : ExcName → Option Value} {mg mb : Str → Option Value}
  {dp un : Nat} {gd : Option (List Code)} {base g : Heap} {fr : List Env} {news : Led} {s : Shared} {R : Result → Shared → Prop}
theorem fin_ledP {Q : Led → Value → Prop} {g' h' : Heap} {L' : Addr} {m' : Str → Option Value} {M tl : Led} {r : Value} {gn : Array GenState} {tk : Nat} {dr : Drawn} {os : OsState} {ps ps' : Array Value}
    (G : Gd w p loose mean mg mb (AR dp un gd fr) base fr g s.heap (tabE ps :: news))
    (ret : OwesP w p loose mean mg mb dp un gd base fr g news s R Q) (e1 : s.drawn = dr) (e2 : s.os = os)
    (T : KtsTurn (fr.filterMap (·.frame)) g g') (F : Fr g' L' h' m') (N : News g' L' h' (tabE ps' :: M)) (B : Below (AR dp un gd fr) base fr g') (D : KtsDicts (fr.filterMap (·.frame)) g') (hb : AllBare gn)
    (S : Split M news tl) (o7 : ∀ q ∈ M, q.1 ≠ 708) (ht : TriplesOk ps'.toList) (post : (∀ q ∈ M, q ∈ news ++ tl) → Q (news ++ tl) r) : R (.ok (.ret r)) ⟨h', gn, dr, tk, os⟩ := by
  subst e1 e2
  refine ret r tl h' gn tk g' ps' ⟨B, G.kb, G.tb, D, F.keep, by
    obtain ⟨oL, _, _, hL, _⟩ := F.ns
    exact Nat.le_trans F.above (Nat.le_of_lt (Heap.lt_size hL)), fun q hq => ?_⟩ T S.ord (fun t ht => o7 t (S.mem t (List.mem_append.mpr (.inr ht)))) ht hb (post S.back)
  rcases List.mem_cons.mp hq with rfl | hq
  · exact ⟨(N _ List.mem_cons_self).1, (N _ List.mem_cons_self).2.2⟩
  · have := N q (List.mem_cons_of_mem _ (S.mem q hq))
    exact ⟨this.1, this.2.2⟩
end
section
variable {w : World} {p : Program} {loose : List Str} {mean : ExcName → Option Value} {mg mb : Str → Option Value}
  {A A₀ : Around} {base h₀ : Heap} {env : Env} {outer : List Env} {L : Addr} {m : Str → Option Value} {news M : Led} {s : Shared} {args : Args} {R : Result → Shared → Prop} {f : Addr} {n u : Nat} {ps : Array Value}
  {X : Type} {Pre : X → Led → Args → Prop} {Post : X → Led → Value → Prop}
def ComesP (w : World) (p : Program) (loose : List Str) (mean : ExcName → Option Value) (mg mb : Str → Option Value) (A₀ : Around) (base : Heap) (outer : List Env) (L : Addr) (m : Str → Option Value) (h₀ : Heap) (M : Led) (s : Shared) (Q : Value → Shared → Prop) (Post : Led → Value → Prop) : Prop :=
  ∀ r tl h' gn tk h₀' ps', KtsTurn (outer.filterMap (·.frame)) h₀ h₀' → Fr h₀' L h' m → News h₀' L h' (tabE ps' :: (M ++ tl)) → Below A₀ base outer h₀' → (hd.heap_1 w.params).In h₀' → Top p loose mean mg mb h₀' → KtsDicts (outer.filterMap (·.frame)) h₀' →
      (∀ q ∈ M, ∀ t ∈ tl, q.1 ≠ t.1) → (∀ t ∈ tl, t.1 ≠ 708) → TriplesOk ps'.toList → AllBare gn → Post tl r → Q r ⟨h', gn, s.drawn, tk, s.os⟩

theorem SpecP.use (S : SpecP w p loose mean mg mb f n u Pre Post) (B : Below A₀ base outer h₀) (F : Fr h₀ L s.heap m) (XB : (hd.heap_1 w.params).In base) (TB : Top p loose mean mg mb base) (D : KtsDicts (outer.filterMap (·.frame)) h₀)
    (NM : News h₀ L s.heap (tabE ps :: M)) (off : ∀ q ∈ M, q.1 ≠ 708) (ht : TriplesOk ps.toList) (hsub : ∀ q ∈ news, q ∈ M) (hA : A.frames = some (env :: outer)) (hf : env.frame = some L) (hke : env.scope.kind = .function) (hh : A.handled = none) (hdp : A.depth + n < recursionLimit) (hu : A.units + u < cLine)
    (hb : AllBare s.gens) (x : X) (hpre : Pre x news args)
    (k : ComesP w p loose mean mg mb A₀ base outer L m h₀ M s (fun v s' => R (.ok (.ret v)) s') (fun tl r => Post x (news ++ tl) r)) :
    codeAny (model Challenge.rw_bm0005_01.row.prog w) A (.call (.ref f) args) R s := by
  have N : News h₀ L s.heap (tabE ps :: news) := fun q hq => by
    rcases List.mem_cons.mp hq with rfl | hq
    · exact NM _ List.mem_cons_self
    · exact NM q (List.mem_cons_of_mem _ (hsub q hq))
  obtain ⟨hd', dp, frs, gd, un⟩ := A
  dsimp only at hA hh hdp hu
  subst hh hA
  obtain ⟨FG, BG, st, _⟩ := groundX (R := R) (A := AR dp un gd (env :: outer)) B F N rfl hf hke
  obtain ⟨oL, es, ep, hL, hLd, hLk, hLf⟩ := F.ns
  obtain ⟨oL', es', ep', hLg, hLd', _, _⟩ := FG.ns
  have hLe : oL' = oL := by
    have := of_hideAll _ hLg
    rw [hL] at this; exact (Option.some.inj this).symm
  subst hLe
  have nL₀ : h₀.get? L = none := kts_self F
  refine S dp un gd base (env :: outer) _ news ps s args R x ⟨BG, XB, TB, fun b hb' => ?_, fun b o e => of_hideAll _ e, Nat.le_of_eq (hideAll_size _ _), fun q hq => ⟨(N q hq).1, hideAll_none _ (List.mem_map_of_mem hq)⟩⟩ (fun q hq => off q (hsub q hq)) ht hdp hu hb hpre
    fun r tl h' gn tk g' ps' G' T' ord tl7 ht' hgn post => ?_
  · simp only [List.filterMap_cons, hf] at hb'
    rcases List.mem_cons.mp hb' with rfl | hb'
    · exact ⟨oL', es, ep, hLg, hLd⟩
    · obtain ⟨o, es', n', ho', hd'⟩ := D b hb'
      exact ⟨o, es', n', st b o ho', hd'⟩
  · have T'' : KtsTurn (L :: outer.filterMap (·.frame)) (hideAll s.heap ((tabE ps :: news).map (·.1))) g' := by
      have e : (env :: outer).filterMap (·.frame) = L :: outer.filterMap (·.frame) := by simp only [List.filterMap_cons, hf]
      rw [e] at T'; exact T'
    obtain ⟨sl, hs⟩ := T''.up hLg
    obtain ⟨T₁, S₁⟩ := kts_turn_at (h := h') (fs := outer.filterMap (·.frame)) (g := h₀)
      (fun b hb' => by
        obtain ⟨_, o, ho', _⟩ := B.frames.mem hb'
        exact ⟨o, ho'⟩)
      (fun b o e nmem => G'.sub b o (T''.other b o (st b o e) (fun q => by
        rcases List.mem_cons.mp q with z | z
        · rw [z, nL₀] at e
          cases e
        · exact nmem z)))
      (fun b o e hm => by
        obtain ⟨sl', hs'⟩ := T''.up (st b o e)
        exact ⟨sl', G'.sub _ _ hs'⟩)
    have B₃ : Below A₀ base outer (ktsHeap h' (outer.filterMap (·.frame)) h₀) := ⟨B.stack, fun b o e => T₁.other b o (B.stays b o e) (fun hm => by
      rw [(B.frames.mem hm).1] at e
      cases e), B.frames.of_keeps fun b o e _ => by
      obtain ⟨sl', hs'⟩ := T₁.up e
      exact ⟨_, hs', rfl⟩⟩
    have nL : ∀ t ∈ tabE ps' :: (news ++ tl), t.1 ≠ L := fun t ht e => by
      have := (G'.led t ht).2; rw [e, hs] at this; cases this
    have none₀ : ∀ t ∈ tabE ps' :: (news ++ tl), h₀.get? t.1 = none := fun t ht => by
      cases e : h₀.get? t.1 with
      | none => rfl
      | some o =>
        obtain ⟨sl', hs'⟩ := T''.up (st _ _ e)
        have := (G'.led t ht).2
        rw [hs'] at this
        cases this
    have N₁ : News (ktsHeap h' (outer.filterMap (·.frame)) h₀) L h' (tabE ps' :: (news ++ tl)) := fun q hq => ⟨(G'.led q hq).1, nL q hq, T₁.none_ _ (none₀ q hq)⟩
    have keepM : ∀ q ∈ M, q.1 ∉ (tabE ps :: news).map (·.1) → g'.get? q.1 = some q.2 := fun q hq hn => by
      have e : (hideAll s.heap ((tabE ps :: news).map (·.1))).get? q.1 = some q.2 := by
        have := hideAll_get (h := s.heap) ((tabE ps :: news).map (·.1)) (NM q (List.mem_cons_of_mem _ hq)).1 hn
        exact this
      refine T''.other _ _ e fun z => ?_
      rcases List.mem_cons.mp z with z | z
      · exact (NM q (List.mem_cons_of_mem _ hq)).2.1 z
      · obtain ⟨o, _, _, ho, _⟩ := D _ z
        have := (NM q (List.mem_cons_of_mem _ hq)).2.2; rw [ho] at this; cases this
    have inNews : ∀ q ∈ M, q.1 ∈ (tabE ps :: news).map (·.1) → ∃ q' ∈ news, q'.1 = q.1 := fun q hq z => by
      obtain ⟨q', hq', e⟩ := List.mem_map.mp z
      rcases List.mem_cons.mp hq' with rfl | hq'
      · exact absurd e.symm (off q hq)
      · exact ⟨q', hq', e⟩
    refine k r tl h' gn tk _ ps' T₁ ⟨⟨_, es, ep, G'.sub _ _ hs, hLd, hLk, hLf⟩, S₁, by rw [T₁.size]; exact F.above⟩ (fun q hq => ?_) B₃ (XB.keeps B₃.stays) (TB.keeps B₃.stays) (D.turn T₁) (fun q hq t ht => ?_) tl7 ht' hgn post
    · rcases List.mem_cons.mp hq with rfl | hq
      · exact N₁ _ List.mem_cons_self
      rcases List.mem_append.mp hq with hq | hq
      · refine ⟨?_, (NM q (List.mem_cons_of_mem _ hq)).2.1, T₁.none_ _ (NM q (List.mem_cons_of_mem _ hq)).2.2⟩
        by_cases z : q.1 ∈ (tabE ps :: news).map (·.1)
        · obtain ⟨q', hq', e⟩ := inNews q hq z
          have h1 := (N q' (List.mem_cons_of_mem _ hq')).1; have h2 := (NM q (List.mem_cons_of_mem _ hq)).1
          have h3 := (G'.led q' (List.mem_cons_of_mem _ (List.mem_append.mpr (.inl hq')))).1
          rw [e] at h1 h3; rw [h1] at h2; rw [h3, h2]
        · exact G'.sub _ _ (keepM q hq z)
      · exact N₁ q (List.mem_cons_of_mem _ (List.mem_append.mpr (.inr hq)))
    · by_cases z : q.1 ∈ (tabE ps :: news).map (·.1)
      · obtain ⟨q', hq', e⟩ := inNews q hq z
        rw [← e]; exact ord q' hq' t ht
      · intro e
        have h1 := keepM q hq z
        have h2 := (G'.led t (List.mem_cons_of_mem _ (List.mem_append.mpr (.inr ht)))).2
        rw [← e, h1] at h2; cases h2
theorem SpecP.call {Q E : Value → Shared → Prop} {pos : List Value} {kw : List (Str × Value)} (S : SpecP w p loose mean mg mb f n u Pre Post) (F : Fr h₀ L s.heap m) (B : Below A₀ base outer h₀) (XB : (hd.heap_1 w.params).In base) (TB : Top p loose mean mg mb base) (D : KtsDicts (outer.filterMap (·.frame)) h₀)
    (N : News h₀ L s.heap (tabE ps :: M)) (off : ∀ q ∈ M, q.1 ≠ 708) (ht : TriplesOk ps.toList) (sub : ∀ q ∈ news, q ∈ M) (hA : A.frames = some (env :: outer)) (hf : env.frame = some L) (hke : env.scope.kind = .function) (hh : A.handled = none) (hdp : A.depth + n < recursionLimit) (hu : A.units + u < cLine)
    (hb : AllBare s.gens) (x : X) (hpre : Pre x news ⟨pos, kw⟩) (k : ComesP w p loose mean mg mb A₀ base outer L m h₀ M s Q (fun tl r => Post x (news ++ tl) r)) : wpAny (model Challenge.rw_bm0005_01.row.prog w) A (call (.ref f) pos kw) Q E s :=
  wpAny_call (S.use B F XB TB D N off ht sub hA hf hke hh hdp hu hb x hpre k)
end
end
local macro_rules | `(tactic| walk_at "m_off7") => `(tactic| first | assumption | (refine off_app ?_ ?_ <;> walk_at "m_off7"))
local macro_rules | `(tactic| walk_at "m_finP") => `(tactic| (refine' fin_ledP ?mG ?mR ?m1 ?m2 ?mT ?mF ?mN ?mB ?mD ?mb ?mS ?mo ?mt ?_; (case mG => assumption); (case mR => assumption); (case m1 => exact rfl); (case m2 => exact rfl); (case mF => k_asm); (case mT => walk_at "m_turn"); (case mN => k_asm); (case mB => k_asm); (case mD => k_asm); (case mb => assumption); (case mS => walk_at "m_split"); (case mo => walk_at "m_off7"); (case mt => assumption)))
section
local macro_rules | `(tactic| walk_at "zz0") => `(tactic| skip)
def placeText (i : Int) : Str := Str.ofString "[" ++ Str.ofString (toString i) ++ Str.ofString "]"
local macro_rules | `(tactic| walk_at "eval GeneratorExp") => `(tactic| (k_dflt (refine' gen_exp ?hh ?co ?cl ?ce ?h0 ?hx ?hk ?ro ?_ ?hs; (case hh => exact rfl); (case co => exact rfl); (case cl => with_unfolding_all rfl); (case ce => decide); (case h0 => exact rfl); (case hx => exact rfl); (case hk => exact rfl); (case ro => k_room); (case hs => (intro _; with_unfolding_all rfl)))))
local macro_rules | `(tactic| walk_at "call builtin:str.join") => `(tactic| (k_dflt (refine' join_gen ?F ?N ?b ?G ?hK ?hL ?hs ?hl ?_; (case F => k_asm); (case N => k_asm); (case b => assumption); (case G => assumption); (case hK => assumption); (case hL => assumption); (case hs => decide); (case hl => assumption); intro h' gn' tk' t' F' N' b')))
section
variable {w : World} {p : Program} {loose : List Str} {mean : ExcName → Option Value} {mg mb : Str → Option Value}
theorem str_index1 {i : Int} (h1 : -10 ≤ i) (h2 : i ≤ 10) : SpecP w p loose mean mg mb 713 20 200
    (fun (_ : Unit) news args => ∃ v, args = ⟨[v], []⟩ ∧ PathIn w news v (.index [i]))
    (fun _ news r => ∃ t, r = .str (placeText i) t) := by
  intro dp un gd base fr g news ps s args R x0 G off htr hdp hun hgn hpre ret
  obtain ⟨v, rfl, hp⟩ := hpre
  have KB := G.kb
  have TB := G.tb
  revert KB
  k_fill
  intro KB
  cases hp with
  | index p1 p2 p3 p4 =>
  cases p4 with
  | cons _ t p5 =>
  cases p5
  k_dflt walk_at "m_enter"
  k_fold
  with_reducible rename Fr _ _ _ _ => FF9
  replace FF9 := fr_congr (m' := fun y => List.lookup y [(Str.ofString "self", _)]) FF9 (fun z => congrArg (List.lookup z) rfl)
  walk_at "m_go"
  have hlen9 := place_len h1 h2
  have hcode : CodeHd g 712 708 := codeHd_of_K (by k_asm) (by kernel_rfl)
  k_dflt (refine' gen_tuple (c := 712) (P := 708) (txt := Str.ofString (toString i)) (M := news) ?zF ?zT ?zN ?zoff ?zb ?zhh ?zhc ?zht ?zhco ?zhgl ?zhm ?zhq ?zkz; (case zF => k_asm); (case zT => k_asm); (case zN => k_asm); (case zoff => assumption); (case zb => assumption); (case zhh => exact rfl); (case zhc => assumption); (case zht => assumption); (case zhco => exact rfl); (case zhgl => exact rfl); (case zhm => assumption))
  case zhq =>
    intro A' E' s2 C code m2 hA hk2 hn hx
    exact elt_str ((by assumption : (hd.heap_1 w.params).In g).keeps hk2) ((by assumption : Top p loose mean mg mb g).keeps hk2) (by k_is) (log_small h1 h2) hn hx rfl rfl rfl rfl rfl
  case zkz =>
    intro a2 h2' gn2 tk2 ps2 K2 F' N' ht2 b2 G2 hK2 hL2
    walk_at "m_go"
    walk_at "m_finP"
    intro hM
    exact ⟨_, by simp only [placeText]; rfl⟩
end
end
section
def strAd : Path → Addr
  | .fields _ => 534
  | .index _ => 713
  | _ => 413
def snOf : Path → Nat
  | .child l r => 20 + snOf l + snOf r
  | _ => 20
def suOf : Path → Nat
  | .child l r => 100 + suOf l + suOf r
  | _ => 200
def Shown : Path → Prop
  | .fields _ => True
  | .index _ => True
  | .child _ _ => True
  | _ => False
abbrev StrSpec (w : World) (p : Program) (loose : List Str) (mean : ExcName → Option Value) (mg mb : Str → Option Value) (q : Path) (y : Str) : Prop :=
  SpecP w p loose mean mg mb (strAd q) (snOf q) (suOf q) (fun (_ : Unit) news args => ∃ v, args = ⟨[v], []⟩ ∧ PathIn w news v q) (fun _ news r => ∃ t, r = .str y t)
section
variable {w : World} {p : Program} {loose : List Str} {mean : ExcName → Option Value} {mg mb : Str → Option Value}
  {A A₀ : Around} {base h₀ : Heap} {env : Env} {outer : List Env} {L : Addr} {m : Str → Option Value} {news M M₀ : Led} {s : Shared} {Q E : Value → Shared → Prop} {ps : Array Value}
theorem str_path {q : Path} {v : Value} (hq : Shown q) (F : Fr h₀ L s.heap m) (X : (hd.heap_1 w.params).In h₀) (N : News h₀ L s.heap M) (hp : PathIn w news v q) (sub : ∀ q ∈ news, q ∈ M) (hu : A.units + 10 < cLine)
    (h : wpAny (model Challenge.rw_bm0005_01.row.prog w) A.in1.in1 (call (.ref (strAd q)) [v]) (StrBack Q) E s) : wpAny (model Challenge.rw_bm0005_01.row.prog w) A (call (.type "str") [v]) Q E s := by
  have hu2 : A.in1.in1.units < cLine := by simp only [units_in1]; omega
  have N' : News h₀ L s.heap news := fun q hq => N q (sub q hq)
  have keep := (rfl : Challenge.rw_bm0005_01 = Challenge.rw_bm0005_01)
  revert X keep
  k_fill
  intro X _
  cases hp with
  | root | this | wild => exact hq.elim
  | fields h1 h2 =>
    replace h : wpAny (model Challenge.rw_bm0005_01.row.prog w) A.in1.in1 (call (.ref 534) _) (StrBack Q) E s := h
    k_dflt (refine' kso_call hu2 ?zk2 ?zk3 ?zk4 ?zk5 h; (case zk2 => k_in); (case zk3 => k_inst); (case zk4 => k_is); (case zk5 => k_is))
  | index h1 h2 =>
    replace h : wpAny (model Challenge.rw_bm0005_01.row.prog w) A.in1.in1 (call (.ref 713) _) (StrBack Q) E s := h
    k_dflt (refine' kso_call hu2 ?zk2 ?zk3 ?zk4 ?zk5 h; (case zk2 => k_in); (case zk3 => k_inst); (case zk4 => k_is); (case zk5 => k_is))
  | child h1 h2 =>
    replace h : wpAny (model Challenge.rw_bm0005_01.row.prog w) A.in1.in1 (call (.ref 413) _) (StrBack Q) E s := h
    k_dflt (refine' kso_call hu2 ?zk2 ?zk3 ?zk4 ?zk5 h; (case zk2 => k_in); (case zk3 => k_inst); (case zk4 => k_is); (case zk5 => k_is))
theorem field_path {q : Path} {v : Value} (hq : Shown q) (F : Fr h₀ L s.heap m) (X : (hd.heap_1 w.params).In h₀) (N : News h₀ L s.heap M) (hp : PathIn w news v q) (sub : ∀ q ∈ news, q ∈ M) (hu : A.units + 10 < cLine)
    (h : wpAny (model Challenge.rw_bm0005_01.row.prog w) A.in1 (call (.ref (strAd q)) [v]) (StrBack Q) E { s with toks := s.toks + 1 }) : wpAny (model Challenge.rw_bm0005_01.row.prog w) A (formatField v Str.empty) Q E s := by
  have hu2 : A.in1.units < cLine := by simp only [units_in1]; omega
  have N' : News h₀ L s.heap news := fun q hq => N q (sub q hq)
  have keep := (rfl : Challenge.rw_bm0005_01 = Challenge.rw_bm0005_01)
  revert X keep
  k_fill
  intro X _
  cases hp with
  | root | this | wild => exact hq.elim
  | fields h1 h2 =>
    replace h : wpAny (model Challenge.rw_bm0005_01.row.prog w) A.in1 (call (.ref 534) _) (StrBack Q) E _ := h
    k_dflt (refine' kfo_fieldS hu2 ?zX ?zI ?zg ?zm ?zs ?zf h; (case zX => k_in); (case zI => k_inst); (case zs => k_is); (case zf => k_is); (case zg => k_is); (case zm => k_is))
  | index h1 h2 =>
    replace h : wpAny (model Challenge.rw_bm0005_01.row.prog w) A.in1 (call (.ref 713) _) (StrBack Q) E _ := h
    k_dflt (refine' kfo_fieldS hu2 ?zX ?zI ?zg ?zm ?zs ?zf h; (case zX => k_in); (case zI => k_inst); (case zs => k_is); (case zf => k_is); (case zg => k_is); (case zm => k_is))
  | child h1 h2 =>
    replace h : wpAny (model Challenge.rw_bm0005_01.row.prog w) A.in1 (call (.ref 413) _) (StrBack Q) E _ := h
    k_dflt (refine' kfo_fieldS hu2 ?zX ?zI ?zg ?zm ?zs ?zf h; (case zX => k_in); (case zI => k_inst); (case zs => k_is); (case zf => k_is); (case zg => k_is); (case zm => k_is))
theorem use_str {q : Path} {y : Str} {v : Value} (S : StrSpec w p loose mean mg mb q y) (F : Fr h₀ L s.heap m) (B : Below A₀ base outer h₀) (XB : (hd.heap_1 w.params).In base) (TB : Top p loose mean mg mb base) (D : KtsDicts (outer.filterMap (·.frame)) h₀)
    (N : News h₀ L s.heap (tabE ps :: M)) (off : ∀ q ∈ M, q.1 ≠ 708) (ht : TriplesOk ps.toList) (sub : ∀ q ∈ news, q ∈ M) (hA : A.frames = some (env :: outer)) (hf : env.frame = some L) (hke : env.scope.kind = .function) (hh : A.handled = none) (hdp : A.depth + snOf q < recursionLimit) (hu : A.units + suOf q < cLine)
    (hb : AllBare s.gens) (hp : PathIn w news v q) (k : ∀ t, ComesP w p loose mean mg mb A₀ base outer L m h₀ M s (fun r s' => r = .str y t → Q (.str y t) s') (fun _ _ => True)) : wpAny (model Challenge.rw_bm0005_01.row.prog w) A (call (.ref (strAd q)) [v]) (StrBack Q) E s := by
  refine S.call F B XB TB D N off ht sub hA hf hke hh hdp hu hb () ⟨v, rfl, hp⟩ fun r tl h' gn tk h₀' ps' T F N B X TP D o o7 ht b P => ?_
  obtain ⟨t, rfl⟩ := P
  exact k t _ tl h' gn tk h₀' ps' T F N B X TP D o o7 ht b trivial rfl
end
theorem starts_false {prog : Program} {w : World} {A : Around} {s : Shared} {E : Value → Shared → Prop} {x y : Str} {t u : Tok} {Q : Value → Shared → Prop} (h : Txt.startswith x y = false) (hq : Q (.bool false) s) : wpAny (model prog w) A (call (.builtin "str.startswith") [.str x t, .str y u]) Q E s :=
  SC.startswith (by rw [h]; exact hq)
local macro_rules | `(tactic| walk_at "handedOut") => `(tactic| (k_dflt (refine handedOut_ref ?_)))
local macro_rules | `(tactic| walk_at "call builtin:str.startswith") => `(tactic| (k_dflt (refine' starts_false ?h ?_; (case h => assumption))))
local macro_rules | `(tactic| walk_at "call type:str") => `(tactic| ((with_reducible show wpAny _ _ (call (Value.type "str") [Value.ref _]) _ _ _); k_dflt (refine' str_path ?hq ?F ?X ?N ?hp ?sub ?u ?_; (case F => k_asm); (case X => k_asm); (case N => k_asm); (case hp => assumption); (case hq => assumption); (case u => k_room); (case sub => walk_at "m_sub"))))
local macro_rules | `(tactic| walk_at "formatField ref") => `(tactic| ((with_reducible show wpAny _ _ (formatField (Value.ref _) _) _ _ _); k_dflt (refine' field_path ?hq ?F ?X ?N ?hp ?sub ?u ?_; (case F => k_asm); (case X => k_asm); (case N => k_asm); (case hp => assumption); (case hq => assumption); (case u => k_room); (case sub => walk_at "m_sub"))))
local macro_rules | `(tactic| walk_at "call ref") => `(tactic| ((with_reducible show wpAny _ _ (call (Value.ref (strAd _)) [_]) _ _ _); k_dflt (refine' use_str ?S ?F ?B ?XB ?TB ?D ?N ?off ?ht ?sub ?A ?f ?ke ?h ?dp ?u ?b ?hp ?_; (case S => assumption); (case hp => assumption); (case F => k_asm); (case B => k_asm); (case XB => assumption); (case TB => assumption); (case D => k_asm); (case N => k_asm); (case A => exact rfl); (case f => exact rfl); (case ke => exact rfl); (case h => exact rfl); (case dp => k_room); (case u => k_room); (case b => assumption); (case ht => assumption); (case off => walk_at "m_off7"); (case sub => walk_at "m_sub"); intro t' r' tl' h' gn' tk' g' ps' T' F' N' B' X' TP' D' o' o7' ht' b' P' e'; subst e')))
section
variable {w : World} {p : Program} {loose : List Str} {mean : ExcName → Option Value} {mg mb : Str → Option Value}
theorem child_str {l r : Path} {a b : Str} (hl : Shown l) (hr : Shown r) (Sl : StrSpec w p loose mean mg mb l a) (Sr : StrSpec w p loose mean mg mb r b) (hb : Txt.startswith b (Str.ofString "[?") = false) (hlen : a.length + b.length ≤ 500) : StrSpec w p loose mean mg mb (.child l r) (a ++ Str.ofString "." ++ b) := by
  intro dp un gd base fr g news ps s args R x0 G off htr hdp hun hgn hpre ret
  obtain ⟨v, rfl, hp⟩ := hpre
  have hdp1 : dp + (20 + snOf l + snOf r) < recursionLimit := hdp
  have hun1 : un + (100 + suOf l + suOf r) < cLine := hun
  have KB := G.kb
  have TB := G.tb
  revert KB
  k_fill
  intro KB
  cases hp with
  | child p1 p2 pl pr =>
  obtain ⟨la, rfl⟩ := pl.ref
  obtain ⟨ra, rfl⟩ := pr.ref
  show codeAny _ _ (.call (.ref 413) _) _ _
  k_dflt walk_at "m_enter"
  k_fold
  with_reducible rename Fr _ _ _ _ => FF9
  replace FF9 := fr_congr (m' := fun y => List.lookup y [(Str.ofString "self", _)]) FF9 (fun z => congrArg (List.lookup z) rfl)
  walk_at "m_go"
  · rw [Str.empty_append]
    exact Nat.le_trans (show a.length ≤ 500 by omega) (by decide)
  · rw [Str.empty_append]
    walk_at "m_finP"
    intro hM
    exact ⟨_, rfl⟩
end
end
section
def keyText : Key → Str
  | .name x => nameText x
  | .place i => placeText i
def KeyOk : Key → Prop
  | .name x => x ∈ NAMES
  | .place i => -10 ≤ i ∧ i ≤ 10
def keysText (ks : List Key) : Str := Str.join (Str.ofString ".") (ks.map keyText)
theorem name_starts : ∀ x ∈ NAMES, Txt.startswith (nameText x) (Str.ofString "[?") = false ∧ (nameText x).length ≤ 20 := by decide +kernel
theorem place_starts : ∀ {i : Int}, -10 ≤ i → i ≤ 10 → Txt.startswith (placeText i) (Str.ofString "[?") = false ∧ (placeText i).length ≤ 20 := by
  have h : ∀ k : Nat, k ≤ 20 → Txt.startswith (placeText ((k : Int) - 10)) (Str.ofString "[?") = false ∧ (placeText ((k : Int) - 10)).length ≤ 20 := by decide +kernel
  intro i h1 h2
  have := h (i + 10).toNat (by omega)
  rwa [show (((i + 10).toNat : Nat) : Int) - 10 = i by omega] at this
theorem key_text {k : Key} (h : KeyOk k) : Txt.startswith (keyText k) (Str.ofString "[?") = false ∧ (keyText k).length ≤ 20 := by
  cases k with
  | name x => exact name_starts x h
  | place i => exact place_starts h.1 h.2
theorem keys_snoc {ks : List Key} {k : Key} (h : ks ≠ []) : keysText (ks ++ [k]) = keysText ks ++ Str.ofString "." ++ keyText k := by
  unfold keysText
  rw [List.map_append, List.map_singleton, PyProof.Rows.FinIter.join_snoc, if_neg (by simpa using h)]
section
variable {w : World} {p : Program} {loose : List Str} {mean : ExcName → Option Value} {mg mb : Str → Option Value}
theorem Spec.toP {f : Addr} {n u : Nat} {X : Type} {Pre : X → Led → Args → Prop} {Post : X → Led → Value → Prop} (S : Spec w p loose mean mg mb f n u Pre Post) (hpre : ∀ x ps news args, Pre x news args → Pre x (tabE ps :: news) args) (hpost : ∀ x M N r, Post x M r → Post x N r) :
    SpecP w p loose mean mg mb f n u Pre Post := by
  intro dp un gd base fr g news ps s args R x G off ht hdp hun hgn hp ret
  refine S dp un gd base fr g (tabE ps :: news) s args R x G hdp hun hgn (hpre _ _ _ _ hp) fun r tl h' gn tk g' G' T o b P => ?_
  refine ret r tl h' gn tk g' ps G' T (fun q hq t ht => o q (List.mem_cons_of_mem _ hq) t ht) (fun t ht => (o _ List.mem_cons_self t ht).symm) ht b (hpost _ _ _ _ P)
theorem key_str {k : Key} (h : KeyOk k) : StrSpec w p loose mean mg mb k.path (keyText k) := by
  cases k with
  | name x => exact Spec.toP (str_field1 h) (fun _ _ _ _ ⟨v, e, hp⟩ => ⟨v, e, hp.mono fun q hq => List.mem_cons_of_mem _ hq⟩) (fun _ _ _ _ h => h)
  | place i => exact str_index1 h.1 h.2
theorem key_shown (k : Key) : Shown k.path := by cases k <;> exact trivial
theorem kid_root {p₀ : Path} (h : p₀ = .root ∨ p₀ = .this) (k : Key) : kidOf p₀ k.path = k.path := by rcases h with rfl | rfl <;> rfl
theorem kid_shown {q : Path} (h : Shown q) (k : Path) : kidOf q k = .child q k := by cases q <;> first | exact h.elim | rfl
/-- the text of a match's full path -/
theorem full_str {p₀ : Path} (h₀ : p₀ = .root ∨ p₀ = .this) : ∀ n (ks : List Key), ks.length = n + 1 → n ≤ 10 → (∀ k ∈ ks, KeyOk k) → StrSpec w p loose mean mg mb (fullOf p₀ ks) (keysText ks) ∧ Shown (fullOf p₀ ks) ∧ (keysText ks).length ≤ 21 * ks.length ∧ snOf (fullOf p₀ ks) ≤ 40 * ks.length ∧ suOf (fullOf p₀ ks) ≤ 300 * ks.length
  | 0, ks, hl, _, hk => by
    match ks, hl with
    | [k], _ =>
      have hk := hk k (by simp)
      rw [show fullOf p₀ [k] = k.path from kid_root h₀ k]
      refine ⟨key_str hk, key_shown k, Nat.le_trans (key_text hk).2 (show 20 ≤ 21 by decide), ?_, ?_⟩ <;> cases k <;> simp [Key.path, snOf, suOf]
  | n + 1, ks, hl, hn, hk => by
    have hne : ks ≠ [] := fun h => by rw [h] at hl; simp at hl
    obtain ⟨ks', k, rfl⟩ : ∃ ks' k, ks = ks' ++ [k] := ⟨ks.dropLast, ks.getLast hne, (List.dropLast_concat_getLast hne).symm⟩
    have hl' : ks'.length = n + 1 := by simpa using hl
    have hne' : ks' ≠ [] := fun h => by rw [h] at hl'; simp at hl'
    obtain ⟨S, sh, hlen, e1, e2⟩ := full_str h₀ n ks' hl' (by omega) fun k hk' => hk k (by simp [hk'])
    have hkk := hk k (by simp)
    have ht := key_text hkk
    have hlen2 : ((keysText ks' ++ Str.ofString ".") ++ keyText k).length = (keysText ks').length + 1 + (keyText k).length := by
      simp only [Str.length_append]; rfl
    have hks : 21 * ks'.length ≤ 300 := by omega
    rw [fullOf_snoc, kid_shown sh, keys_snoc hne']
    refine ⟨child_str sh (key_shown k) S (key_str hkk) ht.1 (by omega), trivial, ?_, ?_, ?_⟩
    · rw [hlen2, List.length_append, List.length_singleton]; omega
    · have : snOf k.path = 20 := by cases k <;> rfl
      simp only [snOf, List.length_append, List.length_singleton]; omega
    · have : suOf k.path = 200 := by cases k <;> rfl
      simp only [suOf, List.length_append, List.length_singleton]; omega
end
end
section
-- comparisons
section
variable {prog : Program} {w : World} {A : Around} {s : Shared} {E : Value → Shared → Prop} {h₀ : Heap} {L a b : Addr} {M : Led} {vs us : List Value} {n k : Nat} {Q : Value → Shared → Prop}
theorem all_true (n : Nat) : ((List.range n).all fun _ => true) = true := by simp
theorem ne_same (N : News h₀ L s.heap M) (ha : (a, lstO vs n) ∈ M) (hb : (b, lstO vs k) ∈ M) (hu : A.units < cLine) (h : Q (.bool false) s) : wpAny (model prog w) A (compareOp .NotEq (.ref a) (.ref b)) Q E s :=
  SeqAt.RcNeAt.lists (e := fun _ => true) (isList_of (N _ ha).1) (isList_of (N _ hb).1) rfl hu (fun _ _ _ => SeqAt.EqAt.same _) prog w E Q (by rw [all_true]; exact h)
theorem eq_same (N : News h₀ L s.heap M) (ha : (a, lstO vs n) ∈ M) (hb : (b, lstO vs k) ∈ M) (hu : A.units < cLine) (h : Q (.bool true) s) : wpAny (model prog w) A (compareOp .Eq (.ref a) (.ref b)) Q E s :=
  SeqAt.RcAt.lists (e := fun _ => true) (isList_of (N _ ha).1) (isList_of (N _ hb).1) rfl hu (fun _ _ _ => SeqAt.EqAt.same _) prog w E Q (by rw [all_true]; exact h)
theorem ne_nil (N : News h₀ L s.heap M) (ha : (a, lstO vs n) ∈ M) (hb : (b, lstO [] k) ∈ M) (hu : A.units < cLine) (h : Q (.bool (!vs.isEmpty)) s) : wpAny (model prog w) A (compareOp .NotEq (.ref a) (.ref b)) Q E s := by
  cases vs with
  | nil => exact ne_same N ha hb hu h
  | cons x r => exact SeqAt.RcNeAt.lists_lengths (isList_of (N _ ha).1) (isList_of (N _ hb).1) (by simp) hu prog w E Q h
theorem eq_nil (N : News h₀ L s.heap M) (ha : (a, lstO vs n) ∈ M) (hb : (b, lstO [] k) ∈ M) (hu : A.units < cLine) (h : Q (.bool vs.isEmpty) s) : wpAny (model prog w) A (compareOp .Eq (.ref a) (.ref b)) Q E s := by
  cases vs with
  | nil => exact eq_same N ha hb hu h
  | cons x r => exact SeqAt.RcAt.lists_lengths (isList_of (N _ ha).1) (isList_of (N _ hb).1) (by simp) hu prog w E Q h
/-- two lists of the same texts -/
theorem ne_texts {ys : List Str} (N : News h₀ L s.heap M) (ha : (a, lstO vs n) ∈ M) (hb : (b, lstO us k) ∈ M) (hv : StrsAre vs ys) (hx : StrsAre us ys) (hu : A.units < cLine) (h : Q (.bool false) s) : wpAny (model prog w) A (compareOp .NotEq (.ref a) (.ref b)) Q E s := by
  refine SeqAt.RcNeAt.lists (e := fun _ => true) (isList_of (N _ ha).1) (isList_of (N _ hb).1) (by simp [strsLen hv, strsLen hx]) hu (fun j h1 h2 => ?_) prog w E Q (by rw [all_true]; exact h)
  obtain ⟨x, t, e1, e2⟩ := strsAt hv (i := j) (v := vs.toArray[j]) (by simp only [List.getElem_toArray]; exact List.getElem?_eq_getElem _)
  obtain ⟨y, t', e3, e4⟩ := strsAt hx (i := j) (v := us.toArray[j]) (by simp only [List.getElem_toArray]; exact List.getElem?_eq_getElem _)
  rw [e1, e3]
  rw [e2] at e4
  obtain rfl := Option.some.inj e4
  have := SeqAt.EqAt.str_str (A := A.in1) (s := s) x t x t'
  rwa [beq_self_eq_true] at this
theorem hits_self {knd : KeyKind prog w Str} {kb : List (Str × Value)} : ∀ {ka : List (Str × Value)}, (∀ e ∈ ka, valueAt kb e.1 = some e.2) → KeqHits A s kb ka true
  | [], _ => .nil
  | (x, v) :: r, h => KeqHits.hit (e := true) (b := true) (h (x, v) List.mem_cons_self) (SeqAt.EqAt.same v) (hits_self (knd := knd) fun e he => h e (List.mem_cons_of_mem _ he))
theorem value_self : ∀ {ka : List (Str × Value)}, (ka.map (·.1)).Nodup → ∀ e ∈ ka, valueAt ka e.1 = some e.2
  | [], _, e, he => by cases he
  | p :: r, hn, e, he => by
    rw [List.map_cons, List.nodup_cons] at hn
    unfold valueAt
    rw [List.find?_cons]
    rcases List.mem_cons.mp he with rfl | he
    · simp
    · have : p.1 ≠ e.1 := fun h => hn.1 (by rw [h]; exact List.mem_map_of_mem he)
      simp only [this, decide_false]
      exact value_self hn.2 e he
theorem doc_dictOf {es : List (Str × Tok × Doc)} (N : News h₀ L s.heap M) (hm : (a, dictOf (entsOf w es) n) ∈ M) (hn : (es.map (·.1)).Nodup) : s.heap.DictOf (strKind prog w) a (es.map fun e => (e.1, e.2.2.val)) := by
  refine ⟨_, _, n, (N _ hm).1, ⟨rfl, rfl, rfl⟩, rfl, fun e he => by
    simp only [entsOf, List.mem_toArray, List.mem_map] at he
    obtain ⟨y, _, rfl⟩ := he
    exact ⟨y.1, strKind_is prog w y.1 y.2.1, rfl⟩, ?_, by simpa [List.map_map, Function.comp_def] using hn⟩
  show Pairs (strKind prog w) (entsOf w es) _
  clear hm hn
  induction es with
  | nil => exact .nil
  | cons e r ih => exact .cons (strKind_is prog w e.1 e.2.1) rfl ih
/-- a document is not unlike itself -/
theorem ne_doc {d : Doc} (N : News h₀ L s.heap M) (hd : DocIn w M d) (hu : A.units < cLine) (h : Q (.bool false) s) : wpAny (model prog w) A (compareOp .NotEq d.val d.val) Q E s := by
  cases hd with
  | none => exact EqNone.ne_none_none h
  | @int i t => exact ne_int (by simpa using h)
  | @str x t => exact P.ne_str (by simpa using h)
  | list h1 h2 h3 => exact ne_same N h1 h1 hu h
  | dict h1 h0 h2 h3 h4 h5 =>
    refine keq_ne (r := true) h0 h0 (doc_dictOf N h1 h3) (doc_dictOf N h1 h3) hu (fun _ => hits_self (knd := strKind prog w) (value_self (by simpa [List.map_map, Function.comp_def] using h3))) ?_
    rw [beq_self_eq_true]; exact h
end
end
section
open PyProof.Rows.LCg
section
variable {prog : Program} {w : World} {A A₀ : Around} {h₀ base : Heap} {outer : List Env} {L : Addr} {m : Str → Option Value} {s : Shared} {E : Value → Shared → Prop}
abbrev emitD (prog : Program) (w : World) (A : Around) (kx vx : Expr) (env : Env) (D : Addr) (K : Shared → Prop) (N : Value → Shared → Prop) (s : Shared) : Prop :=
  wpAny (model prog w) A (eval kx env) (fun kv s₄ => wpAny (model prog w) A (eval vx env) (fun vv s₅ => wpAny (model prog w) A (dictSet D kv vv) (fun _ s₆ => K s₆) N s₅) N s₄) N s
theorem emits_dict {kx vx target iter : Expr} {scope : Scope} {pos : Pos} {it : Value} {D : Addr} {env : Env} {R : Result → Shared → Prop} :
    Emits prog w A (.DictComp kx vx [⟨target, iter, [], 0⟩] scope pos) 0 it (.ref D) env target R (emitD prog w A kx vx env D) := by
  intro I turn n s hI
  refine codeAny_loop rfl I (fun n s hI => ?_) n hI
  show wpAny _ A ((compTurn (.DictComp kx vx [⟨target, iter, [], 0⟩] scope pos) 0 it (.ref D) env).onRaise (fun x => do noteFrame x env; theTreesLotGoes x)) _ _ s
  refine wpAny_noted ?_
  rw [compTurn_dict]
  refine wpAny_bind (wpAny_standAt (wpAny_bind (wpAny_mono (turn n s hI) (fun r s₁ h₁ => ?_) fun _ _ h' => h')))
  cases r with
  | none => exact wpAny_pure h₁
  | some v =>
    refine wpAny_bind (wpAny_mono h₁ (fun _ s₀ h₀ => ?_) fun _ _ h' => h')
    refine wpAny_bind (wpAny_mono h₀ (fun _ s₂ h₂ => ?_) fun _ _ h' => h')
    refine wpAny_bind (wpAny_tests_nil ?_)
    simp only [if_true]
    exact wpAny_bind (wpAny_bind (wpAny_mono h₂ (fun kv s₄ h₄ => wpAny_bind (wpAny_holding (wpAny_mono h₄ (fun vv s₅ h₅ => wpAny_bind (wpAny_standAt (wpAny_holding (wpAny_mono h₅ (fun _ s₆ h₆ => wpAny_pure ⟨rfl, h₆⟩) fun _ _ h' => h')))) fun _ _ h' => h'))) fun _ _ h' => h'))
abbrev entD (w : World) (es : List (Str × Tok × Doc)) : Obj := dictOf (entsOf w es) es.length
theorem dictSet_new {D : Addr} {es : List (Str × Tok × Doc)} {x : Str} {t : Tok} {d : Doc} {Q : Unit → Shared → Prop} (ho : s.heap.get? D = some (entD w es)) (hx : x ∉ es.map (·.1)) (hl : es.length ≤ 100)
    (hQ : ∀ h', Heap.SameBut D s.heap h' → h'.get? D = some (entD w (es ++ [(x, t, d)])) → Q () { s with heap := h', toks := s.toks + 1 }) : wpAny (model prog w) A (dictSet D (.str x t) d.val) Q E s := by
  have hkey := strKind_is prog w x t
  have hk : KeysOf (strKind prog w) (entsOf w es).toArray := fun e he => by
    simp only [entsOf, List.mem_toArray, List.mem_map] at he
    obtain ⟨y, _, rfl⟩ := he
    exact ⟨y.1, strKind_is prog w y.1 y.2.1, rfl⟩
  unfold dictSet
  try with_reducible refine wpAny_holding ?_
  refine wpAny_bind ((strKind prog w).pyHash hkey ?_)
  unfold dictSetHashed
  try with_reducible refine wpAny_holding ?_
  refine wpAny_bind (wpAny_dictFind_of (s := { s with toks := s.toks + 1 }) hkey ho rfl hk ?_)
  have hidx : ((entsOf w es).toArray.findIdx? fun e => (strKind prog w).is x e.key) = none := by
    rw [Array.findIdx?_eq_none_iff]
    intro e he
    simp only [entsOf, List.mem_toArray, List.mem_map] at he
    obtain ⟨y, hy, rfl⟩ := he
    rw [KeyKind.is_eq_decide (strKind_is prog w y.1 y.2.1) x]
    exact decide_eq_false fun e => hx (e ▸ List.mem_map_of_mem hy)
  rw [hidx]
  refine wpAny_bind (wpAny_rule (wpAny_updateDictKeys (hz := by simp only [List.size_toArray, entsOf, List.length_map]; exact Nat.le_trans hl (by decide)) (s := { s with toks := s.toks + 1 }) ho rfl (hQ _ (Heap.SameBut.update ..) ?_)))
  refine (Heap.get?_update_self _ ho (Obj.isFreed_of_dict (Obj.data_mapDictKeys rfl _))).trans ?_
  simp [Obj.mapDictKeys, entD, entsOf, List.map_append]
  rfl
theorem comp_blockD {Y : Type} {obj : Y → Obj} {y₀ : Y} {kx vx target iter : Expr} {ifs : List Expr} {gs : List Comprehension} {scope : Scope} {pos : Pos} {cl : List (Str × Addr)} {env : Env} {J : Addr} {own₀ : Led} {fp wr : List Addr} {n : Nat} {P Md : Nat → Value → Heap → Prop} {St : Nat → Heap → Prop} {Bnd : Nat → (Str → Option Value) → Prop}
    {body : Addr → Addr → (Shared → Prop) → (Value → Shared → Prop) → Shared → Prop} {RR : Value → Addr → Result → Shared → Prop} {news : Led} {Inv : Nat → Y → Led → Prop} {g₁ : Heap}
    (W : KTurns prog w A target J fp wr n P Md St) (EM : ∀ C D R, Emits prog w A (.DictComp kx vx (⟨target, iter, ifs, 0⟩ :: gs) scope pos) 0 (.ref J) (.ref D) (compEnvC scope cl C env) target R (body C D))
    (hobj : obj y₀ = { cls := .type "dict", dict := none, data := .dict #[] }) (hself : ∀ i (s : Shared) (Q : Value → Shared → Prop) (E : Value → Shared → Prop), St i s.heap → Q (.ref J) s → wpAny (model prog w) A (pyIter (.ref J)) Q E s)
    (hfp : ∀ b ∈ fp, b ∈ wr ∨ ∃ o, (b, o) ∈ news) (hJo : ∀ i h, St i h → ∀ b ∈ wr, ∃ o, h.get? b = some o)
    (hassign : ∀ C i v (s : Shared) (mc : Str → Option Value) (Q : Unit → Shared → Prop) (E : Value → Shared → Prop), P i v s.heap → (∀ q ∈ news, s.heap.get? q.1 = some q.2) → s.heap.Ns C mc →
      (∀ h' tk mc', h'.Ns C mc' → Bnd i mc' → (∀ b o, b ≠ C → s.heap.get? b = some o → h'.get? b = some o) → Q () { s with heap := h', toks := tk }) → wpAny (model prog w) A (assign target (compEnvC scope cl C env) v) Q E s)
    (hcell : ∀ y ∈ scope.names, y.2 ≠ .cell) (hkind : scope.kind = .function)
    (hbody : ∀ C D i own oC mc h gn tk g ys tl (K : Shared → Prop) (N : Value → Shared → Prop), (∀ q ∈ news, q.1 < D) → i < n → own.map (·.1) = wr → Bnd i mc → NsObj oC mc → KtsTurn (outer.filterMap (·.frame)) g₁ g → Std A₀ base outer h₀ L m g h gn (inLedO own C oC D (obj ys) (news ++ tl)) → Apart wr C D (news ++ tl) → Inv i ys tl →
      (∀ ys' tl' oC' mc' h' gn' tk' g', NsObj oC' mc' → KtsTurn (outer.filterMap (·.frame)) g g' → Std A₀ base outer h₀ L m g' h' gn' (inLedO own C oC' D (obj ys') (news ++ tl')) → Apart wr C D (news ++ tl') → (∀ q ∈ news, ∀ t ∈ tl', q.1 ≠ t.1) → Inv (i + 1) ys' tl' → K ⟨h', gn', s.drawn, tk', s.os⟩) →
      (∀ q ∈ news, ∀ t ∈ tl, q.1 ≠ t.1) → body C D K N ⟨h, gn, s.drawn, tk, s.os⟩)
    (hst : St 0 s.heap) (hown : own₀.map (·.1) = wr) (S : Std A₀ base outer h₀ L m g₁ s.heap s.gens (own₀ ++ news)) (hJn : ∀ q ∈ news, q.1 ∉ wr) (hI : Inv 0 y₀ [])
    (hRR : ∀ D C g h gn tk ys tl mc, KtsTurn (outer.filterMap (·.frame)) g₁ g → Std A₀ base outer h₀ L m g h gn ((D, obj ys) :: (news ++ tl)) → (∀ q ∈ (D, obj ys) :: (news ++ tl), q.1 ≠ C) → C ≠ L → g.get? C = none → h.Ns C mc → (∀ q ∈ news, q.1 < D) → L < D → (∀ q ∈ news, ∀ t ∈ tl, q.1 ≠ t.1) → Inv n ys tl → RR (.ref D) C (.ok .next) ⟨h, gn, s.drawn, tk, s.os⟩) :
    wpAny (model prog w) A newDict (fun acc s₃ => wpAny (model prog w) A (newFunctionEnv scope env.globals cl [] env.qual none .none (some env)) (fun cenv s₄ =>
      codeAny (model prog w) A (.compStart (.DictComp kx vx (⟨target, iter, ifs, 0⟩ :: gs) scope pos) 0 (.ref J) acc { cenv with scope := relabel scope env }) (RR acc cenv.locals) s₄) E s₃) E s := by
  refine wpAny_newObj_type (wpAny_newFunctionEnv hcell (by intro y hy; simp at hy) (fun h₁ hns₁ hsb₁ => ?_) hkind)
  dsimp only at hns₁ hsb₁ ⊢
  generalize hH2 : s.heap.push { cls := .type "dict", dict := none, data := .dict #[] } = H2 at hns₁ hsb₁ ⊢
  have hC : H2.objs.size = s.heap.objs.size + 1 := by rw [← hH2, Heap.size_push]
  have hDC : s.heap.objs.size ≠ H2.objs.size := by rw [hC]; exact Nat.ne_of_lt (Nat.lt_succ_self _)
  have below : ∀ b, b < s.heap.objs.size → b ≠ H2.objs.size ∧ b ≠ s.heap.objs.size := fun b hb => ⟨by rw [hC]; exact Nat.ne_of_lt (Nat.lt_succ_of_lt hb), Nat.ne_of_lt hb⟩
  have old : ∀ b o, s.heap.get? b = some o → h₁.get? b = some o := fun b o e => hsb₁.extBut b o (below b (Heap.lt_size e)).1 (Heap.get?_push_of_some _ (hH2 ▸ Heap.get?_push_of_some _ e))
  have hacc : h₁.get? s.heap.objs.size = some (obj y₀) := hobj ▸ hsb₁.extBut _ _ hDC (Heap.get?_push_of_some _ (hH2 ▸ Heap.get?_push_size _ rfl))
  have hst₁ : St 0 h₁ := W.frame _ _ _ hst fun b _ o e => old b o e
  have fresh : ∀ a, s.heap.objs.size ≤ a → s.heap.get? a = none := fun a ha => by
    cases e : s.heap.get? a with
    | none => rfl
    | some o' => exact absurd (Heap.lt_size e) (Nat.not_lt.mpr ha)
  have hD₀ : g₁.get? s.heap.objs.size = none := S.new (fresh _ (Nat.le_refl _))
  have hC₀ : g₁.get? H2.objs.size = none := S.new (fresh _ (by rw [hC]; exact Nat.le_succ _))
  have hLlt : L < s.heap.objs.size := S.F.ns.lt
  have hDL : s.heap.objs.size ≠ L := Ne.symm (below L hLlt).2
  have hCL : H2.objs.size ≠ L := Ne.symm (below L hLlt).1
  have NJ : ∀ b ∈ wr, b < s.heap.objs.size ∧ b ≠ L ∧ g₁.get? b = none := fun b hb => by
    rw [← hown] at hb
    obtain ⟨q, hq, rfl⟩ := List.mem_map.mp hb
    have x := S.N q (List.mem_append_left _ hq)
    exact ⟨Heap.lt_size x.1, x.2⟩
  have nlt : ∀ q ∈ news, q.1 < s.heap.objs.size := fun q hq => Heap.lt_size (S.N q (List.mem_append_right _ hq)).1
  have ap : Apart wr H2.objs.size s.heap.objs.size news := ⟨fun q hq => ⟨hJn q hq, (below _ (nlt q hq)).1, (below _ (nlt q hq)).2⟩, fun hb => (below _ (NJ _ hb).1).1 rfl, fun hb => (below _ (NJ _ hb).1).2 rfl, hDC.symm⟩
  have S₁ : Std A₀ base outer h₀ L m g₁ h₁ s.gens ((s.heap.objs.size, obj y₀) :: news) := ((S.grow old).cut fun q hq => List.mem_append_right _ hq).add hacc hDL hD₀
  have loop : ∀ s₃ : Shared, s₃ = { s with heap := h₁, toks := s.toks + ([] : List (Str × Value)).length } →
      codeAny (model prog w) A (.compLoop (.DictComp kx vx (⟨target, iter, ifs, 0⟩ :: gs) scope pos) 0 (.ref J) (.ref s.heap.objs.size) (compEnvC scope cl H2.objs.size env))
        (RR (.ref s.heap.objs.size) H2.objs.size) s₃ := by
    rintro s₃ rfl
    refine comp_core (obj := obj) (s := { s with heap := h₁, toks := s.toks + ([] : List (Str × Value)).length }) (cenv := compEnvC scope cl H2.objs.size env) W (EM H2.objs.size s.heap.objs.size _) hfp hJo (fun i v s mc Q E hP hq hn k => hassign H2.objs.size i v s mc Q E hP hq hn k)
      (fun i own oC mc h gn tk g ys tl K N hi hw hB hO hT hS hA hI k ord => ?_) hst₁ hns₁ hCL hC₀ S₁ (fun b hb => (NJ b hb).2.1) (fun b hb => (NJ b hb).2.2) ap hI
      (fun g h gn tk ys tl mc hT hS hA hn ord hI => ?_)
    · exact hbody H2.objs.size s.heap.objs.size i own oC mc h gn tk g ys tl K N nlt hi hw hB hO hT hS hA hI k ord
    · refine hRR _ _ g h gn tk ys tl mc hT hS (fun q hq => ?_) hCL (hT.none_ _ hC₀) hn nlt hLlt ord hI
      rcases List.mem_cons.mp hq with rfl | hq
      · exact hDC
      · exact (hA.off q hq).2.1
  exact codeAny_compStart_dict (loop _ rfl) (hself 0 _ _ _ hst₁ (loop _ rfl))
end
section
variable {w : World} {p : Program} {loose : List Str} {mean : ExcName → Option Value} {mg mb : Str → Option Value}
  {A A₀ : Around} {h₀ g₁ base : Heap} {outer : List Env} {L : Addr} {m : Str → Option Value} {s : Shared} {E : Value → Shared → Prop}
theorem comp_d {M : Model} {kx vx iter target : Expr} {ifs : List Expr} {gs : List Comprehension} {scope : Scope} {cl : List (Str × Addr)} {pos : Pos} {env : Env} {Q : Value → Shared → Prop}
    (hclos : closureFor scope env = pure cl) (hkind : scope.kind = .function) (hnames : ∀ y ∈ scope.names, y.2 = .local → scope.names.lookup y.1 = some .local)
    (hs : ∀ x, foldedSetIterable iter env x = pure x)
    (h : wpAny M A (eval iter env) (fun x s₁ => wpAny M A (pyIter x) (fun it s₂ => wpAny M A newDict (fun acc s₃ =>
      wpAny M A (newFunctionEnv scope env.globals cl [] env.qual none .none (some env)) (fun cenv s₄ =>
        codeAny M A (.compStart (.DictComp kx vx (⟨target, iter, ifs, 0⟩ :: gs) scope pos) 0 it acc { cenv with scope := relabel scope env }) (compPost M A E none Q acc cenv.locals) s₄) E s₃) E s₂) E s₁) E s) :
    wpAny M A (eval (.DictComp kx vx (⟨target, iter, ifs, 0⟩ :: gs) scope pos) env) Q E s := by
  rw [arm_eval_DictComp]
  exact wpAny_comprehension_free (use := none) rfl hs hclos hkind hnames h
/-- one entry -/
def EltD (w : World) (p : Program) (loose : List Str) (mean : ExcName → Option Value) (mg mb : Str → Option Value) (A A₀ : Around) (base : Heap) (outer : List Env) (L : Addr) (m : Str → Option Value) (kx vx : Expr) (scope : Scope) (cl : List (Str × Addr)) (env : Env)
    (Bnd : Nat → (Str → Option Value) → Prop) (n : Nat) (news : Led) (Inv : Nat → List (Str × Tok × Doc) → Prop) (s : Shared) : Prop :=
  ∀ i own C oC D mc h gn tk g es (Q : Value → Value → Shared → Prop) (E' : Value → Shared → Prop), i < n → Bnd i mc → NsObj oC mc → Fr g L h m → News g L h (inLedO own C oC D (entD w es) news) → Below A₀ base outer g → (hd.heap_1 w.params).In g → Top p loose mean mg mb g → KtsDicts (outer.filterMap (·.frame)) g → AllBare gn → Inv i es → Here news →
    (∀ x t d tk', x ∉ es.map (·.1) → Inv (i + 1) (es ++ [(x, t, d)]) → Q (.str x t) d.val ⟨h, gn, s.drawn, tk', s.os⟩) →
    wpAny (model Challenge.rw_bm0005_01.row.prog w) A (eval kx (compEnvC scope cl C env)) (fun kv s₄ => wpAny (model Challenge.rw_bm0005_01.row.prog w) A (eval vx (compEnvC scope cl C env)) (fun vv s₅ => Q kv vv s₅) E' s₄) E' ⟨h, gn, s.drawn, tk, s.os⟩
theorem elt_bodyD {kx vx : Expr} {scope : Scope} {cl : List (Str × Addr)} {env : Env} {Bnd : Nat → (Str → Option Value) → Prop} {n : Nat} {news : Led} {Inv : Nat → List (Str × Tok × Doc) → Prop}
    (XB : (hd.heap_1 w.params).In base) (TB : Top p loose mean mg mb base)
    (EA : EltD w p loose mean mg mb A A₀ base outer L m kx vx scope cl env Bnd n news Inv s) (hlen : ∀ i es, Inv i es → es.length ≤ 100) (wr : List Addr) (C D : Addr)
    (i : Nat) (own : Led) (hw : own.map (·.1) = wr) (oC : Obj) (mc : Str → Option Value) (h : Heap) (gn : Array GenState) (tk : Nat) (g : Heap) (es : List (Str × Tok × Doc)) (tl : Led) (K : Shared → Prop) (N : Value → Shared → Prop)
    (hi : i < n) (hB : Bnd i mc) (hO : NsObj oC mc) (S : Std A₀ base outer h₀ L m g h gn (inLedO own C oC D (entD w es) (news ++ tl))) (ap : Apart wr C D (news ++ tl)) (hI : Inv i es ∧ tl = [])
    (k : ∀ es' tl' oC' mc' h' gn' tk' g', NsObj oC' mc' → KtsTurn (outer.filterMap (·.frame)) g g' → Std A₀ base outer h₀ L m g' h' gn' (inLedO own C oC' D (entD w es') (news ++ tl')) → Apart wr C D (news ++ tl') → (∀ q ∈ news, ∀ t ∈ tl', q.1 ≠ t.1) → (Inv (i + 1) es' ∧ tl' = []) → K ⟨h', gn', s.drawn, tk', s.os⟩) :
    emitD Challenge.rw_bm0005_01.row.prog w A kx vx (compEnvC scope cl C env) D K N ⟨h, gn, s.drawn, tk, s.os⟩ := by
  obtain ⟨hI, rfl⟩ := hI
  have en : news ++ [] = news := List.append_nil _
  rw [en] at S ap
  refine EA i own C oC D mc h gn tk g es (fun kv vv s₅ => wpAny (model Challenge.rw_bm0005_01.row.prog w) A (dictSet D kv vv) (fun _ s₆ => K s₆) N s₅) N hi hB hO S.F S.N S.B (XB.keeps S.B.stays) (TB.keeps S.B.stays) S.D S.gens hI (here _) fun x t d tk' hx hI' => ?_
  have zD := S.N (D, entD w es) (List.mem_append_right _ (List.mem_cons_of_mem _ List.mem_cons_self))
  have inw : ∀ q ∈ own, q.1 ∈ wr := fun q hq => hw ▸ List.mem_map_of_mem hq
  refine dictSet_new (d := d) zD.1 hx (hlen _ _ hI) fun h₅ hs₅ hD₅ => ?_
  have S₅ := (S.cut (M' := own ++ (C, oC) :: news) fun q hq => by
    rcases List.mem_append.mp hq with hq | hq
    · exact List.mem_append_left _ hq
    · rcases List.mem_cons.mp hq with rfl | hq
      · exact List.mem_append_right _ List.mem_cons_self
      · exact List.mem_append_right _ (List.mem_cons_of_mem _ (List.mem_cons_of_mem _ hq))).but (wr := [D]) (h' := h₅) (fun b o hb e => hs₅.extBut b o (fun z => hb (List.mem_singleton.mpr z)) e) (fun b hb => by rw [List.mem_singleton.mp hb]; exact zD.2.2) (fun hb => zD.2.1 (List.mem_singleton.mp hb).symm) (fun q hq hb => by
      have hb := List.mem_singleton.mp hb
      rcases List.mem_append.mp hq with hq | hq
      · exact ap.wd (hb ▸ inw q hq)
      · rcases List.mem_cons.mp hq with rfl | hq
        · exact ap.cd hb
        · exact (ap.off q hq).2.2 hb)
  have S₆ := S₅.add hD₅ zD.2.1 zD.2.2
  refine k (es ++ [(x, t, d)]) [] oC mc h₅ gn _ g hO .refl (S₆.cut fun q hq => ?_) (by rw [en]; exact ap) (fun _ _ _ h => by cases h) ⟨hI', rfl⟩
  rw [en] at hq
  rcases List.mem_append.mp hq with hq | hq
  · exact List.mem_cons_of_mem _ (List.mem_append_left _ hq)
  · rcases List.mem_cons.mp hq with rfl | hq
    · exact List.mem_cons_of_mem _ (List.mem_append_right _ List.mem_cons_self)
    · rcases List.mem_cons.mp hq with rfl | hq
      · exact List.mem_cons_self
      · exact List.mem_cons_of_mem _ (List.mem_append_right _ (List.mem_cons_of_mem _ hq))
def DoneD (w : World) (A₀ : Around) (base : Heap) (outer : List Env) (L : Addr) (m : Str → Option Value) (g₁ : Heap) (news : Led) (s : Shared) (Q : Value → Shared → Prop) (Post : List (Str × Tok × Doc) → Prop) : Prop :=
  ∀ D g h gn tk es, KtsTurn (outer.filterMap (·.frame)) g₁ g → Fr g L h m → News g L h ((D, entD w es) :: news) → Below A₀ base outer g → KtsDicts (outer.filterMap (·.frame)) g → AllBare gn → (∀ q ∈ news, q.1 < D) → L < D → Post es → Q (.ref D) ⟨h, gn, s.drawn, tk, s.os⟩
/-- a dict comprehension over an enumerated list -/
theorem enumD {kx vx iter : Expr} {x₁ x₂ : Str} {px₁ px₂ tp : Pos} {kk : Nat} {scope : Scope} {cl : List (Str × Addr)} {pos : Pos} {env : Env} {it e : Addr} {oi : Obj} {news : Led} (Inv : Nat → List (Str × Tok × Doc) → Prop) {Q : Value → Shared → Prop} {ax : Addr} {vs : List Value} {nn : Nat}
    (F : Fr g₁ L s.heap m) (B : Below A₀ base outer g₁) (XB : (hd.heap_1 w.params).In base) (TB : Top p loose mean mg mb base) (Dk : KtsDicts (outer.filterMap (·.frame)) g₁) (N : News g₁ L s.heap ((e, enumO it 0 .none) :: (it, oi) :: news)) (hb : AllBare s.gens) (hh : A.handled = none)
    (hoi : LitO oi ax) (hlt₁ : ∀ q ∈ news, q.1 < it) (hlt₂ : it < e)
    (hm : (ax, lstO vs nn) ∈ news) (hcell : ∀ y ∈ scope.names, y.2 ≠ .cell) (hkind : scope.kind = .function) (hx₁ : scope.names.lookup x₁ = some .local) (hx₂ : scope.names.lookup x₂ = some .local) (hxx : x₁ ≠ x₂)
    (hlen : ∀ i es, Inv i es → es.length ≤ 100) (hI : Inv 0 [])
    (EA : EltD w p loose mean mg mb A A₀ base outer L m kx vx scope cl env (fun i mc => ∃ t v, vs[i]? = some v ∧ mc x₁ = some (.int i t) ∧ mc x₂ = some v) vs.length news Inv s)
    (fin : DoneD w A₀ base outer L m g₁ news s Q (Inv vs.length)) :
    wpAny (model Challenge.rw_bm0005_01.row.prog w) A (pyIter (.ref e)) (fun it s₂ => wpAny (model Challenge.rw_bm0005_01.row.prog w) A newDict (fun acc s₃ => wpAny (model Challenge.rw_bm0005_01.row.prog w) A (newFunctionEnv scope env.globals cl [] env.qual none .none (some env)) (fun cenv s₄ =>
      codeAny (model Challenge.rw_bm0005_01.row.prog w) A (.compStart (.DictComp kx vx [⟨.Tuple [.Name x₁ px₁, .Name x₂ px₂] kk tp, iter, [], 0⟩] scope pos) 0 it acc { cenv with scope := relabel scope env }) (compPost (model Challenge.rw_bm0005_01.row.prog w) A E none Q acc cenv.locals) s₄) E s₃) E s₂) E s := by
  have ze := N _ List.mem_cons_self
  have zi := N _ (List.mem_cons_of_mem _ List.mem_cons_self)
  have zl := N _ (List.mem_cons_of_mem _ (List.mem_cons_of_mem _ hm))
  have hl := isList_of zl.1
  have hli : ax < it := hlt₁ _ hm
  have hIt : s.heap.IsListIter it ax 0 := ⟨oi, zi.1, hoi.1, hoi.2⟩
  have W := (WalksT.enumerate (prog := Challenge.rw_bm0005_01.row.prog) (w := w) hh e it ax (Nat.ne_of_gt hlt₂) (Nat.ne_of_lt (Nat.lt_trans hli hlt₂)) (Nat.ne_of_lt hli) vs.toArray).toU
  refine wpAny_pyIter_enum ze.1 ?_
  refine comp_blockD (obj := entD w) (y₀ := []) (h₀ := g₁) (own₀ := [(e, _), (it, oi)]) (n := vs.toArray.size) (body := fun C D => emitD _ w A kx vx (compEnvC scope cl C env) D) (Bnd := fun i mc => ∃ t v, vs[i]? = some v ∧ mc x₁ = some (.int i t) ∧ mc x₂ = some v) (Inv := fun i es tl => Inv i es ∧ tl = [])
    (KTurns.ofWalksU W) (fun C D R => emits_dict) rfl (fun i s' Q E st hQ => W.self i s' Q E st hQ)
    (fun b hb => ?_) (fun i h st b hb => ?_) (fun C i v s mc Q E hP hq hn k => ?_)
    hcell hkind (fun C D i own oC mc h gn tk g es tl K Nx _ hi hw hB hO _ hS hA hI k ord => elt_bodyD XB TB EA hlen _ C D i own hw oC mc h gn tk g es tl K Nx (by simpa using hi) hB hO hS hA hI k)
    ⟨⟨.none, ze.1⟩, hIt, hl⟩ rfl ⟨.refl, F, N, B, Dk, hb⟩ (fun q hq hb => ?_) ⟨hI, rfl⟩
    (fun D C g h gn tk es tl mc hT hS offC hCL hC hn hlt hLD ord hI => ?_)
  · rcases List.mem_cons.mp hb with rfl | hb
    · exact .inl (by simp)
    · rcases List.mem_cons.mp hb with rfl | hb
      · exact .inl (by simp)
      · rw [List.mem_singleton.mp hb]; exact .inr ⟨_, hm⟩
  · obtain ⟨⟨old, h1⟩, ⟨o2, h2, _⟩, _⟩ := st
    rcases List.mem_cons.mp hb with rfl | hb
    · exact ⟨_, h1⟩
    · rw [List.mem_singleton.mp hb]; exact ⟨_, h2⟩
  · obtain ⟨T, vals, rfl, ⟨t, x, hx, rfl⟩, hT⟩ := hP
    refine kcp_assign (env := compEnvC scope cl C env) hh hT (lookup_relabel_local hx₁) (lookup_relabel_local hx₂) (by simp [compEnvC, relabel, hkind]) hn fun h' tk hn' hk => k h' tk _ hn' ⟨t, x, by simpa using hx, by simp [hxx], by simp⟩ hk
  · rcases List.mem_cons.mp hb with h | hb
    · exact absurd (hlt₁ q hq) (by rw [h]; exact Nat.not_lt.mpr (Nat.le_of_lt hlt₂))
    · exact absurd (hlt₁ q hq) (by rw [List.mem_singleton.mp hb]; exact Nat.lt_irrefl _)
  · obtain ⟨hI, rfl⟩ := hI
    rw [List.append_nil] at hS offC
    refine ⟨mc, hn, fun h'' hs'' => ?_⟩
    have S' := hS.but (wr := [C]) (h' := h'') (fun b o hb e => hs''.extBut b o (fun z => hb (List.mem_singleton.mpr z)) e) (fun b hb => by rw [List.mem_singleton.mp hb]; exact hC) (fun hb => hCL (List.mem_singleton.mp hb).symm) (fun q hq hb => offC q hq (List.mem_singleton.mp hb))
    exact fin D g h'' gn tk es hT S'.F S'.N S'.B S'.D S'.gens hlt hLD (by simpa using hI)
end
end
section
open PyProof.Rows.LCg
-- a comprehension whose element may grow the table 708
section
variable {w : World} {p : Program} {loose : List Str} {mean : ExcName → Option Value} {mg mb : Str → Option Value}
  {A A₀ : Around} {h₀ g₁ base : Heap} {outer : List Env} {L : Addr} {m : Str → Option Value} {s : Shared} {E : Value → Shared → Prop}
/-- the tail of the ledger: the table, and what was made -/
structure TabTl (news tl : Led) (ps : Array Value) (tl₀ : Led) : Prop where
  eq : tl = tabE ps :: tl₀
  offn : ∀ q ∈ news, q.1 ≠ 708
  off : ∀ q ∈ tl₀, q.1 ≠ 708
  tri : TriplesOk ps.toList
def HandsP (A₀ : Around) (base : Heap) (outer : List Env) (L : Addr) (m : Str → Option Value) (g : Heap) (M : Led) (s : Shared) (Q : Value → Shared → Prop) (Post : Led → Value → Prop) : Prop :=
  ∀ r tl h' gn tk g' ps', KtsTurn (outer.filterMap (·.frame)) g g' → Fr g' L h' m → News g' L h' (tabE ps' :: (M ++ tl)) → Below A₀ base outer g' → KtsDicts (outer.filterMap (·.frame)) g' → AllBare gn → (∀ q ∈ M, ∀ t ∈ tl, q.1 ≠ t.1) → (∀ t ∈ tl, t.1 ≠ 708) → TriplesOk ps'.toList → Post tl r → Q r ⟨h', gn, s.drawn, tk, s.os⟩
theorem handsP_end {g g' h' : Heap} {M M' tl : Led} {Q : Value → Shared → Prop} {Post : Led → Value → Prop} {r : Value} {gn : Array GenState} {tk : Nat} {dr : Drawn} {os : OsState} {ps' : Array Value} (k : HandsP A₀ base outer L m g M s Q Post) (e1 : s.drawn = dr) (e2 : s.os = os)
    (T : KtsTurn (outer.filterMap (·.frame)) g g') (F : Fr g' L h' m) (N : News g' L h' (tabE ps' :: M')) (B : Below A₀ base outer g') (D : KtsDicts (outer.filterMap (·.frame)) g') (hb : AllBare gn) (S : Split M' M tl) (o7 : ∀ q ∈ M', q.1 ≠ 708) (ht : TriplesOk ps'.toList) (post : Post tl r) : Q r ⟨h', gn, dr, tk, os⟩ := e1 ▸ e2 ▸
  k r tl h' gn tk g' ps' T F (fun q hq => by
    rcases List.mem_cons.mp hq with rfl | hq
    · exact N _ List.mem_cons_self
    · exact N q (List.mem_cons_of_mem _ (S.mem q hq))) B D hb S.ord (fun t ht => o7 t (S.mem t (List.mem_append.mpr (.inr ht)))) ht post
/-- one element -/
def EltAtP (w : World) (p : Program) (loose : List Str) (mean : ExcName → Option Value) (mg mb : Str → Option Value) (A A₀ : Around) (base : Heap) (outer : List Env) (h₀ : Heap) (L : Addr) (m : Str → Option Value) (elt : Expr) (scope : Scope) (cl : List (Str × Addr)) (env : Env)
    (Bnd : Nat → (Str → Option Value) → Prop) (n : Nat) (news : Led) (Inv : Nat → List Value → Prop) (s : Shared) : Prop :=
  ∀ i own C oC D mc h gn tk g ys tl ps (Q : Value → Shared → Prop) (E' : Value → Shared → Prop), i < n → Bnd i mc → NsObj oC mc → Fr g L h m → News g L h (tabE ps :: inLed own C oC D ys (news ++ tl)) → Below A₀ base outer g → (hd.heap_1 w.params).In g → Top p loose mean mg mb g → KtsDicts (outer.filterMap (·.frame)) g → AllBare gn → Inv i ys →
    (∀ q ∈ inLed own C oC D ys (news ++ tl), q.1 ≠ 708) → TriplesOk ps.toList → Here (news ++ tl) →
    HandsP A₀ base outer L m g (inLed own C oC D ys (news ++ tl)) s Q (fun _ y => Inv (i + 1) (ys ++ [y])) →
    wpAny (model Challenge.rw_bm0005_01.row.prog w) A (eval elt (compEnvC scope cl C env)) Q E' ⟨h, gn, s.drawn, tk, s.os⟩
theorem elt_bodyP {elt : Expr} {scope : Scope} {cl : List (Str × Addr)} {env : Env} {Bnd : Nat → (Str → Option Value) → Prop} {n : Nat} {news : Led} {Inv : Nat → List Value → Prop}
    (XB : (hd.heap_1 w.params).In base) (TB : Top p loose mean mg mb base)
    (EA : EltAtP w p loose mean mg mb A A₀ base outer h₀ L m elt scope cl env Bnd n news Inv s) (hlen : ∀ i ys, Inv i ys → ys.length ≤ sizeLine) (wr : List Addr) (h7 : 708 ∉ wr) (C D : Addr)
    (i : Nat) (own : Led) (hw : own.map (·.1) = wr) (oC : Obj) (mc : Str → Option Value) (h : Heap) (gn : Array GenState) (tk : Nat) (g : Heap) (ys : List Value) (tl : Led) (K : Shared → Prop) (N : Value → Shared → Prop)
    (hi : i < n) (hB : Bnd i mc) (hO : NsObj oC mc) (S : Std A₀ base outer h₀ L m g h gn (inLed own C oC D ys (news ++ tl))) (ap : Apart wr C D (news ++ tl)) (hI : Inv i ys ∧ ∃ ps tl₀, TabTl news tl ps tl₀)
    (k : ∀ ys' tl' oC' mc' h' gn' tk' g', NsObj oC' mc' → KtsTurn (outer.filterMap (·.frame)) g g' → Std A₀ base outer h₀ L m g' h' gn' (inLed own C oC' D ys' (news ++ tl')) → Apart wr C D (news ++ tl') → (∀ q ∈ news, ∀ t ∈ tl', q.1 ≠ t.1) → (Inv (i + 1) ys' ∧ ∃ ps tl₀, TabTl news tl' ps tl₀) → K ⟨h', gn', s.drawn, tk', s.os⟩)
    (ord : ∀ q ∈ news, ∀ t ∈ tl, q.1 ≠ t.1) : emitB Challenge.rw_bm0005_01.row.prog w A [] elt (compEnvC scope cl C env) (.ref D) K N ⟨h, gn, s.drawn, tk, s.os⟩ := by
  have X := XB.keeps S.B.stays
  have T := TB.keeps S.B.stays
  obtain ⟨hI, ps, tl₀, rfl, on, ot, tri⟩ := hI
  have in7 : (708, tabObj ps) ∈ news ++ tabE ps :: tl₀ := List.mem_append.mpr (.inr List.mem_cons_self)
  have inw : ∀ q ∈ own, q.1 ∈ wr := fun q hq => hw ▸ List.mem_map_of_mem hq
  have off7 : ∀ q ∈ inLed own C oC D ys (news ++ tl₀), q.1 ≠ 708 := fun q hq => by
    rcases List.mem_append.mp hq with hq | hq
    · exact fun e => h7 (e ▸ inw q hq)
    · rcases List.mem_cons.mp hq with rfl | hq
      · exact fun e => (ap.off _ in7).2.1 e.symm
      · rcases List.mem_cons.mp hq with rfl | hq
        · exact fun e => (ap.off _ in7).2.2 e.symm
        · rcases List.mem_append.mp hq with hq | hq
          · exact on q hq
          · exact ot q hq
  have N0 : News g L h (tabE ps :: inLed own C oC D ys (news ++ tl₀)) := fun q hq => S.N q (by
    simp only [inLed, List.mem_cons, List.mem_append] at hq ⊢
    rcases hq with h | h | h | h | h | h
    · exact .inr (.inr (.inr (.inr (.inl h))))
    · exact .inl h
    · exact .inr (.inl h)
    · exact .inr (.inr (.inl h))
    · exact .inr (.inr (.inr (.inl h)))
    · exact .inr (.inr (.inr (.inr (.inr h)))))
  refine wpAny_tests_nil ?_
  simp only [if_true]
  refine EA i own C oC D mc h gn tk g ys tl₀ ps _ _ hi hB hO S.F N0 S.B X T S.D S.gens hI off7 tri (here _) ?_
  intro y tl₂ h' gn' tk' g' ps' T' F' N' B' D' b' o' t7 tri' post
  have S' : Std A₀ base outer h₀ L m g' h' gn' (inLed own C oC D ys (news ++ (tabE ps' :: (tl₀ ++ tl₂)))) := ⟨S.T.trans T', F', fun q hq => N' q (by
    simp only [inLed, List.mem_cons, List.mem_append] at hq ⊢
    rcases hq with h | h | h | h | h | h | h
    · exact .inr (.inl (.inl h))
    · exact .inr (.inl (.inr (.inl h)))
    · exact .inr (.inl (.inr (.inr (.inl h))))
    · exact .inr (.inl (.inr (.inr (.inr (.inl h)))))
    · exact .inl h
    · exact .inr (.inl (.inr (.inr (.inr (.inr h)))))
    · exact .inr (.inr h)), B', D', b'⟩
  have ap' : Apart wr C D (news ++ (tabE ps' :: (tl₀ ++ tl₂))) := ⟨fun q hq => by
    simp only [List.mem_cons, List.mem_append] at hq
    rcases hq with h | h | h | h
    · exact ap.off q (List.mem_append.mpr (.inl h))
    · have := ap.off _ in7; rw [h]; exact this
    · exact ap.off q (List.mem_append.mpr (.inr (List.mem_cons_of_mem _ h)))
    · refine ⟨fun hb => ?_, (o' (C, oC) (by simp) q h).symm, (o' (D, lst ys) (by simp) q h).symm⟩
      rw [← hw] at hb
      obtain ⟨p, hp, e⟩ := List.mem_map.mp hb
      exact o' p (List.mem_append_left _ hp) q h e, ap.wc, ap.wd, ap.cd⟩
  have zD := S'.N (D, lst ys) (List.mem_append_right _ (List.mem_cons_of_mem _ List.mem_cons_self))
  refine append_at (hsz := by show ys.toArray.size ≤ sizeLine; rw [List.size_toArray]; exact hlen _ _ hI) zD.1 fun h₅ hs₅ hD₅ => ?_
  have S₅ := (S'.cut (M' := own ++ (C, oC) :: (news ++ (tabE ps' :: (tl₀ ++ tl₂)))) fun q hq => by
    rcases List.mem_append.mp hq with hq | hq
    · exact List.mem_append_left _ hq
    · rcases List.mem_cons.mp hq with rfl | hq
      · exact List.mem_append_right _ List.mem_cons_self
      · exact List.mem_append_right _ (List.mem_cons_of_mem _ (List.mem_cons_of_mem _ hq))).but (wr := [D]) (fun b o hb e => hs₅.extBut b o (fun z => hb (List.mem_singleton.mpr z)) e) (fun b hb => by rw [List.mem_singleton.mp hb]; exact zD.2.2) (fun hb => zD.2.1 (List.mem_singleton.mp hb).symm) (fun q hq hb => by
      have hb := List.mem_singleton.mp hb
      rcases List.mem_append.mp hq with hq | hq
      · exact ap'.wd (hb ▸ inw q hq)
      · rcases List.mem_cons.mp hq with rfl | hq
        · exact ap'.cd hb
        · exact (ap'.off q hq).2.2 hb)
  have S₆ := S₅.add (hD₅.trans (congrArg some (lst_snoc ys y))) zD.2.1 zD.2.2
  refine k (ys ++ [y]) (tabE ps' :: (tl₀ ++ tl₂)) oC mc h₅ gn' tk' g' hO T' (S₆.cut fun q hq => ?_) ap' (fun q hq t ht => ?_) ⟨post, ps', tl₀ ++ tl₂, rfl, on, off_app ot t7, tri'⟩
  · rcases List.mem_append.mp hq with hq | hq
    · exact List.mem_cons_of_mem _ (List.mem_append_left _ hq)
    · rcases List.mem_cons.mp hq with rfl | hq
      · exact List.mem_cons_of_mem _ (List.mem_append_right _ List.mem_cons_self)
      · rcases List.mem_cons.mp hq with rfl | hq
        · exact List.mem_cons_self
        · exact List.mem_cons_of_mem _ (List.mem_append_right _ (List.mem_cons_of_mem _ hq))
  · rcases List.mem_cons.mp ht with rfl | ht
    · exact on q hq
    · rcases List.mem_append.mp ht with ht | ht
      · exact ord q hq t (List.mem_cons_of_mem _ ht)
      · exact o' q (List.mem_append_right _ (List.mem_cons_of_mem _ (List.mem_cons_of_mem _ (List.mem_append.mpr (.inl hq))))) t ht
/-- the end -/
def DoneP (w : World) (p : Program) (loose : List Str) (mean : ExcName → Option Value) (mg mb : Str → Option Value) (A₀ : Around) (base : Heap) (outer : List Env) (L : Addr) (m : Str → Option Value) (g₁ : Heap) (news : Led) (s : Shared) (Q : Value → Shared → Prop) (Post : List Value → Prop) : Prop :=
  ∀ D g h gn tk ys tl ps, KtsTurn (outer.filterMap (·.frame)) g₁ g → Fr g L h m → News g L h (tabE ps :: (D, lst ys) :: (news ++ tl)) → Below A₀ base outer g → (hd.heap_1 w.params).In g → Top p loose mean mg mb g → KtsDicts (outer.filterMap (·.frame)) g → AllBare gn → (∀ q ∈ news, q.1 < D) → (∀ q ∈ news, ∀ t ∈ tl, q.1 ≠ t.1) → (∀ q ∈ (D, lst ys) :: (news ++ tl), q.1 ≠ 708) → TriplesOk ps.toList → Post ys → Q (.ref D) ⟨h, gn, s.drawn, tk, s.os⟩
end
section
variable {w : World} {p : Program} {loose : List Str} {mean : ExcName → Option Value} {mg mb : Str → Option Value}
  {A A₀ : Around} {g₁ base : Heap} {outer : List Env} {L : Addr} {m : Str → Option Value} {s : Shared} {E : Value → Shared → Prop}
theorem listP {elt iter : Expr} {x : Str} {px : Pos} {scope : Scope} {cl : List (Str × Addr)} {pos : Pos} {env : Env} {news : Led} (Inv : Nat → List Value → Prop) {Q : Value → Shared → Prop} {ax : Addr} {vs : List Value} {nn : Nat} {ps : Array Value}
    (F : Fr g₁ L s.heap m) (B : Below A₀ base outer g₁) (XB : (hd.heap_1 w.params).In base) (TB : Top p loose mean mg mb base) (Dk : KtsDicts (outer.filterMap (·.frame)) g₁) (N : News g₁ L s.heap (tabE ps :: news)) (off : ∀ q ∈ news, q.1 ≠ 708) (ht : TriplesOk ps.toList) (hb : AllBare s.gens) (hh : A.handled = none)
    (hm : (ax, lstO vs nn) ∈ news) (hcell : ∀ y ∈ scope.names, y.2 ≠ .cell) (hkind : scope.kind = .function) (hx : scope.names.lookup x = some .local)
    (hlen : ∀ i ys, Inv i ys → ys.length ≤ sizeLine) (hI : Inv 0 [])
    (EA : EltAtP w p loose mean mg mb A A₀ base outer g₁ L m elt scope cl env (fun i mc => ∃ v, vs[i]? = some v ∧ mc x = some v) vs.length news Inv s)
    (fin : DoneP w p loose mean mg mb A₀ base outer L m g₁ news s Q (Inv vs.length)) :
    wpAny (model Challenge.rw_bm0005_01.row.prog w) A (pyIter (.ref ax)) (fun it s₂ => wpAny (model Challenge.rw_bm0005_01.row.prog w) A (newList []) (fun acc s₃ => wpAny (model Challenge.rw_bm0005_01.row.prog w) A (newFunctionEnv scope env.globals cl [] env.qual none .none (some env)) (fun cenv s₄ =>
      codeAny (model Challenge.rw_bm0005_01.row.prog w) A (.compStart (.ListComp elt [⟨.Name x px, iter, [], 0⟩] scope pos) 0 it acc { cenv with scope := relabel scope env }) (compPost (model Challenge.rw_bm0005_01.row.prog w) A E none Q acc cenv.locals) s₄) E s₃) E s₂) E s := by
  have hl := isList_of (N _ (List.mem_cons_of_mem _ hm)).1
  have hlt : ax < s.heap.objs.size := Heap.lt_size (N _ (List.mem_cons_of_mem _ hm)).1
  refine wpAny_pyIter_list hl ?_
  have up : ∀ b o, s.heap.get? b = some o → (s.heap.push { cls := .type "list_iterator", data := .fields #[.ref ax, .int 0 0] }).get? b = some o := fun b o e => Heap.get?_push_of_some _ e
  have Nn : News g₁ L s.heap (news ++ [tabE ps]) := fun q hq => N q (by
    rcases List.mem_append.mp hq with hq | hq
    · exact List.mem_cons_of_mem _ hq
    · rw [List.mem_singleton.mp hq]; exact List.mem_cons_self)
  have S₀ : Std A₀ base outer g₁ L m g₁ s.heap s.gens (news ++ [tabE ps]) := ⟨.refl, F, Nn, B, Dk, hb⟩
  have S₁ := (S₀.grow up).add (Heap.get?_push_size s.heap (o := { cls := .type "list_iterator", data := .fields #[.ref ax, .int 0 0] }) rfl) (Nat.ne_of_gt F.ns.lt) (next_is_new F)
  have lt7 : 708 < s.heap.objs.size := Heap.lt_size (N _ List.mem_cons_self).1
  refine comp_blockT (tl₀ := [tabE ps]) (s := { s with heap := s.heap.push { cls := .type "list_iterator", data := .fields #[.ref ax, .int 0 0] } }) (own₀ := [_]) (h₀ := g₁) (n := vs.toArray.size) (body := fun C D => emitB _ w A [] elt (compEnvC scope cl C env) (.ref D)) (Bnd := fun i mc => ∃ v, vs[i]? = some v ∧ mc x = some v) (Inv := fun i ys tl => Inv i ys ∧ ∃ ps tl₀, TabTl news tl ps tl₀)
    (KTurns.ofWalks (target := .Name x px) (Walks.list hh s.heap.objs.size ax (Nat.ne_of_lt hlt) vs.toArray) fun i v s' Q E _ hQ => wpAny_pure hQ) (fun C D R => emits_one) (fun i s' Q E st hQ => (Walks.list hh s.heap.objs.size ax (Nat.ne_of_lt hlt) vs.toArray).self i s' Q E st hQ)
    (fun b hb => ?_) (fun i h st b hb => by rw [List.mem_singleton.mp hb]; obtain ⟨o, e, _⟩ := st.1; exact ⟨o, e⟩) (fun C i v s mc Q E hP _ hn k => assign_name hkind hx C v s mc Q E hn fun h' tk mc' hn' hx' hk => k h' tk mc' hn' ⟨v, by simpa using hP, hx'⟩ hk)
    hcell hkind (fun C D i own oC mc h gn tk g ys tl K Nx _ hi hw hB hO _ hS hA hI k ord => elt_bodyP XB TB EA hlen _ (fun h7 => by rw [List.mem_singleton.mp h7] at lt7; exact Nat.lt_irrefl _ lt7) C D i own hw oC mc h gn tk g ys tl K Nx (by simpa using hi) hB hO hS hA hI k ord)
    ⟨⟨_, Heap.get?_push_size _ rfl, rfl, rfl⟩, hl.push _⟩ rfl S₁ (fun q hq hb => absurd (List.mem_singleton.mp hb) (Nat.ne_of_lt (Heap.lt_size (Nn q hq).1))) (fun q hq t ht' => by rw [List.mem_singleton.mp ht']; exact off q hq) ⟨hI, ps, [], rfl, off, fun _ h => (by cases h), ht⟩
    (fun D C g h gn tk ys tl mc hT hS offC hCL hC hn hlt ord hI => ?_)
  · rcases List.mem_cons.mp hb with rfl | hb
    · exact .inl (List.mem_singleton.mpr rfl)
    · rw [List.mem_singleton.mp hb]; exact .inr ⟨_, hm⟩
  · obtain ⟨hI, ps', tl₀, rfl, on, ot, tri⟩ := hI
    refine ⟨mc, hn, fun h'' hs'' => ?_⟩
    have S' := hS.but (wr := [C]) (h' := h'') (fun b o hb e => hs''.extBut b o (fun z => hb (List.mem_singleton.mpr z)) e) (fun b hb => by rw [List.mem_singleton.mp hb]; exact hC) (fun hb => hCL (List.mem_singleton.mp hb).symm) (fun q hq hb => offC q hq (List.mem_singleton.mp hb))
    have hD7 : D ≠ 708 := fun e => (by
      have h1 := (hS.N _ (List.mem_cons_of_mem _ (List.mem_append.mpr (.inr List.mem_cons_self)))).1
      have h2 := (hS.N _ List.mem_cons_self).1
      rw [e] at h2
      have := Option.some.inj (h1.symm.trans h2)
      exact absurd (congrArg Obj.cls this) (by simp))
    refine fin D g h'' gn tk ys tl₀ ps' hT S'.F (fun q hq => S'.N q ?_) S'.B (XB.keeps S'.B.stays) (TB.keeps S'.B.stays) S'.D S'.gens hlt (fun q hq t ht => ord q hq t (List.mem_cons_of_mem _ ht)) (fun q hq => ?_) tri (by simpa using hI)
    · simp only [List.mem_cons, List.mem_append] at hq ⊢
      rcases hq with h | h | h | h
      · exact .inr (.inr (.inl h))
      · exact .inl h
      · exact .inr (.inl h)
      · exact .inr (.inr (.inr h))
    · rcases List.mem_cons.mp hq with rfl | hq
      · exact hD7
      · rcases List.mem_append.mp hq with hq | hq
        · exact on q hq
        · exact ot q hq
end
end
section
local macro_rules | `(tactic| walk_at "zz0") => `(tactic| skip)
local macro_rules | `(tactic| walk_at "pyReprObj str") => `(tactic| (k_dflt (refine' repr_str ?hx ?_; (case hx => assumption); intro t9' k9')))
theorem empty_of {zs : List Value} {x : List Key} (h : zs.isEmpty = x.isEmpty) (h' : zs.isEmpty = true) : x = [] := by
  rw [h] at h'; cases x <;> first | rfl | simp at h'
theorem nonempty_of {zs : List Value} {x : List Key} (h : zs.isEmpty = x.isEmpty) (h' : zs.isEmpty = false) : x ≠ [] := by
  rw [h] at h'; cases x <;> simp at h' ⊢
theorem plain_any : ∀ x ∈ NAMES, ([Str.ofString "a", Str.ofString "b", Str.ofString "x1"].any fun y => y == x) = plainName x := by decide +kernel
theorem repr_call {w : World} {prog : Program} {A : Around} {s : Shared} {E : Value → Shared → Prop} {x : Str} {t : Tok} {Q : Value → Shared → Prop} (hx : (reprText x).length ≤ 20) (h : ∀ t' k, Q (.str (reprText x) t') { s with toks := k }) : wpAny (model prog w) A (call (.builtin "repr") [.str x t]) Q E s :=
  P.repr_of_str (h _ _) (Nat.le_trans hx (by decide))
theorem str_small {w : World} {prog : Program} {A : Around} {s : Shared} {E : Value → Shared → Prop} {i : Int} {t : Tok} {Q : Value → Shared → Prop} (h1 : -10 ≤ i) (h2 : i ≤ 10) (h : ∀ t' k, Q (.str (Str.ofString (toString i)) t') { s with toks := k }) : wpAny (model prog w) A (call (.type "str") [.int i t]) Q E s :=
  P.str_of_int (log_small h1 h2) (h _ _)
theorem texts_of : ∀ {zs : List Value} {ks : List Key}, Paired (fun v k => ∃ t, v = .str (keyText k) t) zs ks → StrsAre zs (ks.map keyText)
  | _, _, .nil => .nil
  | _, _, .cons ⟨_, rfl⟩ h => .cons _ _ (texts_of h)
theorem texts_sum : ∀ (ks : List Key), (∀ k ∈ ks, KeyOk k) → ((ks.map keyText).map (·.length)).sum ≤ 20 * ks.length
  | [], _ => by simp
  | k :: ks, h => by
    have h1 := (key_text (h k List.mem_cons_self)).2
    have h2 := texts_sum ks fun k' hk => h k' (List.mem_cons_of_mem _ hk)
    simp only [List.map_cons, List.sum_cons, List.length_cons]
    omega
theorem texts_len (ks : List Key) (hl : ks.length ≤ 10) (h : ∀ k ∈ ks, KeyOk k) : ((ks.map keyText).map (·.length)).sum + (ks.map keyText).length ≤ 1048576 := by
  have := texts_sum ks h
  rw [List.length_map]; omega
local macro_rules | `(tactic| walk_at "call builtin:repr") => `(tactic| (k_dflt (refine' repr_call ?hx ?_; (case hx => assumption); intro t9' k9')))
local macro_rules | `(tactic| walk_at "call type:str") => `(tactic| ((with_reducible show wpAny _ _ (call (Value.type "str") [Value.int _ _]) _ _ _); k_dflt (refine' str_small ?h1 ?h2 ?_; (case h1 => assumption); (case h2 => assumption); intro t9' k9')))
local macro_rules | `(tactic| walk_at "compareOp NotEq ref ref") => `(tactic| (k_dflt (refine' ne_nil ?N ?ha ?hb ?u ?_; (case N => k_asm); (case ha => k_mem); (case hb => k_mem); (case u => k_room))))
local macro_rules | `(tactic| walk_at "call builtin:str.join") => `(tactic| (k_dflt (refine' join_led ?N ?hm ?hi ?hs ?hw ?_; (case N => k_asm); (case hm => k_mem); (case hi => assumption); (case hs => decide); (case hw => assumption); intro t9' k9')))
section
variable {w : World} {p : Program} {loose : List Str} {mean : ExcName → Option Value} {mg mb : Str → Option Value}
theorem text_spec : Spec w p loose mean mg mb 781 20 200
    (fun (x : List Key) news args => ∃ a vs n, args = ⟨[.ref a], []⟩ ∧ (a, lstO vs n) ∈ news ∧ Paired KeyVal vs x ∧ x.length ≤ 10 ∧ ∀ k ∈ x, KeyOk k)
    (fun x news r => ∃ t, r = .str (if x = [] then Str.ofString "`this`" else keysText x) t) := by
  intro dp un gd base fr g news s args R x G hdp hun hgn hpre ret
  obtain ⟨a, vs, n, rfl, ha, hk, hl, hok⟩ := hpre
  have KB := G.kb
  have TB := G.tb
  revert KB
  k_fill
  intro KB
  k_dflt walk_at "m_enter"
  k_fold
  with_reducible rename Fr _ _ _ _ => FF9
  replace FF9 := fr_congr (m' := fun y => List.lookup y [(Str.ofString "keys", _)]) FF9 (fun z => congrArg (List.lookup z) rfl)
  walk_at "m_go"
  k_dflt (refine' listI (fun M i ys => Paired (fun v k => ∃ t, v = .str (keyText k) t) ys (x.take i)) ?zF ?zB ?zXB ?zTB ?zD ?zN ?zb ?zhh ?zhm ?zhcell ?zkd ?zhx ?zlen ?zI ?zEA ?zfin; (case zF => k_asm); (case zB => k_asm); (case zXB => assumption); (case zTB => assumption); (case zD => k_asm); (case zN => k_asm); (case zb => assumption); (case zhh => exact rfl); (case zhm => k_mem); (case zhcell => decide); (case zkd => exact rfl); (case zhx => exact rfl))
  case zlen =>
    intro M i ys h9
    have := paired_take_len h9
    exact Nat.le_trans (Nat.le_trans this hl) (by decide)
  case zI => exact fun M => .nil
  case zEA =>
    intro i own C oC D mc h gn tk g2 ys tl Q Z E' hi hB hO F' N' B' X' TP' D' b' hI ord hH kQ kZ
    obtain ⟨v, hv, hmv⟩ := hB
    obtain ⟨k, hkx, hkv⟩ := paired_get hk hv
    have hok9 := hok k (List.mem_of_getElem? hkx)
    refine wpAny_tests_nil ?_
    simp only [if_true]
    cases hkv with
    | name =>
      have hrep := names_repr _ hok9
      walk_at "m_go"
      · (refine' hands_end ?zk ?ze1 ?ze2 ?zT ?zF ?zN ?zB ?zD ?zb ?zS ?_; (case zk => assumption); (case ze1 => exact rfl); (case ze2 => exact rfl); (case zF => k_asm); (case zN => k_asm); (case zB => k_asm); (case zD => k_asm); (case zT => walk_at "m_turn"); (case zb => assumption); (case zS => walk_at "m_split"))
        intro hM
        exact paired_take hI hkx ⟨_, by rw [keyText, nameText, ← plain_any _ hok9, if_pos (by assumption)]⟩
      · (refine' hands_end ?zk ?ze1 ?ze2 ?zT ?zF ?zN ?zB ?zD ?zb ?zS ?_; (case zk => assumption); (case ze1 => exact rfl); (case ze2 => exact rfl); (case zF => k_asm); (case zN => k_asm); (case zB => k_asm); (case zD => k_asm); (case zT => walk_at "m_turn"); (case zb => assumption); (case zS => walk_at "m_split"))
        intro hM
        exact paired_take hI hkx ⟨_, by rw [keyText, nameText, ← plain_any _ hok9, if_neg (by rw [(by assumption : List.any _ _ = false)]; exact Bool.false_ne_true)]⟩
    | place =>
      obtain ⟨ho1, ho2⟩ := hok9
      walk_at "m_go"
      (refine' hands_end ?zk ?ze1 ?ze2 ?zT ?zF ?zN ?zB ?zD ?zb ?zS ?_; (case zk => assumption); (case ze1 => exact rfl); (case ze2 => exact rfl); (case zF => k_asm); (case zN => k_asm); (case zB => k_asm); (case zD => k_asm); (case zT => walk_at "m_turn"); (case zb => assumption); (case zS => walk_at "m_split"))
      intro hM
      exact paired_take hI hkx ⟨_, rfl⟩
  case zfin =>
    refine' blockEnd_a ?ze1 ?ze2 ?ze3 ?_
    case ze1 => exact rfl
    case ze2 => exact rfl
    case ze3 => exact rfl
    intro D2 g3 h3 gn3 tk3 zs tl3 T' F' N' B' D' b' hlt2 ord2 hZ
    have hZ := paired_take_all hZ (by rw [hk.length]; exact Nat.le_refl _)
    have hzs := texts_of hZ
    have hwl := texts_len x hl hok
    have hze : zs.isEmpty = x.isEmpty := by have := hZ.length; cases zs <;> cases x <;> first | rfl | simp at this
    walk_at "m_go"
    · have hx0 : x = [] := empty_of hze (by assumption)
      walk_at "m_fin"
      intro hM
      exact ⟨_, by rw [if_pos hx0]⟩
    · have hx0 : x ≠ [] := nonempty_of hze (by assumption)
      walk_at "m_fin"
      intro hM
      exact ⟨_, by rw [if_neg hx0, keysText, ← StrLaws.glued_eq_join]; rfl⟩
end
end
section
section
variable {prog : Program} {w : World} {A : Around} {s : Shared} {E : Value → Shared → Prop} {h₀ : Heap} {L a : Addr} {M : Led} {vs : List Value} {n : Nat} {Q : Value → Shared → Prop}
theorem len_led (N : News h₀ L s.heap M) (hm : (a, lstO vs n) ∈ M) (hl : vs.length ≤ 100) (h : ∀ tk tk', Q (.int (vs.length : Int) tk') { s with toks := tk }) : wpAny (model prog w) A (call (.builtin "len") [.ref a]) Q E s := by
  have il := isList_of (N _ hm).1
  refine Calls.call_len_list il (by simp only [List.size_toArray]; omega) ?_
  have e2 : (vs.toArray.size : Int) = (vs.length : Int) := by simp
  rw [e2]; exact h _ _
theorem item_ints {x : List Int} {i : Int} {u : Tok} {value slice : Expr} (N : News h₀ L s.heap M) (hm : (a, lstO vs n) ∈ M) (hv : IntsAre vs x) (hl : vs.length ≤ 100) (h0 : 0 ≤ i) (h1 : i < (vs.length : Int)) (h : ∀ j t, x[i.toNat]? = some j → Q (.int j t) s)
    (hs : subscripted slice false (.ref a) (.int i u) = operate [.ref a, .int i u] (getItem (.ref a) (.int i u))) : wpAny (model prog w) A (subscriptTail value slice (.ref a) (.int i u)) Q E s := by
  have il := isList_of (N _ hm).1
  have hlt : i.toNat < vs.length := by omega
  obtain ⟨j, t, e, ex⟩ := intsAt hv (List.getElem?_eq_getElem hlt)
  exact tail_any il.typeIs slot_list_getitem.lookup (wpAny_getItem_list il h0 (by omega) (by simp only [List.getElem?_toArray]; rw [List.getElem?_eq_getElem hlt, e]) (h j t ex)) hs
end
local macro_rules | `(tactic| walk_at "call builtin:len") => `(tactic| ((with_reducible show wpAny _ _ (call _ [Value.ref _]) _ _ _); k_dflt (refine' len_led ?N ?hm ?hl ?_; (case N => k_asm); (case hm => k_mem); (case hl => assumption)); intro tk9 tk8))
local macro_rules | `(tactic| walk_at "subscriptTail Name Name int") => `(tactic| ((with_reducible show wpAny _ _ (subscriptTail _ _ (Value.ref _) (Value.int _ _)) _ _ _); k_dflt (refine' item_ints ?N ?hm ?hv ?hl ?h0 ?h1 ?_ ?hs; (case N => k_asm); (case hm => k_mem); (case hv => assumption); (case hl => assumption); (case hs => with_unfolding_all rfl); (case h0 => omega); (case h1 => assumption)); intro j9 t9 he9))
section
variable {w : World} {p : Program} {loose : List Str} {mean : ExcName → Option Value} {mg mb : Str → Option Value}
theorem at_spec : Spec w p loose mean mg mb 770 20 200
    (fun (x : List Int × Nat) news args => ∃ a vs n t o u, args = ⟨[.ref a, .int (x.2 : Int) t, .int o u], []⟩ ∧ (a, lstO vs n) ∈ news ∧ IntsAre vs x.1 ∧ x.1.length ≤ 63 ∧ x.2 ≤ 10)
    (fun _ news r => ∃ i t, r = .int i t) := by
  intro dp un gd base fr g news s args R x G hdp hun hgn hpre ret
  obtain ⟨a, vs, n, t, o, u, rfl, ha, hv, hl, hk⟩ := hpre
  obtain ⟨x, k⟩ := x
  have KB := G.kb
  have TB := G.tb
  revert KB
  k_fill
  intro KB
  dsimp only at hv hl hk
  have hlen := intsLen hv
  k_dflt walk_at "m_enter"
  k_fold
  with_reducible rename Fr _ _ _ _ => FF9
  replace FF9 := fr_congr (m' := fun y => List.lookup y [(Str.ofString "other", _), (Str.ofString "k", _), (Str.ofString "script", _)]) FF9 (fun z => congrArg (List.lookup z) rfl)
  have hl9 : vs.length ≤ 100 := by omega
  walk_at "m_go"
  · walk_at "m_fin"
    intro hM
    exact ⟨_, _, rfl⟩
  · walk_at "m_fin"
    intro hM
    exact ⟨_, _, rfl⟩
end
end
section
theorem name_inj : ∀ a < 5, ∀ b < 5, nameAt (Int.ofNat a) = nameAt (Int.ofNat b) → a = b := by decide +kernel
theorem key_ne {q : Int} {i j : Nat} (hi : i ≤ 3) (hj : j ≤ 3) (h : i ≠ j) : nameAt ((q + (i : Int)).fmod 5) ≠ nameAt ((q + (j : Int)).fmod 5) := by
  intro e
  rw [Int.fmod_eq_emod_of_nonneg _ (by decide), Int.fmod_eq_emod_of_nonneg _ (by decide)] at e
  have h1 : ((q + (i : Int)) % 5) = Int.ofNat ((q + (i : Int)) % 5).toNat := by simp; omega
  have h2 : ((q + (j : Int)) % 5) = Int.ofNat ((q + (j : Int)) % 5).toNat := by simp; omega
  rw [h1, h2] at e
  have := name_inj _ (by omega) _ (by omega) e
  omega
theorem key_new {q : Int} {es : List (Str × Tok × Doc)} {i : Nat} (hl : es.length = i) (hi : i ≤ 3) (h : ∀ (j : Nat) (e : Str × Tok × Doc), es[j]? = some e → e.1 = nameAt ((q + (j : Int)).fmod 5)) : nameAt ((q + (i : Int)).fmod 5) ∉ es.map (·.1) := by
  intro hm
  obtain ⟨e, he, hx⟩ := List.mem_map.mp hm
  obtain ⟨j, hj⟩ := List.mem_iff_getElem?.mp he
  have hlt := (List.getElem?_eq_some_iff.mp hj).1
  rw [h j e hj] at hx
  exact key_ne (by omega) hi (by omega) hx
theorem key_next {q : Int} {es : List (Str × Tok × Doc)} {i : Nat} {ds : List Doc} {d : Doc} {t : Tok} (h : es.length = i ∧ i ≤ ds.length ∧ ∀ (j : Nat) (e : Str × Tok × Doc), es[j]? = some e → e.1 = nameAt ((q + (j : Int)).fmod 5) ∧ ds[j]? = some e.2.2) (hd : ds[i]? = some d) :
    (es ++ [(nameAt ((q + (i : Int)).fmod 5), t, d)]).length = i + 1 ∧ i + 1 ≤ ds.length ∧ ∀ (j : Nat) (e : Str × Tok × Doc), (es ++ [(nameAt ((q + (i : Int)).fmod 5), t, d)])[j]? = some e → e.1 = nameAt ((q + (j : Int)).fmod 5) ∧ ds[j]? = some e.2.2 := by
  refine ⟨by simp [h.1], (List.getElem?_eq_some_iff.mp hd).1, fun j e hj => ?_⟩
  by_cases hji : j < es.length
  · rw [List.getElem?_append_left hji] at hj
    exact h.2.2 j e hj
  · have hj' := (List.getElem?_eq_some_iff.mp hj).1
    simp only [List.length_append, List.length_singleton] at hj'
    obtain rfl : j = es.length := by omega
    rw [List.getElem?_concat_length] at hj
    cases hj
    rw [h.1]
    exact ⟨rfl, hd⟩
theorem names_nodup {q : Int} {es : List (Str × Tok × Doc)} (hl : es.length ≤ 3) (h : ∀ (j : Nat) (e : Str × Tok × Doc), es[j]? = some e → e.1 = nameAt ((q + (j : Int)).fmod 5)) : (es.map (·.1)).Nodup := by
  match es, hl with
  | [], _ => simp
  | [a], _ => simp
  | [a, b], _ =>
    have h0 := h 0 a rfl; have h1 := h 1 b rfl
    have n01 := key_ne (q := q) (i := 0) (j := 1) (by decide) (by decide) (by decide)
    simp only [List.map_cons, List.map_nil, List.nodup_cons, List.mem_cons, List.not_mem_nil, or_false, not_false_eq_true, List.nodup_nil, and_true]
    rw [h0, h1]; exact n01
  | [a, b, c], _ =>
    have h0 := h 0 a rfl; have h1 := h 1 b rfl; have h2 := h 2 c rfl
    have n01 := key_ne (q := q) (i := 0) (j := 1) (by decide) (by decide) (by decide)
    have n02 := key_ne (q := q) (i := 0) (j := 2) (by decide) (by decide) (by decide)
    have n12 := key_ne (q := q) (i := 1) (j := 2) (by decide) (by decide) (by decide)
    simp only [List.map_cons, List.map_nil, List.nodup_cons, List.mem_cons, List.not_mem_nil, or_false, not_or, not_false_eq_true, List.nodup_nil, and_true]
    rw [h0, h1, h2]; exact ⟨⟨n01, n02⟩, n12⟩
theorem low_new {p : Program} {loose : List Str} {mean : ExcName → Option Value} {mg mb : Str → Option Value} {g h : Heap} {L D : Addr} {m : Str → Option Value} (T : Top p loose mean mg mb g) (F : Fr g L h m) (hLD : L < D) : (D == sysModules) = false := by
  have h1 : mainGlobals < g.objs.size := T.g.lt
  have h2 : g.objs.size ≤ L := F.above
  have h3 : sysModules < mainGlobals := by decide
  exact beq_eq_false_iff_ne.mpr (Nat.ne_of_gt (Nat.lt_trans h3 (Nat.lt_trans (Nat.lt_of_lt_of_le h1 h2) hLD)))
theorem map_if {ns : List Str} {a : Str} {u : Option Value} {m m₁ : Str → Option Value} (ha : a ∈ ns) (h : ∀ z, z ∉ ns → m z = m₁ z) : ∀ z, z ∉ ns → (if z = a then u else m z) = m₁ z := fun z hz => by
  have e : z ≠ a := fun e => hz (by rw [e]; exact ha)
  rw [if_neg e, h z hz]
theorem doc_at {ds : List Doc} {i : Nat} {v : Value} (h : (ds.map Doc.val)[i]? = some v) : ∃ d, ds[i]? = some d ∧ d.val = v := by simpa [List.getElem?_map] using h
end
local macro_rules | `(tactic| walk_at "m_tidy") => `(tactic| ((with_reducible rename Fr _ _ _ _ => F8); (with_reducible rename News _ _ _ _ => N8); (with_reducible rename Below _ _ _ _ => B8); (with_reducible rename KtsDicts _ _ => D8); (with_reducible rename AllBare _ => b8); revert F8 N8 B8 D8 b8; (repeat ((with_reducible rename Fr _ _ _ _ => F8); clear F8)); (repeat ((with_reducible rename News _ _ _ _ => N8); clear N8)); (repeat ((with_reducible rename Below _ _ _ _ => B8); clear B8)); (repeat ((with_reducible rename KtsDicts _ _ => D8); clear D8)); (repeat ((with_reducible rename AllBare _ => b8); clear b8)); intro F8 N8 B8 D8 b8))
local macro_rules | `(tactic| walk_at "ite") => `(tactic| (first
  | (k_closed; k_dflt (first | refine ite_pos (by decide) ?_ | refine ite_neg (by decide) ?_))
  | with_reducible refine ite_tt ?_ | with_reducible refine ite_ff ?_ | (with_reducible refine split_ine ?_ ?_ <;> intro _) | (with_reducible refine split_ieq ?_ ?_ <;> intro _) | with_reducible refine split_not ?_ | (refine split_dec ?_ ?_ <;> intro _) | (refine split_bool ?_ ?_ <;> intro _)))
local macro_rules | `(tactic| walk_at "m_mapD") => `(tactic| ((repeat (refine map_if ?_ ?_; focus (first | exact List.mem_cons_self | exact List.mem_cons_of_mem _ List.mem_cons_self | exact List.mem_cons_of_mem _ (List.mem_cons_of_mem _ List.mem_cons_self) | exact List.mem_cons_of_mem _ (List.mem_cons_of_mem _ (List.mem_cons_of_mem _ List.mem_cons_self))))); exact fun _ _ => rfl))
local macro_rules | `(tactic| walk_at "m_go") => `(tactic| (repeat' (first | (k_unfold; (try dsimp only)) | walk1 | (dsimp only; walk1) | (dsimp only; k_unfold; (try dsimp only)) | (leave1; walk_say "STEP leave1"; try dsimp only) | fail "no step")))
section
local macro_rules | `(tactic| walk_at "compareOp Eq ref ref") => `(tactic| (k_dflt (refine' eq_nil ?N ?ha ?hb ?u ?_; (case N => k_asm); (case ha => k_mem); (case hb => k_mem); (case u => k_room))))
local macro_rules | `(tactic| walk_at "subscriptTail Name Name int") => `(tactic| ((with_reducible show wpAny _ _ (subscriptTail _ _ (Value.ref _) (Value.int _ _)) _ _ _); k_dflt (refine' item_ints ?N ?hm ?hv ?hl ?h0 ?h1 ?_ ?hs; (case N => k_asm); (case hm => k_mem); (case hv => assumption); (case hl => assumption); (case hs => with_unfolding_all rfl); (case h0 => omega); (case h1 => assumption)); intro j9 t9 he9))
local macro_rules | `(tactic| walk_at "exec For Name Call cons nil") => `(tactic| (k_dflt (refine' wpAny_For ?_ ?hs; (case hs => (intro _; rfl)))))
local macro_rules | `(tactic| walk_at "call type:range") => `(tactic| (k_dflt (refine' call_range ?F ?N ?_; (case F => k_asm); (case N => k_asm); intro h' r' tk9 t9' F' N' l')))
local macro_rules | `(tactic| walk_at "eval DictComp") => `(tactic| (k_dflt (refine' comp_d ?cl ?kd ?nm ?hs ?_; (case cl => with_unfolding_all rfl); (case kd => rfl); (case nm => decide); (case hs => (intro _; rfl)))))
local macro_rules | `(tactic| walk_at "call type:enumerate") => `(tactic| ((with_reducible show wpAny _ _ (call _ [Value.ref _]) _ _ _); k_dflt (refine' call_enum ?F ?N ?hm ?_; (case F => k_asm); (case N => k_asm); (case hm => k_mem); intro h' e' it' oi' hoi' F' N' l1' l2')))
section
variable {A₀ : Around} {base : Heap} {outer : List Env} {L : Addr} {s : Shared}
theorem grow_endM {C : (Str → Option Value) → Prop} {P : (Str → Option Value) → Nat → Led → List Value → Prop} {g g' h : Heap} {J D : Addr} {oJ o : Obj} {Q : Flow → Shared → Prop} {m : Str → Option Value} {R tl stuff : Led} {zs zs' : List Value} {n n₂ i : Nat} {gn : Array GenState} {tk : Nat} {dr : Drawn} {os : OsState}
    (k : Nexts A₀ base outer L g J oJ s Q (fun m M => C m ∧ Grow (P m) ((D, o) :: R) i M)) (e1 : s.drawn = dr) (e2 : s.os = os)
    (T : KtsTurn (outer.filterMap (·.frame)) g g') (F : Fr g' L h m) (N : News g' L h ((J, oJ) :: (D, lstO zs' n₂) :: (R ++ tl ++ stuff))) (B : Below A₀ base outer g') (Dk : KtsDicts (outer.filterMap (·.frame)) g') (hb : AllBare gn)
    (offJ : ∀ q ∈ (D, lstO zs n) :: (R ++ tl), q.1 ≠ J) (off : ∀ q ∈ R ++ tl, q.1 ≠ D) (ord : ∀ q ∈ R, ∀ t ∈ tl, q.1 ≠ t.1) (os' : ∀ q ∈ (J, oJ) :: (D, lstO zs n) :: (R ++ tl), ∀ t ∈ stuff, q.1 ≠ t.1)
    (hm : C m) (post : P m i (R ++ tl ++ stuff) zs') : Q .next ⟨h, gn, dr, tk, os⟩ :=
  nexts_end k e1 e2 T F N B Dk hb (fun q hq => hq) (fun q hq => by
    rcases List.mem_cons.mp hq with rfl | hq
    · exact offJ (D, lstO zs n) (by simp)
    · rcases List.mem_append.mp hq with hq | hq
      · exact offJ q (List.mem_cons_of_mem _ hq)
      · exact (os' (J, oJ) (by simp) q hq).symm) ⟨hm, Grow.next off (fun q hq => (os' (D, lstO zs n) (by simp) q hq).symm) ord (fun q hq t ht => os' q (by simp [hq]) t ht) post⟩
end
theorem news_swap {g h : Heap} {L : Addr} {a b : Addr × Obj} {M : Led} (N : News g L h (a :: b :: M)) : News g L h (b :: a :: M) := fun q hq => N q (by
  simp only [List.mem_cons] at hq ⊢
  rcases hq with h | h | h
  · exact .inr (.inl h)
  · exact .inl h
  · exact .inr (.inr h))
section
variable {w : World} {p : Program} {loose : List Str} {mean : ExcName → Option Value} {mg mb : Str → Option Value}
  {A A₀ : Around} {g₁ base : Heap} {outer : List Env} {L : Addr} {m₁ : Str → Option Value} {s : Shared} {E : Value → Shared → Prop}
theorem forRangeZ {x : Str} {px : Pos} {body : List Stmt} {env : Env} {M₁ : Led} (ns : List Str) (Kk : Led → Nat → (Str → Option Value) → Led → Prop) {R : Result → Shared → Prop} {ax : Addr} {z : Int} {k : Nat} {t u : Tok} (hz : z = (k : Int))
    (F : Fr g₁ L s.heap m₁) (B : Below A₀ base outer g₁) (XB : (hd.heap_1 w.params).In base) (TB : Top p loose mean mg mb base) (D : KtsDicts (outer.filterMap (·.frame)) g₁) (N : News g₁ L s.heap M₁) (hb : AllBare s.gens) (hh : A.handled = none)
    (hm : (ax, rangeO z t u) ∈ M₁) (hk : k ≤ 100) (hLe : env.locals = L) (hx : env.kindOf x = some .local) (hp : (env.scope.kind == .class || (env.scope.kind == .module && env.locals != env.globals)) = false)
    (h0 : Kk M₁ 0 m₁ M₁)
    (step : TurnG w p loose mean mg mb A A₀ base outer L g₁ body env (fun i v => ∃ t, v = .int (i : Int) t) k x ns m₁ (Kk M₁) s) (kk : LoopsG A₀ base outer L g₁ s R x ns m₁ (Kk M₁ k)) :
    wpAny (model Challenge.rw_bm0005_01.row.prog w) A (pyIter (.ref ax)) (fun it s₂ => codeAny (model Challenge.rw_bm0005_01.row.prog w) A (.forLoop (.Name x px) it body [] env) R s₂) E s := by
  subst hz
  exact forRangeG ns Kk F B XB TB D N hb hh hm hk hLe hx hp h0 step kk
end
theorem size_nat (z : Int) : ∃ k : Nat, z.fmod 4 = (k : Int) ∧ k ≤ 3 := by
  have h1 := fmod_lo z (n := 4) (by decide)
  have h2 := fmod_hi z (n := 4) (by decide)
  exact ⟨(z.fmod 4).toNat, by omega, by omega⟩
section
variable {w : World} {p : Program} {loose : List Str} {mean : ExcName → Option Value} {mg mb : Str → Option Value}
def DocuPost (w : World) (x : List Int) (news : Led) (r : Value) : Prop := ∃ T d b vs' x' n n', r = .ref T ∧ (T, tupO [Doc.val d, .ref b] n) ∈ news ∧ DocIn w news d ∧ (b, lstO vs' n') ∈ news ∧ IntsAre vs' x' ∧ x'.length ≤ x.length
theorem docu_post {x : List Int} {T b : Addr} {n n' : Nat} {v : Value} {d : Doc} {vs' : List Value} {x' : List Int} {news : Led} (hT : (T, tupO [v, .ref b] n) ∈ news) (hb : (b, lstO vs' n') ∈ news) (hi : IntsAre vs' x') (hl : x'.length ≤ x.length) (hv : d.val = v) (hd : DocIn w news d) : DocuPost w x news (.ref T) := by
  subst hv; exact ⟨T, d, b, vs', x', n, n', rfl, hT, hd, hb, hi, hl⟩
abbrev DocuSpec (w : World) (p : Program) (loose : List Str) (mean : ExcName → Option Value) (mg mb : Str → Option Value) (deep : Nat) : Prop :=
  Spec w p loose mean mg mb 776 (30 * (deep + 1)) (300 * (deep + 1))
    (fun (x : List Int) news args => ∃ a vs n t, args = ⟨[.ref a, .int (deep : Int) t], []⟩ ∧ (a, lstO vs n) ∈ news ∧ IntsAre vs x ∧ x.length ≤ 90)
    (fun x news r => DocuPost w x news r)
end
section
variable {w : World} {p : Program} {loose : List Str} {mean : ExcName → Option Value} {mg mb : Str → Option Value}
  {A A₀ : Around} {base h₀ : Heap} {env : Env} {outer : List Env} {L : Addr} {m : Str → Option Value} {news M : Led} {s : Shared} {Q E : Value → Shared → Prop}
theorem use_docu {d : Nat} {z : Int} {x : List Int} {b : Addr} {vs : List Value} {n : Nat} {t : Tok} (S : DocuSpec w p loose mean mg mb d) (hz : z = (d : Int)) (_hH : Here news) (F : Fr h₀ L s.heap m) (B : Below A₀ base outer h₀) (XB : (hd.heap_1 w.params).In base) (TB : Top p loose mean mg mb base) (D : KtsDicts (outer.filterMap (·.frame)) h₀)
    (N : News h₀ L s.heap M) (sub : ∀ q ∈ news, q ∈ M) (hA : A.frames = some (env :: outer)) (hf : env.frame = some L) (hke : env.scope.kind = .function) (hh : A.handled = none) (hdp : A.depth + 30 * (d + 1) < recursionLimit) (hu : A.units + 300 * (d + 1) < cLine)
    (hb : AllBare s.gens) (hm : (b, lstO vs n) ∈ news) (hv : IntsAre vs x) (hl : x.length ≤ 90)
    (k : Comes w p loose mean mg mb A₀ base outer L m h₀ M s Q (fun tl r => DocuPost w x (news ++ tl) r)) : wpAny (model Challenge.rw_bm0005_01.row.prog w) A (call (.ref 776) [.ref b, .int z t]) Q E s := by
  subst hz
  exact S.call F B XB TB D N sub hA hf hke hh hdp hu hb x ⟨b, vs, n, t, rfl, hm, hv, hl⟩ k
end
local macro_rules | `(tactic| walk_at "call ref") => `(tactic| ((with_reducible show wpAny _ _ (call (Value.ref 776) _) _ _ _); k_dflt (refine' use_docu ?S ?hz ?hH ?F ?B ?XB ?TB ?D ?N ?sub ?A ?f ?ke ?h ?dp ?u ?b ?hm ?hv ?hl ?_; (case S => assumption); (case hz => omega); (case hH => assumption); (case hm => assumption); (case hv => assumption); (case hl => assumption); (case F => k_asm); (case B => k_asm); (case XB => assumption); (case TB => assumption); (case D => k_asm); (case N => k_asm); (case A => exact rfl); (case f => exact rfl); (case ke => exact rfl); (case h => exact rfl); (case dp => k_room); (case u => k_room); (case b => assumption); (case sub => walk_at "m_sub"); intro r' tl' h' gn' tk' g' T' F' N' B' X' TP' D' o' b' P'; skip)))
section
variable {w : World} {p : Program} {loose : List Str} {mean : ExcName → Option Value} {mg mb : Str → Option Value}
theorem docu_nil {deep : Nat} : Spec w p loose mean mg mb 776 30 300
    (fun (_ : Unit) news args => ∃ a n t, args = ⟨[.ref a, .int (deep : Int) t], []⟩ ∧ (a, lstO [] n) ∈ news)
    (fun _ news r => DocuPost w [] news r) := by
  intro dp un gd base fr g news s args R x0 G hdp hun hgn hpre ret
  obtain ⟨a, n, t, rfl, ha⟩ := hpre
  have KB := G.kb
  have TB := G.tb
  revert KB
  k_fill
  intro KB
  k_dflt walk_at "m_enterC"
  try k_fold
  walk_at "m_go"
  walk_at "m_fin"
  intro hM
  exact ⟨_, .leaf .none, _, [], [], _, _, rfl, hM _ (by k_mem), .none, hM _ (by k_mem), .nil, Nat.le_refl _⟩
theorem docu_cons {deep : Nat} (IH : ∀ d, deep = d + 1 → DocuSpec w p loose mean mg mb d) : Spec w p loose mean mg mb 776 (30 * (deep + 1)) (300 * (deep + 1))
    (fun (x : Int × List Int) news args => ∃ a u vs n t, args = ⟨[.ref a, .int (deep : Int) t], []⟩ ∧ (a, lstO (.int x.1 u :: vs) n) ∈ news ∧ IntsAre vs x.2 ∧ x.2.length ≤ 89)
    (fun x news r => DocuPost w (x.1 :: x.2) news r) := by
  intro dp un gd base fr g news s args R x0 G hdp hun hgn hpre ret
  obtain ⟨i, x⟩ := x0
  obtain ⟨a, u, vs, n, t, rfl, ha, hv, hl⟩ := hpre
  have hvc : IntsAre (.int i u :: vs) (i :: x) := .cons i u hv
  have hll : (Value.int i u :: vs).length ≤ 100 := by have e9 := intsLen hv; dsimp only at hl e9; simp only [List.length_cons]; omega
  have KB := G.kb
  have TB := G.tb
  revert KB
  k_fill
  intro KB
  k_dflt walk_at "m_enterC"
  try k_fold
  have hdp1 : dp + 30 * deep + 30 < recursionLimit := by omega
  have hun1 : un + 300 * deep + 300 < cLine := by omega
  walk_at "m_go"
  · walk_at "m_fin"
    intro hM
    exact docu_post (d := .leaf .none) (vs' := []) (x' := []) (hM _ (by k_mem)) (hM _ (by k_mem)) .nil (Nat.zero_le _) (by exact rfl) .none
  · walk_at "m_fin"
    intro hM
    exact docu_post (d := .leaf _) (hM _ (by k_mem)) (hM _ (by k_mem)) (by assumption) (by simp) (by exact rfl) (by exact .int)
  · walk_at "m_fin"
    intro hM
    exact docu_post (d := .leaf _) (hM _ (by k_mem)) (hM _ (by k_mem)) (by assumption) (by simp) (by exact rfl) (by exact .int)
  · walk_at "m_fin"
    intro hM
    exact docu_post (d := .leaf _) (hM _ (by k_mem)) (hM _ (by k_mem)) (by assumption) (by simp) (by exact rfl) (by exact .str)
  · with_reducible rename News _ _ _ _ => NN
    obtain ⟨sz, hsz, hsz3⟩ := size_nat (Int.fdiv ((i :: x).getD (Int.toNat 0) 0) 6)
    have NN := news_swap NN
    obtain ⟨dd, rfl⟩ : ∃ dd, deep = dd + 1 := ⟨deep - 1, by omega⟩
    have IH := IH dd rfl
    have hlx : (List.drop 1 (i :: x)).length ≤ x.length := by simp
    k_dflt (refine' forRangeZ (k := sz) [Str.ofString "one", Str.ofString "rest"] (fun M₁ i9 m M => Grow (fun i M zs => (∃ ds : List Doc, zs = ds.map Doc.val ∧ ds.length = i ∧ ∀ d ∈ ds, DocIn w M d) ∧ ∃ b vs n x', m (Str.ofString "rest") = some (.ref b) ∧ (b, lstO vs n) ∈ M ∧ IntsAre vs x' ∧ x'.length ≤ x.length) M₁ i9 M) ?zhz ?zF ?zB ?zXB ?zTB ?zD ?zN ?zb ?zhh ?zhm ?zhk ?ze ?zhx ?zhp ?zh0 ?zstep ?zkz; (case zhz => exact hsz); (case zF => k_asm); (case zB => k_asm); (case zXB => assumption); (case zTB => assumption); (case zD => k_asm); (case zN => exact NN); (case zb => assumption); (case zhh => exact rfl); (case zhm => k_mem); (case zhk => omega); (case ze => exact rfl); (case zhx => exact rfl); (case zhp => exact rfl))
    case zh0 => exact Grow.start (off_gt (alF (q := (_, W.listOf #[] 0)) (by assumption) List.mem_cons_self) (by walk_at "m_ls")) ⟨⟨[], rfl, rfl, fun _ h => (by cases h)⟩, _, _, _, _, rfl, by k_mem, by assumption, hlx⟩
    case zstep =>
      intro i2 v J oJ m M h gn tk g2 Q E' hi hv' hK T' F' N' B' X' TP' D' b' off k
      walk_at "m_tidy"
      obtain ⟨t2, rfl⟩ := hv'
      obtain ⟨D, o, R, zs, n2, tl, e1, rfl, off1, ord1, ⟨ds, hds, hdl, hdd⟩, rb, rvs, rn, rx, hrm, hrb, hri, hrl⟩ := hK
      cases e1
      have hz9 : zs.length ≤ 90 := by rw [hds, List.length_map]; omega
      have hrl9 : rx.length ≤ 90 := by dsimp only at hl; omega
      have hH9 := here_of off1
      with_reducible rename Fr _ _ _ _ => F8
      simp only [spread, hrm] at F8
      walk_at "m_go"
      obtain ⟨T9, d9, b9, vs9, x9, n8, n9, e9, hT9, hd9, hb9, hi9, hl9⟩ := (by assumption : DocuPost _ _ _ _)
      subst e9
      walk_at "m_go"
      refine' grow_endM ?zk ?ze1 ?ze2 ?zT ?zF ?zN ?zB ?zD ?zb ?zoJ ?zof ?zor ?zos ?zm ?_; (case zk => assumption); (case ze1 => exact rfl); (case ze2 => exact rfl); (case zF => k_asm); (case zN => k_asm); (case zB => k_asm); (case zD => k_asm); (case zT => walk_at "m_turn"); (case zb => assumption); (case zoJ => assumption); (case zof => assumption); (case zor => assumption); (case zos => assumption)
      case zm => walk_at "m_mapD"
      refine ⟨⟨ds ++ [d9], by rw [hds, List.map_append]; rfl, by simp [hdl], fun d hd => ?_⟩, b9, vs9, n9, x9, rfl, ?_, hi9, by omega⟩
      · rcases List.mem_append.mp hd with hd | hd
        · exact (hdd d hd).mono (by walk_at "m_sub")
        · rw [List.mem_singleton.mp hd]; exact DocIn.mono (by assumption) (by walk_at "m_sub")
      · exact (by walk_at "m_sub" : ∀ q ∈ _, q ∈ _) _ hb9
    case zkz =>
      intro g2 h gn tk m M T' F' N' B' D' b' hK
      have X9 := KB.keeps B'.stays
      have TP9 := TB.keeps B'.stays
      walk_at "m_tidy"
      obtain ⟨D, o, R, zs, n2, tl, e1, rfl, off1, ord1, ⟨ds, hds, hdl, hdd⟩, rb, rvs, rn, rx, hrm, hrb, hri, hrl⟩ := hK
      cases e1
      with_reducible rename Fr _ _ _ _ => F8
      simp only [spread, hrm] at F8
      subst hds
      walk_at "m_go"
      · walk_at "m_fin"
        intro hM
        exact docu_post (d := .list _ ds) (hM _ (by k_mem)) (hM _ (by k_mem)) hri (by first | exact Nat.le_succ_of_le hlx | exact Nat.le_succ_of_le hrl) (by exact rfl) (.list (hM _ (by k_mem)) (by omega) fun d hd => (hdd d hd).mono fun q hq => hM q (by (revert q; walk_at "m_sub")))
      · k_dflt (refine' enumD (fun i9 es => es.length = i9 ∧ i9 ≤ ds.length ∧ ∀ (j : Nat) (e : Str × Tok × Doc), es[j]? = some e → e.1 = nameAt ((((i :: x).getD (Int.toNat 0) 0).fdiv 24 + (j : Int)).fmod 5) ∧ ds[j]? = some e.2.2) ?zF ?zB ?zXB ?zTB ?zD ?zN ?zb ?zhh ?zoi ?zl1 ?zl2 ?zhm ?zhcell ?zkd ?zhx1 ?zhx2 ?zhxx ?zlen ?zI ?zEA ?zfin; (case zF => k_asm); (case zB => k_asm); (case zXB => assumption); (case zTB => assumption); (case zD => k_asm); (case zN => k_asm); (case zb => assumption); (case zhh => exact rfl); (case zoi => assumption); (case zl1 => assumption); (case zl2 => assumption); (case zhm => k_mem); (case zhcell => decide); (case zkd => exact rfl); (case zhx1 => exact rfl); (case zhx2 => exact rfl); (case zhxx => decide))
        case zlen => exact fun i9 es h9 => by rw [h9.1]; exact Nat.le_trans h9.2.1 (by omega)
        case zI => exact ⟨rfl, Nat.zero_le _, fun j e h => by simp at h⟩
        case zEA =>
          intro i2 own C oC D mc h gn tk g3 es Q E' hi2 hB hO F' N' B' X' TP' D' b' hI hH kQ
          walk_at "m_tidy"
          obtain ⟨t3, v3, hv3, hm1, hm2⟩ := hB
          obtain ⟨d3, hd3, rfl⟩ : ∃ d3, ds[i2]? = some d3 ∧ d3.val = v3 := doc_at hv3
          walk_at "m_go"
          exact kQ _ _ d3 _ (key_new hI.1 (by rw [List.length_map] at hi2; omega) fun j e h => (hI.2.2 j e h).1) (key_next hI hd3)
        case zfin =>
          intro D2 g3 h3 gn3 tk3 es T' F' N' B' D' b' hlt2 hLD hZ
          walk_at "m_tidy"
          rw [List.length_map] at hZ
          walk_at "m_go"
          walk_at "m_fin"
          intro hM
          exact docu_post (d := .dict _ es) (hM _ (by k_mem)) (hM _ (by k_mem)) hri (by first | exact Nat.le_succ_of_le hlx | exact Nat.le_succ_of_le hrl) (by exact rfl) (.dict (hM _ (by k_mem)) (low_new (TB.keeps (by assumption : Below _ _ _ g3).stays) (by assumption : Fr g3 _ _ _) hLD) (by omega) (names_nodup (by omega) fun j e h => (hZ.2.2 j e h).1) (fun e he => by
            obtain ⟨j, hj⟩ := List.mem_iff_getElem?.mp he
            rw [(hZ.2.2 j e hj).1]; exact nameAt_mem _) fun e he => by
            obtain ⟨j, hj⟩ := List.mem_iff_getElem?.mp he
            exact (hdd _ (List.mem_of_getElem? (hZ.2.2 j e hj).2)).mono fun q hq => hM q (by (revert q; walk_at "m_sub")))
end
end
section
section
variable {w : World} {p : Program} {loose : List Str} {mean : ExcName → Option Value} {mg mb : Str → Option Value}
theorem docu_step {deep : Nat} (IH : ∀ d, deep = d + 1 → DocuSpec w p loose mean mg mb d) : DocuSpec w p loose mean mg mb deep := by
  intro dp un gd base fr g news s args R x G hdp hun hgn hpre ret
  obtain ⟨a, vs, n, t, rfl, ha, hv, hl⟩ := hpre
  cases hv with
  | nil =>
    refine docu_nil (deep := deep) dp un gd base fr g news s _ R () G (Nat.lt_of_le_of_lt (Nat.add_le_add_left (show 30 ≤ 30 * (deep + 1) by omega) _) hdp) (Nat.lt_of_le_of_lt (Nat.add_le_add_left (show 300 ≤ 300 * (deep + 1) by omega) _) hun) hgn ⟨a, n, t, rfl, ha⟩ ret
  | @cons i u vs' x' hv =>
    refine docu_cons (deep := deep) IH dp un gd base fr g news s _ R (i, x') G hdp hun hgn ⟨a, _, vs', n, t, rfl, ha, hv, (by have h9 : x'.length + 1 ≤ 90 := hl; exact Nat.le_of_succ_le_succ h9)⟩ ret
theorem docu_all : ∀ deep, DocuSpec w p loose mean mg mb deep
  | 0 => docu_step fun d h => by cases h
  | n + 1 => docu_step fun d h => by cases h; exact docu_all n
end
end
section
/-- a place in the law's body -/
def LawAt (A₀ : Around) (base : Heap) (fr : List Env) (g : Heap) (L : Addr) (s : Shared) (m : Str → Option Value) (M : Led) (s' : Shared) : Prop :=
  ∃ h gn tk g', s' = ⟨h, gn, s.drawn, tk, s.os⟩ ∧ KtsTurn (fr.filterMap (·.frame)) g g' ∧ Fr g' L h m ∧ News g' L h M ∧ Below A₀ base fr g' ∧ KtsDicts (fr.filterMap (·.frame)) g' ∧ AllBare gn
theorem LawAt.mk {A₀ : Around} {base : Heap} {fr : List Env} {g g' h : Heap} {L : Addr} {s : Shared} {m : Str → Option Value} {M M' : Led} {gn : Array GenState} {tk : Nat} {dr : Drawn} {os : OsState} (e1 : s.drawn = dr) (e2 : s.os = os)
    (F : Fr g' L h m) (N : News g' L h M') (B : Below A₀ base fr g') (D : KtsDicts (fr.filterMap (·.frame)) g') (b : AllBare gn) (T : KtsTurn (fr.filterMap (·.frame)) g g') (hs : ∀ q ∈ M, q ∈ M') : LawAt A₀ base fr g L s m M ⟨h, gn, dr, tk, os⟩ := by
  subst e1 e2
  exact ⟨h, gn, tk, g', rfl, T, F, fun q hq => N q (hs q hq), B, D, b⟩
theorem LawAt.mk0 {A₀ : Around} {base : Heap} {fr : List Env} {g g' h : Heap} {L : Addr} {s : Shared} {m : Str → Option Value} {M : Led} {gn : Array GenState} {tk : Nat} {dr : Drawn} {os : OsState} (e1 : s.drawn = dr) (e2 : s.os = os)
    (F : Fr g' L h m) (N : News g' L h M) (B : Below A₀ base fr g') (D : KtsDicts (fr.filterMap (·.frame)) g') (b : AllBare gn) (T : KtsTurn (fr.filterMap (·.frame)) g g') : LawAt A₀ base fr g L s m M ⟨h, gn, dr, tk, os⟩ := .mk e1 e2 F N B D b T fun _ h => h
def Mid1 (w : World) (A₀ : Around) (base : Heap) (fr : List Env) (g : Heap) (L : Addr) (s : Shared) (m : Str → Option Value) (c : Addr) (a : Addr) (news : Led) (fl : Flow) (s' : Shared) : Prop :=
  fl = .next ∧ ∃ M d oc, LawAt A₀ base fr g L s (fun y => if y = Str.ofString "document" then some (Doc.val d) else m y) M s' ∧ DocIn w M d ∧ (c, oc) ∈ M ∧ oc.data = .cell (some (.ref a)) ∧ ∀ q ∈ news, q ∈ M
theorem at_mono {α : Type} {M : Model} {A : Around} {E : Value → Shared → Prop} {t : Sem α} {g h : Heap} {L : Addr} {m : Str → Option Value} {s : Shared} (Mid : Addr → α → Shared → Prop) {Q : α → Shared → Prop} (_F : Fr g L h m) (h1 : wpAny M A t (Mid L) E s) (h2 : ∀ v s', Mid L v s' → Q v s') : wpAny M A t Q E s := wpAny_mono h1 h2 fun _ _ h => h
theorem chain_find {w : World} {p : Program} {loose : List Str} {mean : ExcName → Option Value} {mg mb : Str → Option Value} {st : List Step} (hg : Good (chainOf .root st) ∨ st = []) (hn : nOf (chainOf .root st) ≤ 300) (hu : uOf (chainOf .root st) ≤ 3000) : Spec w p loose mean mg mb (findOf (chainOf .root st)) 300 3000
    (fun (x : Doc) news args => ∃ v, args = ⟨[v, x.val], []⟩ ∧ PathIn w news v (chainOf .root st) ∧ DocIn w news x) (fun x news r => FindPost w x (walkOf st x) news r) := by
  rcases hg with hg | rfl
  · intro dp un gd base fr g news s args R x G h1 h2 hb hp ret
    obtain ⟨v, rfl, hp, hd⟩ := hp
    refine (Spec.weak (find_all hg) hn hu) dp un gd base fr g news s _ R (x, [], x) G h1 h2 hb ⟨v, x.val, rfl, hp, hd, .raw⟩ ?_
    intro r tl h' gn tk g' G' T o b P
    refine ret r tl h' gn tk g' G' T o b ?_
    have e : under [] ((chainOf .root st).walk x) = (chainOf .root st).walk x := by simp [under]
    dsimp only at P
    rw [e, chain_root] at P; exact P
  · exact Spec.weak root_find (by decide) (by decide)
section
variable {w : World} {p : Program} {loose : List Str} {mean : ExcName → Option Value} {mg mb : Str → Option Value}
  {A A₀ : Around} {base h₀ : Heap} {env : Env} {outer : List Env} {L : Addr} {m : Str → Option Value} {M : Led} {s : Shared} {Q E : Value → Shared → Prop}
theorem use_docu_at {z : Int} {x : List Int} {b : Addr} {vs : List Value} {n : Nat} {t : Tok} (d : Nat) (hz : z = (d : Int)) (F : Fr h₀ L s.heap m) (B : Below A₀ base outer h₀) (XB : (hd.heap_1 w.params).In base) (TB : Top p loose mean mg mb base) (D : KtsDicts (outer.filterMap (·.frame)) h₀)
    (N : News h₀ L s.heap M) (hA : A.frames = some (env :: outer)) (hf : env.frame = some L) (hke : env.scope.kind = .function) (hh : A.handled = none) (hdp : A.depth + 30 * (d + 1) < recursionLimit) (hu : A.units + 300 * (d + 1) < cLine)
    (hb : AllBare s.gens) (hm : (b, lstO vs n) ∈ M) (hv : IntsAre vs x) (hl : x.length ≤ 90)
    (k : Comes w p loose mean mg mb A₀ base outer L m h₀ M s Q (fun tl r => DocuPost w x (M ++ tl) r)) : wpAny (model Challenge.rw_bm0005_01.row.prog w) A (call (.ref 776) [.ref b, .int z t]) Q E s :=
  use_docu (docu_all d) hz (here _) F B XB TB D N (fun q hq => hq) hA hf hke hh hdp hu hb hm hv hl k
theorem use_at {z o : Int} {x : List Int} {a : Addr} {vs : List Value} {n : Nat} {t u : Tok} (k : Nat) (hz : z = (k : Int)) (F : Fr h₀ L s.heap m) (B : Below A₀ base outer h₀) (XB : (hd.heap_1 w.params).In base) (TB : Top p loose mean mg mb base) (D : KtsDicts (outer.filterMap (·.frame)) h₀)
    (N : News h₀ L s.heap M) (hA : A.frames = some (env :: outer)) (hf : env.frame = some L) (hke : env.scope.kind = .function) (hh : A.handled = none) (hdp : A.depth + 20 < recursionLimit) (hu : A.units + 200 < cLine)
    (hb : AllBare s.gens) (hm : (a, lstO vs n) ∈ M) (hv : IntsAre vs x) (hl : x.length ≤ 63) (hk : k ≤ 10)
    (kk : Comes w p loose mean mg mb A₀ base outer L m h₀ M s Q (fun _ r => ∃ i t, r = .int i t)) : wpAny (model Challenge.rw_bm0005_01.row.prog w) A (call (.ref 770) [.ref a, .int z t, .int o u]) Q E s := by
  subst hz
  exact at_spec.call F B XB TB D N (fun q hq => hq) hA hf hke hh hdp hu hb (x, k) ⟨a, vs, n, t, o, u, rfl, hm, hv, hl, hk⟩ kk
theorem use_steps {x : List Int} {a : Addr} {vs : List Value} {n : Nat} (F : Fr h₀ L s.heap m) (B : Below A₀ base outer h₀) (XB : (hd.heap_1 w.params).In base) (TB : Top p loose mean mg mb base) (D : KtsDicts (outer.filterMap (·.frame)) h₀)
    (N : News h₀ L s.heap M) (hA : A.frames = some (env :: outer)) (hf : env.frame = some L) (hke : env.scope.kind = .function) (hh : A.handled = none) (hdp : A.depth + 20 < recursionLimit) (hu : A.units + 200 < cLine)
    (hb : AllBare s.gens) (hm : (a, lstO vs n) ∈ M) (hv : IntsAre vs x) (hl : x.length ≤ 3)
    (kk : Comes w p loose mean mg mb A₀ base outer L m h₀ M s Q (fun tl r => ∃ b ws n st, r = .ref b ∧ (b, lstO ws n) ∈ M ++ tl ∧ st.length = x.length ∧ StepsIn w (M ++ tl) ws st)) : wpAny (model Challenge.rw_bm0005_01.row.prog w) A (call (.ref 788) [.ref a]) Q E s :=
  steps_spec.call F B XB TB D N (fun q hq => hq) hA hf hke hh hdp hu hb x ⟨a, vs, n, rfl, hm, hv, hl⟩ kk
theorem use_walk {st : List Step} {d : Doc} {a : Addr} {ws : List Value} {n : Nat} (F : Fr h₀ L s.heap m) (B : Below A₀ base outer h₀) (XB : (hd.heap_1 w.params).In base) (TB : Top p loose mean mg mb base) (D : KtsDicts (outer.filterMap (·.frame)) h₀)
    (N : News h₀ L s.heap M) (hA : A.frames = some (env :: outer)) (hf : env.frame = some L) (hke : env.scope.kind = .function) (hh : A.handled = none) (hdp : A.depth + 30 < recursionLimit) (hu : A.units + 300 < cLine)
    (hb : AllBare s.gens) (hm : (a, lstO ws n) ∈ M) (hs : StepsIn w M ws st) (hl : st.length ≤ 3) (hd : DocIn w M d)
    (kk : Comes w p loose mean mg mb A₀ base outer L m h₀ M s Q (fun tl r => ∃ b ms n, r = .ref b ∧ (b, lstO ms n) ∈ M ++ tl ∧ MatchesIn w (M ++ tl) ms (walkOf st d))) : wpAny (model Challenge.rw_bm0005_01.row.prog w) A (call (.ref 805) [.ref a, d.val]) Q E s :=
  walk_spec.call F B XB TB D N (fun q hq => hq) hA hf hke hh hdp hu hb (st, d) ⟨a, ws, n, rfl, hm, hs, hl, hd⟩ kk
theorem use_text {ks : List Key} {a : Addr} {ws : List Value} {n : Nat} (F : Fr h₀ L s.heap m) (B : Below A₀ base outer h₀) (XB : (hd.heap_1 w.params).In base) (TB : Top p loose mean mg mb base) (D : KtsDicts (outer.filterMap (·.frame)) h₀)
    (N : News h₀ L s.heap M) (hA : A.frames = some (env :: outer)) (hf : env.frame = some L) (hke : env.scope.kind = .function) (hh : A.handled = none) (hdp : A.depth + 20 < recursionLimit) (hu : A.units + 200 < cLine)
    (hb : AllBare s.gens) (hm : (a, lstO ws n) ∈ M) (hs : Paired KeyVal ws ks) (hl : ks.length ≤ 3) (hd : ∀ k ∈ ks, KeyOk k) (hne : ks ≠ [])
    (kk : Comes w p loose mean mg mb A₀ base outer L m h₀ M s Q (fun _ r => ∃ t, r = .str (keysText ks) t)) : wpAny (model Challenge.rw_bm0005_01.row.prog w) A (call (.ref 781) [.ref a]) Q E s :=
  text_spec.call F B XB TB D N (fun q hq => hq) hA hf hke hh hdp hu hb ks ⟨a, ws, n, rfl, hm, hs, by omega, hd⟩ (by rw [if_neg hne]; exact kk)
theorem use_pathl {st : List Step} {a : Addr} {ws : List Value} {n : Nat} (F : Fr h₀ L s.heap m) (B : Below A₀ base outer h₀) (XB : (hd.heap_1 w.params).In base) (TB : Top p loose mean mg mb base) (D : KtsDicts (outer.filterMap (·.frame)) h₀)
    (N : News h₀ L s.heap M) (hA : A.frames = some (env :: outer)) (hf : env.frame = some L) (hke : env.scope.kind = .function) (hh : A.handled = none) (hdp : A.depth + 30 < recursionLimit) (hu : A.units + 300 < cLine)
    (hb : AllBare s.gens) (hm : (a, lstO ws n) ∈ M) (hs : StepsIn w M ws st)
    (kk : Comes w p loose mean mg mb A₀ base outer L m h₀ M s Q (fun tl r => PathIn w (M ++ tl) r (chainOf .root st))) : wpAny (model Challenge.rw_bm0005_01.row.prog w) A (call (.ref 812) [.ref a]) Q E s :=
  path_spec.call F B XB TB D N (fun q hq => hq) hA hf hke hh hdp hu hb st ⟨a, ws, n, rfl, hm, hs⟩ kk
theorem use_chain {st : List Step} {d : Doc} {v : Value} (S : Spec w p loose mean mg mb (findOf (chainOf .root st)) 300 3000 (fun (x : Doc) news args => ∃ v, args = ⟨[v, x.val], []⟩ ∧ PathIn w news v (chainOf .root st) ∧ DocIn w news x) (fun x news r => FindPost w x (walkOf st x) news r)) (F : Fr h₀ L s.heap m) (B : Below A₀ base outer h₀) (XB : (hd.heap_1 w.params).In base) (TB : Top p loose mean mg mb base) (D : KtsDicts (outer.filterMap (·.frame)) h₀)
    (N : News h₀ L s.heap M) (hA : A.frames = some (env :: outer)) (hf : env.frame = some L) (hke : env.scope.kind = .function) (hh : A.handled = none) (hdp : A.depth + 300 < recursionLimit) (hu : A.units + 3000 < cLine)
    (hb : AllBare s.gens) (hp : PathIn w M v (chainOf .root st)) (hd : DocIn w M d)
    (kk : Comes w p loose mean mg mb A₀ base outer L m h₀ M s Q (fun tl r => FindPost w d (walkOf st d) (M ++ tl) r)) : wpAny (model Challenge.rw_bm0005_01.row.prog w) A (call (.ref (findOf (chainOf .root st))) [v, d.val]) Q E s :=
  S.call F B XB TB D N (fun q hq => hq) hA hf hke hh hdp hu hb d ⟨v, rfl, hp, hd⟩ kk
end
abbrev mapD (d : Doc) (m : Str → Option Value) : Str → Option Value := fun y => if y = Str.ofString "document" then some d.val else m y
abbrev mapS (sa : Addr) (m : Str → Option Value) : Str → Option Value := fun y => if y = Str.ofString "steps" then some (.ref sa) else m y
def Mid2 (w : World) (A₀ : Around) (base : Heap) (fr : List Env) (g : Heap) (L : Addr) (s : Shared) (m : Str → Option Value) (news : Led) (fl : Flow) (s' : Shared) : Prop :=
  fl = .next ∧ ∃ M d sa ws n st, LawAt A₀ base fr g L s (mapS sa (mapD d m)) M s' ∧ DocIn w M d ∧ (sa, lstO ws n) ∈ M ∧ StepsIn w M ws st ∧ st.length ≤ 3 ∧ ∀ q ∈ news, q ∈ M
section
variable {w : World} {p : Program} {loose : List Str} {mean : ExcName → Option Value} {mg mb : Str → Option Value}
  {A A₀ : Around} {g₁ base : Heap} {outer : List Env} {L : Addr} {m : Str → Option Value} {s : Shared} {E : Value → Shared → Prop} {news : Led}
theorem rangeZ {elt iter : Expr} {x : Str} {px : Pos} {ifs : List Expr} {scope : Scope} {cl : List (Str × Addr)} {pos : Pos} {env : Env} (J : Led → Nat → List Value → Prop) {RR : Value → Addr → Result → Shared → Prop} {ax : Addr} {z : Int} {k : Nat} {t u : Tok} (hz : z = (k : Int))
    (F : Fr g₁ L s.heap m) (B : Below A₀ base outer g₁) (XB : (hd.heap_1 w.params).In base) (TB : Top p loose mean mg mb base) (Dk : KtsDicts (outer.filterMap (·.frame)) g₁) (N : News g₁ L s.heap news) (hb : AllBare s.gens) (hh : A.handled = none)
    (hm : (ax, rangeO z t u) ∈ news) (hk : k ≤ 100) (hcell : ∀ y ∈ scope.names, y.2 ≠ .cell) (hkind : scope.kind = .function) (hx : scope.names.lookup x = some .local)
    (hlen : ∀ M i ys, J M i ys → ys.length ≤ sizeLine) (hI : ∀ M, J M 0 [])
    (EA : EltAt w p loose mean mg mb A A₀ base outer g₁ L m ifs elt scope cl env (fun i mc => ∃ t, mc x = some (.int (i : Int) t)) k news (fun i ys tl => J (news ++ tl) i ys) s)
    (fin : BlockEnd A₀ base outer L m g₁ news s k (fun i ys tl => J (news ++ tl) i ys) RR) :
    wpAny (model Challenge.rw_bm0005_01.row.prog w) A (pyIter (.ref ax)) (fun it s₂ => wpAny (model Challenge.rw_bm0005_01.row.prog w) A (newList []) (fun acc s₃ => wpAny (model Challenge.rw_bm0005_01.row.prog w) A (newFunctionEnv scope env.globals cl [] env.qual none .none (some env)) (fun cenv s₄ =>
      codeAny (model Challenge.rw_bm0005_01.row.prog w) A (.compStart (.ListComp elt [⟨.Name x px, iter, ifs, 0⟩] scope pos) 0 it acc { cenv with scope := relabel scope env }) (RR acc cenv.locals) s₄) E s₃) E s₂) E s := by
  subst hz
  exact rangeI J F B XB TB Dk N hb hh hm hk hcell hkind hx hlen hI EA fin
end
theorem ints_snoc {ys : List Value} {xs : List Int} {i : Int} {t : Tok} (h : IntsAre ys xs) : IntsAre (ys ++ [.int i t]) (xs ++ [i]) := by
  induction h with
  | nil => exact .cons _ _ .nil
  | cons j u _ ih => exact .cons j u ih
theorem fmod_nat (z : Int) : z.fmod 4 = (((z.fmod 4).toNat : Nat) : Int) := by
  have h1 := fmod_lo z (n := 4) (by decide)
  omega
theorem fmod_le (z : Int) : (z.fmod 4).toNat ≤ 3 := by
  have h2 := fmod_hi z (n := 4) (by decide)
  omega
theorem three_ints {t1 t2 t3 : Tok} : IntsAre [.int 0 t1, .int 4 t2, .int 12 t3] [0, 4, 12] := .cons _ _ (.cons _ _ (.cons _ _ .nil))
abbrev mapX (x : String) (a : Addr) (m : Str → Option Value) : Str → Option Value := fun y => if y = Str.ofString x then some (.ref a) else m y
def Mid3 (w : World) (A₀ : Around) (base : Heap) (fr : List Env) (g : Heap) (L : Addr) (s : Shared) (m : Str → Option Value) (news : Led) (fl : Flow) (s' : Shared) : Prop :=
  fl = .next ∧ ∃ M d sa ws n st da ms nn, LawAt A₀ base fr g L s (mapX "due" da (mapS sa (mapD d m))) M s' ∧ DocIn w M d ∧ (sa, lstO ws n) ∈ M ∧ StepsIn w M ws st ∧ st.length ≤ 3 ∧ (da, lstO ms nn) ∈ M ∧ MatchesIn w M ms (walkOf st d) ∧ ∀ q ∈ news, q ∈ M
/-- what is known once both walks are told -/
structure Told4 (w : World) (M : Led) (d : Doc) (sa da ta : Addr) (st : List Step) (ms vs : List Value) (news : Led) : Prop where
  doc : DocIn w M d
  steps : ∃ ws n, (sa, lstO ws n) ∈ M ∧ StepsIn w M ws st
  few : st.length ≤ 3
  due : ∃ n, (da, lstO ms n) ∈ M
  mats : MatchesIn w M ms (walkOf st d)
  told : ∃ n, (ta, lstO vs n) ∈ M
  dats : DatsIn w M d vs (walkOf st d)
  sub : ∀ q ∈ news, q ∈ M
abbrev map4 (d : Doc) (sa da ta : Addr) (m : Str → Option Value) : Str → Option Value := mapX "told" ta (mapX "due" da (mapS sa (mapD d m)))
def Mid4 (w : World) (A₀ : Around) (base : Heap) (fr : List Env) (g : Heap) (L : Addr) (s : Shared) (m : Str → Option Value) (news : Led) (fl : Flow) (s' : Shared) : Prop :=
  fl = .next ∧ ∃ M d sa da ta st ms vs, LawAt A₀ base fr g L s (map4 d sa da ta m) M s' ∧ Told4 w M d sa da ta st ms vs news
theorem step_good {w : World} {M : Led} {v : Value} {s : Step} (h : StepIn w M v s) : Good s.path ∧ width s.path ≤ 3 ∧ nOf s.path = 40 ∧ uOf s.path = 400 ∧ s.path ≠ .root ∧ s.path ≠ .this := by
  have hw := step_width h
  cases h with
  | names _ _ _ hN _ hl => exact ⟨⟨hN, hl⟩, hw, rfl, rfl, nofun, nofun⟩
  | places _ _ _ _ _ hl => exact ⟨hl, hw, rfl, rfl, nofun, nofun⟩
  | all => exact ⟨trivial, hw, rfl, rfl, nofun, nofun⟩
theorem chain_good {w : World} {M : Led} {ws : List Value} {st : List Step} (h : StepsIn w M ws st) (hl : st.length ≤ 3) : (Good (chainOf .root st) ∨ st = []) ∧ nOf (chainOf .root st) ≤ 300 ∧ uOf (chainOf .root st) ≤ 3000 := by
  have hs : ∀ s ∈ st, Good s.path ∧ width s.path ≤ 3 ∧ nOf s.path = 40 ∧ uOf s.path = 400 ∧ s.path ≠ .root ∧ s.path ≠ .this := fun s hs => by
    obtain ⟨v, hv⟩ := paired_mem h s hs
    exact step_good hv
  clear h
  match st, hl with
  | [], _ => exact ⟨.inr rfl, by decide, by decide⟩
  | [a], _ =>
    obtain ⟨g, w, n, u, _⟩ := hs a (by simp)
    exact ⟨.inl g, by show nOf a.path ≤ 300; omega, by show uOf a.path ≤ 3000; omega⟩
  | [a, b], _ =>
    obtain ⟨g1, w1, n1, u1, r1, t1⟩ := hs a (by simp)
    obtain ⟨g2, w2, n2, u2, _⟩ := hs b (by simp)
    have e : chainOf .root [a, b] = .child a.path b.path := kidOf_other r1 t1
    rw [e]
    refine ⟨.inl ⟨g1, g2, ?_⟩, by simp only [nOf]; omega, by simp only [uOf]; omega⟩
    exact Nat.le_trans (Nat.mul_le_mul w1 w2) (by decide)
  | [a, b, c], _ =>
    obtain ⟨g1, w1, n1, u1, r1, t1⟩ := hs a (by simp)
    obtain ⟨g2, w2, n2, u2, _⟩ := hs b (by simp)
    obtain ⟨g3, w3, n3, u3, _⟩ := hs c (by simp)
    have e : chainOf .root [a, b, c] = .child (.child a.path b.path) c.path := by
      show kidOf (kidOf a.path b.path) c.path = _
      rw [kidOf_other r1 t1]; rfl
    rw [e]
    have w12 : width a.path * width b.path ≤ 9 := Nat.mul_le_mul w1 w2
    refine ⟨.inl ⟨⟨g1, g2, Nat.le_trans w12 (by decide)⟩, g3, ?_⟩, by simp only [nOf]; omega, by simp only [uOf]; omega⟩
    exact Nat.le_trans (Nat.mul_le_mul w12 w3) (by decide)
def valsOf (xs : List (List Key × Doc)) : List Value := xs.map fun x => x.2.val
theorem vals_next {xs : List (List Key × Doc)} {i : Nat} {x : List Key × Doc} {ys : List Value} {v : Value} (h : ys = valsOf (xs.take i)) (hx : xs[i]? = some x) (hv : x.2.val = v) : ys ++ [v] = valsOf (xs.take (i + 1)) := by
  rw [List.take_add_one, hx, h]; simp [valsOf, hv]
theorem vals_len {xs : List (List Key × Doc)} {i : Nat} {ys : List Value} (h : ys = valsOf (xs.take i)) (hl : xs.length ≤ 27) : ys.length ≤ sizeLine := by
  rw [h, valsOf, List.length_map, List.length_take]
  exact Nat.le_trans (Nat.min_le_right _ _) (Nat.le_trans hl (by decide))
theorem told_len {w : World} {M : Led} {d : Doc} {st : List Step} {ws : List Value} (hd : DocIn w M d) (hs : StepsIn w M ws st) (hl : st.length ≤ 3) : (walkOf st d).length ≤ 27 := by
  refine Nat.le_trans (walkOf_len (w := w) (M := M) (fun z hz => by rw [List.mem_singleton.mp hz]; exact hd) fun s hs' => ?_) ?_
  · obtain ⟨v9, h9⟩ := paired_mem hs _ hs'
    exact step_width h9
  · rw [List.length_singleton, Nat.one_mul]
    exact Nat.le_trans (Nat.pow_le_pow_right (by decide) hl) (by decide)
theorem vals_all {xs : List (List Key × Doc)} {n : Nat} {ys : List Value} (h : ys = valsOf (xs.take n)) (hn : n = xs.length) : ys = valsOf xs := by
  rw [h, hn, List.take_length]
theorem Told4.mono {w : World} {M M' : Led} {d : Doc} {sa da ta : Addr} {st : List Step} {ms vs : List Value} {news : Led} (h : Told4 w M d sa da ta st ms vs news) (hs : ∀ q ∈ M, q ∈ M') : Told4 w M' d sa da ta st ms vs news :=
  ⟨h.doc.mono hs, by obtain ⟨ws, n, h1, h2⟩ := h.steps; exact ⟨ws, n, hs _ h1, paired_imp (fun _ _ h => h.mono hs) h2⟩, h.few, by obtain ⟨n, h1⟩ := h.due; exact ⟨n, hs _ h1⟩, h.mats.mono hs, by obtain ⟨n, h1⟩ := h.told; exact ⟨n, hs _ h1⟩, h.dats.mono hs, fun q hq => hs q (h.sub q hq)⟩
/-- the facts without the table -/
abbrev Own (M M' : Led) : Prop := ∀ q ∈ M, q.2.cls ≠ .none → q ∈ M'
theorem PathIn.own {w : World} {M M' : Led} {v : Value} {p : Path} (h : PathIn w M v p) (hs : Own M M') : PathIn w M' v p := by
  induction h with
  | root h1 h2 => exact .root (hs _ h1 nofun) (hs _ h2 nofun)
  | this h1 h2 => exact .this (hs _ h1 nofun) (hs _ h2 nofun)
  | wild h1 h2 => exact .wild (hs _ h1 nofun) (hs _ h2 nofun)
  | fields h1 h2 h3 h4 => exact .fields (hs _ h1 nofun) (hs _ h2 nofun) (hs _ h3 nofun) h4
  | index h1 h2 h3 h4 => exact .index (hs _ h1 nofun) (hs _ h2 nofun) (hs _ h3 nofun) h4
  | child h1 h2 _ _ i1 i2 => exact .child (hs _ h1 nofun) (hs _ h2 nofun) i1 i2
theorem DocIn.own {w : World} {M M' : Led} {d : Doc} (h : DocIn w M d) (hs : Own M M') : DocIn w M' d := by
  induction h with
  | none => exact .none
  | int => exact .int
  | str => exact .str
  | list h1 h2 _ ih => exact .list (hs _ h1 nofun) h2 ih
  | dict h1 h0 h2 h3 h4 _ ih => exact .dict (hs _ h1 nofun) h0 h2 h3 h4 ih
theorem DatIn.own {w : World} {M M' : Led} {root d : Doc} {v : Value} {ks : List Key} (h : DatIn w M root v ks d) (hs : Own M M') : DatIn w M' root v ks d := by
  induction h with
  | base h1 h2 h3 h4 => exact .base (hs _ h1 nofun) (hs _ h2 nofun) (h3.own hs) h4
  | step h1 h2 h3 _ h5 ih => exact .step (hs _ h1 nofun) (hs _ h2 nofun) (h3.own hs) ih h5
theorem StepIn.own {w : World} {M M' : Led} {v : Value} {st : Step} (h : StepIn w M v st) (hs : Own M M') : StepIn w M' v st := by
  cases h with
  | names h1 h2 h3 h4 h5 h6 => exact .names (hs _ h1 nofun) (hs _ h2 nofun) h3 h4 h5 h6
  | places h1 h2 h3 h4 h5 h6 => exact .places (hs _ h1 nofun) (hs _ h2 nofun) h3 h4 h5 h6
  | all h1 h2 => exact .all (hs _ h1 nofun) (hs _ h2 nofun)
theorem MatchIn.own {w : World} {M M' : Led} {v : Value} {x : List Key × Doc} (h : MatchIn w M v x) (hs : Own M M') : MatchIn w M' v x := by
  cases h with
  | mk h1 h2 h3 h4 => exact .mk (hs _ h1 nofun) (hs _ h2 nofun) h3 (h4.own hs)
theorem Told4.own {w : World} {M M' : Led} {d : Doc} {sa da ta : Addr} {st : List Step} {ms vs : List Value} {news news' : Led} (h : Told4 w M d sa da ta st ms vs news) (hs : Own M M') (hn : ∀ q ∈ news', q ∈ M') : Told4 w M' d sa da ta st ms vs news' :=
  ⟨h.doc.own hs, by obtain ⟨ws, n, h1, h2⟩ := h.steps; exact ⟨ws, n, hs _ h1 nofun, paired_imp (fun _ _ h => h.own hs) h2⟩, h.few, by obtain ⟨n, h1⟩ := h.due; exact ⟨n, hs _ h1 nofun⟩, paired_imp (fun _ _ h => h.own hs) h.mats, by obtain ⟨n, h1⟩ := h.told; exact ⟨n, hs _ h1 nofun⟩, paired_imp (fun _ _ h => h.own hs) h.dats, hn⟩
/-- the ledger, the table laid aside -/
theorem tab_aside {g h : Heap} {L : Addr} {M : Led} {ps : Array Value} (N : News g L h M) (ht : tabE ps ∈ M) : ∃ M₀ : Led, News g L h (tabE ps :: M₀) ∧ Own M M₀ ∧ (∀ q ∈ M₀, q.1 ≠ 708) ∧ (∀ q ∈ M, q.1 ≠ 708 → q ∈ M₀) := by
  refine ⟨M.filter fun q => q.1 != 708, fun q hq => ?_, fun q hq hc => List.mem_filter.mpr ⟨hq, ?_⟩, fun q hq => ?_, fun q hq hc => List.mem_filter.mpr ⟨hq, by simpa using hc⟩⟩
  · rcases List.mem_cons.mp hq with rfl | hq
    · exact N _ ht
    · exact N q (List.mem_filter.mp hq).1
  · simp only [bne_iff_ne, ne_eq]
    intro e
    have h1 := (N q hq).1
    rw [e, (N _ ht).1] at h1
    exact hc (congrArg Obj.cls (Option.some.inj h1)).symm
  · simpa using (List.mem_filter.mp hq).2
def textsOf (xs : List (List Key × Doc)) : List Str := xs.map fun x => keysText x.1
def StepOk (s : Step) : Prop := match s with
  | .names xs => ∀ x ∈ xs, x ∈ NAMES
  | .places ps => ∀ i ∈ ps, -3 ≤ i ∧ i ≤ 3
  | .all => True
theorem step_ok {w : World} {M : Led} {v : Value} {s : Step} (h : StepIn w M v s) : StepOk s := by
  cases h with
  | names _ _ _ h4 => exact h4
  | places _ _ _ h4 => exact h4
  | all => trivial
theorem down_ok {w : World} {M : Led} {s : Step} {d : Doc} (hs : StepOk s) (hd : DocIn w M d) : ∀ e ∈ s.down d, KeyOk e.1 := by
  intro e he
  cases s with
  | names xs =>
    simp only [Step.down, List.mem_filterMap, Option.map_eq_some_iff] at he
    obtain ⟨x, hx, y, hy, rfl⟩ := he
    exact hs x hx
  | places ps =>
    simp only [Step.down, List.mem_filterMap, Option.map_eq_some_iff] at he
    obtain ⟨x, hx, y, hy, rfl⟩ := he
    have := hs x hx
    exact ⟨by omega, by omega⟩
  | all =>
    cases hd with
    | none | int | str => simp [Step.down] at he
    | list h1 h2 h3 =>
      simp only [Step.down, List.mem_map] at he
      obtain ⟨y, hy, rfl⟩ := he
      have z := (List.mem_zipIdx' hy).1
      exact ⟨by omega, by show (y.2 : Int) ≤ 10; omega⟩
    | dict h1 h0 h2 h3 h4 h5 =>
      simp only [Step.down, List.mem_map] at he
      obtain ⟨y, hy, rfl⟩ := he
      exact h4 y hy
theorem walk_ok {w : World} {M : Led} : ∀ {st : List Step} {xs : List (List Key × Doc)}, (∀ s ∈ st, StepOk s) → (∀ x ∈ xs, DocIn w M x.2) → (∀ x ∈ xs, ∀ k ∈ x.1, KeyOk k) → ∀ x ∈ st.foldl goStep xs, ∀ k ∈ x.1, KeyOk k
  | [], _, _, _, h, x, hx => h x hx
  | s :: st, xs, hs, hd, h, x, hx => by
    refine walk_ok (st := st) (xs := goStep xs s) (fun t ht => hs t (List.mem_cons_of_mem _ ht)) (fun y hy => walkOf_doc (st := [s]) hd y hy) (fun y hy k hk => ?_) x hx
    obtain ⟨e, he, hy⟩ := List.mem_flatMap.mp hy
    obtain ⟨z, hz, rfl⟩ := List.mem_map.mp hy
    rcases List.mem_append.mp hk with hk | hk
    · exact h e he k hk
    · rw [List.mem_singleton.mp hk]; exact down_ok (hs s List.mem_cons_self) (hd e he) z hz
theorem told_ok {w : World} {M : Led} {d : Doc} {st : List Step} {ws : List Value} (hd : DocIn w M d) (hs : StepsIn w M ws st) : ∀ x ∈ walkOf st d, x.1.length = st.length ∧ ∀ k ∈ x.1, KeyOk k := fun x hx => by
  refine ⟨?_, walk_ok (fun s h => by obtain ⟨v, hv⟩ := paired_mem hs s h; exact step_ok hv) (fun z hz => by rw [List.mem_singleton.mp hz]; exact hd) (fun z hz k hk => by rw [List.mem_singleton.mp hz] at hk; cases hk) x hx⟩
  have := walkOf_keys (st := st) (xs := [([], d)]) (k := 0) (fun z hz => by rw [List.mem_singleton.mp hz]; rfl) x hx
  rw [this, Nat.zero_add]
theorem strs_snoc {ys : List Value} {xs : List Str} {x : Str} {t : Tok} (h : StrsAre ys xs) : StrsAre (ys ++ [.str x t]) (xs ++ [x]) := by
  induction h with
  | nil => exact .cons _ _ .nil
  | cons j u _ ih => exact .cons j u ih
theorem texts_next {xs : List (List Key × Doc)} {i : Nat} {x : List Key × Doc} {ys : List Value} {y : Str} {t : Tok} (h : StrsAre ys (textsOf (xs.take i))) (hx : xs[i]? = some x) (hy : y = keysText x.1) : StrsAre (ys ++ [.str y t]) (textsOf (xs.take (i + 1))) := by
  subst hy
  rw [List.take_add_one, hx]
  simp only [textsOf, List.map_append, Option.toList_some, List.map_cons, List.map_nil]
  exact strs_snoc h
theorem texts_size {xs : List (List Key × Doc)} {i : Nat} {ys : List Value} (h : StrsAre ys (textsOf (xs.take i))) (hl : xs.length ≤ 27) : ys.length ≤ sizeLine := by
  rw [strsLen h, textsOf, List.length_map, List.length_take]
  exact Nat.le_trans (Nat.min_le_right _ _) (Nat.le_trans hl (by decide))
theorem texts_all {xs : List (List Key × Doc)} {n : Nat} {ys : List Value} (h : StrsAre ys (textsOf (xs.take n))) (hn : n = xs.length) : StrsAre ys (textsOf xs) := by
  rwa [hn, List.take_length] at h
def Mid6 (w : World) (A₀ : Around) (base : Heap) (fr : List Env) (g : Heap) (L : Addr) (s : Shared) (m : Str → Option Value) (news : Led) (fl : Flow) (s' : Shared) : Prop :=
  fl = .next ∧ ∃ M d sa da ta st ms vs ps, LawAt A₀ base fr g L s (map4 d sa da ta m) (tabE ps :: M) s' ∧ Told4 w M d sa da ta st ms vs news ∧ (∀ q ∈ M, q.1 ≠ 708) ∧ TriplesOk ps.toList
def Mid7 (w : World) (A₀ : Around) (base : Heap) (fr : List Env) (g : Heap) (L : Addr) (s : Shared) (news : Led) (fl : Flow) (s' : Shared) : Prop :=
  fl = .next ∧ ∃ (M : Led) (d : Doc) (ps : Array Value) (m : Str → Option Value), LawAt A₀ base fr g L s (fun y => if y = Str.ofString "document" then some (Doc.val d) else m y) (tabE ps :: M) s' ∧ DocIn w M d ∧ (∀ q ∈ news, q ∈ M) ∧ (∀ q ∈ M, q.1 ≠ 708) ∧ TriplesOk ps.toList
section
variable {w : World} {p : Program} {loose : List Str} {mean : ExcName → Option Value} {mg mb : Str → Option Value}
  {A A₀ : Around} {base h₀ : Heap} {env : Env} {outer : List Env} {L : Addr} {m : Str → Option Value} {news M : Led} {s : Shared} {Q E : Value → Shared → Prop} {ps : Array Value}
theorem str_full {p₀ : Path} {ks : List Key} {v : Value} {n : Nat} (h₁ : p₀ = .root ∨ p₀ = .this) (hks : ks.length = n + 1) (hn : n ≤ 2) (hok : ∀ k ∈ ks, KeyOk k) (hp : PathIn w news v (fullOf p₀ ks)) (X : (hd.heap_1 w.params).In h₀) (F : Fr h₀ L s.heap m) (B : Below A₀ base outer h₀) (XB : (hd.heap_1 w.params).In base) (TB : Top p loose mean mg mb base) (D : KtsDicts (outer.filterMap (·.frame)) h₀)
    (N : News h₀ L s.heap (tabE ps :: M)) (off : ∀ q ∈ M, q.1 ≠ 708) (ht : TriplesOk ps.toList) (sub : ∀ q ∈ news, q ∈ M) (hA : A.frames = some (env :: outer)) (hf : env.frame = some L) (hke : env.scope.kind = .function) (hh : A.handled = none) (hdp : A.depth + 130 < recursionLimit) (hu : A.units + 1000 < cLine)
    (hb : AllBare s.gens) (k : ∀ t, ComesP w p loose mean mg mb A₀ base outer L m h₀ M s (fun r s' => r = .str (keysText ks) t → Q (.str (keysText ks) t) s') (fun _ _ => True)) : wpAny (model Challenge.rw_bm0005_01.row.prog w) A (call (.type "str") [v]) Q E s := by
  obtain ⟨S, sh, hlen, e1, e2⟩ := full_str (w := w) (p := p) (loose := loose) (mean := mean) (mg := mg) (mb := mb) h₁ n ks hks (by omega) hok
  refine str_path sh F X N hp (fun q hq => List.mem_cons_of_mem _ (sub q hq)) (by omega) ?_
  refine use_str S F B XB TB D N off ht sub hA hf hke hh (by have e9 : A.in1.in1.depth = A.depth := rfl; omega) (by have e9 : A.in1.in1.units = A.units + 1 + 1 := rfl; omega) hb hp k
end
theorem news_ca {g h : Heap} {L : Addr} {x : Addr × Obj} {l t : Led} (h9 : News g L h ((x :: l) ++ t)) : News g L h (x :: (l ++ t)) := h9
theorem nonempty_len {w : World} {M : Led} {ws : List Value} {st : List Step} (h : StepsIn w M ws st) (he : ws.isEmpty = false) : ∃ n, st.length = n + 1 := by
  have := h.length
  cases ws with
  | nil => cases he
  | cons => exact ⟨st.length - 1, by simp at this; omega⟩
end
section
open PyProof.Rows.LCg
section
variable {w : World} {p : Program} {loose : List Str} {mean : ExcName → Option Value} {mg mb : Str → Option Value}
  {A A₀ : Around} {g₁ base : Heap} {outer : List Env} {L : Addr} {s : Shared} {E : Value → Shared → Prop}
theorem ownOf {h : Heap} : ∀ {js : List Addr}, (∀ j ∈ js, ∃ o, h.get? j = some o) → ∃ own : Led, own.map (·.1) = js ∧ ∀ q ∈ own, h.get? q.1 = some q.2
  | [], _ => ⟨[], rfl, fun q h => by cases h⟩
  | j :: js, H => by
    obtain ⟨o, ho⟩ := H j List.mem_cons_self
    obtain ⟨own, e, k⟩ := ownOf (js := js) fun j hj => H j (List.mem_cons_of_mem _ hj)
    refine ⟨(j, o) :: own, by simp [e], fun q hq => ?_⟩
    rcases List.mem_cons.mp hq with rfl | hq
    · exact ho
    · exact k q hq
theorem own_mem {own : Led} {js : List Addr} (e : own.map (·.1) = js) {b : Addr} (hb : b ∈ js) : ∃ o, (b, o) ∈ own := by
  rw [← e] at hb
  obtain ⟨q, hq, rfl⟩ := List.mem_map.mp hb
  exact ⟨q.2, hq⟩
theorem mem_own {own : Led} {js : List Addr} (e : own.map (·.1) = js) {q : Addr × Obj} (hq : q ∈ own) : q.1 ∈ js := by
  rw [← e]; exact List.mem_map.mpr ⟨q, hq, rfl⟩
/-- what a loop's body owes to the next turn: the iterator has several objects of its own -/
def NextsN (A₀ : Around) (base : Heap) (outer : List Env) (L : Addr) (g : Heap) (own : Led) (s : Shared) (Q : Flow → Shared → Prop) (Post : (Str → Option Value) → Led → Prop) : Prop :=
  ∀ m M h gn tk g', KtsTurn (outer.filterMap (·.frame)) g g' → Fr g' L h m → News g' L h (own ++ M) → Below A₀ base outer g' → KtsDicts (outer.filterMap (·.frame)) g' → AllBare gn → (∀ q ∈ M, ∀ t ∈ own, t.1 ≠ q.1) → Post m M → Q .next ⟨h, gn, s.drawn, tk, s.os⟩
def TurnN (w : World) (p : Program) (loose : List Str) (mean : ExcName → Option Value) (mg mb : Str → Option Value) (A A₀ : Around) (base : Heap) (outer : List Env) (L : Addr) (g₁ : Heap) (body : List Stmt) (env : Env)
    (Bnd : Nat → (Str → Option Value) → (Str → Option Value) → Prop) (n : Nat) (Inv : Nat → (Str → Option Value) → Led → Prop) (s : Shared) : Prop :=
  ∀ i own m m' M h gn tk g (Q : Flow → Shared → Prop) (E' : Value → Shared → Prop), i < n → Bnd i m m' → Inv i m M → KtsTurn (outer.filterMap (·.frame)) g₁ g → Fr g L h m' → News g L h (own ++ M) → Below A₀ base outer g → (hd.heap_1 w.params).In g → Top p loose mean mg mb g → KtsDicts (outer.filterMap (·.frame)) g → AllBare gn → (∀ q ∈ M, ∀ t ∈ own, t.1 ≠ q.1) →
    NextsN A₀ base outer L g own s Q (fun m M => Inv (i + 1) m M) → wpAny (model Challenge.rw_bm0005_01.row.prog w) A (execs body env) Q E' ⟨h, gn, s.drawn, tk, s.os⟩
theorem for_coreN {target : Expr} {body : List Stmt} {env : Env} {J : Addr} {js fp wr : List Addr} {n : Nat} {P Md : Nat → Value → Heap → Prop} {St : Nat → Heap → Prop} {Bnd : Nat → (Str → Option Value) → (Str → Option Value) → Prop}
    {R : Result → Shared → Prop} {keep M₁ : Led} {Inv : Nat → (Str → Option Value) → Led → Prop} {m₁ : Str → Option Value} (XB : (hd.heap_1 w.params).In base) (TB : Top p loose mean mg mb base)
    (W : KTurns Challenge.rw_bm0005_01.row.prog w A target J fp wr n P Md St) (hwr : ∀ b ∈ wr, b ∈ js) (hfp : ∀ b ∈ fp, b ∈ js ∨ ∃ o, (b, o) ∈ keep) (hkeep : ∀ i m M, Inv i m M → ∀ q ∈ keep, q ∈ M) (hJo : ∀ i h, St i h → ∀ j ∈ js, ∃ o, h.get? j = some o)
    (hassign : ∀ i v (s : Shared) (mc : Str → Option Value) (Q : Unit → Shared → Prop) (E : Value → Shared → Prop), P i v s.heap → (∀ q ∈ keep, s.heap.get? q.1 = some q.2 ∧ q.1 ≠ L) → s.heap.Ns L mc →
      (∀ h' tk mc', h'.Ns L mc' → Bnd i mc mc' → (∀ b o, b ≠ L → s.heap.get? b = some o → h'.get? b = some o) → Q () { s with heap := h', toks := tk }) → wpAny (model Challenge.rw_bm0005_01.row.prog w) A (assign target env v) Q E s)
    (step : TurnN w p loose mean mg mb A A₀ base outer L g₁ body env Bnd n Inv s)
    (hst : St 0 s.heap) (S : Std A₀ base outer g₁ L m₁ g₁ s.heap s.gens M₁) (hJL : ∀ j ∈ js, j ≠ L) (hJ₀ : ∀ j ∈ js, g₁.get? j = none) (off : ∀ q ∈ M₁, q.1 ∉ js) (h0 : Inv 0 m₁ M₁)
    (hR : ∀ g h gn tk m M, KtsTurn (outer.filterMap (·.frame)) g₁ g → Fr g L h m → News g L h M → Below A₀ base outer g → KtsDicts (outer.filterMap (·.frame)) g → AllBare gn → Inv n m M → R (.ok .next) ⟨h, gn, s.drawn, tk, s.os⟩) :
    codeAny (model Challenge.rw_bm0005_01.row.prog w) A (.forLoop target (.ref J) body [] env) R s := by
  refine codeAny_forLoop_any (fun k s' => ∃ h' gn tk i m M g, s' = ⟨h', gn, s.drawn, tk, s.os⟩ ∧ i ≤ n ∧ k = n + 1 - i ∧ St i h' ∧ KtsTurn (outer.filterMap (·.frame)) g₁ g ∧ Std A₀ base outer g₁ L m g h' gn M ∧ (∀ q ∈ M, q.1 ∉ js) ∧ Inv i m M)
    ?_ (n + 1) ⟨s.heap, s.gens, s.toks, 0, m₁, M₁, g₁, rfl, Nat.zero_le _, rfl, hst, .refl, S, off, h0⟩
  rintro k s' ⟨h', gn, tk, i, m, M, g, rfl, hi, rfl, hst', T', S', off', inv⟩
  have gJ : ∀ j ∈ js, g.get? j = none := fun j hj => T'.none_ _ (hJ₀ j hj)
  have hLj : L ∉ wr := fun hb => hJL _ (hwr _ hb) rfl
  by_cases hlt : i < n
  · refine W.item i _ _ _ hlt hst' fun v h₂ tk₂ hMd hk₂ => ?_
    have S₂ := S'.but hk₂ (fun b hb => gJ b (hwr b hb)) hLj (fun q hq hb => off' q hq (hwr _ hb))
    refine W.go i v _ _ _ hMd fun h₃ hP hst₃ hk₃ => ?_
    have S₃ := S₂.but hk₃ (fun b hb => gJ b (hwr b hb)) hLj (fun q hq hb => off' q hq (hwr _ hb))
    refine hassign i v _ m _ _ hP (fun q hq => ⟨(S₃.N q (hkeep _ _ _ inv q hq)).1, (S₃.N q (hkeep _ _ _ inv q hq)).2.1⟩) S₃.F.ns fun h₄ tk₄ mc' hn₄ hB hk₄ => ?_
    have gL : g.get? L = none := kts_self S₃.F
    have hLf : L ∉ fp := fun hb => by
      rcases hfp _ hb with z | ⟨o, ho⟩
      · exact hJL _ z rfl
      · exact (S'.N _ (hkeep _ _ _ inv _ ho)).2.1 rfl
    have F₄ : Fr g L h₄ mc' := ⟨hn₄, fun b o e => hk₄ b o (fun z => by rw [z, gL] at e; cases e) (S₃.F.keep b o e), S₃.F.above⟩
    have hst₄ : St (i + 1) h₄ := W.frame _ _ _ hst₃ fun b hb o e => hk₄ b o (fun z => hLf (z ▸ hb)) e
    obtain ⟨own, ho1, ho2⟩ := ownOf (hJo _ _ hst₄)
    have N₄ : News g L h₄ (own ++ M) := fun q hq => by
      rcases List.mem_append.mp hq with hq | hq
      · have hj := mem_own ho1 hq
        exact ⟨ho2 q hq, hJL _ hj, gJ _ hj⟩
      · exact ⟨hk₄ _ _ (S₃.N q hq).2.1 (S₃.N q hq).1, (S₃.N q hq).2⟩
    refine step i own m mc' M h₄ gn tk₄ g _ _ hlt hB inv T' F₄ N₄ S₃.B (XB.keeps S₃.B.stays) (TB.keeps S₃.B.stays) S₃.D S₃.gens (fun q hq t ht z => off' q hq (z ▸ mem_own ho1 ht)) ?_
    intro m₅ M₅ h₅ gn₅ tk₅ g₅ T₅ F₅ N₅ B₅ D₅ b₅ off₅ inv₅
    refine ⟨n + 1 - (i + 1), by omega, h₅, gn₅, tk₅, i + 1, m₅, M₅, g₅, rfl, hlt, rfl, ?_, T'.trans T₅, ⟨T'.trans T₅, F₅, fun q hq => N₅ q (List.mem_append_right _ hq), B₅, D₅, b₅⟩, fun q hq hj => (by obtain ⟨o, ho⟩ := own_mem ho1 hj; exact off₅ q hq _ ho rfl), inv₅⟩
    refine W.frame _ _ _ hst₄ fun b hb o e => ?_
    rcases hfp b hb with z | ⟨o', ho⟩
    · obtain ⟨o', ho⟩ := own_mem ho1 z
      have := ho2 _ ho
      rw [this] at e; cases e
      exact (N₅ _ (List.mem_append_left _ ho)).1
    · have := (N₄ (b, o') (List.mem_append_right _ (hkeep _ _ _ inv _ ho))).1
      rw [this] at e; cases e
      exact (N₅ (b, o') (List.mem_append_right _ (hkeep _ _ _ inv₅ _ ho))).1
  · obtain rfl : i = n := Nat.le_antisymm hi (Nat.not_lt.mp hlt)
    refine W.done _ _ _ hst' fun h₂ tk₂ hk₂ => ?_
    have S₂ := S'.but hk₂ (fun b hb => gJ b (hwr b hb)) hLj (fun q hq hb => off' q hq (hwr _ hb))
    exact wpAny_execs_nil (hR g h₂ gn tk₂ m M T' S₂.F S₂.N S₂.B S₂.D S₂.gens inv)
theorem assign_zip {prog : Program} {env : Env} {a b c : Str} {pa pb pc tp tp' : Pos} {kk kk' : Nat} {T P : Addr} {x y z : Value} {n : Nat} {m : Str → Option Value} {Q : Unit → Shared → Prop} (hh : A.handled = none) (ht : s.heap.IsTuple T #[x, .ref P]) (hP : s.heap.get? P = some (tupO [y, z] n)) (hPL : P ≠ env.locals)
    (ha : env.kindOf a = some .local) (hb : env.kindOf b = some .local) (hc : env.kindOf c = some .local) (hp : (env.scope.kind == .class || (env.scope.kind == .module && env.locals != env.globals)) = false) (hn : s.heap.Ns env.locals m)
    (h : ∀ (h' : Heap) (tk : Nat), h'.Ns env.locals (fun u => if u = c then some z else if u = b then some y else if u = a then some x else m u) → (∀ c o, c ≠ env.locals → s.heap.get? c = some o → h'.get? c = some o) → Q () { s with heap := h', toks := tk }) :
    wpAny (model prog w) A (assign (.Tuple [.Name a pa, .Tuple [.Name b pb, .Name c pc] kk' tp'] kk tp) env (.ref T)) Q E s := by
  refine wpAny_assign_Tuple hh ht rfl rfl fun h₁ he₁ => ?_
  have hL : env.locals ≠ s.heap.objs.size := Nat.ne_of_lt hn.lt
  have hn₁ : h₁.Ns env.locals m := hn.at' fun o e => he₁ _ o hL e
  have up₁ : ∀ c o, s.heap.get? c = some o → h₁.get? c = some o := fun c o e => he₁ c o (Nat.ne_of_lt (Heap.lt_size e)) e
  show wpAny _ _ (assignInOrder [assign (.Name a pa) env, assign (.Tuple [.Name b pb, .Name c pc] kk' tp') env] [x, .ref P]) _ _ _
  refine assignInOrder_cons ?_
  refine wpAny_assign_Name (wpAny_storeName_local ha hn₁ (fun h₂ hn₂ hs₂ => ?_) hp)
  refine assignInOrder_cons ?_
  refine kcp_assign hh (isTup_of (hs₂.extBut P _ hPL (up₁ _ _ hP))) hb hc hp hn₂ fun h₃ tk hn₃ hk₃ => ?_
  refine assignInOrder_nil ?_
  exact h h₃ tk hn₃ fun c o hc e => hk₃ c o hc (hs₂.extBut c o hc (up₁ c o e))
theorem js_ge {I j : Addr} (hj : j ∈ [I + 4, I + 2, I + 3, I, I + 1]) : I ≤ j := by
  have hb' : j = I + 4 ∨ j = I + 2 ∨ j = I + 3 ∨ j = I ∨ j = I + 1 := by simpa using hj
  rcases hb' with rfl | rfl | rfl | rfl | rfl
  · exact Nat.le_add_right _ _
  · exact Nat.le_add_right _ _
  · exact Nat.le_add_right _ _
  · exact Nat.le_refl _
  · exact Nat.le_add_right _ _
/-- the zip's names -/
def BndZip (a b c : Str) (xs : List Value) (xys : List (Value × Value)) (i : Nat) (m m' : Str → Option Value) : Prop :=
  ∃ x y z, xs[i]? = some x ∧ xys[i]? = some (y, z) ∧ m' = fun u => if u = c then some z else if u = b then some y else if u = a then some x else m u
theorem for_zip {a b c : Str} {pa pb pc tp tp' : Pos} {kk kk' : Nat} {body : List Stmt} {env : Env} {M₁ : Led} (Inv : Nat → (Str → Option Value) → Led → Prop) {m₁ : Str → Option Value} {R : Result → Shared → Prop} {l1 l2 : Addr} {xs ys : List Value} {n1 n2 : Nat} (xys : List (Value × Value))
    (F : Fr g₁ L s.heap m₁) (B : Below A₀ base outer g₁) (XB : (hd.heap_1 w.params).In base) (TB : Top p loose mean mg mb base) (D : KtsDicts (outer.filterMap (·.frame)) g₁) (N : News g₁ L s.heap M₁) (hgs : AllBare s.gens) (hh : A.handled = none)
    (h1 : (l1, lstO xs n1) ∈ M₁) (h2 : (l2, lstO ys n2) ∈ M₁) (hpr : PairsIn M₁ ys xys) (hLe : env.locals = L) (ha : env.kindOf a = some .local) (hb : env.kindOf b = some .local) (hc : env.kindOf c = some .local) (hp : (env.scope.kind == .class || (env.scope.kind == .module && env.locals != env.globals)) = false)
    (hkeep : ∀ i m M, Inv i m M → ∀ q ∈ M₁, q ∈ M) (h0 : Inv 0 m₁ M₁)
    (step : TurnN w p loose mean mg mb A A₀ base outer L g₁ body env (BndZip a b c xs xys) (min xs.length ys.length) Inv s) (k : Loops A₀ base outer L g₁ s R (Inv (min xs.length ys.length))) :
    wpAny (model Challenge.rw_bm0005_01.row.prog w) A (call (.type "zip") [.ref l1, .ref l2]) (fun xv s₁ => wpAny (model Challenge.rw_bm0005_01.row.prog w) A (pyIter xv) (fun it s₂ => codeAny (model Challenge.rw_bm0005_01.row.prog w) A (.forLoop (.Tuple [.Name a pa, .Tuple [.Name b pb, .Name c pc] kk' tp'] kk tp) it body [] env) R s₂) E s₁) E s := by
  subst hLe
  have hl1 := isList_of (N _ h1).1
  have hl2 := isList_of (N _ h2).1
  have hlt1 : l1 < s.heap.objs.size := Heap.lt_size (N _ h1).1
  have hlt2 : l2 < s.heap.objs.size := Heap.lt_size (N _ h2).1
  have hLs : env.locals < s.heap.objs.size := F.ns.lt
  have D9 : ZipApart (s.heap.objs.size + 4) (s.heap.objs.size + 2) (s.heap.objs.size + 3) s.heap.objs.size (s.heap.objs.size + 1) l1 l2 := ktu_apart _ _ _ hlt1 hlt2
  have S₀ : Std A₀ base outer g₁ env.locals m₁ g₁ s.heap s.gens M₁ := ⟨.refl, F, N, B, D, hgs⟩
  refine call_zip_2 hl1 hl2 fun h' hz hTI hTO hi1 hi2 hsz hk => ?_
  refine wpAny_pyIter_zip hz ?_
  refine for_coreN (s := { s with heap := h' }) (js := [s.heap.objs.size + 4, s.heap.objs.size + 2, s.heap.objs.size + 3, s.heap.objs.size, s.heap.objs.size + 1]) (keep := M₁) (Inv := Inv) (Bnd := BndZip a b c xs xys) (n := min xs.toArray.size ys.toArray.size) (m₁ := m₁) (M₁ := M₁) XB TB
    (KTurns.ofWalksU (WalksT.zip2 hh _ _ _ _ _ _ _ D9 xs.toArray ys.toArray).toU) ?zwr ?zfp hkeep ?zjo ?zas ?zst ⟨hz, hTI, ⟨_, _, hTO⟩, hi1, hi2, hl1.at (fun o e => hk _ _ e), hl2.at (fun o e => hk _ _ e)⟩ (S₀.grow hk) ?zjl ?zj0 ?zoff h0 ?zre
  case zwr =>
    intro b hb
    have hb' : b = s.heap.objs.size + 4 ∨ b = s.heap.objs.size + 3 ∨ b = s.heap.objs.size ∨ b = s.heap.objs.size + 1 := by simpa using hb
    rcases hb' with rfl | rfl | rfl | rfl <;> simp
  case zfp =>
    intro b hb
    have hb' : b = s.heap.objs.size + 4 ∨ b = s.heap.objs.size + 2 ∨ b = s.heap.objs.size + 3 ∨ b = s.heap.objs.size ∨ b = s.heap.objs.size + 1 ∨ b = l1 ∨ b = l2 := by simpa using hb
    rcases hb' with rfl | rfl | rfl | rfl | rfl | rfl | rfl
    · exact .inl (by simp)
    · exact .inl (by simp)
    · exact .inl (by simp)
    · exact .inl (by simp)
    · exact .inl (by simp)
    · exact .inr ⟨_, h1⟩
    · exact .inr ⟨_, h2⟩
  case zjo =>
    rintro i h ⟨hz, hTI, ⟨a, b, hTO⟩, ⟨o1, ho1, hc1, _⟩, ⟨o2, ho2, hc2, _⟩, _⟩ j hj
    have hb' : j = s.heap.objs.size + 4 ∨ j = s.heap.objs.size + 2 ∨ j = s.heap.objs.size + 3 ∨ j = s.heap.objs.size ∨ j = s.heap.objs.size + 1 := by simpa using hj
    rcases hb' with rfl | rfl | rfl | rfl | rfl
    · exact ⟨_, hz⟩
    · exact ⟨_, hTI⟩
    · exact ⟨_, hTO⟩
    · exact ⟨_, ho1⟩
    · exact ⟨_, ho2⟩
  case zas =>
    rintro i v s' mc Q E' ⟨T, vals, rfl, ⟨x, y, hx, hy, rfl⟩, hT⟩ hK hn k'
    obtain ⟨P, n, y1, z1, rfl, hxy, hP⟩ := hpr i y (by simpa using hy)
    exact assign_zip hh hT (hK _ hP).1 (hK _ hP).2 ha hb hc hp hn fun h' tk hn' hk' => k' h' tk _ hn' ⟨x, y1, z1, by simpa using hx, hxy, rfl⟩ hk'
  case zst => exact fun i own m m' M h gn tk g Q E' hi => step i own m m' M h gn tk g Q E' (by simpa using hi)
  case zjl => exact fun j hj => Nat.ne_of_gt (Nat.lt_of_lt_of_le hLs (js_ge hj))
  case zj0 => exact fun j hj => ktu_new F (js_ge hj)
  case zoff => exact fun q hq hj => absurd (Heap.lt_size (N q hq).1) (Nat.not_lt.mpr (js_ge hj))
  case zre => exact fun g h gn tk m M T F N B D b inv => k g h gn tk m M T F N B D b (by simpa using inv)
variable {m₁ : Str → Option Value}
theorem spread_cons {a : Str} {r : List Str} {m m' : Str → Option Value} {z : Str} : spread (a :: r) m m' z = if z = a then m a else spread r m m' z := rfl
def TurnZ (w : World) (p : Program) (loose : List Str) (mean : ExcName → Option Value) (mg mb : Str → Option Value) (A A₀ : Around) (base : Heap) (outer : List Env) (L : Addr) (g₁ : Heap) (body : List Stmt) (env : Env)
    (a b c : Str) (xs : List Value) (xys : List (Value × Value)) (n : Nat) (ns : List Str) (m₁ : Str → Option Value) (Kk : Nat → (Str → Option Value) → Led → Prop) (s : Shared) : Prop :=
  ∀ i x y z own m M h gn tk g (Q : Flow → Shared → Prop) (E' : Value → Shared → Prop), i < n → xs[i]? = some x → xys[i]? = some (y, z) → Kk i m M → KtsTurn (outer.filterMap (·.frame)) g₁ g → Fr g L h (fun u => if u = c then some z else if u = b then some y else if u = a then some x else spread ns m m₁ u) → News g L h (own ++ M) → Below A₀ base outer g → (hd.heap_1 w.params).In g → Top p loose mean mg mb g → KtsDicts (outer.filterMap (·.frame)) g → AllBare gn → (∀ q ∈ M, ∀ t ∈ own, t.1 ≠ q.1) →
    NextsN A₀ base outer L g own s Q (fun m' M' => (∀ z, z ∉ c :: b :: a :: ns → m' z = m₁ z) ∧ Kk (i + 1) m' M') → wpAny (model Challenge.rw_bm0005_01.row.prog w) A (execs body env) Q E' ⟨h, gn, s.drawn, tk, s.os⟩
def LoopsZ (A₀ : Around) (base : Heap) (outer : List Env) (L : Addr) (g₁ : Heap) (s : Shared) (R : Result → Shared → Prop) (ns : List Str) (m₁ : Str → Option Value) (Post : (Str → Option Value) → Led → Prop) : Prop :=
  ∀ g h gn tk m M, KtsTurn (outer.filterMap (·.frame)) g₁ g → Fr g L h (spread ns m m₁) → News g L h M → Below A₀ base outer g → KtsDicts (outer.filterMap (·.frame)) g → AllBare gn → Post m M → R (.ok .next) ⟨h, gn, s.drawn, tk, s.os⟩
theorem forZipG {a b c : Str} {pa pb pc tp tp' : Pos} {kk kk' : Nat} {body : List Stmt} {env : Env} {M₁ : Led} (ns : List Str) (Kk : Nat → (Str → Option Value) → Led → Prop) {R : Result → Shared → Prop} {l1 l2 : Addr} {xs ys : List Value} {n1 n2 : Nat} (xys : List (Value × Value))
    (F : Fr g₁ L s.heap m₁) (B : Below A₀ base outer g₁) (XB : (hd.heap_1 w.params).In base) (TB : Top p loose mean mg mb base) (D : KtsDicts (outer.filterMap (·.frame)) g₁) (N : News g₁ L s.heap M₁) (hgs : AllBare s.gens) (hh : A.handled = none)
    (h1 : (l1, lstO xs n1) ∈ M₁) (h2 : (l2, lstO ys n2) ∈ M₁) (hpr : PairsIn M₁ ys xys) (hLe : env.locals = L) (ha : env.kindOf a = some .local) (hb : env.kindOf b = some .local) (hc : env.kindOf c = some .local) (hp : (env.scope.kind == .class || (env.scope.kind == .module && env.locals != env.globals)) = false)
    (hkeep : ∀ i m M, Kk i m M → ∀ q ∈ M₁, q ∈ M) (h0 : Kk 0 m₁ M₁)
    (step : TurnZ w p loose mean mg mb A A₀ base outer L g₁ body env a b c xs xys (min xs.length ys.length) ns m₁ Kk s) (k : LoopsZ A₀ base outer L g₁ s R (c :: b :: a :: ns) m₁ (Kk (min xs.length ys.length))) :
    wpAny (model Challenge.rw_bm0005_01.row.prog w) A (call (.type "zip") [.ref l1, .ref l2]) (fun xv s₁ => wpAny (model Challenge.rw_bm0005_01.row.prog w) A (pyIter xv) (fun it s₂ => codeAny (model Challenge.rw_bm0005_01.row.prog w) A (.forLoop (.Tuple [.Name a pa, .Tuple [.Name b pb, .Name c pc] kk' tp'] kk tp) it body [] env) R s₂) E s₁) E s := by
  refine for_zip (fun i m M => (∀ z, z ∉ c :: b :: a :: ns → m z = m₁ z) ∧ Kk i m M) xys F B XB TB D N hgs hh h1 h2 hpr hLe ha hb hc hp (fun i m M h => hkeep i m M h.2) ⟨fun _ _ => rfl, h0⟩ ?_ ?_
  · intro i own m m' M h gn tk g Q E' hi hB hI T F N B X TP D b' off k
    obtain ⟨x, y, z, hx, hxy, rfl⟩ := hB
    refine step i x y z own m M h gn tk g Q E' hi hx hxy hI.2 T (fr_congr F fun u => ?_) N B X TP D b' off k
    have e := spread_eq hI.1 u
    by_cases h1 : u = c
    · rw [if_pos h1, if_pos h1]
    by_cases h2 : u = b
    · rw [if_neg h1, if_neg h1, if_pos h2, if_pos h2]
    by_cases h3 : u = a
    · rw [if_neg h1, if_neg h1, if_neg h2, if_neg h2, if_pos h3, if_pos h3]
    rw [if_neg h1, if_neg h1, if_neg h2, if_neg h2, if_neg h3, if_neg h3, e]
    rw [spread_cons, if_neg h1, spread_cons, if_neg h2, spread_cons, if_neg h3]
  · intro g h gn tk m M T F N B D b hI
    exact k g h gn tk m M T (fr_congr F (spread_eq hI.1)) N B D b hI.2
end
end
section
theorem keep_name {x : Str} {v : Value} {m : Str → Option Value} (h : m x = some v) (z : Str) : m z = if z = x then some v else m z := by
  by_cases e : z = x
  · rw [if_pos e, e, h]
  · rw [if_neg e]
theorem spread_off {m m₁ : Str → Option Value} {z : Str} : ∀ {ns : List Str}, z ∉ ns → spread ns m m₁ z = m₁ z
  | [], _ => rfl
  | a :: r, h => by
    unfold spread
    rw [if_neg (fun (e : z = a) => h (e ▸ List.mem_cons_self))]
    exact spread_off fun e => h (List.mem_cons_of_mem _ e)
def Halt (P : Prop) : Prop := P
theorem halt {P : Prop} (h : Halt P) : P := h
theorem DatIn.view {w : World} {M : Led} {d d' : Doc} {v : Value} {ks : List Key} (h : DatIn w M d v ks d') : ∃ (a dx : Addr) (t1 t2 t3 : Tok) (pv cv : Value), v = .ref a ∧ (a, instObj 212 dx) ∈ M ∧ (dx, dictOf [ent w "_value" t1 d'.val, ent w "path" t2 pv, ent w "context" t3 cv] 3) ∈ M ∧
    ((cv = .none ∧ ks.length = 0 ∧ d' = d) ∨ ∃ (b : Addr) (ks' : List Key) (e : Doc), cv = .ref b ∧ ks.length = ks'.length + 1 ∧ DatIn w M d (.ref b) ks' e) := by
  cases h with
  | base h1 h2 => exact ⟨_, _, _, _, _, _, _, rfl, h1, h2, .inl ⟨rfl, rfl, rfl⟩⟩
  | step h1 h2 _ h4 => exact ⟨_, _, _, _, _, _, _, rfl, h1, h2, .inr ⟨_, _, _, rfl, by simp, h4⟩⟩
theorem noE {α : Type} {M : Model} {A : Around} {E : Value → Shared → Prop} {t : Sem α} {s : Shared} {Q : α → Shared → Prop} (h1 : wpAny M A t Q (fun _ _ => False) s) : wpAny M A t Q E s := wpAny_mono h1 (fun _ _ h => h) fun _ _ h => h.elim
theorem news_of {g h : Heap} {L : Addr} {M M' : Led} (N : News g L h M') (hs : ∀ q ∈ M, q ∈ M') : News g L h M := fun q hq => N q (hs q hq)
theorem key_good {k : Key} (h : KeyOk k) : Good k.path ∧ width k.path = 1 ∧ nOf k.path = 40 ∧ uOf k.path = 400 ∧ k.path ≠ .root ∧ k.path ≠ .this := by
  cases k with
  | name x => exact ⟨⟨fun y hy => by rw [List.mem_singleton.mp hy]; exact h, (by decide : 1 ≤ 2)⟩, rfl, rfl, rfl, nofun, nofun⟩
  | place i => exact ⟨(by decide : 1 ≤ 2), rfl, rfl, rfl, nofun, nofun⟩
theorem kid_first {p₀ c : Path} (h : p₀ = .root ∨ p₀ = .this) : kidOf p₀ c = c := by rcases h with rfl | rfl <;> rfl
theorem good_full {p₀ : Path} {ks : List Key} (h : p₀ = .root ∨ p₀ = .this) (hl : ks.length ≤ 3) (hk : ∀ k ∈ ks, KeyOk k) : (fullOf p₀ ks = .root ∨ Good (fullOf p₀ ks)) ∧ nOf (fullOf p₀ ks) ≤ 300 ∧ uOf (fullOf p₀ ks) ≤ 3000 := by
  match ks, hl with
  | [], _ => rcases h with rfl | rfl <;> exact ⟨by first | exact .inl rfl | exact .inr trivial, by decide, by decide⟩
  | [a], _ =>
    obtain ⟨g, w, n, u, _⟩ := key_good (hk a (by simp))
    have e : fullOf p₀ [a] = a.path := kid_first h
    rw [e]
    exact ⟨.inr g, by omega, by omega⟩
  | [a, b], _ =>
    obtain ⟨g1, w1, n1, u1, r1, t1⟩ := key_good (hk a (by simp))
    obtain ⟨g2, w2, n2, u2, _⟩ := key_good (hk b (by simp))
    have e : fullOf p₀ [a, b] = .child a.path b.path := by
      show kidOf (kidOf p₀ a.path) b.path = _
      rw [kid_first h, kidOf_other r1 t1]
    rw [e]
    refine ⟨.inr ⟨g1, g2, ?_⟩, by simp only [nOf]; omega, by simp only [uOf]; omega⟩
    show width a.path * width b.path ≤ 100
    rw [w1, w2]; decide
  | [a, b, c], _ =>
    obtain ⟨g1, w1, n1, u1, r1, t1⟩ := key_good (hk a (by simp))
    obtain ⟨g2, w2, n2, u2, _⟩ := key_good (hk b (by simp))
    obtain ⟨g3, w3, n3, u3, _⟩ := key_good (hk c (by simp))
    have e : fullOf p₀ [a, b, c] = .child (.child a.path b.path) c.path := by
      show kidOf (kidOf (kidOf p₀ a.path) b.path) c.path = _
      rw [kid_first h, kidOf_other r1 t1]; rfl
    rw [e]
    refine ⟨.inr ⟨⟨g1, g2, ?_⟩, g3, ?_⟩, by simp only [nOf]; omega, by simp only [uOf]; omega⟩
    · show width a.path * width b.path ≤ 100
      rw [w1, w2]; decide
    · show width a.path * width b.path * width c.path ≤ 100
      rw [w1, w2, w3]; decide
theorem key_walk {k : Key} {d d' : Doc} (h : d.get k = some d') : k.path.walk d = [([k], d')] := by
  cases k <;> simp [Key.path, Path.walk, Step.down, h]
theorem kid_walk {p c : Path} {d : Doc} : (kidOf p c).walk d = (p.walk d).flatMap fun x => (c.walk x.2).map fun y => (x.1 ++ y.1, y.2) := by
  cases p <;> simp [kidOf, Path.walk]
/-- by its path the match alone is found -/
theorem full_walk {w : World} {M : Led} {d d' : Doc} {v : Value} {ks : List Key} {p₀ : Path} (h₀ : p₀ = .root ∨ p₀ = .this) (h : DatIn w M d v ks d') : (fullOf p₀ ks).walk d = [(ks, d')] := by
  induction h with
  | base => rcases h₀ with rfl | rfl <;> rfl
  | step _ _ _ _ hg ih =>
    rw [fullOf_snoc, kid_walk, ih]
    simp [key_walk hg]
section
variable {w : World} {p : Program} {loose : List Str} {mean : ExcName → Option Value} {mg mb : Str → Option Value}
theorem full_find {q : Path} (hg : q = .root ∨ Good q) (hn : nOf q ≤ 300) (hu : uOf q ≤ 3000) : Spec w p loose mean mg mb (findOf q) 300 3000
    (fun (x : Doc) news args => ∃ v, args = ⟨[v, x.val], []⟩ ∧ PathIn w news v q ∧ DocIn w news x) (fun x news r => FindPost w x (q.walk x) news r) := by
  rcases hg with rfl | hg
  · exact Spec.weak root_find (by decide) (by decide)
  · intro dp un gd base fr g news s args R x G h1 h2 hb hp ret
    obtain ⟨v, rfl, hp, hd⟩ := hp
    refine (Spec.weak (find_all hg) hn hu) dp un gd base fr g news s _ R (x, [], x) G h1 h2 hb ⟨v, x.val, rfl, hp, hd, .raw⟩ ?_
    intro r tl h' gn tk g' G' T o b P
    refine ret r tl h' gn tk g' G' T o b ?_
    have e : under [] (q.walk x) = q.walk x := by simp [under]
    dsimp only at P
    rw [e] at P; exact P
variable {A A₀ : Around} {base h₀ : Heap} {env : Env} {outer : List Env} {L : Addr} {m : Str → Option Value} {M : Led} {s : Shared} {Q E : Value → Shared → Prop}
/-- the second find -/
theorem use_again {p₀ : Path} {ks : List Key} {d d' : Doc} {v a : Value} (hp0 : p₀ = .root ∨ p₀ = .this) (hlk : ks.length ≤ 3) (hok : ∀ k ∈ ks, KeyOk k) (F : Fr h₀ L s.heap m) (B : Below A₀ base outer h₀) (XB : (hd.heap_1 w.params).In base) (TB : Top p loose mean mg mb base) (D : KtsDicts (outer.filterMap (·.frame)) h₀)
    (N : News h₀ L s.heap M) (hA : A.frames = some (env :: outer)) (hf : env.frame = some L) (hke : env.scope.kind = .function) (hh : A.handled = none) (hdp : A.depth + 300 < recursionLimit) (hu : A.units + 3000 < cLine)
    (hb : AllBare s.gens) (hp : PathIn w M v (fullOf p₀ ks)) (hd : DocIn w M d) (ha : DatIn w M d a ks d')
    (kk : Comes w p loose mean mg mb A₀ base outer L m h₀ M s Q (fun tl r => ∃ c u n, r = .ref c ∧ (c, lstO [u] n) ∈ M ++ tl ∧ DatIn w (M ++ tl) d u ks d')) : wpAny (model Challenge.rw_bm0005_01.row.prog w) A (call (.ref (findOf (fullOf p₀ ks))) [v, d.val]) Q E s := by
  obtain ⟨g1, g2, g3⟩ := good_full hp0 hlk hok
  refine (full_find g1 g2 g3).call F B XB TB D N (fun q hq => hq) hA hf hke hh hdp hu hb d ⟨v, rfl, hp, hd⟩ ?_
  intro r tl h' gn tk g' T F N B X TP D o b P
  refine kk r tl h' gn tk g' T F N B X TP D o b ?_
  obtain ⟨c, vs, n, rfl, hm, hds⟩ := P
  rw [full_walk hp0 ha] at hds
  cases hds with
  | cons h t => cases t; exact ⟨c, _, n, rfl, hm, h⟩
theorem self_walk {q : Path} (h : q = .root ∨ q = .this) (d : Doc) : q.walk d = [([], d)] := by rcases h with rfl | rfl <;> rfl
/-- the document is found by the root and by this -/
theorem use_self {q : Path} {d : Doc} {v : Value} (hq : q = .root ∨ q = .this) (F : Fr h₀ L s.heap m) (B : Below A₀ base outer h₀) (XB : (hd.heap_1 w.params).In base) (TB : Top p loose mean mg mb base) (D : KtsDicts (outer.filterMap (·.frame)) h₀)
    (N : News h₀ L s.heap M) (hA : A.frames = some (env :: outer)) (hf : env.frame = some L) (hke : env.scope.kind = .function) (hh : A.handled = none) (hdp : A.depth + 300 < recursionLimit) (hu : A.units + 3000 < cLine)
    (hb : AllBare s.gens) (hp : PathIn w M v q) (hd : DocIn w M d)
    (kk : Comes w p loose mean mg mb A₀ base outer L m h₀ M s Q (fun tl r => ∃ c u n, r = .ref c ∧ (c, lstO [u] n) ∈ M ++ tl ∧ DatIn w (M ++ tl) d u [] d)) : wpAny (model Challenge.rw_bm0005_01.row.prog w) A (call (.ref (findOf q)) [v, d.val]) Q E s := by
  refine (full_find (by rcases hq with rfl | rfl; exact .inl rfl; exact .inr trivial) (by rcases hq with rfl | rfl <;> decide) (by rcases hq with rfl | rfl <;> decide)).call F B XB TB D N (fun q hq => hq) hA hf hke hh hdp hu hb d ⟨v, rfl, hp, hd⟩ ?_
  intro r tl h' gn tk g' T F N B X TP D o b P
  refine kk r tl h' gn tk g' T F N B X TP D o b ?_
  obtain ⟨c, vs, n, rfl, hm, hds⟩ := P
  rw [self_walk hq] at hds
  cases hds with
  | cons h t => cases t; exact ⟨c, _, n, rfl, hm, h⟩
theorem item_one {u : Value} {n : Nat} {a : Addr} {t : Tok} {value slice : Expr} (N : News h₀ L s.heap M) (hm : (a, lstO [u] n) ∈ M) (h : Q u s)
    (hs : subscripted slice false (.ref a) (.int 0 t) = operate [.ref a, .int 0 t] (getItem (.ref a) (.int 0 t))) : wpAny (model Challenge.rw_bm0005_01.row.prog w) A (subscriptTail value slice (.ref a) (.int 0 t)) Q E s := by
  have il := isList_of (N _ hm).1
  exact tail_any il.typeIs slot_list_getitem.lookup (wpAny_getItem_list il (by decide) (by decide) (by simp) h) hs
end
end
section
local macro_rules | `(tactic| walk_at "call builtin:len") => `(tactic| ((with_reducible show wpAny _ _ (call _ [Value.ref _]) _ _ _); k_dflt (apply len_led; walk_at "ms"; intro tk9 tk8)))
local macro_rules | `(tactic| walk_at "call ref") => `(tactic| ((with_reducible show wpAny _ _ (call (Value.ref 776) _) _ _ _); k_dflt first
  | (refine' use_docu_at 3 rfl ?F ?B ?XB ?TB ?D ?N ?A ?f ?ke ?h ?dp ?u ?b ?hm ?hv ?hl ?_; (case F => k_asm); (case B => k_asm); (case XB => assumption); (case TB => assumption); (case D => k_asm); (case N => k_asm); (case A => exact rfl); (case f => exact rfl); (case ke => exact rfl); (case h => exact rfl); (case dp => k_room); (case u => k_room); (case b => assumption); (case hm => k_mem); (case hv => assumption); (case hl => (simp only [List.length_drop]; omega)); intro r' tl' h' gn' tk' g' T' F' N' B' X' TP' D' o' b' P')
  | (refine' use_docu_at (x := [22, 23, 0, 6, 21, 12, 18, 10, 3, 28]) 3 rfl ?F ?B ?XB ?TB ?D ?N ?A ?f ?ke ?h ?dp ?u ?b ?hm ?hv ?hl ?_; (case F => k_asm); (case B => k_asm); (case XB => assumption); (case TB => assumption); (case D => k_asm); (case N => k_asm); (case A => exact rfl); (case f => exact rfl); (case ke => exact rfl); (case h => exact rfl); (case dp => k_room); (case u => k_room); (case b => assumption); (case hm => k_mem); (case hv => exact .cons _ _ (.cons _ _ (.cons _ _ (.cons _ _ (.cons _ _ (.cons _ _ (.cons _ _ (.cons _ _ (.cons _ _ (.cons _ _ .nil)))))))))); (case hl => decide); intro r' tl' h' gn' tk' g' T' F' N' B' X' TP' D' o' b' P')))
local macro_rules | `(tactic| walk_at "m_law") => `(tactic| (apply LawAt.mk0; walk_at "ms"))
local macro_rules | `(tactic| walk_at "m_lawS") => `(tactic| (apply LawAt.mk; walk_at "ms"))
local macro_rules | `(tactic| walk_at "call ref") => `(tactic| ((with_reducible show wpAny _ _ (call (Value.ref 770) _) _ _ _); k_dflt first
  | (refine' use_at 0 rfl ?F ?B ?XB ?TB ?D ?N ?A ?f ?ke ?h ?dp ?u ?b ?hm ?hv ?hl ?hk ?_; (case F => k_asm); (case B => k_asm); (case XB => assumption); (case TB => assumption); (case D => k_asm); (case N => k_asm); (case A => exact rfl); (case f => exact rfl); (case ke => exact rfl); (case h => exact rfl); (case dp => k_room); (case u => k_room); (case b => assumption); (case hm => k_mem); (case hv => assumption); (case hl => assumption); (case hk => decide); intro r' tl' h' gn' tk' g' T' F' N' B' X' TP' D' o' b' P'; obtain ⟨i9', t9', e9'⟩ := P'; subst e9')
  | (refine' use_at _ ?hz ?F ?B ?XB ?TB ?D ?N ?A ?f ?ke ?h ?dp ?u ?b ?hm ?hv ?hl ?hk ?_; (case F => k_asm); (case B => k_asm); (case XB => assumption); (case TB => assumption); (case D => k_asm); (case N => k_asm); (case A => exact rfl); (case f => exact rfl); (case ke => exact rfl); (case h => exact rfl); (case dp => k_room); (case u => k_room); (case b => assumption); (case hz => assumption); (case hm => k_mem); (case hv => assumption); (case hl => assumption); (case hk => assumption); intro r' tl' h' gn' tk' g' T' F' N' B' X' TP' D' o' b' P'; obtain ⟨i9', t9', e9'⟩ := P'; subst e9')))
local macro_rules | `(tactic| walk_at "call type:range") => `(tactic| (k_dflt (apply call_range; walk_at "ms"; intro h' r' tk9 t9' F' N' l')))
local macro_rules | `(tactic| walk_at "subscriptTail") => `(tactic| ((with_reducible show wpAny _ _ (subscriptTail _ _ (Value.ref _) (Value.int _ _)) _ _ _); k_dflt (refine' item_ints (x := [0, 4, 12]) ?N ?hm three_ints ?hl ?h0 ?h1 ?_ ?hs; (case N => k_asm); (case hm => k_mem); (case hl => decide); (case hs => with_unfolding_all rfl); (case h0 => assumption); (case h1 => assumption)); intro j9 t9 he9))
local macro_rules | `(tactic| walk_at "call ref") => `(tactic| ((with_reducible show wpAny _ _ (call (Value.ref 788) _) _ _ _); k_dflt (apply use_steps; walk_at "ms"; walk_at "mi"; intro P')))
local macro_rules | `(tactic| walk_at "call ref") => `(tactic| ((with_reducible show wpAny _ _ (call (Value.ref 805) _) _ _ _); k_dflt (apply use_walk; walk_at "ms"; walk_at "mi"; intro P'; obtain ⟨b9', ms9', n9', e9', hm9', hM9'⟩ := P'; subst e9')))
local macro_rules | `(tactic| walk_at "call ref") => `(tactic| ((with_reducible show wpAny _ _ (call (Value.ref 812) _) _ _ _); k_dflt (apply use_pathl; walk_at "ms"; walk_at "mi"; intro P'; (try dsimp only at P'); obtain ⟨a9', e9'⟩ := PathIn.ref P'; subst e9')))
local macro_rules | `(tactic| walk_at "getMethod ref") => `(tactic| ((with_reducible show wpAny _ _ (getMethod _ (Str.ofString "find") _) _ _ _); k_dflt (apply gm_find; walk_at "ms"; try focus first | exact .root (by k_mem) (by k_mem) | exact .this (by k_mem) (by k_mem))))
local macro_rules | `(tactic| walk_at "callWith ref") => `(tactic| ((with_reducible show wpAny _ _ (callWith _ (Value.ref (findOf _)) _ _ _) _ _ _); k_dflt (refine' callWith_K ?k1 ?k2 ?_; (case k1 => k_asm); (case k2 => exact keep_find _ (by k_asm)))))
local macro_rules | `(tactic| walk_at "call ref") => `(tactic| ((with_reducible show wpAny _ _ (call (Value.ref (findOf _)) _) _ _ _); k_dflt (apply use_chain; walk_at "ms"; walk_at "mi"; intro P'; obtain ⟨c9', vs9', n9', e9', hm9', hd9'⟩ := P'; subst e9')))
local macro_rules | `(tactic| walk_at "compareOp NotEq ref ref") => `(tactic| (k_dflt first
  | (refine' ne_texts ?N ?ha ?hb ?hv ?hx ?u ?_; (case N => k_asm); (case ha => k_mem); (case hb => k_mem); (case hv => assumption); (case hx => assumption); (case u => k_room))
  | (refine' ne_same (vs := valsOf _) ?N ?ha ?hb ?u ?_; (case N => k_asm); (case ha => k_mem); (case hb => k_mem); (case u => k_room))
  | (refine' ne_nil ?N ?ha ?hb ?u ?_; (case N => k_asm); (case ha => k_mem); (case hb => k_mem); (case u => k_room))))
local macro_rules | `(tactic| walk_at "getAttr ref") => `(tactic| ((with_reducible show wpAny _ _ (getAttr _ (Str.ofString "full_path") _) _ _ _); k_dflt (apply get_prop; walk_at "mk"; apply use_full; walk_at "ms"; walk_at "mi"; intro P'; obtain ⟨p0', hp0', hP'⟩ := P'; obtain ⟨a9', e9'⟩ := PathIn.ref hP'; subst e9'; (with_reducible refine handedOut_ref ?_); (try dsimp only))))
local macro_rules | `(tactic| walk_at "call ref") => `(tactic| ((with_reducible show wpAny _ _ (call (Value.ref 781) _) _ _ _); k_dflt (apply use_text; walk_at "ms"; walk_at "mi"; intro P'; obtain ⟨t9', e9'⟩ := P'; subst e9')))
local macro_rules | `(tactic| walk_at "m_off7") => `(tactic| first | assumption | (refine off_app ?_ ?_ <;> walk_at "m_off7") | exact off_new (o := _) (by assumption) (by k_mem))
local macro_rules | `(tactic| walk_at "m_x") => `(tactic| first | ((with_reducible show News _ _ _ _); exact news_ca (by assumption)) | walk_at "m_off7")
local macro_rules | `(tactic| walk_at "call type:str") => `(tactic| ((with_reducible show wpAny _ _ (call (Value.type "str") [Value.ref _]) _ _ _); k_dflt (apply str_full; walk_at "ms"; intro t' r' tl' h' gn' tk' g' ps' T' F' N' B' X' TP' D' o' o7' ht' b' P' e'; subst e')))
local macro_rules | `(tactic| walk_at "call ref") => `(tactic| ((with_reducible show wpAny _ _ (call (Value.ref (findOf (fullOf _ _))) _) _ _ _); k_dflt (apply use_again; walk_at "ms"; walk_at "mi"; intro P'; obtain ⟨c9', v9', n9', e9', hm9', hd9'⟩ := P'; subst e9'; obtain ⟨a8', x8', w1', w2', w3', w4', w5', f8', r1', r2'⟩ := hd9'.objs; subst f8')))
local macro_rules | `(tactic| walk_at "subscriptTail Name Name int") => `(tactic| ((with_reducible show wpAny _ _ (subscriptTail _ _ (Value.ref _) (Value.int 0 _)) _ _ _); k_dflt (refine' item_one ?N ?hm ?_ ?hs; (case N => k_asm); (case hm => k_mem); (case hs => with_unfolding_all rfl))))
local macro_rules | `(tactic| walk_at "subscriptTail") => `(tactic| ((with_reducible show wpAny _ _ (subscriptTail _ _ (Value.ref _) (Value.int 0 _)) _ _ _); k_dflt (refine' item_one ?N ?hm ?_ ?hs; (case N => k_asm); (case hm => k_mem); (case hs => with_unfolding_all rfl))))
local macro_rules | `(tactic| walk_at "compareOp NotEq") => `(tactic| (k_dflt (refine' ne_doc ?N ?hd ?u ?_; (case N => k_asm); (case hd => exact DocIn.mono (by assumption) (by walk_at "m_sub")); (case u => k_room))))
local macro_rules | `(tactic| walk_at "exec While Compare") => `(tactic| (k_dflt (refine noE (whl_start 100 (halt ?_)))))
local macro_rules | `(tactic| walk_at "last exec While") => `(tactic| (k_dflt (refine noE (whl_start 100 (halt ?_)))))
local macro_rules | `(tactic| walk_at "exec While") => `(tactic| (k_dflt (refine noE (whl_start 100 (halt ?_)))))
local macro_rules | `(tactic| walk_at "call ref") => `(tactic| (k_dflt (first | ((with_reducible show wpAny _ _ (call (Value.ref (findOf Path.root)) _) _ _ _); apply use_self (.inl rfl)) | ((with_reducible show wpAny _ _ (call (Value.ref (findOf Path.this)) _) _ _ _); apply use_self (.inr rfl))); k_dflt (walk_at "ms"; (try focus first | exact .root (by k_mem) (by k_mem) | exact .this (by k_mem) (by k_mem)); walk_at "ms"; walk_at "mi"; intro P'; obtain ⟨c9', v9', n9', e9', hm9', hd9'⟩ := P'; subst e9')))
local macro_rules | `(tactic| walk_at "compareOp Eq ref ref") => `(tactic| (k_dflt (refine' eq_same (vs := [_]) ?N ?ha ?hb ?u ?_; (case N => k_asm); (case ha => k_mem); (case hb => k_mem); (case u => k_room))))
section
variable {w : World} {p : Program} {loose : List Str} {mean : ExcName → Option Value} {mg mb : Str → Option Value}
theorem law_spec : SpecP w p loose mean mg mb 817 400 4000
    (fun (x : List Int) news args => ∃ a vs n, args = ⟨[.ref a], []⟩ ∧ (a, lstO vs n) ∈ news ∧ IntsAre vs x ∧ x.length ≤ 63)
    (fun _ news r => r = .bool true) := by
  intro dp un gd base fr g news ps s args R x G off htr hdp hun hgn hpre ret
  obtain ⟨a, vs, n, rfl, ha, hv, hl⟩ := hpre
  have hl9 : vs.length ≤ 100 := by have := intsLen hv; omega
  have KB := G.kb
  have TB := G.tb
  revert KB
  k_fill
  intro KB
  k_dflt walk_at "m_enterC"
  with_reducible rename Fr _ _ _ _ => FF9
  replace FF9 := fr_congr (m' := fun _ => none) FF9 (fun z => rfl)
  try k_fold
  k_dflt walk1
  refine at_mono (fun L => Mid1 w (AR dp un gd fr) base fr g L s (fun _ => none) (L + 1) a (tabE ps :: news)) FF9 ?zs1 ?zr1
  case zs1 =>
    walk_at "m_go"
    all_goals (obtain ⟨T9, d9, b9, vs9, x9, n8, n9, e9, hT9, hd9, hb9, hi9, hl9⟩ := (by assumption : DocuPost _ _ _ _))
    all_goals subst e9
    all_goals walk_at "m_go"
    all_goals exact ⟨rfl, _, d9, _, by walk_at "m_law", DocIn.mono hd9 (by walk_at "m_sub"), by k_mem, by assumption, by walk_at "m_sub"⟩
  case zr1 =>
    intro fl s' hM
    obtain ⟨rfl, M, d, oc, hAt, hd, hc, hcd, hN⟩ := hM
    obtain ⟨h1, gn1, tk1, g1, rfl, T1, F1, N1, B1, D1, b1⟩ := hAt
    have hsc : (a, lstO vs n) ∈ M := hN _ (List.mem_cons_of_mem _ ha)
    have X1 := KB.keeps B1.stays
    have TP1 := TB.keeps B1.stays
    dsimp only
    k_dflt walk1
    refine at_mono (fun L => Mid2 w (AR dp un gd fr) base fr g L s (fun _ => none) (tabE ps :: news)) F1 ?zs2 ?zr2
    case zs2 =>
      walk_at "m_go"
      k_dflt (refine' rangeZ (fun M i ys => ∃ xs : List Int, IntsAre ys xs ∧ xs.length = i ∧ i ≤ 3) ?zhz ?zF ?zB ?zXB ?zTB ?zD ?zN ?zb ?zhh ?zhm ?zhk ?zhcell ?zkd ?zhx ?zlen ?zI ?zEA ?zfin; (case zF => k_asm); (case zB => k_asm); (case zXB => assumption); (case zTB => assumption); (case zD => k_asm); (case zN => k_asm); (case zb => assumption); (case zhh => exact rfl); (case zhm => k_mem); (case zhz => exact fmod_nat _); (case zhk => exact Nat.le_trans (fmod_le _) (by decide)); (case zhcell => decide); (case zkd => exact rfl); (case zhx => exact rfl))
      case zlen =>
        rintro M9 i9 ys9 ⟨xs, h1, h2, h3⟩
        rw [intsLen h1, h2]; exact Nat.le_trans h3 (by decide)
      case zI => exact fun M => ⟨[], .nil, rfl, Nat.zero_le _⟩
      case zEA =>
        intro i2 own C oC D2 mc h gn tk g2 ys tl Q Z E' hi hB hO F' N' B' X' TP' D' b' hI ord hH kQ kZ
        ((with_reducible rename Fr _ _ _ _ => F8); (with_reducible rename News _ _ _ _ => N8); (with_reducible rename Below _ _ _ _ => B8); (with_reducible rename KtsDicts _ _ => D8); (with_reducible rename AllBare _ => b8); revert F8 N8 B8 D8 b8; (repeat ((with_reducible rename Fr _ _ _ _ => F8); clear F8)); (repeat ((with_reducible rename News _ _ _ _ => N8); clear N8)); (repeat ((with_reducible rename Below _ _ _ _ => B8); clear B8)); (repeat ((with_reducible rename KtsDicts _ _ => D8); clear D8)); (repeat ((with_reducible rename AllBare _ => b8); clear b8)); intro F8 N8 B8 D8 b8)
        obtain ⟨t2, hmc⟩ := hB
        obtain ⟨xs, hx1, hx2, hx3⟩ := hI
        have hi3 : i2 + 1 ≤ 3 := Nat.le_trans hi (fmod_le _)
        have hi10 : i2 + 1 ≤ 10 := Nat.le_trans hi3 (by decide)
        have hz9 : (1 + (i2 : Int)) = ((i2 + 1 : Nat) : Int) := by omega
        have hk3 : (i2 : Int) < 3 := by omega
        have hk0 : 0 ≤ (i2 : Int) := by omega
        refine wpAny_tests_nil ?_
        simp only [if_true]
        walk_at "m_go"
        (refine' hands_end ?zk ?ze1 ?ze2 ?zT ?zF ?zN ?zB ?zD ?zb ?zS ?_; (case zk => assumption); (case ze1 => exact rfl); (case ze2 => exact rfl); (case zF => k_asm); (case zN => k_asm); (case zB => k_asm); (case zD => k_asm); (case zT => walk_at "m_turn"); (case zb => assumption); (case zS => walk_at "m_split"))
        intro hM
        exact ⟨_, ints_snoc hx1, by simp [hx2], hi3⟩
      case zfin =>
        refine' blockEnd_e ?_
        intro D2 g3 h3 gn3 tk3 zs tl3 T' F' N' B' D' b' hlt2 ord2 hZ
        obtain ⟨xs, hx1, hx2, hx3⟩ := hZ
        have hx9 : xs.length ≤ 3 := by omega
        have X9 := KB.keeps B'.stays
        have TP9 := TB.keeps B'.stays
        ((with_reducible rename Fr _ _ _ _ => F8); (with_reducible rename News _ _ _ _ => N8); (with_reducible rename Below _ _ _ _ => B8); (with_reducible rename KtsDicts _ _ => D8); (with_reducible rename AllBare _ => b8); revert F8 N8 B8 D8 b8; (repeat ((with_reducible rename Fr _ _ _ _ => F8); clear F8)); (repeat ((with_reducible rename News _ _ _ _ => N8); clear N8)); (repeat ((with_reducible rename Below _ _ _ _ => B8); clear B8)); (repeat ((with_reducible rename KtsDicts _ _ => D8); clear D8)); (repeat ((with_reducible rename AllBare _ => b8); clear b8)); intro F8 N8 B8 D8 b8)
        walk_at "m_go"
        obtain ⟨b9, ws9, n9, st, e9, hb9, hl9, hs9⟩ := (by assumption : ∃ b ws n st, _ ∧ _ ∧ _ ∧ StepsIn _ _ _ _)
        subst e9
        walk_at "m_go"
        exact ⟨rfl, _, d, _, _, _, st, by walk_at "m_law", hd.mono (by walk_at "m_sub"), hb9, hs9, by omega, by walk_at "m_sub"⟩
    case zr2 =>
      clear F1 N1 B1 D1 b1 X1 TP1 hsc hd hc hcd hN T1
      intro fl s' hM
      obtain ⟨rfl, M, d, sa, ws, n9, st, hAt, hd, hsa, hst, hsl, hN⟩ := hM
      obtain ⟨h1, gn1, tk1, g1, rfl, T1, F1, N1, B1, D1, b1⟩ := hAt
      have X1 := KB.keeps B1.stays
      have TP1 := TB.keeps B1.stays
      dsimp only
      k_dflt walk1
      refine at_mono (fun L => Mid3 w (AR dp un gd fr) base fr g L s (fun _ => none) (tabE ps :: news)) F1 ?zs3 ?zr3
      case zs3 =>
        walk_at "m_go"
        exact ⟨rfl, _, d, _, _, _, st, _, _, _, by walk_at "m_law", hd.mono (by walk_at "m_sub"), by k_mem, paired_imp (fun _ _ h => h.mono (by walk_at "m_sub")) hst, hsl, by assumption, by assumption, by walk_at "m_sub"⟩
      case zr3 =>
        clear F1 N1 B1 D1 b1 X1 TP1 hd hsa hst hsl hN T1
        intro fl s' hM
        obtain ⟨rfl, M, d, sa, ws, n9, st, da, ms, n8, hAt, hd, hsa, hst, hsl, hda, hms, hN⟩ := hM
        obtain ⟨h1, gn1, tk1, g1, rfl, T1, F1, N1, B1, D1, b1⟩ := hAt
        have X1 := KB.keeps B1.stays
        have TP1 := TB.keeps B1.stays
        obtain ⟨hg1, hg2, hg3⟩ := chain_good hst hsl
        have S9 := chain_find (w := w) (p := p) (loose := loose) (mean := mean) (mg := mg) (mb := mb) hg1 hg2 hg3
        dsimp only
        k_dflt walk1
        refine at_mono (fun L => Mid4 w (AR dp un gd fr) base fr g L s (fun _ => none) (tabE ps :: news)) F1 ?zs4 ?zr4
        case zs4 =>
          walk_at "m_go"
          exact ⟨rfl, _, d, sa, da, _, st, ms, _, by walk_at "m_law", ⟨hd.mono (by walk_at "m_sub"), ⟨ws, n9, by k_mem, paired_imp (fun _ _ h => h.mono (by walk_at "m_sub")) hst⟩, hsl, ⟨n8, by k_mem⟩, hms.mono (by walk_at "m_sub"), ⟨_, by assumption⟩, by assumption, by walk_at "m_sub"⟩⟩
        case zr4 =>
          clear F1 N1 B1 D1 b1 X1 TP1 hd hsa hst hsl hda hms hN T1 hg1 hg2 hg3 S9
          intro fl s' hM
          obtain ⟨rfl, M, d, sa, da, ta, st, ms, vs4, hAt, hT⟩ := hM
          obtain ⟨h1, gn1, tk1, g1, rfl, T1, F1, N1, B1, D1, b1⟩ := hAt
          have X1 := KB.keeps B1.stays
          have TP1 := TB.keeps B1.stays
          obtain ⟨ws, n9, hsa, hst⟩ := hT.steps
          obtain ⟨n8, hda⟩ := hT.due
          obtain ⟨n7, hta⟩ := hT.told
          have h27 := told_len hT.doc hst hT.few
          have hdats := hT.dats
          obtain ⟨xys, hxy, hpa⟩ := match_pairs hT.mats
          dsimp only
          k_dflt walk1
          refine at_mono (fun L => Mid4 w (AR dp un gd fr) base fr g L s (fun _ => none) (tabE ps :: news)) F1 ?zs5 ?zr5
          case zs5 =>
            walk_at "m_go"
            k_dflt (refine' listI (fun M i ys => ys = valsOf ((walkOf st d).take i)) ?zF ?zB ?zXB ?zTB ?zD ?zN ?zb ?zhh ?zhm ?zhcell ?zkd ?zhx ?zlen ?zI ?zEA ?zfin; (case zF => k_asm); (case zB => k_asm); (case zXB => assumption); (case zTB => assumption); (case zD => k_asm); (case zN => k_asm); (case zb => assumption); (case zhh => exact rfl); (case zhm => k_mem); (case zhcell => decide); (case zkd => exact rfl); (case zhx => exact rfl))
            case zlen => exact fun M i ys h9 => vals_len h9 h27
            case zI => exact fun M => rfl
            case zEA =>
              intro i2 own C oC D2 mc h gn tk g2 ys tl Q Z E' hi hB hO F' N' B' X' TP' D' b' hI ord hH kQ kZ
              ((with_reducible rename Fr _ _ _ _ => F8); (with_reducible rename News _ _ _ _ => N8); (with_reducible rename Below _ _ _ _ => B8); (with_reducible rename KtsDicts _ _ => D8); (with_reducible rename AllBare _ => b8); revert F8 N8 B8 D8 b8; (repeat ((with_reducible rename Fr _ _ _ _ => F8); clear F8)); (repeat ((with_reducible rename News _ _ _ _ => N8); clear N8)); (repeat ((with_reducible rename Below _ _ _ _ => B8); clear B8)); (repeat ((with_reducible rename KtsDicts _ _ => D8); clear D8)); (repeat ((with_reducible rename AllBare _ => b8); clear b8)); intro F8 N8 B8 D8 b8)
              obtain ⟨v9, hv9, hmv⟩ := hB
              obtain ⟨y9, hy9, hD9⟩ := paired_get hdats hv9
              obtain ⟨a9, dx9, u1, u2, u3, pv9, cv9, rfl, hq1, hq2⟩ := hD9.objs
              have hdoc9 := hD9.doc hT.doc
              refine wpAny_tests_nil ?_
              simp only [if_true]
              walk_at "m_go"
              (refine' hands_end ?zk ?ze1 ?ze2 ?zT ?zF ?zN ?zB ?zD ?zb ?zS ?_; (case zk => assumption); (case ze1 => exact rfl); (case ze2 => exact rfl); (case zF => k_asm); (case zN => k_asm); (case zB => k_asm); (case zD => k_asm); (case zT => walk_at "m_turn"); (case zb => assumption); (case zS => walk_at "m_split"))
              intro hM
              exact vals_next hI hy9 rfl
            case zfin =>
              refine' blockEnd_e ?_
              intro D2 g3 h3 gn3 tk3 zs tl3 T' F' N' B' D' b' hlt2 ord2 hZ
              have X9 := KB.keeps B'.stays
              have TP9 := TB.keeps B'.stays
              ((with_reducible rename Fr _ _ _ _ => F8); (with_reducible rename News _ _ _ _ => N8); (with_reducible rename Below _ _ _ _ => B8); (with_reducible rename KtsDicts _ _ => D8); (with_reducible rename AllBare _ => b8); revert F8 N8 B8 D8 b8; (repeat ((with_reducible rename Fr _ _ _ _ => F8); clear F8)); (repeat ((with_reducible rename News _ _ _ _ => N8); clear N8)); (repeat ((with_reducible rename Below _ _ _ _ => B8); clear B8)); (repeat ((with_reducible rename KtsDicts _ _ => D8); clear D8)); (repeat ((with_reducible rename AllBare _ => b8); clear b8)); intro F8 N8 B8 D8 b8)
              have hZ := vals_all hZ hdats.length
              walk_at "m_go"
              k_dflt (refine' src_pairs (xys := xys) (Inv := fun i ys _ => ys = valsOf ((walkOf st d).take i)) ?zB ?zF ?zXB ?zTB ?zD ?zN ?zb ?zhh ?zhm ?zhp ?zhcell ?zkd ?zhx1 ?zhx2 ?zhxx ?zlen ?zI ?zEA ?zfin; (case zF => k_asm); (case zB => k_asm); (case zXB => assumption); (case zTB => assumption); (case zD => k_asm); (case zN => k_asm); (case zb => assumption); (case zhh => exact rfl); (case zhm => k_mem); (case zhp => exact fun i9 v9 h9 => (by obtain ⟨T9, n9, a9, b9, e9, f9, g9⟩ := hxy i9 v9 h9; exact ⟨T9, n9, a9, b9, e9, f9, by k_mem⟩)); (case zhcell => decide); (case zkd => exact rfl); (case zhx1 => exact rfl); (case zhx2 => exact rfl); (case zhxx => decide))
              case zlen => exact fun i ys _ h9 => vals_len h9 h27
              case zI => exact rfl
              case zEA =>
                intro i2 own C oC D2 mc h gn tk g2 ys tl Q Z E' hi hB hO F' N' B' X' TP' D' b' hI ord hH kQ kZ
                ((with_reducible rename Fr _ _ _ _ => F8); (with_reducible rename News _ _ _ _ => N8); (with_reducible rename Below _ _ _ _ => B8); (with_reducible rename KtsDicts _ _ => D8); (with_reducible rename AllBare _ => b8); revert F8 N8 B8 D8 b8; (repeat ((with_reducible rename Fr _ _ _ _ => F8); clear F8)); (repeat ((with_reducible rename News _ _ _ _ => N8); clear N8)); (repeat ((with_reducible rename Below _ _ _ _ => B8); clear B8)); (repeat ((with_reducible rename KtsDicts _ _ => D8); clear D8)); (repeat ((with_reducible rename AllBare _ => b8); clear b8)); intro F8 N8 B8 D8 b8)
                obtain ⟨u9, v9, hv9, hm1, hm2⟩ := hB
                obtain ⟨y9, hy9, hD9⟩ := paired_get hpa hv9
                cases hD9
                refine wpAny_tests_nil ?_
                simp only [if_true]
                walk_at "m_go"
                (refine' hands_end ?zk ?ze1 ?ze2 ?zT ?zF ?zN ?zB ?zD ?zb ?zS ?_; (case zk => assumption); (case ze1 => exact rfl); (case ze2 => exact rfl); (case zF => k_asm); (case zN => k_asm); (case zB => k_asm); (case zD => k_asm); (case zT => walk_at "m_turn"); (case zb => assumption); (case zS => walk_at "m_split"))
                intro hM
                exact vals_next hI hy9 rfl
              case zfin =>
                refine' blockEnd_e ?_
                intro D5 g5 h5 gn5 tk5 zs5 tl5 T' F' N' B' D' b' hlt5 ord5 hZ5
                have X5 := KB.keeps B'.stays
                have TP5 := TB.keeps B'.stays
                ((with_reducible rename Fr _ _ _ _ => F8); (with_reducible rename News _ _ _ _ => N8); (with_reducible rename Below _ _ _ _ => B8); (with_reducible rename KtsDicts _ _ => D8); (with_reducible rename AllBare _ => b8); revert F8 N8 B8 D8 b8; (repeat ((with_reducible rename Fr _ _ _ _ => F8); clear F8)); (repeat ((with_reducible rename News _ _ _ _ => N8); clear N8)); (repeat ((with_reducible rename Below _ _ _ _ => B8); clear B8)); (repeat ((with_reducible rename KtsDicts _ _ => D8); clear D8)); (repeat ((with_reducible rename AllBare _ => b8); clear b8)); intro F8 N8 B8 D8 b8)
                have hZ5 := vals_all hZ5 (by have e1 := hT.mats.length; exact e1)
                subst hZ hZ5
                walk_at "m_go"
                exact ⟨rfl, _, d, sa, da, ta, st, ms, vs4, by walk_at "m_law", hT.mono (by walk_at "m_sub")⟩
          case zr5 =>
            clear F1 N1 B1 D1 b1 X1 TP1 T1 hsa hst hda hta h27 hdats hxy hpa hT
            intro fl s' hM
            obtain ⟨rfl, M9, d, sa, da, ta, st, ms, vs4, hAt, hT9⟩ := hM
            obtain ⟨h1, gn1, tk1, g1, rfl, T1, F1, N9, B1, D1, b1⟩ := hAt
            obtain ⟨M, N1, hOwn, off1, hsub⟩ := tab_aside N9 (hT9.sub _ List.mem_cons_self)
            have hT := hT9.own (news' := news) hOwn (fun q hq => hsub q (hT9.sub q (List.mem_cons_of_mem _ hq)) (off q hq))
            clear N9 hOwn hsub hT9
            have X1 := KB.keeps B1.stays
            have TP1 := TB.keeps B1.stays
            obtain ⟨ws, n9, hsa, hst⟩ := hT.steps
            obtain ⟨n8, hda⟩ := hT.due
            obtain ⟨n7, hta⟩ := hT.told
            have h27 := told_len hT.doc hst hT.few
            have hok := told_ok hT.doc hst
            have hdats := hT.dats
            obtain ⟨xys, hxy, hpa⟩ := match_pairs hT.mats
            have S3 := full_spec (w := w) (p := p) (loose := loose) (mean := mean) (mg := mg) (mb := mb) 3
            dsimp only
            k_dflt walk1
            refine at_mono (fun L => Mid6 w (AR dp un gd fr) base fr g L s (fun _ => none) news) F1 ?zs6 ?zr6
            case zs6 =>
              walk_at "m_go"
              · exact ⟨rfl, M, d, sa, da, ta, st, ms, vs4, ps, by walk_at "m_lawS", hT, off1, htr⟩
              obtain ⟨sn, hsn⟩ := nonempty_len hst (by assumption)
              have hsn2 : sn ≤ 2 := by have := hT.few; omega
              k_dflt (refine' listP (fun i ys => StrsAre ys (textsOf ((walkOf st d).take i))) ?zF ?zB ?zXB ?zTB ?zD ?zN ?zoff ?zht ?zb ?zhh ?zhm ?zhcell ?zkd ?zhx ?zlen ?zI ?zEA ?zfin; (case zF => k_asm); (case zB => k_asm); (case zXB => assumption); (case zTB => assumption); (case zD => k_asm); (case zN => exact news_swap (by k_asm)); (case zoff => exact off_gt (And.left (by assumption)) off1); (case zht => assumption); (case zb => assumption); (case zhh => exact rfl); (case zhm => k_mem); (case zhcell => decide); (case zkd => exact rfl); (case zhx => exact rfl))
              case zlen => exact fun i ys h9 => texts_size h9 h27
              case zI => exact .nil
              case zEA =>
                intro i2 own C oC D2 mc h gn tk g2 ys tl ps2 Q E' hi hB hO F' N' B' X' TP' D' b' hI off7 tri hH kQ
                ((with_reducible rename Fr _ _ _ _ => F8); (with_reducible rename News _ _ _ _ => N8); (with_reducible rename Below _ _ _ _ => B8); (with_reducible rename KtsDicts _ _ => D8); (with_reducible rename AllBare _ => b8); revert F8 N8 B8 D8 b8; (repeat ((with_reducible rename Fr _ _ _ _ => F8); clear F8)); (repeat ((with_reducible rename News _ _ _ _ => N8); clear N8)); (repeat ((with_reducible rename Below _ _ _ _ => B8); clear B8)); (repeat ((with_reducible rename KtsDicts _ _ => D8); clear D8)); (repeat ((with_reducible rename AllBare _ => b8); clear b8)); intro F8 N8 B8 D8 b8)
                obtain ⟨v9, hv9, hmv⟩ := hB
                obtain ⟨y9, hy9, hD9⟩ := paired_get hdats hv9
                obtain ⟨a9, dx9, u1, u2, u3, pv9, cv9, rfl, hq1, hq2⟩ := hD9.objs
                obtain ⟨hkl, hkok⟩ := hok y9 (List.mem_of_getElem? hy9)
                have hkl3 : y9.1.length ≤ 3 := by have := hT.few; omega
                have hkn : y9.1.length = sn + 1 := by omega
                walk_at "m_go"
                refine' handsP_end ?zk ?ze1 ?ze2 ?zT ?zF ?zN ?zB ?zD ?zb ?zS ?zo7 ?zht ?_; (case zk => exact kQ); (case ze1 => exact rfl); (case ze2 => exact rfl); (case zF => k_asm); (case zN => first | exact news_ca (by k_asm) | k_asm); (case zB => k_asm); (case zD => k_asm); (case zT => walk_at "m_turn"); (case zb => assumption); (case zS => walk_at "m_split"); (case zo7 => walk_at "m_off7"); (case zht => assumption)
                exact texts_next hI hy9 rfl
              case zfin =>
                intro D2 g3 h3 gn3 tk3 zs tl3 ps3 T' F' N' B' X' TP' D' b' hlt2 ord2 off7 tri hZ
                ((with_reducible rename Fr _ _ _ _ => F8); (with_reducible rename News _ _ _ _ => N8); (with_reducible rename Below _ _ _ _ => B8); (with_reducible rename KtsDicts _ _ => D8); (with_reducible rename AllBare _ => b8); revert F8 N8 B8 D8 b8; (repeat ((with_reducible rename Fr _ _ _ _ => F8); clear F8)); (repeat ((with_reducible rename News _ _ _ _ => N8); clear N8)); (repeat ((with_reducible rename Below _ _ _ _ => B8); clear B8)); (repeat ((with_reducible rename KtsDicts _ _ => D8); clear D8)); (repeat ((with_reducible rename AllBare _ => b8); clear b8)); intro F8 N8 B8 D8 b8)
                have hZ := texts_all hZ hdats.length
                walk_at "m_go"
                k_dflt (refine' src_pairs (xys := xys) (Inv := fun i ys _ => StrsAre ys (textsOf ((walkOf st d).take i))) ?zB ?zF ?zXB ?zTB ?zD ?zN ?zb ?zhh ?zhm ?zhp ?zhcell ?zkd ?zhx1 ?zhx2 ?zhxx ?zlen ?zI ?zEA ?zfin; (case zF => k_asm); (case zB => k_asm); (case zXB => assumption); (case zTB => assumption); (case zD => k_asm); (case zN => k_asm); (case zb => assumption); (case zhh => exact rfl); (case zhm => k_mem); (case zhp => exact fun i9 v9 h9 => (by obtain ⟨T9, n9, a9, b9, e9, f9, g9⟩ := hxy i9 v9 h9; exact ⟨T9, n9, a9, b9, e9, f9, by k_mem⟩)); (case zhcell => decide); (case zkd => exact rfl); (case zhx1 => exact rfl); (case zhx2 => exact rfl); (case zhxx => decide))
                case zlen => exact fun i ys _ h9 => texts_size h9 h27
                case zI => exact .nil
                case zEA =>
                  intro i2 own C oC D2 mc h gn tk g2 ys tl Q Z E' hi hB hO F' N' B' X' TP' D' b' hI ord hH kQ kZ
                  ((with_reducible rename Fr _ _ _ _ => F8); (with_reducible rename News _ _ _ _ => N8); (with_reducible rename Below _ _ _ _ => B8); (with_reducible rename KtsDicts _ _ => D8); (with_reducible rename AllBare _ => b8); revert F8 N8 B8 D8 b8; (repeat ((with_reducible rename Fr _ _ _ _ => F8); clear F8)); (repeat ((with_reducible rename News _ _ _ _ => N8); clear N8)); (repeat ((with_reducible rename Below _ _ _ _ => B8); clear B8)); (repeat ((with_reducible rename KtsDicts _ _ => D8); clear D8)); (repeat ((with_reducible rename AllBare _ => b8); clear b8)); intro F8 N8 B8 D8 b8)
                  obtain ⟨u9, v9, hv9, hm1, hm2⟩ := hB
                  obtain ⟨y9, hy9, hD9⟩ := paired_get hpa hv9
                  obtain ⟨hkl, hkok⟩ := hok y9 (List.mem_of_getElem? hy9)
                  have hkl3 : y9.1.length ≤ 3 := by have := hT.few; omega
                  have hkn : y9.1.length = sn + 1 := by omega
                  obtain ⟨ky, dy⟩ := y9
                  have hkne : ky ≠ [] := fun e9 => by subst e9; simp at hkn
                  dsimp only at hkok hkl3
                  cases hD9 with | mk e1 e2 e3 =>
                  refine wpAny_tests_nil ?_
                  simp only [if_true]
                  walk_at "m_go"
                  (refine' hands_end ?zk ?ze1 ?ze2 ?zT ?zF ?zN ?zB ?zD ?zb ?zS ?_; (case zk => assumption); (case ze1 => exact rfl); (case ze2 => exact rfl); (case zF => k_asm); (case zN => k_asm); (case zB => k_asm); (case zD => k_asm); (case zT => walk_at "m_turn"); (case zb => assumption); (case zS => walk_at "m_split"))
                  intro hM
                  exact texts_next hI hy9 rfl
                case zfin =>
                  refine' blockEnd_e ?_
                  intro D5 g5 h5 gn5 tk5 zs5 tl5 T' F' N' B' D' b' hlt5 ord5 hZ5
                  have X5 := KB.keeps B'.stays
                  have TP5 := TB.keeps B'.stays
                  ((with_reducible rename Fr _ _ _ _ => F8); (with_reducible rename News _ _ _ _ => N8); (with_reducible rename Below _ _ _ _ => B8); (with_reducible rename KtsDicts _ _ => D8); (with_reducible rename AllBare _ => b8); revert F8 N8 B8 D8 b8; (repeat ((with_reducible rename Fr _ _ _ _ => F8); clear F8)); (repeat ((with_reducible rename News _ _ _ _ => N8); clear N8)); (repeat ((with_reducible rename Below _ _ _ _ => B8); clear B8)); (repeat ((with_reducible rename KtsDicts _ _ => D8); clear D8)); (repeat ((with_reducible rename AllBare _ => b8); clear b8)); intro F8 N8 B8 D8 b8)
                  have hZ5 := texts_all hZ5 (by have e1 := hT.mats.length; exact e1)
                  walk_at "m_go"
                  exact ⟨rfl, _, d, sa, da, ta, st, ms, vs4, ps3, by walk_at "m_lawS", hT.mono (by walk_at "m_sub"), by walk_at "m_off7", tri⟩
            case zr6 =>
              clear F1 N1 B1 D1 b1 X1 TP1 T1 hsa hst hda hta h27 hok hdats hxy hpa hT S3 off1
              intro fl s' hM
              obtain ⟨rfl, M, d, sa, da, ta, st, ms, vs4, ps6, hAt, hT, off1, tri6⟩ := hM
              obtain ⟨h1, gn1, tk1, g1, rfl, T1, F1, N1, B1, D1, b1⟩ := hAt
              have X1 := KB.keeps B1.stays
              have TP1 := TB.keeps B1.stays
              obtain ⟨ws, n9, hsa, hst⟩ := hT.steps
              obtain ⟨n8, hda⟩ := hT.due
              obtain ⟨n7, hta⟩ := hT.told
              have hok := told_ok hT.doc hst
              have hdats := hT.dats
              obtain ⟨xys, hxy, hpa⟩ := match_pairs hT.mats
              have S3 := full_spec (w := w) (p := p) (loose := loose) (mean := mean) (mg := mg) (mb := mb) 3
              dsimp only
              k_dflt walk1
              refine at_mono (fun L => Mid7 w (AR dp un gd fr) base fr g L s news) F1 ?zs7 ?zr7
              case zs7 =>
                k_dflt (refine' wpAny_For ?_ ?zhs; (case zhs => (intro _; rfl)))
                walk_at "m_go"
                k_dflt (refine' forZipG [Str.ofString "again", Str.ofString "up", Str.ofString "deep"] (fun i m9 M9 => M9 = tabE ps6 :: M) xys ?zF ?zB ?zXB ?zTB ?zD ?zN ?zb ?zhh ?zh1 ?zh2 ?zhpr ?zhLe ?zha ?zhb ?zhc ?zhp ?zhkeep ?zh0 ?zstep ?zkz; (case zF => k_asm); (case zB => k_asm); (case zXB => assumption); (case zTB => assumption); (case zD => k_asm); (case zN => k_asm); (case zb => assumption); (case zhh => exact rfl); (case zh1 => k_mem); (case zh2 => k_mem); (case zhpr => exact fun i9 v9 h9 => (by obtain ⟨T9, n9, a9, b9, e9, f9, g9⟩ := hxy i9 v9 h9; exact ⟨T9, n9, a9, b9, e9, f9, by k_mem⟩)); (case zhLe => exact rfl); (case zha => exact rfl); (case zhb => exact rfl); (case zhc => exact rfl); (case zhp => exact rfl); (case zhkeep => (intro i9 m9 M9 e9 q9 hq9; subst e9; exact hq9)); (case zh0 => exact rfl))
                case zstep =>
                  intro i2 x9 y8 z8 own m M' h gn tk g2 Q E' hi hx9 hxy9 hI T' F' N' B' X' TP' D' b' off k9
                  subst hI
                  ((with_reducible rename Fr _ _ _ _ => F8); (with_reducible rename News _ _ _ _ => N8); (with_reducible rename Below _ _ _ _ => B8); (with_reducible rename KtsDicts _ _ => D8); (with_reducible rename AllBare _ => b8); revert F8 N8 B8 D8 b8; (repeat ((with_reducible rename Fr _ _ _ _ => F8); clear F8)); (repeat ((with_reducible rename News _ _ _ _ => N8); clear N8)); (repeat ((with_reducible rename Below _ _ _ _ => B8); clear B8)); (repeat ((with_reducible rename KtsDicts _ _ => D8); clear D8)); (repeat ((with_reducible rename AllBare _ => b8); clear b8)); intro F8 N8 B8 D8 b8)
                  obtain ⟨y9, hy9, hD9⟩ := paired_get hdats hx9
                  obtain ⟨y7, hy7, hP9⟩ := paired_get hpa hxy9
                  obtain rfl := Option.some.inj (hy9.symm.trans hy7)
                  obtain ⟨hkl, hkok⟩ := hok y9 (List.mem_of_getElem? hy9)
                  have hkl3 : y9.1.length ≤ 3 := by have := hT.few; omega
                  obtain ⟨ky, dy⟩ := y9
                  dsimp only at hkok hkl3 hD9
                  have hdc := hT.doc
                  have hdd := hD9.doc hdc
                  obtain ⟨a9, dx9, u1, u2, u3, pv9, cv9, rfl, hq1, hq2, hcv⟩ := hD9.view
                  cases hP9 with | mk e1 e2 e3 =>
                  have hle := e2.length
                  have hlv := Nat.le_trans (Nat.le_of_eq hle) (Nat.le_trans hkl3 (by decide : 3 ≤ 100))
                  try simp only [spread_cons]
                  walk_at "m_go"
                  rcases hcv with ⟨hcv, hk0, hdd0⟩ | ⟨b8, ks8, d8, hcv, hk1, hD8⟩
                  · subst hcv
                    have hdd1 := hdd0.symm
                    subst hdd1
                    have hv0 := hle.trans hk0
                    unfold Halt
                    k_dflt (refine' whl_turn ?zhE ?_; (case zhE => first | passes_own | with_unfolding_all passes_own))
                    walk_at "m_go"
                    all_goals try (exfalso; omega)
                    refine' k9 _ (tabE ps6 :: M) _ _ _ _ ?zkT ?zkF ?zkN ?zkB ?zkD ?zkb off ⟨?zkn, rfl⟩
                    case zkF => k_asm
                    case zkB => k_asm
                    case zkD => k_asm
                    case zkb => assumption
                    case zkT => walk_at "m_turn"
                    case zkn =>
                      intro z9 hz9
                      simp only [List.mem_cons, not_or, List.not_mem_nil, not_false_eq_true, and_true] at hz9
                      simp [hz9, spread]
                    case zkN => (refine' news_of ?zn9 ?zs9; (case zn9 => k_asm); (case zs9 => walk_at "m_sub"))
                  · subst hcv
                    obtain ⟨a8, dx8, u4, u5, u6, pv8, cv8, e8, hq3, hq4, hcv8⟩ := hD8.view
                    cases e8
                    rcases hcv8 with ⟨hcv8, hk8, hdd8⟩ | ⟨b7, ks7, d7, hcv8, hk7, hD7⟩
                    · subst hcv8
                      have hdd9 := hdd8.symm
                      subst hdd9
                      have hv0 := hle.trans hk1
                      unfold Halt
                      k_dflt (refine' whl_turn ?zhE ?_; (case zhE => first | passes_own | with_unfolding_all passes_own))
                      walk_at "m_go"
                      all_goals try (exfalso; omega)
                      refine' k9 _ (tabE ps6 :: M) _ _ _ _ ?zkT ?zkF ?zkN ?zkB ?zkD ?zkb off ⟨?zkn, rfl⟩
                      case zkF => k_asm
                      case zkB => k_asm
                      case zkD => k_asm
                      case zkb => assumption
                      case zkT => walk_at "m_turn"
                      case zkn =>
                        intro z9 hz9
                        simp only [List.mem_cons, not_or, List.not_mem_nil, not_false_eq_true, and_true] at hz9
                        simp [hz9, spread]
                      case zkN => (refine' news_of ?zn9 ?zs9; (case zn9 => k_asm); (case zs9 => walk_at "m_sub"))
                    · subst hcv8
                      obtain ⟨a7, dx7, u7, u8, u9, pv7, cv7, e7, hq5, hq6, hcv7⟩ := hD7.view
                      cases e7
                      rcases hcv7 with ⟨hcv7, hk6, hdd7⟩ | ⟨b6, ks6, d6, hcv7, hk5, hD6⟩
                      · subst hcv7
                        have hdd6 := hdd7.symm
                        subst hdd6
                        have hv0 := hle.trans (hk1.trans (congrArg (· + 1) hk7))
                        unfold Halt
                        k_dflt (refine' whl_turn ?zhE ?_; (case zhE => first | passes_own | with_unfolding_all passes_own))
                        walk_at "m_go"
                        all_goals try (exfalso; omega)
                        refine' k9 _ (tabE ps6 :: M) _ _ _ _ ?zkT ?zkF ?zkN ?zkB ?zkD ?zkb off ⟨?zkn, rfl⟩
                        case zkF => k_asm
                        case zkB => k_asm
                        case zkD => k_asm
                        case zkb => assumption
                        case zkT => walk_at "m_turn"
                        case zkn =>
                          intro z9 hz9
                          simp only [List.mem_cons, not_or, List.not_mem_nil, not_false_eq_true, and_true] at hz9
                          simp [hz9, spread]
                        case zkN => (refine' news_of ?zn9 ?zs9; (case zn9 => k_asm); (case zs9 => walk_at "m_sub"))
                      · subst hcv7
                        obtain ⟨a6, dx6, v1, v2, v3, pv6, cv6, e6, hq7, hq8, hcv6⟩ := hD6.view
                        cases e6
                        rcases hcv6 with ⟨hcv6, hk4, hdd5⟩ | ⟨b5, ks5, d5, hcv6, hk3, hD5⟩
                        · subst hcv6
                          have hdd4 := hdd5.symm
                          subst hdd4
                          have hv0 := hle.trans (hk1.trans (congrArg (· + 1) (hk7.trans (congrArg (· + 1) hk5))))
                          unfold Halt
                          k_dflt (refine' whl_turn ?zhE ?_; (case zhE => first | passes_own | with_unfolding_all passes_own))
                          walk_at "m_go"
                          all_goals try (exfalso; omega)
                          refine' k9 _ (tabE ps6 :: M) _ _ _ _ ?zkT ?zkF ?zkN ?zkB ?zkD ?zkb off ⟨?zkn, rfl⟩
                          case zkF => k_asm
                          case zkB => k_asm
                          case zkD => k_asm
                          case zkb => assumption
                          case zkT => walk_at "m_turn"
                          case zkn =>
                            intro z9 hz9
                            simp only [List.mem_cons, not_or, List.not_mem_nil, not_false_eq_true, and_true] at hz9
                            simp [hz9, spread]
                          case zkN => (refine' news_of ?zn9 ?zs9; (case zn9 => k_asm); (case zs9 => walk_at "m_sub"))
                        · exfalso
                          have h4 : ky.length ≥ 4 := by rw [hk1, hk7, hk5, hk3]; omega
                          omega
                case zkz =>
                  intro g3 h3 gn3 tk3 m3 M3 T' F' N' B' D' b' hI
                  subst hI
                  have hdm : map4 d sa da ta (fun _ => none) (Str.ofString "document") = some d.val := by
                    show (if _ then _ else if _ then _ else if _ then _ else if _ then _ else _) = _
                    rw [if_neg (by decide), if_neg (by decide), if_neg (by decide), if_pos rfl]
                  exact ⟨rfl, M, d, ps6, _, LawAt.mk rfl rfl (fr_congr F' fun z => keep_name ((spread_off (by decide)).trans hdm) z) N' B' D' b' (by walk_at "m_turn") (fun q hq => hq), hT.doc, hT.sub, off1, tri6⟩
              case zr7 =>
                clear F1 N1 B1 D1 b1 X1 TP1 T1 hsa hst hda hta hok hdats hxy hpa hT S3 off1
                intro fl s' hM
                obtain ⟨rfl, M, d, ps7, m7, hAt, hd, hsub7, off1, tri7⟩ := hM
                obtain ⟨h1, gn1, tk1, g1, rfl, T1, F1, N1, B1, D1, b1⟩ := hAt
                have X1 := KB.keeps B1.stays
                have TP1 := TB.keeps B1.stays
                dsimp only
                walk_at "m_go"
                have hdats : DatsIn w _ d [_] [(([] : List Key), d)] := .cons (by assumption) .nil
                k_dflt (refine' listI (fun M i ys => ys = valsOf ([(([] : List Key), d)].take i)) ?zF ?zB ?zXB ?zTB ?zD ?zN ?zb ?zhh ?zhm ?zhcell ?zkd ?zhx ?zlen ?zI ?zEA ?zfin; (case zF => k_asm); (case zB => k_asm); (case zXB => assumption); (case zTB => assumption); (case zD => k_asm); (case zN => k_asm); (case zb => assumption); (case zhh => exact rfl); (case zhm => k_mem); (case zhcell => decide); (case zkd => exact rfl); (case zhx => exact rfl))
                case zlen => exact fun M i ys h9 => vals_len h9 (by simp)
                case zI => exact fun M => rfl
                case zEA =>
                  intro i2 own C oC D2 mc h gn tk g2 ys tl Q Z E' hi hB hO F' N' B' X' TP' D' b' hI ord hH kQ kZ
                  ((with_reducible rename Fr _ _ _ _ => F8); (with_reducible rename News _ _ _ _ => N8); (with_reducible rename Below _ _ _ _ => B8); (with_reducible rename KtsDicts _ _ => D8); (with_reducible rename AllBare _ => b8); revert F8 N8 B8 D8 b8; (repeat ((with_reducible rename Fr _ _ _ _ => F8); clear F8)); (repeat ((with_reducible rename News _ _ _ _ => N8); clear N8)); (repeat ((with_reducible rename Below _ _ _ _ => B8); clear B8)); (repeat ((with_reducible rename KtsDicts _ _ => D8); clear D8)); (repeat ((with_reducible rename AllBare _ => b8); clear b8)); intro F8 N8 B8 D8 b8)
                  obtain ⟨v9, hv9, hmv⟩ := hB
                  obtain ⟨y9, hy9, hD9⟩ := paired_get hdats hv9
                  obtain ⟨a9, dx9, u1, u2, u3, pv9, cv9, rfl, hq1, hq2⟩ := hD9.objs
                  have hdoc9 := hD9.doc (DocIn.mono hd (by walk_at "m_sub"))
                  refine wpAny_tests_nil ?_
                  simp only [if_true]
                  walk_at "m_go"
                  (refine' hands_end ?zk ?ze1 ?ze2 ?zT ?zF ?zN ?zB ?zD ?zb ?zS ?_; (case zk => assumption); (case ze1 => exact rfl); (case ze2 => exact rfl); (case zF => k_asm); (case zN => k_asm); (case zB => k_asm); (case zD => k_asm); (case zT => walk_at "m_turn"); (case zb => assumption); (case zS => walk_at "m_split"))
                  intro hM
                  exact vals_next hI hy9 rfl
                case zfin =>
                  refine' blockEnd_e ?_
                  intro D2 g3 h3 gn3 tk3 zs tl3 T' F' N' B' D' b' hlt2 ord2 hZ
                  have X9 := KB.keeps B'.stays
                  have TP9 := TB.keeps B'.stays
                  ((with_reducible rename Fr _ _ _ _ => F8); (with_reducible rename News _ _ _ _ => N8); (with_reducible rename Below _ _ _ _ => B8); (with_reducible rename KtsDicts _ _ => D8); (with_reducible rename AllBare _ => b8); revert F8 N8 B8 D8 b8; (repeat ((with_reducible rename Fr _ _ _ _ => F8); clear F8)); (repeat ((with_reducible rename News _ _ _ _ => N8); clear N8)); (repeat ((with_reducible rename Below _ _ _ _ => B8); clear B8)); (repeat ((with_reducible rename KtsDicts _ _ => D8); clear D8)); (repeat ((with_reducible rename AllBare _ => b8); clear b8)); intro F8 N8 B8 D8 b8)
                  have hZ : zs = [d.val] := hZ
                  subst hZ
                  walk_at "m_go"
                  have hdats : DatsIn w _ d [_] [(([] : List Key), d)] := .cons (by assumption) .nil
                  k_dflt (refine' listI (fun M i ys => ys = valsOf ([(([] : List Key), d)].take i)) ?zF ?zB ?zXB ?zTB ?zD ?zN ?zb ?zhh ?zhm ?zhcell ?zkd ?zhx ?zlen ?zI ?zEA ?zfin; (case zF => k_asm); (case zB => k_asm); (case zXB => assumption); (case zTB => assumption); (case zD => k_asm); (case zN => k_asm); (case zb => assumption); (case zhh => exact rfl); (case zhm => k_mem); (case zhcell => decide); (case zkd => exact rfl); (case zhx => exact rfl))
                  case zlen => exact fun M i ys h9 => vals_len h9 (by simp)
                  case zI => exact fun M => rfl
                  case zEA =>
                    intro i2 own C oC D2 mc h gn tk g2 ys tl Q Z E' hi hB hO F' N' B' X' TP' D' b' hI ord hH kQ kZ
                    ((with_reducible rename Fr _ _ _ _ => F8); (with_reducible rename News _ _ _ _ => N8); (with_reducible rename Below _ _ _ _ => B8); (with_reducible rename KtsDicts _ _ => D8); (with_reducible rename AllBare _ => b8); revert F8 N8 B8 D8 b8; (repeat ((with_reducible rename Fr _ _ _ _ => F8); clear F8)); (repeat ((with_reducible rename News _ _ _ _ => N8); clear N8)); (repeat ((with_reducible rename Below _ _ _ _ => B8); clear B8)); (repeat ((with_reducible rename KtsDicts _ _ => D8); clear D8)); (repeat ((with_reducible rename AllBare _ => b8); clear b8)); intro F8 N8 B8 D8 b8)
                    obtain ⟨v9, hv9, hmv⟩ := hB
                    obtain ⟨y9, hy9, hD9⟩ := paired_get hdats hv9
                    obtain ⟨a9, dx9, u1, u2, u3, pv9, cv9, rfl, hq1, hq2⟩ := hD9.objs
                    have hdoc9 := hD9.doc (DocIn.mono hd (by walk_at "m_sub"))
                    refine wpAny_tests_nil ?_
                    simp only [if_true]
                    walk_at "m_go"
                    (refine' hands_end ?zk ?ze1 ?ze2 ?zT ?zF ?zN ?zB ?zD ?zb ?zS ?_; (case zk => assumption); (case ze1 => exact rfl); (case ze2 => exact rfl); (case zF => k_asm); (case zN => k_asm); (case zB => k_asm); (case zD => k_asm); (case zT => walk_at "m_turn"); (case zb => assumption); (case zS => walk_at "m_split"))
                    intro hM
                    exact vals_next hI hy9 rfl
                  case zfin =>
                    refine' blockEnd_e ?_
                    intro D2 g3 h3 gn3 tk3 zs tl3 T' F' N' B' D' b' hlt2 ord2 hZ
                    have X9 := KB.keeps B'.stays
                    have TP9 := TB.keeps B'.stays
                    ((with_reducible rename Fr _ _ _ _ => F8); (with_reducible rename News _ _ _ _ => N8); (with_reducible rename Below _ _ _ _ => B8); (with_reducible rename KtsDicts _ _ => D8); (with_reducible rename AllBare _ => b8); revert F8 N8 B8 D8 b8; (repeat ((with_reducible rename Fr _ _ _ _ => F8); clear F8)); (repeat ((with_reducible rename News _ _ _ _ => N8); clear N8)); (repeat ((with_reducible rename Below _ _ _ _ => B8); clear B8)); (repeat ((with_reducible rename KtsDicts _ _ => D8); clear D8)); (repeat ((with_reducible rename AllBare _ => b8); clear b8)); intro F8 N8 B8 D8 b8)
                    have hZ : zs = [d.val] := hZ
                    subst hZ
                    walk_at "m_go"
                    refine' fin_ledP (M := news) (tl := []) G ret ?ze1 ?ze2 ?zmT ?zmF (news_of (M := tabE ps7 :: news) ?zmN ?zms) ?zmB ?zmD ?zmb Split.nil off tri7 (fun _ => rfl)
                    case ze1 => exact rfl
                    case ze2 => exact rfl
                    case zmF => k_asm
                    case zmN => k_asm
                    case zmB => k_asm
                    case zmD => k_asm
                    case zmb => assumption
                    case zmT => (refine KtsTurn.trans ?_ (by assumption); refine KtsTurn.trans ?_ (by assumption); refine KtsTurn.trans ?_ (by assumption); refine KtsTurn.trans ?_ (by assumption); assumption)
                    case zms =>
                      refine sub_head (by k_dflt k_mem) fun q9 hq9 => ?_
                      have hq8 := hsub7 q9 hq9
                      clear hq9
                      revert q9
                      walk_at "m_sub"
end
end
section
-- the glue: from the law's contract to the row
def okHide (K : Frag) : Bool := K.all fun p => match p.2.cls, p.2.data with
  | .type c, .seq its _ => (c != "list") || its.toList.any fun v => match v with | .int _ _ => false | _ => true
  | .none, .fields _ => false
  | _, _ => true
theorem okH (w : World) : okHide (hd.heap_1 w.params) = true := by kernel_rfl
/-- what may be hidden of the ground: a code's table, a list of ints -/
def Hid (o : Obj) : Prop := o = tabObj #[] ∨ ∃ vs x n, o = lstO vs n ∧ IntsAre vs x
section
variable {h₁ : Heap} {hs : List Addr} {mg mb : Str → Option Value} {p : Program} {loose : List Str} {mean : ExcName → Option Value}
abbrev AllHid (h₁ : Heap) (hs : List Addr) : Prop := ∀ a ∈ hs, ∀ o, h₁.get? a = some o → Hid o
theorem hid_get {b : Addr} {o : Obj} (hH : AllHid h₁ hs) (e : h₁.get? b = some o) (hn : ¬ Hid o) : (hideAll h₁ hs).get? b = some o := hideAll_get hs e fun hb => hn (hH b hb o e)
theorem hid_data {o : Obj} (h : Hid o) : (∃ vs, o.cls = .none ∧ o.data = .fields vs) ∨ ∃ vs x n, o.cls = .type "list" ∧ o.data = .seq vs.toArray n ∧ IntsAre vs x := by
  rcases h with rfl | ⟨vs, x, n, rfl, h⟩
  · exact .inl ⟨_, rfl, rfl⟩
  · exact .inr ⟨vs, x, n, rfl, rfl, h⟩
theorem hid_ns {a : Addr} {mm : Str → Option Value} (hH : AllHid h₁ hs) (x : h₁.Ns a mm) : (hideAll h₁ hs).Ns a mm :=
  let ⟨o, es, ep, e, hd, r⟩ := x; ⟨o, es, ep, hid_get hH e (fun q => by rcases hid_data q with ⟨_, _, q⟩ | ⟨_, _, _, _, q, _⟩ <;> (rw [q] at hd; cases hd)), hd, r⟩
theorem hid_top (hH : AllHid h₁ hs) (T : Top p loose mean mg mb h₁) :
    Top topProg (loose ++ (recsOf p).map (·.name) ++ (litsOf p).map (·.1) ++ (clssOf p loose).map (·.name)) mean mg mb (hideAll h₁ hs) where
  g := hid_ns hH T.g
  b := hid_ns hH T.b
  nolimit := let ⟨mc, a, r⟩ := T.nolimit; ⟨mc, hid_ns hH a, r⟩
  nodigits := let ⟨mc, a, r⟩ := T.nodigits; ⟨mc, hid_ns hH a, r⟩
  fn := fun d hd => absurd (show d ∈ ([] : List DefRec) from hd) List.not_mem_nil
  own := fun o ho => absurd (show o ∈ ([] : List OwnSpec) from ho) List.not_mem_nil
  const := fun x d e => by cases (show (none : Option PyData) = some d from e)
  free := fun x h1 h2 _ _ _ => T.free x h1 (fun q => h2 (List.mem_append_left _ (List.mem_append_left _ (List.mem_append_left _ q))))
    (fun q => h2 (List.mem_append_left _ (List.mem_append_left _ (List.mem_append_right _ q)))) (fun q => h2 (List.mem_append_left _ (List.mem_append_right _ q))) fun q => h2 (List.mem_append_right _ q)
  builtins := T.builtins
  tab := fun d hd => absurd (show d ∈ ([] : List DefRec) from hd) List.not_mem_nil
  bmain := let ⟨bm, ob, a1, a2, a3, a4, r⟩ := T.bmain; ⟨bm, ob, a1, a2, hid_get hH a3 (fun q => by rcases hid_data q with ⟨_, q, _⟩ | ⟨_, _, _, q, _⟩ <;> (rw [q] at a4; first | (cases a4; done) | (injection a4 with a4; exact absurd a4 (by decide)))), a4, r⟩
  seer := fun e => absurd (show false = true from e) Bool.false_ne_true
theorem ints_all {vs : List Value} {x : List Int} (h : IntsAre vs x) : (vs.any fun v => match v with | .int _ _ => false | _ => true) = false := by
  induction h with
  | nil => rfl
  | cons _ _ _ ih => simpa using ih
theorem hid_K {K : Frag} (hH : AllHid h₁ hs) (X : K.In h₁) (hK : okHide K = true) : K.In (hideAll h₁ hs) := fun a o e => by
  refine hid_get hH (X a o e) fun q => ?_
  have h2 := List.all_eq_true.mp hK (a, o) (mem_of_lookupK e)
  rcases hid_data q with ⟨vs, q1, q2⟩ | ⟨vs, x, n, q1, q2, q3⟩
  · simp only [q1, q2] at h2; cases h2
  · simp only [q1, q2] at h2
    rw [show (vs.toArray.toList.any fun v => match v with | .int _ _ => false | _ => true) = false from ints_all q3] at h2
    simp at h2
end
abbrev LawSpec : Prop := ∀ {w : World} {p : Program} {loose : List Str} {mean : ExcName → Option Value} {mg mb : Str → Option Value}, SpecP w p loose mean mg mb 817 400 4000
    (fun (x : List Int) news args => ∃ a vs n, args = ⟨[.ref a], []⟩ ∧ (a, lstO vs n) ∈ news ∧ IntsAre vs x ∧ x.length ≤ 63)
    (fun _ news r => r = .bool true)
theorem law_call (LS : LawSpec) {w : World} {p : Program} {loose : List Str} {mean : ExcName → Option Value} {mg mb : Str → Option Value} {s₁ : Shared} {a : Addr} {vs : List Value} {n : Nat} {xs : List Int} {Q E : Value → Shared → Prop}
    (KX : (hd.heap_1 w.params).In s₁.heap) (hP : s₁.heap.get? 708 = some (tabObj #[])) (T : Top p loose mean mg mb s₁.heap) (ha : s₁.heap.get? a = some (lstO vs n)) (hI : IntsAre vs xs) (hlen : xs.length ≤ 63) (hg : s₁.gens = #[])
    (k : ∀ h' gn tk, OldK s₁.heap h' → AllBare gn → Q (.bool true) ⟨h', gn, s₁.drawn, tk, s₁.os⟩) : wpAny (model PySem.Challenge.rw_bm0005_01.row.prog w) callerA (call (.ref 817) [.ref a]) Q E s₁ := by
  have hne : a ≠ 708 := fun q => by rw [q, hP] at ha; cases ha
  have hH : AllHid s₁.heap [708, a] := fun b hb o e => by
    rcases List.mem_cons.mp hb with rfl | hb
    · rw [hP] at e; cases e; exact .inl rfl
    · rw [List.mem_singleton.mp hb, ha] at e; cases e; exact .inr ⟨vs, xs, n, rfl, hI⟩
  have CH : CodeHd s₁.heap 712 708 := codeHd_of_K KX (by kernel_rfl)
  refine wpAny_call (LS (w := w) (p := topProg) (mg := mg) (mb := mb) (1 + claimMargin) 4 (some []) (hideAll s₁.heap [708, a]) [] (hideAll s₁.heap [708, a]) [(a, lstO vs n)] #[] s₁ ⟨[.ref a], []⟩ _ xs
    ⟨below_caller _, hid_K hH KX (okH w), hid_top hH T, fun b hb => absurd hb List.not_mem_nil, fun b o e => of_hideAll _ e, Nat.le_of_eq (hideAll_size _ _), fun q hq => ?_⟩ (fun q hq => by rw [List.mem_singleton.mp hq]; exact hne) ?_ (by decide) (by decide) (.of_eq hg)
    ⟨a, vs, n, rfl, List.mem_cons_self, hI, hlen⟩ ?_)
  · rcases List.mem_cons.mp hq with rfl | hq
    · exact ⟨hP, hideAll_none _ List.mem_cons_self⟩
    · rw [List.mem_singleton.mp hq]; exact ⟨ha, hideAll_none _ (List.mem_cons_of_mem _ List.mem_cons_self)⟩
  · trivial
  · intro r tl h' gn tk g' ps' G' T' o' o7 tri hb hpost
    subst hpost
    have old : ∀ b o, b ≠ 708 → s₁.heap.get? b = some o → h'.get? b = some o := fun b o hb e => by
      by_cases q : b = a
      · subst q
        rw [ha] at e; cases e
        exact (G'.led (b, lstO vs n) (List.mem_cons_of_mem _ (List.mem_append_left _ List.mem_cons_self))).1
      · exact G'.sub b o (T'.other b o (hideAll_get _ e fun hm => by
          rcases List.mem_cons.mp hm with z | z
          · exact hb z
          · exact q (List.mem_singleton.mp z)) List.not_mem_nil)
    have tab9 := (G'.led (tabE ps') List.mem_cons_self).1
    refine k h' gn tk ⟨fun b o e => ?_, fun b o e => ?_⟩ hb
    · by_cases q : b = 708
      · subst q
        rw [hP] at e; cases e
        exact .inr (.inl ⟨(CH.tab hP).isCodeTable, rfl, #[], ps', rfl, by rw [Array.empty_append]; exact tab9⟩)
      · exact .inl (old b o q e)
    · by_cases q : b = 708
      · subst q; exact ⟨_, tab9⟩
      · exact ⟨o, old b o q e⟩
end
section
/-- a hook that tells of code tables too -/
def withTab (H : Hook) (ts : List Addr) : Hook where
  α := H.α × List (Option Obj)
  obs := fun s => (H.obs s, ts.map s.heap.get?)
  val := fun w => (H.val w, ts.map fun _ => some (tabObj #[]))
  says := fun w h => H.says w h ∧ ∀ P ∈ ts, h.get? P = some (tabObj #[])
  of := fun w s x => ⟨H.of w s (Prod.mk.inj x).1, List.map_inj_left.mp (Prod.mk.inj x).2⟩
  keeps := fun w h h' x k => ⟨H.keeps w h h' x.1 k, fun P hP => k _ _ (x.2 P hP)⟩
/-- the written part stands as it is for the kernel's looks (no twin of it is wanted) -/
noncomputable def hdF.tw357486453476387696 : Params → Frag := hd.heap_1
theorem hdF.te357486453476387696 : hd.heap_1 = hdF.tw357486453476387696 := rfl
local macro_rules | `(tactic| o_head ($f $K $as $e)) => `(tactic| o_head (withTab ($f hd.heap_1 $as (fun _ => by kernel_rfl)) [708]))
set_option maxHeartbeats 0 in
set_option Elab.async true in
theorem hdF : PySem.Challenge.rw_bm0005_01.Holds := by
  w_on; o_law; k_head; (case hw => w_witness2)
  k_fill
  intro w s₀ s₁ mg mb G Y fa o pm cd doc dV kV ho hd1 hcd hD hmg hg args vals as hpre hlay hrd hwl hlo
  have KX := kIn_of Y.1
  have hP := Y.2 708 List.mem_cons_self
  have T := G.T
  clear Y G hcd hD
  wrow_args hpre hlay hrd hwl hlo
  rename_i xs hs' hlay0 hLy hr1 hl2 as1 as2 a vs as3 hL ra WL r0 hI hr2 hc1 hc2
  clear hs' hlay0 hLy hr1 hl2 ra r0 hr2 hc2
  have hlen : xs.length ≤ 63 := by omega
  obtain ⟨n, ha⟩ : ∃ n, s₁.heap.get? a = some (lstO vs n) := by
    obtain ⟨o1, e1, c1, n1, d1⟩ := hL
    cases WL with
    | list e2 _ =>
      rw [e1] at e2
      cases e2
      exact ⟨n1, by rw [e1]; simp only at d1; rw [d1]⟩
  have hfa : fa = 817 := by
    have e1 := mg_of KX T.g (n := Str.ofString "law") (v := .ref 817) (by kernel_rfl)
    have e2 := hmg.symm.trans e1
    cases e2; rfl
  subst hfa
  clear ho hd1 hmg WL hL hc1
  refine law_call law_spec KX hP T ha hI hlen hg fun h' gn tk hO hb => ?_
  exact ⟨.inl ⟨.bool true, .bool true, [], rfl, fun _ => rfl, .bool true, by wrow_post, fun _ => ⟨List.nodup_nil, fun _ h => absurd h List.not_mem_nil⟩⟩, hO, rfl, hb⟩
end
end Mine

theorem PySem.Challenge.cw_bm0005_01_holds : PySem.Challenge.rw_bm0005_01.Holds :=
  Mine.hdF
