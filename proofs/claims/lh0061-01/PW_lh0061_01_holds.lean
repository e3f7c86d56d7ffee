import PyProof.Rows.All
import Wide.All
import OpenK.AllK
import Wide.FinOn
import PyProof.TupleOfGen
import PyProof.TupleKey
import PyProof.FactsAll.tuple_1
import PyProof.FactsAll.tuple_2
import KE.KxPercent
import KE.KxPercentT
import KE.KIntText
import Lean
import PySem.Challenge.RW_lh0061_01
open PySem PySem.W PyProof.Rows
set_option Elab.async false
set_option maxRecDepth 100000
set_option maxHeartbeats 8000000
set_option linter.all false
namespace Mine
section
/- the top's objects written out: k_head lays fr.heap_1, and what it hands to o_head is not asked for here -/
local macro_rules | `(tactic| o_head ($f $k $a $e)) => `(tactic| assumption)
theorem fr (h : PySem.Challenge.rw_lh0061_01.row.Holds) : PySem.Challenge.rw_lh0061_01.row.Holds := by k_head
end
/- the objects as the ledger bears them -/
noncomputable abbrev ent (P : Params) (n : String) (k : Tok) (v : Value) : DictEntry := ⟨PyData.keyHash P (Str.ofString n), .str (Str.ofString n) k, v⟩
noncomputable abbrev tupO (vs : List Value) : Obj := ⟨.type "tuple", none, .seq vs.toArray 0, #[]⟩
noncomputable abbrev lstO (vs : List Value) (n : Nat) : Obj := ⟨.type "list", none, .seq vs.toArray n, #[]⟩
noncomputable def KeptBut (h : Heap) (sub : List (Addr × Obj)) (h' : Heap) : Prop := ∀ b o, h.get? b = some o → b ∉ sub.map (·.1) → h'.get? b = some o
section
variable {prog : Program} {w : World} {A₀ A : Around} {s : Shared} {base h₀ : Heap} {outer : List Env} {L : Addr} {m mg mb : Str → Option Value} {env : Env} {sub news : List (Addr × Obj)} {K : Frag} {p : Program} {loose : List Str} {mean : ExcName → Option Value}
  {R : Result → Shared → Prop} {name qual : Str} {params : Arguments} {body : List Stmt} {scope : Scope} {dV kV doc pm cdv ct oc : Value} {an od : Option Addr} {osl : Array (Option Value)} {f : Addr} {args : Args} {binds : List (Str × Value)}
/-- what a call's end owes when the part of the ledger that it was not given is kept -/
noncomputable def KeptEnd (h : Heap) (sub : List (Addr × Obj)) (R : Result → Shared → Prop) (r : Result) (s' : Shared) : Prop := match r with
  | .ok f => KeptBut h sub s'.heap → R (.ok f) s'
  | .error e => R (.error e) s'
theorem code_keep (B : Below A₀ base outer h₀) (F : Fr h₀ L s.heap m) (X₀ : K.In h₀) (N : News h₀ L s.heap sub) (T : Top p loose mean mg mb h₀) (hA : A.frames = some (env :: outer)) (hf : env.frame = some L) (hke : env.scope.kind = .function)
    (ho : K.lookup f = some ⟨oc, od, .func (fnOf name qual params body scope dV kV doc pm an cdv ct), osl⟩) (hcd : codeIn K cdv qual = true) (hroom : A.depth < recursionLimit)
    (hbind : BindsTo s (fnOf name qual params body scope dV kV doc pm an cdv ct) args binds) (hloc : ∀ y ∈ binds, scope.names.lookup y.1 = some .local)
    (h : ∀ g L' h₁, Fr h₀ L g m → Fr g L' h₁ (fun y => binds.reverse.lookup y) → News g L' h₁ sub → Below A base (env :: outer) g → K.In g → Top p loose mean mg mb g → (∀ b o, s.heap.get? b = some o → b ∉ sub.map (·.1) → g.get? b = some o) →
      wpAny (model prog w) (A.deeper (envOf qual scope L' f cdv)) (execs body (envOf qual scope L' f cdv))
        (fun fl s' => LeaveK h₀ L m g (KeptEnd s.heap sub R) (match fl with | .ret v => v | _ => .none) s')
        (fun e s' => wpAny (model prog w) (A.deeper (envOf qual scope L' f cdv)) (leaving (envOf qual scope L' f cdv) e) (fun _ s'' => R (.error e) s'') (fun e' s'' => R (.error e') s'') s')
        { s with heap := h₁, toks := s.toks + binds.length })
    (hco : scope.isCoroutine = false) (hgen : scope.isGenerator = false) (hk : scope.kind = .function)
    (hcell : ∀ x ∈ scope.names, x.2 ≠ .cell) : codeAny (model prog w) A (.call (.ref f) args) R s := by
  obtain ⟨FG, BG, st, lv⟩ := groundX (R := KeptEnd s.heap sub R) B F N hA hf hke
  refine codeAny_call_def (fd := fnOf name qual params body scope dV kV doc pm an cdv ct) (body := body) (binds := binds) hroom ((X₀.keeps F.keep) _ _ ho) rfl (T.nolimit.keeps F.keep) (codeRec_of (X₀.keeps F.keep) hcd) rfl hbind hcell hloc (fun h₁ hns hk₁ => ?_) hco hgen hk
  refine wpAny_mono (h _ s.heap.objs.size h₁ FG ⟨hns, fun b o e => hk₁ b o (of_hideAll _ e), Nat.le_of_eq (hideAll_size _ _)⟩
    (fun p hp => ⟨hk₁ _ _ (N p hp).1, Nat.ne_of_lt (Heap.lt_size (N p hp).1), hideAll_none _ (List.mem_map_of_mem hp)⟩) BG (X₀.keeps st) (T.keeps st) (fun b o e hn => hideAll_get _ e hn)) (fun fl s' hl => ?_) fun _ _ y => y
  have hl' := hl
  obtain ⟨L', m', news', F', N', k⟩ := hl
  have q := lv _ _ hl'
  exact q fun b o e hn => F'.keep b o (hideAll_get _ e hn)
theorem news_sub {h : Heap} (N : News h₀ L h news) (hs : ∀ p ∈ sub, p ∈ news) : News h₀ L h sub := fun p hp => N p (hs p hp)
theorem keep_back {h h' : Heap} (N : News h₀ L h sub) (hk : KeptBut h sub h') (N' : News h₀ L h' sub) : ∀ b o, h.get? b = some o → h'.get? b = some o := by
  intro b o e
  by_cases hb : b ∈ sub.map (·.1)
  · obtain ⟨q, hq, rfl⟩ := List.mem_map.mp hb
    have a := (N q hq).1
    rw [a] at e
    cases e
    exact (N' q hq).1
  · exact hk b o e hb
theorem news_more {h h' : Heap} {tl : List (Addr × Obj)} (N : News h₀ L h news) (hk : ∀ b o, h.get? b = some o → h'.get? b = some o) (N' : News h₀ L h' tl) : News h₀ L h' (tl ++ news) := by
  intro p hp
  rcases List.mem_append.mp hp with hp | hp
  · exact N' p hp
  · exact ⟨hk _ _ (N p hp).1, (N p hp).2⟩
end
theorem sub_nil {news : List (Addr × Obj)} : ∀ q ∈ ([] : List (Addr × Obj)), q ∈ news := fun _ h => nomatch h
theorem sub_cons {p : Addr × Obj} {l news : List (Addr × Obj)} (h : p ∈ news) (r : ∀ q ∈ l, q ∈ news) : ∀ q ∈ p :: l, q ∈ news := fun q hq => by
  rcases List.mem_cons.mp hq with e | hq
  · exact e ▸ h
  · exact r q hq
/-- what stands around a call out of a frame of the text's own -/
noncomputable abbrev topA (dp un : Nat) (gd : Option (List Code)) (env : Env) (outer : List Env) : Around := { handled := none, depth := dp, frames := some (env :: outer), guards := gd, units := un }
/-- a call's contract: what the ledger must bear ahead, what stands behind; it changes nothing that stood -/
noncomputable def Con (w : World) (D U : Nat) (f : Value) (vs : List Value) (kw : List (Str × Value)) (sub : List (Addr × Obj)) (post : Value → List (Addr × Obj) → Prop) : Prop :=
  ∀ (p : Program) (loose : List Str) (mean : ExcName → Option Value) (mg mb : Str → Option Value) (dp un : Nat) (gd : Option (List Code)) (env : Env) (outer : List Env) (A₀ : Around) (base h₀ : Heap) (L : Addr) (m : Str → Option Value)
    (news : List (Addr × Obj)) (s : Shared) (R : Result → Shared → Prop),
    Below A₀ base outer h₀ → Fr h₀ L s.heap m → News h₀ L s.heap news → Top p loose mean mg mb h₀ → env.frame = some L → env.scope.kind = .function → dp + D < recursionLimit → un + U < cLine → (∀ q ∈ sub, q ∈ news) →
    (∀ r tl h' tk', post r tl → (∀ b o, s.heap.get? b = some o → h'.get? b = some o) → News h₀ L h' tl → R (.ok (.ret r)) ⟨h', s.gens, s.drawn, tk', s.os⟩) →
    (Mine.fr.heap_1 w.params).In h₀ →
    codeAny (model PySem.Challenge.rw_lh0061_01.row.prog w) (topA dp un gd env outer) (.call f ⟨vs, kw⟩) R s
/-- as Con; what is made is told to be new, and the code table 383 may grow, and the generators -/
noncomputable def ConG (w : World) (D U : Nat) (f : Value) (vs : List Value) (kw : List (Str × Value)) (sub : List (Addr × Obj)) (post : Value → List (Addr × Obj) → Prop) : Prop :=
  ∀ (p : Program) (loose : List Str) (mean : ExcName → Option Value) (mg mb : Str → Option Value) (dp un : Nat) (gd : Option (List Code)) (env : Env) (outer : List Env) (A₀ : Around) (base h₀ : Heap) (L : Addr) (m : Str → Option Value)
    (rest : List (Addr × Obj)) (ps : Array Value) (s : Shared) (R : Result → Shared → Prop),
    Below A₀ base outer h₀ → Fr h₀ L s.heap m → News h₀ L s.heap ((383, tabObj ps) :: rest) → TriplesOk ps.toList → Top p loose mean mg mb h₀ → env.frame = some L → env.scope.kind = .function → dp + D < recursionLimit → un + U < cLine → (∀ q ∈ sub, q ∈ rest) →
    (∀ r tl h' g' tk' ps', post r tl → (∀ b o, b ≠ 383 → s.heap.get? b = some o → h'.get? b = some o) → (∀ q ∈ tl, s.heap.get? q.1 = none) → TriplesOk ps'.toList → News h₀ L h' (tl ++ [(383, tabObj ps')]) → (AllBare s.gens → AllBare g') → R (.ok (.ret r)) ⟨h', g', s.drawn, tk', s.os⟩) →
    (Mine.fr.heap_1 w.params).In h₀ →
    codeAny (model PySem.Challenge.rw_lh0061_01.row.prog w) (topA dp un gd env outer) (.call f ⟨vs, kw⟩) R s
theorem fresh_g {h g h' : Heap} {sub tl : List (Addr × Obj)} {L' : Addr} (G0 : ∀ b o, h.get? b = some o → b ∉ sub.map (·.1) → g.get? b = some o) (N : News g L' h' tl) (hd : ∀ q ∈ tl, q.1 ∉ sub.map (·.1)) : ∀ q ∈ tl, h.get? q.1 = none := by
  intro q hq
  cases e : h.get? q.1 with
  | none => rfl
  | some o =>
    have := G0 _ _ e (hd q hq)
    rw [(N q hq).2.2] at this
    cases this
section
variable {w : World} {D U : Nat} {f : Value} {vs : List Value} {kw : List (Str × Value)} {sub : List (Addr × Obj)} {post : Value → List (Addr × Obj) → Prop}
  {p : Program} {loose : List Str} {mean : ExcName → Option Value} {mg mb : Str → Option Value} {dp un : Nat} {gd : Option (List Code)} {env : Env} {outer : List Env} {A₀ : Around} {base h₀ : Heap} {L : Addr} {m : Str → Option Value}
  {news : List (Addr × Obj)} {s : Shared} {R : Result → Shared → Prop}
theorem Con.use (C : Con w D U f vs kw sub post)
    (B : Below A₀ base outer h₀) (F : Fr h₀ L s.heap m) (N : News h₀ L s.heap news) (T : Top p loose mean mg mb h₀) (X : (Mine.fr.heap_1 w.params).In h₀) (hf : env.frame = some L) (hk : env.scope.kind = .function) (hd : dp + D < recursionLimit) (hu : un + U < cLine) (hs : ∀ q ∈ sub, q ∈ news)
    (ret : ∀ r tl h' tk', post r tl → (∀ b o, s.heap.get? b = some o → h'.get? b = some o) → Fr h₀ L h' m → News h₀ L h' (tl ++ news) → R (.ok (.ret r)) ⟨h', s.gens, s.drawn, tk', s.os⟩) :
    codeAny (model PySem.Challenge.rw_lh0061_01.row.prog w) (topA dp un gd env outer) (.call f ⟨vs, kw⟩) R s :=
  C _ _ _ _ _ _ _ _ _ _ _ _ _ _ _ _ _ _ B F N T hf hk hd hu hs (fun r tl h' tk' hp k N' => ret r tl h' tk' hp k (F.keeps k) (news_more N k N')) X
theorem Con.use0 {v : Value} (C : Con w D U f vs kw sub fun r tl => r = v ∧ tl = [])
    (B : Below A₀ base outer h₀) (F : Fr h₀ L s.heap m) (N : News h₀ L s.heap news) (T : Top p loose mean mg mb h₀) (X : (Mine.fr.heap_1 w.params).In h₀) (hf : env.frame = some L) (hk : env.scope.kind = .function) (hd : dp + D < recursionLimit) (hu : un + U < cLine) (hs : ∀ q ∈ sub, q ∈ news)
    (ret : ∀ h' tk', Fr h₀ L h' m → News h₀ L h' news → R (.ok (.ret v)) ⟨h', s.gens, s.drawn, tk', s.os⟩) :
    codeAny (model PySem.Challenge.rw_lh0061_01.row.prog w) (topA dp un gd env outer) (.call f ⟨vs, kw⟩) R s :=
  C.use B F N T X hf hk hd hu hs fun r tl h' tk' ⟨e, e2⟩ _ F' N' => by subst e; subst e2; exact ret h' tk' F' N'
theorem Con.useT {v : Tok → Value} (C : Con w D U f vs kw sub fun r tl => (∃ t, r = v t) ∧ tl = [])
    (B : Below A₀ base outer h₀) (F : Fr h₀ L s.heap m) (N : News h₀ L s.heap news) (T : Top p loose mean mg mb h₀) (X : (Mine.fr.heap_1 w.params).In h₀) (hf : env.frame = some L) (hk : env.scope.kind = .function) (hd : dp + D < recursionLimit) (hu : un + U < cLine) (hs : ∀ q ∈ sub, q ∈ news)
    (ret : ∀ t h' tk', Fr h₀ L h' m → News h₀ L h' news → R (.ok (.ret (v t))) ⟨h', s.gens, s.drawn, tk', s.os⟩) :
    codeAny (model PySem.Challenge.rw_lh0061_01.row.prog w) (topA dp un gd env outer) (.call f ⟨vs, kw⟩) R s :=
  C.use B F N T X hf hk hd hu hs fun r tl h' tk' ⟨⟨t, e⟩, e2⟩ _ F' N' => by subst e; subst e2; exact ret t h' tk' F' N'
theorem ConG.use {rest : List (Addr × Obj)} {ps : Array Value} (C : ConG w D U f vs kw sub post)
    (B : Below A₀ base outer h₀) (F : Fr h₀ L s.heap m) (N : News h₀ L s.heap ((383, tabObj ps) :: rest)) (ht : TriplesOk ps.toList) (hne : 383 ∉ rest.map (·.1)) (T : Top p loose mean mg mb h₀) (X : (Mine.fr.heap_1 w.params).In h₀) (hf : env.frame = some L) (hk : env.scope.kind = .function) (hd : dp + D < recursionLimit) (hu : un + U < cLine) (hs : ∀ q ∈ sub, q ∈ rest)
    (ret : ∀ r tl h' g' tk' ps', post r tl → (∀ b o, b ≠ 383 → s.heap.get? b = some o → h'.get? b = some o) → (∀ q ∈ tl, s.heap.get? q.1 = none) → TriplesOk ps'.toList → Fr h₀ L h' m → News h₀ L h' ((383, tabObj ps') :: (rest ++ tl)) → 383 ∉ (rest ++ tl).map (·.1) → (AllBare s.gens → AllBare g') → R (.ok (.ret r)) ⟨h', g', s.drawn, tk', s.os⟩) :
    codeAny (model PySem.Challenge.rw_lh0061_01.row.prog w) (topA dp un gd env outer) (.call f ⟨vs, kw⟩) R s := by
  refine C _ _ _ _ _ _ _ _ _ _ _ _ _ _ _ _ _ _ _ B F N ht T hf hk hd hu hs (fun r tl h' g' tk' ps' hp k hn ht' N' hg => ?_) X
  have n3 := N _ List.mem_cons_self
  refine ret r tl h' g' tk' ps' hp k hn ht' ⟨F.ns.at' fun o e => k _ o (Ne.symm n3.2.1) e, fun b o e => k b o (fun q => by
    have := n3.2.2
    rw [← q, e] at this; cases this) (F.keep b o e), F.above⟩ ?_ ?_ hg
  · intro q hq
    rcases List.mem_cons.mp hq with rfl | hq
    · exact N' _ (List.mem_append_right _ List.mem_cons_self)
    rcases List.mem_append.mp hq with hq | hq
    · exact ⟨k _ _ (fun e => hne (e ▸ List.mem_map_of_mem hq)) (N q (List.mem_cons_of_mem _ hq)).1, (N q (List.mem_cons_of_mem _ hq)).2⟩
    · exact N' _ (List.mem_append_left _ hq)
  · intro e
    obtain ⟨q, hq, e⟩ := List.mem_map.mp e
    rcases List.mem_append.mp hq with hq | hq
    · exact hne (e ▸ List.mem_map_of_mem hq)
    · have := hn q hq
      rw [e, n3.1] at this
      cases this
/-- as ConG; nothing is said of what is new, but that it is not the code table -/
noncomputable def ConV (w : World) (D U : Nat) (f : Value) (vs : List Value) (kw : List (Str × Value)) (sub : List (Addr × Obj)) (post : Value → List (Addr × Obj) → Prop) : Prop :=
  ∀ (p : Program) (loose : List Str) (mean : ExcName → Option Value) (mg mb : Str → Option Value) (dp un : Nat) (gd : Option (List Code)) (env : Env) (outer : List Env) (A₀ : Around) (base h₀ : Heap) (L : Addr) (m : Str → Option Value)
    (rest : List (Addr × Obj)) (ps : Array Value) (s : Shared) (R : Result → Shared → Prop),
    Below A₀ base outer h₀ → Fr h₀ L s.heap m → News h₀ L s.heap ((383, tabObj ps) :: rest) → TriplesOk ps.toList → 383 ∉ rest.map (·.1) → Top p loose mean mg mb h₀ → env.frame = some L → env.scope.kind = .function → dp + D < recursionLimit → un + U < cLine → (∀ q ∈ sub, q ∈ rest) →
    (∀ r tl h' g' tk' ps', post r tl → (∀ b o, b ≠ 383 → s.heap.get? b = some o → h'.get? b = some o) → 383 ∉ tl.map (·.1) → TriplesOk ps'.toList → News h₀ L h' ((383, tabObj ps') :: tl) → (AllBare s.gens → AllBare g') → R (.ok (.ret r)) ⟨h', g', s.drawn, tk', s.os⟩) →
    (Mine.fr.heap_1 w.params).In h₀ →
    codeAny (model PySem.Challenge.rw_lh0061_01.row.prog w) (topA dp un gd env outer) (.call f ⟨vs, kw⟩) R s
theorem ConV.use {rest : List (Addr × Obj)} {ps : Array Value} (C : ConV w D U f vs kw sub post)
    (B : Below A₀ base outer h₀) (F : Fr h₀ L s.heap m) (N : News h₀ L s.heap ((383, tabObj ps) :: rest)) (ht : TriplesOk ps.toList) (hne : 383 ∉ rest.map (·.1)) (T : Top p loose mean mg mb h₀) (X : (Mine.fr.heap_1 w.params).In h₀) (hf : env.frame = some L) (hk : env.scope.kind = .function) (hd : dp + D < recursionLimit) (hu : un + U < cLine) (hs : ∀ q ∈ sub, q ∈ rest)
    (ret : ∀ r tl h' g' tk' ps', post r tl → (∀ b o, b ≠ 383 → s.heap.get? b = some o → h'.get? b = some o) → TriplesOk ps'.toList → Fr h₀ L h' m → News h₀ L h' ((383, tabObj ps') :: (rest ++ tl)) → 383 ∉ (rest ++ tl).map (·.1) → (AllBare s.gens → AllBare g') → R (.ok (.ret r)) ⟨h', g', s.drawn, tk', s.os⟩) :
    codeAny (model PySem.Challenge.rw_lh0061_01.row.prog w) (topA dp un gd env outer) (.call f ⟨vs, kw⟩) R s := by
  refine C _ _ _ _ _ _ _ _ _ _ _ _ _ _ _ _ _ _ _ B F N ht hne T hf hk hd hu hs (fun r tl h' g' tk' ps' hp k hn ht' N' hg => ?_) X
  have n3 := N _ List.mem_cons_self
  refine ret r tl h' g' tk' ps' hp k ht' ⟨F.ns.at' fun o e => k _ o (Ne.symm n3.2.1) e, fun b o e => k b o (fun q => by
    have := n3.2.2
    rw [← q, e] at this; cases this) (F.keep b o e), F.above⟩ ?_ ?_ hg
  · intro q hq
    rcases List.mem_cons.mp hq with rfl | hq
    · exact N' _ List.mem_cons_self
    rcases List.mem_append.mp hq with hq | hq
    · exact ⟨k _ _ (fun e => hne (e ▸ List.mem_map_of_mem hq)) (N q (List.mem_cons_of_mem _ hq)).1, (N q (List.mem_cons_of_mem _ hq)).2⟩
    · exact N' _ (List.mem_cons_of_mem _ hq)
  · rw [List.map_append, List.mem_append]
    rintro (h | h)
    · exact hne h
    · exact hn h
theorem ConV.useR {rest : List (Addr × Obj)} {ps : Array Value} {Pv : Addr → List (Addr × Obj) → Prop} (C : ConV w D U f vs kw sub fun r tl => ∃ x, r = .ref x ∧ Pv x tl)
    (B : Below A₀ base outer h₀) (F : Fr h₀ L s.heap m) (N : News h₀ L s.heap ((383, tabObj ps) :: rest)) (ht : TriplesOk ps.toList) (hne : 383 ∉ rest.map (·.1)) (T : Top p loose mean mg mb h₀) (X : (Mine.fr.heap_1 w.params).In h₀) (hf : env.frame = some L) (hk : env.scope.kind = .function) (hd : dp + D < recursionLimit) (hu : un + U < cLine) (hs : ∀ q ∈ sub, q ∈ rest)
    (ret : ∀ x tl h' g' tk' ps', Pv x tl → (∀ b o, b ≠ 383 → s.heap.get? b = some o → h'.get? b = some o) → TriplesOk ps'.toList → Fr h₀ L h' m → News h₀ L h' ((383, tabObj ps') :: (rest ++ tl)) → 383 ∉ (rest ++ tl).map (·.1) → (AllBare s.gens → AllBare g') → R (.ok (.ret (.ref x))) ⟨h', g', s.drawn, tk', s.os⟩) :
    codeAny (model PySem.Challenge.rw_lh0061_01.row.prog w) (topA dp un gd env outer) (.call f ⟨vs, kw⟩) R s :=
  ConV.use C B F N ht hne T X hf hk hd hu hs fun _ tl h' g' tk' ps' hp a1 a2 a3 a4 a5 a6 => by
    obtain ⟨x, rfl, v⟩ := hp
    exact ret x tl h' g' tk' ps' v a1 a2 a3 a4 a5 a6
end
theorem fm_nil {α β : Type} {f : α → Option β} : List.filterMap f [] = [] := rfl
theorem fm_nilE {α β : Type} {f : α → Option β} {l : List α} (h : l = []) : List.filterMap f l = [] := by rw [h]; rfl
theorem fm_some {α β : Type} {f : α → Option β} {a : α} {b : β} {l : List α} {r : List β} (h : f a = some b) (t : List.filterMap f l = r) : List.filterMap f (a :: l) = b :: r := by rw [List.filterMap_cons_some h, t]
theorem binds_to {s : Shared} {fd : FuncData} {args : Args} {raw binds : List (Str × Value)} (B : BindsTo s fd args raw) (e : raw = binds) : BindsTo s fd args binds := e ▸ B
theorem subc {α : Type} {p : α} {l s : List α} (h : p ∈ s) (r : ∀ q ∈ l, q ∈ s) : ∀ q ∈ p :: l, q ∈ s := fun q hq => by
  rcases List.mem_cons.mp hq with e | hq
  · exact e ▸ h
  · exact r q hq
theorem suba {α : Type} {l r s : List α} (h1 : ∀ q ∈ l, q ∈ s) (h2 : ∀ q ∈ r, q ∈ s) : ∀ q ∈ l ++ r, q ∈ s := fun q hq => (List.mem_append.mp hq).elim (h1 q) (h2 q)
theorem map_sub {α β : Type} {f : α → β} {l s : List α} {x : β} (h : ∀ q ∈ l, q ∈ s) (hx : x ∈ l.map f) : x ∈ s.map f := by
  obtain ⟨q, hq, e⟩ := List.mem_map.mp hx
  exact e ▸ List.mem_map_of_mem (h q hq)
theorem sub4 {α : Type} {a b c d : α} {r : List α} : ∀ q ∈ [a, b, c, d], q ∈ a :: b :: c :: d :: r := (subc List.mem_cons_self (subc (List.mem_cons_of_mem _ List.mem_cons_self) (subc (List.mem_cons_of_mem _ (List.mem_cons_of_mem _ List.mem_cons_self)) (subc (List.mem_cons_of_mem _ (List.mem_cons_of_mem _ (List.mem_cons_of_mem _ List.mem_cons_self))) (fun _ h => nomatch h)))))
theorem sub8 {α : Type} {a b c d e f g h : α} {r s : List α} : ∀ q ∈ [a, b, c, d, e, f, g, h], q ∈ (a :: b :: c :: d :: r) ++ (e :: f :: g :: h :: s) := (subc (List.mem_append_left _ List.mem_cons_self) (subc (List.mem_append_left _ (List.mem_cons_of_mem _ List.mem_cons_self)) (subc (List.mem_append_left _ (List.mem_cons_of_mem _ (List.mem_cons_of_mem _ List.mem_cons_self))) (subc (List.mem_append_left _ (List.mem_cons_of_mem _ (List.mem_cons_of_mem _ (List.mem_cons_of_mem _ List.mem_cons_self)))) (subc (List.mem_append_right _ List.mem_cons_self) (subc (List.mem_append_right _ (List.mem_cons_of_mem _ List.mem_cons_self)) (subc (List.mem_append_right _ (List.mem_cons_of_mem _ (List.mem_cons_of_mem _ List.mem_cons_self))) (subc (List.mem_append_right _ (List.mem_cons_of_mem _ (List.mem_cons_of_mem _ (List.mem_cons_of_mem _ List.mem_cons_self)))) (fun _ h => nomatch h)))))))))
theorem sub10 {α : Type} {a b c d e f g h t1 t2 t3 t4 : α} {r s : List α} : ∀ q ∈ a :: b :: c :: d :: e :: f :: g :: h :: (r ++ s), q ∈ (a :: b :: t1 :: t2 :: c :: d :: r) ++ (e :: f :: t3 :: t4 :: g :: h :: s) := (subc (List.mem_append_left _ List.mem_cons_self) (subc (List.mem_append_left _ (List.mem_cons_of_mem _ List.mem_cons_self)) (subc (List.mem_append_left _ (List.mem_cons_of_mem _ (List.mem_cons_of_mem _ (List.mem_cons_of_mem _ (List.mem_cons_of_mem _ List.mem_cons_self))))) (subc (List.mem_append_left _ (List.mem_cons_of_mem _ (List.mem_cons_of_mem _ (List.mem_cons_of_mem _ (List.mem_cons_of_mem _ (List.mem_cons_of_mem _ List.mem_cons_self)))))) (subc (List.mem_append_right _ List.mem_cons_self) (subc (List.mem_append_right _ (List.mem_cons_of_mem _ List.mem_cons_self)) (subc (List.mem_append_right _ (List.mem_cons_of_mem _ (List.mem_cons_of_mem _ (List.mem_cons_of_mem _ (List.mem_cons_of_mem _ List.mem_cons_self))))) (subc (List.mem_append_right _ (List.mem_cons_of_mem _ (List.mem_cons_of_mem _ (List.mem_cons_of_mem _ (List.mem_cons_of_mem _ (List.mem_cons_of_mem _ List.mem_cons_self)))))) (suba (fun _ hq => (List.mem_append_left _ (List.mem_cons_of_mem _ (List.mem_cons_of_mem _ (List.mem_cons_of_mem _ (List.mem_cons_of_mem _ (List.mem_cons_of_mem _ (List.mem_cons_of_mem _ hq)))))))) (fun _ hq => (List.mem_append_right _ (List.mem_cons_of_mem _ (List.mem_cons_of_mem _ (List.mem_cons_of_mem _ (List.mem_cons_of_mem _ (List.mem_cons_of_mem _ (List.mem_cons_of_mem _ hq)))))))))))))))))
theorem perm7 {α : Type} {a b c d e f z : α} {r l : List α} : ∀ q ∈ a :: b :: c :: d :: e :: f :: z :: (r ++ l), q ∈ z :: (r ++ (a :: b :: c :: d :: e :: f :: l)) := (subc (List.mem_cons_of_mem _ (List.mem_append_right _ List.mem_cons_self)) (subc (List.mem_cons_of_mem _ (List.mem_append_right _ (List.mem_cons_of_mem _ List.mem_cons_self))) (subc (List.mem_cons_of_mem _ (List.mem_append_right _ (List.mem_cons_of_mem _ (List.mem_cons_of_mem _ List.mem_cons_self)))) (subc (List.mem_cons_of_mem _ (List.mem_append_right _ (List.mem_cons_of_mem _ (List.mem_cons_of_mem _ (List.mem_cons_of_mem _ List.mem_cons_self))))) (subc (List.mem_cons_of_mem _ (List.mem_append_right _ (List.mem_cons_of_mem _ (List.mem_cons_of_mem _ (List.mem_cons_of_mem _ (List.mem_cons_of_mem _ List.mem_cons_self)))))) (subc (List.mem_cons_of_mem _ (List.mem_append_right _ (List.mem_cons_of_mem _ (List.mem_cons_of_mem _ (List.mem_cons_of_mem _ (List.mem_cons_of_mem _ (List.mem_cons_of_mem _ List.mem_cons_self))))))) (subc List.mem_cons_self (suba (fun _ hq => (List.mem_cons_of_mem _ (List.mem_append_left _ hq))) (fun _ hq => (List.mem_cons_of_mem _ (List.mem_append_right _ (List.mem_cons_of_mem _ (List.mem_cons_of_mem _ (List.mem_cons_of_mem _ (List.mem_cons_of_mem _ (List.mem_cons_of_mem _ (List.mem_cons_of_mem _ hq)))))))))))))))))
theorem gen_news {G : Prop} {g h : Heap} {L : Addr} {sub : List (Addr × Obj)} (N : News g L h sub) (k : ∀ news, News g L h news → (∀ q ∈ sub, q ∈ news) → G) : G := k sub N fun _ h => h
theorem lt_r0 {u a b l : Nat} (h : u + b < l) (hh : a ≤ b) : u + a < l := Nat.lt_of_le_of_lt (Nat.add_le_add_left hh u) h
theorem lt_r1 {u a b l : Nat} (h : u + b < l) (hh : 1 + a ≤ b) : u + 1 + a < l := by rw [Nat.add_assoc]; exact lt_r0 h hh
theorem lt_r2 {u a b l : Nat} (h : u + b < l) (hh : 1 + (1 + a) ≤ b) : u + 1 + 1 + a < l := by rw [Nat.add_assoc, Nat.add_assoc]; exact lt_r0 h hh
theorem lt_z0 {u b l : Nat} (h : u + b < l) : u < l := Nat.lt_of_le_of_lt (Nat.le_add_right u b) h
theorem lt_z1 {u b l : Nat} (h : u + b < l) (hh : 1 ≤ b) : u + 1 < l := lt_r0 h hh
theorem lt_z2 {u b l : Nat} (h : u + b < l) (hh : 1 + 1 ≤ b) : u + 1 + 1 < l := by rw [Nat.add_assoc]; exact lt_r0 h hh
theorem lt_rc {u a b c l : Nat} (h : u + b < l) (hh : c + a ≤ b) : u + c + a < l := by rw [Nat.add_assoc]; exact lt_r0 h hh
theorem lt_rd {u a b c d l : Nat} (h : u + b < l) (hh : c + (d + a) ≤ b) : u + c + d + a < l := by rw [Nat.add_assoc, Nat.add_assoc]; exact lt_r0 h hh
/- counting down -/
theorem nb_eq {n i : Nat} (h : n - i = 0) (h' : i ≤ n) : i = n := Nat.le_antisymm h' (Nat.le_of_sub_eq_zero h)
theorem nb_lt {n i k : Nat} (h : n - i = k + 1) : i < n := Nat.lt_of_sub_eq_succ h
theorem nb_step {n i k : Nat} (h : n - i = k + 1) : n - (i + 1) = k := by rw [Nat.sub_add_eq, h]; rfl
theorem nb_succ {n i : Nat} (h : i < n) : n - i = n - (i + 1) + 1 := by rw [Nat.sub_add_eq]; exact (Nat.sub_add_cancel (Nat.sub_pos_of_lt h)).symm
theorem nb_back {n i : Nat} (h : i < n) : n - 1 - (n - (i + 1)) = i := by omega
theorem nb_succ' {n i : Nat} (h : i < n) : n - i = n - i - 1 + 1 := (Nat.sub_add_cancel (Nat.sub_pos_of_lt h)).symm
theorem nb_back' {n i m : Nat} (h : i < n) (e : n - i = m + 1) : n - 1 - (m + 1 - 1) = i := by rw [← nb_step e]; exact nb_back h
theorem bd_le {a k : Int} {i j : Nat} (h : i ≤ j) (ha : 0 ≤ a ∧ a < k + i) : 0 ≤ a ∧ a < k + j := ⟨ha.1, Int.lt_of_lt_of_le ha.2 (Int.add_le_add_left (Int.ofNat_le.mpr h) k)⟩
theorem bd_s {a k : Int} {i : Nat} (ha : 0 ≤ a ∧ a < k + i) : 0 ≤ a + 1 ∧ a + 1 < k + (i + 1 : Nat) := ⟨Int.add_nonneg ha.1 (by decide), by rw [Int.natCast_add, ← Int.add_assoc]; exact Int.add_lt_add_right ha.2 1⟩
theorem bd_0 {k : Int} {i : Nat} (h : 0 < k) : (0 : Int) ≤ 0 ∧ (0 : Int) < k + (i : Nat) := ⟨Int.le_refl _, Int.lt_of_lt_of_le h (Int.le_add_of_nonneg_right (Int.natCast_nonneg i))⟩
/-- a function's name, scope and text, as the ledger bears them -/
noncomputable def fnParts : Option Obj → Option (Str × Scope × FuncBody)
  | some ⟨_, _, .func fd, _⟩ => some (fd.qualname, fd.scope, fd.body)
  | _ => none
noncomputable def bodyS : FuncBody → List Stmt
  | .stmts b => b
  | _ => []
/-- f picks rows out of a function's text -/
noncomputable def FnSel (f : FuncBody → List Stmt) (o : Option Obj) (qual : Str) (scope : Scope) (b : List Stmt) : Prop := ∃ body, fnParts o = some (qual, scope, body) ∧ f body = b
section
variable {f : FuncBody → List Stmt} {o : Option Obj} {qual qual' : Str} {scope scope' : Scope} {body b b' : List Stmt} {oc : Value} {od : Option Addr} {name : Str} {params : Arguments} {dV kV doc pm cdv ct : Value} {an : Option Addr} {osl : Array (Option Value)}
theorem FnSel.of (h1 : o = some ⟨oc, od, .func (fnOf name qual params body scope dV kV doc pm an cdv ct), osl⟩) (hb : f (.stmts body) = b) : FnSel f o qual scope b := ⟨_, congrArg fnParts h1, hb⟩
theorem FnSel.eq (H : FnSel f o qual' scope' b') (h1 : o = some ⟨oc, od, .func (fnOf name qual params body scope dV kV doc pm an cdv ct), osl⟩) (hb : f (.stmts body) = b) : qual' = qual ∧ scope' = scope ∧ b' = b := by
  obtain ⟨body', e, e2⟩ := H
  have e3 := Option.some.inj (e.symm.trans (congrArg fnParts h1))
  exact ⟨congrArg (·.1) e3, congrArg (·.2.1) e3, e2.symm.trans ((congrArg (fun x => f x.2.2) e3).trans hb)⟩
theorem FnSel.elim {G : Str → Scope → List Stmt → Prop} (H : FnSel f o qual' scope' b') (h1 : o = some ⟨oc, od, .func (fnOf name qual params body scope dV kV doc pm an cdv ct), osl⟩) (hb : f (.stmts body) = b) (k : FnSel f o qual scope b → G qual scope b) : G qual' scope' b' := by
  obtain ⟨rfl, rfl, rfl⟩ := H.eq h1 hb
  exact k H
end
noncomputable def forB1 (b : FuncBody) : List Stmt := match bodyS b with
  | .For _ _ r _ _ :: _ => r
  | _ => []
noncomputable def forB5 (b : FuncBody) : List Stmt := match (bodyS b).drop 4 with
  | .For _ _ r _ _ :: _ => r
  | _ => []
noncomputable def tail5 (b : FuncBody) : List Stmt := (bodyS b).drop 5
theorem tail5_of {o : Option Obj} {oc : Value} {od : Option Addr} {name qual : Str} {params : Arguments} {scope : Scope} {s0 s1 s2 s3 s4 : Stmt} {rest : List Stmt} {dV kV doc pm cdv ct : Value} {an : Option Addr} {osl : Array (Option Value)} (h1 : o = some ⟨oc, od, .func (fnOf name qual params (s0 :: s1 :: s2 :: s3 :: s4 :: rest) scope dV kV doc pm an cdv ct), osl⟩) : FnSel tail5 o qual scope rest := FnSel.of h1 rfl
theorem tail5_elim {o : Option Obj} {G : Str → Scope → List Stmt → Prop} {oc : Value} {od : Option Addr} {name qual : Str} {params : Arguments} {scope : Scope} {s0 s1 s2 s3 s4 : Stmt} {rest : List Stmt} {dV kV doc pm cdv ct : Value} {an : Option Addr} {osl : Array (Option Value)} (h1 : o = some ⟨oc, od, .func (fnOf name qual params (s0 :: s1 :: s2 :: s3 :: s4 :: rest) scope dV kV doc pm an cdv ct), osl⟩) (k : G qual scope rest) : ∀ (qual' : Str) (scope' : Scope) (rest' : List Stmt), FnSel tail5 o qual' scope' rest' → G qual' scope' rest' := fun _ _ _ HL => FnSel.elim HL h1 rfl fun _ => k
theorem map_cons {m m' : Str → Option Value} {k : Str} {v : Value} (h : m k = some v) (e : m = m') : m = fun y => if y = k then some v else m' y := by
  funext y
  by_cases hy : y = k
  · rw [if_pos hy, hy, h]
  · rw [if_neg hy, ← e]
theorem fr_map {h₀ h : Heap} {L : Addr} {m m' : Str → Option Value} (F : Fr h₀ L h m) (e : m = m') : Fr h₀ L h m' := e ▸ F
theorem forB1_of {o : Option Obj} {oc : Value} {od : Option Addr} {name qual : Str} {params : Arguments} {scope : Scope} {t it : PySem.Expr} {body oe rest : List Stmt} {pos : Pos} {dV kV doc pm cdv ct : Value} {an : Option Addr} {osl : Array (Option Value)} (h1 : o = some ⟨oc, od, .func (fnOf name qual params (.For t it body oe pos :: rest) scope dV kV doc pm an cdv ct), osl⟩) : FnSel forB1 o qual scope body := FnSel.of h1 rfl
theorem forB1_elim {o : Option Obj} {G : Str → Scope → List Stmt → Prop} {oc : Value} {od : Option Addr} {name qual : Str} {params : Arguments} {scope : Scope} {t it : PySem.Expr} {body oe rest : List Stmt} {pos : Pos} {dV kV doc pm cdv ct : Value} {an : Option Addr} {osl : Array (Option Value)} (h1 : o = some ⟨oc, od, .func (fnOf name qual params (.For t it body oe pos :: rest) scope dV kV doc pm an cdv ct), osl⟩) (k : G qual scope body) : ∀ (qual' : Str) (scope' : Scope) (body' : List Stmt), FnSel forB1 o qual' scope' body' → G qual' scope' body' := fun _ _ _ HL => FnSel.elim HL h1 rfl fun _ => k
local macro_rules | `(tactic| walk_at $s:str) => do let k := Lean.Syntax.mkStrLit ("+" ++ s.getString); `(tactic| k_extra $k)
local macro_rules | `(tactic| k_mem) => `(tactic| k_extra "@k_mem")
local macro_rules | `(tactic| k_enter) => `(tactic| k_extra "@k_enter")
local macro_rules | `(tactic| k_all) => `(tactic| k_extra "@k_all")
local macro_rules | `(tactic| k_in) => `(tactic| k_extra "@k_in")
local macro_rules | `(tactic| k_units) => `(tactic| k_extra "@k_units")
local macro_rules | `(tactic| ktr_units) => `(tactic| k_extra "@ktr_units")
local macro_rules | `(tactic| ktr_room) => `(tactic| k_extra "@ktr_room")
local macro_rules | `(tactic| units_room) => `(tactic| k_extra "@units_room")
local macro_rules | `(tactic| k_room) => `(tactic| k_extra "@k_room")
local macro_rules | `(tactic| k_ne) => `(tactic| k_extra "@k_ne")
local macro_rules | `(tactic| kpc_piece) => `(tactic| k_extra "@kpc_piece")
local macro_rules | `(tactic| kpt_hd) => `(tactic| k_extra "@kpt_hd")
local macro_rules | `(tactic| kpt_len) => `(tactic| k_extra "@kpt_len")
local macro_rules | `(tactic| kpt_piece) => `(tactic| k_extra "@kpt_piece")
local macro_rules | `(tactic| size_fits) => `(tactic| k_extra "@size_fits")
local macro_rules | `(tactic| k_lt $h) => `(tactic| first | (k_extra "@k_lt clear"; clear $h) | k_extra "@k_lt skip")
theorem kwBase : True := by
  (k_with "+lt room" => (first | exact lt_r0 (by assumption) (by decide) | exact lt_rc (by assumption) (by decide) | exact lt_rd (by assumption) (by decide) | exact lt_z0 (by assumption)))
  (k_with "@ktr_room" => (walk_at "lt room"))
  (k_with "@ktr_units" => (walk_at "lt room"))
  (k_with "@units_room" => (walk_at "lt room"))
  (k_with "@k_room" => (ktr_room))
  (k_with "+con binds" => (first | exact fm_nilE (by exact rfl) | exact fm_some (by exact rfl) (by walk_at "con binds")))
  (k_with "+con enter" => ((k_dflt (refine' code_keep ?k19q ?k29q ?k39q ?k49q ?k59q ?kA9q ?kF9q ?kK9q ?k69q ?k79q ?k89q ?k99q ?kB9q ?_ ?c29q ?c39q ?c49q ?c59q; (case kA9q => exact rfl); (case kF9q => assumption); (case kK9q => assumption); (case k49q => k_asm); (case k19q => k_asm); (case k29q => k_asm); (case k39q => k_asm); (case k59q => k_asm); (case k69q => k_is); (case k79q => k_is); (case k89q => ktr_room); (case k99q => (refine' binds_to ?b99q ?e99q; (case b99q => first | exact BindsTo.of_eq rfl | exact binds_K (by k_in) rfl (by k_is) rfl rfl rfl | fail "con enter: no rule for these arguments"); (case e99q => first | (walk_at "con binds") | (walk_say "con enter: binds left as they are"; exact rfl)))); (case c59q => decide); (case kB9q => exact locs rfl); (case c29q => exact rfl); (case c39q => exact rfl); (case c49q => exact rfl); k_whole; intro g' L' h' FG' F' N' B' X' T' G0'; (try dsimp only); (try k_fold)))))
  (k_with "+con sub" => (repeat (first | exact sub_nil | refine sub_cons (by k_mem) ?_)))
  (k_with "+ite" => ((k_here; k_openite; with_reducible refine ite_isFalse (bne_self_eq_false _) ?_; walk_say "PRUNED same")))
  (k_with "+con sides" => (((case k39q => k_asm); (case k29q => k_asm); (case k19q => k_asm); (case k49q => k_asm); (case k59q => k_asm); (case kF9q => first | exact rfl | assumption); (case kK9q => first | exact rfl | assumption); (case kd9q => ktr_room); (case ku9q => ktr_units); (case ks9q => walk_at "con sub"))))
  (k_with "+ne close" => (first | assumption | exact Ne.symm (by assumption) | exact Nat.ne_of_lt (by assumption) | exact Nat.ne_of_gt (by assumption) | exact Nat.ne_of_lt (Nat.lt_trans (by assumption) (by assumption)) | exact Nat.ne_of_gt (Nat.lt_trans (by assumption) (by assumption)) | (rename _ ∧ _ => hh9; obtain ⟨_, _⟩ := hh9; walk_at "ne close")))
  (k_with "@k_ne" => ((refine neN ?_; (try dsimp only); with_reducible walk_at "ne close")))
  exact True.intro
section
theorem c_lz (w : World) (x : Str) (tk : Tok) (hx : 0 < x.length) (hx0 : x.length < 100) (h0 : (Txt.item x 0 == Str.ofString "0") = true → (x != Str.ofString "0") = false) :
    Con w 1 8 (.ref 65) [.str x tk] [] [] (fun r tl => r = .bool false ∧ tl = []) := by
  unfold Con
  intro p loose mean mg mb dp un gd env outer A₀ base h₀ L m news s R B F N T hf hk hd hu hsub hret
  k_fill
  intro X
  have N0 := news_sub N hsub
  walk_at "con enter"
  k_steps
  all_goals ((unfold KeptEnd; dsimp only; intro hK; refine hret _ [] _ _ ?_ (keep_back N0 hK (news_sub (by k_asm) (by walk_at "con sub"))) (news_sub (by k_asm) (by walk_at "con sub"))); refine ⟨?_, rfl⟩)
  · rw [h0 (by assumption)]
  · simp_all
  · simp_all
  · exfalso; omega
theorem c_coerce_s (w : World) (x : Str) (tk : Tok) (n : Int) (hn : PySem.intText? x = some n) (hx0 : x.length < 100) :
    Con w 1 8 (.ref 277) [.ref 448, .str x tk, .bool false] [] [] (fun r tl => (∃ t, r = .int n t) ∧ tl = []) := by
  unfold Con
  intro p loose mean mg mb dp un gd env outer A₀ base h₀ L m news s R B F N T hf hk hd hu hsub hret
  k_fill
  intro X
  have N0 := news_sub N hsub
  walk_at "con enter"
  k_steps
  all_goals ((unfold KeptEnd; dsimp only; intro hK; refine hret _ [] _ _ ?_ (keep_back N0 hK (news_sub (by k_asm) (by walk_at "con sub"))) (news_sub (by k_asm) (by walk_at "con sub"))); exact ⟨⟨_, rfl⟩, rfl⟩)
theorem c_coerce_i (w : World) (n : Int) (tk : Tok) :
    Con w 1 8 (.ref 277) [.ref 448, .int n tk, .bool false] [] [] (fun r tl => (∃ t, r = .int n t) ∧ tl = []) := by
  unfold Con
  intro p loose mean mg mb dp un gd env outer A₀ base h₀ L m news s R B F N T hf hk hd hu hsub hret
  k_fill
  intro X
  have N0 := news_sub N hsub
  walk_at "con enter"
  k_steps
  all_goals ((unfold KeptEnd; dsimp only; intro hK; refine hret _ [] _ _ ?_ (keep_back N0 hK (news_sub (by k_asm) (by walk_at "con sub"))) (news_sub (by k_asm) (by walk_at "con sub"))); exact ⟨⟨_, rfl⟩, rfl⟩)
end
section
/-- a word of the law's menu -/
noncomputable def Words : List Str := [Str.ofString "a", Str.ofString "b", Str.ofString "0", Str.ofString "1", Str.ofString "10", Str.ofString "rc", Str.ofString "x-y", Str.ofString "A"]
theorem word_facts {z : Str} (h : z ∈ Words) : ((z.length : Int) != 0) = true ∧ 0 < z.length ∧ z.length < 100 ∧ ((Txt.item z 0 == Str.ofString "0") = true → (z != Str.ofString "0") = false) := by
  revert z
  have : ∀ z ∈ Words, ((z.length : Int) != 0) = true ∧ 0 < z.length ∧ z.length < 100 ∧ ((Txt.item z 0 == Str.ofString "0") = true → (z != Str.ofString "0") = false) := by decide +kernel
  exact fun {z} h => this z h
theorem strs0 {vs : List Value} (h : StrsAre vs []) : vs = [] := by cases h; rfl
theorem strs1 {vs : List Value} {z : Str} (h : StrsAre vs [z]) : ∃ t, vs = [.str z t] := by
  obtain ⟨t, r, e, h⟩ := h.cons_inv
  have := strs0 h
  exact ⟨t, by rw [e, this]⟩
theorem strs2 {vs : List Value} {z y : Str} (h : StrsAre vs [z, y]) : ∃ t u, vs = [.str z t, .str y u] := by
  obtain ⟨t, r, e, h⟩ := h.cons_inv
  obtain ⟨u, e2⟩ := strs1 h
  exact ⟨t, u, by rw [e, e2]⟩
section
theorem kw1_C3 : True := by
  (k_with "+ite" => ((k_here; k_openite; refine ite_isFalse (by solve_by_elim) ?_; walk_say "PRUNED mine")))
  exact True.intro
theorem vid_turn (w : World) : ∀ (qual : Str) (scope : Scope) (body : List Stmt), FnSel forB1 ((Mine.fr.heap_1 w.params).lookup 339) qual scope body → ∀ (p : Program) (loose : List Str) (mean : ExcName → Option Value) (mg mb : Str → Option Value) (dp un : Nat) (gd : Option (List Code)) (outer : List Env) (h₀ : Heap) (L fa : Addr) (cd : Value) (m : Str → Option Value) (x : Str) (t : Tok) (h : Heap) (g : Array GenState) (dr : Drawn) (os : OsState) (tk : Nat) (Q : Flow → Shared → Prop) (E : Value → Shared → Prop),
    Top p loose mean mg mb h₀ → (Mine.fr.heap_1 w.params).In h₀ → dp < recursionLimit → un + 4 < cLine → Fr h₀ L h m → m (Str.ofString "item") = some (.str x t) → x ∈ Words → (∀ tk', Q .next ⟨h, g, dr, tk', os⟩) →
    wpAny (model PySem.Challenge.rw_lh0061_01.row.prog w) (topA dp un gd (envOf qual scope L fa cd) outer) (execs body (envOf qual scope L fa cd)) Q E ⟨h, g, dr, tk, os⟩ := by
  k_fill
  refine' forB1_elim ?h1 ?_
  case h1 => k_is
  intro p loose mean mg mb dp un gd outer h₀ L fa cd m x t h g dr os tk Q E T X hd hu F0 q1 hx next
  have F := fr_map F0 (map_cons q1 rfl)
  clear F0
  have x1 := (word_facts hx).1
  have x2 := (word_facts hx).2.1
  have x3 := (word_facts hx).2.2.1
  have x4 := (word_facts hx).2.2.2
  k_steps
  all_goals exact next _
end
theorem kw2_C3 : True := by
  k_with_none
  (k_with "+lt room" => (first | exact lt_r0 (by assumption) (by decide) | exact lt_rc (by assumption) (by decide) | exact lt_rd (by assumption) (by decide) | exact lt_z0 (by assumption)))
  (k_with "@ktr_room" => (walk_at "lt room"))
  (k_with "@ktr_units" => (walk_at "lt room"))
  (k_with "@units_room" => (walk_at "lt room"))
  (k_with "@k_room" => (ktr_room))
  (k_with "+con binds" => (first | exact fm_nilE (by exact rfl) | exact fm_some (by exact rfl) (by walk_at "con binds")))
  (k_with "+con enter" => ((k_dflt (refine' code_keep ?k19q ?k29q ?k39q ?k49q ?k59q ?kA9q ?kF9q ?kK9q ?k69q ?k79q ?k89q ?k99q ?kB9q ?_ ?c29q ?c39q ?c49q ?c59q; (case kA9q => exact rfl); (case kF9q => assumption); (case kK9q => assumption); (case k49q => k_asm); (case k19q => k_asm); (case k29q => k_asm); (case k39q => k_asm); (case k59q => k_asm); (case k69q => k_is); (case k79q => k_is); (case k89q => ktr_room); (case k99q => (refine' binds_to ?b99q ?e99q; (case b99q => first | exact BindsTo.of_eq rfl | exact binds_K (by k_in) rfl (by k_is) rfl rfl rfl | fail "con enter: no rule for these arguments"); (case e99q => first | (walk_at "con binds") | (walk_say "con enter: binds left as they are"; exact rfl)))); (case c59q => decide); (case kB9q => exact locs rfl); (case c29q => exact rfl); (case c39q => exact rfl); (case c49q => exact rfl); k_whole; intro g' L' h' FG' F' N' B' X' T' G0'; (try dsimp only); (try k_fold)))))
  (k_with "+con sub" => (repeat (first | exact sub_nil | refine sub_cons (by k_mem) ?_)))
  (k_with "+ite" => ((k_here; k_openite; with_reducible refine ite_isFalse (bne_self_eq_false _) ?_; walk_say "PRUNED same")))
  (k_with "+con sides" => (((case k39q => k_asm); (case k29q => k_asm); (case k19q => k_asm); (case k49q => k_asm); (case k59q => k_asm); (case kF9q => first | exact rfl | assumption); (case kK9q => first | exact rfl | assumption); (case kd9q => ktr_room); (case ku9q => ktr_units); (case ks9q => walk_at "con sub"))))
  (k_with "+ne close" => (first | assumption | exact Ne.symm (by assumption) | exact Nat.ne_of_lt (by assumption) | exact Nat.ne_of_gt (by assumption) | exact Nat.ne_of_lt (Nat.lt_trans (by assumption) (by assumption)) | exact Nat.ne_of_gt (Nat.lt_trans (by assumption) (by assumption)) | (rename _ ∧ _ => hh9; obtain ⟨_, _⟩ := hh9; walk_at "ne close")))
  (k_with "@k_ne" => ((refine neN ?_; (try dsimp only); with_reducible walk_at "ne close")))
  exact True.intro
section
theorem kw3_C3 : True := by
  (k_with "+execs cons" => ((k_here; (with_reducible show wpAny _ _ (execs (Stmt.If _ _ _ _ :: _) _) _ _ _); k_dflt (refine' vid_turn _ _ _ _ HPv _ _ _ _ _ _ _ _ _ _ _ _ _ _ _ _ _ _ _ _ _ _ _ ?T9q ?X9q ?hd9q ?hu9q ?F9q ?q19q ?hx9q ?_; (case F9q => k_asm); (case T9q => k_asm); (case X9q => k_asm); (case hd9q => ktr_room); (case hu9q => ktr_units); (case q19q => with_unfolding_all rfl); (case hx9q => k_asm)); intro tk9; (try dsimp only))))
  exact True.intro
theorem c_vid2 (w : World) (b : Bool) (x y : Str) (t u : Tok) (tp : Addr) (hx : x ∈ Words) (hy : y ∈ Words) :
    Con w 1 8 (.ref 339) [.ref 448, .ref tp] [(Str.ofString "allow_leading_zeroes", .bool b)] [(tp, tupO [.str x t, .str y u])] (fun r tl => r = .none ∧ tl = []) := by
  unfold Con
  intro p loose mean mg mb dp un gd env outer A₀ base h₀ L m news s R B F N T hf hk hd hu hsub hret
  k_fill
  intro X
  have N0 := news_sub N hsub
  walk_at "con enter"
  have HPv := forB1_of (o := (Mine.fr.heap_1 w.params).lookup 339) (by k_is)
  k_steps
  all_goals ((unfold KeptEnd; dsimp only; intro hK; refine hret _ [] _ _ ?_ (keep_back N0 hK (news_sub (by k_asm) (by walk_at "con sub"))) (news_sub (by k_asm) (by walk_at "con sub"))); exact ⟨rfl, rfl⟩)
theorem c_vid1 (w : World) (b : Bool) (x : Str) (t : Tok) (tp : Addr) (hx : x ∈ Words) :
    Con w 1 8 (.ref 339) [.ref 448, .ref tp] [(Str.ofString "allow_leading_zeroes", .bool b)] [(tp, tupO [.str x t])] (fun r tl => r = .none ∧ tl = []) := by
  unfold Con
  intro p loose mean mg mb dp un gd env outer A₀ base h₀ L m news s R B F N T hf hk hd hu hsub hret
  k_fill
  intro X
  have N0 := news_sub N hsub
  walk_at "con enter"
  have HPv := forB1_of (o := (Mine.fr.heap_1 w.params).lookup 339) (by k_is)
  k_steps
  all_goals ((unfold KeptEnd; dsimp only; intro hK; refine hret _ [] _ _ ?_ (keep_back N0 hK (news_sub (by k_asm) (by walk_at "con sub"))) (news_sub (by k_asm) (by walk_at "con sub"))); exact ⟨rfl, rfl⟩)
theorem c_vid0 (w : World) (b : Bool) (tp : Addr) :
    Con w 1 8 (.ref 339) [.ref 448, .ref tp] [(Str.ofString "allow_leading_zeroes", .bool b)] [(tp, tupO [])] (fun r tl => r = .none ∧ tl = []) := by
  unfold Con
  intro p loose mean mg mb dp un gd env outer A₀ base h₀ L m news s R B F N T hf hk hd hu hsub hret
  k_fill
  intro X
  have N0 := news_sub N hsub
  walk_at "con enter"
  k_steps
  all_goals ((unfold KeptEnd; dsimp only; intro hK; refine hret _ [] _ _ ?_ (keep_back N0 hK (news_sub (by k_asm) (by walk_at "con sub"))) (news_sub (by k_asm) (by walk_at "con sub"))); exact ⟨rfl, rfl⟩)
end
theorem kw4_C3 : True := by
  k_with_none
  (k_with "+lt room" => (first | exact lt_r0 (by assumption) (by decide) | exact lt_rc (by assumption) (by decide) | exact lt_rd (by assumption) (by decide) | exact lt_z0 (by assumption)))
  (k_with "@ktr_room" => (walk_at "lt room"))
  (k_with "@ktr_units" => (walk_at "lt room"))
  (k_with "@units_room" => (walk_at "lt room"))
  (k_with "@k_room" => (ktr_room))
  (k_with "+con binds" => (first | exact fm_nilE (by exact rfl) | exact fm_some (by exact rfl) (by walk_at "con binds")))
  (k_with "+con enter" => ((k_dflt (refine' code_keep ?k19q ?k29q ?k39q ?k49q ?k59q ?kA9q ?kF9q ?kK9q ?k69q ?k79q ?k89q ?k99q ?kB9q ?_ ?c29q ?c39q ?c49q ?c59q; (case kA9q => exact rfl); (case kF9q => assumption); (case kK9q => assumption); (case k49q => k_asm); (case k19q => k_asm); (case k29q => k_asm); (case k39q => k_asm); (case k59q => k_asm); (case k69q => k_is); (case k79q => k_is); (case k89q => ktr_room); (case k99q => (refine' binds_to ?b99q ?e99q; (case b99q => first | exact BindsTo.of_eq rfl | exact binds_K (by k_in) rfl (by k_is) rfl rfl rfl | fail "con enter: no rule for these arguments"); (case e99q => first | (walk_at "con binds") | (walk_say "con enter: binds left as they are"; exact rfl)))); (case c59q => decide); (case kB9q => exact locs rfl); (case c29q => exact rfl); (case c39q => exact rfl); (case c49q => exact rfl); k_whole; intro g' L' h' FG' F' N' B' X' T' G0'; (try dsimp only); (try k_fold)))))
  (k_with "+con sub" => (repeat (first | exact sub_nil | refine sub_cons (by k_mem) ?_)))
  (k_with "+ite" => ((k_here; k_openite; with_reducible refine ite_isFalse (bne_self_eq_false _) ?_; walk_say "PRUNED same")))
  (k_with "+con sides" => (((case k39q => k_asm); (case k29q => k_asm); (case k19q => k_asm); (case k49q => k_asm); (case k59q => k_asm); (case kF9q => first | exact rfl | assumption); (case kK9q => first | exact rfl | assumption); (case kd9q => ktr_room); (case ku9q => ktr_units); (case ks9q => walk_at "con sub"))))
  (k_with "+ne close" => (first | assumption | exact Ne.symm (by assumption) | exact Nat.ne_of_lt (by assumption) | exact Nat.ne_of_gt (by assumption) | exact Nat.ne_of_lt (Nat.lt_trans (by assumption) (by assumption)) | exact Nat.ne_of_gt (Nat.lt_trans (by assumption) (by assumption)) | (rename _ ∧ _ => hh9; obtain ⟨_, _⟩ := hh9; walk_at "ne close")))
  (k_with "@k_ne" => ((refine neN ?_; (try dsimp only); with_reducible walk_at "ne close")))
  exact True.intro
/-- the words of a part of a version -/
structure Ids (zs : List Str) : Prop where
  few : zs.length ≤ 2
  words : ∀ z ∈ zs, z ∈ Words
theorem c_vid (w : World) (b : Bool) {zs : List Str} {vs : List Value} (hz : Ids zs) (hv : StrsAre vs zs) (tp : Addr) :
    Con w 1 8 (.ref 339) [.ref 448, .ref tp] [(Str.ofString "allow_leading_zeroes", .bool b)] [(tp, tupO vs)] (fun r tl => r = .none ∧ tl = []) := by
  obtain ⟨h1, h2⟩ := hz
  match zs, h1, h2 with
  | [], _, _ => cases strs0 hv; exact c_vid0 w b tp
  | [x], _, h2 => obtain ⟨t, rfl⟩ := strs1 hv; exact c_vid1 w b x t tp (h2 x (by simp))
  | [x, y], _, h2 => obtain ⟨t, u, rfl⟩ := strs2 hv; exact c_vid2 w b x y t u tp (h2 x (by simp)) (h2 y (by simp))
theorem strs_empty {vs : List Value} {xs : List Str} (h : StrsAre vs xs) : vs.isEmpty = decide (xs = []) := by
  cases h <;> simp
theorem truthy_strs {prog : Program} {w : World} {A : Around} {E : Value → Shared → Prop} {s : Shared} {h₀ : Heap} {L : Addr} {news : List (Addr × Obj)} {t : Addr} {vs : List Value} {xs : List Str} {Q : Bool → Shared → Prop} (N : News h₀ L s.heap news) (hm : (t, tupO vs) ∈ news) (hx : StrsAre vs xs) (hz : vs.length ≤ 1000)
    (h : Q (!decide (xs = [])) { s with toks := s.toks + 1 + 1 }) : wpAny (model prog w) A (truthy (.ref t)) Q E s := by
  refine ktl_truthyK N hm hz ?_
  rw [strs_empty hx]
  exact h
theorem or_tup {prog : Program} {w : World} {A : Around} {E : Value → Shared → Prop} {s : Shared} {env : Env} {e1 : PySem.Expr} {k : Nat} {p3 p4 : Pos} {h₀ : Heap} {L : Addr} {m : Str → Option Value} {news : List (Addr × Obj)} {tp : Addr} {vp : List Value} {zp : List Str} {Q : Value → Shared → Prop}
    (hA : ∀ Q' : Value → Shared → Prop, (∀ tk', Q' (.ref tp) ⟨s.heap, s.gens, s.drawn, tk', s.os⟩) → wpAny (model prog w) A (eval e1 env) Q' E s) (F : Fr h₀ L s.heap m) (N : News h₀ L s.heap news) (hm : (tp, tupO vp) ∈ news) (hv : StrsAre vp zp) (hz : vp.length ≤ 1000)
    (h : ∀ D h' tk', (∀ q ∈ news, q.2 ≠ tupO vp → q.1 ≠ D) → Fr h₀ L h' m → News h₀ L h' ((D, tupO vp) :: news) → Q (.ref D) ⟨h', s.gens, s.drawn, tk', s.os⟩) : wpAny (model prog w) A (eval (.BoolOp .Or [e1, .Tuple [] k p3] p4) env) Q E s := by
  refine BoolOp_or (hA _ fun tk0 => ?_)
  refine truthy_strs N hm hv hz ?_
  cases e : decide (zp = []) with
  | false =>
    exact h tp s.heap _ (fun q hq hn e => hn (Option.some.inj ((N q hq).1.symm.trans (e ▸ (N _ hm).1)))) F fun q hq => by
      rcases List.mem_cons.mp hq with e | hq
      · exact e ▸ N _ hm
      · exact N q hq
  | true =>
    cases of_decide_eq_true e
    cases strs0 hv
    exact BoolOp_one (Tuple_ (args_nil (kup_newTuple F N (fun D h' F' N' l => h D h' _ (fun q hq _ => Nat.ne_of_lt (l q hq)) F' N') (Nat.zero_le _))))
end
section
section
variable {prog : Program} {w : World} {A : Around} {E : Value → Shared → Prop} {s : Shared} {K : Frag} {h₀ : Heap} {L : Addr} {news : List (Addr × Obj)}
theorem callWith_MKW {M : Model} {env : Env} {pos : Pos} {q g : Addr} {self : Value} {first : List Value} {Q : Value → Shared → Prop} {e : Expr} {rest : List Expr} {kws : List Keyword} (_X : K.In h₀) (_N : News h₀ L s.heap news) (_q : (q, methodObj (.ref g) self) ∈ news) (hf : fnIn K g = true)
    (hall : (backToKw pos (keywordEach kws env)).all (·.1.isSome) = true)
    (h : wpAny M A (spliced (backTo pos (starEach (e :: rest) env))) (fun vs s₁ => wpAny M A (evalAll ((backToKw pos (keywordEach kws env)).map (·.2)))
      (fun ks s₂ => MethP K q g self s₂.heap ∧ wpAny M A (call (.ref q) (first ++ vs) (((backToKw pos (keywordEach kws env)).filterMap (·.1)).zip ks)) Q E s₂) E s₁) E s)
    (hplain : ((backTo pos (starEach (e :: rest) env)).any (·.1) || (backToKw pos (keywordEach kws env)).any (·.1.isNone)) = false := by rfl) (he : starEach (e :: rest) env = (false, eval e env) :: starEach rest env := by rfl) :
    wpAny M A (callWith pos (.ref q) first (backTo pos (starEach (e :: rest) env)) (backToKw pos (keywordEach kws env))) Q E s :=
  callWith_of hplain (keeps_M hf) (evalArgs_kw2 hall h he)
end
end
section
/- str.encode("ascii") of a menu's word -/
noncomputable def octets (z : Str) : Array UInt8 := z.cps.map (·.toUInt8)
theorem encode_tree {z : Str} (hz : z ∈ Words) (t u : Tok) : Builtin.«str.encode» ⟨[.str z t, .str (Str.ofString "ascii") u], []⟩ = (do ret (← mkBytes (octets z))) := by
  simp only [Words, List.mem_cons, List.not_mem_nil, or_false] at hz
  rcases hz with rfl | rfl | rfl | rfl | rfl | rfl | rfl | rfl <;> kernel_rfl
theorem octets_few {z : Str} (hz : z ∈ Words) : (octets z).size ≤ sizeLine := by
  revert z
  have : ∀ z ∈ Words, (octets z).size ≤ sizeLine := by decide +kernel
  exact fun {z} h => this z h
section
variable {prog : Program} {w : World} {A : Around} {E : Value → Shared → Prop} {s : Shared}
theorem encode_meets {z : Str} (hz : z ∈ Words) (t u : Tok) : Meets (Builtin.«str.encode» ⟨[.str z t, .str (Str.ofString "ascii") u], []⟩) (fun _ R s => R (.ok (.ret (.bytes (octets z) s.toks))) { s with toks := s.toks + 1 }) := by
  refine .of_wp fun prog w A R s hS => ?_
  rw [encode_tree hz]
  unfold mkBytes
  rw [if_neg (Nat.not_lt.mpr (octets_few hz))]
  exact wpAny_bind (wpAny_bind (wpAny_fresh (wpAny_pure (wpAny_pure ⟨_, rfl, hS⟩))))
theorem encode_call {z : Str} (hz : z ∈ Words) {t u : Tok} {Q : Value → Shared → Prop} (h : Q (.bytes (octets z) s.toks) { s with toks := s.toks + 1 }) : wpAny (model prog w) A (call (.builtin "str.encode") [.str z t, .str (Str.ofString "ascii") u]) Q E s :=
  call_meets F.slot_str_encode (typeIs_str s z t) F.entry_str_encode (F.args_str_encode_2 _ _) (encode_meets hz t u) h
theorem encode_method {M : Model} {x : Str} {t : Tok} {pl : Sem Bool} {Q : Value × List Value → Shared → Prop} (h : Q (.builtin "str.encode", [.str x t]) s) : wpAny M A (getMethod (.str x t) "encode" pl) Q E s := by
  with_reducible exact GM.of (.str x t) (typeIs_str _ _ _) F.slot_str_encode F.type_str_encode GM.noRef h
end
end
section
theorem kw1_C4 : True := by
  (k_with "+callWith ref" => ((k_here; k_dflt (refine' callWith_MKW ?k19q ?k29q ?k39q ?k49q ?k59q ?_; (case k19q => k_asm); (case k29q => k_asm); (case k39q => k_mem); (case k49q => k_is); (case k59q => exact rfl); k_whole))))
  (k_with "@k_enter" => ((refine' Con.useT (c_coerce_i _ _ _) ?k19q ?k29q ?k39q ?k49q ?k59q ?kF9q ?kK9q ?kd9q ?ku9q ?ks9q ?_; walk_at "con sides"; k_whole; intro t9 h9 tk9 F9 N9; (try dsimp only))))
  (k_with "@k_enter" => ((refine' Con.use0 (c_vid _ _ ?hz9q ?hv9q _) ?k19q ?k29q ?k39q ?k49q ?k59q ?kF9q ?kK9q ?kd9q ?ku9q ?ks9q ?_; walk_at "con sides"; (case hv9q => k_asm); (case hz9q => k_asm); k_whole; intro h9 tk9 F9 N9; (try dsimp only))))
  exact True.intro
theorem c_vkw (w : World) (a b c : Int) (t1 t2 t3 : Tok) {zp zb : List Str} {vp vb : List Value} (hp : Ids zp) (hb : Ids zb) (hvp : StrsAre vp zp) (hvb : StrsAre vb zb) (tp tb : Addr) :
    Con w 3 24 (.ref 349) [.ref 448, .int a t1, .int b t2, .int c t3, .ref tp, .ref tb, .bool false] [] [(tp, tupO vp), (tb, tupO vb)] (fun r tl => r = .none ∧ tl = []) := by
  unfold Con
  intro p loose mean mg mb dp un gd env outer A₀ base h₀ L m news s R B F N T hf hk hd hu hsub hret
  k_fill
  intro X
  have N0 := news_sub N hsub
  walk_at "con enter"
  k_steps
  all_goals ((unfold KeptEnd; dsimp only; intro hK; refine hret _ [] _ _ ?_ (keep_back N0 hK (news_sub (by k_asm) (by walk_at "con sub"))) (news_sub (by k_asm) (by walk_at "con sub"))); exact ⟨rfl, rfl⟩)
theorem kw2_C4 : True := by
  k_with_none
  (k_with "+lt room" => (first | exact lt_r0 (by assumption) (by decide) | exact lt_rc (by assumption) (by decide) | exact lt_rd (by assumption) (by decide) | exact lt_z0 (by assumption)))
  (k_with "@ktr_room" => (walk_at "lt room"))
  (k_with "@ktr_units" => (walk_at "lt room"))
  (k_with "@units_room" => (walk_at "lt room"))
  (k_with "@k_room" => (ktr_room))
  (k_with "+con binds" => (first | exact fm_nilE (by exact rfl) | exact fm_some (by exact rfl) (by walk_at "con binds")))
  (k_with "+con enter" => ((k_dflt (refine' code_keep ?k19q ?k29q ?k39q ?k49q ?k59q ?kA9q ?kF9q ?kK9q ?k69q ?k79q ?k89q ?k99q ?kB9q ?_ ?c29q ?c39q ?c49q ?c59q; (case kA9q => exact rfl); (case kF9q => assumption); (case kK9q => assumption); (case k49q => k_asm); (case k19q => k_asm); (case k29q => k_asm); (case k39q => k_asm); (case k59q => k_asm); (case k69q => k_is); (case k79q => k_is); (case k89q => ktr_room); (case k99q => (refine' binds_to ?b99q ?e99q; (case b99q => first | exact BindsTo.of_eq rfl | exact binds_K (by k_in) rfl (by k_is) rfl rfl rfl | fail "con enter: no rule for these arguments"); (case e99q => first | (walk_at "con binds") | (walk_say "con enter: binds left as they are"; exact rfl)))); (case c59q => decide); (case kB9q => exact locs rfl); (case c29q => exact rfl); (case c39q => exact rfl); (case c49q => exact rfl); k_whole; intro g' L' h' FG' F' N' B' X' T' G0'; (try dsimp only); (try k_fold)))))
  (k_with "+con sub" => (repeat (first | exact sub_nil | refine sub_cons (by k_mem) ?_)))
  (k_with "+ite" => ((k_here; k_openite; with_reducible refine ite_isFalse (bne_self_eq_false _) ?_; walk_say "PRUNED same")))
  (k_with "+con sides" => (((case k39q => k_asm); (case k29q => k_asm); (case k19q => k_asm); (case k49q => k_asm); (case k59q => k_asm); (case kF9q => first | exact rfl | assumption); (case kK9q => first | exact rfl | assumption); (case kd9q => ktr_room); (case ku9q => ktr_units); (case ks9q => walk_at "con sub"))))
  (k_with "+ne close" => (first | assumption | exact Ne.symm (by assumption) | exact Nat.ne_of_lt (by assumption) | exact Nat.ne_of_gt (by assumption) | exact Nat.ne_of_lt (Nat.lt_trans (by assumption) (by assumption)) | exact Nat.ne_of_gt (Nat.lt_trans (by assumption) (by assumption)) | (rename _ ∧ _ => hh9; obtain ⟨_, _⟩ := hh9; walk_at "ne close")))
  (k_with "@k_ne" => ((refine neN ?_; (try dsimp only); with_reducible walk_at "ne close")))
  exact True.intro
end
section
section
variable {prog : Program} {w : World} {A : Around} {K : Frag} {C L : Addr} {s : Shared} {h₀ : Heap} {m : Str → Option Value} {R : Result → Shared → Prop}
theorem make_keep {rest : List Value} {kw : List (Str × Value)} {fI : Addr} (F : Fr h₀ L s.heap m) (X₀ : K.In h₀) (hm : makesIn K C = true)
    (hi : findIn K (.ref C) "__init__" = some (some (.ref fI))) (hf : typeIn K (.ref fI) = some (.type "function"))
    (h : ∀ x dx h', Fr h₀ L h' m → News h₀ L h' [(x, instObj C dx), (dx, dictOf [] 0)] → (∀ b o, s.heap.get? b = some o → h'.get? b = some o) → (∀ b o, s.heap.get? b = some o → b ≠ x ∧ b ≠ dx) → dx < x →
      codeAny (model prog w) (A.under (.builtin "type.__call__" ⟨.ref C :: rest, kw⟩)) (.call (.ref fI) ⟨.ref x :: rest, kw⟩) (InitBack x R) { s with heap := h' }) :
    codeAny (model prog w) A (.call (.ref C) ⟨rest, kw⟩) R s := by
  obtain ⟨hh, g, d, t, os⟩ := s
  have X := X₀.keeps F.keep
  have N' := ((News.nil (h₀ := h₀) (L := L) (h := hh)).push F emptyDict).push (F.push _) (instObj C hh.objs.size)
  rw [Heap.size_push] at N'
  refine make_core (makes_of X hm) (looks_findIn X hi) (fun self => bind_fn X self hf) (.inl rfl) ?_
  refine h (hh.objs.size + 1) hh.objs.size _ ((F.push _).push _) N' (fun b o e => Heap.get?_push_of_some _ (Heap.get?_push_of_some _ e)) (fun b o e => ?_) (Nat.lt_succ_self _)
  have := Heap.lt_size e
  exact ⟨Nat.ne_of_lt (Nat.lt_succ_of_lt this), Nat.ne_of_lt this⟩
theorem make_keep0 (F : Fr h₀ L s.heap m) (X₀ : K.In h₀) (hm : makesIn K C = true) (hi : findIn K (.ref C) "__init__" = some (some (.builtin "object.__init__")))
    (h : ∀ x dx h', Fr h₀ L h' m → News h₀ L h' [(x, instObj C dx), (dx, dictOf [] 0)] → (∀ b o, s.heap.get? b = some o → h'.get? b = some o) → (∀ b o, s.heap.get? b = some o → b ≠ x ∧ b ≠ dx) → R (.ok (.ret (.ref x))) { s with heap := h' }) :
    codeAny (model prog w) A (.call (.ref C) ⟨[], []⟩) R s := by
  obtain ⟨hh, g, d, t, os⟩ := s
  have X := X₀.keeps F.keep
  have Y := makes_of (M := model prog w) X hm
  have N' := ((News.nil (h₀ := h₀) (L := L) (h := hh)).push F emptyDict).push (F.push _) (instObj C hh.objs.size)
  rw [Heap.size_push] at N'
  refine make_core Y (looks_findIn X hi) (fun self => Looks.of_pure (oi_bind self)) (.inr ⟨rfl, rfl⟩) ?_
  have t1 : Looks (model prog w) ((hh.push emptyDict).push (instObj C hh.objs.size)) (typeOf (.ref (hh.objs.size + 1))) (.ref C) := (Looks.ld (N' _ (.head _)).1).andThen .now
  have t2 : Looks (model prog w) ((hh.push emptyDict).push (instObj C hh.objs.size)) (isInstance (.ref (hh.objs.size + 1)) (.type "object")) true := t1.andThen (Y.top.keeps fun b o e => Heap.get?_push_of_some _ (Heap.get?_push_of_some _ e))
  have z := h (hh.objs.size + 1) hh.objs.size _ ((F.push _).push _) N' (fun b o e => Heap.get?_push_of_some _ (Heap.get?_push_of_some _ e)) (fun b o e => by
    have := Heap.lt_size e
    exact ⟨Nat.ne_of_lt (Nat.lt_succ_of_lt this), Nat.ne_of_lt this⟩)
  refine codeAny_call_builtin oi_plain entry_oi (@check_slot (model prog w) _ _ _ "object.__init__" "object" "__init__" (.ref (hh.objs.size + 1)) [] [] _ oi_kind oi_split t2 (oi_args (.ref (hh.objs.size + 1))) ?_)
  rw [oi_run]
  exact wpAny_pure (And.intro rfl z)
end
theorem keep_new {h h1 h' : Heap} {sub : List (Addr × Obj)} (hk1 : ∀ b o, h.get? b = some o → h1.get? b = some o) (hn : ∀ b o, h.get? b = some o → b ∉ sub.map (·.1)) (hK : KeptBut h1 sub h') : ∀ b o, h.get? b = some o → h'.get? b = some o :=
  fun b o e => hK b o (hk1 b o e) (hn b o e)
theorem notin2 {h : Heap} {x dx : Addr} {a b : Obj} (hn : ∀ b o, h.get? b = some o → b ≠ x ∧ b ≠ dx) : ∀ c o, h.get? c = some o → c ∉ ([(x, a), (dx, b)] : List (Addr × Obj)).map (·.1) := by
  intro c o e q
  simp only [List.map_cons, List.map_nil, List.mem_cons, List.not_mem_nil, or_false] at q
  rcases q with q | q
  · exact (hn c o e).1 q
  · exact (hn c o e).2 q
theorem kw1_C5 : True := by
  (k_with "+getMethod str" => ((k_here; with_reducible refine encode_method ?_)))
  (k_with "+call builtin:str.encode" => ((k_here; (refine encode_call (by k_asm) ?_))))
  exact True.intro
/-- as Con; what is made is told to be new -/
noncomputable def ConF (w : World) (D U : Nat) (f : Value) (vs : List Value) (kw : List (Str × Value)) (sub : List (Addr × Obj)) (post : Value → List (Addr × Obj) → Prop) : Prop :=
  ∀ (p : Program) (loose : List Str) (mean : ExcName → Option Value) (mg mb : Str → Option Value) (dp un : Nat) (gd : Option (List Code)) (env : Env) (outer : List Env) (A₀ : Around) (base h₀ : Heap) (L : Addr) (m : Str → Option Value)
    (news : List (Addr × Obj)) (s : Shared) (R : Result → Shared → Prop),
    Below A₀ base outer h₀ → Fr h₀ L s.heap m → News h₀ L s.heap news → Top p loose mean mg mb h₀ → env.frame = some L → env.scope.kind = .function → dp + D < recursionLimit → un + U < cLine → (∀ q ∈ sub, q ∈ news) →
    (∀ r tl h' tk', post r tl → (∀ b o, s.heap.get? b = some o → h'.get? b = some o) → (∀ q ∈ tl, s.heap.get? q.1 = none) → News h₀ L h' tl → R (.ok (.ret r)) ⟨h', s.gens, s.drawn, tk', s.os⟩) →
    (Mine.fr.heap_1 w.params).In h₀ →
    codeAny (model PySem.Challenge.rw_lh0061_01.row.prog w) (topA dp un gd env outer) (.call f ⟨vs, kw⟩) R s
section
variable {w : World} {D U : Nat} {f : Value} {vs : List Value} {kw : List (Str × Value)} {sub : List (Addr × Obj)} {post : Value → List (Addr × Obj) → Prop}
  {p : Program} {loose : List Str} {mean : ExcName → Option Value} {mg mb : Str → Option Value} {dp un : Nat} {gd : Option (List Code)} {env : Env} {outer : List Env} {A₀ : Around} {base h₀ : Heap} {L : Addr} {m : Str → Option Value}
  {news : List (Addr × Obj)} {s : Shared} {R : Result → Shared → Prop}
theorem ConF.use (C : ConF w D U f vs kw sub post)
    (B : Below A₀ base outer h₀) (F : Fr h₀ L s.heap m) (N : News h₀ L s.heap news) (T : Top p loose mean mg mb h₀) (X : (Mine.fr.heap_1 w.params).In h₀) (hf : env.frame = some L) (hk : env.scope.kind = .function) (hd : dp + D < recursionLimit) (hu : un + U < cLine) (hs : ∀ q ∈ sub, q ∈ news)
    (ret : ∀ r tl h' tk', post r tl → (∀ b o, s.heap.get? b = some o → h'.get? b = some o) → (∀ q ∈ tl, s.heap.get? q.1 = none) → Fr h₀ L h' m → News h₀ L h' (tl ++ news) → R (.ok (.ret r)) ⟨h', s.gens, s.drawn, tk', s.os⟩) :
    codeAny (model PySem.Challenge.rw_lh0061_01.row.prog w) (topA dp un gd env outer) (.call f ⟨vs, kw⟩) R s :=
  C _ _ _ _ _ _ _ _ _ _ _ _ _ _ _ _ _ _ B F N T hf hk hd hu hs (fun r tl h' tk' hp k hn N' => ret r tl h' tk' hp k hn (F.keeps k) (news_more N k N')) X
end
theorem fresh2 {h : Heap} {x dx : Addr} {a b : Obj} (hn : ∀ b o, h.get? b = some o → b ≠ x ∧ b ≠ dx) : ∀ q ∈ ([(x, a), (dx, b)] : List (Addr × Obj)), h.get? q.1 = none := by
  intro q hq
  cases e : h.get? q.1 with
  | none => rfl
  | some o =>
    have := hn _ _ e
    simp only [List.mem_cons, List.not_mem_nil, or_false] at hq
    rcases hq with rfl | rfl
    · exact absurd rfl this.1
    · exact absurd rfl this.2
/-- one identifier of a precedence key -/
inductive KeyObj (P : Params) : Str → List (Addr × Obj) → Addr → Prop
  | num {z : Str} {n : Int} {x dx : Addr} {k t : Tok} {e : Nat} (hd : Txt.isdigit z = true) (hn : PySem.intText? z = some n) : KeyObj P z [(x, instObj 180 dx), (dx, dictOf [ent P "value" k (.int n t)] e)] x
  | alpha {z : Str} {x dx : Addr} {k t : Tok} {e : Nat} (hd : Txt.isdigit z = false) : KeyObj P z [(x, instObj 243 dx), (dx, dictOf [ent P "value" k (.bytes (octets z) t)] e)] x
theorem word_int {z : Str} (hz : z ∈ Words) (hd : Txt.isdigit z = true) : ∃ n, PySem.intText? z = some n := by
  revert z
  have : ∀ z ∈ Words, Txt.isdigit z = true → (PySem.intText? z).isSome = true := by decide +kernel
  exact fun {z} h1 h2 => Option.isSome_iff_exists.mp (this z h1 h2)
theorem c_num (w : World) {z : Str} (t : Tok) (hdg : Txt.isdigit z = true) (hz : z ∈ Words) :
    ConF w 2 16 (.ref 180) [.str z t] [] [] (fun r tl => ∃ x, r = .ref x ∧ KeyObj w.params z tl x) := by
  obtain ⟨x1, x2, x3, x4⟩ := word_facts hz
  obtain ⟨n, hn⟩ := word_int hz hdg
  unfold ConF
  intro p loose mean mg mb dp un gd env outer A₀ base h₀ L m news s R B F N T hf hk hd hu hsub hret
  k_fill
  intro X
  refine make_keep (fI := 135) F X (by k_is) (by k_is) (by k_is) fun x dx h1 F1 N0 hk1 hne1 hlt => ?_
  k_lt2 hlt
  walk_at "con enter"
  k_steps
  all_goals ((unfold KeptEnd; dsimp only [InitBack]; intro hK; refine ⟨rfl, ?_⟩; refine hret _ [_, _] _ _ ?_ (keep_new hk1 (notin2 hne1) hK) (fresh2 hne1) (by k_asm)); exact ⟨_, rfl, .num hdg hn⟩)
theorem c_alpha (w : World) {z : Str} (t : Tok) (hd : Txt.isdigit z = false) (hz : z ∈ Words) :
    ConF w 2 16 (.ref 243) [.str z t] [] [] (fun r tl => ∃ x, r = .ref x ∧ KeyObj w.params z tl x) := by
  obtain ⟨x1, x2, x3, x4⟩ := word_facts hz
  unfold ConF
  intro p loose mean mg mb dp un gd env outer A₀ base h₀ L m news s R B F N T hf hk hd' hu hsub hret
  k_fill
  intro X
  refine make_keep (fI := 198) F X (by k_is) (by k_is) (by k_is) fun x dx h1 F1 N0 hk1 hne1 hlt => ?_
  k_lt2 hlt
  walk_at "con enter"
  k_steps
  all_goals ((unfold KeptEnd; dsimp only [InitBack]; intro hK; refine ⟨rfl, ?_⟩; refine hret _ [_, _] _ _ ?_ (keep_new hk1 (notin2 hne1) hK) (fresh2 hne1) (by k_asm)); exact ⟨_, rfl, .alpha hd⟩)
theorem c_max (w : World) : ConF w 2 16 (.ref 117) [] [] [] (fun r tl => ∃ x dx, r = .ref x ∧ tl = [(x, instObj 117 dx), (dx, dictOf [] 0)]) := by
  unfold ConF
  intro p loose mean mg mb dp un gd env outer A₀ base h₀ L m news s R B F N T hf hk hd' hu hsub hret
  k_fill
  intro X
  refine make_keep0 F X (by k_is) (by k_is) fun x dx h1 F1 N0 hk1 hne1 => ?_
  exact hret _ _ _ _ ⟨_, _, rfl, rfl⟩ hk1 (fresh2 hne1) N0
theorem kw2_C5 : True := by
  k_with_none
  (k_with "+lt room" => (first | exact lt_r0 (by assumption) (by decide) | exact lt_rc (by assumption) (by decide) | exact lt_rd (by assumption) (by decide) | exact lt_z0 (by assumption)))
  (k_with "@ktr_room" => (walk_at "lt room"))
  (k_with "@ktr_units" => (walk_at "lt room"))
  (k_with "@units_room" => (walk_at "lt room"))
  (k_with "@k_room" => (ktr_room))
  (k_with "+con binds" => (first | exact fm_nilE (by exact rfl) | exact fm_some (by exact rfl) (by walk_at "con binds")))
  (k_with "+con enter" => ((k_dflt (refine' code_keep ?k19q ?k29q ?k39q ?k49q ?k59q ?kA9q ?kF9q ?kK9q ?k69q ?k79q ?k89q ?k99q ?kB9q ?_ ?c29q ?c39q ?c49q ?c59q; (case kA9q => exact rfl); (case kF9q => assumption); (case kK9q => assumption); (case k49q => k_asm); (case k19q => k_asm); (case k29q => k_asm); (case k39q => k_asm); (case k59q => k_asm); (case k69q => k_is); (case k79q => k_is); (case k89q => ktr_room); (case k99q => (refine' binds_to ?b99q ?e99q; (case b99q => first | exact BindsTo.of_eq rfl | exact binds_K (by k_in) rfl (by k_is) rfl rfl rfl | fail "con enter: no rule for these arguments"); (case e99q => first | (walk_at "con binds") | (walk_say "con enter: binds left as they are"; exact rfl)))); (case c59q => decide); (case kB9q => exact locs rfl); (case c29q => exact rfl); (case c39q => exact rfl); (case c49q => exact rfl); k_whole; intro g' L' h' FG' F' N' B' X' T' G0'; (try dsimp only); (try k_fold)))))
  (k_with "+con sub" => (repeat (first | exact sub_nil | refine sub_cons (by k_mem) ?_)))
  (k_with "+ite" => ((k_here; k_openite; with_reducible refine ite_isFalse (bne_self_eq_false _) ?_; walk_say "PRUNED same")))
  (k_with "+con sides" => (((case k39q => k_asm); (case k29q => k_asm); (case k19q => k_asm); (case k49q => k_asm); (case k59q => k_asm); (case kF9q => first | exact rfl | assumption); (case kK9q => first | exact rfl | assumption); (case kd9q => ktr_room); (case ku9q => ktr_units); (case ks9q => walk_at "con sub"))))
  (k_with "+ne close" => (first | assumption | exact Ne.symm (by assumption) | exact Nat.ne_of_lt (by assumption) | exact Nat.ne_of_gt (by assumption) | exact Nat.ne_of_lt (Nat.lt_trans (by assumption) (by assumption)) | exact Nat.ne_of_gt (Nat.lt_trans (by assumption) (by assumption)) | (rename _ ∧ _ => hh9; obtain ⟨_, _⟩ := hh9; walk_at "ne close")))
  (k_with "@k_ne" => ((refine neN ?_; (try dsimp only); with_reducible walk_at "ne close")))
  exact True.intro
end
section
/- what a generator hands out, one after the other, with what stands behind each -/
structure YieldsL (prog : Program) (w : World) (A : Around) (I S : Addr) (n : Nat) (St : List Value → Shared → Prop) (Fin : List Value → Shared → Prop) : Prop where
  typ : ∀ acc s, St acc s → s.TypeIs (.ref I) "generator"
  frame : ∀ acc (s : Shared) h' tk, St acc s → (∀ b o, b ≠ S → s.heap.get? b = some o → h'.get? b = some o) → St acc { s with heap := h', toks := tk }
  finFrame : ∀ acc (s : Shared) h' tk, Fin acc s → (∀ b o, s.heap.get? b = some o → h'.get? b = some o) → Fin acc { s with heap := h', toks := tk }
  item : ∀ acc (s : Shared) (Q : Option Value → Shared → Prop) (E : Value → Shared → Prop), acc.length < n → St acc s → (∃ o, s.heap.get? S = some o ∧ o.cls = .type "list") →
    (∀ v s', St (acc ++ [v]) s' → (∀ o, s.heap.get? S = some o → s'.heap.get? S = some o) → Q (some v) s') → wpAny (model prog w) A (pyNext (.ref I)) Q E s
  done : ∀ acc (s : Shared) (Q : Option Value → Shared → Prop) (E : Value → Shared → Prop), acc.length = n → St acc s →
    (∀ s', Fin acc s' → (∀ o, s.heap.get? S = some o → s'.heap.get? S = some o) → Q none s') → wpAny (model prog w) A (pyNext (.ref I)) Q E s
  self : ∀ acc (s : Shared) (Q : Value → Shared → Prop) (E : Value → Shared → Prop), St acc s → Q (.ref I) s → wpAny (model prog w) A (pyIter (.ref I)) Q E s
theorem YieldsL.of_in1 {prog : Program} {w : World} {A : Around} {I S : Addr} {n : Nat} {St Fin : List Value → Shared → Prop} (W : YieldsL prog w A.in1 I S n St Fin) : YieldsL prog w A I S n St Fin where
  typ := W.typ
  frame := W.frame
  finFrame := W.finFrame
  item := fun acc s Q E hi st ho hQ => wpAny_of_in1 (W.item acc s Q E hi st ho hQ)
  done := fun acc s Q E hi st hQ => wpAny_of_in1 (W.done acc s Q E hi st hQ)
  self := fun acc s Q E st hQ => wpAny_of_in1 (W.self acc s Q E st hQ)
section
variable {prog : Program} {w : World} {A : Around} {R : Result → Shared → Prop} {I S : Addr} {n : Nat} {St Fin : List Value → Shared → Prop}
theorem extend_loopL (W : YieldsL prog w A.in1 I S n St Fin) (hn : n ≤ sizeLine) (res : Value) :
    ∀ (k : Nat) (acc : List Value) (s : Shared) (c : Nat), n - acc.length = k → acc.length ≤ n → St acc s → s.heap.get? S = some { cls := .type "list", dict := none, data := .seq acc.toArray c, slots := #[] } →
    (∀ s' acc' c', Fin acc' s' → s'.heap.get? S = some { cls := .type "list", dict := none, data := .seq acc'.toArray c', slots := #[] } → acc'.length = n → R (.ok (.ret res)) s') →
    codeAny (model prog w) A (.builtin "list.extend.loop" ⟨[.ref S, .ref I, res], []⟩) R s := by
  intro k
  induction k with
  | zero =>
    intro acc s c hk hi hst hS hR
    have hin : acc.length = n := nb_eq (by assumption) (by assumption)
    refine codeAny_builtin PySem.F.entry_extend_loop ?_
    rw [Around.under_plainId PySem.F.plain_extend_loop _]
    show wpAny _ A.in1 (pyNext (.ref I) >>= _) _ _ s
    exact wpAny_bind (W.done acc s _ _ hin hst fun s' hf hk => wpAny_pure (hR s' acc c hf (hk _ hS) hin))
  | succ k ih =>
    intro acc s c hk hi hst hS hR
    have hlt : acc.length < n := nb_lt (by assumption)
    refine codeAny_builtin PySem.F.entry_extend_loop ?_
    rw [Around.under_plainId PySem.F.plain_extend_loop _]
    show wpAny _ A.in1 (pyNext (.ref I) >>= _) _ _ s
    refine wpAny_bind (W.item acc s _ _ hlt hst ⟨_, hS, rfl⟩ fun v s' hst' hk => ?_)
    have hS' := hk _ hS
    show wpAny _ A.in1 (updateSeq S (·.push v) >>= _) _ _ _
    refine wpAny_bind ?_
    refine wpAny_updateSeq hS' rfl (wpAny_pure ⟨plainId_quiet PySem.F.plain_extend_loop _, ih (acc ++ [v]) _ (c + 1) (by rw [List.length_append, List.length_singleton]; omega) (by rw [List.length_append, List.length_singleton]; omega)
      (W.frame _ s' _ s'.toks hst' fun b o hb e => (Heap.get?_update_other _ _ (Ne.symm hb)).trans e) ?_ hR⟩)
      (by rw [List.size_toArray]; omega) (by show (acc.toArray.push v).size ≤ sizeLine + 1; rw [Array.size_push, List.size_toArray]; omega)
    have q := Heap.get?_update_self (Obj.mapSeq (·.push v)) hS' rfl
    rw [q]
    simp [Obj.mapSeq]
end
section
variable {prog : Program} {w : World} {A : Around} {E : Value → Shared → Prop} {s : Shared} {I : Addr} {n : Nat} {St Fin : List Value → Shared → Prop}
theorem collectL {Q : List Value → Shared → Prop} (W : YieldsL prog w A.in1 I s.heap.objs.size n St Fin) (hst : St [] s) (hI : I < s.heap.objs.size)
    (hQ : ∀ s' acc, Fin acc s' → acc.length = n → Q acc s') (hn : n ≤ sizeLine) : wpAny (model prog w) A (collect (.ref I)) Q E s := by
  have hSI : s.heap.objs.size ≠ I := Ne.symm (Nat.ne_of_lt hI)
  unfold collect
  refine wpAny_bind (wpAny_runValue (codeAny_builtin PySem.F.entry_proto_collect ?_))
  rw [Around.under_plainId PySem.F.plain_proto_collect _]
  show wpAny _ A.in1 (newList [] >>= fun l => again (.builtin "list.__iadd__" ⟨[l, .ref I], []⟩)) _ _ s
  refine wpAny_bind (wpAny_newObj_type ?_)
  refine wpAny_pure ⟨plainId_quiet PySem.F.plain_list_iadd _, codeAny_builtin PySem.F.entry_list_iadd ?_⟩
  rw [Around.under_plainId PySem.F.plain_list_iadd _]
  have hst₁ := W.frame [] s (s.heap.push { cls := .type "list", data := .seq ([] : List Value).toArray }) s.toks hst fun b o _ e => Heap.get?_push_of_some _ e
  show wpAny _ A.in1 (Builtin.List.listExtendWith (.ref s.heap.objs.size) (.ref I) (.ref s.heap.objs.size)) _ _ _
  unfold Builtin.List.listExtendWith
  refine wpAny_bind (wpAny_typeOf (W.typ _ _ hst₁) ?_)
  have h1 : Builtin.List.listSameRef (.ref s.heap.objs.size) (.ref I) = false := by simp [Builtin.List.listSameRef, hSI]
  have h2 : (Value.type "generator" == Value.type "list") = false := by decide
  have h3 : (Value.type "generator" == Value.type "tuple") = false := by decide
  simp only [h1, h2, h3, Bool.or_false, Bool.false_eq_true, if_false]
  refine wpAny_bind (W.self _ _ _ _ hst₁ ?_)
  refine wpAny_bind (wpAny_holding ?_)
  unfold Builtin.List.listLengthHint
  refine wpAny_bind (wpAny_specialOf (W.typ _ _ hst₁) PySem.F.gen_no_len ?_)
  show wpAny _ A.in1 (specialOf (Value.ref I) (Str.ofString "__length_hint__") >>= _) _ _ _
  refine wpAny_bind (wpAny_specialOf (W.typ _ _ hst₁) PySem.F.gen_no_hint ?_)
  refine wpAny_pure ?_
  show wpAny _ A.in1 (rule "list.extend.makes-room" >>= fun _ => Builtin.List.listTouch (.ref s.heap.objs.size) >>= fun _ =>
    again (.builtin "list.extend.loop" ⟨[.ref s.heap.objs.size, .ref I, .ref s.heap.objs.size], []⟩)) _ _ _
  refine wpAny_bind (wpAny_rule ?_)
  have hS₁ : (s.heap.push { cls := .type "list", data := .seq ([] : List Value).toArray }).get? s.heap.objs.size = some { cls := .type "list", data := .seq ([] : List Value).toArray } := Heap.get?_push_size _ rfl
  refine wpAny_bind ?_
  show wpAny _ A.in1 (updateSeq s.heap.objs.size (·.push .none) >>= fun _ => updateSeq s.heap.objs.size (·.pop)) _ _ _
  refine wpAny_bind (wpAny_updateSeq hS₁ rfl ?_)
  have hS₂ := Heap.get?_update_self (Obj.mapSeq (·.push Value.none)) hS₁ rfl
  refine wpAny_updateSeq hS₂ rfl ?_
  have hS₃ := Heap.get?_update_self (Obj.mapSeq (·.pop)) hS₂ rfl
  refine wpAny_pure ⟨plainId_quiet PySem.F.plain_extend_loop _, extend_loopL W hn _ n [] _ _ rfl (Nat.zero_le _)
    (W.frame [] ({ s with heap := s.heap.push { cls := .type "list", data := .seq ([] : List Value).toArray } } : Shared) _ s.toks hst₁ fun b o hb e => (Heap.get?_update_other _ _ (Ne.symm hb)).trans ((Heap.get?_update_other _ _ (Ne.symm hb)).trans e)) hS₃ fun s' acc' c' hf hS' hacc => ?_⟩
  show wpAny _ A (load s.heap.objs.size >>= _) _ _ s'
  exact wpAny_bind (wpAny_load hS' (wpAny_pure (by simpa using hQ s' acc' hf hacc)))
theorem tuple_new_body {M : Model} {v : Value} {P : List Value → Shared → Prop} {R : PySem.Fin → Shared → Prop} (hx : ∀ Q : Bool → Shared → Prop, Q false s → wpAny M A (Builtin.Tuple.tupleIsExact v) Q E s)
    (hc : ∀ Q : List Value → Shared → Prop, (∀ xs s', P xs s' → Q xs s') → wpAny M A (collect v) Q E s) (h : ∀ xs s', P xs s' → wpAny M A (Builtin.Tuple.tupleExact xs.toArray >>= fun v => ret v) R E s') : wpAny M A (Builtin.«tuple.__new__» ⟨[.type "tuple", v], []⟩) R E s := by
  have hsub := sub_tuple_self
  have hinit := init_tuple_lookup
  have hmh := madeHere_tuple
  repeat (first
    | with_reducible apply hx
    | with_reducible apply hc
    | with_reducible (first | refine wpAny_pure ?_ | refine wpAny_bind ?_ | refine wpAny_rule ?_ | refine wpAny_of_eq (by assumption) ?_)
    | wp_delta
    | ((with_reducible apply wpAny_ite_false); focus (rfl; done))
    | ((with_reducible apply wpAny_ite_true); focus (rfl; done))
    | wp_step)
  intro xs s' hP
  exact wpAny_bind (wpAny_pure (h xs s' hP))
theorem tuple_newL {Q₁ : Value → Shared → Prop} (W : YieldsL prog w A.in1.in1 I s.heap.objs.size n St Fin) (hst : St [] s) (hI : I < s.heap.objs.size)
    (h : ∀ s' acc, Fin acc s' → acc.length = n → Q₁ (.ref s'.heap.objs.size) { s' with heap := s'.heap.push (tupO acc) }) (hsz : n ≤ sizeLine) :
    codeAny (model prog w) A (.call (.builtin "tuple.__new__") ⟨[.type "tuple", .ref I], []⟩) (wants Q₁ E) s := by
  refine codeAny_of_tree ?_
  show wpAny _ A.in1 (do checkBuiltinCall "tuple.__new__" ⟨[.type "tuple", .ref I], []⟩; again (.builtin "tuple.__new__" ⟨[.type "tuple", .ref I], []⟩)) _ _ s
  refine wpAny_bind (wpAny_of_eq (PySem.F.newCall_tuple_1 _) (wpAny_pure ⟨plainId_quiet PySem.F.plain_tuple_new _, codeAny_builtin PySem.F.entry_tuple_new ?_⟩))
  rw [Around.under_plainId PySem.F.plain_tuple_new _]
  have hTI := W.typ _ _ hst
  refine tuple_new_body (P := fun acc s' => Fin acc s' ∧ acc.length = n) (fun Q hQ => wpAny_bind (wpAny_typeOf hTI (wpAny_pure hQ))) (fun Q hQ => collectL (hn := hsz) W hst hI fun s' acc hf ha => hQ acc s' ⟨hf, ha⟩) ?_
  intro acc s' ⟨hf, hacc⟩
  show wpAny _ _ (Builtin.Tuple.tupleExact acc.toArray >>= fun v => ret v) _ _ _
  unfold Builtin.Tuple.tupleExact
  refine wpAny_bind (wpAny_newObj_type ?_ (by show acc.toArray.size ≤ sizeLine; rw [List.size_toArray, hacc]; exact hsz))
  exact wpAny_pure (h s' acc hf hacc)
theorem call_tupleL {Q : Value → Shared → Prop} (W : YieldsL prog w A.in1.in1.in1 I s.heap.objs.size n St Fin) (hst : St [] s) (hI : I < s.heap.objs.size)
    (hQ : ∀ s' acc, Fin acc s' → acc.length = n → Q (.ref s'.heap.objs.size) { s' with heap := s'.heap.push (tupO acc) }) (hsz : n ≤ sizeLine) :
    wpAny (model prog w) A (call (.type "tuple") [.ref I]) Q E s := by
  refine callType_codes (Q₁ := fun obj s₁ => s₁.TypeIs obj "tuple" ∧ Q obj s₁) PySem.F.called_tuple (PySem.F.typeCall_tuple_1 _) PySem.F.entry_object_init
    (tuple_newL (hsz := hsz) W hst hI fun s' acc hf hacc => ⟨⟨_, Heap.get?_push_size _ rfl, rfl⟩, hQ s' acc hf hacc⟩) fun obj s₁ h₁ => ?_
  exact ⟨h₁.1, PySem.F.args_object_init_2 obj _, object_init_meets PySem.F.called_tuple.init.lookup PySem.F.called_tuple.made (by decide) prog w A.in1 _ s₁ ⟨h₁.1, rfl, h₁.2⟩⟩
end
end
section
section
variable {M : Model} {A : Around} {E : Value → Shared → Prop} {s : Shared} {K : Frag} {h₀ : Heap} {C : Addr} {m mg mb : Str → Option Value} {cl : List (Str × Addr)} {code : Value} {bi : Addr} {env0 : Env} {p : Program} {loose : List Str} {mean : ExcName → Option Value} {gsc : Scope} {x : Str} {pos : Pos} {v : Value} {Q : Value → Shared → Prop}
theorem gname_L (F : Fr h₀ C s.heap m) (hk : gsc.kind = .function) (hv : m x = some v) (hx : (genEnv gsc cl C code bi env0).kindOf x = some .local) (hd : (x == ("__debug__" : Str)) = false) (h : Q v s) :
    wpAny M A (eval (.Name x pos) (genEnv gsc cl C code bi env0)) Q E s := wpAny_Name (wpAny_loadName_local hk hx F.ns hv h) hd
theorem gname_K (F : Fr h₀ C s.heap m) (hk : gsc.kind = .function) (X : K.In h₀) (T : Top p loose mean mg mb h₀) (hg0 : env0.globals = mainGlobals) (e : nsIn K mainGlobals x = some (some v)) (hx : (genEnv gsc cl C code bi env0).kindOf x = some .globalImplicit) (hd : (x == ("__debug__" : Str)) = false) (h : Q v s) :
    wpAny M A (eval (.Name x pos) (genEnv gsc cl C code bi env0)) Q E s :=
  PySem.Calls.Name_function_global hk hx (PySem.Calls.loadGlobal_global (env := genEnv gsc cl C code bi env0) (by show s.heap.Ns env0.globals mg; rw [hg0]; exact T.g.keeps F.keep) (mg_of X T.g e) h) hd
end
end
section
/- the keys that a run of identifiers makes -/
inductive KeysOk (P : Params) : List Str → List Value → List (Addr × Obj) → Prop
  | nil : KeysOk P [] [] []
  | snoc {zs : List Str} {acc : List Value} {led tl : List (Addr × Obj)} {z : Str} {x : Addr} (h : KeysOk P zs acc led) (k : KeyObj P z tl x) : KeysOk P (zs ++ [z]) (acc ++ [.ref x]) (tl ++ led)
/-- what a generator's element owes -/
noncomputable def HEl (w : World) (cenv : Env) (fr : List Env) (hg : Heap) (C : Addr) (elt : PySem.Expr) : Prop :=
  ∀ (dp un : Nat) (gd : Option (List Code)) (s : Shared) (m : Str → Option Value) (z : Str) (t : Tok) (Q E : Value → Shared → Prop), dp + 3 < recursionLimit → un + 24 < cLine → z ∈ Words → Fr hg C s.heap m → m (Str.ofString "part") = some (.str z t) →
    (∀ x tl h' tk', KeyObj w.params z tl x → (∀ b o, s.heap.get? b = some o → h'.get? b = some o) → (∀ q ∈ tl, h'.get? q.1 = some q.2 ∧ s.heap.get? q.1 = none) → Q (.ref x) ⟨h', s.gens, s.drawn, tk', s.os⟩) →
    wpAny (model PySem.Challenge.rw_lh0061_01.row.prog w) (topA dp un gd cenv fr) (eval elt cenv) Q E s
noncomputable def kR (C I : Addr) : GenEnd := fun n s₀ r s₁ => r = .ok .next ∧ (n = 0 ∧ GenSince C [I] s₀ s₁)
noncomputable def kY (P : Params) (zs : List Str) (C I S : Addr) : Protocol := fun m s₀ v s kap =>
  (∃ z tl x, zs[zs.length - 1 - m]? = some z ∧ v = .ref x ∧ KeyObj P z tl x ∧ (∀ q ∈ tl, s.heap.get? q.1 = some q.2 ∧ ∀ o, q.1 ≠ C → q.1 ≠ I → s₀.heap.get? q.1 ≠ some o) ∧ (∀ q ∈ tl, q.1 ≠ C ∧ q.1 ≠ I)) ∧ GenSince C [I] s₀ s ∧
    ∀ s'' : Shared, (∀ b o, b ≠ S → s.heap.get? b = some o → s''.heap.get? b = some o) → kap (.send .none) s''
section
variable {w : World} {dp un : Nat} {gd : Option (List Code)} {env : Env} {outer : List Env} {zs : List Str} {vals : List Value} {C I S tp : Addr} {hg : Heap} {cenv : Env} {elt iter : PySem.Expr} {scope : Scope} {px pos : Pos}
theorem keys_loop (hC : cenv.locals = C) (hkl : cenv.kindOf (Str.ofString "part") = some .local) (hp : (cenv.scope.kind == .class || (cenv.scope.kind == .module && cenv.locals != cenv.globals)) = false) (hco : cenv.scope.isCoroutine = false)
    (hv : StrsAre vals zs) (hw : ∀ z ∈ zs, z ∈ Words) (hIC : I ≠ C) (htC : tp ≠ C) (htI : tp ≠ I) (hgI : hg.get? I = none) (hCS : C ≠ S) (hIS : I ≠ S) (htS : tp ≠ S) (hgS : hg.get? S = none) (hel : HEl w cenv (env :: outer) hg C elt) (hd : dp + 4 < recursionLimit) (hu : un + 30 < cLine) :
    ∀ (k i : Nat) (s₀ s : Shared) (m : Str → Option Value), zs.length - i = k → i ≤ zs.length → (s.heap.IsTupleIter I tp i ∧ s.heap.IsTuple tp vals.toArray) → Fr hg C s.heap m → GenSince C [I] s₀ s →
      Seg (model PySem.Challenge.rw_lh0061_01.row.prog w) (topA dp un gd env outer) (kR C I) (kY w.params zs C I S) (zs.length - i) s₀
        (.compLoop (.GeneratorExp elt [⟨.Name (Str.ofString "part") px, iter, [], 0⟩] scope pos) 0 (.ref I) .none cenv)
        ((model PySem.Challenge.rw_lh0061_01.row.prog w).den (.compLoop (.GeneratorExp elt [⟨.Name (Str.ofString "part") px, iter, [], 0⟩] scope pos) 0 (.ref I) .none cenv)) [] s := by
  subst hC
  have hlen : vals.toArray.size = zs.length := by rw [List.size_toArray, StrsAre.length hv]
  intro k
  induction k with
  | zero =>
    intro i s₀ s m hk hi hst F hsince
    have hin : i = zs.length := nb_eq hk hi
    subst hin
    rw [Nat.sub_self]
    have W := Walks.tuple (prog := PySem.Challenge.rw_lh0061_01.row.prog) (w := w) (A := (topA dp un gd env outer).over (.compLoop (.GeneratorExp elt [⟨.Name (Str.ofString "part") px, iter, [], 0⟩] scope pos) 0 (.ref I) .none cenv) []) rfl I tp htI vals.toArray
    rw [hlen] at W
    show Seg _ _ _ _ _ s₀ _ ((compTurn (.GeneratorExp elt [⟨.Name (Str.ofString "part") px, iter, [], 0⟩] scope pos) 0 (.ref I) .none cenv).onRaise (leaving cenv)) [] s
    rw [compTurn_gen, Sem.onRaise_eq_wrap]
    refine seg_bind_wrap (wpAny_standAt ?_)
    refine seg_bind_wrap (W.done s _ _ hst fun h' tk hk' => ?_)
    exact seg_end (.ok .next) ⟨rfl, rfl, hsince.step fun b o _ hw e => hk' b o hw e⟩
  | succ k ih =>
    intro i s₀ s m hk hi hst F hsince
    have hlt : i < zs.length := nb_lt hk
    have W := Walks.tuple (prog := PySem.Challenge.rw_lh0061_01.row.prog) (w := w) (A := (topA dp un gd env outer).over (.compLoop (.GeneratorExp elt [⟨.Name (Str.ofString "part") px, iter, [], 0⟩] scope pos) 0 (.ref I) .none cenv) []) rfl I tp htI vals.toArray
    rw [hlen] at W
    show Seg _ _ _ _ _ s₀ _ ((compTurn (.GeneratorExp elt [⟨.Name (Str.ofString "part") px, iter, [], 0⟩] scope pos) 0 (.ref I) .none cenv).onRaise (leaving cenv)) [] s
    rw [compTurn_gen, Sem.onRaise_eq_wrap]
    refine seg_bind_wrap (wpAny_standAt ?_)
    refine seg_bind_wrap (W.item i s _ _ hlt hst fun v h₁ tk₁ hPv hst₁ hk₁ => ?_)
    refine seg_bind_wrap (wpAny_of_eq (rfl : letOwnedTupleGo (.Name (Str.ofString "part") px) (.ref I) v = pure ()) ?_)
    have hCw : cenv.locals ∉ [I] := by simp [Ne.symm hIC]
    refine seg_bind_wrap (wpAny_assign_Name (wpAny_storeName_local hkl (F.ns.at' fun o e => hk₁ _ o hCw e) (fun h₂ hn₂ hs₂ => ?_) hp))
    have up₂ : ∀ b o, b ≠ cenv.locals → b ∉ [I] → s.heap.get? b = some o → h₂.get? b = some o := fun b o hbC hbw e => hs₂.extBut b o hbC (hk₁ b o hbw e)
    have hst₂ : h₂.IsTupleIter I tp (i + 1) ∧ h₂.IsTuple tp vals.toArray := W.frame _ _ _ hst₁ fun b hb o e => hs₂.extBut b o (fun h => by
      simp only [List.mem_cons, List.not_mem_nil, or_false] at hb
      rcases hb with rfl | rfl
      · exact hIC h
      · exact htC h) e
    have F₂ : Fr hg cenv.locals h₂ (fun x => if x = Str.ofString "part" then some v else m x) := ⟨hn₂, fun b o e => up₂ b o (fun q => by
        have l := Heap.lt_size e
        rw [q] at l
        exact absurd (Nat.lt_of_lt_of_le l F.above) (Nat.lt_irrefl _)) (by
        simp only [List.mem_cons, List.not_mem_nil, or_false]
        intro q
        rw [q, hgI] at e; cases e) (F.keep b o e), F.above⟩
    have hsince₂ : ∀ tk, GenSince cenv.locals [I] s₀ { s with heap := h₂, toks := tk } := fun tk => hsince.step fun b o hbC hbw e => up₂ b o hbC hbw e
    refine seg_bind_wrap (wpAny_of_eq (a := true) (by simp only [List.forIn_nil]) ?_)
    simp only [if_true]
    have hy : ∀ v, yieldOut cenv v = yieldValue v := fun v => by simp only [yieldOut, hco, Bool.false_eq_true, if_false]
    simp only [hy]
    obtain ⟨z, t, rfl, hzi⟩ := StrsAre.item hv i v (by simpa using hPv)
    have hzW : z ∈ Words := hw z (List.mem_of_getElem? hzi)
    rw [nb_succ hlt]
    rw [Sem.bind_eq_wrap', Sem.bind_eq_wrap', Sem.wrap_wrap, Sem.wrap_wrap]
    refine seg_wrap ?_
    refine hel (dp + 1) (un + 3) _ _ _ z t _ _ (lt_rc hd (by decide)) (lt_rc hu (by decide)) hzW F₂ (by simp) fun x tl h₄ tk₄ ko k₄ n₄ => ?_
    refine seg_at (seg_yield rfl rfl rfl ⟨⟨z, tl, x, ?_, rfl, ko, fun q hq => ⟨(n₄ q hq).1, fun o h1 h2 e => ?_⟩, fun q hq => ⟨fun e => ?_, fun e => ?_⟩⟩, (hsince₂ 0).step fun b o _ _ e => k₄ b o e, fun s'' hal => ?_⟩)
    · rw [nb_back hlt]; exact hzi
    · obtain ⟨h', tk', e2, hk2⟩ := hsince₂ 0
      have e3 : h₂ = h' := congrArg Shared.heap e2
      have := hk2 _ _ h1 (by simpa using h2) e
      rw [← e3, (n₄ q hq).2] at this
      cases this
    · obtain ⟨oL, _, _, hoL, _⟩ := F₂.ns
      have := (n₄ q hq).2
      rw [e, hoL] at this
      cases this
    · obtain ⟨oi, hoi, _⟩ := hst₂.1
      have := (n₄ q hq).2
      rw [e, hoi] at this
      cases this
    · have up₅ : ∀ b o, b ≠ S → h₂.get? b = some o → s''.heap.get? b = some o := fun b o hb e => hal b o hb (k₄ b o e)
      have F₅ : Fr hg cenv.locals s''.heap (fun x => if x = Str.ofString "part" then some (.str z t) else m x) := ⟨F₂.ns.at' fun o e => up₅ _ o hCS e, fun b o e => up₅ b o (fun q => by rw [q, hgS] at e; cases e) (F₂.keep b o e), F₂.above⟩
      refine seg_again rfl (ih (i + 1) s'' s'' _ (nb_step hk) hlt (W.frame _ _ _ hst₂ fun b hb o e => up₅ b o (fun q => by
        simp only [List.mem_cons, List.not_mem_nil, or_false] at hb
        rcases hb with rfl | rfl
        · exact hIS q
        · exact htS q) e) F₅ (GenSince.refl _ _ _))
theorem keys_start (hC : cenv.locals = C) (hkl : cenv.kindOf (Str.ofString "part") = some .local) (hp : (cenv.scope.kind == .class || (cenv.scope.kind == .module && cenv.locals != cenv.globals)) = false) (hco : cenv.scope.isCoroutine = false)
    (hv : StrsAre vals zs) (hw : ∀ z ∈ zs, z ∈ Words) (hIC : I ≠ C) (htC : tp ≠ C) (htI : tp ≠ I) (hgI : hg.get? I = none) (hCS : C ≠ S) (hIS : I ≠ S) (htS : tp ≠ S) (hgS : hg.get? S = none) (hel : HEl w cenv (env :: outer) hg C elt) (hd : dp + 4 < recursionLimit) (hu : un + 30 < cLine)
    (s : Shared) (m : Str → Option Value) (hst : s.heap.IsTupleIter I tp 0 ∧ s.heap.IsTuple tp vals.toArray) (F : Fr hg C s.heap m) :
      Seg (model PySem.Challenge.rw_lh0061_01.row.prog w) (topA dp un gd env outer) (kR C I) (kY w.params zs C I S) zs.length s
        (.compStart (.GeneratorExp elt [⟨.Name (Str.ofString "part") px, iter, [], 0⟩] scope pos) 0 (.ref I) .none cenv)
        ((model PySem.Challenge.rw_lh0061_01.row.prog w).den (.compStart (.GeneratorExp elt [⟨.Name (Str.ofString "part") px, iter, [], 0⟩] scope pos) 0 (.ref I) .none cenv)) [] s := by
  have loop := keys_loop (px := px) (iter := iter) (scope := scope) (pos := pos) (gd := gd) hC hkl hp hco hv hw hIC htC htI hgI hCS hIS htS hgS hel hd hu zs.length 0 s s m (Nat.sub_zero _) (Nat.zero_le _) hst F (GenSince.refl _ _ _)
  rw [Nat.sub_zero] at loop
  show Seg _ _ _ _ _ s _ ((compStart (.GeneratorExp elt [⟨.Name (Str.ofString "part") px, iter, [], 0⟩] scope pos) 0 (.ref I) .none cenv).onRaise (leaving cenv)) [] s
  unfold compStart
  rw [Sem.onRaise_eq_wrap]
  show Seg _ _ _ _ _ s _ ((ask >>= _).wrap _ _ _ _) [] s
  refine seg_bind_wrap (wpAny_askSetting ?_)
  split
  · exact seg_again rfl loop
  · have W := Walks.tuple (prog := PySem.Challenge.rw_lh0061_01.row.prog) (w := w) (A := (topA dp un gd env outer).over (.compStart (.GeneratorExp elt [⟨.Name (Str.ofString "part") px, iter, [], 0⟩] scope pos) 0 (.ref I) .none cenv) []) rfl I tp htI vals.toArray
    first
      | exact seg_bind_wrap (wpAny_rule (seg_bind_wrap (wpAny_standAt (seg_bind_wrap (W.self 0 s _ _ hst (seg_again rfl loop))))))
      | (refine seg_bind_wrap (wpAny_rule ?_); show Seg _ _ _ _ _ s _ ((standAt iter.pos >>= _).wrap _ _ _ _) [] s; exact seg_bind_wrap (wpAny_standAt (seg_bind_wrap (W.self 0 s _ _ hst (seg_again rfl loop)))))
end
end
section
structure KSt (w : World) (dp un : Nat) (gd : Option (List Code)) (env : Env) (outer : List Env) (zs : List Str) (C I S a : Addr) (gi : Nat) (href : Heap) (g0 : Array GenState) (os0 : OsState) (dr0 : Drawn) (acc : List Value) (s : Shared) : Prop where
  led : ∃ led, KeysOk w.params (zs.take acc.length) acc led ∧ ∀ q ∈ led, s.heap.get? q.1 = some q.2 ∧ q.1 ≠ S ∧ q.1 ≠ C ∧ q.1 ≠ I ∧ href.get? q.1 = none
  few : acc.length ≤ zs.length
  kept : ∀ b o, b ≠ C → b ≠ I → b ≠ S → href.get? b = some o → s.heap.get? b = some o
  gen : s.heap.IsGen a gi
  os : s.os = os0
  drawn : s.drawn = dr0
  gens : GenOnlyQ gi g0 s.gens
  goes : ∃ gs, s.gens[gi]? = some gs ∧ ∀ s'' : Shared, (∀ b o, b ≠ S → s.heap.get? b = some o → s''.heap.get? b = some o) →
    gs.Goes (model PySem.Challenge.rw_lh0061_01.row.prog w) (topA dp (un + 4) gd env outer) (kR C I) (kY w.params zs C I S) (zs.length - acc.length) (.send .none) s''
structure KFin (w : World) (zs : List Str) (C I S : Addr) (gi : Nat) (href : Heap) (g0 : Array GenState) (os0 : OsState) (dr0 : Drawn) (acc : List Value) (s : Shared) : Prop where
  led : ∃ led, KeysOk w.params zs acc led ∧ ∀ q ∈ led, s.heap.get? q.1 = some q.2 ∧ href.get? q.1 = none
  kept : ∀ b o, b ≠ C → b ≠ I → b ≠ S → href.get? b = some o → s.heap.get? b = some o
  os : s.os = os0
  drawn : s.drawn = dr0
  gens : GenOnlyQ gi g0 s.gens
section
variable {w : World} {dp un : Nat} {gd : Option (List Code)} {env : Env} {outer : List Env} {zs : List Str} {C I S a : Addr} {gi : Nat} {href : Heap} {g0 : Array GenState} {os0 : OsState} {dr0 : Drawn}
theorem keys_yield (haC : a ≠ C) (haI : a ≠ I) (haS : a ≠ S) (hCS : C ≠ S) (hIS : I ≠ S) (hnl : href.NoLimit) (hcs : cStatics ≠ C ∧ cStatics ≠ I ∧ cStatics ≠ S) (hd : dp < recursionLimit) :
    YieldsL PySem.Challenge.rw_lh0061_01.row.prog w (topA dp (un + 3) gd env outer) a S zs.length (KSt w dp un gd env outer zs C I S a gi href g0 os0 dr0) (KFin w zs C I S gi href g0 os0 dr0) where
  typ := fun acc s st => st.gen.typeIs
  frame := fun acc s h' tk st hk => {
    led := let ⟨led, k, q⟩ := st.led; ⟨led, k, fun p hp => ⟨hk _ _ (q p hp).2.1 (q p hp).1, (q p hp).2⟩⟩
    few := st.few
    kept := fun b o h1 h2 h3 e => hk b o h3 (st.kept b o h1 h2 h3 e)
    gen := let ⟨o, nm, qn, ho, r⟩ := st.gen; ⟨o, nm, qn, hk a o haS ho, r⟩
    os := st.os
    drawn := st.drawn
    gens := st.gens
    goes := let ⟨gs, h1, h2⟩ := st.goes; ⟨gs, h1, fun s'' hal => h2 s'' fun b o hb e => hal b o hb (hk b o hb e)⟩ }
  finFrame := fun acc s h' tk st hk => ⟨let ⟨led, k, q⟩ := st.led; ⟨led, k, fun p hp => ⟨hk _ _ (q p hp).1, (q p hp).2⟩⟩, fun b o h1 h2 h3 e => hk b o (st.kept b o h1 h2 h3 e), st.os, st.drawn, st.gens⟩
  item := fun acc s Q E hi st hS hQ => by
    obtain ⟨gs, hgs, hgo⟩ := st.goes
    obtain ⟨m, hm⟩ : ∃ m, zs.length - acc.length = m + 1 := ⟨zs.length - acc.length - 1, nb_succ' hi⟩
    rw [hm] at hgo
    have hl : s.heap.NoLimit := let ⟨mc, hns, hnn⟩ := hnl; ⟨mc, hns.at' fun o e => st.kept _ o hcs.1 hcs.2.1 hcs.2.2 e, hnn⟩
    refine wpAny_pyNext_genexpQ (P := fun n s₀ s₁ => n = 0 ∧ GenSince C [I] s₀ s₁) rfl hl hd st.gen hgs (hgo _ fun _ _ _ e => e) (fun v s₁ gs' hb hv => ?_) (fun s₁ hp h' hk => ?_)
    · obtain ⟨⟨z, tl, x, hzi, rfl, ko, htl, hne⟩, ⟨h₁, tk₁, rfl, hk₁⟩, hkap⟩ := hv
      have hidx : zs.length - 1 - (m + 1 - 1) = acc.length := nb_back' hi hm
      rw [hidx] at hzi
      obtain ⟨led, kl, ql⟩ := st.led
      obtain ⟨oS, hoS, hcS⟩ := hS
      have up : ∀ b o, b ≠ C → b ≠ I → s.heap.get? b = some o → h₁.get? b = some o := fun b o h1 h2 e => hk₁ b o h1 (by simpa using h2) e
      refine hQ _ _ ?_ fun o e => up S o (Ne.symm hCS) (Ne.symm hIS) e
      refine ⟨⟨tl ++ led, ?_, fun q hq => ?_⟩, ?_, fun b o h1 h2 h3 e => up b o h1 h2 (st.kept b o h1 h2 h3 e), ?_, st.os, st.drawn, ?_, gs', setGen_self (gs := .running) (setGen_self hgs), fun s'' hal => ?_⟩
      · rw [List.length_append, List.length_singleton, List.take_add_one, hzi]
        exact kl.snoc ko
      · rcases List.mem_append.mp hq with hq | hq
        · have fr : ∀ o, s.heap.get? q.1 ≠ some o := fun o => (htl q hq).2 o (hne q hq).1 (hne q hq).2
          have nS : q.1 ≠ S := fun e => fr oS (by rw [e]; exact hoS)
          refine ⟨(htl q hq).1, nS, (hne q hq).1, (hne q hq).2, ?_⟩
          cases e : href.get? q.1 with
          | none => rfl
          | some o => exact absurd (st.kept _ o (hne q hq).1 (hne q hq).2 nS e) (fr o)
        · exact ⟨up _ _ (ql q hq).2.2.1 (ql q hq).2.2.2.1 (ql q hq).1, (ql q hq).2⟩
      · rw [List.length_append, List.length_singleton]; exact hi
      · obtain ⟨o, nm, qn, ho, r⟩ := st.gen
        exact ⟨o, nm, qn, up a o haC haI ho, r⟩
      · exact st.gens.trans (GenOnlyQ.of ((GenOnly.setGen s gi .running).trans (GenOnly.setGen _ gi gs')) (setGen_self (gs := .running) (setGen_self hgs)) hb)
      · have e : zs.length - (acc ++ [Value.ref x]).length = m := by rw [List.length_append, List.length_singleton]; exact nb_step hm
        rw [e]
        exact hkap s'' hal
    · exact absurd hp.1 (Nat.succ_ne_zero m)
  done := fun acc s Q E hi st hQ => by
    obtain ⟨gs, hgs, hgo⟩ := st.goes
    rw [hi, Nat.sub_self] at hgo
    have hl : s.heap.NoLimit := let ⟨mc, hns, hnn⟩ := hnl; ⟨mc, hns.at' fun o e => st.kept _ o hcs.1 hcs.2.1 hcs.2.2 e, hnn⟩
    refine wpAny_pyNext_genexpQ (P := fun n s₀ s₁ => n = 0 ∧ GenSince C [I] s₀ s₁) rfl hl hd st.gen hgs (hgo _ fun _ _ _ e => e) (fun v s₁ gs' hb hv => ?_) (fun s₁ hp h' hk => ?_)
    · obtain ⟨_, _, hkap⟩ := hv
      exact False.elim (hkap s₁ fun _ _ _ e => e)
    · obtain ⟨_, h₁, tk₁, rfl, hk₁⟩ := hp
      obtain ⟨led, kl, ql⟩ := st.led
      rw [hi, List.take_length] at kl
      have up : ∀ b o, b ≠ C → b ≠ I → s.heap.get? b = some o → h'.get? b = some o := fun b o h1 h2 e => hk b o (hk₁ b o h1 (by simpa using h2) e)
      exact hQ _ ⟨⟨led, kl, fun q hq => ⟨up _ _ (ql q hq).2.2.1 (ql q hq).2.2.2.1 (ql q hq).1, (ql q hq).2.2.2.2⟩⟩, fun b o h1 h2 h3 e => up b o h1 h2 (st.kept b o h1 h2 h3 e), st.os, st.drawn,
        st.gens.trans (GenOnlyQ.of ((GenOnly.setGen s gi .running).trans (GenOnly.setGen _ gi .finished)) (setGen_self (gs := .running) (setGen_self hgs)) rfl)⟩ fun o e => up S o (Ne.symm hCS) (Ne.symm hIS) e
  self := fun acc s Q E st hQ => wpAny_pyIter_gen st.gen hQ
end
end
section
theorem notin_none {h₀ h : Heap} {L : Addr} {led0 tl : List (Addr × Obj)} (N : News h₀ L h led0) (n : ∀ q ∈ tl, h.get? q.1 = none) : ∀ q ∈ tl, q.1 ∉ led0.map (·.1) := fun q hq e => by
  obtain ⟨p, hp, e⟩ := List.mem_map.mp e
  have := (N p hp).1
  rw [e, n q hq] at this
  cases this
theorem notin_size {h₀ h : Heap} {L : Addr} {led0 : List (Addr × Obj)} (N : News h₀ L h led0) : h.objs.size ∉ led0.map (·.1) := fun e => by
  obtain ⟨p, hp, e⟩ := List.mem_map.mp e
  exact absurd e (Nat.ne_of_lt (Heap.lt_size (N p hp).1))
/-- a generator over a tuple of words, not yet woken -/
noncomputable def GReady (w : World) (dp un : Nat) (gd : Option (List Code)) (env : Env) (outer : List Env) (zs : List Str) (a L : Addr) (led : List (Addr × Obj)) (h : Heap) (g : Array GenState) (os : OsState) (dr : Drawn) : Prop :=
  ∃ C I gi, (∀ tk, KSt w dp un gd env outer zs C I h.objs.size a gi h g os dr [] ⟨h, g, dr, tk, os⟩) ∧ a ≠ C ∧ a ≠ I ∧ a < h.objs.size ∧ C < h.objs.size ∧ I < h.objs.size ∧ h.NoLimit ∧ cStatics < I ∧ L < I ∧ (∀ q ∈ led, q.1 < I) ∧ I < C
theorem bare_of {g : Nat} {a b : Array GenState} (x : GenOnlyQ g a b) (h : AllBare a) : AllBare b := by
  first
    | exact x.bare h
    | (intro y hy; exact x.bare h y hy)
section
variable {w : World} {dp un : Nat} {gd : Option (List Code)} {env : Env} {outer : List Env} {A₀ : Around} {base h₀ : Heap} {L : Addr} {m mg mb : Str → Option Value} {p : Program} {loose : List Str} {mean : ExcName → Option Value}
  {rest : List (Addr × Obj)} {ps : Array Value} {zs : List Str} {vals : List Value} {tp : Addr} {s : Shared} {Q E : Value → Shared → Prop} {elt iter : PySem.Expr} {gsc : Scope} {px pos : Pos} {q : Str}
theorem genexp_tail (B : Below A₀ base outer h₀) (F : Fr h₀ L s.heap m) (N : News h₀ L s.heap ((383, tabObj ps) :: rest)) (T : Top p loose mean mg mb h₀) (X : (Mine.fr.heap_1 w.params).In h₀) (hC3 : CodeHd h₀ 387 383) (ht : TriplesOk ps.toList) (hne : ∀ q ∈ rest, q.1 ≠ 383)
    (hf : env.frame = some L) (hk : env.scope.kind = .function) (hgl : env.globals = mainGlobals) (hcode : env.code = .ref 387) (hd : dp + 5 < recursionLimit) (hu : un + 40 < cLine)
    (hgk : gsc.kind = .function) (hgp : gsc.names.lookup (Str.ofString "part") = some .local) (hco : gsc.isCoroutine = false)
    (hv : StrsAre vals zs) (hw : ∀ z ∈ zs, z ∈ Words) (htp : (tp, tupO vals) ∈ rest)
    (hel : ∀ C code hg, Below (topA dp un gd env outer) base (env :: outer) hg → (Mine.fr.heap_1 w.params).In hg → Top p loose mean mg mb hg → HEl w (genEnv gsc [] C code builtinsNs env) (env :: outer) hg C elt)
    (hQ : ∀ a h₅ g₅ tk₅ ps', GReady w dp un gd env outer zs a L ((383, tabObj ps') :: rest) h₅ g₅ s.os s.drawn → Fr h₀ L h₅ m → News h₀ L h₅ ((383, tabObj ps') :: rest) → TriplesOk ps'.toList → (AllBare s.gens → AllBare g₅) → Q (.ref a) ⟨h₅, g₅, s.drawn, tk₅, s.os⟩) :
    wpAny (model PySem.Challenge.rw_lh0061_01.row.prog w) (topA dp un gd env outer) (pyIter (.ref tp)) (fun it s₂ => s₂.heap.NoLimit ∧
      wpAny (model PySem.Challenge.rw_lh0061_01.row.prog w) (topA dp un gd env outer) (genexprCode env pos q gsc) (fun code s₃ => wpAny (model PySem.Challenge.rw_lh0061_01.row.prog w) (topA dp un gd env outer) (builtinsFor env.globals env.builtins) (fun bi s₄ =>
        ∀ h', h'.Ns s₄.heap.objs.size (fun y => if y = ".0" then some it else none) → Heap.SameBut s₄.heap.objs.size (s₄.heap.push { cls := .type "frame", data := .dict #[] }) h' →
          Q (.ref h'.objs.size) { s₄ with
            gens := s₄.gens.push (.fresh (.compStart (.GeneratorExp elt [⟨.Name (Str.ofString "part") px, iter, [], 0⟩] gsc pos) 0 it .none (genEnv gsc [] s₄.heap.objs.size code bi env))),
            toks := s₄.toks + 1 + 1 + 1,
            heap := h'.push { cls := .type "generator", data := .fields #[.int s₄.gens.size 0, .str "<genexpr>" (s₄.toks + 1), .str (env.qual ++ "<genexpr>") (s₄.toks + 1 + 1)] } }) E s₃) E s₂) E s := by
  have htN := (N _ (List.mem_cons_of_mem _ htp))
  have hT0 : s.heap.IsTuple tp vals.toArray := ⟨_, htN.1, rfl, 0, rfl⟩
  refine wpAny_pyIter_tuple hT0 ?_
  have kp : ∀ b o, s.heap.get? b = some o → (s.heap.push { cls := .type "tuple_iterator", data := .fields #[.ref tp, .int 0 0] }).get? b = some o := fun b o e => Heap.get?_push_of_some _ e
  have hI : (s.heap.push { cls := .type "tuple_iterator", data := .fields #[.ref tp, .int 0 0] }).get? s.heap.objs.size = some { cls := .type "tuple_iterator", data := .fields #[.ref tp, .int 0 0] } := Heap.get?_push_size _ rfl
  have hLlt : L < s.heap.objs.size := F.ns.lt
  have hcs : cStatics < h₀.objs.size := let ⟨_, hn, _⟩ := T.nolimit; hn.lt
  have h0lt : h₀.objs.size < s.heap.objs.size := Nat.lt_of_le_of_lt F.above hLlt
  have F2 := F.keeps kp
  refine ⟨T.nolimit.keeps F2.keep, ?_⟩
  have hP := (N _ List.mem_cons_self).1
  have hP2 := kp _ _ hP
  have hC2 := hC3.keeps F2.keep
  have after : ∀ (code : Value) (h : Heap) (tk : Nat) (ps' : Array Value), Heap.ExtBut 383 (s.heap.push { cls := .type "tuple_iterator", data := .fields #[.ref tp, .int 0 0] }) h → h.get? 383 = some (tabObj ps') → TriplesOk ps'.toList →
      wpAny (model PySem.Challenge.rw_lh0061_01.row.prog w) (topA dp un gd env outer) (builtinsFor env.globals env.builtins) (fun bi s₄ =>
        ∀ h', h'.Ns s₄.heap.objs.size (fun y => if y = ".0" then some (Value.ref s.heap.objs.size) else none) → Heap.SameBut s₄.heap.objs.size (s₄.heap.push { cls := .type "frame", data := .dict #[] }) h' →
          Q (.ref h'.objs.size) { s₄ with
            gens := s₄.gens.push (.fresh (.compStart (.GeneratorExp elt [⟨.Name (Str.ofString "part") px, iter, [], 0⟩] gsc pos) 0 (Value.ref s.heap.objs.size) .none (genEnv gsc [] s₄.heap.objs.size code bi env))),
            toks := s₄.toks + 1 + 1 + 1,
            heap := h'.push { cls := .type "generator", data := .fields #[.int s₄.gens.size 0, .str "<genexpr>" (s₄.toks + 1), .str (env.qual ++ "<genexpr>") (s₄.toks + 1 + 1)] } }) E { s with heap := h, toks := tk } := by
    intro code h tk ps' hx hPs htr
    have h3lt : (383 : Nat) < s.heap.objs.size := Heap.lt_size hP
    have n3 : ∀ b o, h₀.get? b = some o → b ≠ 383 := fun b o e q => by
      have := (N _ List.mem_cons_self).2.2
      rw [← q, e] at this; cases this
    have kh : ∀ b o, h₀.get? b = some o → h.get? b = some o := fun b o e => hx b o (n3 b o e) (F2.keep b o e)
    have nL3 : L ≠ 383 := Ne.symm (N _ List.mem_cons_self).2.1
    have Fh : Fr h₀ L h m := ⟨F2.ns.at' fun o e => hx L o nL3 e, kh, F2.above⟩
    have hIh : h.get? s.heap.objs.size = some { cls := .type "tuple_iterator", data := .fields #[.ref tp, .int 0 0] } := hx _ _ (Ne.symm (Nat.ne_of_lt h3lt)) hI
    have Nh : News h₀ L h ((383, tabObj ps') :: rest) := by
      intro x hxm
      rcases List.mem_cons.mp hxm with rfl | hxm
      · exact ⟨hPs, (N _ List.mem_cons_self).2⟩
      · exact ⟨hx _ _ (hne x hxm) (kp _ _ (N x (List.mem_cons_of_mem _ hxm)).1), (N x (List.mem_cons_of_mem _ hxm)).2⟩
    have NhI : News h₀ L h ((s.heap.objs.size, { cls := .type "tuple_iterator", data := .fields #[.ref tp, .int 0 0] }) :: (383, tabObj ps') :: rest) := by
      intro x hxm
      rcases List.mem_cons.mp hxm with rfl | hxm
      · refine ⟨hIh, Ne.symm (Nat.ne_of_lt hLlt), ?_⟩
        cases q : h₀.get? s.heap.objs.size with
        | none => rfl
        | some o => exact absurd (Nat.lt_trans (Heap.lt_size q) h0lt) (Nat.lt_irrefl _)
      · exact Nh x hxm
    obtain ⟨bm, ob, b1, b2, b3, b4, b5, b6⟩ := T.bmain
    refine wpAny_builtinsFor (by rw [hgl]; exact T.g.keeps kh) b1 b2 (kh _ _ b3) b4 b5 b6 ?_
    intro h' hn' hs'
    have hsz : h'.objs.size = h.objs.size + 1 := by rw [hs'.1, Heap.size_push]
    have keep' : ∀ b o, h.get? b = some o → h'.get? b = some o := fun b o e => hs'.extBut b o (Nat.ne_of_lt (Heap.lt_size e)) (Heap.get?_push_of_some _ e)
    have keep5 : ∀ b o, h.get? b = some o → (h'.push { cls := .type "generator", data := .fields #[.int s.gens.size 0, .str "<genexpr>" (tk + 1), .str (env.qual ++ "<genexpr>") (tk + 1 + 1)] }).get? b = some o := fun b o e => Heap.get?_push_of_some _ (keep' b o e)
    have hIlt : s.heap.objs.size < h.objs.size := Heap.lt_size hIh
    have ground := groundX (A := topA dp un gd env outer) (s := { s with heap := h, toks := tk }) (R := fun _ _ => True) B Fh NhI rfl hf hk
    obtain ⟨FG, BG, st, -⟩ := ground
    have hgsz : (hideAll h (((s.heap.objs.size, ({ cls := .type "tuple_iterator", data := .fields #[.ref tp, .int 0 0] } : Obj)) :: (383, tabObj ps') :: rest).map (·.1))).objs.size = h.objs.size := hideAll_size _ _
    have hoG : ∀ b o, (hideAll h (((s.heap.objs.size, ({ cls := .type "tuple_iterator", data := .fields #[.ref tp, .int 0 0] } : Obj)) :: (383, tabObj ps') :: rest).map (·.1))).get? b = some o → h.get? b = some o := fun b o e => of_hideAll _ e
    have hEL := hel h.objs.size code _ BG (X.keeps st) (T.keeps st)
    have hgI : (hideAll h (((s.heap.objs.size, ({ cls := .type "tuple_iterator", data := .fields #[.ref tp, .int 0 0] } : Obj)) :: (383, tabObj ps') :: rest).map (·.1))).get? s.heap.objs.size = none := hideAll_none _ (by simp)
    have htph : h.get? tp = some (tupO vals) := (Nh _ (List.mem_cons_of_mem _ htp)).1
    have htlt : tp < s.heap.objs.size := Heap.lt_size htN.1
    have sz5 : (h'.push { cls := .type "generator", data := .fields #[.int s.gens.size 0, .str "<genexpr>" (tk + 1), .str (env.qual ++ "<genexpr>") (tk + 1 + 1)] }).objs.size = h.objs.size + 2 := by rw [Heap.size_push, hsz]
    have gen5 : Heap.IsGen (h'.push { cls := .type "generator", data := .fields #[.int s.gens.size 0, .str "<genexpr>" (tk + 1), .str (env.qual ++ "<genexpr>") (tk + 1 + 1)] }) h'.objs.size s.gens.size := ⟨_, _, _, Heap.get?_push_size _ rfl, rfl, rfl, rfl⟩
    have ns5 : Heap.Ns (h'.push { cls := .type "generator", data := .fields #[.int s.gens.size 0, .str "<genexpr>" (tk + 1), .str (env.qual ++ "<genexpr>") (tk + 1 + 1)] }) h.objs.size (fun y => if y = ".0" then some (Value.ref s.heap.objs.size) else none) := hn'.push _
    have F5 := Fh.keeps keep5
    have N5 := Nh.keeps keep5
    have L5 : Heap.NoLimit (h'.push { cls := .type "generator", data := .fields #[.int s.gens.size 0, .str "<genexpr>" (tk + 1), .str (env.qual ++ "<genexpr>") (tk + 1 + 1)] }) := T.nolimit.keeps fun b o e => keep5 b o (kh b o e)
    have hold5 : ∀ q ∈ ((383, tabObj ps') :: rest : List (Addr × Obj)), q.1 < s.heap.objs.size := fun q hq => by
      rcases List.mem_cons.mp hq with rfl | hq
      · exact h3lt
      · exact Heap.lt_size (N q (List.mem_cons_of_mem _ hq)).1
    have aI5 : h'.objs.size ≠ s.heap.objs.size := by rw [hsz]; exact Nat.ne_of_gt (Nat.lt_succ_of_lt hIlt)
    have aC5 : h'.objs.size ≠ h.objs.size := by rw [hsz]; exact Nat.succ_ne_self _
    refine hQ h'.objs.size _ _ _ ps' ?_ F5 N5 htr ?_
    · revert sz5 gen5 ns5 keep5 L5
      clear F5 N5
      generalize h'.push { cls := .type "generator", data := .fields #[.int s.gens.size 0, .str "<genexpr>" (tk + 1), .str (env.qual ++ "<genexpr>") (tk + 1 + 1)] } = h5
      intro keep5 sz5 gen5 ns5 L5
      revert hgsz hgI hEL BG FG st
      generalize hideAll h (((s.heap.objs.size, ({ cls := .type "tuple_iterator", data := .fields #[.ref tp, .int 0 0] } : Obj)) :: (383, tabObj ps') :: rest).map (·.1)) = hg at hoG
      intro FG BG st hgsz hEL hgI
      refine ⟨h.objs.size, s.heap.objs.size, s.gens.size, fun tk₀ => ?_, aC5, aI5, by rw [sz5, hsz]; exact Nat.lt_succ_self _, by rw [sz5]; exact Nat.lt_succ_of_lt (Nat.lt_succ_self _), by rw [sz5]; exact Nat.lt_succ_of_lt (Nat.lt_succ_of_lt hIlt), L5, Nat.lt_trans hcs h0lt, hLlt, hold5, hIlt⟩
      refine ⟨⟨[], .nil, fun _ hq => nomatch hq⟩, Nat.zero_le _, fun b o _ _ _ e => e, gen5, rfl, rfl, .inl rfl, _, Array.getElem?_push_size .., fun s'' hal => ⟨rfl, ?_⟩⟩
      have up : ∀ b o, h.get? b = some o → s''.heap.get? b = some o := fun b o e => hal b o (Nat.ne_of_lt (Nat.lt_of_lt_of_le (Heap.lt_size e) (by rw [sz5]; exact Nat.le_add_right _ 2))) (keep5 b o e)
      have Fg : Fr hg h.objs.size s''.heap (fun y => if y = ".0" then some (Value.ref s.heap.objs.size) else none) :=
        ⟨ns5.at' fun o e => hal _ o (by rw [sz5]; exact Nat.ne_of_lt (Nat.lt_add_of_pos_right (by decide))) e, fun b o e => up b o (hoG b o e), Nat.le_of_eq hgsz⟩
      have kl : (genEnv gsc [] h.objs.size code builtinsNs env).kindOf (Str.ofString "part") = some .local := by simp [Env.kindOf, genEnv, hgp]
      have kp : ((genEnv gsc [] h.objs.size code builtinsNs env).scope.kind == .class || ((genEnv gsc [] h.objs.size code builtinsNs env).scope.kind == .module && (genEnv gsc [] h.objs.size code builtinsNs env).locals != (genEnv gsc [] h.objs.size code builtinsNs env).globals)) = false := by simp [genEnv, hgk]
      exact keys_start (dp := dp) (un := un + 4) (gd := gd) (px := px) (iter := iter) (scope := gsc) (pos := pos) (C := h.objs.size) (S := h5.objs.size) (I := s.heap.objs.size) (tp := tp) (hg := hg) (cenv := genEnv gsc [] h.objs.size code builtinsNs env) rfl kl kp hco hv hw (Nat.ne_of_lt hIlt) (Nat.ne_of_lt (Nat.lt_trans htlt hIlt)) (Nat.ne_of_lt htlt) hgI
        (by rw [sz5]; exact Nat.ne_of_lt (Nat.lt_add_of_pos_right (by decide))) (by rw [sz5]; exact Nat.ne_of_lt (Nat.lt_of_lt_of_le hIlt (Nat.le_add_right _ 2))) (by rw [sz5]; exact Nat.ne_of_lt (Nat.lt_of_lt_of_le (Nat.lt_trans htlt hIlt) (Nat.le_add_right _ 2)))
        (by
          cases q : hg.get? h5.objs.size with
          | none => rfl
          | some o => exact absurd (Heap.lt_size q) (by rw [hgsz, sz5]; exact Nat.not_lt.mpr (Nat.le_add_right _ 2)))
        hEL (by omega) (by omega) s'' _ ⟨⟨_, up _ _ hIh, rfl, rfl⟩, ⟨_, up _ _ htph, rfl, 0, rfl⟩⟩ Fg
    · intro hb y hy
      rcases Array.mem_push.mp hy with hy | e
      · exact hb y hy
      · rw [e]; rfl
  cases hnf : codeAmong pos ps.toList with
  | some cv => exact wpAny_genexprCode_hit hcode (hC2.code hP2 ht) hnf (after cv _ _ ps (Heap.ExtBut.refl _ _) hP2 ht)
  | none =>
    refine wpAny_genexprCodeX hcode (hC2.code hP2 ht) (hC2.tab hP2) hnf fun c' h' tk hx hge hlt hok _ htb _ => ?_
    refine after (.ref c') h' tk _ hx htb.2 ?_
    obtain ⟨o, vs, file, tf, flags, tg, inF, text, tt, op, e1, e2, e3, e4, e5, e6, e7, e8, e9, e10, e11⟩ := hok
    exact e10
theorem keys_tuple {a : Addr} {led0 : List (Addr × Obj)} (G : GReady w dp un gd env outer zs a L led0 s.heap s.gens s.os s.drawn) (F : Fr h₀ L s.heap m) (N : News h₀ L s.heap led0) (hd : dp < recursionLimit) (hz : zs.length ≤ 100)
    (hQ : ∀ t acc led h' g' tk', KeysOk w.params zs acc led → (∀ q ∈ led, q.1 ∉ led0.map (·.1)) → t ∉ led0.map (·.1) → Fr h₀ L h' m → News h₀ L h' ((t, tupO acc) :: (led ++ led0)) → (AllBare s.gens → AllBare g') → Q (.ref t) ⟨h', g', s.drawn, tk', s.os⟩) :
    wpAny (model PySem.Challenge.rw_lh0061_01.row.prog w) (topA dp un gd env outer) (call (.type "tuple") [.ref a]) Q E s := by
  obtain ⟨C, I, gi, st, aC, aI, aS, CS, IS, nl, hcs, hL, hled, hIC⟩ := G
  have W := keys_yield (w := w) (dp := dp) (un := un) (gd := gd) (env := env) (outer := outer) (zs := zs) (g0 := s.gens) (os0 := s.os) (dr0 := s.drawn) (href := s.heap) (gi := gi) aC aI (Nat.ne_of_lt aS) (Nat.ne_of_lt CS) (Nat.ne_of_lt IS) nl ⟨Nat.ne_of_lt (Nat.lt_trans hcs hIC), Nat.ne_of_lt hcs, Nat.ne_of_lt (Nat.lt_trans hcs IS)⟩ hd
  refine call_tupleL W (st s.toks) aS (fun s' acc hf hacc => ?_) (by rw [sizeLine_eq]; omega)
  obtain ⟨⟨led, ko, hled2⟩, kept, hos, hdr, hgens⟩ := hf
  have old : ∀ b o, b < I → s.heap.get? b = some o → s'.heap.get? b = some o := fun b o hb e => kept b o (Nat.ne_of_lt (Nat.lt_trans hb hIC)) (Nat.ne_of_lt hb) (Nat.ne_of_lt (Nat.lt_trans hb IS)) e
  have h0L : ∀ b o, h₀.get? b = some o → b < L := fun b o e => Nat.lt_of_lt_of_le (Heap.lt_size e) F.above
  have F1 : Fr h₀ L s'.heap m := ⟨F.ns.at' fun o e => old L o hL e, fun b o e => old b o (Nat.lt_trans (h0L b o e) hL) (F.keep b o e), F.above⟩
  have N1 : News h₀ L s'.heap (led ++ led0) := by
    intro q hq
    rcases List.mem_append.mp hq with hq | hq
    · refine ⟨(hled2 q hq).1, fun e => ?_, ?_⟩
      · obtain ⟨oL, _, _, hoL, _⟩ := F.ns
        have := (hled2 q hq).2
        rw [e, hoL] at this
        cases this
      · cases e : h₀.get? q.1 with
        | none => rfl
        | some o =>
          have := (hled2 q hq).2
          rw [F.keep _ _ e] at this
          cases this
    · exact ⟨old _ _ (hled q hq) (N q hq).1, (N q hq).2⟩
  obtain ⟨hh, g', d', tk', os'⟩ := s'
  dsimp only at hos hdr hgens F1 N1 hled2 old ⊢
  subst hos
  subst hdr
  have Nt := N1.push F1 (tupO acc)
  refine hQ hh.objs.size acc led _ g' tk' ko (notin_none N fun q hq => (hled2 q hq).2) (notin_size fun q hq => N1 q (List.mem_append_right _ hq)) (F1.push _) Nt (fun hb => bare_of hgens hb)
end
end
section
theorem news_subG {h₀ h : Heap} {L : Addr} {p : Addr × Obj} {rest sub : List (Addr × Obj)} (N : News h₀ L h (p :: rest)) (hs : ∀ q ∈ sub, q ∈ rest) : News h₀ L h (p :: sub) := fun q hq => by
  rcases List.mem_cons.mp hq with rfl | hq
  · exact N _ List.mem_cons_self
  · exact N _ (List.mem_cons_of_mem _ (hs q hq))
/-- a tuple, an object of a class or a dict is not the code table -/
theorem newsG_ne {h₀ h : Heap} {L : Addr} {ps : Array Value} {sub : List (Addr × Obj)} (N : News h₀ L h ((383, tabObj ps) :: sub)) (ho : ∀ q ∈ sub, q.2 ≠ tabObj ps) : ∀ q ∈ sub, q.1 ≠ 383 := fun q hq e => by
  have a := (N q (List.mem_cons_of_mem _ hq)).1
  rw [e, (N _ List.mem_cons_self).1] at a
  exact ho q hq (Option.some.inj a).symm
theorem newsG_nc {h₀ h : Heap} {L : Addr} {ps : Array Value} {sub : List (Addr × Obj)} (N : News h₀ L h ((383, tabObj ps) :: sub)) (ho : ∀ q ∈ sub, q.2.cls ≠ .none) : ∀ q ∈ sub, q.1 ≠ 383 := newsG_ne N fun q hq e => ho q hq (by rw [e])
/-- what a generator expression owes once its iterable is there -/
noncomputable def GxPost (w : World) (A : Around) (env : Env) (elt iter : PySem.Expr) (px : Pos) (gsc : Scope) (pos : Pos) (Q E : Value → Shared → Prop) (xv : Value) (s₁ : Shared) : Prop :=
  wpAny (model PySem.Challenge.rw_lh0061_01.row.prog w) A (pyIter xv) (fun it s₂ => s₂.heap.NoLimit ∧
      wpAny (model PySem.Challenge.rw_lh0061_01.row.prog w) A (genexprCode env pos (env.qual ++ "<genexpr>") gsc) (fun code s₃ => wpAny (model PySem.Challenge.rw_lh0061_01.row.prog w) A (builtinsFor env.globals env.builtins) (fun bi s₄ =>
        ∀ h', h'.Ns s₄.heap.objs.size (fun y => if y = ".0" then some it else none) → Heap.SameBut s₄.heap.objs.size (s₄.heap.push { cls := .type "frame", data := .dict #[] }) h' →
          Q (.ref h'.objs.size) { s₄ with
            gens := s₄.gens.push (.fresh (.compStart (.GeneratorExp elt [⟨.Name (Str.ofString "part") px, iter, [], 0⟩] gsc pos) 0 it .none (genEnv gsc [] s₄.heap.objs.size code bi env))),
            toks := s₄.toks + 1 + 1 + 1,
            heap := h'.push { cls := .type "generator", data := .fields #[.int s₄.gens.size 0, .str "<genexpr>" (s₄.toks + 1), .str (env.qual ++ "<genexpr>") (s₄.toks + 1 + 1)] } }) E s₃) E s₂) E s₁
section
variable {w : World} {dp un : Nat} {gd : Option (List Code)} {env : Env} {outer : List Env} {A A₀ : Around} {base h₀ : Heap} {L : Addr} {m mg mb : Str → Option Value} {p : Program} {loose : List Str} {mean : ExcName → Option Value}
  {rest : List (Addr × Obj)} {ps : Array Value} {zs : List Str} {vals : List Value} {tp : Addr} {s : Shared} {Q E : Value → Shared → Prop} {elt iter : PySem.Expr} {gsc : Scope} {px pos : Pos}
theorem gx_make (hco : gsc.isCoroutine = false) (hclos : closureFor gsc env = pure []) (hcell : ∀ y ∈ gsc.names, y.2 ≠ .cell) (h0 : gsc.names.lookup (".0" : Str) = some NameKind.local) (hkind : gsc.kind = .function)
    (hroom : A.depth < recursionLimit) (h : wpAny (model PySem.Challenge.rw_lh0061_01.row.prog w) A (eval iter env) (GxPost w A env elt iter px gsc pos Q E) E s) (hs : ∀ x, genFold iter env x = pure x) :
    wpAny (model PySem.Challenge.rw_lh0061_01.row.prog w) A (eval (.GeneratorExp elt [⟨.Name (Str.ofString "part") px, iter, [], 0⟩] gsc pos) env) Q E s :=
  wpAny_GeneratorExp_make hco hclos hcell h0 hkind hroom h hs
theorem gx_tail (B : Below A₀ base outer h₀) (F : Fr h₀ L s.heap m) (N : News h₀ L s.heap ((383, tabObj ps) :: rest)) (T : Top p loose mean mg mb h₀) (X : (Mine.fr.heap_1 w.params).In h₀) (hC3 : CodeHd h₀ 387 383) (ht : TriplesOk ps.toList) (hne : ∀ q ∈ rest, q.1 ≠ 383)
    (hf : env.frame = some L) (hk : env.scope.kind = .function) (hgl : env.globals = mainGlobals) (hcode : env.code = .ref 387) (hd : dp + 5 < recursionLimit) (hu : un + 40 < cLine)
    (hgk : gsc.kind = .function) (hgp : gsc.names.lookup (Str.ofString "part") = some .local) (hco : gsc.isCoroutine = false)
    (hv : StrsAre vals zs) (hw : ∀ z ∈ zs, z ∈ Words) (htp : (tp, tupO vals) ∈ rest)
    (hel : ∀ C code hg, Below (topA dp un gd env outer) base (env :: outer) hg → (Mine.fr.heap_1 w.params).In hg → Top p loose mean mg mb hg → HEl w (genEnv gsc [] C code builtinsNs env) (env :: outer) hg C elt)
    (hQ : ∀ a h₅ g₅ tk₅ ps', GReady w dp un gd env outer zs a L ((383, tabObj ps') :: rest) h₅ g₅ s.os s.drawn → Fr h₀ L h₅ m → News h₀ L h₅ ((383, tabObj ps') :: rest) → TriplesOk ps'.toList → (AllBare s.gens → AllBare g₅) → Q (.ref a) ⟨h₅, g₅, s.drawn, tk₅, s.os⟩) :
    GxPost w (topA dp un gd env outer) env elt iter px gsc pos Q E (.ref tp) s :=
  genexp_tail B F N T X hC3 ht hne hf hk hgl hcode hd hu hgk hgp hco hv hw htp hel hQ
end
theorem news_swap {h₀ h : Heap} {L : Addr} {p : Addr × Obj} {a b : List (Addr × Obj)} (N : News h₀ L h (p :: (a ++ b))) : News h₀ L h (p :: (b ++ a)) := fun q hq => N q (by
  rcases List.mem_cons.mp hq with rfl | hq
  · exact List.mem_cons_self
  · rcases List.mem_append.mp hq with hq | hq
    · exact List.mem_cons_of_mem _ (List.mem_append_right _ hq)
    · exact List.mem_cons_of_mem _ (List.mem_append_left _ hq))
end
section
/-- the key of the pre-release part -/
inductive PreKey (P : Params) : List Str → List Value → List (Addr × Obj) → Prop
  | max {x dx : Addr} : PreKey P [] [.ref x] [(x, instObj 117 dx), (dx, dictOf [] 0)]
  | keys {z : Str} {zs : List Str} {acc : List Value} {led : List (Addr × Obj)} (h : KeysOk P (z :: zs) acc led) : PreKey P (z :: zs) acc led
inductive KeyPost (P : Params) (a b c : Int) (t1 t2 t3 : Tok) (zp : List Str) : Value → List (Addr × Obj) → Prop
  | mk {t pk : Addr} {acc : List Value} {led : List (Addr × Obj)} (k : PreKey P zp acc led) : KeyPost P a b c t1 t2 t3 zp (.ref t) ((t, tupO [.int a t1, .int b t2, .int c t3, .ref pk]) :: (pk, tupO acc) :: led)
theorem gkeep {h₀ h h' : Heap} {L : Addr} {p : Addr × Obj} {sub : List (Addr × Obj)} (N0 : News h₀ L h (p :: sub)) (hK : KeptBut h (p :: sub) h') (N' : News h₀ L h' sub) : ∀ b o, b ≠ p.1 → h.get? b = some o → h'.get? b = some o := by
  intro b o hb e
  by_cases hm : b ∈ sub.map (·.1)
  · obtain ⟨q, hq, rfl⟩ := List.mem_map.mp hm
    have a := (N0 q (List.mem_cons_of_mem _ hq)).1
    rw [a] at e
    cases e
    exact (N' q hq).1
  · exact hK b o e (by
      rw [List.map_cons, List.mem_cons]
      rintro (h | h)
      · exact hb h
      · exact hm h)
section
variable {w : World} {a b c : Int} {t1 t2 t3 : Tok} {zp : List Str} {h₀ g h' : Heap} {L L' : Addr} {s : Shared} {R : Result → Shared → Prop} {ps ps' : Array Value} {sub full led : List (Addr × Obj)} {D pk : Addr} {acc : List Value} {g' : Array GenState} {tk' : Nat}
theorem key_ret
    (hret : ∀ r tl h' g' tk' ps', KeyPost w.params a b c t1 t2 t3 zp r tl → (∀ b o, b ≠ 383 → s.heap.get? b = some o → h'.get? b = some o) → (∀ q ∈ tl, s.heap.get? q.1 = none) → TriplesOk ps'.toList → News h₀ L h' (tl ++ [(383, tabObj ps')]) → (AllBare s.gens → AllBare g') → R (.ok (.ret r)) ⟨h', g', s.drawn, tk', s.os⟩)
    (hK : KeptBut s.heap ((383, tabObj ps) :: sub) h') (N0 : News h₀ L s.heap ((383, tabObj ps) :: sub)) (G0 : ∀ b o, s.heap.get? b = some o → b ∉ ((383, tabObj ps) :: sub).map (·.1) → g.get? b = some o)
    (kN : News h₀ L h' full) (N' : News g L' h' full) (m1 : (D, tupO [.int a t1, .int b t2, .int c t3, .ref pk]) ∈ full) (m2 : (pk, tupO acc) ∈ full) (m3 : ∀ q ∈ led, q ∈ full) (m4 : (383, tabObj ps') ∈ full) (m5 : ∀ q ∈ sub, q ∈ full)
    (k : PreKey w.params zp acc led) (ht : TriplesOk ps'.toList) (ab : AllBare s.gens → AllBare g')
    (d1 : D ∉ ((383, tabObj ps) :: sub).map (·.1)) (d2 : pk ∉ ((383, tabObj ps) :: sub).map (·.1)) (d3 : ∀ q ∈ led, q.1 ∉ ((383, tabObj ps) :: sub).map (·.1)) : R (.ok (.ret (.ref D))) ⟨h', g', s.drawn, tk', s.os⟩ := by
  have mt : ∀ q ∈ ((D, tupO [.int a t1, .int b t2, .int c t3, .ref pk]) :: (pk, tupO acc) :: led), q ∈ full := fun q hq => by
    rcases List.mem_cons.mp hq with rfl | hq
    · exact m1
    rcases List.mem_cons.mp hq with rfl | hq
    · exact m2
    exact m3 q hq
  refine hret _ _ h' g' tk' ps' (.mk (pk := pk) k) (gkeep N0 hK fun q hq => kN q (m5 q hq)) (fresh_g G0 (fun q hq => N' q (mt q hq)) fun q hq => ?_) ht (fun q hq => ?_) ab
  · rcases List.mem_cons.mp hq with rfl | hq
    · exact d1
    rcases List.mem_cons.mp hq with rfl | hq
    · exact d2
    exact d3 q hq
  · rcases List.mem_append.mp hq with hq | hq
    · exact kN q (mt q hq)
    · rw [List.mem_singleton.mp hq]; exact kN _ m4
theorem key_retT
    (hret : ∀ r tl h' g' tk' ps', ((∃ t, r = .ref t) ∧ tl = []) → (∀ b o, b ≠ 383 → s.heap.get? b = some o → h'.get? b = some o) → (∀ q ∈ tl, s.heap.get? q.1 = none) → TriplesOk ps'.toList → News h₀ L h' (tl ++ [(383, tabObj ps')]) → (AllBare s.gens → AllBare g') → R (.ok (.ret r)) ⟨h', g', s.drawn, tk', s.os⟩)
    (hK : KeptBut s.heap ((383, tabObj ps) :: sub) h') (N0 : News h₀ L s.heap ((383, tabObj ps) :: sub))
    (kN : News h₀ L h' full) (m4 : (383, tabObj ps') ∈ full) (m5 : ∀ q ∈ sub, q ∈ full)
    (ht : TriplesOk ps'.toList) (ab : AllBare s.gens → AllBare g') : R (.ok (.ret (.ref D))) ⟨h', g', s.drawn, tk', s.os⟩ := by
  refine hret _ [] h' g' tk' ps' ⟨⟨_, rfl⟩, rfl⟩ (gkeep N0 hK fun q hq => kN q (m5 q hq)) (fun q hq => nomatch hq) ht (fun q hq => ?_) ab
  rw [List.nil_append] at hq
  rw [List.mem_singleton.mp hq]; exact kN _ m4
end
noncomputable abbrev vent6 (P : Params) (k1 k2 k3 k4 k5 k6 : Tok) (a b c : Int) (t1 t2 t3 : Tok) (tp tb : Addr) : List DictEntry :=
  [ent P "major" k1 (.int a t1), ent P "minor" k2 (.int b t2), ent P "patch" k3 (.int c t3), ent P "prerelease" k4 (.ref tp), ent P "build" k5 (.ref tb), ent P "partial" k6 (.bool false)]
theorem gel_end {P : Params} {z : Str} {tl : List (Addr × Obj)} {x C : Addr} {h' hg : Heap} {tk' : Nat} {s : Shared} {Q : Value → Shared → Prop}
    (hQ : ∀ x tl h' tk', KeyObj P z tl x → (∀ b o, s.heap.get? b = some o → h'.get? b = some o) → (∀ q ∈ tl, h'.get? q.1 = some q.2 ∧ s.heap.get? q.1 = none) → Q (.ref x) ⟨h', s.gens, s.drawn, tk', s.os⟩)
    (ko : KeyObj P z tl x) (k : ∀ b o, s.heap.get? b = some o → h'.get? b = some o) (n : ∀ q ∈ tl, s.heap.get? q.1 = none) (N : News hg C h' (tl ++ [])) : Q (.ref x) ⟨h', s.gens, s.drawn, tk', s.os⟩ :=
  hQ x tl h' tk' ko k fun q hq => ⟨(N q (List.mem_append_left _ hq)).1, n q hq⟩
section
theorem kw1_G7 : True := by
  (k_with "+truthy ref" => ((k_here; (with_reducible show wpAny _ _ (truthy (Value.ref _)) _ _ _); k_dflt (refine' ktl_truthyK ?N9q ?m9q ?z9q ?_; (case N9q => k_asm); (case m9q => k_mem); (case z9q => first | k_asm | exact Nat.le_of_ble_eq_true rfl); k_whole); (try simp only [List.isEmpty_cons, List.isEmpty_nil, Bool.not_false, Bool.not_true]))))
  (k_with "+eval GeneratorExp" => ((k_here; refine gx_make rfl rfl (by decide) rfl rfl (by ktr_room) ?_ (fun _ => rfl))))
  (k_with "+eval Name" => ((k_here; k_dflt (refine' gname_L ?k19q ?kk9q ?k29q ?k39q ?k49q ?_; (case k19q => k_asm); (case kk9q => exact rfl); (case k29q => k_asm); (case k39q => exact rfl); (case k49q => decide)))))
  (k_with "+eval Name" => ((k_here; k_dflt (refine' gname_K ?k19q ?kk9q ?k29q ?k39q ?k49q ?k59q ?k69q ?k79q ?_; (case kk9q => exact rfl); (case k69q => exact rfl); (case k19q => k_asm); (case k29q => k_asm); (case k39q => k_asm); (case k49q => first | exact rfl | k_asm); (case k59q => k_is); (case k79q => decide)))))
  (k_with "+eval Call Attribute" => ((k_here; k_dflt (refine MethodCall_ ?_))))
  (k_with "+eval Call" => ((k_here; k_dflt (refine Call_ ?_))))
  (k_with "+call ref" => ((k_here; k_dflt (first
    | (refine wpAny_call ?_; refine' ConF.use (c_num _ _ ?hdg9q ?hz9q) ?k19q ?k29q ?k39q ?k49q ?k59q ?kF9q ?kK9q ?kd9q ?ku9q ?ks9q ?_; (case hdg9q => k_asm); (case hz9q => k_asm); walk_at "con sides"; k_whole; intro r9 tl9 h9 tk9 p9 c9 n9 F9 N9; obtain ⟨x9, e9, o9⟩ := p9; subst e9; (try dsimp only))
    | (refine wpAny_call ?_; refine' ConF.use (c_alpha _ _ ?hdg9q ?hz9q) ?k19q ?k29q ?k39q ?k49q ?k59q ?kF9q ?kK9q ?kd9q ?ku9q ?ks9q ?_; (case hdg9q => k_asm); (case hz9q => k_asm); walk_at "con sides"; k_whole; intro r9 tl9 h9 tk9 p9 c9 n9 F9 N9; obtain ⟨x9, e9, o9⟩ := p9; subst e9; (try dsimp only))))))
  (k_with "+call ref" => ((k_here; k_dflt (refine wpAny_call ?_; refine' ConF.use (c_max _) ?k19q ?k29q ?k39q ?k49q ?k59q ?kF9q ?kK9q ?kd9q ?ku9q ?ks9q ?_; walk_at "con sides"; k_whole; intro r9 tl9 h9 tk9 p9 c9 n9 F9 N9; obtain ⟨x9, dx9, e9, e10⟩ := p9; subst e9; subst e10; (have d9 := notin_none (by k_asm) n9); (try simp only [List.cons_append, List.nil_append] at N9); (try dsimp only)))))
  (k_with "+call type:tuple" => ((k_here; k_dflt (refine' keys_tuple ?G9q ?F9q ?N9q ?d9q ?z9q ?_; (case G9q => k_asm); (case F9q => k_asm); (case N9q => k_asm); (case d9q => ktr_room); (case z9q => k_asm); k_whole; intro t9 acc9 led9 h9 g9 tk9 ko9 fr9 lt9 F9 N8 ab9; (have N9 := news_swap N8); clear N8; (try simp only [List.cons_append, List.nil_append] at N9); (try dsimp only)))))
  (k_with "+gx" => ((refine' gx_tail ?gB9q ?gF9q ?gN9q ?gT9q ?gX9q ?gC9q ?gtr9q ?gne9q ?g19q ?g29q ?g39q ?g49q ?gd9q ?gu9q ?g59q ?g69q ?g79q ?gv9q ?gz9q ?gm9q ?gel ?gQ; (case g19q => exact rfl); (case g29q => exact rfl); (case g39q => exact rfl); (case g49q => exact rfl); (case g59q => exact rfl); (case g69q => exact rfl); (case g79q => exact rfl); (case gB9q => k_asm); (case gF9q => k_asm); (case gN9q => k_asm); (case gT9q => k_asm); (case gX9q => k_asm); (case gC9q => exact codeHd_of_K (c := 387) (P := 383) (by k_asm) (by kernel_rfl)); (case gtr9q => k_asm); (case gd9q => ktr_room); (case gu9q => ktr_units); (case gm9q => k_mem); (case gv9q => k_asm); (case gz9q => k_asm); (case gne9q => (refine newsG_nc (by k_asm) ?_; (repeat (refine List.forall_mem_cons.mpr ⟨(fun e9 => nomatch e9), ?_⟩)); exact List.forall_mem_nil _)))))
  (k_with "+gel" => ((intro C code hg BG XG TG; unfold HEl; intro dp' un' gd' s' m' z t Q E hd' hu' hz F2 hm hQ; have N2 : News hg C s'.heap [] := News.nil; k_steps; all_goals (refine' gel_end hQ ?ga9q ?gb9q ?gc9q ?gd9q; (case gd9q => k_asm); (case ga9q => assumption); (case gb9q => assumption); (case gc9q => assumption)))))
  exact True.intro
theorem nin5 {t D a b c d e : Addr} {r : Prop} (l : t < D ∧ a < D ∧ b < D ∧ c < D ∧ d < D ∧ e < D ∧ r) : D ∉ [a, b, c, d, e] := by
  obtain ⟨_, h1, h2, h3, h4, h5, _⟩ := l
  simp only [List.mem_cons, List.not_mem_nil, or_false]
  rintro (h | h | h | h | h)
  · exact Nat.ne_of_gt h1 h
  · exact Nat.ne_of_gt h2 h
  · exact Nat.ne_of_gt h3 h
  · exact Nat.ne_of_gt h4 h
  · exact Nat.ne_of_gt h5 h
theorem nin5' {t u D a b c d e : Addr} (l : t < D ∧ u < D ∧ a < D ∧ b < D ∧ c < D ∧ d < D ∧ e < D) : D ∉ [a, b, c, d, e] := by
  obtain ⟨h0, h, h1, h2, h3, h4, h5⟩ := l
  exact nin5 (r := True) ⟨h0, h1, h2, h3, h4, h5, trivial⟩
theorem nin5'' {t u v D a b c d e : Addr} (l : t < D ∧ u < D ∧ v < D ∧ a < D ∧ b < D ∧ c < D ∧ d < D ∧ e < D) : D ∉ [a, b, c, d, e] := by
  obtain ⟨h0, _, h, h1, h2, h3, h4, h5⟩ := l
  exact nin5 (r := True) ⟨h0, h1, h2, h3, h4, h5, trivial⟩
theorem max_of {P : Params} {x dx : Addr} {l : List Addr} (_ : ∀ q ∈ ([(x, instObj 117 dx), (dx, dictOf [] 0)] : List (Addr × Obj)), q.1 ∉ l) : PreKey P [] [.ref x] [(x, instObj 117 dx), (dx, dictOf [] 0)] := .max
theorem newsT00 {h₀ h : Heap} {L : Addr} {ps : Array Value} {D pk x9 dx9 x y z u : Addr × Obj} {l : List (Addr × Obj)} (N : News h₀ L h (D :: pk :: x9 :: dx9 :: (383, tabObj ps) :: x :: y :: z :: u :: l)) : News h₀ L h ((383, tabObj ps) :: D :: [x, y, z, u]) := news_sub N (subc (List.mem_cons_of_mem _ (List.mem_cons_of_mem _ (List.mem_cons_of_mem _ (List.mem_cons_of_mem _ List.mem_cons_self)))) (subc List.mem_cons_self (subc (List.mem_cons_of_mem _ (List.mem_cons_of_mem _ (List.mem_cons_of_mem _ (List.mem_cons_of_mem _ (List.mem_cons_of_mem _ List.mem_cons_self))))) (subc (List.mem_cons_of_mem _ (List.mem_cons_of_mem _ (List.mem_cons_of_mem _ (List.mem_cons_of_mem _ (List.mem_cons_of_mem _ (List.mem_cons_of_mem _ List.mem_cons_self)))))) (subc (List.mem_cons_of_mem _ (List.mem_cons_of_mem _ (List.mem_cons_of_mem _ (List.mem_cons_of_mem _ (List.mem_cons_of_mem _ (List.mem_cons_of_mem _ (List.mem_cons_of_mem _ List.mem_cons_self))))))) (subc (List.mem_cons_of_mem _ (List.mem_cons_of_mem _ (List.mem_cons_of_mem _ (List.mem_cons_of_mem _ (List.mem_cons_of_mem _ (List.mem_cons_of_mem _ (List.mem_cons_of_mem _ (List.mem_cons_of_mem _ List.mem_cons_self)))))))) (fun _ h => nomatch h)))))))
theorem newsT10 {h₀ h : Heap} {L : Addr} {ps : Array Value} {D pk x y z u : Addr × Obj} {l : List (Addr × Obj)} (N : News h₀ L h (D :: pk :: (383, tabObj ps) :: x :: y :: z :: u :: l)) : News h₀ L h ((383, tabObj ps) :: D :: [x, y, z, u]) := news_sub N (subc (List.mem_cons_of_mem _ (List.mem_cons_of_mem _ List.mem_cons_self)) (subc List.mem_cons_self (subc (List.mem_cons_of_mem _ (List.mem_cons_of_mem _ (List.mem_cons_of_mem _ List.mem_cons_self))) (subc (List.mem_cons_of_mem _ (List.mem_cons_of_mem _ (List.mem_cons_of_mem _ (List.mem_cons_of_mem _ List.mem_cons_self)))) (subc (List.mem_cons_of_mem _ (List.mem_cons_of_mem _ (List.mem_cons_of_mem _ (List.mem_cons_of_mem _ (List.mem_cons_of_mem _ List.mem_cons_self))))) (subc (List.mem_cons_of_mem _ (List.mem_cons_of_mem _ (List.mem_cons_of_mem _ (List.mem_cons_of_mem _ (List.mem_cons_of_mem _ (List.mem_cons_of_mem _ List.mem_cons_self)))))) (fun _ h => nomatch h)))))))
noncomputable abbrev vent7 (P : Params) (k1 k2 k3 k4 k5 k6 k7 : Tok) (a b c : Int) (t1 t2 t3 : Tok) (tp tb tk : Addr) : List DictEntry :=
  [ent P "major" k1 (.int a t1), ent P "minor" k2 (.int b t2), ent P "patch" k3 (.int c t3), ent P "prerelease" k4 (.ref tp), ent P "build" k5 (.ref tb), ent P "partial" k6 (.bool false), ent P "_cmp_precedence_key" k7 (.ref tk)]
theorem kw2_G7 : True := by
  (k_with "+eval BoolOp" => ((k_here; (with_reducible show wpAny _ _ (eval (PySem.Expr.BoolOp _ [PySem.Expr.Attribute _ _ _, PySem.Expr.Tuple _ _ _] _) _) _ _ _); k_dflt (refine' or_tup ?hA9q ?F9q ?N9q ?hm9q ?hv9q ?hz9q ?_; (case hA9q => (intro Q9 h9; (repeat walk1); exact h9 _)); (case F9q => k_asm); (case N9q => k_asm); (case hm9q => k_mem); (case hv9q => k_asm); (case hz9q => k_asm)); intro D9 h9 tk9 _ F9 N9; (try dsimp only))))
  (k_with "+getAttr ref" => ((k_here; k_dflt (refine' get_own ?k19q ?k29q ?k39q ?k49q ?k59q ?k69q ?k79q ?k89q ?k99q ?_; (case k19q => k_asm); (case k29q => k_asm); (case k39q => k_inst); (case k49q => k_is); (case k59q => k_is); (case k69q => k_is); (case k79q => k_is); (case k89q => exact rfl); (case k99q => k_handed); k_whole))))
  exact True.intro
noncomputable def KeyPostX (bb : Bool) (P : Params) (a b c : Int) (t1 t2 t3 : Tok) (zp : List Str) : Value → List (Addr × Obj) → Prop := match bb with
  | false => KeyPost P a b c t1 t2 t3 zp
  | true => fun r tl => (∃ t, r = .ref t) ∧ tl = []
theorem c_bpkX1 (w : World) (bb : Bool) (k1 k2 k3 k4 k5 : Tok) (a b c : Int) (t1 t2 t3 : Tok) (n : Nat) (more : List DictEntry) {z1 : Str} {zp : List Str} {v1 : Value} {vp : List Value} (hvp : StrsAre (v1 :: vp) (z1 :: zp)) (hzp : ∀ z ∈ z1 :: zp, z ∈ Words) (hzl : (z1 :: zp).length ≤ 100) (hsz : (v1 :: vp).length ≤ 1000) {zb : List Str} {vb : List Value} (hvb : StrsAre vb zb) (hzb : ∀ z ∈ zb, z ∈ Words) (hyl : zb.length ≤ 100) (hsy : vb.length ≤ 1000) (x dx tp tb : Addr) :
    ConG w 8 60 (.ref 388) [.ref x] [(Str.ofString "with_build", .bool bb)] [(x, instObj 448 dx), (dx, dictOf (ent w.params "major" k1 (.int a t1) :: ent w.params "minor" k2 (.int b t2) :: ent w.params "patch" k3 (.int c t3) :: ent w.params "prerelease" k4 (.ref tp) :: ent w.params "build" k5 (.ref tb) :: more) n), (tp, tupO (v1 :: vp)), (tb, tupO vb)] (KeyPostX bb w.params a b c t1 t2 t3 (z1 :: zp)) := by
  unfold ConG
  intro p loose mean mg mb dp un gd env outer A₀ base h₀ L m rest ps s R B F N htr T hf hk hd hu hsub hret
  k_fill
  intro X
  have N0 := news_subG N hsub
  walk_at "con enter"
  k_steps
  walk_at "gx"
  case gel => walk_at "gel"
  case gQ =>
    intro a8 h8 g8 tk8 ps8 G8 F8 N8 ht8 hb8
    k_steps
    · (rename bb = true => ab; subst ab)
      have N6 := newsT10 (by k_asm)
      walk_at "gx"
      case gel => walk_at "gel"
      case gQ =>
        intro a9 h9 g9 tk9 ps9 G9 F9 N9 ht9 hb9
        k_steps
        (unfold KeptEnd; dsimp only; intro hK; refine' key_retT hret hK N0 ?kN ?m4 ?m5 ?ht ?ab)
        (case kN => k_asm); (case m4 => k_mem); (case m5 => walk_at "con sub"); (case ht => k_asm); (case ab => (intro hb; solve_by_elim))
    · (rename bb = false => ab; subst ab)
      (unfold KeptEnd; dsimp only; intro hK; refine' key_ret hret hK N0 ?G0 ?kN ?N' ?m1 ?m2 ?m3 ?m4 ?m5 ?k ?ht ?ab ?d1 ?d2 ?d3)
      (case G0 => with_reducible assumption); (case kN => k_asm); (case N' => k_asm); (case m1 => k_mem); (case m2 => k_mem); (case k => exact .keys (by k_asm)); (case m4 => k_mem); (case m3 => (intro q hq; repeat (first | exact hq | apply List.mem_cons_of_mem))); (case m5 => walk_at "con sub"); (case ht => k_asm); (case ab => (intro hb; solve_by_elim)); (case d1 => exact nin5 (by assumption)); (case d2 => assumption); (case d3 => assumption)
theorem c_bpkX0 (w : World) (bb : Bool) (k1 k2 k3 k4 k5 : Tok) (a b c : Int) (t1 t2 t3 : Tok) (n : Nat) (more : List DictEntry) {zb : List Str} {vb : List Value} (hvb : StrsAre vb zb) (hzb : ∀ z ∈ zb, z ∈ Words) (hyl : zb.length ≤ 100) (hsy : vb.length ≤ 1000) (x dx tp tb : Addr) :
    ConG w 8 60 (.ref 388) [.ref x] [(Str.ofString "with_build", .bool bb)] [(x, instObj 448 dx), (dx, dictOf (ent w.params "major" k1 (.int a t1) :: ent w.params "minor" k2 (.int b t2) :: ent w.params "patch" k3 (.int c t3) :: ent w.params "prerelease" k4 (.ref tp) :: ent w.params "build" k5 (.ref tb) :: more) n), (tp, tupO []), (tb, tupO vb)] (KeyPostX bb w.params a b c t1 t2 t3 []) := by
  unfold ConG
  intro p loose mean mg mb dp un gd env outer A₀ base h₀ L m rest ps s R B F N htr T hf hk hd hu hsub hret
  k_fill
  intro X
  have N0 := news_subG N hsub
  walk_at "con enter"
  k_steps
  · (rename bb = true => ab; subst ab)
    have N6 := newsT00 (by k_asm)
    walk_at "gx"
    case gel => walk_at "gel"
    case gQ =>
      intro a9 h9 g9 tk9 ps9 G9 F9 N9 ht9 hb9
      k_steps
      (unfold KeptEnd; dsimp only; intro hK; refine' key_retT hret hK N0 ?kN ?m4 ?m5 ?ht ?ab)
      (case kN => k_asm); (case m4 => k_mem); (case m5 => walk_at "con sub"); (case ht => k_asm); (case ab => (intro hb; solve_by_elim))
  · (rename bb = false => ab; subst ab)
    (unfold KeptEnd; dsimp only; intro hK; refine' key_ret hret hK N0 ?G0 ?kN ?N' ?m1 ?m2 ?m3 ?m4 ?m5 ?k ?ht ?ab ?d1 ?d2 ?d3)
    (case G0 => with_reducible assumption); (case kN => k_asm); (case N' => k_asm); (case m1 => k_mem); (case m2 => k_mem); (case k => exact max_of (by assumption)); (case d3 => assumption); (case m4 => k_mem); (case m3 => walk_at "con sub"); (case m5 => walk_at "con sub"); (case ht => k_asm); (case ab => exact fun h => h)
    (case d1 => exact nin5'' (by assumption)); (case d2 => exact nin5' (by assumption))
end
theorem kw3_G7 : True := by
  k_with_none
  (k_with "+lt room" => (first | exact lt_r0 (by assumption) (by decide) | exact lt_rc (by assumption) (by decide) | exact lt_rd (by assumption) (by decide) | exact lt_z0 (by assumption)))
  (k_with "@ktr_room" => (walk_at "lt room"))
  (k_with "@ktr_units" => (walk_at "lt room"))
  (k_with "@units_room" => (walk_at "lt room"))
  (k_with "@k_room" => (ktr_room))
  (k_with "+con binds" => (first | exact fm_nilE (by exact rfl) | exact fm_some (by exact rfl) (by walk_at "con binds")))
  (k_with "+con enter" => ((k_dflt (refine' code_keep ?k19q ?k29q ?k39q ?k49q ?k59q ?kA9q ?kF9q ?kK9q ?k69q ?k79q ?k89q ?k99q ?kB9q ?_ ?c29q ?c39q ?c49q ?c59q; (case kA9q => exact rfl); (case kF9q => assumption); (case kK9q => assumption); (case k49q => k_asm); (case k19q => k_asm); (case k29q => k_asm); (case k39q => k_asm); (case k59q => k_asm); (case k69q => k_is); (case k79q => k_is); (case k89q => ktr_room); (case k99q => (refine' binds_to ?b99q ?e99q; (case b99q => first | exact BindsTo.of_eq rfl | exact binds_K (by k_in) rfl (by k_is) rfl rfl rfl | fail "con enter: no rule for these arguments"); (case e99q => first | (walk_at "con binds") | (walk_say "con enter: binds left as they are"; exact rfl)))); (case c59q => decide); (case kB9q => exact locs rfl); (case c29q => exact rfl); (case c39q => exact rfl); (case c49q => exact rfl); k_whole; intro g' L' h' FG' F' N' B' X' T' G0'; (try dsimp only); (try k_fold)))))
  (k_with "+con sub" => (repeat (first | exact sub_nil | refine sub_cons (by k_mem) ?_)))
  (k_with "+ite" => ((k_here; k_openite; with_reducible refine ite_isFalse (bne_self_eq_false _) ?_; walk_say "PRUNED same")))
  (k_with "+con sides" => (((case k39q => k_asm); (case k29q => k_asm); (case k19q => k_asm); (case k49q => k_asm); (case k59q => k_asm); (case kF9q => first | exact rfl | assumption); (case kK9q => first | exact rfl | assumption); (case kd9q => ktr_room); (case ku9q => ktr_units); (case ks9q => walk_at "con sub"))))
  (k_with "+ne close" => (first | assumption | exact Ne.symm (by assumption) | exact Nat.ne_of_lt (by assumption) | exact Nat.ne_of_gt (by assumption) | exact Nat.ne_of_lt (Nat.lt_trans (by assumption) (by assumption)) | exact Nat.ne_of_gt (Nat.lt_trans (by assumption) (by assumption)) | (rename _ ∧ _ => hh9; obtain ⟨_, _⟩ := hh9; walk_at "ne close")))
  (k_with "@k_ne" => ((refine neN ?_; (try dsimp only); with_reducible walk_at "ne close")))
  exact True.intro
end
section
theorem c_bpkX (w : World) (bb : Bool) (k1 k2 k3 k4 k5 : Tok) (a b c : Int) (t1 t2 t3 : Tok) (n : Nat) (more : List DictEntry) {zp zb : List Str} {vp vb : List Value} (hz : Ids zp) (hvp : StrsAre vp zp) (hy : Ids zb) (hvb : StrsAre vb zb) (x dx tp tb : Addr) :
    ConG w 8 60 (.ref 388) [.ref x] [(Str.ofString "with_build", .bool bb)] [(x, instObj 448 dx), (dx, dictOf (ent w.params "major" k1 (.int a t1) :: ent w.params "minor" k2 (.int b t2) :: ent w.params "patch" k3 (.int c t3) :: ent w.params "prerelease" k4 (.ref tp) :: ent w.params "build" k5 (.ref tb) :: more) n), (tp, tupO vp), (tb, tupO vb)] (KeyPostX bb w.params a b c t1 t2 t3 zp) := by
  have this2 := hy.few
  have e2 := StrsAre.length hvb
  have l2 : vb.length ≤ 1000 := by rw [e2]; exact Nat.le_trans this2 (by decide)
  match zp, hz, hvp with
  | [], _, h => cases strs0 h; exact c_bpkX0 w bb k1 k2 k3 k4 k5 a b c t1 t2 t3 n more hvb hy.words (Nat.le_trans this2 (by decide)) l2 x dx tp tb
  | z :: zs, hz, h =>
    obtain ⟨t, r, rfl, hr⟩ := h.cons_inv
    have := hz.few
    have e := StrsAre.length h
    exact c_bpkX1 w bb k1 k2 k3 k4 k5 a b c t1 t2 t3 n more h hz.words (Nat.le_trans this (by decide)) (by rw [e]; exact Nat.le_trans this (by decide)) hvb hy.words (Nat.le_trans this2 (by decide)) l2 x dx tp tb
theorem c_bpkF (w : World) (k1 k2 k3 k4 k5 k6 : Tok) (a b c : Int) (t1 t2 t3 : Tok) (n : Nat) {zp zb : List Str} {vp vb : List Value} (hz : Ids zp) (hvp : StrsAre vp zp) (hy : Ids zb) (hvb : StrsAre vb zb) (x dx tp tb : Addr) :
    ConG w 8 60 (.ref 388) [.ref x] [(Str.ofString "with_build", .bool false)] [(x, instObj 448 dx), (dx, dictOf (vent6 w.params k1 k2 k3 k4 k5 k6 a b c t1 t2 t3 tp tb) n), (tp, tupO vp), (tb, tupO vb)] (KeyPost w.params a b c t1 t2 t3 zp) :=
  c_bpkX w false k1 k2 k3 k4 k5 a b c t1 t2 t3 n [ent w.params "partial" k6 (.bool false)] hz hvp hy hvb x dx tp tb
theorem c_bpkT (w : World) (k1 k2 k3 k4 k5 k6 k7 : Tok) (a b c : Int) (t1 t2 t3 : Tok) (n : Nat) {zp zb : List Str} {vp vb : List Value} (hz : Ids zp) (hvp : StrsAre vp zp) (hy : Ids zb) (hvb : StrsAre vb zb) (x dx tp tb tk : Addr) :
    ConG w 8 60 (.ref 388) [.ref x] [(Str.ofString "with_build", .bool true)] [(x, instObj 448 dx), (dx, dictOf (vent7 w.params k1 k2 k3 k4 k5 k6 k7 a b c t1 t2 t3 tp tb tk) n), (tp, tupO vp), (tb, tupO vb)] (fun r tl => (∃ t, r = .ref t) ∧ tl = []) :=
  c_bpkX w true k1 k2 k3 k4 k5 a b c t1 t2 t3 n [ent w.params "partial" k6 (.bool false), ent w.params "_cmp_precedence_key" k7 (.ref tk)] hz hvp hy hvb x dx tp tb
noncomputable abbrev vent8 (P : Params) (k1 k2 k3 k4 k5 k6 k7 k8 : Tok) (a b c : Int) (t1 t2 t3 : Tok) (tp tb tk t8 : Addr) : List DictEntry :=
  [ent P "major" k1 (.int a t1), ent P "minor" k2 (.int b t2), ent P "patch" k3 (.int c t3), ent P "prerelease" k4 (.ref tp), ent P "build" k5 (.ref tb), ent P "partial" k6 (.bool false), ent P "_cmp_precedence_key" k7 (.ref tk), ent P "_sort_precedence_key" k8 (.ref t8)]
/-- a version as it stands -/
inductive VerObj (P : Params) (a b c : Int) (zp zb : List Str) : Addr → List (Addr × Obj) → Prop
  | mk {x dx tp tb tk t8 pk : Addr} {k1 k2 k3 k4 k5 k6 k7 k8 t1 t2 t3 u1 u2 u3 : Tok} {n : Nat} {vp vb acc : List Value} {led : List (Addr × Obj)} (hvp : StrsAre vp zp) (hvb : StrsAre vb zb) (k : PreKey P zp acc led) :
      VerObj P a b c zp zb x ((x, instObj 448 dx) :: (dx, dictOf (vent8 P k1 k2 k3 k4 k5 k6 k7 k8 a b c t1 t2 t3 tp tb tk t8) n) :: (tp, tupO vp) :: (tb, tupO vb) :: (tk, tupO [.int a u1, .int b u2, .int c u3, .ref pk]) :: (pk, tupO acc) :: led)
end
section
theorem kw1_V2 : True := by
  (k_with "+getMethod ref" => ((k_here; k_dflt (first
    | (refine' kmu_cm ?k19q ?k29q ?k39q ?k49q ?k59q ?k69q ?k79q ?k89q ?k99q ?k109q ?k119q ?k129q ?k139q ?_; (case k19q => k_asm); (case k29q => k_asm); (case k39q => k_asm); (case k49q => k_inst); (case k59q => k_is); (case k69q => k_is); (case k79q => k_is); (case k89q => k_is); (case k99q => k_is); (case k109q => k_is); (case k119q => decide +kernel); (case k129q => k_get); (case k139q => k_is); k_whole; intro q' h' F' N' l1; (try k_lt l1); (try k_sweep))
    | (refine' method_inst ?k19q ?k29q ?k39q ?k49q ?k59q ?k69q ?k79q ?_; (case k19q => k_asm); (case k29q => k_asm); (case k39q => k_inst); (case k49q => k_is); (case k59q => k_is); (case k69q => k_is); (case k79q => k_get); k_whole)))))
  exact True.intro
section
variable {prog : Program} {w : World} {A : Around} {K : Frag} {C L : Addr} {s : Shared} {h₀ : Heap} {m : Str → Option Value} {R : Result → Shared → Prop}
theorem make_keepL {rest : List Value} {kw : List (Str × Value)} {fI : Addr} (F : Fr h₀ L s.heap m) (X₀ : K.In h₀) (hm : makesIn K C = true)
    (hi : findIn K (.ref C) "__init__" = some (some (.ref fI))) (hf : typeIn K (.ref fI) = some (.type "function"))
    (h : ∀ x dx h', Fr h₀ L h' m → News h₀ L h' [(x, instObj C dx), (dx, dictOf [] 0)] → (∀ b o, s.heap.get? b = some o → h'.get? b = some o) → (∀ b o, s.heap.get? b = some o → b < dx) → dx < x →
      codeAny (model prog w) (A.under (.builtin "type.__call__" ⟨.ref C :: rest, kw⟩)) (.call (.ref fI) ⟨.ref x :: rest, kw⟩) (InitBack x R) { s with heap := h' }) :
    codeAny (model prog w) A (.call (.ref C) ⟨rest, kw⟩) R s := by
  obtain ⟨hh, g, d, t, os⟩ := s
  have X := X₀.keeps F.keep
  have N' := ((News.nil (h₀ := h₀) (L := L) (h := hh)).push F emptyDict).push (F.push _) (instObj C hh.objs.size)
  rw [Heap.size_push] at N'
  refine make_core (makes_of X hm) (looks_findIn X hi) (fun self => bind_fn X self hf) (.inl rfl) ?_
  exact h (hh.objs.size + 1) hh.objs.size _ ((F.push _).push _) N' (fun b o e => Heap.get?_push_of_some _ (Heap.get?_push_of_some _ e)) (fun b o e => Heap.lt_size e) (Nat.lt_succ_self _)
end
theorem tl_off {t pk dx a b d e : Addr} {o o2 : Obj} {led : List (Addr × Obj)} (h : ∀ q ∈ ((t, o) :: (pk, o2) :: led : List (Addr × Obj)), q.1 ∉ [a, b, dx, d, e]) : @Ne Nat t dx ∧ @Ne Nat pk dx ∧ ∀ q ∈ led, q.1 ≠ dx := by
  have k : ∀ q ∈ ((t, o) :: (pk, o2) :: led : List (Addr × Obj)), q.1 ≠ dx := fun q hq e => h q hq (by rw [e]; simp)
  exact ⟨k _ List.mem_cons_self, k _ (List.mem_cons_of_mem _ List.mem_cons_self), fun q hq => k q (List.mem_cons_of_mem _ (List.mem_cons_of_mem _ hq))⟩
theorem news_pick {h₀ h : Heap} {L : Addr} {full sub : List (Addr × Obj)} (N : News h₀ L h full) (hs : ∀ q ∈ sub, q ∈ full) : News h₀ L h sub := fun q hq => N q (hs q hq)
theorem mf6 {a1 a2 a3 a4 a5 a6 : Addr × Obj} {led0 led : List (Addr × Obj)} (h : ∀ q ∈ led0, q ∈ led) : ∀ q ∈ a1 :: a2 :: a3 :: a4 :: a5 :: a6 :: led0, q ∈ a1 :: a2 :: a3 :: a4 :: a5 :: a6 :: led := (subc List.mem_cons_self (subc (List.mem_cons_of_mem _ List.mem_cons_self) (subc (List.mem_cons_of_mem _ (List.mem_cons_of_mem _ List.mem_cons_self)) (subc (List.mem_cons_of_mem _ (List.mem_cons_of_mem _ (List.mem_cons_of_mem _ List.mem_cons_self))) (subc (List.mem_cons_of_mem _ (List.mem_cons_of_mem _ (List.mem_cons_of_mem _ (List.mem_cons_of_mem _ List.mem_cons_self)))) (subc (List.mem_cons_of_mem _ (List.mem_cons_of_mem _ (List.mem_cons_of_mem _ (List.mem_cons_of_mem _ (List.mem_cons_of_mem _ List.mem_cons_self))))) (fun q hq => (List.mem_cons_of_mem _ (List.mem_cons_of_mem _ (List.mem_cons_of_mem _ (List.mem_cons_of_mem _ (List.mem_cons_of_mem _ (List.mem_cons_of_mem _ (h q hq))))))))))))))
theorem me6 {a1 a2 a3 a4 a5 a6 : Addr × Obj} {led0 led : List (Addr × Obj)} (h : ∀ q ∈ led0, q ∈ led) : ∀ q ∈ led0, q ∈ a1 :: a2 :: a3 :: a4 :: a5 :: a6 :: led := fun q hq => (List.mem_cons_of_mem _ (List.mem_cons_of_mem _ (List.mem_cons_of_mem _ (List.mem_cons_of_mem _ (List.mem_cons_of_mem _ (List.mem_cons_of_mem _ (h q hq)))))))
theorem bpk_perm6 {α : Type} {a b c d t k : α} {l e : List α} : ∀ q ∈ a :: b :: c :: d :: t :: k :: (l ++ e), q ∈ ([a, b, c, d] ++ e) ++ (t :: k :: l) := (subc (List.mem_append_left _ (List.mem_append_left _ List.mem_cons_self)) (subc (List.mem_append_left _ (List.mem_append_left _ (List.mem_cons_of_mem _ List.mem_cons_self))) (subc (List.mem_append_left _ (List.mem_append_left _ (List.mem_cons_of_mem _ (List.mem_cons_of_mem _ List.mem_cons_self)))) (subc (List.mem_append_left _ (List.mem_append_left _ (List.mem_cons_of_mem _ (List.mem_cons_of_mem _ (List.mem_cons_of_mem _ List.mem_cons_self))))) (subc (List.mem_append_right _ List.mem_cons_self) (subc (List.mem_append_right _ (List.mem_cons_of_mem _ List.mem_cons_self)) (suba (fun _ hq => (List.mem_append_right _ (List.mem_cons_of_mem _ (List.mem_cons_of_mem _ hq)))) (fun _ hq => (List.mem_append_left _ (List.mem_append_right _ hq))))))))))
theorem bpk_perm {α : Type} {z a b c d t k : α} {l e : List α} : ∀ q ∈ z :: a :: b :: c :: d :: t :: k :: (l ++ e), q ∈ z :: (([a, b, c, d] ++ e) ++ (t :: k :: l)) := subc List.mem_cons_self fun q hq => List.mem_cons_of_mem _ (bpk_perm6 q hq)
theorem neN' {a b : Addr} (h : @Ne Nat a b) : ¬ a = b := h
section
variable {w : World} {p : Program} {loose : List Str} {mean : ExcName → Option Value} {mg mb : Str → Option Value} {dp un : Nat} {gd : Option (List Code)} {env : Env} {outer : List Env} {A₀ : Around} {base h₀ : Heap} {L : Addr} {m : Str → Option Value}
  {s : Shared} {R : Result → Shared → Prop} {full led : List (Addr × Obj)} {ps : Array Value} {k1 k2 k3 k4 k5 k6 k7 : Tok} {a b c : Int} {t1 t2 t3 : Tok} {n : Nat} {zp zb : List Str} {vp vb : List Value} {x dx tp tb tk pk : Addr} {okey oacc : Obj}
structure Extra (dx : Addr) (e : List (Addr × Obj)) : Prop where
  off : ∀ q ∈ e, q.1 ≠ dx
  n3 : ∀ q ∈ e, q.1 ≠ 383
theorem bpkF_use {e : List (Addr × Obj)} (hE : Extra dx e) (kpe : ∀ q ∈ e, q ∈ full) (hz : Ids zp) (hv : StrsAre vp zp) (hy : Ids zb) (hw : StrsAre vb zb) (B : Below A₀ base outer h₀) (F : Fr h₀ L s.heap m) (N : News h₀ L s.heap full)
    (kp : ∀ q ∈ ((383, tabObj ps) :: [(x, instObj 448 dx), (dx, dictOf (vent6 w.params k1 k2 k3 k4 k5 k6 a b c t1 t2 t3 tp tb) n), (tp, tupO vp), (tb, tupO vb)] : List (Addr × Obj)), q ∈ full)
    (ht : TriplesOk ps.toList) (hn : 383 ∉ [x, dx, tp, tb]) (T : Top p loose mean mg mb h₀) (X : (Mine.fr.heap_1 w.params).In h₀) (hf : env.frame = some L) (hk : env.scope.kind = .function) (hd : dp + 8 < recursionLimit) (hu : un + 60 < cLine)
    (ret : ∀ t pk acc led0 led h' g' tk' ps', PreKey w.params zp acc led0 → (∀ q ∈ led0, q ∈ led) → (∀ q ∈ e, q ∈ led) → TriplesOk ps'.toList → Fr h₀ L h' m →
      News h₀ L h' ((383, tabObj ps') :: (x, instObj 448 dx) :: (dx, dictOf (vent6 w.params k1 k2 k3 k4 k5 k6 a b c t1 t2 t3 tp tb) n) :: (tp, tupO vp) :: (tb, tupO vb) :: (t, tupO [.int a t1, .int b t2, .int c t3, .ref pk]) :: (pk, tupO acc) :: led) →
      383 ∉ (x :: dx :: tp :: tb :: t :: pk :: led.map (·.1)) → @Ne Nat t dx → @Ne Nat pk dx → (∀ q ∈ led, q.1 ≠ dx) → (AllBare s.gens → AllBare g') → R (.ok (.ret (.ref t))) ⟨h', g', s.drawn, tk', s.os⟩) :
    codeAny (model PySem.Challenge.rw_lh0061_01.row.prog w) (topA dp un gd env outer) (.call (.ref 388) ⟨[.ref x], [(Str.ofString "with_build", .bool false)]⟩) R s := by
  have N1 := news_pick N kp
  have hn2 : 383 ∉ (([(x, instObj 448 dx), (dx, dictOf (vent6 w.params k1 k2 k3 k4 k5 k6 a b c t1 t2 t3 tp tb) n), (tp, tupO vp), (tb, tupO vb)] : List (Addr × Obj)) ++ e).map (·.1) := by
    rw [List.map_append, List.mem_append]
    rintro (h | h)
    · exact hn h
    · obtain ⟨q, hq, h⟩ := List.mem_map.mp h
      exact hE.n3 q hq h
  have N2 : News h₀ L s.heap ((383, tabObj ps) :: (([(x, instObj 448 dx), (dx, dictOf (vent6 w.params k1 k2 k3 k4 k5 k6 a b c t1 t2 t3 tp tb) n), (tp, tupO vp), (tb, tupO vb)] : List (Addr × Obj)) ++ e)) := by
    intro q hq
    rcases List.mem_cons.mp hq with rfl | hq
    · exact N1 _ List.mem_cons_self
    rcases List.mem_append.mp hq with hq | hq
    · exact N1 _ (List.mem_cons_of_mem _ hq)
    · exact N q (kpe q hq)
  refine ConG.use (c_bpkF w k1 k2 k3 k4 k5 k6 a b c t1 t2 t3 n hz hv hy hw x dx tp tb) B F N2 ht hn2 T X hf hk hd hu (fun _ h => List.mem_append_left _ h) fun r tl h' g' tk' ps' hp k hn' ht' F' N' n3 hg => ?_
  cases hp with
  | mk kk =>
    rename_i t pk acc led0
    obtain ⟨e1, e2, e3⟩ := tl_off (notin_none N1 hn')
    refine ret t pk acc led0 (led0 ++ e) _ _ _ _ kk (fun _ h => List.mem_append_left _ h) (fun _ h => List.mem_append_right _ h) ht' F' ?_ ?_ e1 e2 (fun q hq => ?_) hg
    · exact fun q hq => N' q (bpk_perm q hq)
    · exact fun h => n3 (map_sub bpk_perm6 h)
    · rcases List.mem_append.mp hq with hq | hq
      · exact e3 q hq
      · exact hE.off q hq
theorem bpkT_use (hz : Ids zp) (hv : StrsAre vp zp) (hy : Ids zb) (hw : StrsAre vb zb) (B : Below A₀ base outer h₀) (F : Fr h₀ L s.heap m)
    (N : News h₀ L s.heap ((383, tabObj ps) :: (x, instObj 448 dx) :: (dx, dictOf (vent7 w.params k1 k2 k3 k4 k5 k6 k7 a b c t1 t2 t3 tp tb tk) n) :: (tp, tupO vp) :: (tb, tupO vb) :: (tk, okey) :: (pk, oacc) :: led))
    (ht : TriplesOk ps.toList) (hn : 383 ∉ (x :: dx :: tp :: tb :: tk :: pk :: led.map (·.1))) (T : Top p loose mean mg mb h₀) (X : (Mine.fr.heap_1 w.params).In h₀) (hf : env.frame = some L) (hk : env.scope.kind = .function) (hd : dp + 8 < recursionLimit) (hu : un + 60 < cLine)
    (ret : ∀ t h' g' tk' ps', TriplesOk ps'.toList → Fr h₀ L h' m →
      News h₀ L h' ((383, tabObj ps') :: (x, instObj 448 dx) :: (dx, dictOf (vent7 w.params k1 k2 k3 k4 k5 k6 k7 a b c t1 t2 t3 tp tb tk) n) :: (tp, tupO vp) :: (tb, tupO vb) :: (tk, okey) :: (pk, oacc) :: led) →
      (AllBare s.gens → AllBare g') → R (.ok (.ret (.ref t))) ⟨h', g', s.drawn, tk', s.os⟩) :
    codeAny (model PySem.Challenge.rw_lh0061_01.row.prog w) (topA dp un gd env outer) (.call (.ref 388) ⟨[.ref x], [(Str.ofString "with_build", .bool true)]⟩) R s := by
  refine ConG.use (c_bpkT w k1 k2 k3 k4 k5 k6 k7 a b c t1 t2 t3 n hz hv hy hw x dx tp tb tk) B F N ht hn T X hf hk hd hu (fun q hq => ?_) fun r tl h' g' tk' ps' hp k hn' ht' F' N' n3 hg => ?_
  · exact sub4 q hq
  · obtain ⟨⟨t, rfl⟩, rfl⟩ := hp
    rw [List.append_nil] at N'
    exact ret _ _ _ _ _ ht' F' N' hg
end
section
variable {w : World} {a b c : Int} {zp zb : List Str} {h₀ h1 h' : Heap} {L x dx : Addr} {s : Shared} {R : Result → Shared → Prop} {ps ps' : Array Value} {sub tl full : List (Addr × Obj)} {o1 o2 : Obj} {g' : Array GenState} {tk' : Nat}
theorem ver_ret
    (hret : ∀ r tl h' g' tk' ps', (∃ x, r = .ref x ∧ VerObj w.params a b c zp zb x tl) → (∀ b o, b ≠ 383 → s.heap.get? b = some o → h'.get? b = some o) → 383 ∉ tl.map (·.1) → TriplesOk ps'.toList → News h₀ L h' ((383, tabObj ps') :: tl) → (AllBare s.gens → AllBare g') → R (.ok (.ret r)) ⟨h', g', s.drawn, tk', s.os⟩)
    (hk1 : ∀ b o, s.heap.get? b = some o → h1.get? b = some o) (hlt1 : ∀ b o, s.heap.get? b = some o → b < dx) (hlt : dx < x)
    (hK : KeptBut h1 ((383, tabObj ps) :: (x, o1) :: (dx, o2) :: sub) h') (N1 : News h₀ L h1 sub) (Nf : News h₀ L h' ((383, tabObj ps') :: full)) (mf : ∀ q ∈ tl, q ∈ full) (m5 : ∀ q ∈ sub, q ∈ full) (v : VerObj w.params a b c zp zb x tl) (hn : 383 ∉ full.map (·.1)) (ht : TriplesOk ps'.toList) (ab : AllBare s.gens → AllBare g') :
    R (.ok (.ret (.ref x))) ⟨h', g', s.drawn, tk', s.os⟩ := by
  refine hret _ tl h' g' tk' ps' ⟨x, rfl, v⟩ (fun b o hb e => ?_) (fun e => ?_) ht (fun q hq => ?_) ab
  rotate_left
  · obtain ⟨q, hq, e⟩ := List.mem_map.mp e
    exact hn (e ▸ List.mem_map_of_mem (mf q hq))
  · rcases List.mem_cons.mp hq with rfl | hq
    · exact Nf _ List.mem_cons_self
    · exact Nf _ (List.mem_cons_of_mem _ (mf q hq))
  have e1 := hk1 b o e
  by_cases hm : b ∈ sub.map (·.1)
  · obtain ⟨q, hq, rfl⟩ := List.mem_map.mp hm
    have a := (N1 q hq).1
    rw [a] at e1
    cases e1
    exact (Nf q (List.mem_cons_of_mem _ (m5 q hq))).1
  · have l1 := hlt1 b o e
    refine hK b o e1 ?_
    simp only [List.map_cons, List.mem_cons]
    rintro (h | h | h | h)
    · exact hb h
    · exact absurd (Nat.lt_trans l1 hlt) (h ▸ Nat.lt_irrefl _)
    · exact absurd l1 (h ▸ Nat.lt_irrefl _)
    · exact hm h
end
section
variable {w : World} {a b c : Int} {zp zb : List Str} {h₀ h1 h' : Heap} {L x dx : Addr} {s : Shared} {R : Result → Shared → Prop} {ps ps' : Array Value} {sub led0 led : List (Addr × Obj)} {o1 o2 : Obj} {g' : Array GenState} {tk' : Nat}
  {tp tb tk t8 pk : Addr} {k1 k2 k3 k4 k5 k6 k7 k8 t1 t2 t3 u1 u2 u3 : Tok} {n : Nat} {vp vb acc : List Value}
theorem ver_ret6
    (hret : ∀ r tl h' g' tk' ps', (∃ x, r = .ref x ∧ VerObj w.params a b c zp zb x tl) → (∀ b o, b ≠ 383 → s.heap.get? b = some o → h'.get? b = some o) → 383 ∉ tl.map (·.1) → TriplesOk ps'.toList → News h₀ L h' ((383, tabObj ps') :: tl) → (AllBare s.gens → AllBare g') → R (.ok (.ret r)) ⟨h', g', s.drawn, tk', s.os⟩)
    (hk1 : ∀ b o, s.heap.get? b = some o → h1.get? b = some o) (hlt1 : ∀ b o, s.heap.get? b = some o → b < dx) (hlt : dx < x)
    (hK : KeptBut h1 ((383, tabObj ps) :: (x, o1) :: (dx, o2) :: sub) h') (N1 : News h₀ L h1 sub)
    (Nf : News h₀ L h' ((383, tabObj ps') :: (x, instObj 448 dx) :: (dx, dictOf (vent8 w.params k1 k2 k3 k4 k5 k6 k7 k8 a b c t1 t2 t3 tp tb tk t8) n) :: (tp, tupO vp) :: (tb, tupO vb) :: (tk, tupO [.int a u1, .int b u2, .int c u3, .ref pk]) :: (pk, tupO acc) :: led))
    (hn : 383 ∉ (x :: dx :: tp :: tb :: tk :: pk :: led.map (·.1)))
    (m5 : ∀ q ∈ sub, q ∈ ((x, instObj 448 dx) :: (dx, dictOf (vent8 w.params k1 k2 k3 k4 k5 k6 k7 k8 a b c t1 t2 t3 tp tb tk t8) n) :: (tp, tupO vp) :: (tb, tupO vb) :: (tk, tupO [.int a u1, .int b u2, .int c u3, .ref pk]) :: (pk, tupO acc) :: led))
    (k : PreKey w.params zp acc led0) (su : ∀ q ∈ led0, q ∈ led) (hvp : StrsAre vp zp) (hvb : StrsAre vb zb) (ht : TriplesOk ps'.toList) (ab : AllBare s.gens → AllBare g') :
    R (.ok (.ret (.ref x))) ⟨h', g', s.drawn, tk', s.os⟩ :=
  ver_ret hret hk1 hlt1 hlt hK N1 Nf (mf6 su) m5 (.mk hvp hvb k) hn ht ab
end
theorem units_under_kw (A : Around) (C : Addr) (vals : List Value) (kw : List (Str × Value)) : (A.under (.builtin "type.__call__" ⟨.ref C :: vals, kw⟩)).units = A.units + 1 := rfl
theorem dict_ne {es : List DictEntry} {n : Nat} {vs : List Value} : dictOf es n ≠ tupO vs := fun e => by
  have h := congrArg Obj.cls e
  injection h with h
  revert h; decide
theorem tab_ne {ps : Array Value} {vs : List Value} : tabObj ps ≠ tupO vs := fun e => nomatch congrArg Obj.cls e
theorem inst_ne {C d : Addr} {vs : List Value} : instObj C d ≠ tupO vs := fun e => nomatch congrArg Obj.cls e
theorem not4 {z a b c d : Addr} (h1 : @Ne Nat z a) (h2 : @Ne Nat z b) (h3 : @Ne Nat z c) (h4 : @Ne Nat z d) : z ∉ [a, b, c, d] := by
  intro h
  simp only [List.mem_cons, List.not_mem_nil, or_false] at h
  rcases h with h | h | h | h
  · exact h1 h
  · exact h2 h
  · exact h3 h
  · exact h4 h
theorem suf_off {ps : Array Value} {x dx tp tb : Addr} {vp vb : List Value} {e : List (Addr × Obj)} (d1 : @Ne Nat 383 dx) (d2 : @Ne Nat x dx) (d3 : @Ne Nat tp dx) (d4 : @Ne Nat tb dx) (hE : Extra dx e) : ∀ q ∈ (383, tabObj ps) :: (x, instObj 448 dx) :: (tp, tupO vp) :: (tb, tupO vb) :: e, q.1 ≠ dx :=
  List.forall_mem_cons.mpr ⟨d1, List.forall_mem_cons.mpr ⟨d2, List.forall_mem_cons.mpr ⟨d3, List.forall_mem_cons.mpr ⟨d4, hE.off⟩⟩⟩⟩
section
theorem kw2_V2 : True := by
  (k_with "+callWith ref" => ((k_here; (with_reducible show wpAny _ _ (callWith _ (Value.ref _) _ (backTo _ (starEach [] _)) (backToKw _ _)) _ _ _); k_dflt (refine' callWith_KW0 ?k19q ?k29q ?k39q ?_; (case k19q => k_asm); (case k29q => k_is); (case k39q => exact rfl); k_whole))))
  (k_with "@k_mem" => (first | with_reducible assumption | with_reducible exact List.mem_cons_self | (with_reducible refine List.mem_cons_of_mem _ ?_; k_mem)))
  (k_with "@ktr_units" => (first | exact lt_r0 (by assumption) (by decide) | exact lt_rc (by assumption) (by decide) | exact lt_rd (by assumption) (by decide) | exact lt_z0 (by assumption) | (have hcL9 := cLine_is; ((try simp only [units_under_kw, units_in1, units_deeper, Around.mark_units, units_caller] at *); (try dsimp only [ktrTop, topA] at *); omega))))
  (k_with "@k_all" => (with_reducible assumption))
  (k_with "+truthy ref" => ((k_here; (with_reducible show wpAny _ _ (truthy (Value.ref _)) _ _ _); k_dflt (refine' ktl_truthyK ?N9q ?m9q ?z9q ?_; (case N9q => k_asm); (case m9q => k_mem); (case z9q => first | k_asm | exact Nat.le_of_ble_eq_true rfl); k_whole); (try simp only [List.isEmpty_cons, List.isEmpty_nil, Bool.not_false, Bool.not_true]))))
  (k_with "@k_enter" => ((refine' bpkF_use ?hE9q ?kpe9q ?hz9q ?hv9q ?hy9q ?hw9q ?k19q ?k29q ?k39q ?kp9q ?ht9q ?hn9q ?k49q ?k59q ?kF9q ?kK9q ?kd9q ?ku9q ?_; (case k39q => k_asm); (case k29q => k_asm); (case k19q => k_asm); (case k49q => k_asm); (case k59q => k_asm); (case kp9q => walk_at "con sub"); (case hE9q => k_asm); (case kpe9q => (intro q9 hq9; exact List.mem_cons_of_mem _ (hke q9 hq9))); (case ht9q => k_asm); (case kF9q => first | exact rfl | assumption); (case kK9q => first | exact rfl | assumption); (case kd9q => ktr_room); (case ku9q => ktr_units); (case hv9q => k_asm); (case hz9q => k_asm); (case hw9q => k_asm); (case hy9q => k_asm); (case hn9q => k_asm)); k_whole; intro t9 pk9 acc9 led8 led9 h9 g9 tk9 ps9 ko9 su9 se9 tr9 F9 N9 n9 d1 d2 d3 b9; (try dsimp only)))
  (k_with "@k_enter" => ((refine' bpkT_use ?hz9q ?hv9q ?hy9q ?hw9q ?k19q ?k29q ?k39q ?ht9q ?hn9q ?k49q ?k59q ?kF9q ?kK9q ?kd9q ?ku9q ?_; (case k39q => k_asm); (case k29q => k_asm); (case k19q => k_asm); (case k49q => k_asm); (case k59q => k_asm); (case ht9q => k_asm); (case kF9q => first | exact rfl | assumption); (case kK9q => first | exact rfl | assumption); (case kd9q => ktr_room); (case ku9q => ktr_units); (case hv9q => k_asm); (case hz9q => k_asm); (case hw9q => k_asm); (case hy9q => k_asm); (case hn9q => k_asm); k_whole; intro t9 h9 g9 tk9 ps9 tr9 F9 N9 b9; (try dsimp only))))
  exact True.intro
theorem ver_suf (w : World) : ∀ (qual : Str) (scope : Scope) (rest : List Stmt), FnSel tail5 ((Mine.fr.heap_1 w.params).lookup 269) qual scope rest → ∀ (p : Program) (loose : List Str) (mean : ExcName → Option Value) (mg mb : Str → Option Value) (dp un : Nat) (gd : Option (List Code)) (outer : List Env) (A₀ : Around) (base h₀ : Heap) (L fa : Addr) (cd : Value) (m : Str → Option Value) (a b c : Int) (t1 t2 t3 : Tok) (x dx tp tb : Addr) (zp zb : List Str) (vp vb : List Value) (ps : Array Value) (full e : List (Addr × Obj)) (h : Heap) (g : Array GenState) (dr : Drawn) (os : OsState) (tk : Nat) (Q : Flow → Shared → Prop) (E : Value → Shared → Prop),
    Below A₀ base outer h₀ → Top p loose mean mg mb h₀ → (Mine.fr.heap_1 w.params).In h₀ → dp + 10 < recursionLimit → un + 70 < cLine → Fr h₀ L h m → m (Str.ofString "self") = some (.ref x) → m (Str.ofString "major") = some (.int a t1) → m (Str.ofString "minor") = some (.int b t2) → m (Str.ofString "patch") = some (.int c t3) → m (Str.ofString "prerelease") = some (.ref tp) → m (Str.ofString "build") = some (.ref tb) → m (Str.ofString "partial") = some (.bool false) → Ids zp → Ids zb → StrsAre vp zp → StrsAre vb zb → TriplesOk ps.toList → Extra dx e → @Ne Nat 383 dx → @Ne Nat x dx → @Ne Nat tp dx → @Ne Nat tb dx → 383 ∉ [x, dx, tp, tb] → News h₀ L h full →
    (∀ q ∈ (dx, dictOf [] 0) :: (383, tabObj ps) :: (x, instObj 448 dx) :: (tp, tupO vp) :: (tb, tupO vb) :: e, q ∈ full) →
    (∀ t t8 pk acc led0 led h' g' tk' ps' m' k1 k2 k3 k4 k5 k6 k7 k8 n, PreKey w.params zp acc led0 → (∀ q ∈ led0, q ∈ led) → (∀ q ∈ e, q ∈ led) → TriplesOk ps'.toList → Fr h₀ L h' m' →
      News h₀ L h' ((383, tabObj ps') :: (x, instObj 448 dx) :: (dx, dictOf (vent8 w.params k1 k2 k3 k4 k5 k6 k7 k8 a b c t1 t2 t3 tp tb t t8) n) :: (tp, tupO vp) :: (tb, tupO vb) :: (t, tupO [.int a t1, .int b t2, .int c t3, .ref pk]) :: (pk, tupO acc) :: led) →
      383 ∉ (x :: dx :: tp :: tb :: t :: pk :: led.map (·.1)) → (AllBare g → AllBare g') → Q .next ⟨h', g', dr, tk', os⟩) →
    wpAny (model PySem.Challenge.rw_lh0061_01.row.prog w) (topA dp un gd (envOf qual scope L fa cd) outer) (execs rest (envOf qual scope L fa cd)) Q E ⟨h, g, dr, tk, os⟩ := by
  k_fill
  refine' tail5_elim ?h1 ?_
  case h1 => k_is
  intro p loose mean mg mb dp un gd outer A₀ base h₀ L fa cd m a b c t1 t2 t3 x dx tp tb zp zb vp vb ps full e h g dr os tk Q E B T X hd hu F0 q1 q2 q3 q4 q5 q6 q7 hz hy hvp hvb ht hE d1 d2 d3 d4 hn N0 kp next
  have F := fr_map F0 (map_cons q1 (map_cons q2 (map_cons q3 (map_cons q4 (map_cons q5 (map_cons q6 (map_cons q7 (rfl))))))))
  clear F0 q1 q2 q3 q4 q5 q6 q7
  have N1 := news_pick N0 kp
  have hoff := suf_off (ps := ps) (vp := vp) (vb := vb) d1 d2 d3 d4 hE
  have m1 : (383, tabObj ps) ∈ (383, tabObj ps) :: (x, instObj 448 dx) :: (tp, tupO vp) :: (tb, tupO vb) :: e := List.mem_cons_self
  have m2 : (x, instObj 448 dx) ∈ (383, tabObj ps) :: (x, instObj 448 dx) :: (tp, tupO vp) :: (tb, tupO vb) :: e := List.mem_cons_of_mem _ List.mem_cons_self
  have m3 : (tp, tupO vp) ∈ (383, tabObj ps) :: (x, instObj 448 dx) :: (tp, tupO vp) :: (tb, tupO vb) :: e := List.mem_cons_of_mem _ (List.mem_cons_of_mem _ List.mem_cons_self)
  have m4 : (tb, tupO vb) ∈ (383, tabObj ps) :: (x, instObj 448 dx) :: (tp, tupO vp) :: (tb, tupO vb) :: e := List.mem_cons_of_mem _ (List.mem_cons_of_mem _ (List.mem_cons_of_mem _ List.mem_cons_self))
  have hke : ∀ q ∈ e, q ∈ (383, tabObj ps) :: (x, instObj 448 dx) :: (tp, tupO vp) :: (tb, tupO vb) :: e := fun q hq => List.mem_cons_of_mem _ (List.mem_cons_of_mem _ (List.mem_cons_of_mem _ (List.mem_cons_of_mem _ hq)))
  clear N0 kp
  generalize (383, tabObj ps) :: (x, instObj 448 dx) :: (tp, tupO vp) :: (tb, tupO vb) :: e = led at N1 hoff m1 m2 m3 m4 hke
  k_steps
  all_goals (refine' next _ _ _ _ _ _ _ _ _ _ _ _ _ _ _ _ _ _ _ _ ?k ?su ?se ?ht ?F ?N ?hn ?ab; (case k => k_asm); (case F => k_asm); (case N => k_asm); (case su => k_asm); (case se => k_asm); (case ht => k_asm); (case hn => k_asm); (case ab => (intro hb; solve_by_elim)))
end
theorem kw3_V2 : True := by
  k_with_none
  (k_with "+lt room" => (first | exact lt_r0 (by assumption) (by decide) | exact lt_rc (by assumption) (by decide) | exact lt_rd (by assumption) (by decide) | exact lt_z0 (by assumption)))
  (k_with "@ktr_room" => (walk_at "lt room"))
  (k_with "@ktr_units" => (walk_at "lt room"))
  (k_with "@units_room" => (walk_at "lt room"))
  (k_with "@k_room" => (ktr_room))
  (k_with "+con binds" => (first | exact fm_nilE (by exact rfl) | exact fm_some (by exact rfl) (by walk_at "con binds")))
  (k_with "+con enter" => ((k_dflt (refine' code_keep ?k19q ?k29q ?k39q ?k49q ?k59q ?kA9q ?kF9q ?kK9q ?k69q ?k79q ?k89q ?k99q ?kB9q ?_ ?c29q ?c39q ?c49q ?c59q; (case kA9q => exact rfl); (case kF9q => assumption); (case kK9q => assumption); (case k49q => k_asm); (case k19q => k_asm); (case k29q => k_asm); (case k39q => k_asm); (case k59q => k_asm); (case k69q => k_is); (case k79q => k_is); (case k89q => ktr_room); (case k99q => (refine' binds_to ?b99q ?e99q; (case b99q => first | exact BindsTo.of_eq rfl | exact binds_K (by k_in) rfl (by k_is) rfl rfl rfl | fail "con enter: no rule for these arguments"); (case e99q => first | (walk_at "con binds") | (walk_say "con enter: binds left as they are"; exact rfl)))); (case c59q => decide); (case kB9q => exact locs rfl); (case c29q => exact rfl); (case c39q => exact rfl); (case c49q => exact rfl); k_whole; intro g' L' h' FG' F' N' B' X' T' G0'; (try dsimp only); (try k_fold)))))
  (k_with "+con sub" => (repeat (first | exact sub_nil | refine sub_cons (by k_mem) ?_)))
  (k_with "+ite" => ((k_here; k_openite; with_reducible refine ite_isFalse (bne_self_eq_false _) ?_; walk_say "PRUNED same")))
  (k_with "+con sides" => (((case k39q => k_asm); (case k29q => k_asm); (case k19q => k_asm); (case k49q => k_asm); (case k59q => k_asm); (case kF9q => first | exact rfl | assumption); (case kK9q => first | exact rfl | assumption); (case kd9q => ktr_room); (case ku9q => ktr_units); (case ks9q => walk_at "con sub"))))
  (k_with "+ne close" => (first | assumption | exact Ne.symm (by assumption) | exact Nat.ne_of_lt (by assumption) | exact Nat.ne_of_gt (by assumption) | exact Nat.ne_of_lt (Nat.lt_trans (by assumption) (by assumption)) | exact Nat.ne_of_gt (Nat.lt_trans (by assumption) (by assumption)) | (rename _ ∧ _ => hh9; obtain ⟨_, _⟩ := hh9; walk_at "ne close")))
  (k_with "@k_ne" => ((refine neN ?_; (try dsimp only); with_reducible walk_at "ne close")))
  (k_with "+getMethod ref" => ((k_here; k_dflt (first
    | (refine' kmu_cm ?k19q ?k29q ?k39q ?k49q ?k59q ?k69q ?k79q ?k89q ?k99q ?k109q ?k119q ?k129q ?k139q ?_; (case k19q => k_asm); (case k29q => k_asm); (case k39q => k_asm); (case k49q => k_inst); (case k59q => k_is); (case k69q => k_is); (case k79q => k_is); (case k89q => k_is); (case k99q => k_is); (case k109q => k_is); (case k119q => decide +kernel); (case k129q => k_get); (case k139q => k_is); k_whole; intro q' h' F' N' l1; (try k_lt l1); (try k_sweep))
    | (refine' method_inst ?k19q ?k29q ?k39q ?k49q ?k59q ?k69q ?k79q ?_; (case k19q => k_asm); (case k29q => k_asm); (case k39q => k_inst); (case k49q => k_is); (case k59q => k_is); (case k69q => k_is); (case k79q => k_get); k_whole)))))
  exact True.intro
section
theorem kw4_V2 : True := by
  (k_with "@ktr_units" => (first | exact lt_r0 (by assumption) (by decide) | exact lt_rc (by assumption) (by decide) | exact lt_rd (by assumption) (by decide) | exact lt_z0 (by assumption) | (have hcL9 := cLine_is; ((try simp only [units_under_kw, units_in1, units_deeper, Around.mark_units, units_caller] at *); (try dsimp only [ktrTop, topA] at *); omega))))
  (k_with "@k_all" => (with_reducible assumption))
  (k_with "+truthy ref" => ((k_here; (with_reducible show wpAny _ _ (truthy (Value.ref _)) _ _ _); k_dflt (refine' ktl_truthyK ?N9q ?m9q ?z9q ?_; (case N9q => k_asm); (case m9q => k_mem); (case z9q => first | k_asm | exact Nat.le_of_ble_eq_true rfl); k_whole); (try simp only [List.isEmpty_cons, List.isEmpty_nil, Bool.not_false, Bool.not_true]))))
  (k_with "+callWith ref" => ((k_here; k_dflt (refine' callWith_MKW ?k19q ?k29q ?k39q ?k49q ?k59q ?_; (case k19q => k_asm); (case k29q => k_asm); (case k39q => k_mem); (case k49q => k_is); (case k59q => exact rfl); k_whole))))
  (k_with "@k_enter" => ((refine' Con.use0 (c_vkw _ _ _ _ _ _ _ ?hp9q ?hb9q ?hvp9q ?hvb9q _ _) ?k19q ?k29q ?k39q ?k49q ?k59q ?kF9q ?kK9q ?kd9q ?ku9q ?ks9q ?_; walk_at "con sides"; (case hvp9q => k_asm); (case hvb9q => k_asm); (case hp9q => k_asm); (case hb9q => k_asm); k_whole; intro h9 tk9 F9 N9; (try dsimp only))))
  (k_with "+execs cons" => ((k_here; (with_reducible show wpAny _ _ (execs (Stmt.Assign [PySem.Expr.Attribute _ (Str.ofString "major") _] _ _ :: _) _) _ _ _); k_dflt (refine' ver_suf _ _ _ _ HPs _ _ _ _ _ _ _ _ _ _ _ _ _ _ _ _ _ _ _ _ _ _ _ _ _ _ _ _ _ _ _ _ _ _ _ _ _ _ _ _ ?B9q ?T9q ?X9q ?hd9q ?hu9q ?F9q ?q19q ?q29q ?q39q ?q49q ?q59q ?q69q ?q79q ?hz9q ?hy9q ?hvp9q ?hvb9q ?ht9q ?hE9q ?d19q ?d29q ?d39q ?d49q ?hn9q ?N9q ?kp9q ?_; (case F9q => k_asm); (case B9q => k_asm); (case T9q => k_asm); (case X9q => k_asm); (case hd9q => ktr_room); (case hu9q => ktr_units); (case q19q => with_unfolding_all rfl); (case q29q => with_unfolding_all rfl); (case q39q => with_unfolding_all rfl); (case q49q => with_unfolding_all rfl); (case q59q => with_unfolding_all rfl); (case q69q => with_unfolding_all rfl); (case q79q => with_unfolding_all rfl); (case N9q => k_asm); (case ht9q => k_asm); (case hE9q => k_asm); (case kp9q => walk_at "con sub"); (case hvp9q => k_asm); (case hvb9q => k_asm); (case hz9q => k_asm); (case hy9q => k_asm); (case d19q => k_ne); (case d29q => k_ne); (case d39q => k_ne); (case d49q => k_ne); (case hn9q => (refine' not4 ?n19q ?n29q ?n39q ?n49q; (case n19q => k_ne); (case n29q => k_ne); (case n39q => k_ne); (case n49q => k_ne)))); intro t9 t8 pk9 acc9 led8 led9 h9 g9 tk9 ps9 m9 k1 k2 k3 k4 k5 k6 k7 k8 n9 ko9 su9 se9 tr9 F9 N9 hn9 b9; (try dsimp only))))
  exact True.intro
theorem c_verK (w : World) (a b c : Int) (t1 t2 t3 : Tok)  : ConV w 20 100 (.ref 448) [] [(Str.ofString "major", .int a t1), (Str.ofString "minor", .int b t2), (Str.ofString "patch", .int c t3), (Str.ofString "partial", .bool false)] [] (fun r tl => ∃ x, r = .ref x ∧ VerObj w.params a b c [] [] x tl) := by
  unfold ConV
  intro p loose mean mg mb dp un gd env outer A₀ base h₀ L m rest ps s R B F N htr hne T hf hk hd hu hsub hret
  k_fill
  intro X
  have HPs := tail5_of (o := (Mine.fr.heap_1 w.params).lookup 269) (by k_is)
  refine make_keepL (fI := 269) F X (by k_is) (by k_is) (by k_is) fun x dx h1 F1 N1 hk1 hlt1 hlt => ?_
  k_lt2 hlt
  have l383 := ltN (hlt1 _ _ (N _ List.mem_cons_self).1)
  have NS : News h₀ L h1 [] := fun q hq => ⟨hk1 _ _ (N q (List.mem_cons_of_mem _ (hsub q hq))).1, (N q (List.mem_cons_of_mem _ (hsub q hq))).2⟩
  have N0 : News h₀ L h1 ((383, tabObj ps) :: (x, instObj 448 dx) :: (dx, dictOf [] 0) :: []) := by
    intro q hq
    rcases List.mem_cons.mp hq with rfl | hq
    · exact ⟨hk1 _ _ (N _ List.mem_cons_self).1, (N _ List.mem_cons_self).2⟩
    rcases List.mem_cons.mp hq with rfl | hq
    · exact N1 _ List.mem_cons_self
    rcases List.mem_cons.mp hq with rfl | hq
    · exact N1 _ (List.mem_cons_of_mem _ List.mem_cons_self)
    exact NS q hq
  have i0 : Ids [] := ⟨Nat.zero_le _, fun _ h => nomatch h⟩
  have s0 : StrsAre [] [] := .nil
  have hE : Extra dx [] := ⟨(fun _ h => nomatch h), (fun _ h => nomatch h)⟩
  dsimp only at l383
  walk_at "con enter"
  k_steps
  (unfold KeptEnd; dsimp only [InitBack]; intro hK; refine ⟨rfl, ?_⟩; refine' ver_ret6 hret hk1 hlt1 hlt hK ?N1 ?N' ?hn ?m5 ?k ?su ?hvp ?hvb ?ht ?ab; (case N' => k_asm); (case k => k_asm); (case su => k_asm); (case hvp => k_asm); (case hvb => k_asm); (case hn => k_asm); (case ht => k_asm); (case ab => (intro hb; solve_by_elim)); (case N1 => exact NS); (case m5 => exact fun _ h => nomatch h))
theorem kw5_V2 : True := by
  (k_with "+eval BoolOp" => ((k_here; (with_reducible show wpAny _ _ (eval (PySem.Expr.BoolOp _ [PySem.Expr.Name _ _, PySem.Expr.Tuple _ _ _] _) _) _ _ _); k_dflt (refine' or_tup ?hA9q ?F9q ?N9q ?hm9q ?hv9q ?hz9q ?_; (case hA9q => (intro Q9 h9; (repeat walk1); exact h9 _)); (case F9q => k_asm); (case N9q => k_asm); (case hm9q => k_mem); (case hv9q => k_asm); (case hz9q => k_asm)); intro D9 h9 tk9 n9 F9 N9; k_dflt ((have d91 := n9 (dx, dictOf [] 0) (by k_mem) dict_ne); (have d92 := n9 (383, tabObj ps) (by k_mem) tab_ne); (have d93 := n9 (x, instObj 448 dx) (by k_mem) inst_ne)); (dsimp only at d91 d92 d93); (try dsimp only))))
  exact True.intro
theorem c_verP (w : World) (a b c : Int) (t1 t2 t3 : Tok) {zp : List Str} {vp : List Value} (hz : Ids zp) (hv : StrsAre vp zp) (tp : Addr) : ConV w 20 100 (.ref 448) [] [(Str.ofString "major", .int a t1), (Str.ofString "minor", .int b t2), (Str.ofString "patch", .int c t3), (Str.ofString "prerelease", .ref tp), (Str.ofString "partial", .bool false)] [(tp, tupO vp)] (fun r tl => ∃ x, r = .ref x ∧ VerObj w.params a b c zp [] x tl) := by
  unfold ConV
  intro p loose mean mg mb dp un gd env outer A₀ base h₀ L m rest ps s R B F N htr hne T hf hk hd hu hsub hret
  k_fill
  intro X
  have HPs := tail5_of (o := (Mine.fr.heap_1 w.params).lookup 269) (by k_is)
  refine make_keepL (fI := 269) F X (by k_is) (by k_is) (by k_is) fun x dx h1 F1 N1 hk1 hlt1 hlt => ?_
  k_lt2 hlt
  have l383 := ltN (hlt1 _ _ (N _ List.mem_cons_self).1)
  have NS : News h₀ L h1 [(tp, tupO vp)] := fun q hq => ⟨hk1 _ _ (N q (List.mem_cons_of_mem _ (hsub q hq))).1, (N q (List.mem_cons_of_mem _ (hsub q hq))).2⟩
  have N0 : News h₀ L h1 ((383, tabObj ps) :: (x, instObj 448 dx) :: (dx, dictOf [] 0) :: [(tp, tupO vp)]) := by
    intro q hq
    rcases List.mem_cons.mp hq with rfl | hq
    · exact ⟨hk1 _ _ (N _ List.mem_cons_self).1, (N _ List.mem_cons_self).2⟩
    rcases List.mem_cons.mp hq with rfl | hq
    · exact N1 _ List.mem_cons_self
    rcases List.mem_cons.mp hq with rfl | hq
    · exact N1 _ (List.mem_cons_of_mem _ List.mem_cons_self)
    exact NS q hq
  have i0 : Ids [] := ⟨Nat.zero_le _, fun _ h => nomatch h⟩
  have s0 : StrsAre [] [] := .nil
  have ltp := ltN (hlt1 _ _ (N _ (List.mem_cons_of_mem _ (hsub _ List.mem_cons_self))).1)
  have n3p : @Ne Nat 383 tp := fun e => hne (e ▸ List.mem_map_of_mem (f := (·.1)) (hsub _ List.mem_cons_self))
  have nxp : @Ne Nat x tp := fun e => absurd (Nat.lt_trans ltp hlt) (e ▸ Nat.lt_irrefl _)
  dsimp only at ltp
  have hE : Extra dx [(tp, tupO vp)] := ⟨fun q hq => by rw [List.mem_singleton.mp hq]; exact Nat.ne_of_lt ltp, fun q hq => by rw [List.mem_singleton.mp hq]; exact Ne.symm n3p⟩
  dsimp only at l383
  have hsz : vp.length ≤ 1000 := by rw [StrsAre.length hv]; exact Nat.le_trans hz.few (by decide)
  walk_at "con enter"
  k_steps
  (unfold KeptEnd; dsimp only [InitBack]; intro hK; refine ⟨rfl, ?_⟩; refine' ver_ret6 hret hk1 hlt1 hlt hK ?N1 ?N' ?hn ?m5 ?k ?su ?hvp ?hvb ?ht ?ab; (case N' => k_asm); (case k => k_asm); (case su => k_asm); (case hvp => k_asm); (case hvb => k_asm); (case hn => k_asm); (case ht => k_asm); (case ab => (intro hb; solve_by_elim)); (case N1 => exact NS); (case m5 => exact me6 (by assumption)))
end
theorem kw6_V2 : True := by
  k_with_none
  (k_with "+lt room" => (first | exact lt_r0 (by assumption) (by decide) | exact lt_rc (by assumption) (by decide) | exact lt_rd (by assumption) (by decide) | exact lt_z0 (by assumption)))
  (k_with "@ktr_room" => (walk_at "lt room"))
  (k_with "@ktr_units" => (walk_at "lt room"))
  (k_with "@units_room" => (walk_at "lt room"))
  (k_with "@k_room" => (ktr_room))
  (k_with "+con binds" => (first | exact fm_nilE (by exact rfl) | exact fm_some (by exact rfl) (by walk_at "con binds")))
  (k_with "+con enter" => ((k_dflt (refine' code_keep ?k19q ?k29q ?k39q ?k49q ?k59q ?kA9q ?kF9q ?kK9q ?k69q ?k79q ?k89q ?k99q ?kB9q ?_ ?c29q ?c39q ?c49q ?c59q; (case kA9q => exact rfl); (case kF9q => assumption); (case kK9q => assumption); (case k49q => k_asm); (case k19q => k_asm); (case k29q => k_asm); (case k39q => k_asm); (case k59q => k_asm); (case k69q => k_is); (case k79q => k_is); (case k89q => ktr_room); (case k99q => (refine' binds_to ?b99q ?e99q; (case b99q => first | exact BindsTo.of_eq rfl | exact binds_K (by k_in) rfl (by k_is) rfl rfl rfl | fail "con enter: no rule for these arguments"); (case e99q => first | (walk_at "con binds") | (walk_say "con enter: binds left as they are"; exact rfl)))); (case c59q => decide); (case kB9q => exact locs rfl); (case c29q => exact rfl); (case c39q => exact rfl); (case c49q => exact rfl); k_whole; intro g' L' h' FG' F' N' B' X' T' G0'; (try dsimp only); (try k_fold)))))
  (k_with "+con sub" => (repeat (first | exact sub_nil | refine sub_cons (by k_mem) ?_)))
  (k_with "+ite" => ((k_here; k_openite; with_reducible refine ite_isFalse (bne_self_eq_false _) ?_; walk_say "PRUNED same")))
  (k_with "+con sides" => (((case k39q => k_asm); (case k29q => k_asm); (case k19q => k_asm); (case k49q => k_asm); (case k59q => k_asm); (case kF9q => first | exact rfl | assumption); (case kK9q => first | exact rfl | assumption); (case kd9q => ktr_room); (case ku9q => ktr_units); (case ks9q => walk_at "con sub"))))
  (k_with "+ne close" => (first | assumption | exact Ne.symm (by assumption) | exact Nat.ne_of_lt (by assumption) | exact Nat.ne_of_gt (by assumption) | exact Nat.ne_of_lt (Nat.lt_trans (by assumption) (by assumption)) | exact Nat.ne_of_gt (Nat.lt_trans (by assumption) (by assumption)) | (rename _ ∧ _ => hh9; obtain ⟨_, _⟩ := hh9; walk_at "ne close")))
  (k_with "@k_ne" => ((refine neN ?_; (try dsimp only); with_reducible walk_at "ne close")))
  (k_with "+getMethod ref" => ((k_here; k_dflt (first
    | (refine' kmu_cm ?k19q ?k29q ?k39q ?k49q ?k59q ?k69q ?k79q ?k89q ?k99q ?k109q ?k119q ?k129q ?k139q ?_; (case k19q => k_asm); (case k29q => k_asm); (case k39q => k_asm); (case k49q => k_inst); (case k59q => k_is); (case k69q => k_is); (case k79q => k_is); (case k89q => k_is); (case k99q => k_is); (case k109q => k_is); (case k119q => decide +kernel); (case k129q => k_get); (case k139q => k_is); k_whole; intro q' h' F' N' l1; (try k_lt l1); (try k_sweep))
    | (refine' method_inst ?k19q ?k29q ?k39q ?k49q ?k59q ?k69q ?k79q ?_; (case k19q => k_asm); (case k29q => k_asm); (case k39q => k_inst); (case k49q => k_is); (case k59q => k_is); (case k69q => k_is); (case k79q => k_get); k_whole)))))
  exact True.intro
theorem kw7_V2 : True := by
  k_with_none
  (k_with "+lt room" => (first | exact lt_r0 (by assumption) (by decide) | exact lt_rc (by assumption) (by decide) | exact lt_rd (by assumption) (by decide) | exact lt_z0 (by assumption)))
  (k_with "@ktr_room" => (walk_at "lt room"))
  (k_with "@ktr_units" => (walk_at "lt room"))
  (k_with "@units_room" => (walk_at "lt room"))
  (k_with "@k_room" => (ktr_room))
  (k_with "+con binds" => (first | exact fm_nilE (by exact rfl) | exact fm_some (by exact rfl) (by walk_at "con binds")))
  (k_with "+con enter" => ((k_dflt (refine' code_keep ?k19q ?k29q ?k39q ?k49q ?k59q ?kA9q ?kF9q ?kK9q ?k69q ?k79q ?k89q ?k99q ?kB9q ?_ ?c29q ?c39q ?c49q ?c59q; (case kA9q => exact rfl); (case kF9q => assumption); (case kK9q => assumption); (case k49q => k_asm); (case k19q => k_asm); (case k29q => k_asm); (case k39q => k_asm); (case k59q => k_asm); (case k69q => k_is); (case k79q => k_is); (case k89q => ktr_room); (case k99q => (refine' binds_to ?b99q ?e99q; (case b99q => first | exact BindsTo.of_eq rfl | exact binds_K (by k_in) rfl (by k_is) rfl rfl rfl | fail "con enter: no rule for these arguments"); (case e99q => first | (walk_at "con binds") | (walk_say "con enter: binds left as they are"; exact rfl)))); (case c59q => decide); (case kB9q => exact locs rfl); (case c29q => exact rfl); (case c39q => exact rfl); (case c49q => exact rfl); k_whole; intro g' L' h' FG' F' N' B' X' T' G0'; (try dsimp only); (try k_fold)))))
  (k_with "+con sub" => (repeat (first | exact sub_nil | refine sub_cons (by k_mem) ?_)))
  (k_with "+ite" => ((k_here; k_openite; with_reducible refine ite_isFalse (bne_self_eq_false _) ?_; walk_say "PRUNED same")))
  (k_with "+con sides" => (((case k39q => k_asm); (case k29q => k_asm); (case k19q => k_asm); (case k49q => k_asm); (case k59q => k_asm); (case kF9q => first | exact rfl | assumption); (case kK9q => first | exact rfl | assumption); (case kd9q => ktr_room); (case ku9q => ktr_units); (case ks9q => walk_at "con sub"))))
  (k_with "+ne close" => (first | assumption | exact Ne.symm (by assumption) | exact Nat.ne_of_lt (by assumption) | exact Nat.ne_of_gt (by assumption) | exact Nat.ne_of_lt (Nat.lt_trans (by assumption) (by assumption)) | exact Nat.ne_of_gt (Nat.lt_trans (by assumption) (by assumption)) | (rename _ ∧ _ => hh9; obtain ⟨_, _⟩ := hh9; walk_at "ne close")))
  (k_with "@k_ne" => ((refine neN ?_; (try dsimp only); with_reducible walk_at "ne close")))
  exact True.intro
end
section
theorem sub_383 {rest sub : List (Addr × Obj)} (hne : 383 ∉ rest.map (·.1)) (hs : ∀ q ∈ sub, q ∈ rest) : 383 ∉ sub.map (·.1) := fun h => by
  obtain ⟨q, hq, e⟩ := List.mem_map.mp h
  exact hne (e ▸ List.mem_map_of_mem (hs q hq))
section
variable {w : World} {h₀ h' : Heap} {L : Addr} {s : Shared} {R : Result → Shared → Prop} {ps ps' : Array Value} {sub tl : List (Addr × Obj)} {g' : Array GenState} {tk' : Nat} {post : Value → List (Addr × Obj) → Prop} {r : Value}
theorem v_ret
    (hret : ∀ r tl h' g' tk' ps', post r tl → (∀ b o, b ≠ 383 → s.heap.get? b = some o → h'.get? b = some o) → 383 ∉ tl.map (·.1) → TriplesOk ps'.toList → News h₀ L h' ((383, tabObj ps') :: tl) → (AllBare s.gens → AllBare g') → R (.ok (.ret r)) ⟨h', g', s.drawn, tk', s.os⟩)
    (N0 : News h₀ L s.heap ((383, tabObj ps) :: sub)) (hK : KeptBut s.heap ((383, tabObj ps) :: sub) h') (kN : News h₀ L h' ((383, tabObj ps') :: (sub ++ tl))) (n3 : 383 ∉ (sub ++ tl).map (·.1)) (hp : post r tl) (ht : TriplesOk ps'.toList) (ab : AllBare s.gens → AllBare g') :
    R (.ok (.ret r)) ⟨h', g', s.drawn, tk', s.os⟩ := by
  refine hret r tl h' g' tk' ps' hp (gkeep N0 hK fun q hq => kN q (List.mem_cons_of_mem _ (List.mem_append_left _ hq))) (fun h => n3 ?_) ht (fun q hq => ?_) ab
  · rw [List.map_append, List.mem_append]; exact .inr h
  · rcases List.mem_cons.mp hq with rfl | hq
    · exact kN _ List.mem_cons_self
    · exact kN q (List.mem_cons_of_mem _ (List.mem_append_right _ hq))
end
noncomputable def nMaj (a b c : Int) (zp : List Str) : Int × Int × Int := if zp ≠ [] ∧ b = c ∧ c = 0 then (a, 0, 0) else (a + 1, 0, 0)
noncomputable def nMin (a b c : Int) (zp : List Str) : Int × Int × Int := if zp ≠ [] ∧ c = 0 then (a, b, 0) else (a, b + 1, 0)
noncomputable def nPat (a b c : Int) (zp : List Str) : Int × Int × Int := if zp ≠ [] then (a, b, c) else (a, b, c + 1)
/-- a version without pre-release and build is given back -/
noncomputable def NextPost (P : Params) (v : Int × Int × Int) (r : Value) (tl : List (Addr × Obj)) : Prop := ∃ x A B C, r = .ref x ∧ VerObj P A B C [] [] x tl ∧ v = (A, B, C)
section
theorem kw1_W1 : True := by
  (k_with "+callWith ref" => ((k_here; k_dflt (refine' callWith_KW0 ?k19q ?k29q ?k39q ?_; (case k19q => k_asm); (case k29q => k_is); (case k39q => exact rfl); k_whole))))
  (k_with "+truthy ref" => ((k_here; (with_reducible show wpAny _ _ (truthy (Value.ref _)) _ _ _); k_dflt (refine' ktl_truthyK ?N9q ?m9q ?z9q ?_; (case N9q => k_asm); (case m9q => k_mem); (case z9q => first | k_asm | exact Nat.le_of_ble_eq_true rfl); k_whole); (try simp only [List.isEmpty_cons, List.isEmpty_nil, Bool.not_false, Bool.not_true]))))
  (k_with "+call ref" => ((k_here; k_dflt (refine wpAny_call ?_; refine' ConV.useR (c_verK _ _ _ _ _ _ _) ?k19q ?k29q ?k39q ?ht9q ?hn9q ?k49q ?k59q ?kF9q ?kK9q ?kd9q ?ku9q sub_nil ?_; (case k39q => k_asm); (case k29q => k_asm); (case k19q => k_asm); (case k49q => k_asm); (case k59q => k_asm); (case ht9q => k_asm); (case hn9q => k_asm); (case kF9q => first | exact rfl | assumption); (case kK9q => first | exact rfl | assumption); (case kd9q => ktr_room); (case ku9q => ktr_units); k_whole; intro x9 tl9 h9 g9 tk9 ps9 v9 c9 t9 F9 N9 n9 b9; (try dsimp only)))))
  (k_with "+truthy ref" => ((k_here; (with_reducible show wpAny _ _ (truthy (Value.ref _)) _ _ _); k_dflt (refine' truthy_strs ?N9q ?m9q ?x9q ?z9q ?_; (case N9q => k_asm); (case m9q => k_mem); (case x9q => k_asm); (case z9q => k_asm); k_whole))))
  exact True.intro
theorem c_nmajX (w : World) (a b c : Int) {zp : List Str} {x dx tp tb tk t8 pk : Addr} {k1 k2 k3 k4 k5 k6 k7 k8 t1 t2 t3 u1 u2 u3 : Tok} {n : Nat} {vp vb acc : List Value} {led : List (Addr × Obj)} (hvp : StrsAre vp zp) (hsz : vp.length ≤ 1000) :
    ConV w 30 150 (.ref 287) [.ref x] [] ((x, instObj 448 dx) :: (dx, dictOf (vent8 w.params k1 k2 k3 k4 k5 k6 k7 k8 a b c t1 t2 t3 tp tb tk t8) n) :: (tp, tupO vp) :: (tb, tupO vb) :: (tk, tupO [.int a u1, .int b u2, .int c u3, .ref pk]) :: (pk, tupO acc) :: led) (NextPost w.params (nMaj a b c zp)) := by
  unfold ConV
  intro p loose mean mg mb dp un gd env outer A₀ base h₀ L m rest ps s R B F N htr hne T hf hk hd hu hsub hret
  k_fill
  intro X
  have N0 := news_subG N hsub
  have h3 := sub_383 hne hsub
  walk_at "con enter"
  k_steps
  all_goals (unfold KeptEnd; dsimp only; intro hK; refine' v_ret hret N0 hK ?kN ?n3 ?post ?ht ?ab; (case kN => k_asm); (case n3 => k_asm); (case ht => k_asm); (case ab => assumption); (case post => exact ⟨_, _, _, _, rfl, by assumption, by simp [nMaj, *]⟩))
theorem c_nmaj (w : World) (a b c : Int) {zp zb : List Str} {x : Addr} {tl : List (Addr × Obj)} (V : VerObj w.params a b c zp zb x tl) (hz : Ids zp) : ConV w 30 150 (.ref 287) [.ref x] [] tl (NextPost w.params (nMaj a b c zp)) := by
  cases V with
  | mk hvp hvb k => exact c_nmajX w a b c hvp (by rw [StrsAre.length hvp]; exact Nat.le_trans hz.few (by decide))
theorem c_nminX (w : World) (a b c : Int) {zp : List Str} {x dx tp tb tk t8 pk : Addr} {k1 k2 k3 k4 k5 k6 k7 k8 t1 t2 t3 u1 u2 u3 : Tok} {n : Nat} {vp vb acc : List Value} {led : List (Addr × Obj)} (hvp : StrsAre vp zp) (hsz : vp.length ≤ 1000) :
    ConV w 30 150 (.ref 294) [.ref x] [] ((x, instObj 448 dx) :: (dx, dictOf (vent8 w.params k1 k2 k3 k4 k5 k6 k7 k8 a b c t1 t2 t3 tp tb tk t8) n) :: (tp, tupO vp) :: (tb, tupO vb) :: (tk, tupO [.int a u1, .int b u2, .int c u3, .ref pk]) :: (pk, tupO acc) :: led) (NextPost w.params (nMin a b c zp)) := by
  unfold ConV
  intro p loose mean mg mb dp un gd env outer A₀ base h₀ L m rest ps s R B F N htr hne T hf hk hd hu hsub hret
  k_fill
  intro X
  have N0 := news_subG N hsub
  have h3 := sub_383 hne hsub
  walk_at "con enter"
  k_steps
  all_goals (unfold KeptEnd; dsimp only; intro hK; refine' v_ret hret N0 hK ?kN ?n3 ?post ?ht ?ab; (case kN => k_asm); (case n3 => k_asm); (case ht => k_asm); (case ab => assumption); (case post => exact ⟨_, _, _, _, rfl, by assumption, by simp [nMin, *]⟩))
theorem c_nmin (w : World) (a b c : Int) {zp zb : List Str} {x : Addr} {tl : List (Addr × Obj)} (V : VerObj w.params a b c zp zb x tl) (hz : Ids zp) : ConV w 30 150 (.ref 294) [.ref x] [] tl (NextPost w.params (nMin a b c zp)) := by
  cases V with
  | mk hvp hvb k => exact c_nminX w a b c hvp (by rw [StrsAre.length hvp]; exact Nat.le_trans hz.few (by decide))
theorem c_npatX (w : World) (a b c : Int) {zp : List Str} {x dx tp tb tk t8 pk : Addr} {k1 k2 k3 k4 k5 k6 k7 k8 t1 t2 t3 u1 u2 u3 : Tok} {n : Nat} {vp vb acc : List Value} {led : List (Addr × Obj)} (hvp : StrsAre vp zp) (hsz : vp.length ≤ 1000) :
    ConV w 30 150 (.ref 301) [.ref x] [] ((x, instObj 448 dx) :: (dx, dictOf (vent8 w.params k1 k2 k3 k4 k5 k6 k7 k8 a b c t1 t2 t3 tp tb tk t8) n) :: (tp, tupO vp) :: (tb, tupO vb) :: (tk, tupO [.int a u1, .int b u2, .int c u3, .ref pk]) :: (pk, tupO acc) :: led) (NextPost w.params (nPat a b c zp)) := by
  unfold ConV
  intro p loose mean mg mb dp un gd env outer A₀ base h₀ L m rest ps s R B F N htr hne T hf hk hd hu hsub hret
  k_fill
  intro X
  have N0 := news_subG N hsub
  have h3 := sub_383 hne hsub
  walk_at "con enter"
  k_steps
  all_goals (unfold KeptEnd; dsimp only; intro hK; refine' v_ret hret N0 hK ?kN ?n3 ?post ?ht ?ab; (case kN => k_asm); (case n3 => k_asm); (case ht => k_asm); (case ab => assumption); (case post => exact ⟨_, _, _, _, rfl, by assumption, by simp [nPat, *]⟩))
theorem c_npat (w : World) (a b c : Int) {zp zb : List Str} {x : Addr} {tl : List (Addr × Obj)} (V : VerObj w.params a b c zp zb x tl) (hz : Ids zp) : ConV w 30 150 (.ref 301) [.ref x] [] tl (NextPost w.params (nPat a b c zp)) := by
  cases V with
  | mk hvp hvb k => exact c_npatX w a b c hvp (by rw [StrsAre.length hvp]; exact Nat.le_trans hz.few (by decide))
theorem kw2_W1 : True := by
  (k_with "+call ref" => ((k_here; k_dflt (refine wpAny_call ?_; refine' ConV.useR (c_verP _ _ _ _ _ _ _ ?hz9q ?hv9q _) ?k19q ?k29q ?k39q ?ht9q ?hn9q ?k49q ?k59q ?kF9q ?kK9q ?kd9q ?ku9q ?ks9q ?_; (case k39q => k_asm); (case k29q => k_asm); (case k19q => k_asm); (case k49q => k_asm); (case k59q => k_asm); (case ks9q => walk_at "con sub"); (case hv9q => k_asm); (case hz9q => k_asm); (case ht9q => k_asm); (case hn9q => k_asm); (case kF9q => first | exact rfl | assumption); (case kK9q => first | exact rfl | assumption); (case kd9q => ktr_room); (case ku9q => ktr_units); k_whole; intro x9 tl9 h9 g9 tk9 ps9 v9 c9 t9 F9 N9 n9 b9; (try dsimp only)))))
  exact True.intro
theorem c_tr_prer (w : World) (a b c : Int) (tq : Tok) {zp zb : List Str} {x : Addr} {tl : List (Addr × Obj)} (V : VerObj w.params a b c zp zb x tl) (hz : Ids zp) : ConV w 30 150 (.ref 309) [.ref x, .str (Str.ofString "prerelease") tq] [] tl (fun r tl => ∃ x, r = .ref x ∧ VerObj w.params a b c zp [] x tl) := by
  cases V with
  | mk hvp hvb k =>
  unfold ConV
  intro p loose mean mg mb dp un gd env outer A₀ base h₀ L m rest ps s R B F N htr hne T hf hk hd hu hsub hret
  k_fill
  intro X
  have N0 := news_subG N hsub
  have h3 := sub_383 hne hsub
  walk_at "con enter"
  k_steps
  all_goals (unfold KeptEnd; dsimp only; intro hK; refine' v_ret hret N0 hK ?kN ?n3 ?post ?ht ?ab; (case kN => k_asm); (case n3 => k_asm); (case ht => k_asm); (case ab => assumption); (case post => exact ⟨_, rfl, by assumption⟩))
theorem c_tr_patch (w : World) (a b c : Int) (tq : Tok) {zp zb : List Str} {x : Addr} {tl : List (Addr × Obj)} (V : VerObj w.params a b c zp zb x tl) (hz : Ids zp) : ConV w 30 150 (.ref 309) [.ref x, .str (Str.ofString "patch") tq] [] tl (fun r tl => ∃ x, r = .ref x ∧ VerObj w.params a b c [] [] x tl) := by
  cases V with
  | mk hvp hvb k =>
  unfold ConV
  intro p loose mean mg mb dp un gd env outer A₀ base h₀ L m rest ps s R B F N htr hne T hf hk hd hu hsub hret
  k_fill
  intro X
  have N0 := news_subG N hsub
  have h3 := sub_383 hne hsub
  walk_at "con enter"
  k_steps
  all_goals (unfold KeptEnd; dsimp only; intro hK; refine' v_ret hret N0 hK ?kN ?n3 ?post ?ht ?ab; (case kN => k_asm); (case n3 => k_asm); (case ht => k_asm); (case ab => assumption); (case post => exact ⟨_, rfl, by assumption⟩))
theorem c_tr_dflt (w : World) (a b c : Int) {zp zb : List Str} {x : Addr} {tl : List (Addr × Obj)} (V : VerObj w.params a b c zp zb x tl) (hz : Ids zp) : ConV w 30 150 (.ref 309) [.ref x] [] tl (fun r tl => ∃ x, r = .ref x ∧ VerObj w.params a b c [] [] x tl) := by
  cases V with
  | mk hvp hvb k =>
  unfold ConV
  intro p loose mean mg mb dp un gd env outer A₀ base h₀ L m rest ps s R B F N htr hne T hf hk hd hu hsub hret
  k_fill
  intro X
  have N0 := news_subG N hsub
  have h3 := sub_383 hne hsub
  walk_at "con enter"
  k_steps
  all_goals (unfold KeptEnd; dsimp only; intro hK; refine' v_ret hret N0 hK ?kN ?n3 ?post ?ht ?ab; (case kN => k_asm); (case n3 => k_asm); (case ht => k_asm); (case ab => assumption); (case post => exact ⟨_, rfl, by assumption⟩))
theorem c_tr_minor (w : World) (a b c : Int) (tq : Tok) {zp zb : List Str} {x : Addr} {tl : List (Addr × Obj)} (V : VerObj w.params a b c zp zb x tl) (hz : Ids zp) : ConV w 30 150 (.ref 309) [.ref x, .str (Str.ofString "minor") tq] [] tl (fun r tl => ∃ x, r = .ref x ∧ VerObj w.params a b 0 [] [] x tl) := by
  cases V with
  | mk hvp hvb k =>
  unfold ConV
  intro p loose mean mg mb dp un gd env outer A₀ base h₀ L m rest ps s R B F N htr hne T hf hk hd hu hsub hret
  k_fill
  intro X
  have N0 := news_subG N hsub
  have h3 := sub_383 hne hsub
  walk_at "con enter"
  k_steps
  all_goals (unfold KeptEnd; dsimp only; intro hK; refine' v_ret hret N0 hK ?kN ?n3 ?post ?ht ?ab; (case kN => k_asm); (case n3 => k_asm); (case ht => k_asm); (case ab => assumption); (case post => exact ⟨_, rfl, by assumption⟩))
theorem c_tr_major (w : World) (a b c : Int) (tq : Tok) {zp zb : List Str} {x : Addr} {tl : List (Addr × Obj)} (V : VerObj w.params a b c zp zb x tl) (hz : Ids zp) : ConV w 30 150 (.ref 309) [.ref x, .str (Str.ofString "major") tq] [] tl (fun r tl => ∃ x, r = .ref x ∧ VerObj w.params a 0 0 [] [] x tl) := by
  cases V with
  | mk hvp hvb k =>
  unfold ConV
  intro p loose mean mg mb dp un gd env outer A₀ base h₀ L m rest ps s R B F N htr hne T hf hk hd hu hsub hret
  k_fill
  intro X
  have N0 := news_subG N hsub
  have h3 := sub_383 hne hsub
  walk_at "con enter"
  k_steps
  all_goals (unfold KeptEnd; dsimp only; intro hK; refine' v_ret hret N0 hK ?kN ?n3 ?post ?ht ?ab; (case kN => k_asm); (case n3 => k_asm); (case ht => k_asm); (case ab => assumption); (case post => exact ⟨_, rfl, by assumption⟩))
theorem c_tr_build (w : World) (a b c : Int) (tq : Tok) {zp zb : List Str} {x : Addr} {tl : List (Addr × Obj)} (V : VerObj w.params a b c zp zb x tl) : ConV w 30 150 (.ref 309) [.ref x, .str (Str.ofString "build") tq] [] tl (fun r tl => r = .ref x ∧ tl = []) := by
  cases V with
  | mk hvp hvb k =>
  unfold ConV
  intro p loose mean mg mb dp un gd env outer A₀ base h₀ L m rest ps s R B F N htr hne T hf hk hd hu hsub hret
  k_fill
  intro X
  have N0 := news_subG N hsub
  have h3 := sub_383 hne hsub
  walk_at "con enter"
  k_steps
  all_goals (unfold KeptEnd; dsimp only; intro hK; refine' v_ret (tl := []) hret N0 hK ?kN ?n3 ?post ?ht ?ab; (case kN => rw [List.append_nil]; k_asm); (case n3 => rw [List.append_nil]; k_asm); (case ht => k_asm); (case ab => exact fun h => h); (case post => exact ⟨rfl, rfl⟩))
end
theorem kw3_W1 : True := by
  k_with_none
  (k_with "+lt room" => (first | exact lt_r0 (by assumption) (by decide) | exact lt_rc (by assumption) (by decide) | exact lt_rd (by assumption) (by decide) | exact lt_z0 (by assumption)))
  (k_with "@ktr_room" => (walk_at "lt room"))
  (k_with "@ktr_units" => (walk_at "lt room"))
  (k_with "@units_room" => (walk_at "lt room"))
  (k_with "@k_room" => (ktr_room))
  (k_with "+con binds" => (first | exact fm_nilE (by exact rfl) | exact fm_some (by exact rfl) (by walk_at "con binds")))
  (k_with "+con enter" => ((k_dflt (refine' code_keep ?k19q ?k29q ?k39q ?k49q ?k59q ?kA9q ?kF9q ?kK9q ?k69q ?k79q ?k89q ?k99q ?kB9q ?_ ?c29q ?c39q ?c49q ?c59q; (case kA9q => exact rfl); (case kF9q => assumption); (case kK9q => assumption); (case k49q => k_asm); (case k19q => k_asm); (case k29q => k_asm); (case k39q => k_asm); (case k59q => k_asm); (case k69q => k_is); (case k79q => k_is); (case k89q => ktr_room); (case k99q => (refine' binds_to ?b99q ?e99q; (case b99q => first | exact BindsTo.of_eq rfl | exact binds_K (by k_in) rfl (by k_is) rfl rfl rfl | fail "con enter: no rule for these arguments"); (case e99q => first | (walk_at "con binds") | (walk_say "con enter: binds left as they are"; exact rfl)))); (case c59q => decide); (case kB9q => exact locs rfl); (case c29q => exact rfl); (case c39q => exact rfl); (case c49q => exact rfl); k_whole; intro g' L' h' FG' F' N' B' X' T' G0'; (try dsimp only); (try k_fold)))))
  (k_with "+con sub" => (repeat (first | exact sub_nil | refine sub_cons (by k_mem) ?_)))
  (k_with "+ite" => ((k_here; k_openite; with_reducible refine ite_isFalse (bne_self_eq_false _) ?_; walk_say "PRUNED same")))
  (k_with "+con sides" => (((case k39q => k_asm); (case k29q => k_asm); (case k19q => k_asm); (case k49q => k_asm); (case k59q => k_asm); (case kF9q => first | exact rfl | assumption); (case kK9q => first | exact rfl | assumption); (case kd9q => ktr_room); (case ku9q => ktr_units); (case ks9q => walk_at "con sub"))))
  (k_with "+ne close" => (first | assumption | exact Ne.symm (by assumption) | exact Nat.ne_of_lt (by assumption) | exact Nat.ne_of_gt (by assumption) | exact Nat.ne_of_lt (Nat.lt_trans (by assumption) (by assumption)) | exact Nat.ne_of_gt (Nat.lt_trans (by assumption) (by assumption)) | (rename _ ∧ _ => hh9; obtain ⟨_, _⟩ := hh9; walk_at "ne close")))
  (k_with "@k_ne" => ((refine neN ?_; (try dsimp only); with_reducible walk_at "ne close")))
  exact True.intro
end
section
section
variable {prog : Program} {w : World} {A : Around} {E : Value → Shared → Prop} {s : Shared} {Q : Value → Shared → Prop} {a b : Addr} {oa ob : Obj} {xs ys : Array Value} {na nb : Nat}
noncomputable def Lex_eq (prog : Program) (w : World) (A : Around) (E : Value → Shared → Prop) (fin : Bool) (Q : Value → Shared → Prop) : List (Value × Value) → Shared → Prop
  | [], s => Q (.bool fin) s
  | (p, q) :: r, s => wpAny (model prog w) A (eqBool p q) (fun e s' => if e = true then Lex_eq prog w A E fin Q r s' else Q (.bool false) s') E s
theorem tup_eq_tree (hoa : s.heap.get? a = some oa) (hda : oa.data = .seq xs na) (hob : s.heap.get? b = some ob) (hcb : ob.cls = .type "tuple") (hdb : ob.data = .seq ys nb)
    (h : Lex_eq prog w A E (xs.size == ys.size) Q (xs.toList.zip ys.toList) s) :
    wpAny (model prog w) A (Builtin.«tuple.__eq__» ⟨[.ref a, .ref b], []⟩) (fun fin s' => ∃ v, fin = .done (.ret v) ∧ v ≠ .notImplemented ∧ Q v s') E s := by
  show wpAny _ _ (isInstance (.ref b) (.type "tuple") >>= _) _ _ s
  refine wpAny_bind (wpAny_isInstance ⟨_, hob, hcb⟩ isSubtype_tuple_tuple ?_)
  simp only [Bool.not_true, Bool.false_eq_true, if_false]
  refine wpAny_bind (wpAny_tupleItemsOf hoa hda ?_)
  refine wpAny_bind (wpAny_tupleItemsOf hob hdb ?_)
  refine wpAny_bind ?_
  clear hoa hob
  generalize xs.toList.zip ys.toList = l at h ⊢
  induction l generalizing s with
  | nil =>
    rw [List.forIn_nil]
    refine wpAny_pure ?_
    exact wpAny_pure ⟨_, rfl, (fun e => nomatch e), h⟩
  | cons pq r ih =>
    obtain ⟨p, q⟩ := pq
    rw [List.forIn_cons]
    refine wpAny_bind ?_
    have h2 : wpAny (model prog w) A (eqBool p q) (fun e s' => if e = true then Lex_eq prog w A E (xs.size == ys.size) Q r s' else Q (.bool false) s') E s := h
    refine wpAny_bind (wpAny_mono h2 (fun e s' he => ?_) fun _ _ x => x)
    cases e with
    | true =>
      simp only [if_true] at he
      simp only [Bool.not_true, Bool.false_eq_true, if_false]
      exact wpAny_pure (ih he)
    | false =>
      simp only [Bool.false_eq_true, if_false] at he
      simp only [Bool.not_false, if_true]
      exact wpAny_bind (wpAny_pure (wpAny_pure (wpAny_pure (wpAny_pure ⟨_, rfl, (fun e => nomatch e), he⟩))))
theorem tup_eq_rich (hoa : s.heap.get? a = some oa) (hca : oa.cls = .type "tuple") (hda : oa.data = .seq xs na) (hob : s.heap.get? b = some ob) (hcb : ob.cls = .type "tuple") (hdb : ob.data = .seq ys nb) (hu : A.units < cLine)
    (h : Lex_eq prog w A.in1 E (xs.size == ys.size) Q (xs.toList.zip ys.toList) s) : wpAny (model prog w) A (richCompare .Eq (.ref a) (.ref b)) (fun v s' => v ≠ .notImplemented ∧ Q v s') E s :=
  wpAny_mono (wpAny_richCompare_same_room (op := .Eq) (Q := fun v s' => v ≠ .notImplemented ∧ Q v s') ⟨_, hoa, hca⟩ ⟨_, hob, hcb⟩ F.slot_tuple_eq (wpAny_call_entry F.slot_tuple_eq ⟨_, hoa, hca⟩ F.entry_tuple_eq (wpAny_mono (tup_eq_tree hoa hda hob hcb hdb h) (fun fin s' ⟨v, e, hv⟩ => ⟨v, e, hv.1, hv⟩) fun _ _ x => x) (F.args_tuple_eq_2 _ _)) hu) (fun _ _ x => x) fun _ _ x => x
noncomputable def Lex_gt (prog : Program) (w : World) (A : Around) (E : Value → Shared → Prop) (fin : Bool) (Q : Value → Shared → Prop) : List (Value × Value) → Shared → Prop
  | [], s => Q (.bool fin) s
  | (p, q) :: r, s => wpAny (model prog w) A (eqBool p q) (fun e s' => if e = true then Lex_gt prog w A E fin Q r s' else wpAny (model prog w) A (richCompare .Gt p q) (fun v s2 => v ≠ .notImplemented ∧ Q v s2) E s') E s
theorem tup_gt_tree (hoa : s.heap.get? a = some oa) (hda : oa.data = .seq xs na) (hob : s.heap.get? b = some ob) (hcb : ob.cls = .type "tuple") (hdb : ob.data = .seq ys nb)
    (h : Lex_gt prog w A E (decide (xs.size > ys.size)) Q (xs.toList.zip ys.toList) s) :
    wpAny (model prog w) A (Builtin.«tuple.__gt__» ⟨[.ref a, .ref b], []⟩) (fun fin s' => ∃ v, fin = .done (.ret v) ∧ v ≠ .notImplemented ∧ Q v s') E s := by
  show wpAny _ _ (isInstance (.ref b) (.type "tuple") >>= _) _ _ s
  refine wpAny_bind (wpAny_isInstance ⟨_, hob, hcb⟩ isSubtype_tuple_tuple ?_)
  simp only [Bool.not_true, Bool.false_eq_true, if_false]
  refine wpAny_bind (wpAny_tupleItemsOf hoa hda ?_)
  refine wpAny_bind (wpAny_tupleItemsOf hob hdb ?_)
  refine wpAny_bind ?_
  clear hoa hob
  generalize xs.toList.zip ys.toList = l at h ⊢
  induction l generalizing s with
  | nil =>
    rw [List.forIn_nil]
    refine wpAny_pure ?_
    exact wpAny_pure ⟨_, rfl, (fun e => nomatch e), h⟩
  | cons pq r ih =>
    obtain ⟨p, q⟩ := pq
    rw [List.forIn_cons]
    refine wpAny_bind ?_
    have h2 : wpAny (model prog w) A (eqBool p q) (fun e s' => if e = true then Lex_gt prog w A E (decide (xs.size > ys.size)) Q r s' else wpAny (model prog w) A (richCompare .Gt p q) (fun v s2 => v ≠ .notImplemented ∧ Q v s2) E s') E s := h
    refine wpAny_bind (wpAny_mono h2 (fun e s' he => ?_) fun _ _ x => x)
    cases e with
    | true =>
      simp only [if_true] at he
      simp only [Bool.not_true, Bool.false_eq_true, if_false]
      exact wpAny_pure (ih he)
    | false =>
      simp only [Bool.false_eq_true, if_false] at he
      simp only [Bool.not_false, if_true]
      refine wpAny_bind (wpAny_rule ?_)
      refine wpAny_bind (wpAny_mono he (fun v s2 hv => ?_) fun _ _ x => x)
      exact wpAny_bind (wpAny_pure (wpAny_pure (wpAny_pure (wpAny_pure ⟨_, rfl, hv⟩))))
theorem tup_gt_rich (hoa : s.heap.get? a = some oa) (hca : oa.cls = .type "tuple") (hda : oa.data = .seq xs na) (hob : s.heap.get? b = some ob) (hcb : ob.cls = .type "tuple") (hdb : ob.data = .seq ys nb) (hu : A.units < cLine)
    (h : Lex_gt prog w A.in1 E (decide (xs.size > ys.size)) Q (xs.toList.zip ys.toList) s) : wpAny (model prog w) A (richCompare .Gt (.ref a) (.ref b)) (fun v s' => v ≠ .notImplemented ∧ Q v s') E s :=
  wpAny_mono (wpAny_richCompare_same_room (op := .Gt) (Q := fun v s' => v ≠ .notImplemented ∧ Q v s') ⟨_, hoa, hca⟩ ⟨_, hob, hcb⟩ F.slot_tuple_gt (wpAny_call_entry F.slot_tuple_gt ⟨_, hoa, hca⟩ F.entry_tuple_gt (wpAny_mono (tup_gt_tree hoa hda hob hcb hdb h) (fun fin s' ⟨v, e, hv⟩ => ⟨v, e, hv.1, hv⟩) fun _ _ x => x) (F.args_tuple_gt_2 _ _)) hu) (fun _ _ x => x) fun _ _ x => x
noncomputable def Lex_lt (prog : Program) (w : World) (A : Around) (E : Value → Shared → Prop) (fin : Bool) (Q : Value → Shared → Prop) : List (Value × Value) → Shared → Prop
  | [], s => Q (.bool fin) s
  | (p, q) :: r, s => wpAny (model prog w) A (eqBool p q) (fun e s' => if e = true then Lex_lt prog w A E fin Q r s' else wpAny (model prog w) A (richCompare .Lt p q) (fun v s2 => v ≠ .notImplemented ∧ Q v s2) E s') E s
theorem tup_lt_tree (hoa : s.heap.get? a = some oa) (hda : oa.data = .seq xs na) (hob : s.heap.get? b = some ob) (hcb : ob.cls = .type "tuple") (hdb : ob.data = .seq ys nb)
    (h : Lex_lt prog w A E (decide (xs.size < ys.size)) Q (xs.toList.zip ys.toList) s) :
    wpAny (model prog w) A (Builtin.«tuple.__lt__» ⟨[.ref a, .ref b], []⟩) (fun fin s' => ∃ v, fin = .done (.ret v) ∧ v ≠ .notImplemented ∧ Q v s') E s := by
  show wpAny _ _ (isInstance (.ref b) (.type "tuple") >>= _) _ _ s
  refine wpAny_bind (wpAny_isInstance ⟨_, hob, hcb⟩ isSubtype_tuple_tuple ?_)
  simp only [Bool.not_true, Bool.false_eq_true, if_false]
  refine wpAny_bind (wpAny_tupleItemsOf hoa hda ?_)
  refine wpAny_bind (wpAny_tupleItemsOf hob hdb ?_)
  refine wpAny_bind ?_
  clear hoa hob
  generalize xs.toList.zip ys.toList = l at h ⊢
  induction l generalizing s with
  | nil =>
    rw [List.forIn_nil]
    refine wpAny_pure ?_
    exact wpAny_pure ⟨_, rfl, (fun e => nomatch e), h⟩
  | cons pq r ih =>
    obtain ⟨p, q⟩ := pq
    rw [List.forIn_cons]
    refine wpAny_bind ?_
    have h2 : wpAny (model prog w) A (eqBool p q) (fun e s' => if e = true then Lex_lt prog w A E (decide (xs.size < ys.size)) Q r s' else wpAny (model prog w) A (richCompare .Lt p q) (fun v s2 => v ≠ .notImplemented ∧ Q v s2) E s') E s := h
    refine wpAny_bind (wpAny_mono h2 (fun e s' he => ?_) fun _ _ x => x)
    cases e with
    | true =>
      simp only [if_true] at he
      simp only [Bool.not_true, Bool.false_eq_true, if_false]
      exact wpAny_pure (ih he)
    | false =>
      simp only [Bool.false_eq_true, if_false] at he
      simp only [Bool.not_false, if_true]
      refine wpAny_bind (wpAny_rule ?_)
      refine wpAny_bind (wpAny_mono he (fun v s2 hv => ?_) fun _ _ x => x)
      exact wpAny_bind (wpAny_pure (wpAny_pure (wpAny_pure (wpAny_pure ⟨_, rfl, hv⟩))))
theorem tup_lt_rich (hoa : s.heap.get? a = some oa) (hca : oa.cls = .type "tuple") (hda : oa.data = .seq xs na) (hob : s.heap.get? b = some ob) (hcb : ob.cls = .type "tuple") (hdb : ob.data = .seq ys nb) (hu : A.units < cLine)
    (h : Lex_lt prog w A.in1 E (decide (xs.size < ys.size)) Q (xs.toList.zip ys.toList) s) : wpAny (model prog w) A (richCompare .Lt (.ref a) (.ref b)) (fun v s' => v ≠ .notImplemented ∧ Q v s') E s :=
  wpAny_mono (wpAny_richCompare_same_room (op := .Lt) (Q := fun v s' => v ≠ .notImplemented ∧ Q v s') ⟨_, hoa, hca⟩ ⟨_, hob, hcb⟩ F.slot_tuple_lt (wpAny_call_entry F.slot_tuple_lt ⟨_, hoa, hca⟩ F.entry_tuple_lt (wpAny_mono (tup_lt_tree hoa hda hob hcb hdb h) (fun fin s' ⟨v, e, hv⟩ => ⟨v, e, hv.1, hv⟩) fun _ _ x => x) (F.args_tuple_lt_2 _ _)) hu) (fun _ _ x => x) fun _ _ x => x
end
end
section
section
theorem i_eq_mm (w : World) (x dx y dy : Addr) (ox oy : Obj) : Con w 2 16 (.ref 86) [.ref x, .ref y] [] [(x, instObj 117 dx), (dx, ox), (y, instObj 117 dy), (dy, oy)] (fun r tl => r = .bool true ∧ tl = []) := by
  unfold Con
  intro p loose mean mg mb dp un gd env outer A₀ base h₀ L m news s R B F N T hf hk hd hu hsub hret
  k_fill
  intro X
  have N0 := news_sub N hsub
  walk_at "con enter"
  k_steps
  all_goals ((unfold KeptEnd; dsimp only; intro hK; refine hret _ [] _ _ ?_ (keep_back N0 hK (news_sub (by k_asm) (by walk_at "con sub"))) (news_sub (by k_asm) (by walk_at "con sub"))); exact ⟨rfl, rfl⟩)
theorem i_eq_mn (w : World) (x dx y dy : Addr) (ox oy : Obj) : Con w 2 16 (.ref 86) [.ref x, .ref y] [] [(x, instObj 117 dx), (dx, ox), (y, instObj 180 dy), (dy, oy)] (fun r tl => r = .bool false ∧ tl = []) := by
  unfold Con
  intro p loose mean mg mb dp un gd env outer A₀ base h₀ L m news s R B F N T hf hk hd hu hsub hret
  k_fill
  intro X
  have N0 := news_sub N hsub
  walk_at "con enter"
  k_steps
  all_goals ((unfold KeptEnd; dsimp only; intro hK; refine hret _ [] _ _ ?_ (keep_back N0 hK (news_sub (by k_asm) (by walk_at "con sub"))) (news_sub (by k_asm) (by walk_at "con sub"))); exact ⟨rfl, rfl⟩)
theorem i_eq_ma (w : World) (x dx y dy : Addr) (ox oy : Obj) : Con w 2 16 (.ref 86) [.ref x, .ref y] [] [(x, instObj 117 dx), (dx, ox), (y, instObj 243 dy), (dy, oy)] (fun r tl => r = .bool false ∧ tl = []) := by
  unfold Con
  intro p loose mean mg mb dp un gd env outer A₀ base h₀ L m news s R B F N T hf hk hd hu hsub hret
  k_fill
  intro X
  have N0 := news_sub N hsub
  walk_at "con enter"
  k_steps
  all_goals ((unfold KeptEnd; dsimp only; intro hK; refine hret _ [] _ _ ?_ (keep_back N0 hK (news_sub (by k_asm) (by walk_at "con sub"))) (news_sub (by k_asm) (by walk_at "con sub"))); exact ⟨rfl, rfl⟩)
theorem i_gt_mn (w : World) (x dx y dy : Addr) (ox oy : Obj) : Con w 2 16 (.ref 107) [.ref x, .ref y] [] [(x, instObj 117 dx), (dx, ox), (y, instObj 180 dy), (dy, oy)] (fun r tl => r = .bool true ∧ tl = []) := by
  unfold Con
  intro p loose mean mg mb dp un gd env outer A₀ base h₀ L m news s R B F N T hf hk hd hu hsub hret
  k_fill
  intro X
  have N0 := news_sub N hsub
  walk_at "con enter"
  k_steps
  all_goals ((unfold KeptEnd; dsimp only; intro hK; refine hret _ [] _ _ ?_ (keep_back N0 hK (news_sub (by k_asm) (by walk_at "con sub"))) (news_sub (by k_asm) (by walk_at "con sub"))); exact ⟨rfl, rfl⟩)
theorem i_gt_ma (w : World) (x dx y dy : Addr) (ox oy : Obj) : Con w 2 16 (.ref 107) [.ref x, .ref y] [] [(x, instObj 117 dx), (dx, ox), (y, instObj 243 dy), (dy, oy)] (fun r tl => r = .bool true ∧ tl = []) := by
  unfold Con
  intro p loose mean mg mb dp un gd env outer A₀ base h₀ L m news s R B F N T hf hk hd hu hsub hret
  k_fill
  intro X
  have N0 := news_sub N hsub
  walk_at "con enter"
  k_steps
  all_goals ((unfold KeptEnd; dsimp only; intro hK; refine hret _ [] _ _ ?_ (keep_back N0 hK (news_sub (by k_asm) (by walk_at "con sub"))) (news_sub (by k_asm) (by walk_at "con sub"))); exact ⟨rfl, rfl⟩)
theorem i_lt_mn (w : World) (x dx y dy : Addr) (ox oy : Obj) : Con w 2 16 (.ref 93) [.ref x, .ref y] [] [(x, instObj 117 dx), (dx, ox), (y, instObj 180 dy), (dy, oy)] (fun r tl => r = .bool false ∧ tl = []) := by
  unfold Con
  intro p loose mean mg mb dp un gd env outer A₀ base h₀ L m news s R B F N T hf hk hd hu hsub hret
  k_fill
  intro X
  have N0 := news_sub N hsub
  walk_at "con enter"
  k_steps
  all_goals ((unfold KeptEnd; dsimp only; intro hK; refine hret _ [] _ _ ?_ (keep_back N0 hK (news_sub (by k_asm) (by walk_at "con sub"))) (news_sub (by k_asm) (by walk_at "con sub"))); exact ⟨rfl, rfl⟩)
theorem i_lt_ma (w : World) (x dx y dy : Addr) (ox oy : Obj) : Con w 2 16 (.ref 93) [.ref x, .ref y] [] [(x, instObj 117 dx), (dx, ox), (y, instObj 243 dy), (dy, oy)] (fun r tl => r = .bool false ∧ tl = []) := by
  unfold Con
  intro p loose mean mg mb dp un gd env outer A₀ base h₀ L m news s R B F N T hf hk hd hu hsub hret
  k_fill
  intro X
  have N0 := news_sub N hsub
  walk_at "con enter"
  k_steps
  all_goals ((unfold KeptEnd; dsimp only; intro hK; refine hret _ [] _ _ ?_ (keep_back N0 hK (news_sub (by k_asm) (by walk_at "con sub"))) (news_sub (by k_asm) (by walk_at "con sub"))); exact ⟨rfl, rfl⟩)
theorem i_eq_nn (w : World) (x dx y dy : Addr) (k k' t t' : Tok) (n : Int) (e e' : Nat) : Con w 2 16 (.ref 149) [.ref x, .ref y] [] [(x, instObj 180 dx), (dx, dictOf [ent w.params "value" k (.int n t)] e), (y, instObj 180 dy), (dy, dictOf [ent w.params "value" k' (.int n t')] e')] (fun r tl => r = .bool true ∧ tl = []) := by
  unfold Con
  intro p loose mean mg mb dp un gd env outer A₀ base h₀ L m news s R B F N T hf hk hd hu hsub hret
  k_fill
  intro X
  have N0 := news_sub N hsub
  walk_at "con enter"
  k_steps
  all_goals ((unfold KeptEnd; dsimp only; intro hK; refine hret _ [] _ _ ?_ (keep_back N0 hK (news_sub (by k_asm) (by walk_at "con sub"))) (news_sub (by k_asm) (by walk_at "con sub"))); exact ⟨by rw [beq_self_eq_true], rfl⟩)
theorem i_eq_aa (w : World) (x dx y dy : Addr) (k k' t t' : Tok) (n : Array UInt8) (e e' : Nat) : Con w 2 16 (.ref 212) [.ref x, .ref y] [] [(x, instObj 243 dx), (dx, dictOf [ent w.params "value" k (.bytes n t)] e), (y, instObj 243 dy), (dy, dictOf [ent w.params "value" k' (.bytes n t')] e')] (fun r tl => r = .bool true ∧ tl = []) := by
  unfold Con
  intro p loose mean mg mb dp un gd env outer A₀ base h₀ L m news s R B F N T hf hk hd hu hsub hret
  k_fill
  intro X
  have N0 := news_sub N hsub
  walk_at "con enter"
  k_steps
  all_goals ((unfold KeptEnd; dsimp only; intro hK; refine hret _ [] _ _ ?_ (keep_back N0 hK (news_sub (by k_asm) (by walk_at "con sub"))) (news_sub (by k_asm) (by walk_at "con sub"))); exact ⟨by rw [beq_self_eq_true], rfl⟩)
end
end
section
/-- the identifiers of a key, one by one -/
inductive Idd (P : Params) (full : List (Addr × Obj)) : List Str → List Value → Prop
  | nil : Idd P full [] []
  | cons {z : Str} {zs : List Str} {x : Addr} {vs : List Value} {tl : List (Addr × Obj)} (k : KeyObj P z tl x) (h : ∀ q ∈ tl, q ∈ full) (r : Idd P full zs vs) : Idd P full (z :: zs) (.ref x :: vs)
theorem Idd.snoc {P : Params} {full tl : List (Addr × Obj)} {z : Str} {x : Addr} (k : KeyObj P z tl x) (h : ∀ q ∈ tl, q ∈ full) : ∀ {zs : List Str} {vs : List Value}, Idd P full zs vs → Idd P full (zs ++ [z]) (vs ++ [.ref x])
  | _, _, .nil => .cons k h .nil
  | _, _, .cons k' h' r => .cons k' h' (r.snoc k h)
theorem Idd.mono {P : Params} {full full' : List (Addr × Obj)} (hs : ∀ q ∈ full, q ∈ full') : ∀ {zs : List Str} {vs : List Value}, Idd P full zs vs → Idd P full' zs vs
  | _, _, .nil => .nil
  | _, _, .cons k h r => .cons k (fun q hq => hs q (h q hq)) (r.mono hs)
theorem KeysOk.all {P : Params} {zs : List Str} {acc : List Value} {led : List (Addr × Obj)} (h : KeysOk P zs acc led) : Idd P led zs acc := by
  induction h with
  | nil => exact .nil
  | @snoc zs acc led tl z x h k ih => exact (ih.mono fun q hq => List.mem_append_right _ hq).snoc k fun q hq => List.mem_append_left _ hq
/-- what stands around and below, in one -/
inductive Gnd (w : World) (dp un : Nat) (gd : Option (List Code)) (env : Env) (outer : List Env) (h₀ : Heap) (L : Addr) (m : Str → Option Value) (h : Heap) : Prop
  | mk {p : Program} {loose : List Str} {mean : ExcName → Option Value} {mg mb : Str → Option Value} {A₀ : Around} {base : Heap} (B : Below A₀ base outer h₀) (F : Fr h₀ L h m) (T : Top p loose mean mg mb h₀) (X : (Mine.fr.heap_1 w.params).In h₀)
      (hf : env.frame = some L) (hk : env.scope.kind = .function) (hd : dp + 4 < recursionLimit) (hu : un + 40 < cLine)
structure Keep (s s' : Shared) : Prop where
  keep : ∀ b o, s.heap.get? b = some o → s'.heap.get? b = some o
  gens : s'.gens = s.gens
  drawn : s'.drawn = s.drawn
  os : s'.os = s.os
theorem Keep.refl (s : Shared) : Keep s s := ⟨fun _ _ e => e, rfl, rfl, rfl⟩
theorem Keep.trans {a b c : Shared} (h : Keep a b) (k : Keep b c) : Keep a c := ⟨fun x o e => k.keep x o (h.keep x o e), k.gens.trans h.gens, k.drawn.trans h.drawn, k.os.trans h.os⟩
section
variable {w : World} {dp un : Nat} {gd : Option (List Code)} {env : Env} {outer : List Env} {h₀ : Heap} {L : Addr} {m : Str → Option Value} {s : Shared} {E : Value → Shared → Prop}
noncomputable abbrev progL := PySem.Challenge.rw_lh0061_01.row.prog
noncomputable def EqB (w : World) (A : Around) (s : Shared) (x y : Value) (r : Bool) : Prop := ∀ s' (Q : Bool → Shared → Prop) (E : Value → Shared → Prop), Keep s s' → (∀ s'', Keep s' s'' → Q r s'') → wpAny (model progL w) A (eqBool x y) Q E s'
noncomputable def RiB (w : World) (A : Around) (s : Shared) (op : CmpOp) (x y : Value) (r : Bool) : Prop := ∀ s' (Q : Value → Shared → Prop) (E : Value → Shared → Prop), Keep s s' → (∀ s'', Keep s' s'' → Q (.bool r) s'') → wpAny (model progL w) A (richCompare op x y) Q E s'
theorem rib_of {A : Around} {op : CmpOp} {x y : Value} {r : Bool} (h : ∀ s', Keep s s' → ∀ (Q : Value → Shared → Prop) (E : Value → Shared → Prop), (∀ s'', Keep s' s'' → Q (.bool r) s'') → wpAny (model progL w) A (richCompare op x y) Q E s') : RiB w A s op x y r := fun s' Q E hk hQ => h s' hk Q E hQ
theorem eqb_of_rib {A : Around} {x y : Value} {r : Bool} (hxy : (x == y) = true → r = true) (hf : ∀ a t b u, ¬ (x = .float a t ∧ y = .float b u)) (h : RiB w A s .Eq x y r) : EqB w A s x y r := by
  intro s' Q E hk hQ
  unfold eqBool
  try with_reducible refine wpAny_holding ?_
  show wpAny _ _ (if (x == y) = true then _ else _) Q E s'
  by_cases e : (x == y) = true
  · rw [if_pos e]
    have := hxy e
    subst this
    exact wpAny_bind (wpAny_rule (wpAny_pure (hQ _ (Keep.refl _))))
  · rw [if_neg e]
    have z : wpAny (model progL w) A (richCompare .Eq x y >>= fun v => truthOfDropped v) Q E s' := wpAny_bind (h s' _ _ hk fun s'' hk' => wpAny_truthy_bool (hQ _ hk'))
    cases x <;> first | exact z | (cases y <;> first | exact z | exact absurd ⟨rfl, rfl⟩ (hf _ _ _ _))
end
end
section
theorem fs_86 (w : World) : PySem.Challenge.rw_lh0061_01 = PySem.Challenge.rw_lh0061_01 → findIn (Mine.fr.heap_1 w.params) (.ref 117) (cmpInfo .Eq).2.1 = some (some (.ref 86)) := by
  k_fill
  intro _
  k_is
theorem ff_86 (w : World) : PySem.Challenge.rw_lh0061_01 = PySem.Challenge.rw_lh0061_01 → isFn (Mine.fr.heap_1 w.params) (.ref 86) = true := by
  k_fill
  intro _
  k_is
theorem fs_107 (w : World) : PySem.Challenge.rw_lh0061_01 = PySem.Challenge.rw_lh0061_01 → findIn (Mine.fr.heap_1 w.params) (.ref 117) (cmpInfo .Gt).2.1 = some (some (.ref 107)) := by
  k_fill
  intro _
  k_is
theorem ff_107 (w : World) : PySem.Challenge.rw_lh0061_01 = PySem.Challenge.rw_lh0061_01 → isFn (Mine.fr.heap_1 w.params) (.ref 107) = true := by
  k_fill
  intro _
  k_is
theorem fs_93 (w : World) : PySem.Challenge.rw_lh0061_01 = PySem.Challenge.rw_lh0061_01 → findIn (Mine.fr.heap_1 w.params) (.ref 117) (cmpInfo .Lt).2.1 = some (some (.ref 93)) := by
  k_fill
  intro _
  k_is
theorem ff_93 (w : World) : PySem.Challenge.rw_lh0061_01 = PySem.Challenge.rw_lh0061_01 → isFn (Mine.fr.heap_1 w.params) (.ref 93) = true := by
  k_fill
  intro _
  k_is
theorem fs_149 (w : World) : PySem.Challenge.rw_lh0061_01 = PySem.Challenge.rw_lh0061_01 → findIn (Mine.fr.heap_1 w.params) (.ref 180) (cmpInfo .Eq).2.1 = some (some (.ref 149)) := by
  k_fill
  intro _
  k_is
theorem ff_149 (w : World) : PySem.Challenge.rw_lh0061_01 = PySem.Challenge.rw_lh0061_01 → isFn (Mine.fr.heap_1 w.params) (.ref 149) = true := by
  k_fill
  intro _
  k_is
theorem fs_212 (w : World) : PySem.Challenge.rw_lh0061_01 = PySem.Challenge.rw_lh0061_01 → findIn (Mine.fr.heap_1 w.params) (.ref 243) (cmpInfo .Eq).2.1 = some (some (.ref 212)) := by
  k_fill
  intro _
  k_is
theorem ff_212 (w : World) : PySem.Challenge.rw_lh0061_01 = PySem.Challenge.rw_lh0061_01 → isFn (Mine.fr.heap_1 w.params) (.ref 212) = true := by
  k_fill
  intro _
  k_is
theorem nf_117_117 (w : World) : PySem.Challenge.rw_lh0061_01 = PySem.Challenge.rw_lh0061_01 → notFirst (Mine.fr.heap_1 w.params) 117 (.ref 117) = true := by
  k_fill
  intro _
  k_is
theorem nf_117_180 (w : World) : PySem.Challenge.rw_lh0061_01 = PySem.Challenge.rw_lh0061_01 → notFirst (Mine.fr.heap_1 w.params) 117 (.ref 180) = true := by
  k_fill
  intro _
  k_is
theorem nf_117_243 (w : World) : PySem.Challenge.rw_lh0061_01 = PySem.Challenge.rw_lh0061_01 → notFirst (Mine.fr.heap_1 w.params) 117 (.ref 243) = true := by
  k_fill
  intro _
  k_is
theorem nf_180_180 (w : World) : PySem.Challenge.rw_lh0061_01 = PySem.Challenge.rw_lh0061_01 → notFirst (Mine.fr.heap_1 w.params) 180 (.ref 180) = true := by
  k_fill
  intro _
  k_is
theorem nf_243_243 (w : World) : PySem.Challenge.rw_lh0061_01 = PySem.Challenge.rw_lh0061_01 → notFirst (Mine.fr.heap_1 w.params) 243 (.ref 243) = true := by
  k_fill
  intro _
  k_is
section
variable {w : World} {dp un : Nat} {gd : Option (List Code)} {env : Env} {outer : List Env} {h₀ : Heap} {L : Addr} {m : Str → Option Value} {s : Shared} {full : List (Addr × Obj)} {x y dx dy : Addr}
theorem Gnd.keeps {h h' : Heap} (G : Gnd w dp un gd env outer h₀ L m h) (k : ∀ b o, h.get? b = some o → h'.get? b = some o) : Gnd w dp un gd env outer h₀ L m h' := by
  cases G with
  | mk B F T X hf hk hd hu => exact .mk B (F.keeps k) T X hf hk hd hu
theorem i_rib {op : CmpOp} {f C1 C2 : Addr} {r : Bool} {sub : List (Addr × Obj)} {od : Obj} (C : Con w 2 16 (.ref f) [.ref x, .ref y] [] sub (fun r' tl => r' = .bool r ∧ tl = [])) (G : Gnd w dp un gd env outer h₀ L m s.heap) (N : News h₀ L s.heap full)
    (hsub : ∀ q ∈ sub, q ∈ full) (hx : (x, instObj C1 dx) ∈ full) (hdx : (dx, od) ∈ full) (hy : (y, instObj C2 dy) ∈ full)
    (hn : notFirst (Mine.fr.heap_1 w.params) C1 (.ref C2) = true) (hs : findIn (Mine.fr.heap_1 w.params) (.ref C1) (cmpInfo op).2.1 = some (some (.ref f))) (hf : isFn (Mine.fr.heap_1 w.params) (.ref f) = true) : RiB w (topA dp un gd env outer) s op (.ref x) (.ref y) r := by
  intro s' Q E hk hQ
  cases G.keeps hk.keep with
  | mk B F T X hfr hkd hd hu =>
    have N' := N.keeps hk.keep
    refine cmp_K (by show un < cLine; omega) F X (InstAt.of_news N' hx hdx) ((Looks.ld (N' _ hy).1).andThen .now) hn hs hf (wpAny_call ?_)
    refine C _ _ _ _ _ _ _ _ _ _ _ _ _ _ _ _ _ _ B F N' T hfr hkd (by omega) (by omega) hsub (fun r' tl h' tk' hp k N2 => ?_) X
    obtain ⟨rfl, rfl⟩ := hp
    exact hQ _ ⟨k, rfl, rfl, rfl⟩
theorem i_eqb {x y : Addr} {r : Bool} {A : Around} (hxy : x = y → r = true) (h : RiB w A s .Eq (.ref x) (.ref y) r) : EqB w A s (.ref x) (.ref y) r :=
  eqb_of_rib (fun e => hxy (by have := eq_of_beq e; injection this)) (fun _ _ _ _ h => nomatch h.1) h
end
end
section
section
variable {w : World} {A : Around} {s : Shared} {E : Value → Shared → Prop}
noncomputable def LexR (w : World) (A : Around) (s : Shared) (op : CmpOp) (fin : Bool) : List (Value × Value) → Bool → Prop
  | [], r => r = fin
  | (p, q) :: l, r => (EqB w A s p q true ∧ LexR w A s op fin l r) ∨ (EqB w A s p q false ∧ (match op with | .Eq => r = false | op => RiB w A s op p q r))
theorem eqb_int (a b : Int) (t u : Tok) : EqB w A s (.int a t) (.int b u) (a == b) := fun _ _ _ _ hQ => wpAny_eqBool_int (hQ _ (Keep.refl _))
theorem rib_gt_int (a b : Int) (t u : Tok) : RiB w A s .Gt (.int a t) (.int b u) (decide (a > b)) := fun _ _ _ _ hQ => SiftDown.gt_int (hQ _ (Keep.refl _))
theorem rib_lt_int (a b : Int) (t u : Tok) : RiB w A s .Lt (.int a t) (.int b u) (decide (a < b)) := fun _ _ _ _ hQ => PyProof.Rows.lt_int (hQ _ (Keep.refl _))
theorem lex_eq {fin : Bool} {r : Bool} : ∀ (l : List (Value × Value)) (s' : Shared) (Q : Value → Shared → Prop), Keep s s' → LexR w A s .Eq fin l r → (∀ s'', Keep s' s'' → Q (.bool r) s'') → Lex_eq progL w A E fin Q l s'
  | [], s', Q, hk, h, hQ => by
    have e : r = fin := h
    subst e
    exact hQ _ (Keep.refl _)
  | (p, q) :: l, s', Q, hk, h, hQ => by
    rcases h with ⟨h1, h2⟩ | ⟨h1, h2⟩
    · refine h1 s' _ E hk fun s'' hk' => ?_
      rw [if_pos rfl]
      exact lex_eq l s'' Q (hk.trans hk') h2 fun s3 hk3 => hQ s3 (hk'.trans hk3)
    · refine h1 s' _ E hk fun s'' hk' => ?_
      rw [if_neg (by simp)]
      dsimp only at h2
      subst h2
      exact hQ _ hk'
theorem tup_rib_eq {t1 t2 : Addr} {xs ys : List Value} {r : Bool} (hu : A.units < cLine) (h1 : s.heap.get? t1 = some (tupO xs)) (h2 : s.heap.get? t2 = some (tupO ys)) (h : LexR w A.in1 s .Eq (xs.length == ys.length) (xs.zip ys) r) : RiB w A s .Eq (.ref t1) (.ref t2) r := by
  intro s' Q E hk hQ
  refine wpAny_mono (tup_eq_rich (Q := Q) (hk.keep _ _ h1) rfl rfl (hk.keep _ _ h2) rfl rfl hu ?_) (fun v s2 hv => hv.2) fun _ _ e => e
  rw [show (xs.toArray.toList.zip ys.toArray.toList) = xs.zip ys by simp]
  rw [List.size_toArray, List.size_toArray]
  exact lex_eq _ s' Q hk h hQ
theorem lex_gt {fin : Bool} {r : Bool} : ∀ (l : List (Value × Value)) (s' : Shared) (Q : Value → Shared → Prop), Keep s s' → LexR w A s .Gt fin l r → (∀ s'', Keep s' s'' → Q (.bool r) s'') → Lex_gt progL w A E fin Q l s'
  | [], s', Q, hk, h, hQ => by
    have e : r = fin := h
    subst e
    exact hQ _ (Keep.refl _)
  | (p, q) :: l, s', Q, hk, h, hQ => by
    rcases h with ⟨h1, h2⟩ | ⟨h1, h2⟩
    · refine h1 s' _ E hk fun s'' hk' => ?_
      rw [if_pos rfl]
      exact lex_gt l s'' Q (hk.trans hk') h2 fun s3 hk3 => hQ s3 (hk'.trans hk3)
    · refine h1 s' _ E hk fun s'' hk' => ?_
      rw [if_neg (by simp)]
      dsimp only at h2
      exact h2 _ _ _ (hk.trans hk') fun s3 hk3 => ⟨(fun e => nomatch e), hQ _ (hk'.trans hk3)⟩
theorem tup_rib_gt {t1 t2 : Addr} {xs ys : List Value} {r : Bool} (hu : A.units < cLine) (h1 : s.heap.get? t1 = some (tupO xs)) (h2 : s.heap.get? t2 = some (tupO ys)) (h : LexR w A.in1 s .Gt (decide (xs.length > ys.length)) (xs.zip ys) r) : RiB w A s .Gt (.ref t1) (.ref t2) r := by
  intro s' Q E hk hQ
  refine wpAny_mono (tup_gt_rich (Q := Q) (hk.keep _ _ h1) rfl rfl (hk.keep _ _ h2) rfl rfl hu ?_) (fun v s2 hv => hv.2) fun _ _ e => e
  rw [show (xs.toArray.toList.zip ys.toArray.toList) = xs.zip ys by simp]
  rw [List.size_toArray, List.size_toArray]
  exact lex_gt _ s' Q hk h hQ
theorem lex_lt {fin : Bool} {r : Bool} : ∀ (l : List (Value × Value)) (s' : Shared) (Q : Value → Shared → Prop), Keep s s' → LexR w A s .Lt fin l r → (∀ s'', Keep s' s'' → Q (.bool r) s'') → Lex_lt progL w A E fin Q l s'
  | [], s', Q, hk, h, hQ => by
    have e : r = fin := h
    subst e
    exact hQ _ (Keep.refl _)
  | (p, q) :: l, s', Q, hk, h, hQ => by
    rcases h with ⟨h1, h2⟩ | ⟨h1, h2⟩
    · refine h1 s' _ E hk fun s'' hk' => ?_
      rw [if_pos rfl]
      exact lex_lt l s'' Q (hk.trans hk') h2 fun s3 hk3 => hQ s3 (hk'.trans hk3)
    · refine h1 s' _ E hk fun s'' hk' => ?_
      rw [if_neg (by simp)]
      dsimp only at h2
      exact h2 _ _ _ (hk.trans hk') fun s3 hk3 => ⟨(fun e => nomatch e), hQ _ (hk'.trans hk3)⟩
theorem tup_rib_lt {t1 t2 : Addr} {xs ys : List Value} {r : Bool} (hu : A.units < cLine) (h1 : s.heap.get? t1 = some (tupO xs)) (h2 : s.heap.get? t2 = some (tupO ys)) (h : LexR w A.in1 s .Lt (decide (xs.length < ys.length)) (xs.zip ys) r) : RiB w A s .Lt (.ref t1) (.ref t2) r := by
  intro s' Q E hk hQ
  refine wpAny_mono (tup_lt_rich (Q := Q) (hk.keep _ _ h1) rfl rfl (hk.keep _ _ h2) rfl rfl hu ?_) (fun v s2 hv => hv.2) fun _ _ e => e
  rw [show (xs.toArray.toList.zip ys.toArray.toList) = xs.zip ys by simp]
  rw [List.size_toArray, List.size_toArray]
  exact lex_lt _ s' Q hk h hQ
end
section
variable {w : World} {dp un : Nat} {gd : Option (List Code)} {env : Env} {outer : List Env} {h₀ : Heap} {L : Addr} {m : Str → Option Value} {s : Shared} {full : List (Addr × Obj)}
/-- two identifiers of the same word are equal -/
theorem key_same {z : Str} {x y : Addr} {tl tl' : List (Addr × Obj)} (G : Gnd w dp un gd env outer h₀ L m s.heap) (N : News h₀ L s.heap full) (h1 : ∀ q ∈ tl, q ∈ full) (h2 : ∀ q ∈ tl', q ∈ full) (k1 : KeyObj w.params z tl x) (k2 : KeyObj w.params z tl' y) :
    EqB w (topA dp un gd env outer) s (.ref x) (.ref y) true := by
  refine i_eqb (fun _ => rfl) ?_
  have sub : ∀ q ∈ tl ++ tl', q ∈ full := fun q hq => (List.mem_append.mp hq).elim (h1 q) (h2 q)
  cases k1 with
  | num hd hn =>
    cases k2 with
    | num hd' hn' =>
      rw [hn] at hn'
      cases hn'
      exact i_rib (i_eq_nn w _ _ _ _ _ _ _ _ _ _ _) G N sub (h1 _ (.head _)) (h1 _ (.tail _ (.head _))) (h2 _ (.head _)) (nf_180_180 w rfl) (fs_149 w rfl) (ff_149 w rfl)
    | alpha hd' => rw [hd] at hd'; cases hd'
  | alpha hd =>
    cases k2 with
    | num hd' hn' => rw [hd] at hd'; cases hd'
    | alpha hd' => exact i_rib (i_eq_aa w _ _ _ _ _ _ _ _ _ _ _) G N sub (h1 _ (.head _)) (h1 _ (.tail _ (.head _))) (h2 _ (.head _)) (nf_243_243 w rfl) (fs_212 w rfl) (ff_212 w rfl)
theorem keys_same {op : CmpOp} {fin : Bool} (G : Gnd w dp un gd env outer h₀ L m s.heap) (N : News h₀ L s.heap full) {l1 l2 : List (Addr × Obj)} (h1 : ∀ q ∈ l1, q ∈ full) (h2 : ∀ q ∈ l2, q ∈ full) :
    ∀ {zs : List Str} {vs us : List Value}, Idd w.params l1 zs vs → Idd w.params l2 zs us → LexR w (topA dp un gd env outer) s op fin (vs.zip us) fin
  | _, _, _, .nil, .nil => rfl
  | _, _, _, .cons k h r, .cons k' h' r' => .inl ⟨key_same G N (fun q hq => h1 q (h q hq)) (fun q hq => h2 q (h' q hq)) k k', keys_same G N h1 h2 r r'⟩
theorem Idd.len {P : Params} : ∀ {zs : List Str} {vs : List Value}, Idd P full zs vs → vs.length = zs.length
  | _, _, .nil => rfl
  | _, _, .cons _ _ r => by rw [List.length_cons, List.length_cons, r.len]
theorem max_key {z : Str} {x dx y : Addr} {tl' : List (Addr × Obj)} {od : Obj} (G : Gnd w dp un gd env outer h₀ L m s.heap) (N : News h₀ L s.heap full) (h1 : ∀ q ∈ [(x, instObj 117 dx), (dx, od)], q ∈ full) (h2 : ∀ q ∈ tl', q ∈ full) (k2 : KeyObj w.params z tl' y) :
    EqB w (topA dp un gd env outer) s (.ref x) (.ref y) false ∧ RiB w (topA dp un gd env outer) s .Gt (.ref x) (.ref y) true ∧ RiB w (topA dp un gd env outer) s .Lt (.ref x) (.ref y) false ∧ x ≠ y := by
  have sub : ∀ q ∈ [(x, instObj 117 dx), (dx, od)] ++ tl', q ∈ full := fun q hq => (List.mem_append.mp hq).elim (h1 q) (h2 q)
  have hx := N _ (h1 _ (.head _))
  cases k2 with
  | num hd hn =>
    have hy := N _ (h2 _ (.head _))
    have ne : x ≠ y := fun e => by
      subst e
      have := hx.1.symm.trans hy.1
      injection this with this
      injection this with this
      injection this with this
      cases this
    refine ⟨i_eqb (fun e => absurd e ne) ?_, ?_, ?_, ne⟩
    · exact i_rib (i_eq_mn w _ _ _ _ _ _) G N sub (h1 _ (.head _)) (h1 _ (.tail _ (.head _))) (h2 _ (.head _)) (nf_117_180 w rfl) (fs_86 w rfl) (ff_86 w rfl)
    · exact i_rib (i_gt_mn w _ _ _ _ _ _) G N sub (h1 _ (.head _)) (h1 _ (.tail _ (.head _))) (h2 _ (.head _)) (nf_117_180 w rfl) (fs_107 w rfl) (ff_107 w rfl)
    · exact i_rib (i_lt_mn w _ _ _ _ _ _) G N sub (h1 _ (.head _)) (h1 _ (.tail _ (.head _))) (h2 _ (.head _)) (nf_117_180 w rfl) (fs_93 w rfl) (ff_93 w rfl)
  | alpha hd =>
    have hy := N _ (h2 _ (.head _))
    have ne : x ≠ y := fun e => by
      subst e
      have := hx.1.symm.trans hy.1
      injection this with this
      injection this with this
      injection this with this
      cases this
    refine ⟨i_eqb (fun e => absurd e ne) ?_, ?_, ?_, ne⟩
    · exact i_rib (i_eq_ma w _ _ _ _ _ _) G N sub (h1 _ (.head _)) (h1 _ (.tail _ (.head _))) (h2 _ (.head _)) (nf_117_243 w rfl) (fs_86 w rfl) (ff_86 w rfl)
    · exact i_rib (i_gt_ma w _ _ _ _ _ _) G N sub (h1 _ (.head _)) (h1 _ (.tail _ (.head _))) (h2 _ (.head _)) (nf_117_243 w rfl) (fs_107 w rfl) (ff_107 w rfl)
    · exact i_rib (i_lt_ma w _ _ _ _ _ _) G N sub (h1 _ (.head _)) (h1 _ (.tail _ (.head _))) (h2 _ (.head _)) (nf_117_243 w rfl) (fs_93 w rfl) (ff_93 w rfl)
end
end
section
inductive KeyRel : List Str → List Str → Bool → Prop
  | same {zs : List Str} : KeyRel zs zs true
  | max {z : Str} {zs : List Str} : KeyRel [] (z :: zs) false
noncomputable def gtV (A B C a b c : Int) (e : Bool) : Bool := if A = a then (if B = b then (if C = c then !e else decide (C > c)) else decide (B > b)) else decide (A > a)
noncomputable def ltV (A B C a b c : Int) : Bool := if A = a then (if B = b then (if C = c then false else decide (C < c)) else decide (B < b)) else decide (A < a)
section
variable {w : World} {dp un : Nat} {gd : Option (List Code)} {env : Env} {outer : List Env} {h₀ : Heap} {L : Addr} {m : Str → Option Value} {s : Shared} {full led1 led2 : List (Addr × Obj)} {acc1 acc2 : List Value} {zr zp : List Str} {e : Bool}
theorem Gnd.units {un' : Nat} {h : Heap} (G : Gnd w dp un gd env outer h₀ L m h) (hu : un' + 40 < cLine) : Gnd w dp un' gd env outer h₀ L m h := by
  cases G with
  | mk B F T X hf hk hd _ => exact .mk B F T X hf hk hd hu
theorem key_rel (G : Gnd w dp un gd env outer h₀ L m s.heap) (N : News h₀ L s.heap full) (k1 : PreKey w.params zr acc1 led1) (k2 : PreKey w.params zp acc2 led2) (h1 : ∀ q ∈ led1, q ∈ full) (h2 : ∀ q ∈ led2, q ∈ full) (rel : KeyRel zr zp e) :
    LexR w (topA dp un gd env outer) s .Eq (acc1.length == acc2.length) (acc1.zip acc2) e ∧ (e = false → (∀ fin, LexR w (topA dp un gd env outer) s .Gt fin (acc1.zip acc2) true) ∧ (∀ fin, LexR w (topA dp un gd env outer) s .Lt fin (acc1.zip acc2) false) ∧ acc1 ≠ acc2) := by
  cases rel with
  | same =>
    refine ⟨?_, fun h => nomatch h⟩
    cases k1 with
    | max =>
      cases k2 with
      | max =>
        refine .inl ⟨i_eqb (fun _ => rfl) ?_, rfl⟩
        have sub : ∀ q ∈ _ ++ _, q ∈ full := fun q hq => (List.mem_append.mp hq).elim (h1 q) (h2 q)
        exact i_rib (i_eq_mm w _ _ _ _ _ _) G N sub (h1 _ (.head _)) (h1 _ (.tail _ (.head _))) (h2 _ (.head _)) (nf_117_117 w rfl) (fs_86 w rfl) (ff_86 w rfl)
    | keys k1 =>
      cases k2 with
      | keys k2 =>
        have a1 := k1.all
        have a2 := k2.all
        have e : (acc1.length == acc2.length) = true := by rw [a1.len, a2.len, beq_self_eq_true]
        rw [e]
        exact keys_same G N h1 h2 a1 a2
  | max =>
    cases k1 with
    | max =>
      cases k2 with
      | keys k2 =>
        cases k2.all with
        | cons k h r =>
          obtain ⟨e1, e2, e3, ne⟩ := max_key G N h1 (fun q hq => h2 q (h q hq)) k
          refine ⟨.inr ⟨e1, rfl⟩, fun _ => ⟨fun _ => .inr ⟨e1, e2⟩, fun _ => .inr ⟨e1, e3⟩, fun q => ne ?_⟩⟩
          injection q with q _
          injection q
theorem int_eq {A : Around} (a b : Int) (t u : Tok) (h : a = b) : EqB w A s (.int a t) (.int b u) true := by
  have := eqb_int (w := w) (A := A) (s := s) a b t u
  rwa [show (a == b) = true by simp [h]] at this
theorem int_ne {A : Around} (a b : Int) (t u : Tok) (h : ¬ a = b) : EqB w A s (.int a t) (.int b u) false := by
  have := eqb_int (w := w) (A := A) (s := s) a b t u
  rwa [show (a == b) = false by simp [h]] at this
variable {tk1 tk2 pk1 pk2 : Addr} {A B C a b c : Int} {u1 u2 u3 v1 v2 v3 : Tok}
theorem ver_rib (G : Gnd w dp un gd env outer h₀ L m s.heap) (hu : un + 50 < cLine) (N : News h₀ L s.heap full) (k1 : PreKey w.params zr acc1 led1) (k2 : PreKey w.params zp acc2 led2) (h1 : ∀ q ∈ led1, q ∈ full) (h2 : ∀ q ∈ led2, q ∈ full) (rel : KeyRel zr zp e)
    (m1 : (tk1, tupO [.int A u1, .int B u2, .int C u3, .ref pk1]) ∈ full) (m2 : (tk2, tupO [.int a v1, .int b v2, .int c v3, .ref pk2]) ∈ full) (p1 : (pk1, tupO acc1) ∈ full) (p2 : (pk2, tupO acc2) ∈ full) :
    RiB w (topA dp un gd env outer) s .Gt (.ref tk1) (.ref tk2) (gtV A B C a b c e) ∧ RiB w (topA dp un gd env outer) s .Lt (.ref tk1) (.ref tk2) (ltV A B C a b c) := by
  have G1 := G.units (un' := un + 1) (lt_rc hu (by decide))
  have G2 := G.units (un' := un + 2) (lt_rc hu (by decide))
  obtain ⟨r1, -⟩ := key_rel G2 N k1 k2 h1 h2 rel
  obtain ⟨-, r2⟩ := key_rel G2 N k1 k2 h1 h2 rel
  have hp1 := (N _ p1).1
  have hp2 := (N _ p2).1
  have keq : EqB w (topA dp (un + 1) gd env outer) s (.ref pk1) (.ref pk2) e := by
    refine i_eqb (fun q => ?_) (tup_rib_eq (by show un + 1 < cLine; exact lt_r0 hu (by decide)) hp1 hp2 r1)
    cases e with
    | true => rfl
    | false =>
      obtain ⟨-, -, ne⟩ := r2 rfl
      rw [q, hp2] at hp1
      injection hp1 with hp1
      injection hp1 with _ _ hp1
      injection hp1 with hp1
      have q2 : acc2 = acc1 := by simpa using congrArg Array.toList hp1
      exact absurd q2.symm ne
  constructor
  · refine tup_rib_gt (by show un < cLine; exact lt_z0 hu) (N _ m1).1 (N _ m2).1 ?_
    unfold gtV
    show LexR w (topA dp (un + 1) gd env outer) s .Gt _ _ _
    by_cases hA : A = a
    · rw [if_pos hA]
      refine .inl ⟨int_eq _ _ _ _ hA, ?_⟩
      by_cases hB : B = b
      · rw [if_pos hB]
        refine .inl ⟨int_eq _ _ _ _ hB, ?_⟩
        by_cases hC : C = c
        · rw [if_pos hC]
          refine .inl ⟨int_eq _ _ _ _ hC, ?_⟩
          cases e with
          | true => exact .inl ⟨keq, rfl⟩
          | false => exact .inr ⟨keq, tup_rib_gt (by show un + 1 < cLine; exact lt_r0 hu (by decide)) hp1 hp2 ((r2 rfl).1 _)⟩
        · rw [if_neg hC]; exact .inr ⟨int_ne _ _ _ _ hC, rib_gt_int _ _ _ _⟩
      · rw [if_neg hB]; exact .inr ⟨int_ne _ _ _ _ hB, rib_gt_int _ _ _ _⟩
    · rw [if_neg hA]; exact .inr ⟨int_ne _ _ _ _ hA, rib_gt_int _ _ _ _⟩
  · refine tup_rib_lt (by show un < cLine; exact lt_z0 hu) (N _ m1).1 (N _ m2).1 ?_
    unfold ltV
    show LexR w (topA dp (un + 1) gd env outer) s .Lt _ _ _
    by_cases hA : A = a
    · rw [if_pos hA]
      refine .inl ⟨int_eq _ _ _ _ hA, ?_⟩
      by_cases hB : B = b
      · rw [if_pos hB]
        refine .inl ⟨int_eq _ _ _ _ hB, ?_⟩
        by_cases hC : C = c
        · rw [if_pos hC]
          refine .inl ⟨int_eq _ _ _ _ hC, ?_⟩
          cases e with
          | true => exact .inl ⟨keq, rfl⟩
          | false => exact .inr ⟨keq, tup_rib_lt (by show un + 1 < cLine; exact lt_r0 hu (by decide)) hp1 hp2 ((r2 rfl).2.1 _)⟩
        · rw [if_neg hC]; exact .inr ⟨int_ne _ _ _ _ hC, rib_lt_int _ _ _ _⟩
      · rw [if_neg hB]; exact .inr ⟨int_ne _ _ _ _ hB, rib_lt_int _ _ _ _⟩
    · rw [if_neg hA]; exact .inr ⟨int_ne _ _ _ _ hA, rib_lt_int _ _ _ _⟩
end
end
section
section
variable {w : World} {dp un : Nat} {gd : Option (List Code)} {env : Env} {outer : List Env} {h₀ : Heap} {L : Addr} {m : Str → Option Value} {s : Shared} {news : List (Addr × Obj)} {x y : Value} {r : Bool} {Q : Value → Shared → Prop} {E : Value → Shared → Prop}
theorem use_gt (R : RiB w (topA dp un gd env outer) s .Gt x y r) (F : Fr h₀ L s.heap m) (N : News h₀ L s.heap news) (h : ∀ h' tk', Fr h₀ L h' m → News h₀ L h' news → Q (.bool r) ⟨h', s.gens, s.drawn, tk', s.os⟩) :
    wpAny (model PySem.Challenge.rw_lh0061_01.row.prog w) (topA dp un gd env outer) (compareOp .Gt x y) Q E s := by
  refine R s Q E (Keep.refl _) fun s'' hk => ?_
  obtain ⟨h', g, d, t, o⟩ := s''
  obtain ⟨k, rfl, rfl, rfl⟩ := hk
  exact h h' t (F.keeps k) (N.keeps k)
theorem use_lt (R : RiB w (topA dp un gd env outer) s .Lt x y r) (F : Fr h₀ L s.heap m) (N : News h₀ L s.heap news) (h : ∀ h' tk', Fr h₀ L h' m → News h₀ L h' news → Q (.bool r) ⟨h', s.gens, s.drawn, tk', s.os⟩) :
    wpAny (model PySem.Challenge.rw_lh0061_01.row.prog w) (topA dp un gd env outer) (compareOp .Lt x y) Q E s := by
  refine R s Q E (Keep.refl _) fun s'' hk => ?_
  obtain ⟨h', g, d, t, o⟩ := s''
  obtain ⟨k, rfl, rfl, rfl⟩ := hk
  exact h h' t (F.keeps k) (N.keeps k)
theorem in8 {a1 a2 a3 a4 a5 a6 a7 a8 : Addr × Obj} {l led : List (Addr × Obj)} (h : ∀ q ∈ l, q ∈ led) : ∀ q ∈ l, q ∈ a1 :: a2 :: a3 :: a4 :: a5 :: a6 :: a7 :: a8 :: led := fun q hq => by simp [h q hq]
end
structure KOne (P : Params) (zr : List Str) (acc : List Value) (led : List (Addr × Obj)) : Prop where
  it : PreKey P zr acc led
structure KTwo (P : Params) (zr : List Str) (acc : List Value) (led : List (Addr × Obj)) : Prop where
  it : PreKey P zr acc led
theorem v_one {P : Params} {zr : List Str} {acc : List Value} {led : List (Addr × Obj)} (k : KOne P zr acc led) : PreKey P zr acc led := k.it
theorem v_two {P : Params} {zr : List Str} {acc : List Value} {led : List (Addr × Obj)} (k : KTwo P zr acc led) : PreKey P zr acc led := k.it
theorem Con.mono {w : World} {D U : Nat} {f : Value} {vs : List Value} {kw : List (Str × Value)} {sub sub' : List (Addr × Obj)} {post : Value → List (Addr × Obj) → Prop} (C : Con w D U f vs kw sub post) (h : ∀ q ∈ sub, q ∈ sub') : Con w D U f vs kw sub' post :=
  fun _ _ _ _ _ _ _ _ _ _ _ _ _ _ _ _ _ _ B F N T hf hk hd hu hs hret X => C _ _ _ _ _ _ _ _ _ _ _ _ _ _ _ _ _ _ B F N T hf hk hd hu (fun q hq => hs q (h q hq)) hret X
section
theorem kw1_Q7 : True := by
  (k_with "+compareOp Gt ref ref" => ((k_here; k_dflt (refine' use_gt (ver_rib (Gnd.mk ?B9q ?F9q ?T9q ?X9q ?hf9q ?hk9q ?hd9q ?hu9q) ?hu29q ?N9q ?k19q ?k29q (in8 ?h19q) (in8 ?h29q) ?rel9q ?m19q ?m29q ?p19q ?p29q).1 ?F29q ?N29q ?_; (case F9q => k_asm); (case B9q => k_asm); (case T9q => k_asm); (case X9q => k_asm); (case hf9q => exact rfl); (case hk9q => exact rfl); (case hd9q => ktr_room); (case hu9q => ktr_units); (case hu29q => ktr_units); (case N9q => k_asm); (case F29q => k_asm); (case N29q => k_asm); (case m19q => k_mem); (case m29q => k_mem); (case p19q => k_mem); (case p29q => k_mem); (case k19q => exact v_one (by assumption)); (case k29q => exact v_two (by assumption)); (case rel9q => k_asm); (case h19q => k_asm); (case h29q => k_asm); k_whole; intro h9 tk9 F9 N9; (try dsimp only)))))
  (k_with "+compareOp Lt ref ref" => ((k_here; k_dflt (refine' use_lt (ver_rib (e := _) (Gnd.mk ?B9q ?F9q ?T9q ?X9q ?hf9q ?hk9q ?hd9q ?hu9q) ?hu29q ?N9q ?k19q ?k29q (in8 ?h19q) (in8 ?h29q) ?rel9q ?m19q ?m29q ?p19q ?p29q).2 ?F29q ?N29q ?_; (case F9q => k_asm); (case B9q => k_asm); (case T9q => k_asm); (case X9q => k_asm); (case hf9q => exact rfl); (case hk9q => exact rfl); (case hd9q => ktr_room); (case hu9q => ktr_units); (case hu29q => ktr_units); (case N9q => k_asm); (case F29q => k_asm); (case N29q => k_asm); (case m19q => k_mem); (case m29q => k_mem); (case p19q => k_mem); (case p29q => k_mem); (case k19q => exact v_one (by assumption)); (case k29q => exact v_two (by assumption)); (case rel9q => k_asm); (case h19q => k_asm); (case h29q => k_asm); k_whole; intro h9 tk9 F9 N9; (try dsimp only)))))
  exact True.intro
theorem v_gt0 (w : World) (A B C a b c : Int) {zr zp : List Str} {e : Bool} {x1 dx1 tp1 tb1 tk1 r1 pk1 x2 dx2 tp2 tb2 tk2 r2 pk2 : Addr} {k1 k2 k3 k4 k5 k6 k7 k8 t1 t2 t3 u1 u2 u3 j1 j2 j3 j4 j5 j6 j7 j8 s1 s2 s3 v1 v2 v3 : Tok} {n1 n2 : Nat} {acc1 acc2 : List Value} {led1 led2 led : List (Addr × Obj)} (K1 : KOne w.params zr acc1 led1) (K2 : KTwo w.params zp acc2 led2) (hl1 : ∀ q ∈ led1, q ∈ led) (hl2 : ∀ q ∈ led2, q ∈ led) (rel : KeyRel zr zp e) :
    Con w 8 80 (.ref 438) [.ref x1, .ref x2] [] ((x1, instObj 448 dx1) :: (dx1, dictOf (vent8 w.params k1 k2 k3 k4 k5 k6 k7 k8 A B C t1 t2 t3 tp1 tb1 tk1 r1) n1) :: (tk1, tupO [.int A u1, .int B u2, .int C u3, .ref pk1]) :: (pk1, tupO acc1) :: (x2, instObj 448 dx2) :: (dx2, dictOf (vent8 w.params j1 j2 j3 j4 j5 j6 j7 j8 a b c s1 s2 s3 tp2 tb2 tk2 r2) n2) :: (tk2, tupO [.int a v1, .int b v2, .int c v3, .ref pk2]) :: (pk2, tupO acc2) :: led) (fun r tl => r = .bool (gtV A B C a b c e) ∧ tl = []) := by
  unfold Con
  intro p loose mean mg mb dp un gd env outer A₀ base h₀ L m news s R B F N T hf hk hd hu hsub hret
  k_fill
  intro X
  have N0 := news_sub N hsub
  walk_at "con enter"
  k_steps
  all_goals (unfold KeptEnd; dsimp only; intro hK; refine hret _ [] _ _ ?_ (keep_back N0 hK (by k_asm)) News.nil; exact ⟨rfl, rfl⟩)
theorem v_gt (w : World) {A B C a b c : Int} {zr yr zp yp : List Str} {x1 x2 : Addr} {tl1 tl2 : List (Addr × Obj)} {e : Bool} (V1 : VerObj w.params A B C zr yr x1 tl1) (V2 : VerObj w.params a b c zp yp x2 tl2) (rel : KeyRel zr zp e) :
    Con w 8 80 (.ref 438) [.ref x1, .ref x2] [] (tl1 ++ tl2) (fun r tl => r = .bool (gtV A B C a b c e) ∧ tl = []) := by
  cases V1 with
  | mk hvp hvb k =>
    cases V2 with
    | mk hvp' hvb' k' =>
      rename_i dx1 tp1 tb1 tk1 r1 pk1 k1 k2 k3 k4 k5 k6 k7 k8 t1 t2 t3 u1 u2 u3 n1 vp1 vb1 acc1 led1 dx2 tp2 tb2 tk2 r2 pk2 j1 j2 j3 j4 j5 j6 j7 j8 s1 s2 s3 v1 v2 v3 n2 vp2 vb2 acc2 led2
      refine Con.mono (sub := ((x1, instObj 448 dx1) :: (dx1, dictOf (vent8 w.params k1 k2 k3 k4 k5 k6 k7 k8 A B C t1 t2 t3 tp1 tb1 tk1 r1) n1) :: (tk1, tupO [.int A u1, .int B u2, .int C u3, .ref pk1]) :: (pk1, tupO acc1) :: (x2, instObj 448 dx2) :: (dx2, dictOf (vent8 w.params j1 j2 j3 j4 j5 j6 j7 j8 a b c s1 s2 s3 tp2 tb2 tk2 r2) n2) :: (tk2, tupO [.int a v1, .int b v2, .int c v3, .ref pk2]) :: (pk2, tupO acc2) :: (led1 ++ led2))) (v_gt0 w A B C a b c ⟨k⟩ ⟨k'⟩ (fun _ h => List.mem_append_left _ h) (fun _ h => List.mem_append_right _ h) rel) sub10
theorem v_lt0 (w : World) (A B C a b c : Int) {zr zp : List Str} {e : Bool} {x1 dx1 tp1 tb1 tk1 r1 pk1 x2 dx2 tp2 tb2 tk2 r2 pk2 : Addr} {k1 k2 k3 k4 k5 k6 k7 k8 t1 t2 t3 u1 u2 u3 j1 j2 j3 j4 j5 j6 j7 j8 s1 s2 s3 v1 v2 v3 : Tok} {n1 n2 : Nat} {acc1 acc2 : List Value} {led1 led2 led : List (Addr × Obj)} (K1 : KOne w.params zr acc1 led1) (K2 : KTwo w.params zp acc2 led2) (hl1 : ∀ q ∈ led1, q ∈ led) (hl2 : ∀ q ∈ led2, q ∈ led) (rel : KeyRel zr zp e) :
    Con w 8 80 (.ref 424) [.ref x1, .ref x2] [] ((x1, instObj 448 dx1) :: (dx1, dictOf (vent8 w.params k1 k2 k3 k4 k5 k6 k7 k8 A B C t1 t2 t3 tp1 tb1 tk1 r1) n1) :: (tk1, tupO [.int A u1, .int B u2, .int C u3, .ref pk1]) :: (pk1, tupO acc1) :: (x2, instObj 448 dx2) :: (dx2, dictOf (vent8 w.params j1 j2 j3 j4 j5 j6 j7 j8 a b c s1 s2 s3 tp2 tb2 tk2 r2) n2) :: (tk2, tupO [.int a v1, .int b v2, .int c v3, .ref pk2]) :: (pk2, tupO acc2) :: led) (fun r tl => r = .bool (ltV A B C a b c) ∧ tl = []) := by
  unfold Con
  intro p loose mean mg mb dp un gd env outer A₀ base h₀ L m news s R B F N T hf hk hd hu hsub hret
  k_fill
  intro X
  have N0 := news_sub N hsub
  walk_at "con enter"
  k_steps
  all_goals (unfold KeptEnd; dsimp only; intro hK; refine hret _ [] _ _ ?_ (keep_back N0 hK (by k_asm)) News.nil; exact ⟨rfl, rfl⟩)
theorem v_lt (w : World) {A B C a b c : Int} {zr yr zp yp : List Str} {x1 x2 : Addr} {tl1 tl2 : List (Addr × Obj)} {e : Bool} (V1 : VerObj w.params A B C zr yr x1 tl1) (V2 : VerObj w.params a b c zp yp x2 tl2) (rel : KeyRel zr zp e) :
    Con w 8 80 (.ref 424) [.ref x1, .ref x2] [] (tl1 ++ tl2) (fun r tl => r = .bool (ltV A B C a b c) ∧ tl = []) := by
  cases V1 with
  | mk hvp hvb k =>
    cases V2 with
    | mk hvp' hvb' k' =>
      rename_i dx1 tp1 tb1 tk1 r1 pk1 k1 k2 k3 k4 k5 k6 k7 k8 t1 t2 t3 u1 u2 u3 n1 vp1 vb1 acc1 led1 dx2 tp2 tb2 tk2 r2 pk2 j1 j2 j3 j4 j5 j6 j7 j8 s1 s2 s3 v1 v2 v3 n2 vp2 vb2 acc2 led2
      refine Con.mono (sub := ((x1, instObj 448 dx1) :: (dx1, dictOf (vent8 w.params k1 k2 k3 k4 k5 k6 k7 k8 A B C t1 t2 t3 tp1 tb1 tk1 r1) n1) :: (tk1, tupO [.int A u1, .int B u2, .int C u3, .ref pk1]) :: (pk1, tupO acc1) :: (x2, instObj 448 dx2) :: (dx2, dictOf (vent8 w.params j1 j2 j3 j4 j5 j6 j7 j8 a b c s1 s2 s3 tp2 tb2 tk2 r2) n2) :: (tk2, tupO [.int a v1, .int b v2, .int c v3, .ref pk2]) :: (pk2, tupO acc2) :: (led1 ++ led2))) (v_lt0 w A B C a b c ⟨k⟩ ⟨k'⟩ (fun _ h => List.mem_append_left _ h) (fun _ h => List.mem_append_right _ h) rel) sub10
end
theorem kw2_Q7 : True := by
  k_with_none
  (k_with "+lt room" => (first | exact lt_r0 (by assumption) (by decide) | exact lt_rc (by assumption) (by decide) | exact lt_rd (by assumption) (by decide) | exact lt_z0 (by assumption)))
  (k_with "@ktr_room" => (walk_at "lt room"))
  (k_with "@ktr_units" => (walk_at "lt room"))
  (k_with "@units_room" => (walk_at "lt room"))
  (k_with "@k_room" => (ktr_room))
  (k_with "+con binds" => (first | exact fm_nilE (by exact rfl) | exact fm_some (by exact rfl) (by walk_at "con binds")))
  (k_with "+con enter" => ((k_dflt (refine' code_keep ?k19q ?k29q ?k39q ?k49q ?k59q ?kA9q ?kF9q ?kK9q ?k69q ?k79q ?k89q ?k99q ?kB9q ?_ ?c29q ?c39q ?c49q ?c59q; (case kA9q => exact rfl); (case kF9q => assumption); (case kK9q => assumption); (case k49q => k_asm); (case k19q => k_asm); (case k29q => k_asm); (case k39q => k_asm); (case k59q => k_asm); (case k69q => k_is); (case k79q => k_is); (case k89q => ktr_room); (case k99q => (refine' binds_to ?b99q ?e99q; (case b99q => first | exact BindsTo.of_eq rfl | exact binds_K (by k_in) rfl (by k_is) rfl rfl rfl | fail "con enter: no rule for these arguments"); (case e99q => first | (walk_at "con binds") | (walk_say "con enter: binds left as they are"; exact rfl)))); (case c59q => decide); (case kB9q => exact locs rfl); (case c29q => exact rfl); (case c39q => exact rfl); (case c49q => exact rfl); k_whole; intro g' L' h' FG' F' N' B' X' T' G0'; (try dsimp only); (try k_fold)))))
  (k_with "+con sub" => (repeat (first | exact sub_nil | refine sub_cons (by k_mem) ?_)))
  (k_with "+ite" => ((k_here; k_openite; with_reducible refine ite_isFalse (bne_self_eq_false _) ?_; walk_say "PRUNED same")))
  (k_with "+con sides" => (((case k39q => k_asm); (case k29q => k_asm); (case k19q => k_asm); (case k49q => k_asm); (case k59q => k_asm); (case kF9q => first | exact rfl | assumption); (case kK9q => first | exact rfl | assumption); (case kd9q => ktr_room); (case ku9q => ktr_units); (case ks9q => walk_at "con sub"))))
  (k_with "+ne close" => (first | assumption | exact Ne.symm (by assumption) | exact Nat.ne_of_lt (by assumption) | exact Nat.ne_of_gt (by assumption) | exact Nat.ne_of_lt (Nat.lt_trans (by assumption) (by assumption)) | exact Nat.ne_of_gt (Nat.lt_trans (by assumption) (by assumption)) | (rename _ ∧ _ => hh9; obtain ⟨_, _⟩ := hh9; walk_at "ne close")))
  (k_with "@k_ne" => ((refine neN ?_; (try dsimp only); with_reducible walk_at "ne close")))
  exact True.intro
end
section
section
variable {w : World} {A : Around} {s : Shared}
theorem eqb_str (x y : Str) (t u : Tok) : EqB w A s (.str x t) (.str y u) (x == y) := fun _ _ _ _ hQ => wpAny_eqBool_str (hQ _ (Keep.refl _))
theorem strs_lex : ∀ {vs us : List Value} {xs ys : List Str} (fin : Bool), StrsAre vs xs → StrsAre us ys → fin = (vs.length == us.length) → LexR w A s .Eq fin (vs.zip us) (decide (xs = ys))
  | [], us, xs, ys, fin, hx, hy, hf => by
    cases hx
    cases us with
    | nil => cases hy; subst hf; exact rfl
    | cons u us =>
      cases hy
      subst hf
      show decide _ = _
      simp
  | v :: vs, [], xs, ys, fin, hx, hy, hf => by
    cases hy
    cases hx
    subst hf
    show decide _ = _
    simp
  | v :: vs, u :: us, x :: xs, y :: ys, fin, hx, hy, hf => by
    obtain ⟨t, r, e, hx2⟩ := hx.cons_inv
    obtain ⟨t', r', e', hy2⟩ := hy.cons_inv
    injection e with e1 e2
    injection e' with e3 e4
    subst e1; subst e2; subst e3; subst e4
    have := eqb_str (w := w) (A := A) (s := s) x y t t'
    by_cases hxy : x = y
    · subst hxy
      rw [beq_self_eq_true] at this
      refine .inl ⟨this, ?_⟩
      rw [show decide (x :: xs = x :: ys) = decide (xs = ys) by simp]
      exact strs_lex fin hx2 hy2 (by simpa using hf)
    · rw [show (x == y) = false by simp [hxy]] at this
      refine .inr ⟨this, ?_⟩
      show decide _ = false
      simp [hxy]
theorem strs_rib {t1 t2 : Addr} {vs us : List Value} {xs ys : List Str} (hu : A.units < cLine) (h1 : s.heap.get? t1 = some (tupO vs)) (h2 : s.heap.get? t2 = some (tupO us)) (hx : StrsAre vs xs) (hy : StrsAre us ys) : RiB w A s .Eq (.ref t1) (.ref t2) (decide (xs = ys)) :=
  tup_rib_eq hu h1 h2 (strs_lex _ hx hy rfl)
end
section
variable {w : World} {dp un : Nat} {gd : Option (List Code)} {env : Env} {outer : List Env} {h₀ : Heap} {L : Addr} {m : Str → Option Value} {s : Shared} {news : List (Addr × Obj)} {x y : Value} {r : Bool} {Q : Value → Shared → Prop} {E : Value → Shared → Prop}
theorem use_eq (R : RiB w (topA dp un gd env outer) s .Eq x y r) (F : Fr h₀ L s.heap m) (N : News h₀ L s.heap news) (h : ∀ h' tk', Fr h₀ L h' m → News h₀ L h' news → Q (.bool r) ⟨h', s.gens, s.drawn, tk', s.os⟩) :
    wpAny (model PySem.Challenge.rw_lh0061_01.row.prog w) (topA dp un gd env outer) (compareOp .Eq x y) Q E s := by
  refine R s Q E (Keep.refl _) fun s'' hk => ?_
  obtain ⟨h', g, d, t, o⟩ := s''
  obtain ⟨k, rfl, rfl, rfl⟩ := hk
  exact h h' t (F.keeps k) (N.keeps k)
theorem strs_ribN {t1 t2 : Addr} {vs us : List Value} {xs ys : List Str} (hu : un < cLine) (N : News h₀ L s.heap news) (h1 : (t1, tupO vs) ∈ news) (h2 : (t2, tupO us) ∈ news) (hx : StrsAre vs xs) (hy : StrsAre us ys) : RiB w (topA dp un gd env outer) s .Eq (.ref t1) (.ref t2) (decide (xs = ys)) :=
  strs_rib (by show un < cLine; exact hu) (N _ h1).1 (N _ h2).1 hx hy
end
theorem few1000 {xs : List Str} {vs : List Value} (h : Ids xs) (k : StrsAre vs xs) : vs.length ≤ 1000 := by
  rw [StrsAre.length k]; exact Nat.le_trans h.few (by decide)
theorem nil_dec {zp : List Str} (h : ¬ zp = []) (k : decide ([] = zp) = true) : False := h (of_decide_eq_true k).symm
noncomputable def eqV (A B C a b c : Int) (zr yr zp yp : List Str) : Bool := decide (A = a ∧ B = b ∧ C = c ∧ zr = zp ∧ yr = yp)
section
theorem kw1_Q8 : True := by
  (k_with "@k_mem" => (first | with_reducible assumption | with_reducible exact List.mem_cons_self | (with_reducible refine List.mem_cons_of_mem _ ?_; k_mem)))
  (k_with "+compareOp Eq ref ref" => ((k_here; k_dflt (refine' use_eq (strs_ribN ?hu9q ?N9q ?m19q ?m29q ?s19q ?s29q) ?F29q ?N29q ?_; (case N9q => k_asm); (case hu9q => ktr_units); (case F29q => k_asm); (case N29q => k_asm); (case m19q => k_mem); (case m29q => k_mem); (case s19q => k_asm); (case s29q => k_asm); k_whole; intro h9 tk9 F9 N9; (try dsimp only)))))
  (k_with "+truthy ref" => ((k_here; (with_reducible show wpAny _ _ (truthy (Value.ref _)) _ _ _); k_dflt (refine' truthy_strs ?N9q ?m9q ?x9q ?z9q ?_; (case N9q => k_asm); (case m9q => k_mem); (case x9q => k_asm); (case z9q => k_asm); k_whole))))
  (k_with "+eval BoolOp" => ((k_here; (with_reducible show wpAny _ _ (eval (PySem.Expr.BoolOp _ [PySem.Expr.Attribute _ _ _, PySem.Expr.Tuple _ _ _] _) _) _ _ _); k_dflt (refine' or_tup ?hA9q ?F9q ?N9q ?hm9q ?hv9q ?hz9q ?_; (case hA9q => (intro Q9 h9; (repeat walk1); exact h9 _)); (case F9q => k_asm); (case N9q => k_asm); (case hm9q => k_mem); (case hv9q => k_asm); (case hz9q => k_asm)); intro D9 h9 tk9 _ F9 N9; (try dsimp only))))
  exact True.intro
theorem v_eq0 (w : World) (A B C a b c : Int) {zr yr zp yp : List Str} {x1 dx1 tp1 tb1 tk1 r1 x2 dx2 tp2 tb2 tk2 r2 : Addr} {k1 k2 k3 k4 k5 k6 k7 k8 t1 t2 t3 j1 j2 j3 j4 j5 j6 j7 j8 s1 s2 s3 : Tok} {n1 n2 : Nat} {vp1 vb1 vp2 vb2 : List Value} (hp1 : StrsAre vp1 zr) (hb1 : StrsAre vb1 yr) (hp2 : StrsAre vp2 zp) (hb2 : StrsAre vb2 yp) (l1 : vp1.length ≤ 1000) (l2 : vb1.length ≤ 1000) (l3 : vp2.length ≤ 1000) (l4 : vb2.length ≤ 1000) (s0 : StrsAre [] []) :
    Con w 8 80 (.ref 410) [.ref x1, .ref x2] [] [(x1, instObj 448 dx1), (dx1, dictOf (vent8 w.params k1 k2 k3 k4 k5 k6 k7 k8 A B C t1 t2 t3 tp1 tb1 tk1 r1) n1), (tp1, tupO vp1), (tb1, tupO vb1), (x2, instObj 448 dx2), (dx2, dictOf (vent8 w.params j1 j2 j3 j4 j5 j6 j7 j8 a b c s1 s2 s3 tp2 tb2 tk2 r2) n2), (tp2, tupO vp2), (tb2, tupO vb2)] (fun r tl => r = .bool (eqV A B C a b c zr yr zp yp) ∧ tl = []) := by
  unfold Con
  intro p loose mean mg mb dp un gd env outer A₀ base h₀ L m news s R B F N T hf hk hd hu hsub hret
  k_fill
  intro X
  have N0 := news_sub N hsub
  walk_at "con enter"
  refine' gen_news (by k_asm) ?_
  intro news9 N9 hs9
  repeat (have m9 := (List.forall_mem_cons.mp hs9).1; replace hs9 := (List.forall_mem_cons.mp hs9).2)
  k_steps
  all_goals (unfold KeptEnd; dsimp only; intro hK; refine hret _ [] _ _ ?_ (keep_back N0 hK (news_sub (by k_asm) (by walk_at "con sub"))) News.nil; refine ⟨congrArg Value.bool ?_, rfl⟩; clear N0 hK hret hsub N F B T X hp1 hb1 hp2 hb2; first | (simp [eqV, *]; done) | (exfalso; first | exact nil_dec (zp := zp) (by assumption) (by assumption) | exact nil_dec (zp := yp) (by assumption) (by assumption)))
theorem v_eq (w : World) {A B C a b c : Int} {zr yr zp yp : List Str} {x1 x2 : Addr} {tl1 tl2 : List (Addr × Obj)} (V1 : VerObj w.params A B C zr yr x1 tl1) (V2 : VerObj w.params a b c zp yp x2 tl2) (h1 : Ids zr) (h2 : Ids yr) (h3 : Ids zp) (h4 : Ids yp) :
    Con w 8 80 (.ref 410) [.ref x1, .ref x2] [] (tl1 ++ tl2) (fun r tl => r = .bool (eqV A B C a b c zr yr zp yp) ∧ tl = []) := by
  cases V1 with
  | mk hvp hvb k =>
    cases V2 with
    | mk hvp' hvb' k' =>
      rename_i dx1 tp1 tb1 tk1 r1 pk1 k1 k2 k3 k4 k5 k6 k7 k8 t1 t2 t3 u1 u2 u3 n1 vp1 vb1 acc1 led1 dx2 tp2 tb2 tk2 r2 pk2 j1 j2 j3 j4 j5 j6 j7 j8 s1 s2 s3 v1 v2 v3 n2 vp2 vb2 acc2 led2
      refine Con.mono (sub := [(x1, instObj 448 dx1), (dx1, dictOf (vent8 w.params k1 k2 k3 k4 k5 k6 k7 k8 A B C t1 t2 t3 tp1 tb1 tk1 r1) n1), (tp1, tupO vp1), (tb1, tupO vb1), (x2, instObj 448 dx2), (dx2, dictOf (vent8 w.params j1 j2 j3 j4 j5 j6 j7 j8 a b c s1 s2 s3 tp2 tb2 tk2 r2) n2), (tp2, tupO vp2), (tb2, tupO vb2)]) (v_eq0 w A B C a b c hvp hvb hvp' hvb' (few1000 h1 hvp) (few1000 h2 hvb) (few1000 h3 hvp') (few1000 h4 hvb') .nil) sub8
end
theorem kw2_Q8 : True := by
  k_with_none
  (k_with "+lt room" => (first | exact lt_r0 (by assumption) (by decide) | exact lt_rc (by assumption) (by decide) | exact lt_rd (by assumption) (by decide) | exact lt_z0 (by assumption)))
  (k_with "@ktr_room" => (walk_at "lt room"))
  (k_with "@ktr_units" => (walk_at "lt room"))
  (k_with "@units_room" => (walk_at "lt room"))
  (k_with "@k_room" => (ktr_room))
  (k_with "+con binds" => (first | exact fm_nilE (by exact rfl) | exact fm_some (by exact rfl) (by walk_at "con binds")))
  (k_with "+con enter" => ((k_dflt (refine' code_keep ?k19q ?k29q ?k39q ?k49q ?k59q ?kA9q ?kF9q ?kK9q ?k69q ?k79q ?k89q ?k99q ?kB9q ?_ ?c29q ?c39q ?c49q ?c59q; (case kA9q => exact rfl); (case kF9q => assumption); (case kK9q => assumption); (case k49q => k_asm); (case k19q => k_asm); (case k29q => k_asm); (case k39q => k_asm); (case k59q => k_asm); (case k69q => k_is); (case k79q => k_is); (case k89q => ktr_room); (case k99q => (refine' binds_to ?b99q ?e99q; (case b99q => first | exact BindsTo.of_eq rfl | exact binds_K (by k_in) rfl (by k_is) rfl rfl rfl | fail "con enter: no rule for these arguments"); (case e99q => first | (walk_at "con binds") | (walk_say "con enter: binds left as they are"; exact rfl)))); (case c59q => decide); (case kB9q => exact locs rfl); (case c29q => exact rfl); (case c39q => exact rfl); (case c49q => exact rfl); k_whole; intro g' L' h' FG' F' N' B' X' T' G0'; (try dsimp only); (try k_fold)))))
  (k_with "+con sub" => (repeat (first | exact sub_nil | refine sub_cons (by k_mem) ?_)))
  (k_with "+ite" => ((k_here; k_openite; with_reducible refine ite_isFalse (bne_self_eq_false _) ?_; walk_say "PRUNED same")))
  (k_with "+con sides" => (((case k39q => k_asm); (case k29q => k_asm); (case k19q => k_asm); (case k49q => k_asm); (case k59q => k_asm); (case kF9q => first | exact rfl | assumption); (case kK9q => first | exact rfl | assumption); (case kd9q => ktr_room); (case ku9q => ktr_units); (case ks9q => walk_at "con sub"))))
  (k_with "+ne close" => (first | assumption | exact Ne.symm (by assumption) | exact Nat.ne_of_lt (by assumption) | exact Nat.ne_of_gt (by assumption) | exact Nat.ne_of_lt (Nat.lt_trans (by assumption) (by assumption)) | exact Nat.ne_of_gt (Nat.lt_trans (by assumption) (by assumption)) | (rename _ ∧ _ => hh9; obtain ⟨_, _⟩ := hh9; walk_at "ne close")))
  (k_with "@k_ne" => ((refine neN ?_; (try dsimp only); with_reducible walk_at "ne close")))
  exact True.intro
end
section
section
open Builtin Builtin.Str PySem.W.KPc
section
variable {M : Model} {A : Around} {E : Value → Shared → Prop} {s : Shared} {l : List Nat} {p : List Value} {r : List Nat}
  {f : Nat → List Value × Writer × List Nat → Sem (ForInStep (List Value × Writer × List Nat))} {Q : List Value × Writer × List Nat → Shared → Prop}
  {w : Writer} {T x y : PySem.Str} {N K : Nat} {o : Option Value}
theorem after_intB {c : Percent} {n : Int} {d : List Nat} (g : Good w T N) (h1 : c.alt = false) (h2 : c.type = 100 ∨ c.type = 105 ∨ c.type = 117) (h3 : c.prec = none) (hn : 0 ≤ n) (hm : n < 10 ^ 40)
    (hd : d = (PySem.Str.ofString (toString ((n.natAbs : Nat) : Int))).cps.toList) (ho : o = none) (h : ∀ w', Good w' (T ++ PySem.Str.ofString (toString n)) (N + 40) → wpAny M A (forIn l (p, w', r) f) Q E s) :
    wpAny M A (forIn l (p, w.add ⟨(percentInt c (decide (n < 0)) d).toArray⟩ o, r) f) Q E s := by
  have en : ((n.natAbs : Nat) : Int) = n := Int.natAbs_of_nonneg hn
  rw [int_text c h1 h2 h3 hn, hd, en]
  exact after_str g (toString_length_le hn (by decide) hm) (obj_none ho) h
theorem after_intB0 {c : Percent} {n : Int} {d : List Nat} (g : Good w PySem.Str.empty N) (h1 : c.alt = false) (h2 : c.type = 100 ∨ c.type = 105 ∨ c.type = 117) (h3 : c.prec = none) (hn : 0 ≤ n) (hm : n < 10 ^ 40)
    (hd : d = (PySem.Str.ofString (toString ((n.natAbs : Nat) : Int))).cps.toList) (ho : o = none) (h : ∀ w', Good w' (PySem.Str.ofString (toString n)) (N + 40) → wpAny M A (forIn l (p, w', r) f) Q E s) :
    wpAny M A (forIn l (p, w.add ⟨(percentInt c (decide (n < 0)) d).toArray⟩ o, r) f) Q E s :=
  after_intB g h1 h2 h3 hn hm hd ho fun w' g' => h w' (by rw [empty_app] at g'; exact g')
end
theorem kw1_S0 : True := by
  (k_with "@kpt_len" => (with_reducible assumption))
  (k_with "@kpt_hd" => (with_reducible assumption))
  exact True.intro
theorem small_log {n : Int} (h0 : 0 ≤ n) (h1 : n < 10 ^ 40) : n.natAbs.log2 < 1920 := shown (N := 2 ^ 1920) (by omega) (by omega) (Int.le_refl _)
theorem fmt_d {n : Int} (h0 : 0 ≤ n) (h1 : n < 10 ^ 40) (h2 : n.natAbs.log2 < 1920) (h3 : ((n.natAbs : Nat) : Int).natAbs.log2 < 1920) (t u : Tok) : Meets («str.__mod__» ⟨[.str (PySem.Str.mk #[37, 100]) t, .int n u], []⟩) (fun _ R s => ∀ t' k, R (.ok (.ret (.str (PySem.Str.ofString (toString n)) t'))) { s with toks := k }) := by
  apply KPc.meets_of
  intro _ _ _ _ _ _ _
  rw [KPc.entry_is]
  unfold Builtin.Str.percentFormat
  refine wpAny_bind (wpAny_isInstance (typeIs_int _ _ _) F.sub_int_tuple ?_)
  refine wpAny_bind (wpAny_of_eq (a := none) rfl ?_)
  refine wpAny_bind (wpAny_of_eq (KPc.fills _ _) ?_)
  kpc_if
  refine wpAny_bind (wpAny_pure ?_)
  refine wpAny_bind ?_
  rw [KPc.range_list]
  refine KPc.start ?_
  intro _ _
  refine KPc.turn ?_
  kpc_check
  repeat kpc_if
  refine wpAny_bind ?_
  refine wpAny_holding ?_
  repeat kpc_if
  kpc_conv
  refine wpAny_pure ?_
  refine wpAny_pure ?_
  refine after_intB0 (by kpc_g) rfl (by kpc_kind) rfl (by with_reducible assumption) (by with_reducible assumption) rfl (by kpc_none) ?_
  intro _ _
  refine KPc.turn ?_
  kpc_check
  repeat kpc_if
  kpc_close
theorem fmt_sd {n : Int} {T : PySem.Str} (hT : T.length ≤ 100000) (h0 : 0 ≤ n) (h1 : n < 10 ^ 40) (h2 : n.natAbs.log2 < 1920) (t u v : Tok) (b : Addr) : Meets («str.__mod__» ⟨[.str (PySem.Str.mk #[37, 115, 46, 37, 100]) t, .ref b], []⟩) (fun _ R s => IsTup s.heap b #[.str T u, .int n v] ∧ ∀ t' k, R (.ok (.ret (.str (T ++ PySem.Str.ofString "." ++ PySem.Str.ofString (toString n)) t'))) { s with toks := k }) := by
  apply KPt.meets_tup
  intro _ _ _ _ _ _ kptH _
  obtain ⟨kptO, kptG, kptC, kptN, kptD⟩ := kptH
  rw [KPt.entry_is_r]
  unfold Builtin.Str.percentFormat
  refine wpAny_bind (wpAny_isInstance (T := "tuple") ⟨kptO, kptG, kptC⟩ KPt.sub_tt ?_)
  refine wpAny_bind (KPt.asStr_ref kptG kptD ?_)
  refine wpAny_bind (KPt.fills_ref ⟨kptO, kptG, kptC⟩ ?_)
  intro _
  kpc_if
  refine wpAny_bind (wpAny_seqItems kptG kptD ?_)
  refine wpAny_bind (wpAny_pure ?_)
  refine wpAny_bind ?_
  rw [KPc.range_list]
  refine KPc.start ?_
  intro _ _
  refine KPc.turn ?_
  kpc_check
  repeat kpc_if
  refine wpAny_bind ?_
  refine wpAny_holding ?_
  repeat kpc_if
  kpt_conv
  refine wpAny_pure ?_
  refine wpAny_pure ?_
  refine KPc.after_str0 (by kpc_g) (by kpt_len) (by kpc_obj) ?_
  intro _ _
  refine KPc.turn ?_
  kpc_check
  repeat kpc_if
  refine wpAny_pure ?_
  refine KPc.after_add (by kpc_g) (by kpc_text) (by kpc_obj) ?_
  intro _ _
  refine KPc.turn ?_
  kpc_check
  repeat kpc_if
  refine wpAny_bind ?_
  refine wpAny_holding ?_
  repeat kpc_if
  kpt_conv
  refine wpAny_pure ?_
  refine wpAny_pure ?_
  refine after_intB (by kpc_g) rfl (by kpc_kind) rfl (by with_reducible assumption) (by with_reducible assumption) rfl (by kpc_none) ?_
  intro _ _
  refine KPc.turn ?_
  kpc_check
  repeat kpc_if
  kpc_close
theorem fmt_minus {T U : PySem.Str} (hT : T.length ≤ 100000) (hU : U.length ≤ 100000) (t u v : Tok) (b : Addr) : Meets («str.__mod__» ⟨[.str (PySem.Str.mk #[37, 115, 45, 37, 115]) t, .ref b], []⟩) (fun _ R s => IsTup s.heap b #[.str T u, .str U v] ∧ ∀ t' k, R (.ok (.ret (.str (T ++ PySem.Str.ofString "-" ++ U) t'))) { s with toks := k }) := by
  apply KPt.meets_tup
  intro _ _ _ _ _ _ kptH _
  obtain ⟨kptO, kptG, kptC, kptN, kptD⟩ := kptH
  rw [KPt.entry_is_r]
  unfold Builtin.Str.percentFormat
  refine wpAny_bind (wpAny_isInstance (T := "tuple") ⟨kptO, kptG, kptC⟩ KPt.sub_tt ?_)
  refine wpAny_bind (KPt.asStr_ref kptG kptD ?_)
  refine wpAny_bind (KPt.fills_ref ⟨kptO, kptG, kptC⟩ ?_)
  intro _
  kpc_if
  refine wpAny_bind (wpAny_seqItems kptG kptD ?_)
  refine wpAny_bind (wpAny_pure ?_)
  refine wpAny_bind ?_
  rw [KPc.range_list]
  refine KPc.start ?_
  intro _ _
  refine KPc.turn ?_
  kpc_check
  repeat kpc_if
  refine wpAny_bind ?_
  refine wpAny_holding ?_
  repeat kpc_if
  kpt_conv
  refine wpAny_pure ?_
  refine wpAny_pure ?_
  refine KPc.after_str0 (by kpc_g) (by kpt_len) (by kpc_obj) ?_
  intro _ _
  refine KPc.turn ?_
  kpc_check
  repeat kpc_if
  refine wpAny_pure ?_
  refine KPc.after_add (by kpc_g) (by kpc_text) (by kpc_obj) ?_
  intro _ _
  refine KPc.turn ?_
  kpc_check
  repeat kpc_if
  refine wpAny_bind ?_
  refine wpAny_holding ?_
  repeat kpc_if
  kpt_conv
  refine wpAny_pure ?_
  refine wpAny_pure ?_
  refine KPc.after_str (by kpc_g) (by kpt_len) (by kpc_obj) ?_
  intro _ _
  refine KPc.turn ?_
  kpc_check
  repeat kpc_if
  kpc_close
theorem fmt_plus {T U : PySem.Str} (hT : T.length ≤ 100000) (hU : U.length ≤ 100000) (t u v : Tok) (b : Addr) : Meets («str.__mod__» ⟨[.str (PySem.Str.mk #[37, 115, 43, 37, 115]) t, .ref b], []⟩) (fun _ R s => IsTup s.heap b #[.str T u, .str U v] ∧ ∀ t' k, R (.ok (.ret (.str (T ++ PySem.Str.ofString "+" ++ U) t'))) { s with toks := k }) := by
  apply KPt.meets_tup
  intro _ _ _ _ _ _ kptH _
  obtain ⟨kptO, kptG, kptC, kptN, kptD⟩ := kptH
  rw [KPt.entry_is_r]
  unfold Builtin.Str.percentFormat
  refine wpAny_bind (wpAny_isInstance (T := "tuple") ⟨kptO, kptG, kptC⟩ KPt.sub_tt ?_)
  refine wpAny_bind (KPt.asStr_ref kptG kptD ?_)
  refine wpAny_bind (KPt.fills_ref ⟨kptO, kptG, kptC⟩ ?_)
  intro _
  kpc_if
  refine wpAny_bind (wpAny_seqItems kptG kptD ?_)
  refine wpAny_bind (wpAny_pure ?_)
  refine wpAny_bind ?_
  rw [KPc.range_list]
  refine KPc.start ?_
  intro _ _
  refine KPc.turn ?_
  kpc_check
  repeat kpc_if
  refine wpAny_bind ?_
  refine wpAny_holding ?_
  repeat kpc_if
  kpt_conv
  refine wpAny_pure ?_
  refine wpAny_pure ?_
  refine KPc.after_str0 (by kpc_g) (by kpt_len) (by kpc_obj) ?_
  intro _ _
  refine KPc.turn ?_
  kpc_check
  repeat kpc_if
  refine wpAny_pure ?_
  refine KPc.after_add (by kpc_g) (by kpc_text) (by kpc_obj) ?_
  intro _ _
  refine KPc.turn ?_
  kpc_check
  repeat kpc_if
  refine wpAny_bind ?_
  refine wpAny_holding ?_
  repeat kpc_if
  kpt_conv
  refine wpAny_pure ?_
  refine wpAny_pure ?_
  refine KPc.after_str (by kpc_g) (by kpt_len) (by kpc_obj) ?_
  intro _ _
  refine KPc.turn ?_
  kpc_check
  repeat kpc_if
  kpc_close
end
theorem kw2_S0 : True := by
  k_with_none
  (k_with "+lt room" => (first | exact lt_r0 (by assumption) (by decide) | exact lt_rc (by assumption) (by decide) | exact lt_rd (by assumption) (by decide) | exact lt_z0 (by assumption)))
  (k_with "@ktr_room" => (walk_at "lt room"))
  (k_with "@ktr_units" => (walk_at "lt room"))
  (k_with "@units_room" => (walk_at "lt room"))
  (k_with "@k_room" => (ktr_room))
  (k_with "+con binds" => (first | exact fm_nilE (by exact rfl) | exact fm_some (by exact rfl) (by walk_at "con binds")))
  (k_with "+con enter" => ((k_dflt (refine' code_keep ?k19q ?k29q ?k39q ?k49q ?k59q ?kA9q ?kF9q ?kK9q ?k69q ?k79q ?k89q ?k99q ?kB9q ?_ ?c29q ?c39q ?c49q ?c59q; (case kA9q => exact rfl); (case kF9q => assumption); (case kK9q => assumption); (case k49q => k_asm); (case k19q => k_asm); (case k29q => k_asm); (case k39q => k_asm); (case k59q => k_asm); (case k69q => k_is); (case k79q => k_is); (case k89q => ktr_room); (case k99q => (refine' binds_to ?b99q ?e99q; (case b99q => first | exact BindsTo.of_eq rfl | exact binds_K (by k_in) rfl (by k_is) rfl rfl rfl | fail "con enter: no rule for these arguments"); (case e99q => first | (walk_at "con binds") | (walk_say "con enter: binds left as they are"; exact rfl)))); (case c59q => decide); (case kB9q => exact locs rfl); (case c29q => exact rfl); (case c39q => exact rfl); (case c49q => exact rfl); k_whole; intro g' L' h' FG' F' N' B' X' T' G0'; (try dsimp only); (try k_fold)))))
  (k_with "+con sub" => (repeat (first | exact sub_nil | refine sub_cons (by k_mem) ?_)))
  (k_with "+ite" => ((k_here; k_openite; with_reducible refine ite_isFalse (bne_self_eq_false _) ?_; walk_say "PRUNED same")))
  (k_with "+con sides" => (((case k39q => k_asm); (case k29q => k_asm); (case k19q => k_asm); (case k49q => k_asm); (case k59q => k_asm); (case kF9q => first | exact rfl | assumption); (case kK9q => first | exact rfl | assumption); (case kd9q => ktr_room); (case ku9q => ktr_units); (case ks9q => walk_at "con sub"))))
  (k_with "+ne close" => (first | assumption | exact Ne.symm (by assumption) | exact Nat.ne_of_lt (by assumption) | exact Nat.ne_of_gt (by assumption) | exact Nat.ne_of_lt (Nat.lt_trans (by assumption) (by assumption)) | exact Nat.ne_of_gt (Nat.lt_trans (by assumption) (by assumption)) | (rename _ ∧ _ => hh9; obtain ⟨_, _⟩ := hh9; walk_at "ne close")))
  (k_with "@k_ne" => ((refine neN ?_; (try dsimp only); with_reducible walk_at "ne close")))
  exact True.intro
end
section
theorem dot_len : (Str.ofString ".").length = 1 ∧ (Str.ofString "-").length = 1 ∧ (Str.ofString "+").length = 1 := by decide +kernel
/-- a version's text -/
noncomputable def verText (a b c : Int) (zp yp : List Str) : Str :=
  let T := Str.ofString (toString a) ++ Str.ofString "." ++ Str.ofString (toString b) ++ Str.ofString "." ++ Str.ofString (toString c)
  let U := if zp = [] then T else T ++ Str.ofString "-" ++ Txt.join (Str.ofString ".") zp
  if yp = [] then U else U ++ Str.ofString "+" ++ Txt.join (Str.ofString ".") yp
/-- a number of a version -/
structure Fit (n : Int) : Prop where
  lo : 0 ≤ n
  hi : n < 10 ^ 40
noncomputable abbrev dec (n : Int) : Str := Str.ofString (toString n)
theorem Fit.len {n : Int} (h : Fit n) : (dec n).length ≤ 40 := toString_length_le h.lo (by decide) h.hi
theorem Fit.log {n : Int} (h : Fit n) : n.natAbs.log2 < 1920 := small_log h.lo h.hi
structure Short (x : Str) (n : Nat) : Prop where
  it : x.length ≤ n
theorem lenA {a : Int} (ha : Fit a) : (dec a).length ≤ 100000 := Nat.le_trans ha.len (by decide)
theorem lenB {a b : Int} (ha : Fit a) (hb : Fit b) : (dec a ++ Str.ofString "." ++ dec b).length ≤ 100000 := by
  rw [Str.length_append, Str.length_append, dot_len.1]
  exact Nat.le_trans (Nat.add_le_add (Nat.add_le_add_right ha.len 1) hb.len) (by decide)
theorem lenC {a b c : Int} (ha : Fit a) (hb : Fit b) (hc : Fit c) : (dec a ++ Str.ofString "." ++ dec b ++ Str.ofString "." ++ dec c).length ≤ 100000 := by
  rw [Str.length_append, Str.length_append, Str.length_append, Str.length_append, dot_len.1]
  exact Nat.le_trans (Nat.add_le_add (Nat.add_le_add_right (Nat.add_le_add (Nat.add_le_add_right ha.len 1) hb.len) 1) hc.len) (by decide)
theorem lenD {a b c : Int} {u : Str} (ha : Fit a) (hb : Fit b) (hc : Fit c) (hu : Short u 50000) : (dec a ++ Str.ofString "." ++ dec b ++ Str.ofString "." ++ dec c ++ Str.ofString "-" ++ u).length ≤ 100000 := by
  rw [Str.length_append, Str.length_append, Str.length_append, Str.length_append, Str.length_append, Str.length_append, dot_len.1, dot_len.2.1]
  exact Nat.le_trans (Nat.add_le_add (Nat.add_le_add_right (Nat.add_le_add (Nat.add_le_add_right (Nat.add_le_add (Nat.add_le_add_right ha.len 1) hb.len) 1) hc.len) 1) hu.it) (by decide)
theorem lenE {a b c : Int} {u : Str} (ha : Fit a) (hb : Fit b) (hc : Fit c) (hu : Short u 50000) : (Str.empty ++ (dec a ++ Str.ofString "." ++ dec b ++ Str.ofString "." ++ dec c) ++ Str.ofString "-" ++ u).length ≤ 100000 := by
  rw [KPc.empty_app]; exact lenD ha hb hc hu
theorem lenU {u : Str} (hu : Short u 50000) : u.length ≤ 100000 := Nat.le_trans hu.it (by decide)
theorem ids_join {zp : List Str} (h : Ids zp) : (Txt.join (Str.ofString ".") zp).length ≤ 50000 ∧ (zp.map (·.length)).sum + zp.length * (Str.ofString ".").length ≤ 16777216 := by
  have k1 : ∀ z ∈ Words, (Txt.join (Str.ofString ".") [z]).length ≤ 50000 ∧ ([z].map (·.length)).sum + [z].length * (Str.ofString ".").length ≤ 16777216 := by decide +kernel
  have k2 : ∀ z ∈ Words, ∀ y ∈ Words, (Txt.join (Str.ofString ".") [z, y]).length ≤ 50000 ∧ ([z, y].map (·.length)).sum + [z, y].length * (Str.ofString ".").length ≤ 16777216 := by decide +kernel
  obtain ⟨h1, h2⟩ := h
  match zp, h1, h2 with
  | [], _, _ => decide +kernel
  | [x], _, h2 => exact k1 x (h2 x (by simp))
  | [x, y], _, h2 => exact k2 x (h2 x (by simp)) y (h2 y (by simp))
theorem ids_short {zp : List Str} (h : Ids zp) : Short (Txt.join (Str.ofString ".") zp) 50000 := ⟨(ids_join h).1⟩
theorem join_ids {prog : Program} {w : World} {A : Around} {E : Value → Shared → Prop} {s : Shared} {t : Tok} {Q : Value → Shared → Prop} {D : Addr} {vs : List Value} {ys : List Str} {h₀ : Heap} {L : Addr} {news : List (Addr × Obj)} (N : News h₀ L s.heap news) (hm : (D, tupO vs) ∈ news) (hi : StrsAre vs ys) (hz : Ids ys)
    (h : ∀ t' k, Q (.str (Txt.join (Str.ofString ".") ys) t') { s with toks := k }) : wpAny (model prog w) A (call (.builtin "str.join") [.str (Str.ofString ".") t, .ref D]) Q E s :=
  join_tuple (items := vs.toArray) (News.isTup N hm) hi (ids_join hz).2 h
theorem cat0 : Str.empty.length ≤ 0 := by decide +kernel
theorem catT {x y : Str} {n : Nat} (hx : x.length ≤ n) (hy : y.length ≤ 200000) : (x ++ y).length ≤ n + 200000 := by
  rw [Str.length_append]; exact Nat.add_le_add hx hy
theorem fits100 : 100000 ≤ sizeLine := by rw [sizeLine_eq]; decide
section
variable {prog : Program} {w : World} {A : Around} {E : Value → Shared → Prop} {s : Shared} {X T U : Str} {n : Int} {t u v : Tok} {Q : Value → Shared → Prop} {h₀ : Heap} {L b : Addr} {rest : List (Addr × Obj)}
theorem mod_sd (N : News h₀ L s.heap ((b, ({ cls := .type "tuple", data := .seq #[.str T u, .int n v] } : Obj)) :: rest)) (hX : X = PySem.Str.mk #[37, 115, 46, 37, 100]) (hT : T.length ≤ 100000) (h0 : Fit n)
    (h : ∀ t' k, Q (.str (T ++ Str.ofString "." ++ dec n) t') { s with toks := k }) : wpAny (model prog w) A (binaryOp .Mod (.str X t) (.ref b)) Q E s :=
  KPt.mod_tuple N List.mem_cons_self hX (fmt_sd hT h0.lo h0.hi h0.log _ _ _ _) h
theorem mod_minus (N : News h₀ L s.heap ((b, ({ cls := .type "tuple", data := .seq #[.str T u, .str U v] } : Obj)) :: rest)) (hX : X = PySem.Str.mk #[37, 115, 45, 37, 115]) (hT : T.length ≤ 100000) (hU : U.length ≤ 100000)
    (h : ∀ t' k, Q (.str (T ++ Str.ofString "-" ++ U) t') { s with toks := k }) : wpAny (model prog w) A (binaryOp .Mod (.str X t) (.ref b)) Q E s :=
  KPt.mod_tuple N List.mem_cons_self hX (fmt_minus hT hU _ _ _ _) h
theorem mod_plus (N : News h₀ L s.heap ((b, ({ cls := .type "tuple", data := .seq #[.str T u, .str U v] } : Obj)) :: rest)) (hX : X = PySem.Str.mk #[37, 115, 43, 37, 115]) (hT : T.length ≤ 100000) (hU : U.length ≤ 100000)
    (h : ∀ t' k, Q (.str (T ++ Str.ofString "+" ++ U) t') { s with toks := k }) : wpAny (model prog w) A (binaryOp .Mod (.str X t) (.ref b)) Q E s :=
  KPt.mod_tuple N List.mem_cons_self hX (fmt_plus hT hU _ _ _ _) h
end
section
theorem kw1_S1 : True := by
  (k_with "+truthy ref" => ((k_here; (with_reducible show wpAny _ _ (truthy (Value.ref _)) _ _ _); k_dflt (refine' truthy_strs ?N9q ?m9q ?x9q ?z9q ?_; (case N9q => k_asm); (case m9q => k_mem); (case x9q => k_asm); (case z9q => k_asm); k_whole))))
  (k_with "+binaryOp Mod str int" => ((k_here; (refine' KPc.mod_lit ?hX9q ?hd9q (fun h2 h3 => fmt_d (Fit.lo ?h09q) (Fit.hi ?h19q) h2 h3 _ _) ?_; (case hX9q => kpc_eq); (case hd9q => exact Fit.log (by with_reducible assumption)); (case h09q => with_reducible assumption); (case h19q => with_reducible assumption)); intro _ _; (try dsimp only))))
  (k_with "+s_len" => (first
    | with_reducible exact lenU (ids_short (by assumption))
    | with_reducible exact lenA (by assumption)
    | with_reducible exact lenB (by assumption) (by assumption)
    | with_reducible exact lenC (by assumption) (by assumption) (by assumption)
    | with_reducible exact lenE (by assumption) (by assumption) (by assumption) (ids_short (by assumption))
    | with_reducible exact lenD (by assumption) (by assumption) (by assumption) (ids_short (by assumption))))
  (k_with "+binaryOp Mod str ref" => ((k_here; (first
    | (refine' mod_sd ?N9q ?F9q ?hT9q ?h09q ?_; (case F9q => decide +kernel); (case N9q => with_reducible assumption); (case h09q => with_reducible assumption); (case hT9q => walk_at "s_len"))
    | (refine' mod_minus ?N9q ?F9q ?hT9q ?hU9q ?_; (case F9q => decide +kernel); (case N9q => with_reducible assumption); (case hT9q => walk_at "s_len"); (case hU9q => walk_at "s_len"))
    | (refine' mod_plus ?N9q ?F9q ?hT9q ?hU9q ?_; (case F9q => decide +kernel); (case N9q => with_reducible assumption); (case hT9q => walk_at "s_len"); (case hU9q => walk_at "s_len"))); intro _ _; (try dsimp only))))
  (k_with "+s_chain" => (first | exact cat0 | exact catT (by walk_at "s_chain") (by first | exact Nat.le_trans (m := 100000) (by walk_at "s_len") (by decide) | decide +kernel)))
  (k_with "+s_out" => ((refine' Nat.le_trans ?a9q ?b9q; (case a9q => walk_at "s_chain"); (case b9q => (rw [sizeLine_eq]; decide)))))
  (k_with "@size_fits" => (walk_at "s_out"))
  (k_with "+convS str" => ((k_here; (refine SB.convS_str (hsz := ?hsz9q) ?_); (case hsz9q => (refine Nat.le_trans ?_ fits100; walk_at "s_len")); intro _ _)))
  (k_with "+call builtin:str.join" => ((k_here; (with_reducible show wpAny _ _ (call (Value.builtin _) [Value.str _ _, Value.ref _]) _ _ _); k_dflt (refine' join_ids ?N9q ?m9q ?hi9q ?hz9q ?_; (case N9q => k_asm); (case m9q => k_mem); (case hi9q => k_asm); (case hz9q => k_asm)); intro _ _; (try dsimp only))))
  (k_with "+formatField str" => ((k_here; (refine formatField_str (hsz := ?hsz9q) ?_); (case hsz9q => (refine Nat.le_trans ?_ fits100; walk_at "s_len")); intro _ _; (try dsimp only))))
  exact True.intro
set_option maxHeartbeats 800000 in
theorem v_str0 (w : World) (a b c : Int) {x1 dx1 tp1 tb1 tk1 r1 : Addr} {k1 k2 k3 k4 k5 k6 k7 k8 t1 t2 t3 : Tok} {n1 : Nat} {zp yp : List Str} {vp vb : List Value} (ha : Fit a) (hb : Fit b) (hc : Fit c)
    (hz : Ids zp) (hy : Ids yp) (hvp : StrsAre vp zp) (hvb : StrsAre vb yp) (l1 : vp.length ≤ 1000) (l2 : vb.length ≤ 1000) :
    Con w 8 80 (.ref 366) [.ref x1] [] [(x1, instObj 448 dx1), (dx1, dictOf (vent8 w.params k1 k2 k3 k4 k5 k6 k7 k8 a b c t1 t2 t3 tp1 tb1 tk1 r1) n1), (tp1, tupO vp), (tb1, tupO vb)] (fun r tl => (∃ t, r = .str (verText a b c zp yp) t) ∧ tl = []) := by
  unfold Con
  intro p loose mean mg mb dp un gd env outer A₀ base h₀ L m news s R B F N T hf hk hd hu hsub hret
  k_fill
  intro X
  have N0 := news_sub N hsub
  walk_at "con enter"
  k_steps
  all_goals ((unfold KeptEnd; dsimp only; intro hK; refine hret _ [] _ _ ?_ (keep_back N0 hK (news_sub (by k_asm) (by walk_at "con sub"))) (news_sub (by k_asm) (by walk_at "con sub"))); refine ⟨⟨_, congrArg (Value.str · _) ?_⟩, rfl⟩; clear N0 hK hret hsub N F B T X hvp hvb; simp only [verText, KPc.empty_app, *, if_true, if_false])
theorem v_str (w : World) {a b c : Int} {zp yp : List Str} {x : Addr} {tl : List (Addr × Obj)} (V : VerObj w.params a b c zp yp x tl) (ha : Fit a) (hb : Fit b) (hc : Fit c) (hz : Ids zp) (hy : Ids yp) :
    Con w 8 80 (.ref 366) [.ref x] [] tl (fun r tl => (∃ t, r = .str (verText a b c zp yp) t) ∧ tl = []) := by
  cases V with
  | mk hvp hvb k =>
    rename_i dx1 tp1 tb1 tk1 r1 pk1 k1 k2 k3 k4 k5 k6 k7 k8 t1 t2 t3 u1 u2 u3 n1 vp1 vb1 acc1 led1
    refine Con.mono (sub := [(x, instObj 448 dx1), (dx1, dictOf (vent8 w.params k1 k2 k3 k4 k5 k6 k7 k8 a b c t1 t2 t3 tp1 tb1 tk1 r1) n1), (tp1, tupO vp1), (tb1, tupO vb1)]) (v_str0 w a b c ha hb hc hz hy hvp hvb (few1000 hz hvp) (few1000 hy hvb)) sub4
end
theorem kw2_S1 : True := by
  k_with_none
  (k_with "+lt room" => (first | exact lt_r0 (by assumption) (by decide) | exact lt_rc (by assumption) (by decide) | exact lt_rd (by assumption) (by decide) | exact lt_z0 (by assumption)))
  (k_with "@ktr_room" => (walk_at "lt room"))
  (k_with "@ktr_units" => (walk_at "lt room"))
  (k_with "@units_room" => (walk_at "lt room"))
  (k_with "@k_room" => (ktr_room))
  (k_with "+con binds" => (first | exact fm_nilE (by exact rfl) | exact fm_some (by exact rfl) (by walk_at "con binds")))
  (k_with "+con enter" => ((k_dflt (refine' code_keep ?k19q ?k29q ?k39q ?k49q ?k59q ?kA9q ?kF9q ?kK9q ?k69q ?k79q ?k89q ?k99q ?kB9q ?_ ?c29q ?c39q ?c49q ?c59q; (case kA9q => exact rfl); (case kF9q => assumption); (case kK9q => assumption); (case k49q => k_asm); (case k19q => k_asm); (case k29q => k_asm); (case k39q => k_asm); (case k59q => k_asm); (case k69q => k_is); (case k79q => k_is); (case k89q => ktr_room); (case k99q => (refine' binds_to ?b99q ?e99q; (case b99q => first | exact BindsTo.of_eq rfl | exact binds_K (by k_in) rfl (by k_is) rfl rfl rfl | fail "con enter: no rule for these arguments"); (case e99q => first | (walk_at "con binds") | (walk_say "con enter: binds left as they are"; exact rfl)))); (case c59q => decide); (case kB9q => exact locs rfl); (case c29q => exact rfl); (case c39q => exact rfl); (case c49q => exact rfl); k_whole; intro g' L' h' FG' F' N' B' X' T' G0'; (try dsimp only); (try k_fold)))))
  (k_with "+con sub" => (repeat (first | exact sub_nil | refine sub_cons (by k_mem) ?_)))
  (k_with "+ite" => ((k_here; k_openite; with_reducible refine ite_isFalse (bne_self_eq_false _) ?_; walk_say "PRUNED same")))
  (k_with "+con sides" => (((case k39q => k_asm); (case k29q => k_asm); (case k19q => k_asm); (case k49q => k_asm); (case k59q => k_asm); (case kF9q => first | exact rfl | assumption); (case kK9q => first | exact rfl | assumption); (case kd9q => ktr_room); (case ku9q => ktr_units); (case ks9q => walk_at "con sub"))))
  (k_with "+ne close" => (first | assumption | exact Ne.symm (by assumption) | exact Nat.ne_of_lt (by assumption) | exact Nat.ne_of_gt (by assumption) | exact Nat.ne_of_lt (Nat.lt_trans (by assumption) (by assumption)) | exact Nat.ne_of_gt (Nat.lt_trans (by assumption) (by assumption)) | (rename _ ∧ _ => hh9; obtain ⟨_, _⟩ := hh9; walk_at "ne close")))
  (k_with "@k_ne" => ((refine neN ?_; (try dsimp only); with_reducible walk_at "ne close")))
  exact True.intro
end
section
theorem newend0 {g h' : Heap} {h₀ : Heap} {L L' : Addr} {D : Addr} {l : List Value} {n : Nat} {R : Result → Shared → Prop} {s : Shared} {tk' : Nat} {post : Value → List (Addr × Obj) → Prop}
    (hret : ∀ r tl h' tk', post r tl → (∀ b o, s.heap.get? b = some o → h'.get? b = some o) → (∀ q ∈ tl, s.heap.get? q.1 = none) → News h₀ L h' tl → R (.ok (.ret r)) ⟨h', s.gens, s.drawn, tk', s.os⟩)
    (G0 : ∀ b o, s.heap.get? b = some o → b ∉ ([] : List (Addr × Obj)).map (·.1) → g.get? b = some o) (hK : KeptBut s.heap [] h') (kN : News h₀ L h' [(D, lstO l n)]) (N' : News g L' h' [(D, lstO l n)]) (hp : post (.ref D) [(D, lstO l n)]) :
    R (.ok (.ret (.ref D))) ⟨h', s.gens, s.drawn, tk', s.os⟩ :=
  hret _ _ _ _ hp (fun b o e => hK b o e (by simp)) (fresh_g G0 N' (by simp)) kN
theorem strs_cons {z : Str} {t : Tok} {vs : List Value} {zs : List Str} (h : StrsAre vs zs) : StrsAre (.str z t :: vs) (z :: zs) := .cons _ _ h
theorem c_words (w : World) : ConF w 1 8 (.ref 459) [] [] [] (fun r tl => ∃ D vs n, r = .ref D ∧ tl = [(D, lstO vs n)] ∧ StrsAre vs Words) := by
  unfold ConF
  intro p loose mean mg mb dp un gd env outer A₀ base h₀ L m news s R B F N T hf hk hd hu hsub hret
  k_fill
  intro X
  have N0 := news_sub N hsub
  walk_at "con enter"
  k_steps
  unfold KeptEnd
  dsimp only
  intro hK
  refine' newend0 hret ?G0 hK ?kN ?N' ⟨_, _, _, rfl, rfl, ?_⟩
  case G0 => with_reducible assumption
  case kN => with_reducible assumption
  case N' => with_reducible assumption
  exact strs_cons (strs_cons (strs_cons (strs_cons (strs_cons (strs_cons (strs_cons (strs_cons .nil)))))))
end
section
theorem list_at {prog : Program} {w : World} {A : Around} {E : Value → Shared → Prop} {s : Shared} {value slice : PySem.Expr} {D : Addr} {l : List Value} {n : Nat} {k : Int} {u : Tok} {h₀ : Heap} {L : Addr} {news : List (Addr × Obj)} {Q : Value → Shared → Prop} (N : News h₀ L s.heap news) (hm : (D, lstO l n) ∈ news) (h0 : 0 ≤ k) (hl : k < l.length) (hb : l.length ≤ 1000)
    (h : ∀ x, l[k.toNat]? = some x → Q x s)
    (hs : subscripted slice false (.ref D) (.int k u) = operate [.ref D, .int k u] (getItem (.ref D) (.int k u)) := by with_unfolding_all rfl) (ht : ∀ r, letTemporaryGo value (.ref D) r = pure () := by intro _; with_unfolding_all rfl) :
    wpAny (model prog w) A (subscriptTail value slice (.ref D) (.int k u)) Q E s := by
  have hk : k.toNat < l.length := by omega
  refine subscriptTail_builtin (T := "list") ⟨_, (N _ hm).1, rfl⟩ F.slot_list_getitem.lookup (getItem_listL (News.isList N hm) h0 (by omega) (List.getElem?_eq_getElem hk) (h _ (List.getElem?_eq_getElem hk))) hs ht
theorem whl_split {p : Prop} [Decidable p] {T F : Prop} (h1 : p → T) (h2 : ¬ p → F) : WhlIf (decide p) T F := by
  by_cases h : p
  · exact WhlIf.yes (decide_eq_true h) (h1 h)
  · exact WhlIf.no (decide_eq_false h) (h2 h)
theorem third0 {n : Int} (h0 : 0 ≤ n) (h1 : n < 64) : ¬ 0 < (n.fdiv 8).fdiv 8 := by
  rw [Int.fdiv_eq_ediv_of_nonneg _ (by decide), Int.fdiv_eq_ediv_of_nonneg _ (by decide)]
  omega
theorem kw1_L1 : True := by
  (k_with "+WhlIf" => (first | (refine WhlIf.no (decide_eq_false (third0 (by with_reducible assumption) (by with_reducible assumption))) ?_) | (refine WhlIf.yes (decide_eq_true (by omega)) ?_) | (refine WhlIf.no (decide_eq_false (by omega)) ?_) | (refine whl_split (fun hw => ?_) (fun hw => ?_))))
  (k_with "+exec While" => ((k_here; k_dflt (refine whl_start 4 ?_))))
  (k_with "+exec While Compare" => ((k_here; k_dflt (refine whl_start 4 ?_))))
  exact True.intro
theorem word_at {vs : List Value} {k : Nat} {x : Value} (h : StrsAre vs Words) (e : vs[k]? = some x) : ∃ z t, x = .str z t ∧ Words[k]? = some z := by
  obtain ⟨z, t, e1, e2⟩ := StrsAre.item h k x (by simpa using e)
  exact ⟨z, e1 |> fun _ => t, by assumption, by assumption⟩
theorem off_all {D : Addr} {o : Obj} {led : List (Addr × Obj)} (h : ∀ q ∈ ([(D, o)] : List (Addr × Obj)), q.1 ∉ led.map (·.1)) : ∀ p ∈ led, @Ne Nat p.1 D := fun p hp e => h (D, o) (by simp) (List.mem_map.mpr ⟨p, hp, e⟩)
theorem kw2_L1 : True := by
  (k_with "@k_enter" => ((refine' ConF.use (c_words _) ?k19q ?k29q ?k39q ?k49q ?k59q ?kF9q ?kK9q ?kd9q ?ku9q ?ks9q ?_; walk_at "con sides"; k_whole; intro r9 tl9 h9 tk9 p9 c9 n9 F9 N9; obtain ⟨D9, vs9, m9, e9, e10, s9⟩ := p9; subst e9; subst e10; (have d9 := off_all (notin_none (by k_asm) n9)); (simp only [List.forall_mem_cons] at d9); (try simp only [List.cons_append, List.nil_append] at N9); (try dsimp only))))
  (k_with "+subscriptTail Call Name" => ((k_here; k_dflt (refine kba_turn (value' := PySem.Expr.Name (PySem.Str.ofString "_") ⟨0, 0, 0, 0⟩) (fun _ => rfl) ?_))))
  (k_with "+subscriptTail Name BinOp ref int" => ((k_here; k_dflt (refine' list_at ?N9q ?m9q ?h09q ?hl9q ?hb9q ?_; (case N9q => k_asm); (case m9q => k_mem); (case h09q => exact fmod_lo _ (by decide)); (case hl9q => (rw [StrsAre.length (by assumption)]; exact fmod_hi _ (by decide))); (case hb9q => (rw [StrsAre.length (by assumption)]; decide))); intro x9 e9; (obtain ⟨z9, t9, e8, e7⟩ := word_at (by assumption) e9); subst e8; (try dsimp only))))
  exact True.intro
/-- the words that a number tells, as the law reads them -/
noncomputable def wordsOf (n : Int) : List Str := if 0 < n then (Words[(n.fmod 8).toNat]?).toList ++ (if 0 < n.fdiv 8 then (Words[((n.fdiv 8).fmod 8).toNat]?).toList else []) else []
theorem wo0 {n : Int} (h : ¬ 0 < n) : StrsAre [] (wordsOf n) := by rw [wordsOf, if_neg h]; exact .nil
theorem wo1 {n : Int} {z : Str} {t : Tok} (h : 0 < n) (h' : ¬ 0 < n.fdiv 8) (e : Words[(n.fmod 8).toNat]? = some z) : StrsAre [.str z t] (wordsOf n) := by rw [wordsOf, if_pos h, if_neg h', e]; exact strs_cons .nil
theorem wo2 {n : Int} {z z' : Str} {t t' : Tok} (h : 0 < n) (h' : 0 < n.fdiv 8) (e : Words[(n.fmod 8).toNat]? = some z) (e' : Words[((n.fdiv 8).fmod 8).toNat]? = some z') : StrsAre [.str z t, .str z' t'] (wordsOf n) := by rw [wordsOf, if_pos h, if_pos h', e, e']; exact strs_cons (strs_cons .nil)
theorem newendL {g h' : Heap} {h₀ : Heap} {L L' : Addr} {D : Addr} {l : Array Value} {n : Nat} {ns : List (Addr × Obj)} {R : Result → Shared → Prop} {s : Shared} {tk' : Nat} {post : Value → List (Addr × Obj) → Prop}
    (hret : ∀ r tl h' tk', post r tl → (∀ b o, s.heap.get? b = some o → h'.get? b = some o) → (∀ q ∈ tl, s.heap.get? q.1 = none) → News h₀ L h' tl → R (.ok (.ret r)) ⟨h', s.gens, s.drawn, tk', s.os⟩)
    (G0 : ∀ b o, s.heap.get? b = some o → b ∉ ([] : List (Addr × Obj)).map (·.1) → g.get? b = some o) (hK : KeptBut s.heap [] h') (kN : News h₀ L h' ns) (N' : News g L' h' ns) (hm : (D, W.listOf l n) ∈ ns) (hp : post (.ref D) [(D, lstO l.toList n)]) :
    R (.ok (.ret (.ref D))) ⟨h', s.gens, s.drawn, tk', s.os⟩ := by
  have e : lstO l.toList n = W.listOf l n := by simp [lstO, W.listOf]
  have hs : ∀ q ∈ [(D, lstO l.toList n)], q ∈ ns := by
    intro q hq
    simp only [List.mem_cons, List.not_mem_nil, or_false] at hq
    rw [hq, e]; exact hm
  exact newend0 hret G0 hK (news_sub kN hs) (news_sub N' hs) hp
inductive WordsPost (n : Int) : Value → List (Addr × Obj) → Prop
  | mk (D : Addr) (vs : List Value) (k : Nat) (h : StrsAre vs (wordsOf n)) : WordsPost n (.ref D) [(D, lstO vs k)]
theorem c_wordsof (w : World) (n : Int) (t : Tok) (h0 : 0 ≤ n) (h1 : n < 64) : ConF w 8 80 (.ref 471) [.int n t] [] [] (WordsPost n) := by
  unfold ConF
  intro p loose mean mg mb dp un gd env outer A₀ base h₀ L m news s R B F N T hf hk hd hu hsub hret
  k_fill
  intro X
  have N0 := news_sub N hsub
  walk_at "con enter"
  k_steps
  all_goals (unfold KeptEnd; dsimp only; intro hK)
  all_goals (refine newendL hret (by with_reducible assumption) hK (by with_reducible assumption) (by with_reducible assumption) (by first | exact List.mem_cons_self | exact List.mem_cons_of_mem _ List.mem_cons_self | exact List.mem_cons_of_mem _ (List.mem_cons_of_mem _ List.mem_cons_self)) (.mk _ _ _ ?_))
  all_goals first | exact wo0 (by with_reducible assumption) | exact wo1 (by with_reducible assumption) (by with_reducible assumption) (by with_reducible assumption) | exact wo2 (by with_reducible assumption) (by with_reducible assumption) (by with_reducible assumption) (by with_reducible assumption)
theorem kw3_L1 : True := by
  k_with_none
  (k_with "+lt room" => (first | exact lt_r0 (by assumption) (by decide) | exact lt_rc (by assumption) (by decide) | exact lt_rd (by assumption) (by decide) | exact lt_z0 (by assumption)))
  (k_with "@ktr_room" => (walk_at "lt room"))
  (k_with "@ktr_units" => (walk_at "lt room"))
  (k_with "@units_room" => (walk_at "lt room"))
  (k_with "@k_room" => (ktr_room))
  (k_with "+con binds" => (first | exact fm_nilE (by exact rfl) | exact fm_some (by exact rfl) (by walk_at "con binds")))
  (k_with "+con enter" => ((k_dflt (refine' code_keep ?k19q ?k29q ?k39q ?k49q ?k59q ?kA9q ?kF9q ?kK9q ?k69q ?k79q ?k89q ?k99q ?kB9q ?_ ?c29q ?c39q ?c49q ?c59q; (case kA9q => exact rfl); (case kF9q => assumption); (case kK9q => assumption); (case k49q => k_asm); (case k19q => k_asm); (case k29q => k_asm); (case k39q => k_asm); (case k59q => k_asm); (case k69q => k_is); (case k79q => k_is); (case k89q => ktr_room); (case k99q => (refine' binds_to ?b99q ?e99q; (case b99q => first | exact BindsTo.of_eq rfl | exact binds_K (by k_in) rfl (by k_is) rfl rfl rfl | fail "con enter: no rule for these arguments"); (case e99q => first | (walk_at "con binds") | (walk_say "con enter: binds left as they are"; exact rfl)))); (case c59q => decide); (case kB9q => exact locs rfl); (case c29q => exact rfl); (case c39q => exact rfl); (case c49q => exact rfl); k_whole; intro g' L' h' FG' F' N' B' X' T' G0'; (try dsimp only); (try k_fold)))))
  (k_with "+con sub" => (repeat (first | exact sub_nil | refine sub_cons (by k_mem) ?_)))
  (k_with "+ite" => ((k_here; k_openite; with_reducible refine ite_isFalse (bne_self_eq_false _) ?_; walk_say "PRUNED same")))
  (k_with "+con sides" => (((case k39q => k_asm); (case k29q => k_asm); (case k19q => k_asm); (case k49q => k_asm); (case k59q => k_asm); (case kF9q => first | exact rfl | assumption); (case kK9q => first | exact rfl | assumption); (case kd9q => ktr_room); (case ku9q => ktr_units); (case ks9q => walk_at "con sub"))))
  (k_with "+ne close" => (first | assumption | exact Ne.symm (by assumption) | exact Nat.ne_of_lt (by assumption) | exact Nat.ne_of_gt (by assumption) | exact Nat.ne_of_lt (Nat.lt_trans (by assumption) (by assumption)) | exact Nat.ne_of_gt (Nat.lt_trans (by assumption) (by assumption)) | (rename _ ∧ _ => hh9; obtain ⟨_, _⟩ := hh9; walk_at "ne close")))
  (k_with "@k_ne" => ((refine neN ?_; (try dsimp only); with_reducible walk_at "ne close")))
  exact True.intro
end
section
noncomputable def tail2 (b : FuncBody) : List Stmt := (bodyS b).drop 2
theorem tail2_of {o : Option Obj} {oc : Value} {od : Option Addr} {name qual : Str} {params : Arguments} {scope : Scope} {s0 s1 : Stmt} {rest : List Stmt} {dV kV doc pm cdv ct : Value} {an : Option Addr} {osl : Array (Option Value)} (h1 : o = some ⟨oc, od, .func (fnOf name qual params (s0 :: s1 :: rest) scope dV kV doc pm an cdv ct), osl⟩) : FnSel tail2 o qual scope rest := FnSel.of h1 rfl
theorem tail2_elim {o : Option Obj} {G : Str → Scope → List Stmt → Prop} {oc : Value} {od : Option Addr} {name qual : Str} {params : Arguments} {scope : Scope} {s0 s1 : Stmt} {rest : List Stmt} {dV kV doc pm cdv ct : Value} {an : Option Addr} {osl : Array (Option Value)} (h1 : o = some ⟨oc, od, .func (fnOf name qual params (s0 :: s1 :: rest) scope dV kV doc pm an cdv ct), osl⟩) (k : G qual scope rest) : ∀ (qual' : Str) (scope' : Scope) (rest' : List Stmt), FnSel tail2 o qual' scope' rest' → G qual' scope' rest' := fun _ _ _ HL => FnSel.elim HL h1 rfl fun _ => k
/-- the ledger of the law's own list -/
noncomputable abbrev lawV (v : Addr) (a b c : Int) (t1 t2 t3 : Tok) (p q : Addr) (n : Nat) : Addr × Obj := (v, lstO [.int a t1, .int b t2, .int c t3, .ref p, .ref q] n)
section
variable {prog : Program} {w : World} {A : Around} {E : Value → Shared → Prop} {s : Shared} {t u1 u2 u3 : Tok} {a b c : Int} {n : Nat} {Q : Value → Shared → Prop} {D : Addr} {vs : List Value} {ys : List Str} {o : Obj} {h₀ : Heap} {L : Addr} {news : List (Addr × Obj)}
theorem join_num (N : News h₀ L s.heap news) (hm : (D, o) ∈ news) (ho : o = lstO [.str (dec a) u1, .str (dec b) u2, .str (dec c) u3] n) (ha : Fit a) (hb : Fit b) (hc : Fit c)
    (h : ∀ t' k, Q (.str (dec a ++ Str.ofString "." ++ dec b ++ Str.ofString "." ++ dec c) t') { s with toks := k }) : wpAny (model prog w) A (call (.builtin "str.join") [.str (Str.ofString ".") t, .ref D]) Q E s := by
  subst ho
  refine join_list (ys := [dec a, dec b, dec c]) (News.isList N hm) (strs_cons (strs_cons (strs_cons .nil))) ?_ (fun t' k => ?_)
  · have := ha.len; have := hb.len; have := hc.len
    simp only [List.map_cons, List.map_nil, List.sum_cons, List.sum_nil, List.length_cons, List.length_nil, dot_len.1]
    omega
  · have e : Txt.join (Str.ofString ".") [dec a, dec b, dec c] = dec a ++ Str.ofString "." ++ dec b ++ Str.ofString "." ++ dec c := by
      simp only [Txt.join, Builtin.Str.glued, List.drop_succ_cons, List.drop_zero, List.headD_cons, List.foldl_cons, List.foldl_nil]
      rfl
    rw [e]; exact h t' k
theorem join_idsL (N : News h₀ L s.heap news) (hm : (D, lstO vs n) ∈ news) (hi : StrsAre vs ys) (hz : Ids ys)
    (h : ∀ t' k, Q (.str (Txt.join (Str.ofString ".") ys) t') { s with toks := k }) : wpAny (model prog w) A (call (.builtin "str.join") [.str (Str.ofString ".") t, .ref D]) Q E s :=
  join_list (items := vs.toArray) (News.isList N hm) hi (ids_join hz).2 h
theorem canlay_strs : ∀ ns : List Str, (∀ z ∈ ns, PyData.strOk z = true) → PyData.canLayAll0 (ns.map PyData.str) = true
  | [], _ => rfl
  | z :: r, h => by simp [PyData.canLayAll0, PyData.canLay0, h z List.mem_cons_self, canlay_strs r fun x hx => h x (List.mem_cons_of_mem _ hx)]
theorem depth_strs : ∀ ns : List Str, PyData.depthAll (ns.map PyData.str) = 0
  | [] => rfl
  | _ :: r => by simp [PyData.depthAll, PyData.depth, depth_strs r]
theorem shaped_strs (ns : List Str) (h : ∀ z ∈ ns, PyData.strOk z = true) : SeqAt.shaped (.list (ns.map PyData.str)) = true := by
  simp [SeqAt.shaped, PyData.canLay0, PyData.depth, canlay_strs ns h, depth_strs]
theorem ids_ok {ns : List Str} (h : Ids ns) : ∀ z ∈ ns, PyData.strOk z = true := by
  have k : ∀ z ∈ Words, PyData.strOk z = true := by decide +kernel
  exact fun z hz => k z (h.words z hz)
theorem same_strs : ∀ ns ms : List Str, PySem.Spec.sameAll (ns.map PyData.str) (ms.map PyData.str) = decide (ns = ms)
  | [], [] => by simp [PySem.Spec.sameAll]
  | [], _ :: _ => by simp [PySem.Spec.sameAll]
  | _ :: _, [] => by simp [PySem.Spec.sameAll]
  | a :: r, b :: t => by
    simp only [List.map_cons, PySem.Spec.sameAll, PySem.Spec.same, same_strs r t]
    by_cases h : a = b <;> by_cases h' : r = t <;> simp [h, h']
theorem carried_strs : ∀ {vs : List Value} {ns : List Str}, StrsAre vs ns → CarriedAll vs (ns.map PyData.str)
  | _, _, .nil => .nil
  | _, _, .cons _ t r => .cons (.str _ t) (carried_strs r)
theorem nomix_strs (ns ms : List Str) : SeqAt.noMix (.list (ns.map PyData.str)) (.list (ms.map PyData.str)) = true :=
  SeqAt.noMix_of_shape (.list .str) rfl _ _ (list_map_has fun _ => rfl) (list_map_has fun _ => rfl)
theorem ne_strs0 {p q : Addr} {k : Nat} (N : News h₀ L s.heap news) (ma : (p, lstO vs n) ∈ news) (mb : (q, o) ∈ news) (ho : o = W.listOf #[] k) (hx : StrsAre vs ys) (hz : Ids ys) (hu : A.units + 64 < cLine) (h : Q (.bool (!decide (ys = []))) s) :
    wpAny (model prog w) A (compareOp .NotEq (.ref p) (.ref q)) Q E s := by
  subst ho
  exact ne_dataH_same (reads_newData (News.isList N ma) (carried_strs hx)) (reads_newData (ys := []) (News.isList N mb) (carried_strs .nil)) (shaped_strs _ (ids_ok hz)) (shaped_strs [] (fun _ h => nomatch h)) hu (nomix_strs ys [])
    (by simp only [PySem.Spec.same]; rw [same_strs]; exact h)
end
theorem kw1_L2 : True := by
  (k_with "+call type:str" => ((k_here; (with_reducible show wpAny _ _ (call (Value.type _) [Value.int _ _]) _ _ _); k_dflt (refine P.str_of_int (Fit.log (by with_reducible assumption)) ?_))))
  (k_with "+call builtin:str.join" => ((k_here; (with_reducible show wpAny _ _ (call (Value.builtin _) [Value.str _ _, Value.ref _]) _ _ _); k_dflt (first
    | (refine' join_idsL ?N9q ?m9q ?hi9q ?hz9q ?_; (case N9q => k_asm); (case m9q => k_mem); (case hi9q => k_asm); (case hz9q => k_asm))
    | (refine' join_num ?N9q ?m9q ?ho9q ?ha9q ?hb9q ?hc9q ?_; (case N9q => k_asm); (case m9q => k_mem); (case ho9q => with_unfolding_all exact rfl); (case ha9q => k_asm); (case hb9q => k_asm); (case hc9q => k_asm))); intro _ _; (try dsimp only))))
  exact True.intro
theorem add_two {prog : Program} {w : World} {A : Around} {E : Value → Shared → Prop} {s : Shared} {t u : Tok} {Q : Value → Shared → Prop} {x y : Str} {n : Nat} (hx : x.length ≤ n) (hy : y.length ≤ 100000) (hn : n ≤ 900000)
    (h : ∀ t' tk, Q (.str (x ++ y) t') { s with toks := tk }) : wpAny (model prog w) A (binaryOp .Add (.str x t) (.str y u)) Q E s :=
  add_str h (by rw [sizeLine_eq]; exact Nat.le_trans (Nat.add_le_add hx hy) (Nat.le_trans (Nat.add_le_add_right hn _) (by decide)))
theorem add_in {x y : Str} {n : Nat} (hx : x.length ≤ n) (hy : y.length ≤ 100000) : (x ++ y).length ≤ n + 100000 := by
  rw [Str.length_append]; exact Nat.add_le_add hx hy
theorem sep_len : (Str.ofString "-").length ≤ 100000 ∧ (Str.ofString "+").length ≤ 100000 := by decide +kernel
theorem kw2_L2 : True := by
  (k_with "+s_len" => (first
    | with_reducible exact lenU (ids_short (by assumption))
    | with_reducible exact lenC (by assumption) (by assumption) (by assumption)
    | with_reducible exact lenD (by assumption) (by assumption) (by assumption) (ids_short (by assumption))
    | with_reducible exact sep_len.1
    | with_reducible exact sep_len.2))
  (k_with "+s_chain" => (first | walk_at "s_len" | exact add_in (by walk_at "s_chain") (by walk_at "s_len")))
  (k_with "+binaryOp Add str str" => ((k_here; (with_reducible show wpAny _ _ (binaryOp Operator.Add (Value.str _ _) (Value.str _ _)) _ _ _); k_dflt (refine' add_two ?a9q ?b9q ?c9q ?_; (case a9q => walk_at "s_chain"); (case b9q => walk_at "s_len"); (case c9q => decide)); intro _ _; (try dsimp only))))
  (k_with "+compareOp NotEq ref ref" => ((k_here; (with_reducible show wpAny _ _ (compareOp CmpOp.NotEq (Value.ref _) (Value.ref _)) _ _ _); k_dflt (refine' ne_strs0 ?N9q ?ma9q ?mb9q ?ho9q ?hx9q ?hz9q ?hu9q ?_; (case N9q => k_asm); (case ma9q => k_mem); (case mb9q => k_mem); (case ho9q => with_unfolding_all exact rfl); (case hx9q => k_asm); (case hz9q => k_asm); (case hu9q => units_room)))))
  exact True.intro
theorem list_item {prog : Program} {w : World} {A : Around} {E : Value → Shared → Prop} {s : Shared} {value slice : PySem.Expr} {D : Addr} {l : List Value} {n : Nat} {k : Int} {u : Tok} {x : Value} {h₀ : Heap} {L : Addr} {news : List (Addr × Obj)} {Q : Value → Shared → Prop} (N : News h₀ L s.heap news) (hm : (D, lstO l n) ∈ news) (e : l[k.toNat]? = some x) (h0 : 0 ≤ k) (hb : l.length ≤ 1000) (h : Q x s)
    (hs : subscripted slice false (.ref D) (.int k u) = operate [.ref D, .int k u] (getItem (.ref D) (.int k u)) := by with_unfolding_all rfl) (ht : ∀ r, letTemporaryGo value (.ref D) r = pure () := by intro _; with_unfolding_all rfl) :
    wpAny (model prog w) A (subscriptTail value slice (.ref D) (.int k u)) Q E s := by
  obtain ⟨hk, e'⟩ := List.getElem?_eq_some_iff.mp e
  refine subscriptTail_builtin (T := "list") ⟨_, (N _ hm).1, rfl⟩ F.slot_list_getitem.lookup (getItem_listL (News.isList N hm) h0 (by omega) (by simpa using e) h) hs ht
theorem kw3_L2 : True := by
  (k_with "+subscriptTail Name Constant ref int" => ((k_here; (with_reducible show wpAny _ _ (subscriptTail _ _ (Value.ref _) (Value.int _ _)) _ _ _); k_dflt (refine' list_item ?N9q ?m9q ?e9q ?z9q ?b9q ?_; (case N9q => k_asm); (case m9q => k_mem); (case e9q => exact rfl); (case z9q => decide); (case b9q => exact Nat.le_of_ble_eq_true rfl)); (try dsimp only))))
  exact True.intro
section
theorem kw4_L2 : True := by
  (k_with "@k_mem" => (first | with_reducible assumption | with_reducible exact List.mem_cons_self | (with_reducible refine List.mem_cons_of_mem _ ?_; k_mem)))
  (k_with "+s_len" => (with_reducible assumption))
  exact True.intro
theorem text_suf (w : World) : ∀ (qual : Str) (scope : Scope) (rest : List Stmt), FnSel tail2 ((Mine.fr.heap_1 w.params).lookup 464) qual scope rest → ∀ (p : Program) (loose : List Str) (mean : ExcName → Option Value) (mg mb : Str → Option Value) (dp un : Nat) (gd : Option (List Code)) (outer : List Env) (h₀ : Heap) (L fa : Addr) (cd : Value) (m : Str → Option Value) (a b c : Int) (v p' q : Addr) (t1 t2 t3 t : Tok) (n n2 : Nat) (T : Str) (yp : List Str) (vb : List Value) (news : List (Addr × Obj)) (h : Heap) (g : Array GenState) (dr : Drawn) (os : OsState) (tk : Nat) (Q : Flow → Shared → Prop) (E : Value → Shared → Prop),
    Top p loose mean mg mb h₀ → (Mine.fr.heap_1 w.params).In h₀ → dp + 2 < recursionLimit → un + 66 < cLine → Fr h₀ L h m → m (Str.ofString "version") = some (.ref v) → m (Str.ofString "text") = some (.str T t) → T.length ≤ 500000 → Ids yp → StrsAre vb yp → News h₀ L h news → lawV v a b c t1 t2 t3 p' q n ∈ news → (q, lstO vb n2) ∈ news →
    (∀ h' tk' t' m' R, R = (if yp = [] then T else T ++ Str.ofString "+" ++ Txt.join (Str.ofString ".") yp) → Fr h₀ L h' m' → News h₀ L h' news → Q (.ret (.str R t')) ⟨h', g, dr, tk', os⟩) →
    wpAny (model PySem.Challenge.rw_lh0061_01.row.prog w) (topA dp un gd (envOf qual scope L fa cd) outer) (execs rest (envOf qual scope L fa cd)) Q E ⟨h, g, dr, tk, os⟩ := by
  k_fill
  refine' tail2_elim ?h1 ?_
  case h1 => k_is
  intro p loose mean mg mb dp un gd outer h₀ L fa cd m a b c v p' q t1 t2 t3 t n n2 T yp vb news h g dr os tk Q E TT X hd hu F0 q1 q2 hT hy hvb N m1 m2 next
  have F := fr_map F0 (map_cons q1 (map_cons q2 rfl))
  clear F0
  k_steps
  all_goals exact next _ _ _ _ _ (by first | exact (if_pos (by assumption)).symm | exact (if_neg (by assumption)).symm) (by k_asm) (news_sub (by k_asm) (fun _ hq => by first | exact hq | exact List.mem_cons_of_mem _ hq | exact List.mem_cons_of_mem _ (List.mem_cons_of_mem _ hq)))
end
theorem kw5_L2 : True := by
  k_with_none
  (k_with "+lt room" => (first | exact lt_r0 (by assumption) (by decide) | exact lt_rc (by assumption) (by decide) | exact lt_rd (by assumption) (by decide) | exact lt_z0 (by assumption)))
  (k_with "@ktr_room" => (walk_at "lt room"))
  (k_with "@ktr_units" => (walk_at "lt room"))
  (k_with "@units_room" => (walk_at "lt room"))
  (k_with "@k_room" => (ktr_room))
  (k_with "+con binds" => (first | exact fm_nilE (by exact rfl) | exact fm_some (by exact rfl) (by walk_at "con binds")))
  (k_with "+con enter" => ((k_dflt (refine' code_keep ?k19q ?k29q ?k39q ?k49q ?k59q ?kA9q ?kF9q ?kK9q ?k69q ?k79q ?k89q ?k99q ?kB9q ?_ ?c29q ?c39q ?c49q ?c59q; (case kA9q => exact rfl); (case kF9q => assumption); (case kK9q => assumption); (case k49q => k_asm); (case k19q => k_asm); (case k29q => k_asm); (case k39q => k_asm); (case k59q => k_asm); (case k69q => k_is); (case k79q => k_is); (case k89q => ktr_room); (case k99q => (refine' binds_to ?b99q ?e99q; (case b99q => first | exact BindsTo.of_eq rfl | exact binds_K (by k_in) rfl (by k_is) rfl rfl rfl | fail "con enter: no rule for these arguments"); (case e99q => first | (walk_at "con binds") | (walk_say "con enter: binds left as they are"; exact rfl)))); (case c59q => decide); (case kB9q => exact locs rfl); (case c29q => exact rfl); (case c39q => exact rfl); (case c49q => exact rfl); k_whole; intro g' L' h' FG' F' N' B' X' T' G0'; (try dsimp only); (try k_fold)))))
  (k_with "+con sub" => (repeat (first | exact sub_nil | refine sub_cons (by k_mem) ?_)))
  (k_with "+ite" => ((k_here; k_openite; with_reducible refine ite_isFalse (bne_self_eq_false _) ?_; walk_say "PRUNED same")))
  (k_with "+con sides" => (((case k39q => k_asm); (case k29q => k_asm); (case k19q => k_asm); (case k49q => k_asm); (case k59q => k_asm); (case kF9q => first | exact rfl | assumption); (case kK9q => first | exact rfl | assumption); (case kd9q => ktr_room); (case ku9q => ktr_units); (case ks9q => walk_at "con sub"))))
  (k_with "+ne close" => (first | assumption | exact Ne.symm (by assumption) | exact Nat.ne_of_lt (by assumption) | exact Nat.ne_of_gt (by assumption) | exact Nat.ne_of_lt (Nat.lt_trans (by assumption) (by assumption)) | exact Nat.ne_of_gt (Nat.lt_trans (by assumption) (by assumption)) | (rename _ ∧ _ => hh9; obtain ⟨_, _⟩ := hh9; walk_at "ne close")))
  (k_with "@k_ne" => ((refine neN ?_; (try dsimp only); with_reducible walk_at "ne close")))
  (k_with "+call type:str" => ((k_here; (with_reducible show wpAny _ _ (call (Value.type _) [Value.int _ _]) _ _ _); k_dflt (refine P.str_of_int (Fit.log (by with_reducible assumption)) ?_))))
  (k_with "+call builtin:str.join" => ((k_here; (with_reducible show wpAny _ _ (call (Value.builtin _) [Value.str _ _, Value.ref _]) _ _ _); k_dflt (first
    | (refine' join_idsL ?N9q ?m9q ?hi9q ?hz9q ?_; (case N9q => k_asm); (case m9q => k_mem); (case hi9q => k_asm); (case hz9q => k_asm))
    | (refine' join_num ?N9q ?m9q ?ho9q ?ha9q ?hb9q ?hc9q ?_; (case N9q => k_asm); (case m9q => k_mem); (case ho9q => with_unfolding_all exact rfl); (case ha9q => k_asm); (case hb9q => k_asm); (case hc9q => k_asm))); intro _ _; (try dsimp only))))
  (k_with "+s_len" => (first
    | with_reducible exact lenU (ids_short (by assumption))
    | with_reducible exact lenC (by assumption) (by assumption) (by assumption)
    | with_reducible exact lenD (by assumption) (by assumption) (by assumption) (ids_short (by assumption))
    | with_reducible exact sep_len.1
    | with_reducible exact sep_len.2))
  (k_with "+s_chain" => (first | walk_at "s_len" | exact add_in (by walk_at "s_chain") (by walk_at "s_len")))
  (k_with "+binaryOp Add str str" => ((k_here; (with_reducible show wpAny _ _ (binaryOp Operator.Add (Value.str _ _) (Value.str _ _)) _ _ _); k_dflt (refine' add_two ?a9q ?b9q ?c9q ?_; (case a9q => walk_at "s_chain"); (case b9q => walk_at "s_len"); (case c9q => decide)); intro _ _; (try dsimp only))))
  (k_with "+compareOp NotEq ref ref" => ((k_here; (with_reducible show wpAny _ _ (compareOp CmpOp.NotEq (Value.ref _) (Value.ref _)) _ _ _); k_dflt (refine' ne_strs0 ?N9q ?ma9q ?mb9q ?ho9q ?hx9q ?hz9q ?hu9q ?_; (case N9q => k_asm); (case ma9q => k_mem); (case mb9q => k_mem); (case ho9q => with_unfolding_all exact rfl); (case hx9q => k_asm); (case hz9q => k_asm); (case hu9q => units_room)))))
  (k_with "+subscriptTail Name Constant ref int" => ((k_here; (with_reducible show wpAny _ _ (subscriptTail _ _ (Value.ref _) (Value.int _ _)) _ _ _); k_dflt (refine' list_item ?N9q ?m9q ?e9q ?z9q ?b9q ?_; (case N9q => k_asm); (case m9q => k_mem); (case e9q => exact rfl); (case z9q => decide); (case b9q => exact Nat.le_of_ble_eq_true rfl)); (try dsimp only))))
  exact True.intro
theorem kw6_L2 : True := by
  (k_with "+execs cons" => ((k_here; (with_reducible show wpAny _ _ (execs (Stmt.If (PySem.Expr.Compare (PySem.Expr.Subscript _ (PySem.Expr.Constant (PySem.Const.int 4) _ _) _) _ _ _) _ _ _ :: _) _) _ _ _); k_dflt (refine' text_suf _ _ _ _ HPt _ _ _ _ _ _ _ _ _ _ _ _ _ _ _ _ _ _ _ _ _ _ _ _ _ _ _ _ _ _ _ _ _ _ _ _ _ ?T9q ?X9q ?hd9q ?hu9q ?F9q ?q19q ?q29q ?hT9q ?hy9q ?hvb9q ?N9q ?m19q ?m29q ?_; (case F9q => k_asm); (case T9q => k_asm); (case X9q => k_asm); (case hd9q => ktr_room); (case hu9q => ktr_units); (case q19q => with_unfolding_all rfl); (case q29q => with_unfolding_all rfl); (case hT9q => (refine Nat.le_trans (by walk_at "s_chain") ?_; decide)); (case N9q => k_asm); (case m19q => k_mem); (case m29q => k_mem); (case hvb9q => k_asm); (case hy9q => k_asm)); intro h9 tk9 t9 m9 R9 eR9 F9 N9; subst eR9; (try dsimp only))))
  exact True.intro
set_option maxHeartbeats 1500000 in
theorem c_text0 (w : World) (a b c : Int) {v p q : Addr} {t1 t2 t3 : Tok} {n n1 n2 : Nat} {zp yp : List Str} {vp vb : List Value} (ha : Fit a) (hb : Fit b) (hc : Fit c) (hz : Ids zp) (hy : Ids yp) (hvp : StrsAre vp zp) (hvb : StrsAre vb yp) :
    Con w 8 80 (.ref 464) [.ref v] [] [lawV v a b c t1 t2 t3 p q n, (p, lstO vp n1), (q, lstO vb n2)] (fun r tl => (∃ t, r = .str (verText a b c zp yp) t) ∧ tl = []) := by
  unfold Con
  intro p loose mean mg mb dp un gd env outer A₀ base h₀ L m news s R B F N T hf hk hd hu hsub hret
  k_fill
  intro X
  have N0 := news_sub N hsub
  walk_at "con enter"
  have HPt := tail2_of (o := (Mine.fr.heap_1 w.params).lookup 464) (by k_is)
  k_steps
  all_goals ((unfold KeptEnd; dsimp only; intro hK; refine hret _ [] _ _ ?_ (keep_back N0 hK (news_sub (by k_asm) (by walk_at "con sub"))) (news_sub (by k_asm) (by walk_at "con sub"))); refine ⟨⟨_, congrArg (Value.str · _) ?_⟩, rfl⟩; clear N0 hK hret hsub N F B T X hvp hvb; simp only [verText, *, if_true, if_false])
theorem kw7_L2 : True := by
  k_with_none
  (k_with "+lt room" => (first | exact lt_r0 (by assumption) (by decide) | exact lt_rc (by assumption) (by decide) | exact lt_rd (by assumption) (by decide) | exact lt_z0 (by assumption)))
  (k_with "@ktr_room" => (walk_at "lt room"))
  (k_with "@ktr_units" => (walk_at "lt room"))
  (k_with "@units_room" => (walk_at "lt room"))
  (k_with "@k_room" => (ktr_room))
  (k_with "+con binds" => (first | exact fm_nilE (by exact rfl) | exact fm_some (by exact rfl) (by walk_at "con binds")))
  (k_with "+con enter" => ((k_dflt (refine' code_keep ?k19q ?k29q ?k39q ?k49q ?k59q ?kA9q ?kF9q ?kK9q ?k69q ?k79q ?k89q ?k99q ?kB9q ?_ ?c29q ?c39q ?c49q ?c59q; (case kA9q => exact rfl); (case kF9q => assumption); (case kK9q => assumption); (case k49q => k_asm); (case k19q => k_asm); (case k29q => k_asm); (case k39q => k_asm); (case k59q => k_asm); (case k69q => k_is); (case k79q => k_is); (case k89q => ktr_room); (case k99q => (refine' binds_to ?b99q ?e99q; (case b99q => first | exact BindsTo.of_eq rfl | exact binds_K (by k_in) rfl (by k_is) rfl rfl rfl | fail "con enter: no rule for these arguments"); (case e99q => first | (walk_at "con binds") | (walk_say "con enter: binds left as they are"; exact rfl)))); (case c59q => decide); (case kB9q => exact locs rfl); (case c29q => exact rfl); (case c39q => exact rfl); (case c49q => exact rfl); k_whole; intro g' L' h' FG' F' N' B' X' T' G0'; (try dsimp only); (try k_fold)))))
  (k_with "+con sub" => (repeat (first | exact sub_nil | refine sub_cons (by k_mem) ?_)))
  (k_with "+ite" => ((k_here; k_openite; with_reducible refine ite_isFalse (bne_self_eq_false _) ?_; walk_say "PRUNED same")))
  (k_with "+con sides" => (((case k39q => k_asm); (case k29q => k_asm); (case k19q => k_asm); (case k49q => k_asm); (case k59q => k_asm); (case kF9q => first | exact rfl | assumption); (case kK9q => first | exact rfl | assumption); (case kd9q => ktr_room); (case ku9q => ktr_units); (case ks9q => walk_at "con sub"))))
  (k_with "+ne close" => (first | assumption | exact Ne.symm (by assumption) | exact Nat.ne_of_lt (by assumption) | exact Nat.ne_of_gt (by assumption) | exact Nat.ne_of_lt (Nat.lt_trans (by assumption) (by assumption)) | exact Nat.ne_of_gt (Nat.lt_trans (by assumption) (by assumption)) | (rename _ ∧ _ => hh9; obtain ⟨_, _⟩ := hh9; walk_at "ne close")))
  (k_with "@k_ne" => ((refine neN ?_; (try dsimp only); with_reducible walk_at "ne close")))
  exact True.intro
end
section
section
open PySem.Sre PySem.Sre.M
noncomputable def C53 : Array Nat := #[14, 4, 0, 5, 4294967295, 6, 0, 17, 0, 24, 9, 1, 4294967295, 13, 4, 8, 10, 0, 1, 17, 1, 16, 46, 17, 2, 24, 9, 1, 4294967295, 13, 4, 8, 10, 0, 1, 17, 3, 16, 46, 17, 4, 24, 9, 1, 4294967295, 13, 4, 8, 10, 0, 1, 17, 5, 23, 26, 0, 1, 16, 45, 17, 6, 24, 16, 1, 4294967295, 13, 11, 9, 0, 67067904, 134217726, 134217726, 0, 0, 0, 0, 0, 1, 17, 7, 18, 23, 26, 0, 1, 16, 43, 17, 8, 24, 16, 1, 4294967295, 13, 11, 9, 0, 67067904, 134217726, 134217726, 0, 0, 0, 0, 0, 1, 17, 9, 18, 6, 5, 1]
noncomputable abbrev Mks := Array (Option Nat)
/-- the machine of pattern 53 in the midst of its first and only attempt -/
noncomputable abbrev St (t : Array Nat) (pc pos : Nat) (mk : Mks) (lm li : Int) (lps : Array Loop) (inn : Option Nat) (fr : List Sre.Frame) (wt hd : Nat) (sn : Sre.Seen) (an : Option Bool) : M :=
  { code := C53, text := t, lim := t.size, start := 0, pc := pc, pos := pos, handed := hd, marks := mk, lastmark := lm, lastindex := li, loops := lps, inner := inn, frames := fr, weight := wt, answer := an, seen := sn }
variable {t : Array Nat} {pos hd wt : Nat} {mk : Mks} {lm li : Int} {lps : Array Loop} {inn : Option Nat} {fr : List Sre.Frame} {sn : Sre.Seen}
/-- reaches in at most so many steps -/
noncomputable def Go (n : Nat) (m m' : M) : Prop := ∃ k ≤ n, runFor k m = m'
theorem runFor_done {m : M} (h : m.outcome.isSome = true) : ∀ n, runFor n m = m
  | 0 => rfl
  | n + 1 => by rw [runFor, if_pos h]
theorem runFor_succ {m : M} (h : m.outcome = none) (n : Nat) : runFor (n + 1) m = runFor n m.step := by rw [runFor, if_neg (by simp [h])]
theorem runFor_add (a b : Nat) (m : M) : runFor (a + b) m = runFor b (runFor a m) := by
  induction a generalizing m with
  | zero => rw [Nat.zero_add]; rfl
  | succ a ih =>
    rw [Nat.succ_add]
    cases h : m.outcome with
    | some x =>
      have h' : m.outcome.isSome = true := by rw [h]; rfl
      rw [runFor_done h', runFor_done h', runFor_done h']
    | none => rw [runFor_succ h, runFor_succ h, ih]
theorem Go.refl (m : M) : Go 0 m m := ⟨0, Nat.le_refl _, rfl⟩
theorem Go.trans {a b : Nat} {m m' m'' : M} (h : Go a m m') (g : Go b m' m'') : Go (a + b) m m'' := by
  obtain ⟨k, hk, e⟩ := h
  obtain ⟨j, hj, e'⟩ := g
  exact ⟨k + j, by omega, by rw [runFor_add, e, e']⟩
theorem Go.one {m m' : M} (ho : m.outcome = none) (h : m.step = m') : Go 1 m m' := ⟨1, Nat.le_refl _, by subst h; simp [runFor, ho]⟩
/-- the rest of the text behind a place -/
noncomputable def At (t : Array Nat) (pos : Nat) (rest : List Nat) : Prop := ∃ pre, t.toList = pre ++ rest ∧ pos = pre.length
theorem At.get {rest : List Nat} (h : At t pos rest) : t.getD pos 0 = rest.headD 0 := by
  obtain ⟨pre, e, rfl⟩ := h
  rw [Array.getD_eq_getD_getElem?, ← Array.getElem?_toList, e]
  cases rest <;> simp
theorem At.lt {c : Nat} {rest : List Nat} (h : At t pos (c :: rest)) : pos < t.size := by
  obtain ⟨pre, e, rfl⟩ := h
  rw [← Array.length_toList, e]; simp
theorem At.end_ (h : At t pos []) : pos = t.size := by
  obtain ⟨pre, e, rfl⟩ := h
  rw [← Array.length_toList, e]; simp
theorem At.room {rest : List Nat} (h : At t pos rest) : t.size = pos + rest.length := by
  obtain ⟨pre, e, rfl⟩ := h
  rw [← Array.length_toList, e]; simp
theorem At.next {ds rest : List Nat} (h : At t pos (ds ++ rest)) : At t (pos + ds.length) rest := by
  obtain ⟨pre, e, rfl⟩ := h
  exact ⟨pre ++ ds, by rw [e, List.append_assoc], by simp⟩
theorem At.next1 {c : Nat} {rest : List Nat} (h : At t pos (c :: rest)) : At t (pos + 1) rest := At.next (ds := [c]) h
theorem At.cut {ds rest : List Nat} (h : At t pos (ds ++ rest)) : t.extract pos (pos + ds.length) = ds.toArray := by
  obtain ⟨pre, e, rfl⟩ := h
  apply Array.toList_inj.mp
  rw [Array.toList_extract, e]
  simp
theorem st_at0 : Go 1 (St t 5 0 mk lm li lps inn fr wt hd sn none) (St t 7 0 mk lm li lps inn fr wt hd ((sn.add 6).add 43) none) := .one rfl rfl
noncomputable def litK (m : M) : Except String (Bool × Sre.Seen) → M
  | .error why => m.stick why
  | .ok (false, x) => M.say { m with seen := x } false
  | .ok (true, x) => { m with seen := x, pc := m.pc + itemWidth m.code m.pc, pos := m.pos + 1 }
theorem lit_eq {pc c : Nat} (h0 : C53.getD pc 0 = 16) (h1 : C53.getD (pc + 1) 0 = c) (hp : pc < C53.size) : (St t pc pos mk lm li lps inn fr wt hd sn none).step = if pos ≥ t.size then (St t pc pos mk lm li lps inn fr wt hd (sn.add 16) none).say false else litK (St t pc pos mk lm li lps inn fr wt hd (sn.add 16) none) (.ok (t.getD pos 0 == c, sn.add 16)) := by
  have e : (St t pc pos mk lm li lps inn fr wt hd sn none).word 0 = 16 := h0
  have a : accepts C53 pc (t.getD pos 0) (sn.add 16) = .ok (t.getD pos 0 == c, sn.add 16) := by
    unfold accepts; rw [h0, h1]; rfl
  unfold M.step
  rw [if_neg (by simp)]
  dsimp only
  rw [if_pos hp]
  unfold M.exec
  rw [e]
  rw [← a]
  show (if pos ≥ t.size then _ else _) = _
  split
  · rfl
  · show (match accepts C53 pc (t.getD pos 0) (sn.add 16) with | .error why => _ | .ok (false, _) => _ | .ok (true, _) => _) = _
    rw [a]
    cases (t.getD pos 0 == c) <;> rfl
theorem wid_lit {pc : Nat} (h0 : C53.getD pc 0 = 16) : itemWidth C53 pc = 2 := by unfold itemWidth; rw [h0]; rfl
theorem st_lit {pc c : Nat} {rest : List Nat} (h0 : C53.getD pc 0 = 16) (h1 : C53.getD (pc + 1) 0 = c) (hp : pc < C53.size) (h : At t pos (c :: rest)) : Go 1 (St t pc pos mk lm li lps inn fr wt hd sn none) (St t (pc + 2) (pos + 1) mk lm li lps inn fr wt hd (sn.add 16) none) := by
  refine .one rfl ?_
  rw [lit_eq h0 h1 hp, if_neg (Nat.not_le.mpr h.lt), h.get]
  simp only [List.headD_cons, beq_self_eq_true, litK, wid_lit h0]
theorem st_litno {pc c : Nat} {rest : List Nat} (h0 : C53.getD pc 0 = 16) (h1 : C53.getD (pc + 1) 0 = c) (hp : pc < C53.size) (h : At t pos rest) (hr : rest.headD 0 ≠ c) : ∃ sn', Go 1 (St t pc pos mk lm li lps inn fr wt hd sn none) (St t pc pos mk lm li lps inn fr wt hd sn' (some false)) := by
  refine ⟨sn.add 16, .one rfl ?_⟩
  rw [lit_eq h0 h1 hp]
  split
  · rfl
  · rw [h.get, beq_eq_false_iff_ne.mpr hr]; rfl
noncomputable def runK (m : M) : Except String (Nat × Sre.Seen) → M
  | .error why => m.stick why
  | .ok (n, x) =>
      let m := { m with seen := x }
      if n < 1 then m.say false else
      let m := { m with pos := m.pos + n }
      m.afterRun .giveBack n (m.keep m.inner.isSome)
theorem run_eq9 : (St t 9 pos mk lm li lps inn fr wt hd sn none).step = if ((1 : Nat) : Int) > (t.size : Int) - pos then (St t 9 pos mk lm li lps inn fr wt hd (sn.add 24) none).say false else runK (St t 9 pos mk lm li lps inn fr wt hd (sn.add 24) none) (Sre.run C53 t 13 (min 4294967295 ((t.size : Int) - pos).toNat) pos 0 ((sn.add 24).add 13)) := by
  rfl
theorem run_eq25 : (St t 25 pos mk lm li lps inn fr wt hd sn none).step = if ((1 : Nat) : Int) > (t.size : Int) - pos then (St t 25 pos mk lm li lps inn fr wt hd (sn.add 24) none).say false else runK (St t 25 pos mk lm li lps inn fr wt hd (sn.add 24) none) (Sre.run C53 t 29 (min 4294967295 ((t.size : Int) - pos).toNat) pos 0 ((sn.add 24).add 13)) := by
  rfl
theorem run_eq41 : (St t 41 pos mk lm li lps inn fr wt hd sn none).step = if ((1 : Nat) : Int) > (t.size : Int) - pos then (St t 41 pos mk lm li lps inn fr wt hd (sn.add 24) none).say false else runK (St t 41 pos mk lm li lps inn fr wt hd (sn.add 24) none) (Sre.run C53 t 45 (min 4294967295 ((t.size : Int) - pos).toNat) pos 0 ((sn.add 24).add 13)) := by
  rfl
theorem run_eq61 : (St t 61 pos mk lm li lps inn fr wt hd sn none).step = if ((1 : Nat) : Int) > (t.size : Int) - pos then (St t 61 pos mk lm li lps inn fr wt hd (sn.add 24) none).say false else runK (St t 61 pos mk lm li lps inn fr wt hd (sn.add 24) none) (Sre.run C53 t 65 (min 4294967295 ((t.size : Int) - pos).toNat) pos 0 ((sn.add 24).add 13)) := by
  rfl
theorem run_eq89 : (St t 89 pos mk lm li lps inn fr wt hd sn none).step = if ((1 : Nat) : Int) > (t.size : Int) - pos then (St t 89 pos mk lm li lps inn fr wt hd (sn.add 24) none).say false else runK (St t 89 pos mk lm li lps inn fr wt hd (sn.add 24) none) (Sre.run C53 t 93 (min 4294967295 ((t.size : Int) - pos).toNat) pos 0 ((sn.add 24).add 13)) := by
  rfl
theorem cat10 (c : Nat) : category 10 c = .ok (Unicode.isDecimal c) := by
  unfold category
  simp [Except.map]
/-- what a place's class takes -/
noncomputable def Takes (i : Nat) (cls : Nat → Bool) : Prop := ∀ c sn, ∃ sn', accepts C53 i c sn = .ok (cls c, sn')
theorem takes13 : Takes 13 Unicode.isDecimal := by
  intro c sn
  have e : accepts C53 13 c sn = (do if ← category 10 c then pure (true, (sn.add 8).add (55 + 10)) else inSet C53 c 112 17 true ((sn.add 8).add (55 + 10))) := rfl
  rw [e, cat10]
  cases Unicode.isDecimal c
  · exact ⟨_, rfl⟩
  · exact ⟨_, rfl⟩
theorem takes29 : Takes 29 Unicode.isDecimal := by
  intro c sn
  have e : accepts C53 29 c sn = (do if ← category 10 c then pure (true, (sn.add 8).add (55 + 10)) else inSet C53 c 112 33 true ((sn.add 8).add (55 + 10))) := rfl
  rw [e, cat10]
  cases Unicode.isDecimal c
  · exact ⟨_, rfl⟩
  · exact ⟨_, rfl⟩
theorem takes45 : Takes 45 Unicode.isDecimal := by
  intro c sn
  have e : accepts C53 45 c sn = (do if ← category 10 c then pure (true, (sn.add 8).add (55 + 10)) else inSet C53 c 112 49 true ((sn.add 8).add (55 + 10))) := rfl
  rw [e, cat10]
  cases Unicode.isDecimal c
  · exact ⟨_, rfl⟩
  · exact ⟨_, rfl⟩
noncomputable def inWd (c : Nat) : Bool := decide (c < 256) && (C53.getD (68 + c / 32) 0).testBit (c % 32)
theorem wd_of {n : Nat} (e : ∀ k : Fin 8, C53.getD (n + (1 + k.val)) 0 = C53.getD (68 + k.val) 0) (c : Nat) : (decide (c < 256) && (C53.getD (n + (1 + c / 32)) 0).testBit (c % 32)) = inWd c := by
  unfold inWd
  by_cases h : c < 256
  · rw [e ⟨c / 32, Nat.div_lt_of_lt_mul h⟩]
  · rw [decide_eq_false h]; rfl
theorem takes65 : Takes 65 inWd := by
  intro c sn
  have e : accepts C53 65 c sn = (if (decide (c < 256) && (C53.getD (67 + (1 + c / 32)) 0).testBit (c % 32)) = true then .ok (true, sn.add 9) else inSet C53 c 112 76 true (sn.add 9)) := rfl
  rw [e, wd_of (by decide +kernel)]
  cases inWd c
  · exact ⟨_, rfl⟩
  · exact ⟨_, rfl⟩
theorem takes93 : Takes 93 inWd := by
  intro c sn
  have e : accepts C53 93 c sn = (if (decide (c < 256) && (C53.getD (95 + (1 + c / 32)) 0).testBit (c % 32)) = true then .ok (true, sn.add 9) else inSet C53 c 112 104 true (sn.add 9)) := rfl
  rw [e, wd_of (by decide +kernel)]
  cases inWd c
  · exact ⟨_, rfl⟩
  · exact ⟨_, rfl⟩
theorem run_takes {i : Nat} {cls : Nat → Bool} (T : Takes i cls) : ∀ (ds rest : List Nat) (n pos f : Nat) (sn : Sre.Seen), At t pos (ds ++ rest) → (∀ c ∈ ds, cls c = true) → ds.length ≤ n → (ds.length = n ∨ cls (rest.headD 0) = false) → ∃ sn', Sre.run C53 t i n pos f sn = .ok (f + ds.length, sn')
  | [], rest, 0, pos, f, sn, h, hc, hn, he => ⟨sn, rfl⟩
  | [], rest, n + 1, pos, f, sn, h, hc, hn, he => by
    obtain ⟨s1, e⟩ := T (t.getD pos 0) sn
    rcases he with he | he
    · simp at he
    · refine ⟨s1, ?_⟩
      rw [List.nil_append] at h
      rw [Sre.run, e, h.get, he]
      rfl
  | d :: ds, rest, 0, pos, f, sn, h, hc, hn, he => by simp at hn
  | d :: ds, rest, n + 1, pos, f, sn, h, hc, hn, he => by
    obtain ⟨s1, e⟩ := T (t.getD pos 0) sn
    obtain ⟨s2, e2⟩ := run_takes T ds rest n (pos + 1) (f + 1) s1 (At.next1 h) (fun c h => hc c (List.mem_cons_of_mem _ h)) (by simpa using hn) (by simpa using he)
    refine ⟨s2, ?_⟩
    have hd : t.getD pos 0 = d := h.get
    rw [Sre.run, e, hd, hc d List.mem_cons_self]
    show Sre.run C53 t i n (pos + 1) (f + 1) s1 = _
    rw [e2, List.length_cons]
    congr 2
    omega
noncomputable def passing (f : Sre.Frame) : Prop := match f.wait with | .giveBack | .maxTail | .maxMore | .closeLoop => True | _ => False
theorem run_at {i : Nat} {cls : Nat → Bool} (T : Takes i cls) {ds rest : List Nat} {sn : Sre.Seen} (h : At t pos (ds ++ rest)) (hc : ∀ c ∈ ds, cls c = true) (hn : ds.length ≤ 4294967295) (he : rest = [] ∨ cls (rest.headD 0) = false) :
    ∃ sn', Sre.run C53 t i (min 4294967295 ((t.size : Int) - pos).toNat) pos 0 sn = .ok (ds.length, sn') := by
  have r := h.room
  rw [List.length_append] at r
  obtain ⟨s', e⟩ := run_takes T ds rest (min 4294967295 ((t.size : Int) - pos).toNat) pos 0 sn h hc (by omega) (he.imp (fun e => by subst e; simp at r; omega) id)
  exact ⟨s', by simpa using e⟩
theorem st_run9 {ds rest : List Nat} (h : At t pos (ds ++ rest)) (hc : ∀ c ∈ ds, Unicode.isDecimal c = true) (h1 : ds ≠ []) (hn : ds.length ≤ 4294967295) (he : rest = [] ∨ Unicode.isDecimal (rest.headD 0) = false) (hw : wt + 1 + ((St t 9 (pos + ds.length) mk lm li lps inn fr wt hd sn none).keep inn.isSome).marks.size ≤ 16777216) :
    ∃ F sn', Go 1 (St t 9 pos mk lm li lps inn fr wt hd sn none) (St t 19 (pos + ds.length) mk lm li lps inn (F :: fr) (wt + 1 + ((St t 9 (pos + ds.length) mk lm li lps inn fr wt hd sn none).keep inn.isSome).marks.size) (pos + ds.length) sn' none) ∧ passing F := by
  obtain ⟨s', e⟩ := run_at takes13 (sn := (sn.add 24).add 13) h hc hn he
  have r := h.room
  have l := List.length_pos_iff.mpr h1
  rw [List.length_append] at r
  refine ⟨{ wait := .giveBack, pc := 9, pos := pos + ds.length, outermost := true, count := ds.length, kept := (St t 9 (pos + ds.length) mk lm li lps inn fr wt hd sn none).keep inn.isSome }, s', .one rfl ?_, trivial⟩
  rw [run_eq9, if_neg (by omega), e]
  simp only [runK]
  rw [if_neg (by omega)]
  unfold M.afterRun M.attempt
  dsimp only [M.frame]
  rw [if_neg]
  · rfl
  · exact Nat.not_lt.mpr hw
theorem st_run25 {ds rest : List Nat} (h : At t pos (ds ++ rest)) (hc : ∀ c ∈ ds, Unicode.isDecimal c = true) (h1 : ds ≠ []) (hn : ds.length ≤ 4294967295) (he : rest = [] ∨ Unicode.isDecimal (rest.headD 0) = false) (hw : wt + 1 + ((St t 25 (pos + ds.length) mk lm li lps inn fr wt hd sn none).keep inn.isSome).marks.size ≤ 16777216) :
    ∃ F sn', Go 1 (St t 25 pos mk lm li lps inn fr wt hd sn none) (St t 35 (pos + ds.length) mk lm li lps inn (F :: fr) (wt + 1 + ((St t 25 (pos + ds.length) mk lm li lps inn fr wt hd sn none).keep inn.isSome).marks.size) (pos + ds.length) sn' none) ∧ passing F := by
  obtain ⟨s', e⟩ := run_at takes29 (sn := (sn.add 24).add 13) h hc hn he
  have r := h.room
  have l := List.length_pos_iff.mpr h1
  rw [List.length_append] at r
  refine ⟨{ wait := .giveBack, pc := 25, pos := pos + ds.length, outermost := true, count := ds.length, kept := (St t 25 (pos + ds.length) mk lm li lps inn fr wt hd sn none).keep inn.isSome }, s', .one rfl ?_, trivial⟩
  rw [run_eq25, if_neg (by omega), e]
  simp only [runK]
  rw [if_neg (by omega)]
  unfold M.afterRun M.attempt
  dsimp only [M.frame]
  rw [if_neg]
  · rfl
  · exact Nat.not_lt.mpr hw
theorem st_run41 {ds rest : List Nat} (h : At t pos (ds ++ rest)) (hc : ∀ c ∈ ds, Unicode.isDecimal c = true) (h1 : ds ≠ []) (hn : ds.length ≤ 4294967295) (he : rest = [] ∨ Unicode.isDecimal (rest.headD 0) = false) (hw : wt + 1 + ((St t 41 (pos + ds.length) mk lm li lps inn fr wt hd sn none).keep inn.isSome).marks.size ≤ 16777216) :
    ∃ F sn', Go 1 (St t 41 pos mk lm li lps inn fr wt hd sn none) (St t 51 (pos + ds.length) mk lm li lps inn (F :: fr) (wt + 1 + ((St t 41 (pos + ds.length) mk lm li lps inn fr wt hd sn none).keep inn.isSome).marks.size) (pos + ds.length) sn' none) ∧ passing F := by
  obtain ⟨s', e⟩ := run_at takes45 (sn := (sn.add 24).add 13) h hc hn he
  have r := h.room
  have l := List.length_pos_iff.mpr h1
  rw [List.length_append] at r
  refine ⟨{ wait := .giveBack, pc := 41, pos := pos + ds.length, outermost := true, count := ds.length, kept := (St t 41 (pos + ds.length) mk lm li lps inn fr wt hd sn none).keep inn.isSome }, s', .one rfl ?_, trivial⟩
  rw [run_eq41, if_neg (by omega), e]
  simp only [runK]
  rw [if_neg (by omega)]
  unfold M.afterRun M.attempt
  dsimp only [M.frame]
  rw [if_neg]
  · rfl
  · exact Nat.not_lt.mpr hw
theorem st_run61 {ds rest : List Nat} (h : At t pos (ds ++ rest)) (hc : ∀ c ∈ ds, inWd c = true) (h1 : ds ≠ []) (hn : ds.length ≤ 4294967295) (he : rest = [] ∨ inWd (rest.headD 0) = false) (hw : wt + 1 + ((St t 61 (pos + ds.length) mk lm li lps inn fr wt hd sn none).keep inn.isSome).marks.size ≤ 16777216) :
    ∃ F sn', Go 1 (St t 61 pos mk lm li lps inn fr wt hd sn none) (St t 78 (pos + ds.length) mk lm li lps inn (F :: fr) (wt + 1 + ((St t 61 (pos + ds.length) mk lm li lps inn fr wt hd sn none).keep inn.isSome).marks.size) (pos + ds.length) sn' none) ∧ passing F := by
  obtain ⟨s', e⟩ := run_at takes65 (sn := (sn.add 24).add 13) h hc hn he
  have r := h.room
  have l := List.length_pos_iff.mpr h1
  rw [List.length_append] at r
  refine ⟨{ wait := .giveBack, pc := 61, pos := pos + ds.length, outermost := true, count := ds.length, kept := (St t 61 (pos + ds.length) mk lm li lps inn fr wt hd sn none).keep inn.isSome }, s', .one rfl ?_, trivial⟩
  rw [run_eq61, if_neg (by omega), e]
  simp only [runK]
  rw [if_neg (by omega)]
  unfold M.afterRun M.attempt
  dsimp only [M.frame]
  rw [if_neg]
  · rfl
  · exact Nat.not_lt.mpr hw
theorem st_run89 {ds rest : List Nat} (h : At t pos (ds ++ rest)) (hc : ∀ c ∈ ds, inWd c = true) (h1 : ds ≠ []) (hn : ds.length ≤ 4294967295) (he : rest = [] ∨ inWd (rest.headD 0) = false) (hw : wt + 1 + ((St t 89 (pos + ds.length) mk lm li lps inn fr wt hd sn none).keep inn.isSome).marks.size ≤ 16777216) :
    ∃ F sn', Go 1 (St t 89 pos mk lm li lps inn fr wt hd sn none) (St t 106 (pos + ds.length) mk lm li lps inn (F :: fr) (wt + 1 + ((St t 89 (pos + ds.length) mk lm li lps inn fr wt hd sn none).keep inn.isSome).marks.size) (pos + ds.length) sn' none) ∧ passing F := by
  obtain ⟨s', e⟩ := run_at takes93 (sn := (sn.add 24).add 13) h hc hn he
  have r := h.room
  have l := List.length_pos_iff.mpr h1
  rw [List.length_append] at r
  refine ⟨{ wait := .giveBack, pc := 89, pos := pos + ds.length, outermost := true, count := ds.length, kept := (St t 89 (pos + ds.length) mk lm li lps inn fr wt hd sn none).keep inn.isSome }, s', .one rfl ?_, trivial⟩
  rw [run_eq89, if_neg (by omega), e]
  simp only [runK]
  rw [if_neg (by omega)]
  unfold M.afterRun M.attempt
  dsimp only [M.frame]
  rw [if_neg]
  · rfl
  · exact Nat.not_lt.mpr hw
end
end
section
section
open PySem.Sre PySem.Sre.M
variable {t : Array Nat} {pos p hd wt : Nat} {mk : Mks} {lm li : Int} {lps : Array Loop} {inn : Option Nat} {fr : List Sre.Frame} {sn : Sre.Seen}
theorem dec_no : Unicode.isDecimal 46 = false ∧ Unicode.isDecimal 45 = false ∧ Unicode.isDecimal 43 = false := by decide +kernel
noncomputable def Pass (k : Nat) (fr : List Sre.Frame) : Prop := (∀ f ∈ fr, passing f) ∧ fr.length = k
theorem Pass.nil : Pass 0 [] := ⟨(fun _ h => nomatch h), rfl⟩
theorem Pass.cons {k : Nat} {f : Sre.Frame} (h : passing f) (g : Pass k fr) : Pass (k + 1) (f :: fr) := by
  refine ⟨fun x hx => ?_, by rw [List.length_cons, g.2]⟩
  rcases List.mem_cons.mp hx with e | hx
  · exact e ▸ h
  · exact g.1 x hx
theorem st_mk7  : Go 1 (St t 7 pos #[none, none, none, none, none, none, none, none, none, none] (-1) (-1) lps inn fr wt hd sn none) (St t 9 pos #[some pos, none, none, none, none, none, none, none, none, none] 0 (-1) lps inn fr wt hd (sn.add 17) none) := .one rfl (by kernel_rfl)
theorem st_mk19 {a : Nat} : Go 1 (St t 19 pos #[some a, none, none, none, none, none, none, none, none, none] (0) (-1) lps inn fr wt hd sn none) (St t 21 pos #[some a, some pos, none, none, none, none, none, none, none, none] 1 (1) lps inn fr wt hd (sn.add 17) none) := .one rfl (by kernel_rfl)
theorem st_mk23 {a b : Nat} : Go 1 (St t 23 pos #[some a, some b, none, none, none, none, none, none, none, none] (1) (1) lps inn fr wt hd sn none) (St t 25 pos #[some a, some b, some pos, none, none, none, none, none, none, none] 2 (1) lps inn fr wt hd (sn.add 17) none) := .one rfl (by kernel_rfl)
theorem st_mk35 {a b c : Nat} : Go 1 (St t 35 pos #[some a, some b, some c, none, none, none, none, none, none, none] (2) (1) lps inn fr wt hd sn none) (St t 37 pos #[some a, some b, some c, some pos, none, none, none, none, none, none] 3 (2) lps inn fr wt hd (sn.add 17) none) := .one rfl (by kernel_rfl)
theorem st_mk39 {a b c d : Nat} : Go 1 (St t 39 pos #[some a, some b, some c, some d, none, none, none, none, none, none] (3) (2) lps inn fr wt hd sn none) (St t 41 pos #[some a, some b, some c, some d, some pos, none, none, none, none, none] 4 (2) lps inn fr wt hd (sn.add 17) none) := .one rfl (by kernel_rfl)
theorem st_mk51 {a b c d e : Nat} : Go 1 (St t 51 pos #[some a, some b, some c, some d, some e, none, none, none, none, none] (4) (2) lps inn fr wt hd sn none) (St t 53 pos #[some a, some b, some c, some d, some e, some pos, none, none, none, none] 5 (3) lps inn fr wt hd (sn.add 17) none) := .one rfl (by kernel_rfl)
theorem pre_go {da db dc rest : List Nat} (h : At t 0 (da ++ 46 :: (db ++ 46 :: (dc ++ rest)))) (ha : ∀ c ∈ da, Unicode.isDecimal c = true) (hb : ∀ c ∈ db, Unicode.isDecimal c = true) (hc : ∀ c ∈ dc, Unicode.isDecimal c = true)
    (na : da ≠ []) (nb : db ≠ []) (nc : dc ≠ []) (la : da.length ≤ 100) (lb : db.length ≤ 100) (lc : dc.length ≤ 100) (he : rest = [] ∨ Unicode.isDecimal (rest.headD 0) = false) :
    ∃ fr hd sn', Go 12 (St t 5 0 #[none, none, none, none, none, none, none, none, none, none] (-1) (-1) #[] none [] 0 0 sn none)
      (St t 53 (0 + da.length + 1 + db.length + 1 + dc.length) #[some 0, some (0 + da.length), some (0 + da.length + 1), some (0 + da.length + 1 + db.length), some (0 + da.length + 1 + db.length + 1), some (0 + da.length + 1 + db.length + 1 + dc.length), none, none, none, none] 5 3 #[] none fr 3 hd sn' none) ∧ Pass 3 fr := by
  have h1 := h.next
  have h2 := h1.next1
  have h3 := h2.next
  have h4 := h3.next1
  have h5 := h4.next
  obtain ⟨F1, s1, g1, q1⟩ := st_run9 (mk := #[some 0, none, none, none, none, none, none, none, none, none]) (lm := 0) (li := -1) (lps := #[]) (inn := none) (fr := []) (wt := 0) (hd := 0) (sn := ((sn.add 6).add 43).add 17) h ha na (by omega) (Or.inr dec_no.1) (by show 1 ≤ _; decide)
  obtain ⟨F2, s2, g2, q2⟩ := st_run25 (mk := #[some 0, some (0 + da.length), some (0 + da.length + 1), none, none, none, none, none, none, none]) (lm := 2) (li := 1) (lps := #[]) (inn := none) (fr := [F1]) (wt := 1) (hd := 0 + da.length) (sn := ((s1.add 17).add 16).add 17) h2 hb nb (by omega) (Or.inr dec_no.1) (by show 2 ≤ _; decide)
  obtain ⟨F3, s3, g3, q3⟩ := st_run41 (mk := #[some 0, some (0 + da.length), some (0 + da.length + 1), some (0 + da.length + 1 + db.length), some (0 + da.length + 1 + db.length + 1), none, none, none, none, none]) (lm := 4) (li := 2) (lps := #[]) (inn := none) (fr := [F2, F1]) (wt := 2) (hd := 0 + da.length + 1 + db.length) (sn := ((s2.add 17).add 16).add 17) h4 hc nc (by omega) he (by show 3 ≤ _; decide)
  refine ⟨_, _, _, (st_at0.trans (st_mk7.trans (g1.trans (st_mk19.trans ((st_lit rfl rfl (by decide) h1).trans (st_mk23.trans (g2.trans (st_mk35.trans ((st_lit rfl rfl (by decide) h3).trans (st_mk39.trans (g3.trans st_mk51))))))))))), ?_⟩
  exact .cons q3 (.cons q2 (.cons q1 .nil))
theorem g1_no {a b c d e f : Nat} {rest : List Nat} (h : At t pos rest) (hr : rest.headD 0 ≠ 45) {k : Nat} (P : Pass k fr) :
    ∃ fr' hd' sn' L, Go 4 (St t 53 pos #[some a, some b, some c, some d, some e, some f, none, none, none, none] 5 3 #[] none fr 3 hd sn none) (St t 81 pos #[some a, some b, some c, some d, some e, some f, none, none, none, none] 5 3 #[L] none fr' 5 hd' sn' none) ∧ Pass (k + 2) fr' := by
  let F1 : Sre.Frame := { wait := .closeLoop, pc := 53, pos := pos, outermost := true, loop := 0 }
  let F2 : Sre.Frame := { wait := .maxMore, pc := 81, pos := pos, outermost := true, loop := 0, count := 0, began := none, kept := ⟨5, 3, true, #[some a, some b, some c, some d, some e, some f]⟩ }
  let F4 : Sre.Frame := { wait := .maxTail, pc := 81, pos := pos, outermost := true, loop := 0, count := 0, kept := ⟨5, 3, false, #[]⟩ }
  obtain ⟨s3, g3⟩ := st_litno (t := t) (pos := pos) (mk := #[some a, some b, some c, some d, some e, some f, none, none, none, none]) (lm := 5) (li := 3) (lps := #[{ pc := 53, count := 0, began := some pos, outer := none }]) (inn := some 0) (fr := F2 :: F1 :: fr) (wt := 11) (hd := pos) (sn := (sn.add 23).add 18) (pc := 57) (c := 45) rfl rfl (by decide) h hr
  have g1 : Go 1 (St t 53 pos #[some a, some b, some c, some d, some e, some f, none, none, none, none] 5 3 #[] none fr 3 hd sn none) (St t 80 pos #[some a, some b, some c, some d, some e, some f, none, none, none, none] 5 3 #[{ pc := 53, outer := none }] (some 0) (F1 :: fr) 4 pos (sn.add 23) none) := .one rfl (by kernel_rfl)
  have g2 : Go 1 (St t 80 pos #[some a, some b, some c, some d, some e, some f, none, none, none, none] 5 3 #[{ pc := 53, outer := none }] (some 0) (F1 :: fr) 4 pos (sn.add 23) none) (St t 57 pos #[some a, some b, some c, some d, some e, some f, none, none, none, none] 5 3 #[{ pc := 53, count := 0, began := some pos, outer := none }] (some 0) (F2 :: F1 :: fr) 11 pos ((sn.add 23).add 18) none) := .one rfl (by kernel_rfl)
  have g4 : Go 1 (St t 57 pos #[some a, some b, some c, some d, some e, some f, none, none, none, none] 5 3 #[{ pc := 53, count := 0, began := some pos, outer := none }] (some 0) (F2 :: F1 :: fr) 11 pos s3 (some false)) (St t 81 pos #[some a, some b, some c, some d, some e, some f, none, none, none, none] 5 3 #[{ pc := 53, count := -1, began := none, outer := none }] none (F4 :: F1 :: fr) 5 pos s3 none) := .one rfl (by kernel_rfl)
  exact ⟨_, _, _, _, g1.trans (g2.trans (g3.trans g4)), .cons trivial (.cons trivial P)⟩
theorem g1_yes {a b c d e f : Nat} {ws rest : List Nat} (h : At t pos (45 :: (ws ++ rest))) (hc : ∀ c ∈ ws, inWd c = true) (h1 : ws ≠ []) (hn : ws.length ≤ 1000) (he : rest = [] ∨ inWd (rest.headD 0) = false) {k : Nat} (P : Pass k fr) :
    ∃ fr' hd' sn' LS, Go 7 (St t 53 pos #[some a, some b, some c, some d, some e, some f, none, none, none, none] 5 3 #[] none fr 3 hd sn none) (St t 81 (pos + 1 + ws.length) #[some a, some b, some c, some d, some e, some f, some (pos + 1), some (pos + 1 + ws.length), none, none] 7 4 LS none fr' 20 hd' sn' none) ∧ Pass (k + 4) fr' ∧ LS.size = 1 := by
  have h2 := h.next1
  let F1 : Sre.Frame := { wait := .closeLoop, pc := 53, pos := pos, outermost := true, loop := 0 }
  let F2 : Sre.Frame := { wait := .maxMore, pc := 81, pos := pos, outermost := true, loop := 0, count := 0, began := none, kept := ⟨5, 3, true, #[some a, some b, some c, some d, some e, some f]⟩ }
  let F4 : Sre.Frame := { wait := .maxTail, pc := 81, pos := pos + 1 + ws.length, outermost := true, loop := 0, count := 1, kept := ⟨7, 4, false, #[]⟩ }
  have g1 : Go 1 (St t 53 pos #[some a, some b, some c, some d, some e, some f, none, none, none, none] 5 3 #[] none fr 3 hd sn none) (St t 80 pos #[some a, some b, some c, some d, some e, some f, none, none, none, none] 5 3 #[{ pc := 53, outer := none }] (some 0) (F1 :: fr) 4 pos (sn.add 23) none) := .one rfl (by kernel_rfl)
  have g2 : Go 1 (St t 80 pos #[some a, some b, some c, some d, some e, some f, none, none, none, none] 5 3 #[{ pc := 53, outer := none }] (some 0) (F1 :: fr) 4 pos (sn.add 23) none) (St t 57 pos #[some a, some b, some c, some d, some e, some f, none, none, none, none] 5 3 #[{ pc := 53, count := 0, began := some pos, outer := none }] (some 0) (F2 :: F1 :: fr) 11 pos ((sn.add 23).add 18) none) := .one rfl (by kernel_rfl)
  have g3 := st_lit (t := t) (pos := pos) (mk := #[some a, some b, some c, some d, some e, some f, none, none, none, none]) (lm := 5) (li := 3) (lps := #[{ pc := 53, count := 0, began := some pos, outer := none }]) (inn := some 0) (fr := F2 :: F1 :: fr) (wt := 11) (hd := pos) (sn := (sn.add 23).add 18) (pc := 57) (c := 45) rfl rfl (by decide) h
  have g4 : Go 1 (St t 59 (pos + 1) #[some a, some b, some c, some d, some e, some f, none, none, none, none] 5 3 #[{ pc := 53, count := 0, began := some pos, outer := none }] (some 0) (F2 :: F1 :: fr) 11 pos (((sn.add 23).add 18).add 16) none) (St t 61 (pos + 1) #[some a, some b, some c, some d, some e, some f, some (pos + 1), none, none, none] 6 3 #[{ pc := 53, count := 0, began := some pos, outer := none }] (some 0) (F2 :: F1 :: fr) 11 pos ((((sn.add 23).add 18).add 16).add 17) none) := .one rfl (by kernel_rfl)
  obtain ⟨F3, s5, g5, q5⟩ := st_run61 (mk := #[some a, some b, some c, some d, some e, some f, some (pos + 1), none, none, none]) (lm := 6) (li := 3) (lps := #[{ pc := 53, count := 0, began := some pos, outer := none }]) (inn := some 0) (fr := F2 :: F1 :: fr) (wt := 11) (hd := pos) (sn := (((sn.add 23).add 18).add 16).add 17) h2 hc h1 (by omega) he (by show 19 ≤ _; decide)
  have g6 : Go 1 (St t 78 (pos + 1 + ws.length) #[some a, some b, some c, some d, some e, some f, some (pos + 1), none, none, none] 6 3 #[{ pc := 53, count := 0, began := some pos, outer := none }] (some 0) (F3 :: F2 :: F1 :: fr) 19 (pos + 1 + ws.length) s5 none) (St t 80 (pos + 1 + ws.length) #[some a, some b, some c, some d, some e, some f, some (pos + 1), some (pos + 1 + ws.length), none, none] 7 4 #[{ pc := 53, count := 0, began := some pos, outer := none }] (some 0) (F3 :: F2 :: F1 :: fr) 19 (pos + 1 + ws.length) (s5.add 17) none) := .one rfl (by kernel_rfl)
  have g7 : Go 1 (St t 80 (pos + 1 + ws.length) #[some a, some b, some c, some d, some e, some f, some (pos + 1), some (pos + 1 + ws.length), none, none] 7 4 #[{ pc := 53, count := 0, began := some pos, outer := none }] (some 0) (F3 :: F2 :: F1 :: fr) 19 (pos + 1 + ws.length) (s5.add 17) none) (St t 81 (pos + 1 + ws.length) #[some a, some b, some c, some d, some e, some f, some (pos + 1), some (pos + 1 + ws.length), none, none] 7 4 #[{ pc := 53, count := 0, began := some pos, outer := none }] none (F4 :: F3 :: F2 :: F1 :: fr) 20 (pos + 1 + ws.length) ((s5.add 17).add 18) none) := .one rfl (by kernel_rfl)
  exact ⟨_, _, _, _, g1.trans (g2.trans (g3.trans (g4.trans (g5.trans (g6.trans g7))))), .cons trivial (.cons q5 (.cons trivial (.cons trivial P))), rfl⟩
theorem gA_yes {a b c d e f : Nat} {L : Loop} {ws rest : List Nat} (h : At t pos (43 :: (ws ++ rest))) (hc : ∀ c ∈ ws, inWd c = true) (h1 : ws ≠ []) (hn : ws.length ≤ 1000) (he : rest = [] ∨ inWd (rest.headD 0) = false) {k : Nat} (P : Pass k fr) :
    ∃ fr' hd' sn' LS, Go 7 (St t 81 pos #[some a, some b, some c, some d, some e, some f, none, none, none, none] 5 3 #[L] none fr 5 hd sn none) (St t 109 (pos + 1 + ws.length) #[some a, some b, some c, some d, some e, some f, none, none, some (pos + 1), some (pos + 1 + ws.length)] 9 5 LS none fr' 24 hd' sn' none) ∧ Pass (k + 4) fr' ∧ LS.size = 2 := by
  have h2 := h.next1
  let F1 : Sre.Frame := { wait := .closeLoop, pc := 81, pos := pos, outermost := true, loop := 1 }
  let F2 : Sre.Frame := { wait := .maxMore, pc := 109, pos := pos, outermost := true, loop := 1, count := 0, began := none, kept := ⟨5, 3, true, #[some a, some b, some c, some d, some e, some f]⟩ }
  let F4 : Sre.Frame := { wait := .maxTail, pc := 109, pos := pos + 1 + ws.length, outermost := true, loop := 1, count := 1, kept := ⟨9, 5, false, #[]⟩ }
  have g1 : Go 1 (St t 81 pos #[some a, some b, some c, some d, some e, some f, none, none, none, none] 5 3 #[L] none fr 5 hd sn none) (St t 108 pos #[some a, some b, some c, some d, some e, some f, none, none, none, none] 5 3 #[L, { pc := 81, outer := none }] (some 1) (F1 :: fr) 6 pos (sn.add 23) none) := .one rfl (by kernel_rfl)
  have g2 : Go 1 (St t 108 pos #[some a, some b, some c, some d, some e, some f, none, none, none, none] 5 3 #[L, { pc := 81, outer := none }] (some 1) (F1 :: fr) 6 pos (sn.add 23) none) (St t 85 pos #[some a, some b, some c, some d, some e, some f, none, none, none, none] 5 3 #[L, { pc := 81, count := 0, began := some pos, outer := none }] (some 1) (F2 :: F1 :: fr) 13 pos ((sn.add 23).add 18) none) := .one rfl (by kernel_rfl)
  have g3 := st_lit (t := t) (pos := pos) (mk := #[some a, some b, some c, some d, some e, some f, none, none, none, none]) (lm := 5) (li := 3) (lps := #[L, { pc := 81, count := 0, began := some pos, outer := none }]) (inn := some 1) (fr := F2 :: F1 :: fr) (wt := 13) (hd := pos) (sn := (sn.add 23).add 18) (pc := 85) (c := 43) rfl rfl (by decide) h
  have g4 : Go 1 (St t 87 (pos + 1) #[some a, some b, some c, some d, some e, some f, none, none, none, none] 5 3 #[L, { pc := 81, count := 0, began := some pos, outer := none }] (some 1) (F2 :: F1 :: fr) 13 pos (((sn.add 23).add 18).add 16) none) (St t 89 (pos + 1) #[some a, some b, some c, some d, some e, some f, none, none, some (pos + 1), none] 8 3 #[L, { pc := 81, count := 0, began := some pos, outer := none }] (some 1) (F2 :: F1 :: fr) 13 pos ((((sn.add 23).add 18).add 16).add 17) none) := .one rfl (by kernel_rfl)
  obtain ⟨F3, s5, g5, q5⟩ := st_run89 (mk := #[some a, some b, some c, some d, some e, some f, none, none, some (pos + 1), none]) (lm := 8) (li := 3) (lps := #[L, { pc := 81, count := 0, began := some pos, outer := none }]) (inn := some 1) (fr := F2 :: F1 :: fr) (wt := 13) (hd := pos) (sn := (((sn.add 23).add 18).add 16).add 17) h2 hc h1 (by omega) he (by show 23 ≤ _; decide)
  have g6 : Go 1 (St t 106 (pos + 1 + ws.length) #[some a, some b, some c, some d, some e, some f, none, none, some (pos + 1), none] 8 3 #[L, { pc := 81, count := 0, began := some pos, outer := none }] (some 1) (F3 :: F2 :: F1 :: fr) 23 (pos + 1 + ws.length) s5 none) (St t 108 (pos + 1 + ws.length) #[some a, some b, some c, some d, some e, some f, none, none, some (pos + 1), some (pos + 1 + ws.length)] 9 5 #[L, { pc := 81, count := 0, began := some pos, outer := none }] (some 1) (F3 :: F2 :: F1 :: fr) 23 (pos + 1 + ws.length) (s5.add 17) none) := .one rfl (by kernel_rfl)
  have g7 : Go 1 (St t 108 (pos + 1 + ws.length) #[some a, some b, some c, some d, some e, some f, none, none, some (pos + 1), some (pos + 1 + ws.length)] 9 5 #[L, { pc := 81, count := 0, began := some pos, outer := none }] (some 1) (F3 :: F2 :: F1 :: fr) 23 (pos + 1 + ws.length) (s5.add 17) none) (St t 109 (pos + 1 + ws.length) #[some a, some b, some c, some d, some e, some f, none, none, some (pos + 1), some (pos + 1 + ws.length)] 9 5 #[L, { pc := 81, count := 0, began := some pos, outer := none }] none (F4 :: F3 :: F2 :: F1 :: fr) 24 (pos + 1 + ws.length) ((s5.add 17).add 18) none) := .one rfl (by kernel_rfl)
  exact ⟨_, _, _, _, g1.trans (g2.trans (g3.trans (g4.trans (g5.trans (g6.trans g7))))), .cons trivial (.cons q5 (.cons trivial (.cons trivial P))), rfl⟩
theorem gB_yes {a b c d e f u v : Nat} {L : Loop} {ws rest : List Nat} (h : At t pos (43 :: (ws ++ rest))) (hc : ∀ c ∈ ws, inWd c = true) (h1 : ws ≠ []) (hn : ws.length ≤ 1000) (he : rest = [] ∨ inWd (rest.headD 0) = false) {k : Nat} (P : Pass k fr) :
    ∃ fr' hd' sn' LS, Go 7 (St t 81 pos #[some a, some b, some c, some d, some e, some f, some u, some v, none, none] 7 4 #[L] none fr 20 hd sn none) (St t 109 (pos + 1 + ws.length) #[some a, some b, some c, some d, some e, some f, some u, some v, some (pos + 1), some (pos + 1 + ws.length)] 9 5 LS none fr' 41 hd' sn' none) ∧ Pass (k + 4) fr' ∧ LS.size = 2 := by
  have h2 := h.next1
  let F1 : Sre.Frame := { wait := .closeLoop, pc := 81, pos := pos, outermost := true, loop := 1 }
  let F2 : Sre.Frame := { wait := .maxMore, pc := 109, pos := pos, outermost := true, loop := 1, count := 0, began := none, kept := ⟨7, 4, true, #[some a, some b, some c, some d, some e, some f, some u, some v]⟩ }
  let F4 : Sre.Frame := { wait := .maxTail, pc := 109, pos := pos + 1 + ws.length, outermost := true, loop := 1, count := 1, kept := ⟨9, 5, false, #[]⟩ }
  have g1 : Go 1 (St t 81 pos #[some a, some b, some c, some d, some e, some f, some u, some v, none, none] 7 4 #[L] none fr 20 hd sn none) (St t 108 pos #[some a, some b, some c, some d, some e, some f, some u, some v, none, none] 7 4 #[L, { pc := 81, outer := none }] (some 1) (F1 :: fr) 21 pos (sn.add 23) none) := .one rfl (by kernel_rfl)
  have g2 : Go 1 (St t 108 pos #[some a, some b, some c, some d, some e, some f, some u, some v, none, none] 7 4 #[L, { pc := 81, outer := none }] (some 1) (F1 :: fr) 21 pos (sn.add 23) none) (St t 85 pos #[some a, some b, some c, some d, some e, some f, some u, some v, none, none] 7 4 #[L, { pc := 81, count := 0, began := some pos, outer := none }] (some 1) (F2 :: F1 :: fr) 30 pos ((sn.add 23).add 18) none) := .one rfl (by kernel_rfl)
  have g3 := st_lit (t := t) (pos := pos) (mk := #[some a, some b, some c, some d, some e, some f, some u, some v, none, none]) (lm := 7) (li := 4) (lps := #[L, { pc := 81, count := 0, began := some pos, outer := none }]) (inn := some 1) (fr := F2 :: F1 :: fr) (wt := 30) (hd := pos) (sn := (sn.add 23).add 18) (pc := 85) (c := 43) rfl rfl (by decide) h
  have g4 : Go 1 (St t 87 (pos + 1) #[some a, some b, some c, some d, some e, some f, some u, some v, none, none] 7 4 #[L, { pc := 81, count := 0, began := some pos, outer := none }] (some 1) (F2 :: F1 :: fr) 30 pos (((sn.add 23).add 18).add 16) none) (St t 89 (pos + 1) #[some a, some b, some c, some d, some e, some f, some u, some v, some (pos + 1), none] 8 4 #[L, { pc := 81, count := 0, began := some pos, outer := none }] (some 1) (F2 :: F1 :: fr) 30 pos ((((sn.add 23).add 18).add 16).add 17) none) := .one rfl (by kernel_rfl)
  obtain ⟨F3, s5, g5, q5⟩ := st_run89 (mk := #[some a, some b, some c, some d, some e, some f, some u, some v, some (pos + 1), none]) (lm := 8) (li := 4) (lps := #[L, { pc := 81, count := 0, began := some pos, outer := none }]) (inn := some 1) (fr := F2 :: F1 :: fr) (wt := 30) (hd := pos) (sn := (((sn.add 23).add 18).add 16).add 17) h2 hc h1 (by omega) he (by show 40 ≤ _; decide)
  have g6 : Go 1 (St t 106 (pos + 1 + ws.length) #[some a, some b, some c, some d, some e, some f, some u, some v, some (pos + 1), none] 8 4 #[L, { pc := 81, count := 0, began := some pos, outer := none }] (some 1) (F3 :: F2 :: F1 :: fr) 40 (pos + 1 + ws.length) s5 none) (St t 108 (pos + 1 + ws.length) #[some a, some b, some c, some d, some e, some f, some u, some v, some (pos + 1), some (pos + 1 + ws.length)] 9 5 #[L, { pc := 81, count := 0, began := some pos, outer := none }] (some 1) (F3 :: F2 :: F1 :: fr) 40 (pos + 1 + ws.length) (s5.add 17) none) := .one rfl (by kernel_rfl)
  have g7 : Go 1 (St t 108 (pos + 1 + ws.length) #[some a, some b, some c, some d, some e, some f, some u, some v, some (pos + 1), some (pos + 1 + ws.length)] 9 5 #[L, { pc := 81, count := 0, began := some pos, outer := none }] (some 1) (F3 :: F2 :: F1 :: fr) 40 (pos + 1 + ws.length) (s5.add 17) none) (St t 109 (pos + 1 + ws.length) #[some a, some b, some c, some d, some e, some f, some u, some v, some (pos + 1), some (pos + 1 + ws.length)] 9 5 #[L, { pc := 81, count := 0, began := some pos, outer := none }] none (F4 :: F3 :: F2 :: F1 :: fr) 41 (pos + 1 + ws.length) ((s5.add 17).add 18) none) := .one rfl (by kernel_rfl)
  exact ⟨_, _, _, _, g1.trans (g2.trans (g3.trans (g4.trans (g5.trans (g6.trans g7))))), .cons trivial (.cons q5 (.cons trivial (.cons trivial P))), rfl⟩
theorem gA_no {a b c d e f : Nat} {L : Loop} {rest : List Nat} (h : At t pos rest) (hr : rest.headD 0 ≠ 43) {k : Nat} (P : Pass k fr) :
    ∃ fr' hd' sn' LS, Go 4 (St t 81 pos #[some a, some b, some c, some d, some e, some f, none, none, none, none] 5 3 #[L] none fr 5 hd sn none) (St t 109 pos #[some a, some b, some c, some d, some e, some f, none, none, none, none] 5 3 LS none fr' 7 hd' sn' none) ∧ Pass (k + 2) fr' := by
  let F1 : Sre.Frame := { wait := .closeLoop, pc := 81, pos := pos, outermost := true, loop := 1 }
  let F2 : Sre.Frame := { wait := .maxMore, pc := 109, pos := pos, outermost := true, loop := 1, count := 0, began := none, kept := ⟨5, 3, true, #[some a, some b, some c, some d, some e, some f]⟩ }
  let F4 : Sre.Frame := { wait := .maxTail, pc := 109, pos := pos, outermost := true, loop := 1, count := 0, kept := ⟨5, 3, false, #[]⟩ }
  obtain ⟨s3, g3⟩ := st_litno (t := t) (pos := pos) (mk := #[some a, some b, some c, some d, some e, some f, none, none, none, none]) (lm := 5) (li := 3) (lps := #[L, { pc := 81, count := 0, began := some pos, outer := none }]) (inn := some 1) (fr := F2 :: F1 :: fr) (wt := 13) (hd := pos) (sn := (sn.add 23).add 18) (pc := 85) (c := 43) rfl rfl (by decide) h hr
  have g1 : Go 1 (St t 81 pos #[some a, some b, some c, some d, some e, some f, none, none, none, none] 5 3 #[L] none fr 5 hd sn none) (St t 108 pos #[some a, some b, some c, some d, some e, some f, none, none, none, none] 5 3 #[L, { pc := 81, outer := none }] (some 1) (F1 :: fr) 6 pos (sn.add 23) none) := .one rfl (by kernel_rfl)
  have g2 : Go 1 (St t 108 pos #[some a, some b, some c, some d, some e, some f, none, none, none, none] 5 3 #[L, { pc := 81, outer := none }] (some 1) (F1 :: fr) 6 pos (sn.add 23) none) (St t 85 pos #[some a, some b, some c, some d, some e, some f, none, none, none, none] 5 3 #[L, { pc := 81, count := 0, began := some pos, outer := none }] (some 1) (F2 :: F1 :: fr) 13 pos ((sn.add 23).add 18) none) := .one rfl (by kernel_rfl)
  have g4 : Go 1 (St t 85 pos #[some a, some b, some c, some d, some e, some f, none, none, none, none] 5 3 #[L, { pc := 81, count := 0, began := some pos, outer := none }] (some 1) (F2 :: F1 :: fr) 13 pos s3 (some false)) (St t 109 pos #[some a, some b, some c, some d, some e, some f, none, none, none, none] 5 3 #[L, { pc := 81, count := -1, began := none, outer := none }] none (F4 :: F1 :: fr) 7 pos s3 none) := .one rfl (by kernel_rfl)
  exact ⟨_, _, _, _, g1.trans (g2.trans (g3.trans g4)), .cons trivial (.cons trivial P)⟩
theorem gB_no {a b c d e f u v : Nat} {L : Loop} {rest : List Nat} (h : At t pos rest) (hr : rest.headD 0 ≠ 43) {k : Nat} (P : Pass k fr) :
    ∃ fr' hd' sn' LS, Go 4 (St t 81 pos #[some a, some b, some c, some d, some e, some f, some u, some v, none, none] 7 4 #[L] none fr 20 hd sn none) (St t 109 pos #[some a, some b, some c, some d, some e, some f, some u, some v, none, none] 7 4 LS none fr' 22 hd' sn' none) ∧ Pass (k + 2) fr' := by
  let F1 : Sre.Frame := { wait := .closeLoop, pc := 81, pos := pos, outermost := true, loop := 1 }
  let F2 : Sre.Frame := { wait := .maxMore, pc := 109, pos := pos, outermost := true, loop := 1, count := 0, began := none, kept := ⟨7, 4, true, #[some a, some b, some c, some d, some e, some f, some u, some v]⟩ }
  let F4 : Sre.Frame := { wait := .maxTail, pc := 109, pos := pos, outermost := true, loop := 1, count := 0, kept := ⟨7, 4, false, #[]⟩ }
  obtain ⟨s3, g3⟩ := st_litno (t := t) (pos := pos) (mk := #[some a, some b, some c, some d, some e, some f, some u, some v, none, none]) (lm := 7) (li := 4) (lps := #[L, { pc := 81, count := 0, began := some pos, outer := none }]) (inn := some 1) (fr := F2 :: F1 :: fr) (wt := 30) (hd := pos) (sn := (sn.add 23).add 18) (pc := 85) (c := 43) rfl rfl (by decide) h hr
  have g1 : Go 1 (St t 81 pos #[some a, some b, some c, some d, some e, some f, some u, some v, none, none] 7 4 #[L] none fr 20 hd sn none) (St t 108 pos #[some a, some b, some c, some d, some e, some f, some u, some v, none, none] 7 4 #[L, { pc := 81, outer := none }] (some 1) (F1 :: fr) 21 pos (sn.add 23) none) := .one rfl (by kernel_rfl)
  have g2 : Go 1 (St t 108 pos #[some a, some b, some c, some d, some e, some f, some u, some v, none, none] 7 4 #[L, { pc := 81, outer := none }] (some 1) (F1 :: fr) 21 pos (sn.add 23) none) (St t 85 pos #[some a, some b, some c, some d, some e, some f, some u, some v, none, none] 7 4 #[L, { pc := 81, count := 0, began := some pos, outer := none }] (some 1) (F2 :: F1 :: fr) 30 pos ((sn.add 23).add 18) none) := .one rfl (by kernel_rfl)
  have g4 : Go 1 (St t 85 pos #[some a, some b, some c, some d, some e, some f, some u, some v, none, none] 7 4 #[L, { pc := 81, count := 0, began := some pos, outer := none }] (some 1) (F2 :: F1 :: fr) 30 pos s3 (some false)) (St t 109 pos #[some a, some b, some c, some d, some e, some f, some u, some v, none, none] 7 4 #[L, { pc := 81, count := -1, began := none, outer := none }] none (F4 :: F1 :: fr) 22 pos s3 none) := .one rfl (by kernel_rfl)
  exact ⟨_, _, _, _, g1.trans (g2.trans (g3.trans g4)), .cons trivial (.cons trivial P)⟩
noncomputable def atK (m : M) : Except String Bool → M
  | .error why => m.stick why
  | .ok yes => let m := { m with seen := m.seen.add (43 + m.word 1) }; if yes then { m with pc := m.pc + 2 } else m.say false
theorem end_go (h : At t pos []) : ∃ sn', Go 2 (St t 109 pos mk lm li lps inn fr wt hd sn none) (St t 111 pos mk lm li lps inn fr wt pos sn' (some true)) := by
  have e := h.end_
  refine ⟨((sn.add 6).add 48).add 1, Go.trans (m' := St t 111 pos mk lm li lps inn fr wt hd ((sn.add 6).add 48) none) (.one rfl ?_) (.one rfl (by kernel_rfl))⟩
  have a : (St t 109 pos mk lm li lps inn fr wt hd (sn.add 6) none).isAt 5 = .ok true := by
    show Except.ok (pos == t.size || _) = _
    rw [e]; simp
  have b : (St t 109 pos mk lm li lps inn fr wt hd sn none).step = atK (St t 109 pos mk lm li lps inn fr wt hd (sn.add 6) none) ((St t 109 pos mk lm li lps inn fr wt hd (sn.add 6) none).isAt 5) := rfl
  rw [b, a]
  rfl
structure Same (m m' : M) : Prop where
  marks : m'.marks = m.marks
  lm : m'.lastmark = m.lastmark
  li : m'.lastindex = m.lastindex
  start : m'.start = m.start
  handed : m'.handed = m.handed
theorem unwind0 {m : M} (hf : m.frames = []) (ha : m.answer = some true) (ho : m.outcome = none) : m.step.outcome = some .matched ∧ Same m m.step := by
  cases m
  cases hf
  cases ha
  cases ho
  exact ⟨rfl, ⟨rfl, rfl, rfl, rfl, rfl⟩⟩
theorem unwind1 {m : M} {f : Sre.Frame} {fr : List Sre.Frame} (hf : m.frames = f :: fr) (ha : m.answer = some true) (ho : m.outcome = none) (hw : passing f) : m.step.frames = fr ∧ m.step.answer = some true ∧ m.step.outcome = none ∧ Same m m.step := by
  cases m
  cases hf
  cases ha
  cases ho
  cases f with
  | mk w =>
    unfold passing at hw
    cases w <;> first | exact ⟨rfl, rfl, rfl, ⟨rfl, rfl, rfl, rfl, rfl⟩⟩ | exact absurd hw (by simp)
theorem Same.trans {m m' m'' : M} (S : Same m' m'') (s : Same m m') : Same m m'' := ⟨S.marks.trans s.marks, S.lm.trans s.lm, S.li.trans s.li, S.start.trans s.start, S.handed.trans s.handed⟩
theorem unwind : ∀ (fr : List Sre.Frame) (m : M), m.frames = fr → (∀ f ∈ fr, passing f) → m.answer = some true → m.outcome = none → ∃ m', Go (fr.length + 1) m m' ∧ m'.outcome = some .matched ∧ Same m m' := by
  intro fr
  induction fr with
  | nil =>
    intro m hf _ ha ho
    exact ⟨_, .one ho rfl, unwind0 hf ha ho⟩
  | cons f fr ih =>
    intro m hf hp ha ho
    have s := unwind1 hf ha ho (hp f List.mem_cons_self)
    obtain ⟨m', g, o, S⟩ := ih m.step s.1 (fun x hx => hp x (List.mem_cons_of_mem _ hx)) s.2.1 s.2.2.1
    have := Go.trans (Go.one ho rfl) g
    rw [Nat.add_comm] at this
    exact ⟨m', this, o, S.trans s.2.2.2⟩
end
end
section
section
open PySem.F
theorem plainAttrs_pat : PlainAttrs "re.Pattern" :=
  ⟨⟨"object.__getattribute__", by rw [typeLookup_type, builtinLookup_eq_fast]; kernel_rfl, canon_object_ga⟩, by rw [typeLookup_type, builtinLookup_eq_fast]; kernel_rfl⟩
theorem slot_pat_match : Slot "re.Pattern" "match" "re.Pattern.match" :=
  .of (owner := "re.Pattern") (n := "match") (by rw [typeLookup_type, builtinLookup_eq_fast]; kernel_rfl) (by decide +kernel) (by decide +kernel) (by decide +kernel)
    (.inr (by decide +kernel)) (by rw [isSubtype_type]; kernel_rfl)
theorem type_pat_match : typeOf (.builtin "re.Pattern.match") = pure (.type "method_descriptor") := by show builtinType _ = _; rw [builtinType_eq_fast]; kernel_rfl
theorem entry_pat_match : entryFor table "re.Pattern.match" = some Builtin.«re.Pattern.match» := entryFor_of_tree (by kernel_rfl)
theorem plainAttrs_mat : PlainAttrs "re.Match" :=
  ⟨⟨"object.__getattribute__", by rw [typeLookup_type, builtinLookup_eq_fast]; kernel_rfl, canon_object_ga⟩, by rw [typeLookup_type, builtinLookup_eq_fast]; kernel_rfl⟩
theorem slot_mat_groups : Slot "re.Match" "groups" "re.Match.groups" :=
  .of (owner := "re.Match") (n := "groups") (by rw [typeLookup_type, builtinLookup_eq_fast]; kernel_rfl) (by decide +kernel) (by decide +kernel) (by decide +kernel)
    (.inr (by decide +kernel)) (by rw [isSubtype_type]; kernel_rfl)
theorem type_mat_groups : typeOf (.builtin "re.Match.groups") = pure (.type "method_descriptor") := by show builtinType _ = _; rw [builtinType_eq_fast]; kernel_rfl
theorem entry_mat_groups : entryFor table "re.Match.groups" = some Builtin.«re.Match.groups» := entryFor_of_tree (by kernel_rfl)
theorem mat_nobool : typeLookup (.type "re.Match") "__bool__" = pure none := by rw [typeLookup_type, builtinLookup_eq_fast]; kernel_rfl
theorem mat_nolen : typeLookup (.type "re.Match") "__len__" = pure none := by rw [typeLookup_type, builtinLookup_eq_fast]; kernel_rfl
theorem owner_pat : Manifest.owners.lookup (String.ofList ['n', 'r', 'e', 't', 't', 'a', 'P', '.', 'e', 'r'].reverse) = some Manifest.sig_re_Pattern := by kernel_rfl
theorem owner_mat : Manifest.owners.lookup (String.ofList ['h', 'c', 't', 'a', 'M', '.', 'e', 'r'].reverse) = some Manifest.sig_re_Match := by kernel_rfl
theorem args_pat_match (a b : Value) : argsOk "re.Pattern.match" ⟨[a, b], []⟩ := by
  unfold argsOk
  rw [signature?_of (id := "re.Pattern.match") (n := ['h', 'c', 't', 'a', 'm']) (o := ['n', 'r', 'e', 't', 't', 'a', 'P', '.', 'e', 'r']) (by kernel_rfl) owner_pat]; kernel_rfl
theorem args_mat_groups (a : Value) : argsOk "re.Match.groups" ⟨[a], []⟩ := by
  unfold argsOk
  rw [signature?_of (id := "re.Match.groups") (n := ['s', 'p', 'u', 'o', 'r', 'g']) (o := ['h', 'c', 't', 'a', 'M', '.', 'e', 'r']) (by kernel_rfl) owner_mat]; kernel_rfl
end
end
section
section
open PySem.Sre PySem.Sre.M PySem.Builtin.Re
variable {prog : Program} {w : World} {A : Around} {E : Value → Shared → Prop} {s : Shared}
theorem drive {m' : M} (ho : m'.outcome.isSome = true) {Q : M → Shared → Prop} (hq : Q m' s) : ∀ (k n : Nat) (m : M), runFor n m = m' → n ≤ 4 * k → wpAny (model prog w) A (reDrive (k + 1) m) Q E s
  | k, n, m, h, hn => by
    rw [reDrive]
    by_cases hi : (runFor reTurnSteps m).outcome.isSome = true
    · rw [if_pos hi]
      have e : runFor reTurnSteps m = m' := by
        rcases Nat.le_total n 4 with h4 | h4
        · have : runFor 4 m = runFor (n + (4 - n)) m := by congr 1; omega
          rw [reTurnSteps, this, runFor_add, h, runFor_done ho]
        · have : runFor n m = runFor (4 + (n - 4)) m := by congr 1; omega
          rw [this, runFor_add] at h
          rw [reTurnSteps] at hi ⊢
          rw [runFor_done hi] at h
          exact h
      rw [e]
      exact wpAny_pure hq
    · rw [if_neg hi]
      refine wpAny_bind (wpAny_rule ?_)
      have h4 : 4 < n := by
        refine Nat.lt_of_not_le fun h4 => hi ?_
        have : runFor 4 m = runFor (n + (4 - n)) m := by congr 1; omega
        rw [reTurnSteps, this, runFor_add, h, runFor_done ho]; exact ho
      obtain ⟨k', rfl⟩ : ∃ k', k = k' + 1 := ⟨k - 1, by omega⟩
      refine drive ho hq k' (n - 4) _ ?_ (by omega)
      have : runFor n m = runFor (4 + (n - 4)) m := by congr 1; omega
      rw [this, runFor_add] at h
      exact h
theorem names_said {m : M} : ∀ (l : List Nat) {Q : PUnit → Shared → Prop}, Q ⟨⟩ s → wpAny (model prog w) A (forIn l PUnit.unit fun i (_ : PUnit) => do
    if m.seen.has i = true then rule (Sre.names.getD i "")
    pure (ForInStep.yield PUnit.unit)) Q E s
  | [], _, h => by rw [List.forIn_nil]; exact wpAny_pure h
  | i :: l, _, h => by
    rw [List.forIn_cons]
    refine wpAny_bind ?_
    split
    · exact wpAny_bind (wpAny_rule (wpAny_pure (names_said l h)))
    · exact wpAny_pure (names_said l h)
theorem run_end {m m' : M} {n : Nat} (h : Go n m m') (ho : m'.outcome = some .matched) (hn : n ≤ 1000) {Q : Option M → Shared → Prop} (hq : Q (some m') s) : wpAny (model prog w) A (reRunToEnd m) Q E s := by
  obtain ⟨k, hk, e⟩ := h
  unfold reRunToEnd
  refine wpAny_bind ?_
  have hp : (2 : Nat) ^ 64 = (2 ^ 64 - 1) + 1 := by decide
  rw [hp]
  refine drive (m' := m') (by rw [ho]; rfl) ?_ (2 ^ 64 - 1) k m e (by omega)
  refine wpAny_bind (names_said _ ?_)
  rw [ho]
  exact wpAny_pure hq
/-- what the machine's last state says of the groups, as a match bears it -/
noncomputable def spansOf (groups : Nat) (m : M) : List Value := (List.range groups).flatMap fun g =>
    match if ((2 * g + 1 : Nat) : Int) ≤ m.lastmark then (m.marks.getD (2 * g) none, m.marks.getD (2 * g + 1) none) else (none, none) with
    | (some b, some e) => [rawInt b, rawInt e]
    | _ => [rawInt (-1), rawInt (-1)]
noncomputable def spansBad (groups : Nat) (m : M) : Bool := (List.range groups).any (fun g => match m.marks.getD (2 * g) none, m.marks.getD (2 * g + 1) none with | some b, some e => ((2 * g + 1 : Nat) : Int) ≤ m.lastmark && e < b | _, _ => false)
/-- what pattern 53 finds in a text -/
structure Finds (T : Str) (spans : List Int) : Prop where
  it : ∃ m n, Go n (Sre.forMatch C53 T.cps 5 0 T.cps.size false false) m ∧ n ≤ 1000 ∧ m.outcome = some .matched ∧ spansBad 5 m = false ∧ (rawInt m.start :: rawInt m.handed :: spansOf 5 m) = spans.map rawInt
/-- a match object -/
noncomputable abbrev matO (T : Str) (t : Tok) (lim li : Int) (D : Addr) : Obj := { cls := .type "re.Match", data := .fields #[.str T t, .ref 53, rawInt 0, rawInt lim, rawInt li, .ref D] }
theorem forMatch_eq (T : Str) : Sre.forMatch C53 T.cps 5 0 T.cps.size false false = Sre.forMatch C53 T.cps 5 0 T.cps.size false false := rfl
theorem named1 (v : Value) : reNamed "re.Pattern.match" "match" ["string", "pos", "endpos"] 1 [v] [] = pure [some v, none, none] := rfl
theorem pat_target {o53 o52 : Obj} {T : Str} {t : Tok} {p1 p2 p3 p4 : Value} {xs : Array Value} {n : Nat} (h53 : s.heap.get? 53 = some o53) (h52 : s.heap.get? 52 = some o52)
    (d53 : o53.data = .fields #[p1, p2, .int 5 0, p3, p4, .ref 52, .int 0 0]) (d52 : o52.data = .seq xs n) (hx : Array.map (fun x => x.toNat) (Array.map reRawOf xs) = C53) (hT : T.length ≤ 100000) {Q : ReTarget → Shared → Prop}
    (h : Q { pattern := .ref 53, string := .str T t, code := C53, text := T.cps, kind := 0, groups := 5, pos := 0, lim := T.cps.size } s) :
    wpAny (model prog w) A (reTarget "re.Pattern.match" "match" ⟨[.ref 53, .str T t], []⟩) Q E s := by
  unfold reTarget
  simp only [named1]
  refine wpAny_bind (wpAny_pure ?_)
  refine wpAny_bind (wpAny_pure ?_)
  refine wpAny_bind (wpAny_pure ?_)
  refine wpAny_bind (wpAny_fieldsOf h53 d53 ?_)
  have ht : ∀ {Q' : Array Nat × Nat → Shared → Prop}, Q' (T.cps, 0) s → wpAny (model prog w) A (reTextOf (.str T t)) Q' E s := fun h => wpAny_bind (m := asStr? (.str T t)) (wpAny_pure (wpAny_pure h))
  refine wpAny_bind (ht ?_)
  show wpAny (model prog w) A (if (false = true) then _ else if (false = true) then _ else (reNoCollectionInside (.str T t) 0 >>= fun _ => reRawItems (.ref 52) >>= fun l => pure _)) Q E s
  rw [if_neg Bool.false_ne_true, if_neg Bool.false_ne_true]
  refine wpAny_bind (m := reNoCollectionInside (.str T t) 0) (wpAny_pure ?_)
  refine wpAny_bind (m := reRawItems (.ref 52)) ?_
  unfold reRawItems
  refine wpAny_bind (wpAny_seqItems h52 d52 (wpAny_pure ?_))
  refine wpAny_pure ?_
  have e1 : Array.map (fun x => x.toNat) (Array.map reRawOf (Option.getD (some xs) #[])) = C53 := hx
  have e2 : min (2 ^ 63 - 1 : Int).toNat T.cps.size = T.cps.size := Nat.min_eq_right (Nat.le_trans hT (by decide))
  have e3 : min (Int.toNat 0) T.cps.size = 0 := Nat.zero_min _
  rw [e1]
  show Q { pattern := .ref 53, string := .str T t, code := C53, text := T.cps, kind := 0, groups := 5, pos := min (Int.toNat 0) T.cps.size, lim := min (2 ^ 63 - 1 : Int).toNat T.cps.size } s
  rw [e2, e3]
  exact h
theorem h53 (w : World) : ∃ p1 p2 p3 p4, (Mine.fr.heap_1 w.params).lookup 53 = some { cls := .type "re.Pattern", data := .fields #[p1, p2, .int 5 0, p3, p4, .ref 52, .int 0 0] } := ⟨_, _, _, _, rfl⟩
theorem h52 (w : World) : ∃ xs n, (Mine.fr.heap_1 w.params).lookup 52 = some { cls := .type "tuple", data := .seq xs n } ∧ Array.map (fun x => x.toNat) (Array.map reRawOf xs) = C53 := ⟨_, _, rfl, by simp only [List.map_toArray]; exact congrArg List.toArray (by kernel_rfl)⟩
section
variable {h₀ : Heap} {L : Addr} {m₁ : Str → Option Value} {news : List (Addr × Obj)}
theorem new_match {T : Str} {t : Tok} {spans : List Int} {mm : M} (hb : spansBad 5 mm = false) (hs : (rawInt mm.start :: rawInt mm.handed :: spansOf 5 mm) = spans.map rawInt) (hl : spans.length ≤ 1000) {Q : Value → Shared → Prop}
    (F : Fr h₀ L s.heap m₁) (N : News h₀ L s.heap news)
    (h : ∀ M D h' li lim, Fr h₀ L h' m₁ → News h₀ L h' ((M, matO T t lim li D) :: (D, tupO (spans.map rawInt)) :: news) → (∀ b o, s.heap.get? b = some o → h'.get? b = some o) → (s.heap.get? M = none ∧ s.heap.get? D = none) → Q (.ref M) { s with heap := h' }) :
    wpAny (model prog w) A (reNewMatch (.ref 53) (.str T t) 5 0 T.cps.size mm) Q E s := by
  unfold reNewMatch
  show wpAny (model prog w) A (if spansBad 5 mm = true then _ else (newTuple (rawInt mm.start :: rawInt mm.handed :: spansOf 5 mm) >>= fun v => newFields "re.Match" [.str T t, .ref 53, rawInt ((0 : Nat) : Int), rawInt T.cps.size, rawInt mm.lastindex, v])) Q E s
  rw [hb, if_neg Bool.false_ne_true, hs]
  refine wpAny_bind (newTuple_NK F N (fun h' F' N' K => ?_) (by rw [List.length_map]; exact Nat.le_trans hl (by rw [sizeLine_eq]; decide)))
  have nn : ∀ {h'' : Heap}, (∀ b o, s.heap.get? b = some o → h''.get? b = some o) → s.heap.get? h''.objs.size = none := by
    intro h'' K
    cases e : s.heap.get? h''.objs.size with
    | none => rfl
    | some o => exact absurd (Heap.lt_size (K _ _ e)) (Nat.lt_irrefl _)
  refine wpAny_newObj_type (h _ _ _ _ _ (F'.push _) (N'.push F' _) (fun b o e => Heap.get?_push_of_some _ (K _ _ e)) ⟨nn K, nn fun _ _ e => e⟩) ?_
  show (6 : Nat) ≤ sizeLine + 2
  rw [sizeLine_eq]; decide
/-- Pattern.match of a text that pattern 53 takes -/
theorem pat_match {T : Str} {t : Tok} {spans : List Int} (X : (Mine.fr.heap_1 w.params).In h₀) (FD : Finds T spans) (hT : T.length ≤ 100000) (hl : spans.length ≤ 1000) {Q : Value → Shared → Prop}
    (F : Fr h₀ L s.heap m₁) (N : News h₀ L s.heap news)
    (h : ∀ M D h' li lim, Fr h₀ L h' m₁ → News h₀ L h' ((M, matO T t lim li D) :: (D, tupO (spans.map rawInt)) :: news) → (∀ b o, s.heap.get? b = some o → h'.get? b = some o) → (s.heap.get? M = none ∧ s.heap.get? D = none) → Q (.ref M) { s with heap := h' }) :
    wpAny (model prog w) A (call (.builtin "re.Pattern.match") [.ref 53, .str T t]) Q E s := by
  obtain ⟨p1, p2, p3, p4, e53⟩ := h53 w
  obtain ⟨xs, n, e52, hx⟩ := h52 w
  have a53 := (X.keeps F.keep) _ _ e53
  have a52 := (X.keeps F.keep) _ _ e52
  refine wpAny_call_entry slot_pat_match ⟨_, a53, rfl⟩ entry_pat_match ?_ (args_pat_match _ _)
  unfold Builtin.«re.Pattern.match»
  refine wpAny_bind (pat_target a53 a52 rfl rfl hx hT ?_)
  obtain ⟨mm, n, g, hn, ho, hb, hs⟩ := FD.it
  unfold reAnswer
  refine wpAny_bind (run_end g ho hn ?_)
  refine wpAny_bind (new_match hb hs hl F N (fun M D h' li lim F' N' K nn => ?_))
  exact wpAny_pure ⟨_, rfl, h M D h' li lim F' N' K nn⟩
end
end
end
section
section
open PySem.Sre PySem.Sre.M PySem.Builtin.Re
/-- the values of a match's groups -/
inductive GrpAre : List Value → List (Option Str) → Prop
  | nil : GrpAre [] []
  | no {vs gs} : GrpAre vs gs → GrpAre (.none :: vs) (Option.none :: gs)
  | yes {vs gs} (S : Str) (t : Tok) : GrpAre vs gs → GrpAre (.str S t :: vs) (some S :: gs)
noncomputable def Grp (T : Str) (spans : List Int) (g : Nat) : Option Str → Prop
  | none => spans.getD (2 * g) (-1) < 0
  | some S => ∃ b e : Nat, spans.getD (2 * g) (-1) = b ∧ spans.getD (2 * g + 1) (-1) = e ∧ (⟨T.cps.extract b e⟩ : Str) = S
variable {prog : Program} {w : World} {A : Around} {E : Value → Shared → Prop} {s : Shared}
theorem grp_text {T S : Str} {t : Tok} {spans : List Int} {fs : Array Value} {g : Nat} {r : Option Str} {Q : Value → Shared → Prop} (hT : T.length ≤ 100000) (hf : fs.getD 0 .none = .str T t) (G : Grp T spans g r)
    (h0 : r = none → Q .none s) (h1 : ∀ S, r = some S → Q (.str S s.toks) { s with toks := s.toks + 1 }) : wpAny (model prog w) A (reGroupText ⟨fs, spans.toArray⟩ g .none) Q E s := by
  unfold reGroupText
  have gd : ∀ k, spans.toArray.getD k (-1) = spans.getD k (-1) := by intro k; simp [Array.getD_eq_getD_getElem?, List.getD_eq_getElem?_getD]
  dsimp only
  rw [gd, gd]
  cases r with
  | none =>
    have : decide (spans.getD (2 * g) (-1) < 0) = true := decide_eq_true G
    rw [if_pos (by rw [this]; rfl)]
    exact wpAny_pure (h0 rfl)
  | some S =>
    obtain ⟨b, e, hb, he, hS⟩ := G
    rw [hb, he, if_neg (by simp), hf]
    have ht : ∀ {Q' : Array Nat × Nat → Shared → Prop}, Q' (T.cps, 0) s → wpAny (model prog w) A (reTextOf (.str T t)) Q' E s := fun h => wpAny_bind (m := asStr? (.str T t)) (wpAny_pure (wpAny_pure h))
    refine wpAny_bind (ht ?_)
    show wpAny (model prog w) A (mkStr ⟨T.cps.extract b e⟩) Q E s
    refine wpAny_mkStr ?_ ?_
    · rw [hS]; exact h1 S rfl
    · show (T.cps.extract b e).size ≤ sizeLine
      have : (T.cps.extract b e).size ≤ T.cps.size := by simp; omega
      exact Nat.le_trans this (Nat.le_trans hT (by rw [sizeLine_eq]; decide))
theorem grp_map {T : Str} {t : Tok} {spans : List Int} {fs : Array Value} (hT : T.length ≤ 100000) (hf : fs.getD 0 .none = .str T t)  (E : Value → Shared → Prop) : ∀ (l : List Nat) (gs : List (Option Str)) (s : Shared) (Q : List Value → Shared → Prop),
    (∀ (i : Nat) (g : Nat), l[i]? = some g → ∃ r, gs[i]? = some r ∧ Grp T spans (g + 1) r) → l.length = gs.length → (∀ vs tk, GrpAre vs gs → Q vs { s with toks := tk }) → wpAny (model prog w) A (l.mapM fun g => reGroupText ⟨fs, spans.toArray⟩ (g + 1) .none) Q E s
  | [], gs, s, Q, h, hl, k => by
    have : gs = [] := List.length_eq_zero_iff.mp hl.symm
    subst this
    rw [List.mapM_nil]
    exact wpAny_pure (k [] s.toks .nil)
  | g :: l, [], s, Q, h, hl, k => by simp at hl
  | g :: l, r :: gs, s, Q, h, hl, k => by
    rw [List.mapM_cons]
    obtain ⟨r', er, G⟩ := h 0 g rfl
    have er' : r = r' := by simpa using er
    subst er'
    refine wpAny_bind (grp_text (S := Str.empty) hT hf G (fun e => ?_) (fun S e => ?_))
    · subst e
      exact wpAny_bind (grp_map hT hf E l gs s _ (fun i g hg => h (i + 1) g (by simpa using hg)) (by simpa using hl) fun vs tk hv => wpAny_pure (k _ tk (.no hv)))
    · subst e
      exact wpAny_bind (grp_map hT hf E l gs _ _ (fun i g hg => h (i + 1) g (by simpa using hg)) (by simpa using hl) fun vs tk hv => wpAny_pure (k _ tk (.yes S _ hv)))
variable {h₀ : Heap} {L : Addr} {m₁ : Str → Option Value} {news : List (Addr × Obj)}
theorem mat_groups {T : Str} {t : Tok} {M D : Addr} {li lim : Int} {spans : List Int} {g1 g2 g3 g4 g5 : Option Str} (hT : T.length ≤ 100000) {Q : Value → Shared → Prop} (F : Fr h₀ L s.heap m₁) (N : News h₀ L s.heap news)
    (hM : (M, matO T t lim li D) ∈ news) (hD : (D, tupO (spans.map rawInt)) ∈ news) (hl : spans.length = 12) (G1 : Grp T spans 1 g1) (G2 : Grp T spans 2 g2) (G3 : Grp T spans 3 g3) (G4 : Grp T spans 4 g4) (G5 : Grp T spans 5 g5)
    (h : ∀ R h' tk vs, GrpAre vs [g1, g2, g3, g4, g5] → Fr h₀ L h' m₁ → News h₀ L h' ((R, tupO vs) :: news) → (∀ b o, s.heap.get? b = some o → h'.get? b = some o) → s.heap.get? R = none → Q (.ref R) { s with heap := h', toks := tk }) :
    wpAny (model prog w) A (call (.builtin "re.Match.groups") [.ref M]) Q E s := by
  refine wpAny_call_entry slot_mat_groups ⟨_, (N _ hM).1, rfl⟩ entry_mat_groups ?_ (args_mat_groups _)
  unfold Builtin.«re.Match.groups»
  have hr : wpAny (model prog w) A.in1 (reWithDefault "re.Match.groups" "groups" ⟨[.ref M], []⟩) (fun r s' => s' = s ∧ r = (⟨#[.str T t, .ref 53, rawInt 0, rawInt lim, rawInt li, .ref D], spans.toArray⟩, Value.none)) E s := by
    unfold reWithDefault
    have e : reNamed "re.Match.groups" "groups" ["default"] 0 [] [] = pure [none] := rfl
    simp only [e]
    refine wpAny_bind (wpAny_pure ?_)
    unfold reFound
    refine wpAny_bind (wpAny_bind (wpAny_fieldsOf (N _ hM).1 rfl ?_))
    refine wpAny_bind (m := reRawItems (.ref D)) ?_
    unfold reRawItems
    refine wpAny_bind (wpAny_seqItems (N _ hD).1 rfl (wpAny_pure ?_))
    refine wpAny_pure (wpAny_pure ⟨rfl, ?_⟩)
    have e : Array.map reRawOf (spans.map rawInt).toArray = spans.toArray := by
      apply Array.toList_inj.mp
      rw [Array.toList_map, List.map_map]
      show List.map _ _ = spans
      exact List.map_id'' (fun _ => rfl) _
    show (_, _) = _
    rw [show Option.getD (some (spans.map rawInt).toArray) #[] = (spans.map rawInt).toArray from rfl, e]
    rfl
  refine wpAny_bind (wpAny_mono hr (fun r s' hr => ?_) fun _ _ x => x)
  obtain ⟨rfl, rfl⟩ := hr
  dsimp only
  rw [show spans.toArray.size = 12 from by simpa using hl]
  refine wpAny_bind (grp_map (T := T) (t := t) (spans := spans) hT rfl _ [0, 1, 2, 3, 4] [g1, g2, g3, g4, g5] s' _ ?_ rfl fun vs tk hv => ?_)
  · intro i g hg
    match i, hg with
    | 0, hg => cases hg; exact ⟨_, rfl, G1⟩
    | 1, hg => cases hg; exact ⟨_, rfl, G2⟩
    | 2, hg => cases hg; exact ⟨_, rfl, G3⟩
    | 3, hg => cases hg; exact ⟨_, rfl, G4⟩
    | 4, hg => cases hg; exact ⟨_, rfl, G5⟩
  · have lv : ∀ {vs gs}, GrpAre vs gs → vs.length = gs.length := by
      intro vs gs h; induction h <;> simp [*]
    refine wpAny_bind (newTuple_NK (s := { s' with toks := tk }) F N (fun h' F' N' K => ?_) (by rw [lv hv, sizeLine_eq]; exact Nat.le_of_ble_eq_true rfl))
    refine wpAny_pure ⟨_, rfl, h _ h' tk vs hv F' N' K ?_⟩
    cases e : s'.heap.get? s'.heap.objs.size with
    | none => rfl
    | some o => exact absurd (Heap.lt_size e) (Nat.lt_irrefl _)
end
end
section
section
open PySem.Sre PySem.Sre.M PySem.Builtin.Re
theorem dec_list {a : Int} (h : 0 ≤ a) : (dec a).cps.toList = (Nat.toDigits 10 a.toNat).map Char.toNat := by
  obtain ⟨m, rfl⟩ := Int.eq_ofNat_of_zero_le h
  exact KIN.signs_num m
theorem dec_digit {a : Int} (h : Fit a) : ∀ c ∈ (dec a).cps.toList, 48 ≤ c ∧ c ≤ 57 := by
  intro c hc
  rw [dec_list h.lo] at hc
  obtain ⟨ch, hch, rfl⟩ := List.mem_map.mp hc
  exact digit_range (Nat.isDigit_of_mem_toDigits (by decide) (by decide) hch)
theorem dig_is : ∀ c, 48 ≤ c → c ≤ 57 → Unicode.isDecimal c = true := by
  have k : ∀ i : Fin 10, Unicode.isDecimal (48 + i.val) = true := by decide +kernel
  intro c h1 h2
  have := k ⟨c - 48, by omega⟩
  rwa [show 48 + (c - 48) = c from by omega] at this
theorem dec_is {a : Int} (h : Fit a) : ∀ c ∈ (dec a).cps.toList, Unicode.isDecimal c = true := fun c hc => dig_is c (dec_digit h c hc).1 (dec_digit h c hc).2
theorem dec_len {a : Int} (h : Fit a) : (dec a).cps.toList.length ≤ 100 := by
  have := h.len
  rw [Array.length_toList]
  exact Nat.le_trans this (by decide)
theorem dec_some {a : Int} (h : Fit a) : (dec a).cps.toList ≠ [] := by
  rw [dec_list h.lo]
  intro e
  have := Nat.length_toDigits_pos (b := 10) (n := a.toNat)
  rw [List.map_eq_nil_iff.mp e] at this
  exact absurd this (by decide)
theorem dec_reads {a : Int} (h : Fit a) : PySem.intText? (dec a) = some a := by
  have e := intText_digits (x := dec a) (fun c hc => dec_digit h c hc) (dec_some h) (Nat.le_trans h.len (by decide))
  rw [dec_list h.lo, KIN.val_back] at e
  rw [e]
  exact congrArg some (Int.toNat_of_nonneg h.lo)
theorem digits_head : ∀ m : Nat, (Nat.toDigits 10 m).head? = some '0' → m = 0 := by
  intro m
  induction m using Nat.strongRecOn with
  | _ m ih =>
    intro h
    by_cases hm : m < 10
    · rw [Nat.toDigits_of_lt_base hm] at h
      have k : ∀ d : Nat, d < 10 → Nat.digitChar d = '0' → d = 0 := by decide
      exact k m hm (by simpa using h)
    · have t : Nat.toDigits 10 (m / 10) ++ Nat.toDigits 10 (m % 10) = Nat.toDigits 10 (10 * (m / 10) + m % 10) := Nat.toDigits_append_toDigits (by decide) (by omega) (Nat.mod_lt m (by decide))
      rw [Nat.div_add_mod] at t
      rw [← t] at h
      have p : Nat.toDigits 10 (m / 10) ≠ [] := fun e => by
        have := Nat.length_toDigits_pos (b := 10) (n := m / 10)
        rw [e] at this; exact absurd this (by decide)
      have q := ih (m / 10) (by omega) (by rw [← h]; cases hh : Nat.toDigits 10 (m / 10) with
        | nil => exact absurd hh p
        | cons x l => rfl)
      omega
theorem dec_zero {a : Int} (h : Fit a) (e : (dec a).cps.toList.headD 0 = 48) : a = 0 := by
  rw [dec_list h.lo] at e
  have p := digits_head a.toNat
  cases hd : Nat.toDigits 10 a.toNat with
  | nil => rw [hd] at e; exact absurd e (by decide)
  | cons c l =>
    rw [hd] at e p
    have hc : c.isDigit = true := Nat.isDigit_of_mem_toDigits (b := 10) (n := a.toNat) (by decide) (by decide) (by rw [hd]; exact List.mem_cons_self)
    have : c = '0' := Char.toNat_inj.mp (by simpa using e)
    have := p (by rw [this]; rfl)
    have := h.lo
    omega
theorem words_in {zp : List Str} (h : Ids zp) (hz : zp ≠ []) : (∀ c ∈ (Txt.join (Str.ofString ".") zp).cps.toList, inWd c = true) ∧ (Txt.join (Str.ofString ".") zp).cps.toList ≠ [] ∧ (Txt.join (Str.ofString ".") zp).cps.toList.length ≤ 1000 := by
  have k1 : ∀ z ∈ Words, (∀ c ∈ (Txt.join (Str.ofString ".") [z]).cps.toList, inWd c = true) ∧ (Txt.join (Str.ofString ".") [z]).cps.toList ≠ [] ∧ (Txt.join (Str.ofString ".") [z]).cps.toList.length ≤ 1000 := by decide +kernel
  have k2 : ∀ z ∈ Words, ∀ y ∈ Words, (∀ c ∈ (Txt.join (Str.ofString ".") [z, y]).cps.toList, inWd c = true) ∧ (Txt.join (Str.ofString ".") [z, y]).cps.toList ≠ [] ∧ (Txt.join (Str.ofString ".") [z, y]).cps.toList.length ≤ 1000 := by decide +kernel
  obtain ⟨h1, h2⟩ := h
  match zp, h1, h2 with
  | [], _, _ => exact absurd rfl hz
  | [x], _, h2 => exact k1 x (h2 x (by simp))
  | [x, y], _, h2 => exact k2 x (h2 x (by simp)) y (h2 y (by simp))
/-- a group of words as the pattern tells it -/
noncomputable def grpOf (zp : List Str) : Option Str := if zp = [] then none else some (Txt.join (Str.ofString ".") zp)
/-- a part of a version's text -/
noncomputable def partOf (c : Nat) (zp : List Str) : List Nat := if zp = [] then [] else c :: (Txt.join (Str.ofString ".") zp).cps.toList
theorem cps_app (x y : Str) : (x ++ y).cps.toList = x.cps.toList ++ y.cps.toList := by
  show (x.cps ++ y.cps).toList = _
  rw [Array.toList_append]
theorem sep_cps : (Str.ofString ".").cps.toList = [46] ∧ (Str.ofString "-").cps.toList = [45] ∧ (Str.ofString "+").cps.toList = [43] := by decide +kernel
theorem ver_list (a b c : Int) (zp yp : List Str) : (verText a b c zp yp).cps.toList = (dec a).cps.toList ++ 46 :: ((dec b).cps.toList ++ 46 :: ((dec c).cps.toList ++ (partOf 45 zp ++ partOf 43 yp))) := by
  unfold verText partOf
  by_cases hz : zp = [] <;> by_cases hy : yp = [] <;> (simp [hz, hy, cps_app, sep_cps]; rfl)
theorem in43 : inWd 43 = false := by decide +kernel
theorem str_back (x : Str) : (⟨x.cps.toList.toArray⟩ : Str) = x := by
  cases x; simp
theorem grp_at {T S : Str} {spans : List Int} {g pos : Nat} {rest : List Nat} (h : At T.cps pos (S.cps.toList ++ rest)) (hb : spans.getD (2 * g) (-1) = (pos : Int)) (he : spans.getD (2 * g + 1) (-1) = ((pos + S.cps.toList.length : Nat) : Int)) : Grp T spans g (some S) :=
  ⟨pos, pos + S.cps.toList.length, hb, he, by rw [h.cut, str_back]⟩
end
section
open PySem.Sre PySem.Sre.M PySem.Builtin.Re
noncomputable abbrev M0 (t : Array Nat) : M := St t 5 0 #[none, none, none, none, none, none, none, none, none, none] (-1) (-1) #[] none [] 0 0 (({} : Sre.Seen).add 14) none
theorem start_eq {t : Array Nat} (h : 5 ≤ t.size) : Sre.forMatch C53 t 5 0 t.size false false = M0 t := by
  show (if ((5 : Nat) != 0 && decide (0 ≤ t.size) && decide (t.size - 0 < 5)) = true then _ else M0 t) = M0 t
  rw [if_neg]
  simp; omega
theorem fin_of {t : Array Nat} {pos wt hd n k : Nat} {mk : Mks} {lm li : Int} {lps : Array Loop} {fr : List Sre.Frame} {sn : Sre.Seen} (h5 : 5 ≤ t.size) (g : Go n (M0 t) (St t 109 pos mk lm li lps none fr wt hd sn none)) (h : At t pos []) (P : Pass k fr) (hn : n + k ≤ 900) :
    ∃ m j, Go j (Sre.forMatch C53 t 5 0 t.size false false) m ∧ j ≤ 1000 ∧ m.outcome = some .matched ∧ m.marks = mk ∧ m.lastmark = lm ∧ m.start = 0 ∧ m.handed = pos := by
  obtain ⟨sn', g2⟩ := end_go (mk := mk) (lm := lm) (li := li) (lps := lps) (inn := none) (fr := fr) (wt := wt) (hd := hd) (sn := sn) h
  obtain ⟨m, g3, o, S⟩ := unwind fr (St t 111 pos mk lm li lps none fr wt pos sn' (some true)) rfl P.1 rfl rfl
  refine ⟨m, _, (start_eq h5) ▸ (g.trans (g2.trans g3)), ?_, o, S.marks, S.lm, S.start, S.handed⟩
  have := P.2
  omega
theorem one_arr {α : Type} {a : Array α} (h : a.size = 1) : ∃ x, a = #[x] := by
  rcases a with ⟨l⟩
  match l, h with
  | [x], _ => exact ⟨x, rfl⟩
theorem bad_of {m : M} (h : ∀ g, g < 5 → ∀ b e, m.marks.getD (2 * g) none = some b → m.marks.getD (2 * g + 1) none = some e → b ≤ e) : spansBad 5 m = false := by
  unfold spansBad
  rw [List.any_eq_false]
  intro g hg
  have hg := List.mem_range.mp hg
  cases h1 : m.marks.getD (2 * g) none with
  | none => simp
  | some b =>
    cases h2 : m.marks.getD (2 * g + 1) none with
    | none => simp
    | some e => have := h g hg b e h1 h2; simp; omega
noncomputable def Ok2 (x y : Option Nat) : Prop := ∀ b e, x = some b → y = some e → b ≤ e
theorem ok_le {b e : Nat} (h : b ≤ e) : Ok2 (some b) (some e) := fun _ _ h1 h2 => by cases h1; cases h2; exact h
theorem ok_none {y : Option Nat} : Ok2 none y := fun _ _ h => nomatch h
theorem bad_mk {m : M} {a0 a1 a2 a3 a4 a5 a6 a7 a8 a9 : Option Nat} (e : m.marks = #[a0, a1, a2, a3, a4, a5, a6, a7, a8, a9]) (o0 : Ok2 a0 a1) (o1 : Ok2 a2 a3) (o2 : Ok2 a4 a5) (o3 : Ok2 a6 a7) (o4 : Ok2 a8 a9) : spansBad 5 m = false := by
  refine bad_of ?_
  rw [e]
  intro g hg b x hb he
  match g, hg with
  | 0, _ => exact o0 b x hb he
  | 1, _ => exact o1 b x hb he
  | 2, _ => exact o2 b x hb he
  | 3, _ => exact o3 b x hb he
  | 4, _ => exact o4 b x hb he
/-- what the pattern finds in a text -/
noncomputable def FG (T x y z : Str) (g4 g5 : Option Str) : Prop := ∃ spans, Finds T spans ∧ spans.length = 12 ∧ Grp T spans 1 (some x) ∧ Grp T spans 2 (some y) ∧ Grp T spans 3 (some z) ∧ Grp T spans 4 g4 ∧ Grp T spans 5 g5
theorem finds0 {a b c : Int} {zp yp : List Str} (ha : Fit a) (hb : Fit b) (hc : Fit c) (hz : Ids zp) (hy : Ids yp) : FG (verText a b c zp yp) (dec a) (dec b) (dec c) (grpOf zp) (grpOf yp) := by
  have e := ver_list a b c zp yp
  generalize verText a b c zp yp = T at e ⊢
  have h : At T.cps 0 ((dec a).cps.toList ++ 46 :: ((dec b).cps.toList ++ 46 :: ((dec c).cps.toList ++ (partOf 45 zp ++ partOf 43 yp)))) := ⟨[], e, rfl⟩
  have la := List.length_pos_iff.mpr (dec_some ha)
  have lb := List.length_pos_iff.mpr (dec_some hb)
  have lc := List.length_pos_iff.mpr (dec_some hc)
  have h5 : 5 ≤ T.cps.size := by
    have := h.room
    simp only [List.length_append, List.length_cons] at this
    omega
  have hrest : (partOf 45 zp ++ partOf 43 yp) = [] ∨ Unicode.isDecimal ((partOf 45 zp ++ partOf 43 yp).headD 0) = false := by
    unfold partOf
    by_cases q1 : zp = [] <;> by_cases q2 : yp = [] <;> simp [q1, q2, dec_no]
  obtain ⟨fr0, hd0, sn0, g0, P0⟩ := pre_go (sn := ({} : Sre.Seen).add 14) h (dec_is ha) (dec_is hb) (dec_is hc) (dec_some ha) (dec_some hb) (dec_some hc) (dec_len ha) (dec_len hb) (dec_len hc) hrest
  have h1 := h.next
  have h2 := h1.next1
  have h3 := h2.next
  have h4 := h3.next1
  have h6 := h4.next
  generalize hp1 : 0 + (dec a).cps.toList.length = p1 at *
  generalize hp3 : p1 + 1 + (dec b).cps.toList.length = p3 at *
  generalize hp5 : p3 + 1 + (dec c).cps.toList.length = p5 at *
  have fin : ∀ {mk : Mks} {lm li : Int} {lps : Array Loop} {fr : List Sre.Frame} {wt hd pos n k : Nat} {sn : Sre.Seen} (spans : List Int), Go n (M0 T.cps) (St T.cps 109 pos mk lm li lps none fr wt hd sn none) → At T.cps pos [] → Pass k fr → n + k ≤ 900 →
      (∀ m : M, m.marks = mk → m.lastmark = lm → m.start = 0 → m.handed = pos → spansBad 5 m = false ∧ (rawInt m.start :: rawInt m.handed :: spansOf 5 m) = spans.map rawInt) → Finds T spans := by
    intro mk lm li lps fr wt hd pos n k sn spans g h P hn hm
    obtain ⟨m, j, gj, hj, o, e1, e2, e3, e4⟩ := fin_of h5 g h P hn
    exact ⟨m, j, gj, hj, o, hm m e1 e2 e3 e4⟩
  by_cases q1 : zp = []
  · have z1 : partOf 45 zp = [] := by rw [partOf, if_pos q1]
    have z2 : grpOf zp = none := by rw [grpOf, if_pos q1]
    rw [z1, List.nil_append] at h6
    rw [z2]
    have hr : (partOf 43 yp).headD 0 ≠ 45 := by
      unfold partOf; by_cases q2 : yp = [] <;> simp [q2]
    obtain ⟨fr1, hd1, sn1, L, g1, P1⟩ := g1_no (hd := hd0) (sn := sn0) h6 hr P0
    by_cases q2 : yp = []
    · have y1 : partOf 43 yp = [] := by rw [partOf, if_pos q2]
      have y2 : grpOf yp = none := by rw [grpOf, if_pos q2]
      rw [y1] at h6
      rw [y2]
      obtain ⟨fr2, hd2, sn2, LS, g2, P2⟩ := gA_no (L := L) (hd := hd1) (sn := sn1) h6 (by decide) P1
      unfold FG
      refine ⟨[0, p5, 0, p1, (p1 + 1 : Nat), p3, (p3 + 1 : Nat), p5, -1, -1, -1, -1], fin _ (g0.trans (g1.trans g2)) h6 P2 (by decide) ?_, rfl, ?_, ?_, ?_, ?_, ?_⟩
      · intro m e1 e2 e3 e4
        refine ⟨bad_mk e1 (ok_le (Nat.zero_le _)) (ok_le (Nat.le.intro hp3)) (ok_le (Nat.le.intro hp5)) ok_none ok_none, ?_⟩
        rw [e3, e4]; unfold spansOf; rw [e1, e2]; rfl
      · exact grp_at h rfl (by subst hp1; rfl)
      · exact grp_at h2 rfl (by subst hp3; rfl)
      · exact grp_at h4 rfl (by subst hp5; rfl)
      · show (-1 : Int) < 0; decide
      · show (-1 : Int) < 0; decide
    · have y1 : partOf 43 yp = 43 :: (Txt.join (Str.ofString ".") yp).cps.toList := by rw [partOf, if_neg q2]
      have y2 : grpOf yp = some (Txt.join (Str.ofString ".") yp) := by rw [grpOf, if_neg q2]
      obtain ⟨v1, v2, v3⟩ := words_in hy q2
      rw [y1] at h6
      rw [y2]
      have h7 := h6.next1
      have h8 : At T.cps (p5 + 1) ((Txt.join (Str.ofString ".") yp).cps.toList ++ []) := by rw [List.append_nil]; exact h7
      have h9 := h8.next
      have h6' : At T.cps p5 (43 :: ((Txt.join (Str.ofString ".") yp).cps.toList ++ [])) := by rw [List.append_nil]; exact h6
      obtain ⟨fr2, hd2, sn2, LS, g2, P2, _⟩ := gA_yes (a := 0) (b := p1) (c := p1 + 1) (d := p3) (e := p3 + 1) (f := p5) (L := L) (hd := hd1) (sn := sn1) h6' v1 v2 v3 (Or.inl rfl) P1
      generalize hpe : p5 + 1 + (Txt.join (Str.ofString ".") yp).cps.toList.length = pe at *
      unfold FG
      refine ⟨[0, pe, 0, p1, (p1 + 1 : Nat), p3, (p3 + 1 : Nat), p5, -1, -1, (p5 + 1 : Nat), pe], fin _ (g0.trans (g1.trans g2)) h9 P2 (by decide) ?_, rfl, ?_, ?_, ?_, ?_, ?_⟩
      · intro m e1 e2 e3 e4
        refine ⟨bad_mk e1 (ok_le (Nat.zero_le _)) (ok_le (Nat.le.intro hp3)) (ok_le (Nat.le.intro hp5)) ok_none (ok_le (Nat.le.intro hpe)), ?_⟩
        rw [e3, e4]; unfold spansOf; rw [e1, e2]; rfl
      · exact grp_at h rfl (by subst hp1; rfl)
      · exact grp_at h2 rfl (by subst hp3; rfl)
      · exact grp_at h4 rfl (by subst hp5; rfl)
      · show (-1 : Int) < 0; decide
      · exact grp_at h8 rfl (by subst hpe; rfl)
  · have z1 : partOf 45 zp = 45 :: (Txt.join (Str.ofString ".") zp).cps.toList := by rw [partOf, if_neg q1]
    have z2 : grpOf zp = some (Txt.join (Str.ofString ".") zp) := by rw [grpOf, if_neg q1]
    obtain ⟨u1, u2, u3⟩ := words_in hz q1
    rw [z1, List.cons_append] at h6
    rw [z2]
    have hr : partOf 43 yp = [] ∨ inWd ((partOf 43 yp).headD 0) = false := by
      unfold partOf; by_cases q2 : yp = [] <;> simp [q2, in43]
    obtain ⟨fr1, hd1, sn1, LS, g1, P1, hLS⟩ := g1_yes (hd := hd0) (sn := sn0) h6 u1 u2 u3 hr P0
    obtain ⟨L, rfl⟩ := one_arr hLS
    have k7 := h6.next1
    have k8 := k7.next
    generalize hpd : p5 + 1 + (Txt.join (Str.ofString ".") zp).cps.toList.length = pd at *
    by_cases q2 : yp = []
    · have y1 : partOf 43 yp = [] := by rw [partOf, if_pos q2]
      have y2 : grpOf yp = none := by rw [grpOf, if_pos q2]
      rw [y1] at k8
      rw [y2]
      obtain ⟨fr2, hd2, sn2, LS, g2, P2⟩ := gB_no (L := L) (hd := hd1) (sn := sn1) k8 (by decide) P1
      unfold FG
      refine ⟨[0, pd, 0, p1, (p1 + 1 : Nat), p3, (p3 + 1 : Nat), p5, (p5 + 1 : Nat), pd, -1, -1], fin _ (g0.trans (g1.trans g2)) k8 P2 (by decide) ?_, rfl, ?_, ?_, ?_, ?_, ?_⟩
      · intro m e1 e2 e3 e4
        refine ⟨bad_mk e1 (ok_le (Nat.zero_le _)) (ok_le (Nat.le.intro hp3)) (ok_le (Nat.le.intro hp5)) (ok_le (Nat.le.intro hpd)) ok_none, ?_⟩
        rw [e3, e4]; unfold spansOf; rw [e1, e2]; rfl
      · exact grp_at h rfl (by subst hp1; rfl)
      · exact grp_at h2 rfl (by subst hp3; rfl)
      · exact grp_at h4 rfl (by subst hp5; rfl)
      · exact grp_at k7 rfl (by subst hpd; rfl)
      · show (-1 : Int) < 0; decide
    · have y1 : partOf 43 yp = 43 :: (Txt.join (Str.ofString ".") yp).cps.toList := by rw [partOf, if_neg q2]
      have y2 : grpOf yp = some (Txt.join (Str.ofString ".") yp) := by rw [grpOf, if_neg q2]
      obtain ⟨v1, v2, v3⟩ := words_in hy q2
      rw [y1] at k8
      rw [y2]
      have h7 := k8.next1
      have h8 : At T.cps (pd + 1) ((Txt.join (Str.ofString ".") yp).cps.toList ++ []) := by rw [List.append_nil]; exact h7
      have h9 := h8.next
      have k8' : At T.cps pd (43 :: ((Txt.join (Str.ofString ".") yp).cps.toList ++ [])) := by rw [List.append_nil]; exact k8
      obtain ⟨fr2, hd2, sn2, LS, g2, P2, _⟩ := gB_yes (a := 0) (b := p1) (c := p1 + 1) (d := p3) (e := p3 + 1) (f := p5) (u := p5 + 1) (v := pd) (L := L) (hd := hd1) (sn := sn1) k8' v1 v2 v3 (Or.inl rfl) P1
      generalize hpe : pd + 1 + (Txt.join (Str.ofString ".") yp).cps.toList.length = pe at *
      unfold FG
      refine ⟨[0, pe, 0, p1, (p1 + 1 : Nat), p3, (p3 + 1 : Nat), p5, (p5 + 1 : Nat), pd, (pd + 1 : Nat), pe], fin _ (g0.trans (g1.trans g2)) h9 P2 (by decide) ?_, rfl, ?_, ?_, ?_, ?_, ?_⟩
      · intro m e1 e2 e3 e4
        refine ⟨bad_mk e1 (ok_le (Nat.zero_le _)) (ok_le (Nat.le.intro hp3)) (ok_le (Nat.le.intro hp5)) (ok_le (Nat.le.intro hpd)) (ok_le (Nat.le.intro hpe)), ?_⟩
        rw [e3, e4]; unfold spansOf; rw [e1, e2]; rfl
      · exact grp_at h rfl (by subst hp1; rfl)
      · exact grp_at h2 rfl (by subst hp3; rfl)
      · exact grp_at h4 rfl (by subst hp5; rfl)
      · exact grp_at k7 rfl (by subst hpd; rfl)
      · exact grp_at h8 rfl (by subst hpe; rfl)
end
theorem finds {a b c : Int} {zp yp : List Str} (ha : Fit a) (hb : Fit b) (hc : Fit c) (hz : Ids zp) (hy : Ids yp) :
    ∃ spans, Finds (verText a b c zp yp) spans ∧ spans.length = 12 ∧ Grp (verText a b c zp yp) spans 1 (some (dec a)) ∧ Grp (verText a b c zp yp) spans 2 (some (dec b)) ∧ Grp (verText a b c zp yp) spans 3 (some (dec c)) ∧ Grp (verText a b c zp yp) spans 4 (grpOf zp) ∧ Grp (verText a b c zp yp) spans 5 (grpOf yp) := finds0 ha hb hc hz hy
end
section
section
variable {prog : Program} {w : World} {A : Around} {E : Value → Shared → Prop} {s : Shared} {h₀ : Heap} {L : Addr} {m₁ : Str → Option Value} {news : List (Addr × Obj)}
theorem pat_meth {pl : Sem Bool} {Q : Value × List Value → Shared → Prop} (X : (Mine.fr.heap_1 w.params).In h₀) (F : Fr h₀ L s.heap m₁) (h : Q (.builtin "re.Pattern.match", [.ref 53]) s) : wpAny (model prog w) A (getMethod (.ref 53) (Str.ofString "match") pl) Q E s := by
  obtain ⟨p1, p2, p3, p4, e53⟩ := h53 w
  have a53 := (X.keeps F.keep) _ _ e53
  exact getMethod_builtin ⟨_, a53, rfl⟩ plainAttrs_pat slot_pat_match type_pat_match (fun a e => by cases e; exact ⟨_, a53, rfl⟩) h
theorem mat_meth {M D : Addr} {T : Str} {t : Tok} {lim li : Int} {pl : Sem Bool} {Q : Value × List Value → Shared → Prop} (N : News h₀ L s.heap news) (hm : (M, matO T t lim li D) ∈ news) (h : Q (.builtin "re.Match.groups", [.ref M]) s) : wpAny (model prog w) A (getMethod (.ref M) (Str.ofString "groups") pl) Q E s :=
  getMethod_builtin ⟨_, (N _ hm).1, rfl⟩ plainAttrs_mat slot_mat_groups type_mat_groups (fun a e => by cases e; exact ⟨_, (N _ hm).1, rfl⟩) h
theorem mat_truthy {M D : Addr} {T : Str} {t : Tok} {lim li : Int} {Q : Bool → Shared → Prop} (N : News h₀ L s.heap news) (hm : (M, matO T t lim li D) ∈ news) (h : Q true s) : wpAny (model prog w) A (truthy (.ref M)) Q E s := by
  have hT : s.TypeIs (.ref M) "re.Match" := ⟨_, (N _ hm).1, rfl⟩
  unfold truthy
  refine wpAny_bind (wpAny_callSpecial?_none (name := Str.ofString "__bool__") hT mat_nobool ?_)
  refine wpAny_bind (wpAny_specialOf (name := Str.ofString "__len__") hT mat_nolen ?_)
  exact wpAny_pure h
/-- what is told of a version's text -/
structure Told (T : Str) (a b c : Int) (zp yp : List Str) : Prop where
  it : T = verText a b c zp yp
  len : T.length ≤ 100000
  pos : 0 < T.length
  fa : Fit a
  fb : Fit b
  fc : Fit c
  iz : Ids zp
  iy : Ids yp
theorem told {a b c : Int} {zp yp : List Str} (ha : Fit a) (hb : Fit b) (hc : Fit c) (hz : Ids zp) (hy : Ids yp) : Told (verText a b c zp yp) a b c zp yp := by
  have e := ver_list a b c zp yp
  have l : (verText a b c zp yp).length = (verText a b c zp yp).cps.toList.length := (Array.length_toList).symm
  refine ⟨rfl, ?_, ?_, ha, hb, hc, hz, hy⟩
  · rw [l, e]
    have := dec_len ha; have := dec_len hb; have := dec_len hc
    have p : ∀ {k : Nat} {zs : List Str}, Ids zs → (partOf k zs).length ≤ 1001 := by
      intro k zs h
      unfold partOf
      by_cases q : zs = []
      · simp [q]
      · rw [if_neg q, List.length_cons]; have := (words_in h q).2.2; omega
    have := p (k := 45) hz; have := p (k := 43) hy
    simp only [List.length_append, List.length_cons]; omega
  · rw [l, e]; simp only [List.length_append, List.length_cons]; omega
theorem told_match {T : Str} {t : Tok} {a b c : Int} {zp yp : List Str} (X : (Mine.fr.heap_1 w.params).In h₀) (H : Told T a b c zp yp) {Q : Value → Shared → Prop} (F : Fr h₀ L s.heap m₁) (N : News h₀ L s.heap news)
    (h : ∀ M D h' li lim spans, spans.length = 12 → Grp T spans 1 (some (dec a)) → Grp T spans 2 (some (dec b)) → Grp T spans 3 (some (dec c)) → Grp T spans 4 (grpOf zp) → Grp T spans 5 (grpOf yp) → Fr h₀ L h' m₁ → News h₀ L h' ((M, matO T t lim li D) :: (D, tupO (spans.map rawInt)) :: news) → (∀ p ∈ news, p.1 ≠ M ∧ p.1 ≠ D) → Q (.ref M) { s with heap := h' }) :
    wpAny (model prog w) A (call (.builtin "re.Pattern.match") [.ref 53, .str T t]) Q E s := by
  obtain ⟨spans, FD, l12, G1, G2, G3, G4, G5⟩ := finds H.fa H.fb H.fc H.iz H.iy
  rw [← H.it] at FD G1 G2 G3 G4 G5
  refine pat_match X FD H.len (by omega) F N fun M D h' li lim F' N' K nn => h M D h' li lim spans l12 G1 G2 G3 G4 G5 F' N' fun p hp => ⟨fun e => ?_, fun e => ?_⟩
  · have := (N p hp).1; rw [e, nn.1] at this; cases this
  · have := (N p hp).1; rw [e, nn.2] at this; cases this
theorem join_some {zp : List Str} (q : zp ≠ []) (hz : Ids zp) : (Txt.join (Str.ofString ".") zp == Str.ofString "") = false := by
  rw [beq_eq_false_iff_ne]
  intro e
  have := (words_in hz q).2.1
  rw [e] at this
  exact this (by decide +kernel)
/-- an optional group's value -/
inductive OptIs (zp : List Str) : Value → Prop
  | no : zp = [] → OptIs zp .none
  | yes (t : Tok) : zp ≠ [] → (Ids zp → (Txt.join (Str.ofString ".") zp == Str.ofString "") = false) → OptIs zp (.str (Txt.join (Str.ofString ".") zp) t)
theorem grp_yes {vs : List Value} {x : Str} {gs : List (Option Str)} (h : GrpAre vs (some x :: gs)) : ∃ t vs', vs = .str x t :: vs' ∧ GrpAre vs' gs := by
  cases h with
  | yes _ t h => exact ⟨t, _, rfl, h⟩
theorem grp_opt {vs : List Value} {zp : List Str} {gs : List (Option Str)} (h : GrpAre vs (grpOf zp :: gs)) : ∃ v vs', vs = v :: vs' ∧ OptIs zp v ∧ GrpAre vs' gs := by
  unfold grpOf at h
  by_cases q : zp = []
  · rw [if_pos q] at h; cases h with | no h => exact ⟨_, _, rfl, .no q, h⟩
  · rw [if_neg q] at h; cases h with | yes S t h => exact ⟨_, _, rfl, .yes t q (join_some q), h⟩
theorem grp_nil {vs : List Value} (h : GrpAre vs []) : vs = [] := by cases h; rfl
theorem grp_five {vs : List Value} {x y z : Str} {zp yp : List Str} (h : GrpAre vs [some x, some y, some z, grpOf zp, grpOf yp]) : ∃ t1 t2 t3 v4 v5, vs = [.str x t1, .str y t2, .str z t3, v4, v5] ∧ OptIs zp v4 ∧ OptIs yp v5 := by
  obtain ⟨t1, w1, e1, h1⟩ := grp_yes h
  obtain ⟨t2, w2, e2, h2⟩ := grp_yes h1
  obtain ⟨t3, w3, e3, h3⟩ := grp_yes h2
  obtain ⟨v4, w4, e4, o4, h4⟩ := grp_opt h3
  obtain ⟨v5, w5, e5, o5, h5⟩ := grp_opt h4
  have e6 := grp_nil h5
  exact ⟨t1, t2, t3, v4, v5, by rw [e1, e2, e3, e4, e5, e6], o4, o5⟩
theorem told_groups {T : Str} {t : Tok} {a b c : Int} {zp yp : List Str} {M D : Addr} {li lim : Int} {spans : List Int} (H : Told T a b c zp yp) {Q : Value → Shared → Prop} (F : Fr h₀ L s.heap m₁) (N : News h₀ L s.heap news)
    (hM : (M, matO T t lim li D) ∈ news) (hD : (D, tupO (spans.map rawInt)) ∈ news) (hl : spans.length = 12) (G1 : Grp T spans 1 (some (dec a))) (G2 : Grp T spans 2 (some (dec b))) (G3 : Grp T spans 3 (some (dec c))) (G4 : Grp T spans 4 (grpOf zp)) (G5 : Grp T spans 5 (grpOf yp))
    (h : ∀ R h' tk t1 t2 t3 v4 v5, OptIs zp v4 → OptIs yp v5 → Fr h₀ L h' m₁ → News h₀ L h' ((R, tupO [.str (dec a) t1, .str (dec b) t2, .str (dec c) t3, v4, v5]) :: news) → (∀ p ∈ news, p.1 ≠ R) → Q (.ref R) { s with heap := h', toks := tk }) :
    wpAny (model prog w) A (call (.builtin "re.Match.groups") [.ref M]) Q E s := by
  refine mat_groups H.len F N hM hD hl G1 G2 G3 G4 G5 fun R h' tk vs g F' N' K nn => ?_
  obtain ⟨t1, t2, t3, v4, v5, rfl, o4, o5⟩ := grp_five g
  refine h R h' tk t1 t2 t3 v4 v5 o4 o5 F' N' fun p hp e => ?_
  have := (N p hp).1; rw [e, nn] at this; cases this
theorem split_ids {zp : List Str} {t u : Tok} (hz : Ids zp) (hn : zp ≠ []) {Q : Value → Shared → Prop} (F : Fr h₀ L s.heap m₁) (N : News h₀ L s.heap news)
    (h : ∀ D vs h' k, StrsAre vs zp → Fr h₀ L h' m₁ → News h₀ L h' ((D, lstO vs 0) :: news) → (∀ p ∈ news, p.1 < D) → Q (.ref D) { s with heap := h', toks := k }) :
    wpAny (model prog w) A (call (.builtin "str.split") [.str (Txt.join (Str.ofString ".") zp) t, .str (Str.ofString ".") u]) Q E s := by
  have k1 : ∀ z ∈ Words, Txt.split (Txt.join (Str.ofString ".") [z]) (Str.ofString ".") = [z] := by decide +kernel
  have k2 : ∀ z ∈ Words, ∀ y ∈ Words, Txt.split (Txt.join (Str.ofString ".") [z, y]) (Str.ofString ".") = [z, y] := by decide +kernel
  have e : Txt.split (Txt.join (Str.ofString ".") zp) (Str.ofString ".") = zp := by
    obtain ⟨h1, h2⟩ := hz
    match zp, hn, h1, h2 with
    | [x], _, _, h2 => exact k1 x (h2 x (by simp))
    | [x, y], _, _, h2 => exact k2 x (h2 x (by simp)) y (h2 y (by simp))
  refine KSpl.split1 F N (by decide) (fun D l h' k e' a F' N' l1 => ?_) ?_
  · rw [e'] at a
    rw [e] at a
    exact h D _ h' k a F' N' l1
  · have := (ids_join hz).1; rw [sizeLine_eq]; omega
theorem tuple_ids {zp : List Str} {vs : List Value} {D : Addr} {n : Nat} {Q : Value → Shared → Prop} (F : Fr h₀ L s.heap m₁) (N : News h₀ L s.heap news) (hm : (D, lstO vs n) ∈ news) (hx : StrsAre vs zp) (hz : Ids zp)
    (h : ∀ D h', Fr h₀ L h' m₁ → News h₀ L h' ((D, tupO vs) :: news) → (∀ p ∈ news, p.1 < D) → Q (.ref D) { s with heap := h' }) : wpAny (model prog w) A (call (.type "tuple") [.ref D]) Q E s :=
  kde_tupleOf F N (News.isList N hm) (by have := hx.length; have := hz.few; show vs.toArray.size ≤ 16384; rw [List.size_toArray]; omega) rfl h
end
theorem strs_nil {zp : List Str} (h : zp = []) : StrsAre [] zp := h ▸ .nil
/-- what parse gives -/
inductive ParsePost (a b c : Int) (zp yp : List Str) : Value → List (Addr × Obj) → Prop
  | mk (R p q : Addr) (t1 t2 t3 : Tok) (vp vb : List Value) (h1 : StrsAre vp zp) (h2 : StrsAre vb yp) : ParsePost a b c zp yp (.ref R) [(R, tupO [.int a t1, .int b t2, .int c t3, .ref p, .ref q]), (p, tupO vp), (q, tupO vb)]
theorem parse_end {g h' : Heap} {h₀ : Heap} {L L' : Addr} {D p q : Addr} {a b c : Int} {zp yp : List Str} {vp vb : List Value} {t1 t2 t3 : Tok} {ns : List (Addr × Obj)} {R : Result → Shared → Prop} {s : Shared} {tk' : Nat}
    (hret : ∀ r tl h' tk', ParsePost a b c zp yp r tl → (∀ b o, s.heap.get? b = some o → h'.get? b = some o) → (∀ q ∈ tl, s.heap.get? q.1 = none) → News h₀ L h' tl → R (.ok (.ret r)) ⟨h', s.gens, s.drawn, tk', s.os⟩)
    (G0 : ∀ b o, s.heap.get? b = some o → b ∉ ([] : List (Addr × Obj)).map (·.1) → g.get? b = some o) (hK : KeptBut s.heap [] h') (kN : News h₀ L h' ns) (N' : News g L' h' ns)
    (hv : StrsAre vp zp) (hb : StrsAre vb yp) (hm : (D, tupO [.int a t1, .int b t2, .int c t3, .ref p, .ref q]) ∈ ns) (hp : (p, tupO vp) ∈ ns) (hq : (q, tupO vb) ∈ ns) :
    R (.ok (.ret (.ref D))) ⟨h', s.gens, s.drawn, tk', s.os⟩ := by
  have hs : ∀ x ∈ [(D, tupO [.int a t1, .int b t2, .int c t3, .ref p, .ref q]), (p, tupO vp), (q, tupO vb)], x ∈ ns := by
    intro x hx
    simp only [List.mem_cons, List.not_mem_nil, or_false] at hx
    rcases hx with rfl | rfl | rfl <;> assumption
  exact hret _ _ _ _ (.mk D p q t1 t2 t3 vp vb hv hb) (fun b o e => hK b o e (by simp)) (fresh_g G0 (news_sub N' hs) (by simp)) (news_sub kN hs)
theorem dec_lead {a : Int} (h : Fit a) : (Txt.item (dec a) 0 == Str.ofString "0") = true → (dec a != Str.ofString "0") = false := by
  intro e
  have hh : (dec a).cps.toList.headD 0 = 48 := by
    have e' : Txt.item (dec a) 0 = Str.ofString "0" := by simpa using e
    have e2 := congrArg (fun z : Str => z.cps.toList) e'
    have e3 : [(Txt.charAt (dec a) 0).getD 0] = [48] := e2.trans (by decide +kernel)
    have e4 : (Txt.charAt (dec a) 0).getD 0 = 48 := List.head_eq_of_cons_eq e3
    have l : 0 < (dec a).cps.size := by have := List.length_pos_iff.mpr (dec_some h); rwa [Array.length_toList] at this
    have e5 : Txt.charAt (dec a) 0 = (dec a).cps[0]? := by
      unfold Txt.charAt seqIndex?
      have l2 : 0 < (dec a).length := l
      have c : (decide ((0 : Int) ≤ 0) && decide ((0 : Int) < (dec a).length)) = true := by simp; omega
      show (if (decide ((0 : Int) ≤ 0) && decide ((0 : Int) < (dec a).length)) = true then some (Int.toNat 0) else none).bind ((dec a).cps[·]?) = _
      rw [if_pos c]; rfl
    rw [e5] at e4
    cases hl : (dec a).cps.toList with
    | nil => exact absurd hl (dec_some h)
    | cons x r =>
      rw [← Array.getElem?_toList, hl] at e4
      simpa using e4
  have := dec_zero h hh
  subst this
  decide +kernel
end
section
theorem c_lzd (w : World) {a : Int} (tk : Tok) (h : Fit a) : Con w 1 8 (.ref 65) [.str (dec a) tk] [] [] (fun r tl => r = .bool false ∧ tl = []) :=
  c_lz w (dec a) tk (by have := List.length_pos_iff.mpr (dec_some h); rwa [Array.length_toList] at this) (Nat.lt_of_le_of_lt h.len (by decide)) (dec_lead h)
theorem c_cod (w : World) {a : Int} (tk : Tok) (h : Fit a) : Con w 1 8 (.ref 277) [.ref 448, .str (dec a) tk, .bool false] [] [] (fun r tl => (∃ t, r = .int a t) ∧ tl = []) :=
  c_coerce_s w (dec a) tk a (dec_reads h) (Nat.lt_of_le_of_lt h.len (by decide))
theorem truthy_told {prog : Program} {w : World} {A : Around} {E : Value → Shared → Prop} {s : Shared} {T : Str} {t : Tok} {a b c : Int} {zp yp : List Str} {Q : Bool → Shared → Prop} (h : Told T a b c zp yp) (k : Q true { s with toks := s.toks + 1 + 1 }) : wpAny (model prog w) A (truthy (.str T t)) Q E s := by
  refine P.truthy_str (by have := h.len; omega) ?_
  have e : ((T.length : Int) != 0) = true := by have := h.pos; simp; omega
  rw [e]; exact k
theorem int_dec {prog : Program} {w : World} {A : Around} {E : Value → Shared → Prop} {s : Shared} {t : Tok} {a : Int} {Q : Value → Shared → Prop} (ha : Fit a) (h : Q (.int a s.toks) { s with toks := s.toks + 1 }) : wpAny (model prog w) A (call (.type "int") [.str (dec a) t]) Q E s :=
  KIN.call_text (dec_reads ha) (Nat.le_trans ha.len (by decide)) h
theorem ne_all {news : List (Addr × Obj)} {M : Addr} (h : ∀ p ∈ news, p.1 ≠ M) : ∀ p ∈ news, @Ne Nat p.1 M := h
section
theorem kw1_P1 : True := by
  (k_with "+callWith ref" => ((k_here; k_dflt (refine' callWith_MKW ?k19q ?k29q ?k39q ?k49q ?k59q ?_; (case k19q => k_asm); (case k29q => k_asm); (case k39q => k_mem); (case k49q => k_is); (case k59q => exact rfl); k_whole))))
  (k_with "+truthy str" => ((k_here; k_dflt (refine truthy_told (by with_reducible assumption) ?_))))
  (k_with "+truthy ref" => ((k_here; (with_reducible show wpAny _ _ (truthy (Value.ref _)) _ _ _); k_dflt (refine' mat_truthy ?N9q ?m9q ?_; (case N9q => k_asm); (case m9q => k_mem); k_whole))))
  (k_with "+getMethod ref" => ((k_here; k_dflt (first
    | ((with_reducible show wpAny _ _ (getMethod _ (Str.ofString "match") _) _ _ _); refine' pat_meth ?X9q ?F9q ?_; (case X9q => k_asm); (case F9q => k_asm))
    | ((with_reducible show wpAny _ _ (getMethod _ (Str.ofString "groups") _) _ _ _); refine' mat_meth ?N9q ?m9q ?_; (case N9q => k_asm); (case m9q => k_mem))))))
  (k_with "+call builtin:re.Pattern.match" => ((k_here; k_dflt (refine' told_match ?X9q ?H9q ?F9q ?N9q ?_; (case X9q => k_asm); (case H9q => k_asm); (case F9q => k_asm); (case N9q => k_asm)); intro M9 D9 h9 li9 lim9 sp9 l9 ga9 gb9 gc9 gd9 ge9 F9 N9 n9; (try simp only [List.forall_mem_cons] at n9); (try dsimp only))))
  (k_with "+call builtin:re.Match.groups" => ((k_here; k_dflt (refine' told_groups ?H9q ?F9q ?N9q ?hM9q ?hD9q ?hl9q ?G19q ?G29q ?G39q ?G49q ?G59q ?_; (case H9q => k_asm); (case F9q => k_asm); (case N9q => k_asm); (case hM9q => k_mem); (case hD9q => k_mem); (case hl9q => k_asm); (case G19q => k_asm); (case G29q => k_asm); (case G39q => k_asm); (case G49q => k_asm); (case G59q => k_asm)); intro R9 h9 tk9 t19 t29 t39 v49 v59 o49 o59 F9 N9 n9; (try simp only [List.forall_mem_cons] at n9); (try dsimp only))))
  (k_with "+compareOp Is none" => ((k_here; k_dflt (first
    | ((with_reducible show wpAny _ _ (compareOp CmpOp.Is v49 Value.none) _ _ _); rcases o49 with z49 | ⟨t49, z49, y49⟩ <;> (try (have y4 := y49 (by with_reducible assumption))) <;> (try dsimp only))
    | ((with_reducible show wpAny _ _ (compareOp CmpOp.Is v59 Value.none) _ _ _); rcases o59 with z59 | ⟨t59, z59, y59⟩ <;> (try (have y5 := y59 (by with_reducible assumption))) <;> (try dsimp only))))))
  (k_with "+ite" => ((k_here; k_openite; refine ite_isFalse (by with_reducible assumption) ?_; walk_say "PRUNED some")))
  (k_with "+call type:tuple" => ((k_here; k_dflt (refine' tuple_ids ?F9q ?N9q ?m9q ?x9q ?z9q ?_; (case F9q => k_asm); (case N9q => k_asm); (case m9q => k_mem); (case x9q => k_asm); (case z9q => k_asm)); intro D9 h9 F9 N9 l9; (try k_lt l9); (try dsimp only))))
  (k_with "+call type:int" => ((k_here; k_dflt (refine int_dec (by with_reducible assumption) ?_))))
  (k_with "+call builtin:str.split" => ((k_here; k_dflt (refine' split_ids ?hz9q ?hn9q ?F9q ?N9q ?_; (case hz9q => k_asm); (case hn9q => k_asm); (case F9q => k_asm); (case N9q => k_asm)); intro D9 vs9 h9 k9 s9 F9 N9 l9; (try k_lt l9); (try dsimp only))))
  (k_with "@k_enter" => ((refine' Con.useT (c_cod _ _ ?hf9q) ?k19q ?k29q ?k39q ?k49q ?k59q ?kF9q ?kK9q ?kd9q ?ku9q ?ks9q ?_; walk_at "con sides"; (case hf9q => k_asm); k_whole; intro t9 h9 tk9 F9 N9; (try dsimp only))))
  (k_with "@k_enter" => ((refine' Con.use0 (c_lzd _ _ ?hf9q) ?k19q ?k29q ?k39q ?k49q ?k59q ?kF9q ?kK9q ?kd9q ?ku9q ?ks9q ?_; walk_at "con sides"; (case hf9q => k_asm); k_whole; intro h9 tk9 F9 N9; (try dsimp only))))
  (k_with "@k_enter" => ((refine' Con.use0 (c_vid _ _ ?hz9q ?hv9q _) ?k19q ?k29q ?k39q ?k49q ?k59q ?kF9q ?kK9q ?kd9q ?ku9q ?ks9q ?_; walk_at "con sides"; (case hv9q => k_asm); (case hz9q => k_asm); k_whole; intro h9 tk9 F9 N9; (try dsimp only))))
  exact True.intro
set_option maxHeartbeats 4000000 in
theorem c_parse (w : World) {a b c : Int} {t : Tok} {zp yp : List Str} {T : Str} (H : Told T a b c zp yp) (ha : Fit a) (hb : Fit b) (hc : Fit c) (hz : Ids zp) (hy : Ids yp) :
    ConF w 8 80 (.ref 328) [.ref 448, .str T t, .bool false] [] [] (ParsePost a b c zp yp) := by
  unfold ConF
  intro p loose mean mg mb dp un gd env outer A₀ base h₀ L m news s R B F N T hf hk hd hu hsub hret
  k_fill
  intro X
  have N0 := news_sub N hsub
  walk_at "con enter"
  k_steps
  all_goals (unfold KeptEnd; dsimp only; intro hK)
  all_goals (refine parse_end hret (by with_reducible assumption) hK (by with_reducible assumption) (by with_reducible assumption) (by first | with_reducible assumption | exact strs_nil (by with_reducible assumption)) (by first | with_reducible assumption | exact strs_nil (by with_reducible assumption)) (by k_mem) (by k_mem) (by k_mem))
end
theorem kw2_P1 : True := by
  k_with_none
  (k_with "+lt room" => (first | exact lt_r0 (by assumption) (by decide) | exact lt_rc (by assumption) (by decide) | exact lt_rd (by assumption) (by decide) | exact lt_z0 (by assumption)))
  (k_with "@ktr_room" => (walk_at "lt room"))
  (k_with "@ktr_units" => (walk_at "lt room"))
  (k_with "@units_room" => (walk_at "lt room"))
  (k_with "@k_room" => (ktr_room))
  (k_with "+con binds" => (first | exact fm_nilE (by exact rfl) | exact fm_some (by exact rfl) (by walk_at "con binds")))
  (k_with "+con enter" => ((k_dflt (refine' code_keep ?k19q ?k29q ?k39q ?k49q ?k59q ?kA9q ?kF9q ?kK9q ?k69q ?k79q ?k89q ?k99q ?kB9q ?_ ?c29q ?c39q ?c49q ?c59q; (case kA9q => exact rfl); (case kF9q => assumption); (case kK9q => assumption); (case k49q => k_asm); (case k19q => k_asm); (case k29q => k_asm); (case k39q => k_asm); (case k59q => k_asm); (case k69q => k_is); (case k79q => k_is); (case k89q => ktr_room); (case k99q => (refine' binds_to ?b99q ?e99q; (case b99q => first | exact BindsTo.of_eq rfl | exact binds_K (by k_in) rfl (by k_is) rfl rfl rfl | fail "con enter: no rule for these arguments"); (case e99q => first | (walk_at "con binds") | (walk_say "con enter: binds left as they are"; exact rfl)))); (case c59q => decide); (case kB9q => exact locs rfl); (case c29q => exact rfl); (case c39q => exact rfl); (case c49q => exact rfl); k_whole; intro g' L' h' FG' F' N' B' X' T' G0'; (try dsimp only); (try k_fold)))))
  (k_with "+con sub" => (repeat (first | exact sub_nil | refine sub_cons (by k_mem) ?_)))
  (k_with "+ite" => ((k_here; k_openite; with_reducible refine ite_isFalse (bne_self_eq_false _) ?_; walk_say "PRUNED same")))
  (k_with "+con sides" => (((case k39q => k_asm); (case k29q => k_asm); (case k19q => k_asm); (case k49q => k_asm); (case k59q => k_asm); (case kF9q => first | exact rfl | assumption); (case kK9q => first | exact rfl | assumption); (case kd9q => ktr_room); (case ku9q => ktr_units); (case ks9q => walk_at "con sub"))))
  (k_with "+ne close" => (first | assumption | exact Ne.symm (by assumption) | exact Nat.ne_of_lt (by assumption) | exact Nat.ne_of_gt (by assumption) | exact Nat.ne_of_lt (Nat.lt_trans (by assumption) (by assumption)) | exact Nat.ne_of_gt (Nat.lt_trans (by assumption) (by assumption)) | (rename _ ∧ _ => hh9; obtain ⟨_, _⟩ := hh9; walk_at "ne close")))
  (k_with "@k_ne" => ((refine neN ?_; (try dsimp only); with_reducible walk_at "ne close")))
  exact True.intro
end
section
theorem off_three {a b c : Addr} {o1 o2 o3 : Obj} {led : List (Addr × Obj)} (h : ∀ q ∈ ([(a, o1), (b, o2), (c, o3)] : List (Addr × Obj)), q.1 ∉ led.map (·.1)) : ∀ p ∈ led, @Ne Nat p.1 a ∧ @Ne Nat p.1 b ∧ @Ne Nat p.1 c := fun p hp =>
  ⟨fun e => h (a, o1) (by simp) (List.mem_map.mpr ⟨p, hp, e⟩), fun e => h (b, o2) (by simp) (List.mem_map.mpr ⟨p, hp, e⟩), fun e => h (c, o3) (by simp) (List.mem_map.mpr ⟨p, hp, e⟩)⟩
section
theorem kw1_V3 : True := by
  (k_with "@ktr_units" => (first | exact lt_r0 (by assumption) (by decide) | exact lt_rc (by assumption) (by decide) | exact lt_rd (by assumption) (by decide) | exact lt_z0 (by assumption) | (have hcL9 := cLine_is; ((try simp only [units_under_kw, units_in1, units_deeper, Around.mark_units, units_caller] at *); (try dsimp only [ktrTop, topA] at *); omega))))
  (k_with "@k_all" => (with_reducible assumption))
  (k_with "+truthy ref" => ((k_here; (with_reducible show wpAny _ _ (truthy (Value.ref _)) _ _ _); k_dflt (refine' ktl_truthyK ?N9q ?m9q ?z9q ?_; (case N9q => k_asm); (case m9q => k_mem); (case z9q => first | k_asm | exact Nat.le_of_ble_eq_true rfl); k_whole); (try simp only [List.isEmpty_cons, List.isEmpty_nil, Bool.not_false, Bool.not_true]))))
  (k_with "+callWith ref" => ((k_here; k_dflt (refine' callWith_MKW ?k19q ?k29q ?k39q ?k49q ?k59q ?_; (case k19q => k_asm); (case k29q => k_asm); (case k39q => k_mem); (case k49q => k_is); (case k59q => exact rfl); k_whole))))
  (k_with "@k_enter" => ((refine' ConF.use (c_parse _ ?H9q ?ha9q ?hb9q ?hc9q ?hz9q ?hy9q) ?k19q ?k29q ?k39q ?k49q ?k59q ?kF9q ?kK9q ?kd9q ?ku9q ?ks9q ?_; walk_at "con sides"; (case H9q => k_asm); (case ha9q => k_asm); (case hb9q => k_asm); (case hc9q => k_asm); (case hz9q => k_asm); (case hy9q => k_asm); k_whole; intro r9 tl9 h9 tk9 p9; obtain ⟨R9, p8, q8, a1, a2, a3, vp8, vb8, s8, s9⟩ := p9; intro c9 n9 F9 N9; (have d9 := off_three (notin_none (by k_asm) n9)); (simp only [List.forall_mem_cons] at d9); (try simp only [List.cons_append, List.nil_append] at N9); (try dsimp only))))
  (k_with "+execs cons" => ((k_here; (with_reducible show wpAny _ _ (execs (Stmt.Assign [PySem.Expr.Attribute _ (Str.ofString "major") _] _ _ :: _) _) _ _ _); k_dflt (refine' ver_suf _ _ _ _ HPs _ _ _ _ _ _ _ _ _ _ _ _ _ _ _ _ _ _ _ _ _ _ _ _ _ _ _ _ _ _ _ _ _ _ _ _ _ _ _ _ ?B9q ?T9q ?X9q ?hd9q ?hu9q ?F9q ?q19q ?q29q ?q39q ?q49q ?q59q ?q69q ?q79q ?hz9q ?hy9q ?hvp9q ?hvb9q ?ht9q ?hE9q ?d19q ?d29q ?d39q ?d49q ?hn9q ?N9q ?kp9q ?_; (case F9q => k_asm); (case B9q => k_asm); (case T9q => k_asm); (case X9q => k_asm); (case hd9q => ktr_room); (case hu9q => ktr_units); (case q19q => with_unfolding_all rfl); (case q29q => with_unfolding_all rfl); (case q39q => with_unfolding_all rfl); (case q49q => with_unfolding_all rfl); (case q59q => with_unfolding_all rfl); (case q69q => with_unfolding_all rfl); (case q79q => with_unfolding_all rfl); (case N9q => k_asm); (case ht9q => k_asm); (case hE9q => k_asm); (case kp9q => walk_at "con sub"); (case hvp9q => k_asm); (case hvb9q => k_asm); (case hz9q => k_asm); (case hy9q => k_asm); (case d19q => k_ne); (case d29q => k_ne); (case d39q => k_ne); (case d49q => k_ne); (case hn9q => (refine' not4 ?n19q ?n29q ?n39q ?n49q; (case n19q => k_ne); (case n29q => k_ne); (case n39q => k_ne); (case n49q => k_ne)))); intro t9 t8 pk9 acc9 led8 led9 h9 g9 tk9 ps9 m9 k1 k2 k3 k4 k5 k6 k7 k8 n9 ko9 su9 se9 tr9 F9 N9 hn9 b9; (try dsimp only))))
  (k_with "+getMethod ref" => ((k_here; k_dflt (first
    | (refine' kmu_cm ?k19q ?k29q ?k39q ?k49q ?k59q ?k69q ?k79q ?k89q ?k99q ?k109q ?k119q ?k129q ?k139q ?_; (case k19q => k_asm); (case k29q => k_asm); (case k39q => k_asm); (case k49q => k_inst); (case k59q => k_is); (case k69q => k_is); (case k79q => k_is); (case k89q => k_is); (case k99q => k_is); (case k109q => k_is); (case k119q => decide +kernel); (case k129q => k_get); (case k139q => k_is); k_whole; intro q' h' F' N' l1; (try k_lt l1); (try k_sweep))
    | (refine' method_inst ?k19q ?k29q ?k39q ?k49q ?k59q ?k69q ?k79q ?_; (case k19q => k_asm); (case k29q => k_asm); (case k39q => k_inst); (case k49q => k_is); (case k59q => k_is); (case k69q => k_is); (case k79q => k_get); k_whole)))))
  exact True.intro
set_option maxHeartbeats 1000000 in
theorem c_verT (w : World) {a b c : Int} {zp yp : List Str} {T : Str} (t : Tok) (HT : Told T a b c zp yp) (ha : Fit a) (hb : Fit b) (hc : Fit c) (hz : Ids zp) (hy : Ids yp) : ConV w 20 100 (.ref 448) [.str T t] [] [] (fun r tl => ∃ x, r = .ref x ∧ VerObj w.params a b c zp yp x tl) := by
  unfold ConV
  intro p loose mean mg mb dp un gd env outer A₀ base h₀ L m rest ps s R B F N htr hne T hf hk hd hu hsub hret
  k_fill
  intro X
  have HPs := tail5_of (o := (Mine.fr.heap_1 w.params).lookup 269) (by k_is)
  refine make_keepL (fI := 269) F X (by k_is) (by k_is) (by k_is) fun x dx h1 F1 N1 hk1 hlt1 hlt => ?_
  k_lt2 hlt
  have l383 := ltN (hlt1 _ _ (N _ List.mem_cons_self).1)
  have NS : News h₀ L h1 [] := fun q hq => ⟨hk1 _ _ (N q (List.mem_cons_of_mem _ (hsub q hq))).1, (N q (List.mem_cons_of_mem _ (hsub q hq))).2⟩
  have N0 : News h₀ L h1 ((383, tabObj ps) :: (x, instObj 448 dx) :: (dx, dictOf [] 0) :: []) := by
    intro q hq
    rcases List.mem_cons.mp hq with rfl | hq
    · exact ⟨hk1 _ _ (N _ List.mem_cons_self).1, (N _ List.mem_cons_self).2⟩
    rcases List.mem_cons.mp hq with rfl | hq
    · exact N1 _ List.mem_cons_self
    rcases List.mem_cons.mp hq with rfl | hq
    · exact N1 _ (List.mem_cons_of_mem _ List.mem_cons_self)
    exact NS q hq
  have hE : Extra dx [] := ⟨(fun _ h => nomatch h), (fun _ h => nomatch h)⟩
  dsimp only at l383
  walk_at "con enter"
  k_steps
  (unfold KeptEnd; dsimp only [InitBack]; intro hK; refine ⟨rfl, ?_⟩; refine' ver_ret6 hret hk1 hlt1 hlt hK ?N1 ?N' ?hn ?m5 ?k ?su ?hvp ?hvb ?ht ?ab; (case N' => k_asm); (case k => k_asm); (case su => k_asm); (case hvp => k_asm); (case hvb => k_asm); (case hn => k_asm); (case ht => k_asm); (case ab => (intro hb; solve_by_elim)); (case N1 => exact NS); (case m5 => exact fun _ h => nomatch h))
end
theorem kw2_V3 : True := by
  k_with_none
  (k_with "+lt room" => (first | exact lt_r0 (by assumption) (by decide) | exact lt_rc (by assumption) (by decide) | exact lt_rd (by assumption) (by decide) | exact lt_z0 (by assumption)))
  (k_with "@ktr_room" => (walk_at "lt room"))
  (k_with "@ktr_units" => (walk_at "lt room"))
  (k_with "@units_room" => (walk_at "lt room"))
  (k_with "@k_room" => (ktr_room))
  (k_with "+con binds" => (first | exact fm_nilE (by exact rfl) | exact fm_some (by exact rfl) (by walk_at "con binds")))
  (k_with "+con enter" => ((k_dflt (refine' code_keep ?k19q ?k29q ?k39q ?k49q ?k59q ?kA9q ?kF9q ?kK9q ?k69q ?k79q ?k89q ?k99q ?kB9q ?_ ?c29q ?c39q ?c49q ?c59q; (case kA9q => exact rfl); (case kF9q => assumption); (case kK9q => assumption); (case k49q => k_asm); (case k19q => k_asm); (case k29q => k_asm); (case k39q => k_asm); (case k59q => k_asm); (case k69q => k_is); (case k79q => k_is); (case k89q => ktr_room); (case k99q => (refine' binds_to ?b99q ?e99q; (case b99q => first | exact BindsTo.of_eq rfl | exact binds_K (by k_in) rfl (by k_is) rfl rfl rfl | fail "con enter: no rule for these arguments"); (case e99q => first | (walk_at "con binds") | (walk_say "con enter: binds left as they are"; exact rfl)))); (case c59q => decide); (case kB9q => exact locs rfl); (case c29q => exact rfl); (case c39q => exact rfl); (case c49q => exact rfl); k_whole; intro g' L' h' FG' F' N' B' X' T' G0'; (try dsimp only); (try k_fold)))))
  (k_with "+con sub" => (repeat (first | exact sub_nil | refine sub_cons (by k_mem) ?_)))
  (k_with "+ite" => ((k_here; k_openite; with_reducible refine ite_isFalse (bne_self_eq_false _) ?_; walk_say "PRUNED same")))
  (k_with "+con sides" => (((case k39q => k_asm); (case k29q => k_asm); (case k19q => k_asm); (case k49q => k_asm); (case k59q => k_asm); (case kF9q => first | exact rfl | assumption); (case kK9q => first | exact rfl | assumption); (case kd9q => ktr_room); (case ku9q => ktr_units); (case ks9q => walk_at "con sub"))))
  (k_with "+ne close" => (first | assumption | exact Ne.symm (by assumption) | exact Nat.ne_of_lt (by assumption) | exact Nat.ne_of_gt (by assumption) | exact Nat.ne_of_lt (Nat.lt_trans (by assumption) (by assumption)) | exact Nat.ne_of_gt (Nat.lt_trans (by assumption) (by assumption)) | (rename _ ∧ _ => hh9; obtain ⟨_, _⟩ := hh9; walk_at "ne close")))
  (k_with "@k_ne" => ((refine neN ?_; (try dsimp only); with_reducible walk_at "ne close")))
  exact True.intro
end
section
theorem gtv_f {A B C a b c : Int} (h : ¬ (A > a ∨ (A = a ∧ (B > b ∨ (B = b ∧ C > c))))) : gtV A B C a b c true = false := by
  unfold gtV
  by_cases h1 : A = a
  · rw [if_pos h1]
    by_cases h2 : B = b
    · rw [if_pos h2]
      by_cases h3 : C = c
      · rw [if_pos h3]; rfl
      · rw [if_neg h3]; exact decide_eq_false fun k => h (.inr ⟨h1, .inr ⟨h2, k⟩⟩)
    · rw [if_neg h2]; exact decide_eq_false fun k => h (.inr ⟨h1, .inl k⟩)
  · rw [if_neg h1]; exact decide_eq_false fun k => h (.inl k)
theorem gtv_t {A B C a b c : Int} (h : A > a ∨ (A = a ∧ (B > b ∨ (B = b ∧ C > c)))) : gtV A B C a b c true = true := by
  unfold gtV
  rcases h with h | ⟨rfl, h | ⟨rfl, h⟩⟩
  · rw [if_neg (Int.ne_of_gt h)]; exact decide_eq_true h
  · rw [if_pos rfl, if_neg (Int.ne_of_gt h)]; exact decide_eq_true h
  · rw [if_pos rfl, if_pos rfl, if_neg (Int.ne_of_gt h)]; exact decide_eq_true h
section
variable {w : World} {dp un : Nat} {gd : Option (List Code)} {env : Env} {outer : List Env} {h₀ : Heap} {L : Addr} {m : Str → Option Value} {s : Shared} {news : List (Addr × Obj)} {Q : Value → Shared → Prop} {E : Value → Shared → Prop} {t1 t2 : Addr} {A B C a b c : Int} {u1 u2 u3 v1 v2 v3 : Tok} {o1 o2 : Obj}
theorem gt_three {r : Bool} (hu : un + 50 < cLine) (F : Fr h₀ L s.heap m) (N : News h₀ L s.heap news) (m1 : (t1, o1) ∈ news) (m2 : (t2, o2) ∈ news) (e1 : o1 = tupO [.int A u1, .int B u2, .int C u3]) (e2 : o2 = tupO [.int a v1, .int b v2, .int c v3]) (hr : gtV A B C a b c true = r)
    (h : ∀ h' tk', Fr h₀ L h' m → News h₀ L h' news → Q (.bool r) ⟨h', s.gens, s.drawn, tk', s.os⟩) :
    wpAny (model PySem.Challenge.rw_lh0061_01.row.prog w) (topA dp un gd env outer) (compareOp .Gt (.ref t1) (.ref t2)) Q E s := by
  subst e1; subst e2; subst hr
  have R : RiB w (topA dp un gd env outer) s .Gt (.ref t1) (.ref t2) (gtV A B C a b c true) := by
    refine tup_rib_gt (by show un < cLine; exact lt_z0 hu) (N _ m1).1 (N _ m2).1 ?_
    unfold gtV
    show LexR w (topA dp (un + 1) gd env outer) s .Gt _ _ _
    by_cases hA : A = a
    · rw [if_pos hA]
      refine .inl ⟨int_eq _ _ _ _ hA, ?_⟩
      by_cases hB : B = b
      · rw [if_pos hB]
        refine .inl ⟨int_eq _ _ _ _ hB, ?_⟩
        by_cases hC : C = c
        · rw [if_pos hC]
          exact .inl ⟨int_eq _ _ _ _ hC, rfl⟩
        · rw [if_neg hC]; exact .inr ⟨int_ne _ _ _ _ hC, rib_gt_int _ _ _ _⟩
      · rw [if_neg hB]; exact .inr ⟨int_ne _ _ _ _ hB, rib_gt_int _ _ _ _⟩
    · rw [if_neg hA]; exact .inr ⟨int_ne _ _ _ _ hA, rib_gt_int _ _ _ _⟩
  refine R s Q E (Keep.refl _) fun s'' hk => ?_
  obtain ⟨h', g, d, t, o⟩ := s''
  obtain ⟨k, rfl, rfl, rfl⟩ := hk
  exact h h' t (F.keeps k) (N.keeps k)
end
/-- what _law_next gives -/
noncomputable def LawNext (v3 : Int × Int × Int) (r : Value) (tl : List (Addr × Obj)) : Prop := ∃ D p q A B C u1 u2 u3 k1 k2 k3, r = .ref D ∧ tl = [(D, lstO [.int A u1, .int B u2, .int C u3, .ref p, .ref q] k1), (p, lstO [] k2), (q, lstO [] k3)] ∧ v3 = (A, B, C)
theorem next_end {g h' : Heap} {h₀ : Heap} {L L' : Addr} {D p q : Addr} {A B C : Int} {v3 : Int × Int × Int} {u1 u2 u3 : Tok} {k1 k2 k3 : Nat} {sub ns : List (Addr × Obj)} {R : Result → Shared → Prop} {s : Shared} {tk' : Nat}
    (hret : ∀ r tl h' tk', LawNext v3 r tl → (∀ b o, s.heap.get? b = some o → h'.get? b = some o) → (∀ q ∈ tl, s.heap.get? q.1 = none) → News h₀ L h' tl → R (.ok (.ret r)) ⟨h', s.gens, s.drawn, tk', s.os⟩)
    (N0 : News h₀ L s.heap sub) (G0 : ∀ b o, s.heap.get? b = some o → b ∉ sub.map (·.1) → g.get? b = some o) (hK : KeptBut s.heap sub h') (kN : News h₀ L h' ns) (N' : News g L' h' ns) (hs : ∀ q ∈ sub, q ∈ ns)
    (hm : (D, lstO [.int A u1, .int B u2, .int C u3, .ref p, .ref q] k1) ∈ ns) (hp : (p, lstO [] k2) ∈ ns) (hq : (q, lstO [] k3) ∈ ns) (hd : D ∉ sub.map (·.1) ∧ p ∉ sub.map (·.1) ∧ q ∉ sub.map (·.1)) (e : v3 = (A, B, C)) :
    R (.ok (.ret (.ref D))) ⟨h', s.gens, s.drawn, tk', s.os⟩ := by
  have hs' : ∀ x ∈ [(D, lstO [.int A u1, .int B u2, .int C u3, .ref p, .ref q] k1), (p, lstO [] k2), (q, lstO [] k3)], x ∈ ns := by
    intro x hx
    simp only [List.mem_cons, List.not_mem_nil, or_false] at hx
    rcases hx with rfl | rfl | rfl <;> assumption
  refine hret _ _ _ _ ⟨D, p, q, A, B, C, u1, u2, u3, k1, k2, k3, rfl, rfl, e⟩ (keep_back N0 hK (news_sub kN hs)) (fresh_g G0 (news_sub N' hs') ?_) (news_sub kN hs')
  intro x hx
  simp only [List.mem_cons, List.not_mem_nil, or_false] at hx
  rcases hx with rfl | rfl | rfl
  · exact hd.1
  · exact hd.2.1
  · exact hd.2.2
theorem ne3 {x a b c : Addr} {o1 o2 o3 : Obj} (h : @Ne Nat x a ∧ @Ne Nat x b ∧ @Ne Nat x c) : x ∉ ([(a, o1), (b, o2), (c, o3)] : List (Addr × Obj)).map (·.1) := by
  simp only [List.map_cons, List.map_nil, List.mem_cons, List.not_mem_nil, or_false]
  rintro (e | e | e)
  · exact h.1 e
  · exact h.2.1 e
  · exact h.2.2 e
/-- when _law_next gives its numbers -/
noncomputable def NxC (A B C a b c : Int) (zp : List Str) : Prop := gtV A B C a b c true = true ∨ ((A == a && (B == b && C == c)) = true ∧ ¬ zp = [])
theorem nx_no1 {A B C a b c : Int} {zp : List Str} (h : ¬ gtV A B C a b c true = true) (e : (A == a && (B == b && C == c)) = false) : ¬ NxC A B C a b c zp := fun x => x.elim h fun y => by rw [e] at y; cases y.1
theorem nx_no2 {A B C a b c : Int} {zp : List Str} (h : ¬ gtV A B C a b c true = true) (e : zp = []) : ¬ NxC A B C a b c zp := fun x => x.elim h fun y => y.2 e
theorem nx_no3 {A B C a b c : Int} {zp : List Str} (h : gtV A B C a b c true = false) (e : (A == a && (B == b && C == c)) = false) : ¬ NxC A B C a b c zp := nx_no1 (by rw [h]; decide) e
theorem nx_no4 {A B C a b c : Int} {zp : List Str} (h : gtV A B C a b c true = false) (e : zp = []) : ¬ NxC A B C a b c zp := nx_no2 (by rw [h]; decide) e
theorem maj0 {a b c : Int} {zp : List Str} (b0 : 0 ≤ b) (c0 : 0 ≤ c) (h : NxC (a + 0) 0 0 a b c zp) : nMaj a b c zp = (a + 0, 0, 0) := by
  rcases h with h | ⟨e, h⟩
  · rw [gtv_f (by omega)] at h; cases h
  · simp at e; obtain ⟨rfl, rfl⟩ := e; simp [nMaj, h]
theorem maj1 {a b c : Int} {zp : List Str} (h : ¬ NxC (a + 0) 0 0 a b c zp) : nMaj a b c zp = (a + 1, 0, 0) := by
  unfold nMaj
  rw [if_neg]
  rintro ⟨h1, rfl, rfl⟩
  exact h (.inr ⟨by simp, h1⟩)
theorem maj2 {a b c : Int} {zp : List Str} (h : ¬ NxC (a + 1) 0 0 a b c zp) : False := h (.inl (gtv_t (.inl (Int.lt_succ a))))
theorem min0 {a b c : Int} {zp : List Str} (c0 : 0 ≤ c) (h : NxC a (b + 0) 0 a b c zp) : nMin a b c zp = (a, b + 0, 0) := by
  rcases h with h | ⟨e, h⟩
  · rw [gtv_f (by omega)] at h; cases h
  · simp at e; subst e; simp [nMin, h]
theorem min1 {a b c : Int} {zp : List Str} (h : ¬ NxC a (b + 0) 0 a b c zp) : nMin a b c zp = (a, b + 1, 0) := by
  unfold nMin
  rw [if_neg]
  rintro ⟨h1, rfl⟩
  exact h (.inr ⟨by simp, h1⟩)
theorem min2 {a b c : Int} {zp : List Str} (h : ¬ NxC a (b + 1) 0 a b c zp) : False := h (.inl (gtv_t (.inr ⟨rfl, .inl (Int.lt_succ b)⟩)))
theorem pat0 {a b c : Int} {zp : List Str} (h : NxC a b (c + 0) a b c zp) : nPat a b c zp = (a, b, c + 0) := by
  rcases h with h | ⟨_, h⟩
  · rw [gtv_f (by omega)] at h; cases h
  · simp [nPat, h]
theorem pat1 {a b c : Int} {zp : List Str} (h : ¬ NxC a b (c + 0) a b c zp) : nPat a b c zp = (a, b, c + 1) := by
  unfold nPat
  rw [if_neg]
  intro h1
  exact h (.inr ⟨by simp, h1⟩)
theorem pat2 {a b c : Int} {zp : List Str} (h : ¬ NxC a b (c + 1) a b c zp) : False := h (.inl (gtv_t (.inr ⟨rfl, .inr ⟨rfl, Int.lt_succ c⟩⟩)))
/-- the two rows of _law_next's loop -/
noncomputable def NextP (o : Option Obj) (qual : Str) (scope : Scope) (n1 n2 : Stmt) : Prop := FnSel forB1 o qual scope [n1, n2]
theorem nextp_elim {o : Option Obj} {G : Str → Scope → Stmt → Stmt → Prop} {oc : Value} {od : Option Addr} {name qual : Str} {params : Arguments} {scope : Scope} {n1 n2 : Stmt} {t it : PySem.Expr} {pos : Pos} {dV kV doc pm cdv ct : Value} {an : Option Addr} {osl : Array (Option Value)}
    (h1 : o = some ⟨oc, od, .func (fnOf name qual params [.For t it [n1, n2] [] pos] scope dV kV doc pm an cdv ct), osl⟩) (k : G qual scope n1 n2) : ∀ (qual' : Str) (scope' : Scope) (n1' n2' : Stmt), NextP o qual' scope' n1' n2' → G qual' scope' n1' n2' := by
  intro qual' scope' n1' n2' HL
  obtain ⟨rfl, rfl, z⟩ := FnSel.eq HL h1 rfl
  cases z
  exact k
theorem next_p {o : Option Obj} {oc : Value} {od : Option Addr} {name qual : Str} {params : Arguments} {scope : Scope} {n1 n2 : Stmt} {t it : PySem.Expr} {pos : Pos} {dV kV doc pm cdv ct : Value} {an : Option Addr} {osl : Array (Option Value)}
    (h1 : o = some ⟨oc, od, .func (fnOf name qual params [.For t it [n1, n2] [] pos] scope dV kV doc pm an cdv ct), osl⟩) : NextP o qual scope n1 n2 := FnSel.of h1 rfl
theorem fr_at {h₀ h : Heap} {L : Addr} {m m' : Str → Option Value} (F : Fr h₀ L h m) (e : m = m') : Fr h₀ L h m' := e ▸ F
theorem mem_lst {D : Addr} {o o' : Obj} {l : List (Addr × Obj)} (hm : (D, o) ∈ l) (ho : o = o') : (D, o') ∈ l := ho ▸ hm
theorem mem_in {α : Type} {l r : List α} {q : α} (h : ∀ q ∈ l, q ∈ r) (hq : q ∈ l) : q ∈ r := h q hq
theorem not_there {D : Addr} {led news : List (Addr × Obj)} (h : ∀ p ∈ led, p.1 < D) (hs : ∀ q ∈ news, q ∈ led) : D ∉ news.map (·.1) := fun hm => by
  obtain ⟨q, hq, e⟩ := List.mem_map.mp hm
  exact absurd (h q (hs q hq)) (by rw [e]; exact Nat.lt_irrefl _)
theorem not_in {D : Addr} {sub news : List (Addr × Obj)} (h : D ∉ news.map (·.1)) (hs : ∀ q ∈ sub, q ∈ news) : D ∉ sub.map (·.1) := fun hm => by
  obtain ⟨q, hq, e⟩ := List.mem_map.mp hm
  exact h (e ▸ List.mem_map_of_mem (hs q hq))
theorem news_two {h₀ h : Heap} {L D : Addr} {o : Obj} {led news : List (Addr × Obj)} (N : News h₀ L h led) (hD : (D, o) ∈ led) (hs : ∀ q ∈ news, q ∈ led) : News h₀ L h ((D, o) :: news) := fun q hq => by
  rcases List.mem_cons.mp hq with rfl | hq
  · exact N _ hD
  · exact N q (hs q hq)
theorem maps2 {m : Str → Option Value} {k1 k2 : Str} {v1 v2 : Value} (h1 : m k1 = some v1) (h2 : m k2 = some v2) :
    m = fun y => if y = k1 then some v1 else if y = k2 then some v2 else m y := by
  funext y
  split
  · next e => rw [e, h1]
  · split
    · next e => rw [e, h2]
    · rfl
theorem maps3 {m : Str → Option Value} {k1 k2 k3 : Str} {v1 v2 v3 : Value} (h1 : m k1 = some v1) (h2 : m k2 = some v2) (h3 : m k3 = some v3) :
    m = fun y => if y = k1 then some v1 else if y = k2 then some v2 else if y = k3 then some v3 else m y := by
  funext y
  split
  · next e => rw [e, h1]
  · split
    · next e => rw [e, h2]
    · split
      · next e => rw [e, h3]
      · rfl
end
section
section
theorem kw1_L4 : True := by
  (k_with "@k_lt skip" => (skip))
  (k_with "@k_mem" => (first | with_reducible assumption | with_reducible exact List.mem_cons_self | (with_reducible refine List.mem_cons_of_mem _ ?_; k_mem)))
  (k_with "+nx led" => ((first | with_reducible assumption | (intro q9 hq9; (repeat (first | exact hq9 | exact mem_in (by with_reducible assumption) hq9 | refine List.mem_cons_of_mem _ ?_))))))
  (k_with "+compareOp NotEq ref ref" => ((k_here; (with_reducible show wpAny _ _ (compareOp CmpOp.NotEq (Value.ref _) (Value.ref _)) _ _ _); k_dflt (refine' ne_strs0 ?N9q ?ma9q ?mb9q ?ho9q ?hx9q ?hz9q ?hu9q ?_; (case N9q => k_asm); (case ma9q => k_mem); (case mb9q => k_mem); (case ho9q => with_unfolding_all exact rfl); (case hx9q => k_asm); (case hz9q => k_asm); (case hu9q => ktr_units)))))
  (k_with "+subscriptTail List cons" => ((k_here; k_dflt (refine kba_turn (value' := PySem.Expr.Name (PySem.Str.ofString "_") ⟨0, 0, 0, 0⟩) (fun _ => rfl) ?_))))
  (k_with "+subscriptTail Name Constant ref int" => ((k_here; (with_reducible show wpAny _ _ (subscriptTail _ _ (Value.ref _) (Value.int _ _)) _ _ _); k_dflt (refine' list_item ?N9q ?m9q ?e9q ?z9q ?b9q ?_; (case N9q => k_asm); (case m9q => k_mem); (case e9q => exact rfl); (case z9q => decide); (case b9q => exact Nat.le_of_ble_eq_true rfl)); (try dsimp only))))
  (k_with "+subscriptTail Name Name ref int" => ((k_here; (with_reducible show wpAny _ _ (subscriptTail _ _ (Value.ref _) (Value.int _ _)) _ _ _); k_dflt (refine' list_item ?N9q ?m9q ?e9q ?z9q ?b9q ?_; (case N9q => k_asm); (case m9q => k_mem); (case e9q => exact rfl); (case z9q => decide); (case b9q => exact Nat.le_of_ble_eq_true rfl)); (try dsimp only))))
  (k_with "+compareOp Gt ref ref" => ((k_here; k_dflt (refine' gt_three ?hu9q ?F9q ?N9q ?m19q ?m29q ?e19q ?e29q rfl ?_; (case F9q => k_asm); (case N9q => k_asm); (case m19q => k_mem); (case m29q => k_mem); (case e19q => exact rfl); (case e29q => exact rfl); (case hu9q => ktr_units)); intro h9 tk9 F9 N9; (try dsimp only))))
  exact True.intro
set_option maxHeartbeats 2000000 in
theorem nx_num0 (w : World) : ∀ (qual : Str) (scope : Scope) (n1 n2 : Stmt), NextP ((Mine.fr.heap_1 w.params).lookup 478) qual scope n1 n2 → ∀ (p : Program) (loose : List Str) (mean : ExcName → Option Value) (mg mb : Str → Option Value) (dp un : Nat) (gd : Option (List Code)) (env : Env) (outer : List Env) (h₀ : Heap) (L f : Addr) (cd : Value) (E : Value → Shared → Prop) (gs : Array GenState) (dr : Drawn) (os : OsState) (a b c e : Int) (v p' q' : Addr) (t1 t2 t3 tl te : Tok) (n : Nat) (news : List (Addr × Obj)) (h : Heap) (tk : Nat) (m : Str → Option Value) (more : List Stmt) (Q : Flow → Shared → Prop),
    (Mine.fr.heap_1 w.params).In h₀ → Top p loose mean mg mb h₀ → dp + 8 < recursionLimit → un + 80 < cLine → Fr h₀ L h m → m (Str.ofString "version") = some (.ref v) → m (Str.ofString "level") = some (.int 0 tl) → m (Str.ofString "more") = some (.int e te) → News h₀ L h news → lawV v a b c t1 t2 t3 p' q' n ∈ news →
    (∀ h' tk' D u1 u2 u3 k, Fr h₀ L h' (fun y => if y = Str.ofString "numbers" then some (.ref D) else m y) → News h₀ L h' ((D, lstO [.int (a + e) u1, .int (0) u2, .int (0) u3] k) :: news) → wpAny (model PySem.Challenge.rw_lh0061_01.row.prog w) ((topA dp un gd env outer).deeper (envOf qual scope L f cd)) (execs more (envOf qual scope L f cd)) Q E ⟨h', gs, dr, tk', os⟩) →
    wpAny (model PySem.Challenge.rw_lh0061_01.row.prog w) ((topA dp un gd env outer).deeper (envOf qual scope L f cd)) (execs (n1 :: more) (envOf qual scope L f cd)) Q E ⟨h, gs, dr, tk, os⟩ := by
  k_fill
  refine' nextp_elim ?h1 ?_
  case h1 => k_is
  intro p loose mean mg mb dp un gd env outer h₀ L f cd E gs dr os a b c e v p' q' t1 t2 t3 tl te n news h tk m more Q X T hd hu F mv ml me N m1 next
  have back := maps3 mv ml me
  replace F := fr_at F back
  k_steps
  all_goals exact next _ _ _ _ _ _ _ (fr_at (by with_reducible assumption) (funext fun y => by
    split
    · rfl
    · exact (congrFun back y).symm)) (news_two (by with_reducible assumption) (mem_lst (by k_mem) (by with_unfolding_all rfl)) (by walk_at "nx led"))
set_option maxHeartbeats 2000000 in
theorem nx_num1 (w : World) : ∀ (qual : Str) (scope : Scope) (n1 n2 : Stmt), NextP ((Mine.fr.heap_1 w.params).lookup 478) qual scope n1 n2 → ∀ (p : Program) (loose : List Str) (mean : ExcName → Option Value) (mg mb : Str → Option Value) (dp un : Nat) (gd : Option (List Code)) (env : Env) (outer : List Env) (h₀ : Heap) (L f : Addr) (cd : Value) (E : Value → Shared → Prop) (gs : Array GenState) (dr : Drawn) (os : OsState) (a b c e : Int) (v p' q' : Addr) (t1 t2 t3 tl te : Tok) (n : Nat) (news : List (Addr × Obj)) (h : Heap) (tk : Nat) (m : Str → Option Value) (more : List Stmt) (Q : Flow → Shared → Prop),
    (Mine.fr.heap_1 w.params).In h₀ → Top p loose mean mg mb h₀ → dp + 8 < recursionLimit → un + 80 < cLine → Fr h₀ L h m → m (Str.ofString "version") = some (.ref v) → m (Str.ofString "level") = some (.int 1 tl) → m (Str.ofString "more") = some (.int e te) → News h₀ L h news → lawV v a b c t1 t2 t3 p' q' n ∈ news →
    (∀ h' tk' D u1 u2 u3 k, Fr h₀ L h' (fun y => if y = Str.ofString "numbers" then some (.ref D) else m y) → News h₀ L h' ((D, lstO [.int (a) u1, .int (b + e) u2, .int (0) u3] k) :: news) → wpAny (model PySem.Challenge.rw_lh0061_01.row.prog w) ((topA dp un gd env outer).deeper (envOf qual scope L f cd)) (execs more (envOf qual scope L f cd)) Q E ⟨h', gs, dr, tk', os⟩) →
    wpAny (model PySem.Challenge.rw_lh0061_01.row.prog w) ((topA dp un gd env outer).deeper (envOf qual scope L f cd)) (execs (n1 :: more) (envOf qual scope L f cd)) Q E ⟨h, gs, dr, tk, os⟩ := by
  k_fill
  refine' nextp_elim ?h1 ?_
  case h1 => k_is
  intro p loose mean mg mb dp un gd env outer h₀ L f cd E gs dr os a b c e v p' q' t1 t2 t3 tl te n news h tk m more Q X T hd hu F mv ml me N m1 next
  have back := maps3 mv ml me
  replace F := fr_at F back
  k_steps
  all_goals exact next _ _ _ _ _ _ _ (fr_at (by with_reducible assumption) (funext fun y => by
    split
    · rfl
    · exact (congrFun back y).symm)) (news_two (by with_reducible assumption) (mem_lst (by k_mem) (by with_unfolding_all rfl)) (by walk_at "nx led"))
set_option maxHeartbeats 2000000 in
theorem nx_num2 (w : World) : ∀ (qual : Str) (scope : Scope) (n1 n2 : Stmt), NextP ((Mine.fr.heap_1 w.params).lookup 478) qual scope n1 n2 → ∀ (p : Program) (loose : List Str) (mean : ExcName → Option Value) (mg mb : Str → Option Value) (dp un : Nat) (gd : Option (List Code)) (env : Env) (outer : List Env) (h₀ : Heap) (L f : Addr) (cd : Value) (E : Value → Shared → Prop) (gs : Array GenState) (dr : Drawn) (os : OsState) (a b c e : Int) (v p' q' : Addr) (t1 t2 t3 tl te : Tok) (n : Nat) (news : List (Addr × Obj)) (h : Heap) (tk : Nat) (m : Str → Option Value) (more : List Stmt) (Q : Flow → Shared → Prop),
    (Mine.fr.heap_1 w.params).In h₀ → Top p loose mean mg mb h₀ → dp + 8 < recursionLimit → un + 80 < cLine → Fr h₀ L h m → m (Str.ofString "version") = some (.ref v) → m (Str.ofString "level") = some (.int 2 tl) → m (Str.ofString "more") = some (.int e te) → News h₀ L h news → lawV v a b c t1 t2 t3 p' q' n ∈ news →
    (∀ h' tk' D u1 u2 u3 k, Fr h₀ L h' (fun y => if y = Str.ofString "numbers" then some (.ref D) else m y) → News h₀ L h' ((D, lstO [.int (a) u1, .int (b) u2, .int (c + e) u3] k) :: news) → wpAny (model PySem.Challenge.rw_lh0061_01.row.prog w) ((topA dp un gd env outer).deeper (envOf qual scope L f cd)) (execs more (envOf qual scope L f cd)) Q E ⟨h', gs, dr, tk', os⟩) →
    wpAny (model PySem.Challenge.rw_lh0061_01.row.prog w) ((topA dp un gd env outer).deeper (envOf qual scope L f cd)) (execs (n1 :: more) (envOf qual scope L f cd)) Q E ⟨h, gs, dr, tk, os⟩ := by
  k_fill
  refine' nextp_elim ?h1 ?_
  case h1 => k_is
  intro p loose mean mg mb dp un gd env outer h₀ L f cd E gs dr os a b c e v p' q' t1 t2 t3 tl te n news h tk m more Q X T hd hu F mv ml me N m1 next
  have back := maps3 mv ml me
  replace F := fr_at F back
  k_steps
  all_goals exact next _ _ _ _ _ _ _ (fr_at (by with_reducible assumption) (funext fun y => by
    split
    · rfl
    · exact (congrFun back y).symm)) (news_two (by with_reducible assumption) (mem_lst (by k_mem) (by with_unfolding_all rfl)) (by walk_at "nx led"))
set_option maxHeartbeats 2000000 in
theorem nx_if (w : World) : ∀ (qual : Str) (scope : Scope) (n1 n2 : Stmt), NextP ((Mine.fr.heap_1 w.params).lookup 478) qual scope n1 n2 → ∀ (p : Program) (loose : List Str) (mean : ExcName → Option Value) (mg mb : Str → Option Value) (dp un : Nat) (gd : Option (List Code)) (env : Env) (outer : List Env) (h₀ : Heap) (L f : Addr) (cd : Value) (E : Value → Shared → Prop) (gs : Array GenState) (dr : Drawn) (os : OsState) (A B C a b c : Int) (D v p' q' : Addr) (t1 t2 t3 s1 s2 s3 : Tok) (n k n1 : Nat) (zp : List Str) (vp : List Value) (news : List (Addr × Obj)) (h : Heap) (tk : Nat) (m : Str → Option Value) (more : List Stmt) (Q : Flow → Shared → Prop),
    (Mine.fr.heap_1 w.params).In h₀ → Top p loose mean mg mb h₀ → dp + 8 < recursionLimit → un + 80 < cLine → StrsAre vp zp → Ids zp → Fr h₀ L h m → m (Str.ofString "version") = some (.ref v) → m (Str.ofString "numbers") = some (.ref D) → News h₀ L h news → lawV v a b c t1 t2 t3 p' q' n ∈ news → (p', lstO vp n1) ∈ news → (D, lstO [.int A s1, .int B s2, .int C s3] k) ∈ news →
    (NxC A B C a b c zp → ∀ h' tk' news' R p q u1 u2 u3 k1 k2 k3, Fr h₀ L h' m → News h₀ L h' news' → (∀ q ∈ news, q ∈ news') → (R, lstO [.int A u1, .int B u2, .int C u3, .ref p, .ref q] k1) ∈ news' → (p, lstO [] k2) ∈ news' → (q, lstO [] k3) ∈ news' → R ∉ news.map (·.1) ∧ p ∉ news.map (·.1) ∧ q ∉ news.map (·.1) → Q (.ret (.ref R)) ⟨h', gs, dr, tk', os⟩) →
    (¬ NxC A B C a b c zp → ∀ h' tk', Fr h₀ L h' m → News h₀ L h' news → wpAny (model PySem.Challenge.rw_lh0061_01.row.prog w) ((topA dp un gd env outer).deeper (envOf qual scope L f cd)) (execs more (envOf qual scope L f cd)) Q E ⟨h', gs, dr, tk', os⟩) →
    wpAny (model PySem.Challenge.rw_lh0061_01.row.prog w) ((topA dp un gd env outer).deeper (envOf qual scope L f cd)) (execs (n2 :: more) (envOf qual scope L f cd)) Q E ⟨h, gs, dr, tk, os⟩ := by
  k_fill
  refine' nextp_elim ?h1 ?_
  case h1 => k_is
  intro p loose mean mg mb dp un gd env outer h₀ L f cd E gs dr os A B C a b c D v p' q' t1 t2 t3 s1 s2 s3 n k n1 zp vp news h tk m more Q X T hd hu hvp hz F mv mn N m1 m2 m3 hret hno
  have back := maps2 mv mn
  replace F := fr_at F back
  k_steps
  all_goals (try dsimp only)
  all_goals first
    | (with_reducible refine' hret ?hcz8 _ _ _ _ _ _ _ _ _ _ _ _ ?Fz8 ?Nz8 ?sz8 ?rz8 ?pz8 ?qz8 ?xz8
       case hcz8 => first | exact .inl (by with_reducible assumption) | exact .inr ⟨by with_reducible assumption, by with_reducible assumption⟩
       case Fz8 => exact fr_at (by with_reducible assumption) back.symm
       case Nz8 => with_reducible assumption
       case sz8 => walk_at "nx led"
       case rz8 => exact mem_lst (by k_mem) (by with_unfolding_all rfl)
       case pz8 => exact mem_lst (by k_mem) (by with_unfolding_all rfl)
       case qz8 => exact mem_lst (by k_mem) (by with_unfolding_all rfl)
       case xz8 => exact ⟨not_there (by with_reducible assumption) (by walk_at "nx led"), not_there (by with_reducible assumption) (by walk_at "nx led"), not_there (by with_reducible assumption) (by walk_at "nx led")⟩)
    | (with_reducible refine' hno ?hcz8 _ _ ?Fz8 ?Nz8
       case hcz8 => first | exact nx_no1 (by with_reducible assumption) (by with_reducible assumption) | exact nx_no2 (by with_reducible assumption) (by with_reducible assumption) | exact nx_no3 (by with_reducible assumption) (by with_reducible assumption) | exact nx_no4 (by with_reducible assumption) (by with_reducible assumption)
       case Fz8 => exact fr_at (by with_reducible assumption) back.symm
       case Nz8 => exact news_sub (by with_reducible assumption) (by walk_at "nx led"))
end
theorem kw2_L4 : True := by
  k_with_none
  (k_with "+lt room" => (first | exact lt_r0 (by assumption) (by decide) | exact lt_rc (by assumption) (by decide) | exact lt_rd (by assumption) (by decide) | exact lt_z0 (by assumption)))
  (k_with "@ktr_room" => (walk_at "lt room"))
  (k_with "@ktr_units" => (walk_at "lt room"))
  (k_with "@units_room" => (walk_at "lt room"))
  (k_with "@k_room" => (ktr_room))
  (k_with "+con binds" => (first | exact fm_nilE (by exact rfl) | exact fm_some (by exact rfl) (by walk_at "con binds")))
  (k_with "+con enter" => ((k_dflt (refine' code_keep ?k19q ?k29q ?k39q ?k49q ?k59q ?kA9q ?kF9q ?kK9q ?k69q ?k79q ?k89q ?k99q ?kB9q ?_ ?c29q ?c39q ?c49q ?c59q; (case kA9q => exact rfl); (case kF9q => assumption); (case kK9q => assumption); (case k49q => k_asm); (case k19q => k_asm); (case k29q => k_asm); (case k39q => k_asm); (case k59q => k_asm); (case k69q => k_is); (case k79q => k_is); (case k89q => ktr_room); (case k99q => (refine' binds_to ?b99q ?e99q; (case b99q => first | exact BindsTo.of_eq rfl | exact binds_K (by k_in) rfl (by k_is) rfl rfl rfl | fail "con enter: no rule for these arguments"); (case e99q => first | (walk_at "con binds") | (walk_say "con enter: binds left as they are"; exact rfl)))); (case c59q => decide); (case kB9q => exact locs rfl); (case c29q => exact rfl); (case c39q => exact rfl); (case c49q => exact rfl); k_whole; intro g' L' h' FG' F' N' B' X' T' G0'; (try dsimp only); (try k_fold)))))
  (k_with "+con sub" => (repeat (first | exact sub_nil | refine sub_cons (by k_mem) ?_)))
  (k_with "+ite" => ((k_here; k_openite; with_reducible refine ite_isFalse (bne_self_eq_false _) ?_; walk_say "PRUNED same")))
  (k_with "+con sides" => (((case k39q => k_asm); (case k29q => k_asm); (case k19q => k_asm); (case k49q => k_asm); (case k59q => k_asm); (case kF9q => first | exact rfl | assumption); (case kK9q => first | exact rfl | assumption); (case kd9q => ktr_room); (case ku9q => ktr_units); (case ks9q => walk_at "con sub"))))
  (k_with "+ne close" => (first | assumption | exact Ne.symm (by assumption) | exact Nat.ne_of_lt (by assumption) | exact Nat.ne_of_gt (by assumption) | exact Nat.ne_of_lt (Nat.lt_trans (by assumption) (by assumption)) | exact Nat.ne_of_gt (Nat.lt_trans (by assumption) (by assumption)) | (rename _ ∧ _ => hh9; obtain ⟨_, _⟩ := hh9; walk_at "ne close")))
  (k_with "@k_ne" => ((refine neN ?_; (try dsimp only); with_reducible walk_at "ne close")))
  exact True.intro
end
section
section
theorem kw1_L5 : True := by
  (k_with "@k_lt clear" => (skip))
  (k_with "@k_mem" => (first | with_reducible assumption | with_reducible exact List.mem_cons_self | (with_reducible refine List.mem_cons_of_mem _ ?_; k_mem)))
  (k_with "+nx led" => ((first | with_reducible assumption | (intro q9 hq9; (repeat (first | exact hq9 | exact mem_in (by with_reducible assumption) hq9 | refine List.mem_cons_of_mem _ ?_))))))
  (k_with "+compareOp NotEq ref ref" => ((k_here; (with_reducible show wpAny _ _ (compareOp CmpOp.NotEq (Value.ref _) (Value.ref _)) _ _ _); k_dflt (refine' ne_strs0 ?N9q ?ma9q ?mb9q ?ho9q ?hx9q ?hz9q ?hu9q ?_; (case N9q => k_asm); (case ma9q => k_mem); (case mb9q => k_mem); (case ho9q => with_unfolding_all exact rfl); (case hx9q => k_asm); (case hz9q => k_asm); (case hu9q => ktr_units)))))
  (k_with "+subscriptTail Name Constant ref int" => ((k_here; (with_reducible show wpAny _ _ (subscriptTail _ _ (Value.ref _) (Value.int _ _)) _ _ _); k_dflt (refine' list_item ?N9q ?m9q ?e9q ?z9q ?b9q ?_; (case N9q => k_asm); (case m9q => k_mem); (case e9q => exact rfl); (case z9q => decide); (case b9q => exact Nat.le_of_ble_eq_true rfl)); (try dsimp only))))
  (k_with "+subscriptTail Name Name ref int" => ((k_here; (with_reducible show wpAny _ _ (subscriptTail _ _ (Value.ref _) (Value.int _ _)) _ _ _); k_dflt (refine' list_item ?N9q ?m9q ?e9q ?z9q ?b9q ?_; (case N9q => k_asm); (case m9q => k_mem); (case e9q => exact rfl); (case z9q => decide); (case b9q => exact Nat.le_of_ble_eq_true rfl)); (try dsimp only))))
  (k_with "+compareOp Gt ref ref" => ((k_here; k_dflt (refine' gt_three ?hu9q ?F9q ?N9q ?m19q ?m29q ?e19q ?e29q rfl ?_; (case F9q => k_asm); (case N9q => k_asm); (case m19q => k_mem); (case m29q => k_mem); (case e19q => exact rfl); (case e29q => exact rfl); (case hu9q => ktr_units)); intro h9 tk9 F9 N9; (try dsimp only))))
  (k_with "+execs cons" => ((k_here; (with_reducible show wpAny _ _ (execs (Stmt.Assign [PySem.Expr.Name (Str.ofString "numbers") _] _ _ :: _) _) _ _ _); k_dflt (refine' nx_num0 _ _ _ _ _ HP _ _ _ _ _ _ _ _ _ _ _ _ _ _ _ _ _ _ _ _ _ _ _ _ _ _ _ _ _ _ _ _ _ _ _ _ _  ?X9q ?T9q ?hd9q ?hu9q ?F9q ?mv9q ?ml9q ?me9q ?N9q ?m19q ?_; (case X9q => k_asm); (case T9q => k_asm); (case hd9q => ktr_room); (case hu9q => ktr_units); (case F9q => k_asm); (case mv9q => with_unfolding_all rfl); (case ml9q => with_unfolding_all rfl); (case me9q => with_unfolding_all rfl); (case N9q => k_asm); (case m19q => k_mem)); intro h9 tk9 D9 u1 u2 u3 kk9 F9 N9; (try dsimp only))))
  (k_with "+execs cons" => ((k_here; (with_reducible show wpAny _ _ (execs (Stmt.If _ _ _ _ :: _) _) _ _ _); k_dflt (refine' nx_if _ _ _ _ _ HP _ _ _ _ _ _ _ _ _ _ _ _ _ _ _ _ _ _ _ _ _ _ _ _ _ _ _ _ _ _ _ _ _ _ _ _ _ _ _ _ _ _ _ _ _  ?X9q ?T9q ?hd9q ?hu9q hvp hz ?F9q ?mv9q ?mn9q ?N9q ?m19q ?m29q ?m39q ?_ ?_; (case X9q => k_asm); (case T9q => k_asm); (case hd9q => ktr_room); (case hu9q => ktr_units); (case F9q => k_asm); (case mv9q => with_unfolding_all rfl); (case mn9q => with_unfolding_all rfl); (case N9q => k_asm); (case m19q => k_mem); (case m29q => k_mem); (case m39q => k_mem)); intro yes9 h9 tk9 news9 R9 p9 q9 u1 u2 u3 k1 k2 k3 F9 N9 s9 f1 f2 f3 f4; (have f5 := not_in (sub := [lawV v a b c t1 t2 t3 p0 q0 n, (p0, lstO vp n1), (q0, lstO vb n2)]) f4.1 (by walk_at "con sub")); (have f6 := not_in (sub := [lawV v a b c t1 t2 t3 p0 q0 n, (p0, lstO vp n1), (q0, lstO vb n2)]) f4.2.1 (by walk_at "con sub")); (have f7 := not_in (sub := [lawV v a b c t1 t2 t3 p0 q0 n, (p0, lstO vp n1), (q0, lstO vb n2)]) f4.2.2 (by walk_at "con sub")); (have rs : ∀ q' ∈ [lawV v a b c t1 t2 t3 p0 q0 n, (p0, lstO vp n1), (q0, lstO vb n2)], q' ∈ news9 := fun q' hq' => s9 q' (mem_in (by walk_at "con sub") hq')); (try dsimp only); rotate_left; intro yes9; (first | exact (maj2 yes9).elim | (intro h9 tk9 F9 N9; (try dsimp only))))))
  exact True.intro
set_option maxHeartbeats 2000000 in
theorem c_lmaj (w : World) (a b c : Int) {v p0 q0 : Addr} {t0 t1 t2 t3 : Tok} {n n1 n2 : Nat} {zp yp : List Str} {vp vb : List Value} (a0 : 0 ≤ a) (b0 : 0 ≤ b) (c0 : 0 ≤ c) (hz : Ids zp) (hy : Ids yp) (hvp : StrsAre vp zp) (hvb : StrsAre vb yp) :
    ConF w 8 80 (.ref 478) [.ref v, .int 0 t0] [] [lawV v a b c t1 t2 t3 p0 q0 n, (p0, lstO vp n1), (q0, lstO vb n2)] (LawNext (nMaj a b c zp)) := by
  unfold ConF
  intro p loose mean mg mb dp un gd env outer A₀ base h₀ L m news s R B F N T hf hk hd hu hsub hret
  k_fill
  intro X
  have N0 := news_sub N hsub
  walk_at "con enter"
  have HP := next_p (o := (Mine.fr.heap_1 w.params).lookup 478) (by k_is)
  k_steps
  all_goals (unfold KeptEnd; dsimp only; intro hK)
  all_goals exact next_end hret (by with_reducible assumption) (by with_reducible assumption) hK (by with_reducible assumption) (by with_reducible assumption) rs f1 f2 f3 ⟨f5, f6, f7⟩ (by first | exact maj0 b0 c0 (by with_reducible assumption) | exact maj1 (by with_reducible assumption))
end
theorem kw2_L5 : True := by
  k_with_none
  (k_with "+lt room" => (first | exact lt_r0 (by assumption) (by decide) | exact lt_rc (by assumption) (by decide) | exact lt_rd (by assumption) (by decide) | exact lt_z0 (by assumption)))
  (k_with "@ktr_room" => (walk_at "lt room"))
  (k_with "@ktr_units" => (walk_at "lt room"))
  (k_with "@units_room" => (walk_at "lt room"))
  (k_with "@k_room" => (ktr_room))
  (k_with "+con binds" => (first | exact fm_nilE (by exact rfl) | exact fm_some (by exact rfl) (by walk_at "con binds")))
  (k_with "+con enter" => ((k_dflt (refine' code_keep ?k19q ?k29q ?k39q ?k49q ?k59q ?kA9q ?kF9q ?kK9q ?k69q ?k79q ?k89q ?k99q ?kB9q ?_ ?c29q ?c39q ?c49q ?c59q; (case kA9q => exact rfl); (case kF9q => assumption); (case kK9q => assumption); (case k49q => k_asm); (case k19q => k_asm); (case k29q => k_asm); (case k39q => k_asm); (case k59q => k_asm); (case k69q => k_is); (case k79q => k_is); (case k89q => ktr_room); (case k99q => (refine' binds_to ?b99q ?e99q; (case b99q => first | exact BindsTo.of_eq rfl | exact binds_K (by k_in) rfl (by k_is) rfl rfl rfl | fail "con enter: no rule for these arguments"); (case e99q => first | (walk_at "con binds") | (walk_say "con enter: binds left as they are"; exact rfl)))); (case c59q => decide); (case kB9q => exact locs rfl); (case c29q => exact rfl); (case c39q => exact rfl); (case c49q => exact rfl); k_whole; intro g' L' h' FG' F' N' B' X' T' G0'; (try dsimp only); (try k_fold)))))
  (k_with "+con sub" => (repeat (first | exact sub_nil | refine sub_cons (by k_mem) ?_)))
  (k_with "+ite" => ((k_here; k_openite; with_reducible refine ite_isFalse (bne_self_eq_false _) ?_; walk_say "PRUNED same")))
  (k_with "+con sides" => (((case k39q => k_asm); (case k29q => k_asm); (case k19q => k_asm); (case k49q => k_asm); (case k59q => k_asm); (case kF9q => first | exact rfl | assumption); (case kK9q => first | exact rfl | assumption); (case kd9q => ktr_room); (case ku9q => ktr_units); (case ks9q => walk_at "con sub"))))
  (k_with "+ne close" => (first | assumption | exact Ne.symm (by assumption) | exact Nat.ne_of_lt (by assumption) | exact Nat.ne_of_gt (by assumption) | exact Nat.ne_of_lt (Nat.lt_trans (by assumption) (by assumption)) | exact Nat.ne_of_gt (Nat.lt_trans (by assumption) (by assumption)) | (rename _ ∧ _ => hh9; obtain ⟨_, _⟩ := hh9; walk_at "ne close")))
  (k_with "@k_ne" => ((refine neN ?_; (try dsimp only); with_reducible walk_at "ne close")))
  exact True.intro
section
theorem kw3_L5 : True := by
  (k_with "@k_lt clear" => (skip))
  (k_with "@k_mem" => (first | with_reducible assumption | with_reducible exact List.mem_cons_self | (with_reducible refine List.mem_cons_of_mem _ ?_; k_mem)))
  (k_with "+nx led" => ((first | with_reducible assumption | (intro q9 hq9; (repeat (first | exact hq9 | exact mem_in (by with_reducible assumption) hq9 | refine List.mem_cons_of_mem _ ?_))))))
  (k_with "+compareOp NotEq ref ref" => ((k_here; (with_reducible show wpAny _ _ (compareOp CmpOp.NotEq (Value.ref _) (Value.ref _)) _ _ _); k_dflt (refine' ne_strs0 ?N9q ?ma9q ?mb9q ?ho9q ?hx9q ?hz9q ?hu9q ?_; (case N9q => k_asm); (case ma9q => k_mem); (case mb9q => k_mem); (case ho9q => with_unfolding_all exact rfl); (case hx9q => k_asm); (case hz9q => k_asm); (case hu9q => ktr_units)))))
  (k_with "+subscriptTail Name Constant ref int" => ((k_here; (with_reducible show wpAny _ _ (subscriptTail _ _ (Value.ref _) (Value.int _ _)) _ _ _); k_dflt (refine' list_item ?N9q ?m9q ?e9q ?z9q ?b9q ?_; (case N9q => k_asm); (case m9q => k_mem); (case e9q => exact rfl); (case z9q => decide); (case b9q => exact Nat.le_of_ble_eq_true rfl)); (try dsimp only))))
  (k_with "+subscriptTail Name Name ref int" => ((k_here; (with_reducible show wpAny _ _ (subscriptTail _ _ (Value.ref _) (Value.int _ _)) _ _ _); k_dflt (refine' list_item ?N9q ?m9q ?e9q ?z9q ?b9q ?_; (case N9q => k_asm); (case m9q => k_mem); (case e9q => exact rfl); (case z9q => decide); (case b9q => exact Nat.le_of_ble_eq_true rfl)); (try dsimp only))))
  (k_with "+compareOp Gt ref ref" => ((k_here; k_dflt (refine' gt_three ?hu9q ?F9q ?N9q ?m19q ?m29q ?e19q ?e29q rfl ?_; (case F9q => k_asm); (case N9q => k_asm); (case m19q => k_mem); (case m29q => k_mem); (case e19q => exact rfl); (case e29q => exact rfl); (case hu9q => ktr_units)); intro h9 tk9 F9 N9; (try dsimp only))))
  (k_with "+execs cons" => ((k_here; (with_reducible show wpAny _ _ (execs (Stmt.Assign [PySem.Expr.Name (Str.ofString "numbers") _] _ _ :: _) _) _ _ _); k_dflt (refine' nx_num1 _ _ _ _ _ HP _ _ _ _ _ _ _ _ _ _ _ _ _ _ _ _ _ _ _ _ _ _ _ _ _ _ _ _ _ _ _ _ _ _ _ _ _  ?X9q ?T9q ?hd9q ?hu9q ?F9q ?mv9q ?ml9q ?me9q ?N9q ?m19q ?_; (case X9q => k_asm); (case T9q => k_asm); (case hd9q => ktr_room); (case hu9q => ktr_units); (case F9q => k_asm); (case mv9q => with_unfolding_all rfl); (case ml9q => with_unfolding_all rfl); (case me9q => with_unfolding_all rfl); (case N9q => k_asm); (case m19q => k_mem)); intro h9 tk9 D9 u1 u2 u3 kk9 F9 N9; (try dsimp only))))
  (k_with "+execs cons" => ((k_here; (with_reducible show wpAny _ _ (execs (Stmt.If _ _ _ _ :: _) _) _ _ _); k_dflt (refine' nx_if _ _ _ _ _ HP _ _ _ _ _ _ _ _ _ _ _ _ _ _ _ _ _ _ _ _ _ _ _ _ _ _ _ _ _ _ _ _ _ _ _ _ _ _ _ _ _ _ _ _ _  ?X9q ?T9q ?hd9q ?hu9q hvp hz ?F9q ?mv9q ?mn9q ?N9q ?m19q ?m29q ?m39q ?_ ?_; (case X9q => k_asm); (case T9q => k_asm); (case hd9q => ktr_room); (case hu9q => ktr_units); (case F9q => k_asm); (case mv9q => with_unfolding_all rfl); (case mn9q => with_unfolding_all rfl); (case N9q => k_asm); (case m19q => k_mem); (case m29q => k_mem); (case m39q => k_mem)); intro yes9 h9 tk9 news9 R9 p9 q9 u1 u2 u3 k1 k2 k3 F9 N9 s9 f1 f2 f3 f4; (have f5 := not_in (sub := [lawV v a b c t1 t2 t3 p0 q0 n, (p0, lstO vp n1), (q0, lstO vb n2)]) f4.1 (by walk_at "con sub")); (have f6 := not_in (sub := [lawV v a b c t1 t2 t3 p0 q0 n, (p0, lstO vp n1), (q0, lstO vb n2)]) f4.2.1 (by walk_at "con sub")); (have f7 := not_in (sub := [lawV v a b c t1 t2 t3 p0 q0 n, (p0, lstO vp n1), (q0, lstO vb n2)]) f4.2.2 (by walk_at "con sub")); (have rs : ∀ q' ∈ [lawV v a b c t1 t2 t3 p0 q0 n, (p0, lstO vp n1), (q0, lstO vb n2)], q' ∈ news9 := fun q' hq' => s9 q' (mem_in (by walk_at "con sub") hq')); (try dsimp only); rotate_left; intro yes9; (first | exact (min2 yes9).elim | (intro h9 tk9 F9 N9; (try dsimp only))))))
  exact True.intro
set_option maxHeartbeats 2000000 in
theorem c_lmin (w : World) (a b c : Int) {v p0 q0 : Addr} {t0 t1 t2 t3 : Tok} {n n1 n2 : Nat} {zp yp : List Str} {vp vb : List Value} (a0 : 0 ≤ a) (b0 : 0 ≤ b) (c0 : 0 ≤ c) (hz : Ids zp) (hy : Ids yp) (hvp : StrsAre vp zp) (hvb : StrsAre vb yp) :
    ConF w 8 80 (.ref 478) [.ref v, .int 1 t0] [] [lawV v a b c t1 t2 t3 p0 q0 n, (p0, lstO vp n1), (q0, lstO vb n2)] (LawNext (nMin a b c zp)) := by
  unfold ConF
  intro p loose mean mg mb dp un gd env outer A₀ base h₀ L m news s R B F N T hf hk hd hu hsub hret
  k_fill
  intro X
  have N0 := news_sub N hsub
  walk_at "con enter"
  have HP := next_p (o := (Mine.fr.heap_1 w.params).lookup 478) (by k_is)
  k_steps
  all_goals (unfold KeptEnd; dsimp only; intro hK)
  all_goals exact next_end hret (by with_reducible assumption) (by with_reducible assumption) hK (by with_reducible assumption) (by with_reducible assumption) rs f1 f2 f3 ⟨f5, f6, f7⟩ (by first | exact min0 c0 (by with_reducible assumption) | exact min1 (by with_reducible assumption))
end
theorem kw4_L5 : True := by
  k_with_none
  (k_with "+lt room" => (first | exact lt_r0 (by assumption) (by decide) | exact lt_rc (by assumption) (by decide) | exact lt_rd (by assumption) (by decide) | exact lt_z0 (by assumption)))
  (k_with "@ktr_room" => (walk_at "lt room"))
  (k_with "@ktr_units" => (walk_at "lt room"))
  (k_with "@units_room" => (walk_at "lt room"))
  (k_with "@k_room" => (ktr_room))
  (k_with "+con binds" => (first | exact fm_nilE (by exact rfl) | exact fm_some (by exact rfl) (by walk_at "con binds")))
  (k_with "+con enter" => ((k_dflt (refine' code_keep ?k19q ?k29q ?k39q ?k49q ?k59q ?kA9q ?kF9q ?kK9q ?k69q ?k79q ?k89q ?k99q ?kB9q ?_ ?c29q ?c39q ?c49q ?c59q; (case kA9q => exact rfl); (case kF9q => assumption); (case kK9q => assumption); (case k49q => k_asm); (case k19q => k_asm); (case k29q => k_asm); (case k39q => k_asm); (case k59q => k_asm); (case k69q => k_is); (case k79q => k_is); (case k89q => ktr_room); (case k99q => (refine' binds_to ?b99q ?e99q; (case b99q => first | exact BindsTo.of_eq rfl | exact binds_K (by k_in) rfl (by k_is) rfl rfl rfl | fail "con enter: no rule for these arguments"); (case e99q => first | (walk_at "con binds") | (walk_say "con enter: binds left as they are"; exact rfl)))); (case c59q => decide); (case kB9q => exact locs rfl); (case c29q => exact rfl); (case c39q => exact rfl); (case c49q => exact rfl); k_whole; intro g' L' h' FG' F' N' B' X' T' G0'; (try dsimp only); (try k_fold)))))
  (k_with "+con sub" => (repeat (first | exact sub_nil | refine sub_cons (by k_mem) ?_)))
  (k_with "+ite" => ((k_here; k_openite; with_reducible refine ite_isFalse (bne_self_eq_false _) ?_; walk_say "PRUNED same")))
  (k_with "+con sides" => (((case k39q => k_asm); (case k29q => k_asm); (case k19q => k_asm); (case k49q => k_asm); (case k59q => k_asm); (case kF9q => first | exact rfl | assumption); (case kK9q => first | exact rfl | assumption); (case kd9q => ktr_room); (case ku9q => ktr_units); (case ks9q => walk_at "con sub"))))
  (k_with "+ne close" => (first | assumption | exact Ne.symm (by assumption) | exact Nat.ne_of_lt (by assumption) | exact Nat.ne_of_gt (by assumption) | exact Nat.ne_of_lt (Nat.lt_trans (by assumption) (by assumption)) | exact Nat.ne_of_gt (Nat.lt_trans (by assumption) (by assumption)) | (rename _ ∧ _ => hh9; obtain ⟨_, _⟩ := hh9; walk_at "ne close")))
  (k_with "@k_ne" => ((refine neN ?_; (try dsimp only); with_reducible walk_at "ne close")))
  exact True.intro
section
theorem kw5_L5 : True := by
  (k_with "@k_lt clear" => (skip))
  (k_with "@k_mem" => (first | with_reducible assumption | with_reducible exact List.mem_cons_self | (with_reducible refine List.mem_cons_of_mem _ ?_; k_mem)))
  (k_with "+nx led" => ((first | with_reducible assumption | (intro q9 hq9; (repeat (first | exact hq9 | exact mem_in (by with_reducible assumption) hq9 | refine List.mem_cons_of_mem _ ?_))))))
  (k_with "+compareOp NotEq ref ref" => ((k_here; (with_reducible show wpAny _ _ (compareOp CmpOp.NotEq (Value.ref _) (Value.ref _)) _ _ _); k_dflt (refine' ne_strs0 ?N9q ?ma9q ?mb9q ?ho9q ?hx9q ?hz9q ?hu9q ?_; (case N9q => k_asm); (case ma9q => k_mem); (case mb9q => k_mem); (case ho9q => with_unfolding_all exact rfl); (case hx9q => k_asm); (case hz9q => k_asm); (case hu9q => ktr_units)))))
  (k_with "+subscriptTail Name Constant ref int" => ((k_here; (with_reducible show wpAny _ _ (subscriptTail _ _ (Value.ref _) (Value.int _ _)) _ _ _); k_dflt (refine' list_item ?N9q ?m9q ?e9q ?z9q ?b9q ?_; (case N9q => k_asm); (case m9q => k_mem); (case e9q => exact rfl); (case z9q => decide); (case b9q => exact Nat.le_of_ble_eq_true rfl)); (try dsimp only))))
  (k_with "+subscriptTail Name Name ref int" => ((k_here; (with_reducible show wpAny _ _ (subscriptTail _ _ (Value.ref _) (Value.int _ _)) _ _ _); k_dflt (refine' list_item ?N9q ?m9q ?e9q ?z9q ?b9q ?_; (case N9q => k_asm); (case m9q => k_mem); (case e9q => exact rfl); (case z9q => decide); (case b9q => exact Nat.le_of_ble_eq_true rfl)); (try dsimp only))))
  (k_with "+compareOp Gt ref ref" => ((k_here; k_dflt (refine' gt_three ?hu9q ?F9q ?N9q ?m19q ?m29q ?e19q ?e29q rfl ?_; (case F9q => k_asm); (case N9q => k_asm); (case m19q => k_mem); (case m29q => k_mem); (case e19q => exact rfl); (case e29q => exact rfl); (case hu9q => ktr_units)); intro h9 tk9 F9 N9; (try dsimp only))))
  (k_with "+execs cons" => ((k_here; (with_reducible show wpAny _ _ (execs (Stmt.Assign [PySem.Expr.Name (Str.ofString "numbers") _] _ _ :: _) _) _ _ _); k_dflt (refine' nx_num2 _ _ _ _ _ HP _ _ _ _ _ _ _ _ _ _ _ _ _ _ _ _ _ _ _ _ _ _ _ _ _ _ _ _ _ _ _ _ _ _ _ _ _  ?X9q ?T9q ?hd9q ?hu9q ?F9q ?mv9q ?ml9q ?me9q ?N9q ?m19q ?_; (case X9q => k_asm); (case T9q => k_asm); (case hd9q => ktr_room); (case hu9q => ktr_units); (case F9q => k_asm); (case mv9q => with_unfolding_all rfl); (case ml9q => with_unfolding_all rfl); (case me9q => with_unfolding_all rfl); (case N9q => k_asm); (case m19q => k_mem)); intro h9 tk9 D9 u1 u2 u3 kk9 F9 N9; (try dsimp only))))
  (k_with "+execs cons" => ((k_here; (with_reducible show wpAny _ _ (execs (Stmt.If _ _ _ _ :: _) _) _ _ _); k_dflt (refine' nx_if _ _ _ _ _ HP _ _ _ _ _ _ _ _ _ _ _ _ _ _ _ _ _ _ _ _ _ _ _ _ _ _ _ _ _ _ _ _ _ _ _ _ _ _ _ _ _ _ _ _ _  ?X9q ?T9q ?hd9q ?hu9q hvp hz ?F9q ?mv9q ?mn9q ?N9q ?m19q ?m29q ?m39q ?_ ?_; (case X9q => k_asm); (case T9q => k_asm); (case hd9q => ktr_room); (case hu9q => ktr_units); (case F9q => k_asm); (case mv9q => with_unfolding_all rfl); (case mn9q => with_unfolding_all rfl); (case N9q => k_asm); (case m19q => k_mem); (case m29q => k_mem); (case m39q => k_mem)); intro yes9 h9 tk9 news9 R9 p9 q9 u1 u2 u3 k1 k2 k3 F9 N9 s9 f1 f2 f3 f4; (have f5 := not_in (sub := [lawV v a b c t1 t2 t3 p0 q0 n, (p0, lstO vp n1), (q0, lstO vb n2)]) f4.1 (by walk_at "con sub")); (have f6 := not_in (sub := [lawV v a b c t1 t2 t3 p0 q0 n, (p0, lstO vp n1), (q0, lstO vb n2)]) f4.2.1 (by walk_at "con sub")); (have f7 := not_in (sub := [lawV v a b c t1 t2 t3 p0 q0 n, (p0, lstO vp n1), (q0, lstO vb n2)]) f4.2.2 (by walk_at "con sub")); (have rs : ∀ q' ∈ [lawV v a b c t1 t2 t3 p0 q0 n, (p0, lstO vp n1), (q0, lstO vb n2)], q' ∈ news9 := fun q' hq' => s9 q' (mem_in (by walk_at "con sub") hq')); (try dsimp only); rotate_left; intro yes9; (first | exact (pat2 yes9).elim | (intro h9 tk9 F9 N9; (try dsimp only))))))
  exact True.intro
set_option maxHeartbeats 2000000 in
theorem c_lpat (w : World) (a b c : Int) {v p0 q0 : Addr} {t0 t1 t2 t3 : Tok} {n n1 n2 : Nat} {zp yp : List Str} {vp vb : List Value} (a0 : 0 ≤ a) (b0 : 0 ≤ b) (c0 : 0 ≤ c) (hz : Ids zp) (hy : Ids yp) (hvp : StrsAre vp zp) (hvb : StrsAre vb yp) :
    ConF w 8 80 (.ref 478) [.ref v, .int 2 t0] [] [lawV v a b c t1 t2 t3 p0 q0 n, (p0, lstO vp n1), (q0, lstO vb n2)] (LawNext (nPat a b c zp)) := by
  unfold ConF
  intro p loose mean mg mb dp un gd env outer A₀ base h₀ L m news s R B F N T hf hk hd hu hsub hret
  k_fill
  intro X
  have N0 := news_sub N hsub
  walk_at "con enter"
  have HP := next_p (o := (Mine.fr.heap_1 w.params).lookup 478) (by k_is)
  k_steps
  all_goals (unfold KeptEnd; dsimp only; intro hK)
  all_goals exact next_end hret (by with_reducible assumption) (by with_reducible assumption) hK (by with_reducible assumption) (by with_reducible assumption) rs f1 f2 f3 ⟨f5, f6, f7⟩ (by first | exact pat0 (by with_reducible assumption) | exact pat1 (by with_reducible assumption))
end
theorem kw6_L5 : True := by
  k_with_none
  (k_with "+lt room" => (first | exact lt_r0 (by assumption) (by decide) | exact lt_rc (by assumption) (by decide) | exact lt_rd (by assumption) (by decide) | exact lt_z0 (by assumption)))
  (k_with "@ktr_room" => (walk_at "lt room"))
  (k_with "@ktr_units" => (walk_at "lt room"))
  (k_with "@units_room" => (walk_at "lt room"))
  (k_with "@k_room" => (ktr_room))
  (k_with "+con binds" => (first | exact fm_nilE (by exact rfl) | exact fm_some (by exact rfl) (by walk_at "con binds")))
  (k_with "+con enter" => ((k_dflt (refine' code_keep ?k19q ?k29q ?k39q ?k49q ?k59q ?kA9q ?kF9q ?kK9q ?k69q ?k79q ?k89q ?k99q ?kB9q ?_ ?c29q ?c39q ?c49q ?c59q; (case kA9q => exact rfl); (case kF9q => assumption); (case kK9q => assumption); (case k49q => k_asm); (case k19q => k_asm); (case k29q => k_asm); (case k39q => k_asm); (case k59q => k_asm); (case k69q => k_is); (case k79q => k_is); (case k89q => ktr_room); (case k99q => (refine' binds_to ?b99q ?e99q; (case b99q => first | exact BindsTo.of_eq rfl | exact binds_K (by k_in) rfl (by k_is) rfl rfl rfl | fail "con enter: no rule for these arguments"); (case e99q => first | (walk_at "con binds") | (walk_say "con enter: binds left as they are"; exact rfl)))); (case c59q => decide); (case kB9q => exact locs rfl); (case c29q => exact rfl); (case c39q => exact rfl); (case c49q => exact rfl); k_whole; intro g' L' h' FG' F' N' B' X' T' G0'; (try dsimp only); (try k_fold)))))
  (k_with "+con sub" => (repeat (first | exact sub_nil | refine sub_cons (by k_mem) ?_)))
  (k_with "+ite" => ((k_here; k_openite; with_reducible refine ite_isFalse (bne_self_eq_false _) ?_; walk_say "PRUNED same")))
  (k_with "+con sides" => (((case k39q => k_asm); (case k29q => k_asm); (case k19q => k_asm); (case k49q => k_asm); (case k59q => k_asm); (case kF9q => first | exact rfl | assumption); (case kK9q => first | exact rfl | assumption); (case kd9q => ktr_room); (case ku9q => ktr_units); (case ks9q => walk_at "con sub"))))
  (k_with "+ne close" => (first | assumption | exact Ne.symm (by assumption) | exact Nat.ne_of_lt (by assumption) | exact Nat.ne_of_gt (by assumption) | exact Nat.ne_of_lt (Nat.lt_trans (by assumption) (by assumption)) | exact Nat.ne_of_gt (Nat.lt_trans (by assumption) (by assumption)) | (rename _ ∧ _ => hh9; obtain ⟨_, _⟩ := hh9; walk_at "ne close")))
  (k_with "@k_ne" => ((refine neN ?_; (try dsimp only); with_reducible walk_at "ne close")))
  exact True.intro
end
section
section
variable {prog : Program} {w : World} {A : Around} {E : Value → Shared → Prop} {s : Shared}
theorem ti_item {it t : Addr} {i : Nat} {items : Array Value} {x : Value} {Q : Option Value → Shared → Prop} (hit : s.heap.IsTupleIter it t i)
    (ht : s.heap.IsTuple t items) (hx : items[i]? = some x)
    (hQ : ∀ h', h'.IsTupleIter it t (i + 1) → Heap.SameBut it s.heap h' → Q (some x) { s with heap := h' }) :
    wpAny (model prog w) A (callSpecial? (.ref it) (Str.ofString "__next__")) Q E s := by
  obtain ⟨o, ho, hc, hd⟩ := id hit
  obtain ⟨ol, hol, _, nl, hdl⟩ := ht
  refine wpAny_callSpecial?_slot (name := Str.ofString "__next__") hit.typeIs F.slot_tuple_iterator_next
    (wpAny_call_entry F.slot_tuple_iterator_next hit.typeIs F.entry_tuple_iterator_next ?_ (F.args_tuple_iterator_next_1 _))
  show wpAny _ _ (field (.ref it) 0 >>= _) _ _ s
  refine wpAny_bind (wpAny_field ho hd (x := .ref t) rfl ?_)
  show wpAny _ _ (if (Value.ref t == Value.none) = true then _ else _) _ _ s
  rw [if_neg (show ¬ ((Value.ref t == Value.none) = true) from Bool.false_ne_true)]
  show wpAny _ _ (field (.ref it) 1 >>= _) _ _ s
  refine wpAny_bind (wpAny_field ho hd (x := .int i 0) rfl ?_)
  show wpAny _ _ (seqItems? (.ref t) >>= _) _ _ s
  refine wpAny_bind (wpAny_seqItems hol hdl ?_)
  simp only [Int.toNat_natCast, hx]
  refine wpAny_bind (wpAny_setField ho hd (by simp) (wpAny_pure ⟨x, rfl, hQ _ ?_ (Heap.SameBut.update ..)⟩))
  exact ⟨_, Heap.get?_update_self _ ho (Obj.isFreed_of_fields (Obj.data_mapFields hd _)), (Obj.cls_mapFields ..).trans hc, by
    rw [Obj.data_mapFields hd]; simp [rawInt]⟩
theorem ti_end {it t : Addr} {i : Nat} {items : Array Value} {Q : Option Value → Shared → Prop} (hh : A.handled = none)
    (hit : s.heap.IsTupleIter it t i) (ht : s.heap.IsTuple t items) (hx : items[i]? = none)
    (hQ : ∀ h' e o, Heap.ExtBut it s.heap h' → h'.get? e = some o → o.cls = .type "StopIteration" → (∃ x0 x1 x2 x3 x4, o.data = .fields #[x0, x1, x2, x3, x4, .none]) → E (.ref e) { s with heap := h' }) : wpAny (model prog w) A (callSpecial? (.ref it) (Str.ofString "__next__")) Q E s := by
  obtain ⟨o, ho, hc, hd⟩ := id hit
  obtain ⟨ol, hol, _, nl, hdl⟩ := ht
  refine wpAny_callSpecial?_slot (name := Str.ofString "__next__") hit.typeIs F.slot_tuple_iterator_next
    (wpAny_call_entry F.slot_tuple_iterator_next hit.typeIs F.entry_tuple_iterator_next ?_ (F.args_tuple_iterator_next_1 _))
  show wpAny _ _ (field (.ref it) 0 >>= _) _ _ s
  refine wpAny_bind (wpAny_field ho hd (x := .ref t) rfl ?_)
  show wpAny _ _ (if (Value.ref t == Value.none) = true then _ else _) _ _ s
  rw [if_neg (show ¬ ((Value.ref t == Value.none) = true) from Bool.false_ne_true)]
  show wpAny _ _ (field (.ref it) 1 >>= _) _ _ s
  refine wpAny_bind (wpAny_field ho hd (x := .int i 0) rfl ?_)
  show wpAny _ _ (seqItems? (.ref t) >>= _) _ _ s
  refine wpAny_bind (wpAny_seqItems hol hdl ?_)
  simp only [Int.toNat_natCast, hx]
  refine wpAny_bind (wpAny_rule (wpAny_bind (wpAny_setField ho hd (by simp) ?_)))
  show wpAny _ _ (newExc (.type "StopIteration") [] >>= _) _ _ _
  refine wpAny_bind ?_
  simp only [newExc, newTuple]
  refine wpAny_bind (wpAny_newObj_type ?_ (by size_fits))
  refine wpAny_bind (m := firstArgMember _ _) (wpAny_of_eq (a := Value.none) (by first | rfl | (simp only [firstArgMember]; rfl)) ?_)
  refine wpAny_newObj_type ?_ (by size_fits)
  simp only [raiseNew]
  refine wpAny_bind (wpAny_handled ?_)
  first | rw [show A.in1.handled = none from hh] | rw [hh]
  refine wpAny_bind (wpAny_pure (wpAny_throw ?_))
  exact hQ _ _ _ (((Heap.SameBut.update ..).extBut.push _).push _) (Heap.get?_push_size _ rfl) rfl ⟨_, _, _, _, _, rfl⟩
end
/-- what stands while a tuple is handed out -/
structure YStep (P : Addr → Prop) (I : Addr) (s₀ s : Shared) : Prop where
  kept : ∀ b o, P b → b ≠ I → s₀.heap.get? b = some o → s.heap.get? b = some o
  gens : s.gens = s₀.gens
  drawn : s.drawn = s₀.drawn
  os : s.os = s₀.os
/-- the addresses that must stand -/
noncomputable def yP (href : Heap) (S a : Addr) (b : Addr) : Prop := (∃ o, href.get? b = some o) ∨ b = S ∨ b = a
noncomputable def yR (href : Heap) (S a : Addr) : GenEnd := fun n s₀ r s₁ => r = .ok (.ret .none) ∧ (n = 0 ∧ ∃ I, ¬ yP href S a I ∧ YStep (yP href S a) I s₀ s₁)
noncomputable def yY (href : Heap) (S a : Addr) (vals : List Value) : Protocol := fun m s₀ v s kap =>
  vals[vals.length - 1 - m]? = some v ∧ (∃ I, ¬ yP href S a I ∧ YStep (yP href S a) I s₀ s) ∧ ∀ s'' : Shared, (∀ b o, b ≠ S → s.heap.get? b = some o → s''.heap.get? b = some o) → kap (.send .none) s''
noncomputable abbrev yCode (I : Addr) : Code := .builtin "proto.yield_from" ⟨[.ref I, .bool false, .none], []⟩
theorem entry_yf : entryFor table "proto.yield_from" = some Builtin.«proto.yield_from» := entryFor_of_tree (by kernel_rfl)
theorem ti_noclose : typeLookup (.type "tuple_iterator") "close" = pure none := by rw [typeLookup_type, builtinLookup_eq_fast]; kernel_rfl
theorem den_entry {prog : Program} {w : World} {id : String} {args : Args} {b : Builtin} (hb : entryFor table id = some b) : (model prog w).den (.builtin id args) = b args := by
  show (match entryFor table id with | some b => b args | none => unsupported ((withoutEnding? id "#data").getD id)) = _
  rw [hb]
theorem den_yf {prog : Program} {w : World} {I : Addr} : (model prog w).den (yCode I) = Builtin.«proto.yield_from» ⟨[.ref I, .bool false, .none], []⟩ := den_entry entry_yf
section
variable {prog : Program} {w : World} {A : Around} {href : Heap} {S I T a : Addr} {vals : List Value} {fs : List PySem.Frame}
theorem yf_seg (hov : (A.over (yCode I) fs).handled = none) (hfs : splitAtGen fs = none) (hfg : fs.any PySem.Frame.guarded = false) (hI : ¬ yP href S a I) (hT : T ≠ I) (hTS : T ≠ S)
    (hend : ∀ s₀ s', YStep (yP href S a) I s₀ s' → Seg (model prog w) A (yR href S a) (yY href S a vals) 0 s₀ (yCode I) (leafOf (.ok (.ret .none))) fs s') :
    ∀ (k i : Nat) (s₀ s : Shared), vals.length - i = k → i ≤ vals.length → s.heap.IsTupleIter I T i → s.heap.IsTuple T vals.toArray → YStep (yP href S a) I s₀ s →
      Seg (model prog w) A (yR href S a) (yY href S a vals) (vals.length - i) s₀ (yCode I) ((model prog w).den (yCode I)) fs s := by
  intro k
  induction k with
  | zero =>
    intro i s₀ s hk hi hit ht st
    rw [den_yf]
    unfold Builtin.«proto.yield_from»
    dsimp only
    refine seg_bind (wpAny_pure ?_)
    refine seg_bind ?_
    refine wpAny_attempt (wpAny_holding ?_)
    rw [if_neg Bool.false_ne_true]
    show wpAny _ _ (if (Value.none == Value.none) = true then _ else _) _ _ s
    rw [if_pos (by decide)]
    refine wpAny_bind (wpAny_rule ?_)
    refine wpAny_bind (ti_end hov hit ht (by simp; omega) fun h' e o hx he hc hd => ?_)
    dsimp only
    refine seg_bind ?_
    unfold Builtin.Generator.endsTheTurnAsAValue Builtin.Generator.isStopAndMetaclass
    refine wpAny_bind (wpAny_bind (wpAny_typeOf ⟨o, he, hc⟩ ?_))
    dsimp only
    refine wpAny_bind (wpAny_of_eq isSubtype_stop ?_)
    refine wpAny_bind (m := typeOf (.type "StopIteration")) (wpAny_pure (wpAny_pure ?_))
    rw [if_neg Bool.false_ne_true]
    refine wpAny_pure ?_
    rw [if_pos rfl, if_neg Bool.false_ne_true]
    obtain ⟨x0, x1, x2, x3, x4, hd⟩ := hd
    refine seg_bind (wpAny_rule ?_)
    refine seg_bind (wpAny_field he hd (x := .none) rfl ?_)
    rw [hk]
    exact hend s₀ _ ⟨fun b o hp hb e => hx b o hb (st.kept b o hp hb e), st.gens, st.drawn, st.os⟩
  | succ k ih =>
    intro i s₀ s hk hi hit ht st
    have hIS : I ≠ S := fun e => hI (.inr (.inl e))
    have hlt : i < vals.length := nb_lt hk
    rw [den_yf]
    unfold Builtin.«proto.yield_from»
    dsimp only
    refine seg_bind (wpAny_pure ?_)
    refine seg_bind ?_
    refine wpAny_attempt (wpAny_holding ?_)
    rw [if_neg Bool.false_ne_true]
    show wpAny _ _ (if (Value.none == Value.none) = true then _ else _) _ _ s
    rw [if_pos (by decide)]
    refine wpAny_bind (wpAny_rule ?_)
    refine wpAny_bind (ti_item hit ht (x := vals[i]) (by simp [hlt]) fun h' hit' hs' => wpAny_pure ?_)
    dsimp only
    obtain ⟨o, ho, hc, hd⟩ := id hit'
    refine seg_bind (wpAny_typeOf ⟨o, ho, hc⟩ ?_)
    refine seg_bind (wpAny_of_eq ti_noclose ?_)
    refine seg_bind (wpAny_pure ?_)
    have sl : ∀ {b : Bool} {s : Shared} {A' : Around} {Q : Unit → Shared → Prop} {E : Value → Shared → Prop} {o : Obj}, s.heap.get? I = some o → o.cls = .type "tuple_iterator" → Q () s → wpAny (model prog w) A' (Builtin.Generator.sleptOver (.ref I) b) Q E s := by
      intro b s A' Q E o h1 h2 h3
      unfold Builtin.Generator.sleptOver
      refine wpAny_bind (wpAny_load h1 ?_)
      rw [h2]
      exact wpAny_pure h3
    refine seg_bind (sl ho hc ?_)
    rw [nb_succ hlt]
    have hTa : h'.IsTuple T vals.toArray := ht.extBut hs'.extBut hT
    refine seg_yield hfs rfl hfg ⟨?_, ⟨I, hI, ⟨fun b o hp hb e => hs'.extBut b o hb (st.kept b o hp hb e), st.gens, st.drawn, st.os⟩⟩, fun s'' hal => ?_⟩
    · rw [nb_back hlt]; simp [hlt]
    · have ho2 := hal I o hIS ho
      refine seg_bind (wpAny_pure ?_)
      refine seg_bind (sl ho2 hc ?_)
      refine seg_bind (wpAny_pure ?_)
      refine seg_again (plainId_quiet (id := "proto.yield_from") (by decide +kernel) _) (ih (i + 1) s'' s'' (nb_step hk) hlt ⟨o, ho2, hc, hd⟩ ?_ ⟨fun _ _ _ _ e => e, rfl, rfl, rfl⟩)
      obtain ⟨oT, hoT, r⟩ := hTa
      exact ⟨oT, hal T oT hTS hoT, r⟩
end
end
section
section
variable {prog : Program} {w : World} {dp un : Nat} {gd : Option (List Code)} {env : Env} {outer : List Env} {href : Heap} {S a : Addr} {vals : List Value} {genv : Env} {tup : PySem.Expr} {ypos pos : Pos} {s : Shared}
theorem body_seg (hint : interactive genv = false)
    (hev : ∀ (Q E : Value → Shared → Prop), (∀ T h' tk', h'.IsTuple T vals.toArray → T ≠ S → (∀ b o, yP href S a b → s.heap.get? b = some o → h'.get? b = some o) → Q (.ref T) ⟨h', s.gens, s.drawn, tk', s.os⟩) →
      wpAny (model prog w) ((topA dp un gd env outer).over (.func [.Expr (.YieldFrom tup ypos) pos] genv) []) (eval tup genv) Q E s)
    (hr : ∀ b, yP href S a b → ∃ o, s.heap.get? b = some o) :
    Seg (model prog w) (topA dp un gd env outer) (yR href S a) (yY href S a vals) vals.length s (.func [.Expr (.YieldFrom tup ypos) pos] genv) ((model prog w).den (.func [.Expr (.YieldFrom tup ypos) pos] genv)) [] s := by
  refine seg_func (seg_execs_cons ?_)
  rw [exec_Expr genv _ pos hint rfl]
  refine seg_at ?_
  show Seg _ _ _ _ _ _ _ (((eval tup genv >>= fun v => standAt ypos >>= fun _ => yieldFrom genv v) >>= fun x => dropValue (.YieldFrom tup ypos) pos x).wrap _ _ _ _) _ _
  rw [Sem.bind_eq_wrap', Sem.bind_eq_wrap', Sem.wrap_wrap, Sem.wrap_wrap]
  refine seg_wrap (hev _ _ fun T h' tk' hT hTS hk => ?_)
  refine seg_at ?_
  unfold yieldFrom
  obtain ⟨oT, hoT, hcT, r⟩ := id hT
  show Seg _ _ _ _ _ _ _ ((typeOf (.ref T) >>= fun t => (if (t == .type "coroutine") = true then _ else (holding [.ref T] (pyIter (.ref T)) >>= fun it => runValue (.builtin "proto.yield_from" ⟨[it, .bool false, .none], []⟩)))).wrap _ _ _ _) _ _
  refine seg_bind_wrap (wpAny_typeOf ⟨oT, hoT, hcT⟩ ?_)
  rw [if_neg (by decide)]
  refine seg_bind_wrap (wpAny_holding (wpAny_pyIter_tuple hT ?_))
  have lt : ∀ b o, h'.get? b = some o → b ≠ h'.objs.size := fun b o e => Nat.ne_of_lt (Heap.lt_size e)
  have hI : ¬ yP href S a h'.objs.size := fun hp => by
    obtain ⟨o, e⟩ := hr _ hp
    exact lt _ _ (hk _ _ hp e) rfl
  refine seg_call fun p => ?_
  rw [← Nat.sub_zero vals.length]
  refine yf_seg (T := T) rfl rfl rfl hI (lt T oT hoT) hTS (fun s₀ s' y => ?_) vals.length 0 s _ (Nat.sub_zero _) (Nat.zero_le _) ⟨_, Heap.get?_push_size _ rfl, rfl, rfl⟩ (hT.push _) ⟨fun b o hp _ e => Heap.get?_push_of_some _ (hk b o hp e), rfl, rfl, rfl⟩
  refine seg_leaf (.ok (.ret .none)) ?_
  exact seg_end (.ok (.ret .none)) ⟨rfl, rfl, _, hI, y⟩
end
end
section
structure YSt (w : World) (dp un : Nat) (gd : Option (List Code)) (env : Env) (outer : List Env) (vals : List Value) (S a : Addr) (gi : Nat) (href : Heap) (g0 : Array GenState) (os0 : OsState) (dr0 : Drawn) (acc : List Value) (s : Shared) : Prop where
  out : acc = vals.take acc.length
  few : acc.length ≤ vals.length
  kept : ∀ b o, b ≠ S → href.get? b = some o → s.heap.get? b = some o
  gen : s.heap.IsGen a gi
  os : s.os = os0
  drawn : s.drawn = dr0
  gens : GenOnly gi g0 s.gens
  goes : ∃ gs, s.gens[gi]? = some gs ∧ ∀ s'' : Shared, (∀ b o, b ≠ S → s.heap.get? b = some o → s''.heap.get? b = some o) → (acc = [] → ∃ o, s''.heap.get? S = some o) → s''.os = s.os → s''.drawn = s.drawn →
    gs.Goes (model PySem.Challenge.rw_lh0061_01.row.prog w) (topA dp (un + 4) gd env outer) (yR href S a) (yY href S a vals) (vals.length - acc.length) (.send .none) s''
structure YFin (vals : List Value) (S : Addr) (gi : Nat) (href : Heap) (g0 : Array GenState) (os0 : OsState) (dr0 : Drawn) (acc : List Value) (s : Shared) : Prop where
  out : acc = vals
  kept : ∀ b o, b ≠ S → href.get? b = some o → s.heap.get? b = some o
  os : s.os = os0
  drawn : s.drawn = dr0
  gens : GenOnlyQ gi g0 s.gens
section
variable {w : World} {dp un : Nat} {gd : Option (List Code)} {env : Env} {outer : List Env} {vals : List Value} {S a : Addr} {gi : Nat} {href : Heap} {g0 : Array GenState} {os0 : OsState} {dr0 : Drawn}
theorem y_yield (hvals : vals ≠ []) (haS : a ≠ S) (hnl : href.NoLimit) (hcs : cStatics ≠ S) (hd : dp < recursionLimit) :
    YieldsL PySem.Challenge.rw_lh0061_01.row.prog w (topA dp (un + 3) gd env outer) a S vals.length (YSt w dp un gd env outer vals S a gi href g0 os0 dr0) (YFin vals S gi href g0 os0 dr0) where
  typ := fun acc s st => st.gen.typeIs
  frame := fun acc s h' tk st hk => {
    out := st.out
    few := st.few
    kept := fun b o h3 e => hk b o h3 (st.kept b o h3 e)
    gen := let ⟨o, nm, qn, ho, r⟩ := st.gen; ⟨o, nm, qn, hk a o haS ho, r⟩
    os := st.os
    drawn := st.drawn
    gens := st.gens
    goes := let ⟨gs, h1, h2⟩ := st.goes; ⟨gs, h1, fun s'' hal hs e1 e2 => h2 s'' (fun b o hb e => hal b o hb (hk b o hb e)) hs e1 e2⟩ }
  finFrame := fun acc s h' tk st hk => ⟨st.out, fun b o h3 e => hk b o (st.kept b o h3 e), st.os, st.drawn, st.gens⟩
  item := fun acc s Q E hi st hS hQ => by
    obtain ⟨gs, hgs, hgo⟩ := st.goes
    obtain ⟨m, hm⟩ : ∃ m, vals.length - acc.length = m + 1 := ⟨vals.length - acc.length - 1, nb_succ' hi⟩
    rw [hm] at hgo
    have hl : s.heap.NoLimit := let ⟨mc, hns, hnn⟩ := hnl; ⟨mc, hns.at' fun o e => st.kept _ o hcs e, hnn⟩
    obtain ⟨oS, hoS, hcS⟩ := hS
    refine wpAny_pyNext_gen (P := fun n s₀ s₁ => n = 0 ∧ ∃ I, ¬ yP href S a I ∧ YStep (yP href S a) I s₀ s₁) rfl hl hd st.gen hgs (hgo _ (fun _ _ _ e => e) (fun _ => ⟨oS, hoS⟩) rfl rfl) (fun v s₁ gs' hv => ?_) (fun s₁ hp h' hk => ?_)
    · obtain ⟨hzi, ⟨I, hI, y⟩, hkap⟩ := hv
      have hIS : I ≠ S := fun e => hI (.inr (.inl e))
      have hidx : vals.length - 1 - (m + 1 - 1) = acc.length := nb_back' hi hm
      rw [hidx] at hzi
      have up : ∀ b o, yP href S a b → s.heap.get? b = some o → s₁.heap.get? b = some o := fun b o h1 e => y.kept b o h1 (fun q => hI (q ▸ h1)) e
      refine hQ _ _ ?_ fun o e => up S o (.inr (.inl rfl)) e
      refine ⟨?_, ?_, fun b o h3 e => up b o (.inl ⟨o, e⟩) (st.kept b o h3 e), ?_, y.os.trans st.os, y.drawn.trans st.drawn, ?_, gs', ?_, fun s'' hal hs e1 e2 => ?_⟩
      · rw [List.length_append, List.length_singleton, List.take_add_one, hzi]
        conv => lhs; rw [st.out]
        rfl
      · rw [List.length_append, List.length_singleton]; exact hi
      · obtain ⟨o, nm, qn, ho, r⟩ := st.gen
        exact ⟨o, nm, qn, up a o (.inr (.inr rfl)) ho, r⟩
      · have e : (s₁.setGen gi gs').gens = (s.setGen gi .running).gens.setIfInBounds gi gs' := by rw [← y.gens]; rfl
        rw [e]
        exact st.gens.trans ((GenOnly.setGen s gi .running).trans (GenOnly.setGen (s.setGen gi .running) gi gs'))
      · exact setGen_self (gs := .running) (by rw [y.gens]; exact setGen_self hgs)
      · have e : vals.length - (acc ++ [v]).length = m := by rw [List.length_append, List.length_singleton]; exact nb_step hm
        rw [e]
        exact hkap s'' hal
    · exact absurd hp.1 (Nat.succ_ne_zero m)
  done := fun acc s Q E hi st hQ => by
    obtain ⟨gs, hgs, hgo⟩ := st.goes
    rw [hi, Nat.sub_self] at hgo
    have hl : s.heap.NoLimit := let ⟨mc, hns, hnn⟩ := hnl; ⟨mc, hns.at' fun o e => st.kept _ o hcs e, hnn⟩
    refine wpAny_pyNext_gen (P := fun n s₀ s₁ => n = 0 ∧ ∃ I, ¬ yP href S a I ∧ YStep (yP href S a) I s₀ s₁) rfl hl hd st.gen hgs (hgo _ (fun _ _ _ e => e) (fun q => absurd (List.length_eq_zero_iff.mp (hi.symm.trans (by rw [q]; rfl))) hvals) rfl rfl) (fun v s₁ gs' hv => ?_) (fun s₁ hp h' hk => ?_)
    · obtain ⟨_, _, hkap⟩ := hv
      exact False.elim (hkap s₁ fun _ _ _ e => e)
    · obtain ⟨_, I, hI, y⟩ := hp
      have up : ∀ b o, yP href S a b → s.heap.get? b = some o → h'.get? b = some o := fun b o h1 e => hk b o (y.kept b o h1 (fun q => hI (q ▸ h1)) e)
      refine hQ _ ⟨?_, fun b o h3 e => up b o (.inl ⟨o, e⟩) (st.kept b o h3 e), y.os.trans st.os, y.drawn.trans st.drawn, ?_⟩ fun o e => up S o (.inr (.inl rfl)) e
      · have := st.out
        rwa [hi, List.take_length] at this
      · have e : (s₁.setGen gi .finished).gens = (s.setGen gi .running).gens.setIfInBounds gi .finished := by rw [← y.gens]; rfl
        show GenOnlyQ gi g0 (s₁.setGen gi .finished).gens
        refine GenOnlyQ.of (y := .finished) ?_ (setGen_self (gs := .running) (by rw [y.gens]; exact setGen_self hgs)) rfl
        rw [e]
        exact st.gens.trans ((GenOnly.setGen s gi .running).trans (GenOnly.setGen (s.setGen gi .running) gi .finished))
  self := fun acc s Q E st hQ => wpAny_pyIter_gen st.gen hQ
end
end
section
theorem fi_359 (w : World) : PySem.Challenge.rw_lh0061_01 = PySem.Challenge.rw_lh0061_01 → findIn (Mine.fr.heap_1 w.params) (.ref 448) "__iter__" = some (some (.ref 359)) := by
  k_fill
  intro _
  k_is
theorem fl_448 (w : World) : PySem.Challenge.rw_lh0061_01 = PySem.Challenge.rw_lh0061_01 → findIn (Mine.fr.heap_1 w.params) (.ref 448) "__len__" = some none := by
  k_fill
  intro _
  k_is
theorem fh_448 (w : World) : PySem.Challenge.rw_lh0061_01 = PySem.Challenge.rw_lh0061_01 → findIn (Mine.fr.heap_1 w.params) (.ref 448) "__length_hint__" = some none := by
  k_fill
  intro _
  k_is
theorem ft_359 (w : World) : PySem.Challenge.rw_lh0061_01 = PySem.Challenge.rw_lh0061_01 → typeIn (Mine.fr.heap_1 w.params) (.ref 359) = some (.type "function") := by
  k_fill
  intro _
  k_is
section
variable {w : World} {A : Around} {E : Value → Shared → Prop} {s : Shared} {x dx : Addr}
theorem inst_type (hx : s.heap.get? x = some (instObj 448 dx)) {Q : Value → Shared → Prop} (h : Q (.ref 448) s) : wpAny (model PySem.Challenge.rw_lh0061_01.row.prog w) A (typeOf (.ref x)) Q E s :=
  wpAny_bind (wpAny_loadPart hx (wpAny_pure h))
theorem inst_special (X : (Mine.fr.heap_1 w.params).In s.heap) (hx : s.heap.get? x = some (instObj 448 dx)) {name : Str} {r : Option Value} (e : findIn (Mine.fr.heap_1 w.params) (.ref 448) name = some r) {Q : Option Value → Shared → Prop} (h : Q r s) :
    wpAny (model PySem.Challenge.rw_lh0061_01.row.prog w) A (specialOf (.ref x) name) Q E s :=
  wpAny_bind (inst_type hx ((looks_findIn X e).here h))
theorem inst_iter (X : (Mine.fr.heap_1 w.params).In s.heap) (hx : s.heap.get? x = some (instObj 448 dx)) {Q : Value → Shared → Prop}
    (h : wpAny (model PySem.Challenge.rw_lh0061_01.row.prog w) A (call (.ref 359) [.ref x]) (fun it s' => s'.TypeIs it "generator" ∧ Q it s') E s) :
    wpAny (model PySem.Challenge.rw_lh0061_01.row.prog w) A (pyIter (.ref x)) Q E s := by
  unfold pyIter
  refine wpAny_bind (inst_special X hx (fi_359 w rfl) ?_)
  dsimp only
  unfold callSpecialIfBoundUnlessNone?
  refine wpAny_bind (wpAny_holding ?_)
  unfold bindSpecialIfBound?
  have hb : ∀ {Q' : Option (Value × List Value) → Shared → Prop} {E' : Value → Shared → Prop}, Q' (some (.ref 359, [.ref x])) s → wpAny (model PySem.Challenge.rw_lh0061_01.row.prog w) A (do return some (← bindSpecial (.ref 359) (.ref x))) Q' E' s := fun h =>
    wpAny_bind ((bind_fn X (.ref x) (ft_359 w rfl)).here (wpAny_pure h))
  refine wpAny_bind (wpAny_bind (inst_special X hx (fi_359 w rfl) ?_))
  dsimp only
  refine wpAny_bind (wpAny_askSetting ?_)
  have body : ∀ {t : Sem (Option (Value × List Value))} {Q' : Option (Value × List Value) → Shared → Prop}, Q' (some (.ref 359, [.ref x])) s → ∀ {b : Bool} {k : Value → Sem (Option (Value × List Value))},
      wpAny (model PySem.Challenge.rw_lh0061_01.row.prog w) A (if b = true then (do return some (← bindSpecial (.ref 359) (.ref x))) else Sem.tryCatch (do return some (← bindSpecial (.ref 359) (.ref x))) k) Q' E s := by
    intro t Q' hq b k
    split
    · exact hb hq
    · exact wpAny_tryCatch (hb hq)
  refine body (t := pure none) ?_
  dsimp only
  rw [if_neg (by decide)]
  refine wpAny_bind (wpAny_mono h (fun it s' hs => ?_) fun _ _ x => x)
  refine wpAny_pure ?_
  dsimp only
  refine wpAny_bind (wpAny_specialOf hs.1 slot_gen_next.lookup ?_)
  exact wpAny_pure hs.2
end
end
section
/-- a generator function's call -/
theorem codeAny_call_gen {prog : Program} {w : World} {A : Around} {s : Shared} {R : Result → Shared → Prop} {a : Addr} {o : Obj} {fd : FuncData} {body : List Stmt} {args : Args} {binds : List (Str × Value)}
    (hroom : A.depth < recursionLimit) (ho : s.heap.get? a = some o) (hdata : o.data = .func fd) (hlim : s.heap.NoLimit) (hcd : s.heap.CodeRec fd.code fd.qualname)
    (hbody : fd.body = .stmts body) (hbind : BindsTo s fd args binds)
    (hcell : ∀ x ∈ fd.scope.names, x.2 ≠ .cell) (hloc : ∀ x ∈ binds, fd.scope.names.lookup x.1 = some .local)
    (h : ∀ (h₀ : Heap) (tk : Nat), h₀.Ns s.heap.objs.size (fun x => binds.reverse.lookup x) → (∀ b o, s.heap.get? b = some o → h₀.get? b = some o) →
      R (.ok (.ret (.ref h₀.objs.size))) { s with heap := h₀.push { cls := .type "generator", data := .fields #[.int s.gens.size 0, .str fd.name tk, .str fd.qualname (tk + 1)] }, gens := s.gens.push (.fresh (.func body (callEnv fd s.heap.objs.size a))), toks := tk + 1 + 1 })
    (hco : fd.scope.isCoroutine = false := by rfl) (hgen : fd.scope.isGenerator = true := by rfl) (hk : fd.scope.kind = .function := by rfl) :
    codeAny (model prog w) A (.call (.ref a) args) R s := by
  refine codeAny_call_generator hroom ho hdata hco hgen hbody hcd (hbind _ _ _ _ ?_)
  refine wpAny_newFunctionEnv hcell hloc (fun h₀ hns₀ hsb₀ => ⟨hlim.fresh _ hsb₀, ?_⟩) hk
  exact h h₀ _ hns₀ fun b o e => hsb₀.extBut b o (Nat.ne_of_lt (Heap.lt_size e)) (Heap.get?_push_of_some _ e)
end
section
section
variable {prog : Program} {w : World} {A : Around} {s : Shared} {h₀ : Heap} {L : Addr} {m mg mb : Str → Option Value} {K : Frag} {p : Program} {loose : List Str} {mean : ExcName → Option Value}
  {R : Result → Shared → Prop} {name qual : Str} {params : Arguments} {body : List Stmt} {scope : Scope} {dV kV doc pm cdv ct oc : Value} {an od : Option Addr} {osl : Array (Option Value)} {f : Addr} {args : Args} {binds : List (Str × Value)}
theorem gen_keep (F : Fr h₀ L s.heap m) (X₀ : K.In h₀) (T : Top p loose mean mg mb h₀)
    (ho : K.lookup f = some ⟨oc, od, .func (fnOf name qual params body scope dV kV doc pm an cdv ct), osl⟩) (hcd : codeIn K cdv qual = true) (hroom : A.depth < recursionLimit)
    (hbind : BindsTo s (fnOf name qual params body scope dV kV doc pm an cdv ct) args binds) (hloc : ∀ y ∈ binds, scope.names.lookup y.1 = some .local)
    (h : ∀ (h₁ : Heap) (tk : Nat), h₁.Ns s.heap.objs.size (fun y => binds.reverse.lookup y) → (∀ b o, s.heap.get? b = some o → h₁.get? b = some o) →
      R (.ok (.ret (.ref h₁.objs.size))) { s with heap := h₁.push { cls := .type "generator", data := .fields #[.int s.gens.size 0, .str name tk, .str qual (tk + 1)] }, gens := s.gens.push (.fresh (.func body (envOf qual scope s.heap.objs.size f cdv))), toks := tk + 1 + 1 })
    (hco : scope.isCoroutine = false) (hgen : scope.isGenerator = true) (hk : scope.kind = .function)
    (hcell : ∀ x ∈ scope.names, x.2 ≠ .cell) : codeAny (model prog w) A (.call (.ref f) args) R s :=
  codeAny_call_gen (fd := fnOf name qual params body scope dV kV doc pm an cdv ct) (body := body) (binds := binds) hroom ((X₀.keeps F.keep) _ _ ho) rfl (T.nolimit.keeps F.keep) (codeRec_of (X₀.keeps F.keep) hcd) rfl hbind hcell hloc h hco hgen hk
end
theorem keep_two {g s1 h' : Heap} {L : Addr} {m m' : Str → Option Value} {led : List (Addr × Obj)} (F1 : Fr g L s1 m) (N1 : News g L s1 led) (F2 : Fr g L h' m') (N2 : News g L h' led) {b : Addr} {o : Obj} (hb : (∃ o, g.get? b = some o) ∨ b ∈ led.map (·.1)) (e : s1.get? b = some o) : h'.get? b = some o := by
  rcases hb with ⟨o', h⟩ | h
  · have := F1.keep _ _ h
    rw [this] at e; cases e
    exact F2.keep _ _ h
  · obtain ⟨q, hq, rfl⟩ := List.mem_map.mp h
    have := (N1 q hq).1
    rw [this] at e; cases e
    exact (N2 q hq).1
section
variable {w : World} {p : Program} {loose : List Str} {mean : ExcName → Option Value} {mg mb : Str → Option Value} {dp un : Nat} {gd : Option (List Code)} {env : Env} {outer : List Env} {A₀ : Around} {base h₀ : Heap} {L : Addr} {m : Str → Option Value}
  {s : Shared} {R : Result → Shared → Prop} {led : List (Addr × Obj)} {k1 k2 k3 k4 k5 k6 k7 k8 : Tok} {a b c : Int} {t1 t2 t3 : Tok} {n : Nat} {x dx tp tb tk r1 S : Addr} {oS : Obj}
theorem iter_call (B : Below A₀ base outer h₀) (F : Fr h₀ L s.heap m) (N : News h₀ L s.heap [(S, oS), (x, instObj 448 dx), (dx, dictOf (vent8 w.params k1 k2 k3 k4 k5 k6 k7 k8 a b c t1 t2 t3 tp tb tk r1) n)])
    (T : Top p loose mean mg mb h₀) (X : (Mine.fr.heap_1 w.params).In h₀) (hf : env.frame = some L) (hk : env.scope.kind = .function) (hd : dp + 8 < recursionLimit) (hu : un + 60 < cLine) (xS : x ≠ S) (dxS : dx ≠ S)
    (ret : ∀ a' gi h' g' tk', YSt w dp un gd env outer [.int a t1, .int b t2, .int c t3, .ref tp, .ref tb] S a' gi s.heap g' s.os s.drawn [] ⟨h', g', s.drawn, tk', s.os⟩ → (∀ b o, s.heap.get? b = some o → h'.get? b = some o) → s.heap.get? a' = none → (AllBare s.gens → AllBare g') →
      R (.ok (.ret (.ref a'))) ⟨h', g', s.drawn, tk', s.os⟩) :
    codeAny (model PySem.Challenge.rw_lh0061_01.row.prog w) (topA dp (un + 3) gd env outer) (.call (.ref 359) ⟨[.ref x], []⟩) R s := by
  revert X
  k_fill
  intro X
  refine' gen_keep ?kF ?kX ?kT ?k6 ?k7 ?k8 ?k9 ?kB ?_ ?c2 ?c3 ?c4 ?c5
  case kF => exact F
  case kX => exact X
  case kT => exact T
  case k6 => k_is
  case k7 => k_is
  case k8 => ktr_room
  case k9 => first | exact BindsTo.of_eq rfl | exact binds_K (by k_in) rfl (by k_is) rfl rfl rfl
  case c5 => decide
  case kB => exact locs rfl
  case c2 => exact rfl
  case c3 => exact rfl
  case c4 => exact rfl
  intro h₁ tk₁ hns hk₁
  have sz : s.heap.objs.size < h₁.objs.size := by obtain ⟨o, _, _, ho, _⟩ := hns; exact Heap.lt_size ho
  have hS0 := N _ List.mem_cons_self
  have SL : S < s.heap.objs.size := Heap.lt_size hS0.1
  have aS : h₁.objs.size ≠ S := Ne.symm (Nat.ne_of_lt (Nat.lt_trans SL sz))
  refine ret h₁.objs.size s.gens.size _ _ _ ⟨rfl, Nat.zero_le _, fun b o _ e => Heap.get?_push_of_some _ (hk₁ b o e), ⟨_, _, _, Heap.get?_push_size _ rfl, rfl, rfl, rfl⟩, rfl, rfl, ⟨rfl, fun _ _ => rfl⟩, _, Array.getElem?_push_size .., fun s'' hal hs e1 e2 => ⟨rfl, ?_⟩⟩ (fun b o e => Heap.get?_push_of_some _ (hk₁ b o e)) ?_ (fun hb => hb.push rfl)
  rotate_left
  · cases e : s.heap.get? h₁.objs.size with
    | none => rfl
    | some o => exact absurd (Heap.lt_size (hk₁ _ _ e)) (Nat.lt_irrefl _)
  obtain ⟨oS2, hS2⟩ := hs rfl
  have ha2 : s''.heap.get? h₁.objs.size = some { cls := .type "generator", data := .fields #[.int s.gens.size 0, .str (Str.ofString "__iter__") tk₁, .str (Str.ofString "Version.__iter__") (tk₁ + 1)] } := hal _ _ aS (Heap.get?_push_size _ rfl)
  have up : ∀ b o, b ≠ S → s.heap.get? b = some o → s''.heap.get? b = some o := fun b o hb e => hal b o hb (Heap.get?_push_of_some _ (hk₁ b o e))
  refine body_seg rfl (fun Q E hq => ?_) (fun b hb => ?_)
  rotate_left
  · rcases hb with ⟨o, e⟩ | rfl | rfl
    · by_cases q : b = S
      · exact ⟨_, q ▸ hS2⟩
      · exact ⟨_, up b o q e⟩
    · exact ⟨_, hS2⟩
    · exact ⟨_, ha2⟩
  obtain ⟨FG, BG, st, -⟩ := groundX (A := topA dp (un + 3) gd env outer) (s := s) (R := fun _ _ => True) B F N rfl hf hk
  have gsz : (hideAll s.heap (([(S, oS), (x, instObj 448 dx), (dx, dictOf (vent8 w.params k1 k2 k3 k4 k5 k6 k7 k8 a b c t1 t2 t3 tp tb tk r1) n)] : List (Addr × Obj)).map (·.1))).objs.size = s.heap.objs.size := hideAll_size _ _
  have gof : ∀ y o, (hideAll s.heap (([(S, oS), (x, instObj 448 dx), (dx, dictOf (vent8 w.params k1 k2 k3 k4 k5 k6 k7 k8 a b c t1 t2 t3 tp tb tk r1) n)] : List (Addr × Obj)).map (·.1))).get? y = some o → s.heap.get? y = some o := fun y o e => of_hideAll _ e
  have gno : ∀ q ∈ [(S, oS), (x, instObj 448 dx), (dx, dictOf (vent8 w.params k1 k2 k3 k4 k5 k6 k7 k8 a b c t1 t2 t3 tp tb tk r1) n)], (hideAll s.heap (([(S, oS), (x, instObj 448 dx), (dx, dictOf (vent8 w.params k1 k2 k3 k4 k5 k6 k7 k8 a b c t1 t2 t3 tp tb tk r1) n)] : List (Addr × Obj)).map (·.1))).get? q.1 = none := fun q hq => hideAll_none _ (List.mem_map_of_mem hq)
  have gyes : ∀ y o, s.heap.get? y = some o → y ∉ [S, x, dx] → (hideAll s.heap (([(S, oS), (x, instObj 448 dx), (dx, dictOf (vent8 w.params k1 k2 k3 k4 k5 k6 k7 k8 a b c t1 t2 t3 tp tb tk r1) n)] : List (Addr × Obj)).map (·.1))).get? y = some o := fun y o e hn => hideAll_get _ e hn
  have X2 := X.keeps st
  have T2 := T.keeps st
  revert FG BG gsz gof gno gyes X2 T2
  clear st
  generalize hideAll s.heap (([(S, oS), (x, instObj 448 dx), (dx, dictOf (vent8 w.params k1 k2 k3 k4 k5 k6 k7 k8 a b c t1 t2 t3 tp tb tk r1) n)] : List (Addr × Obj)).map (·.1)) = g
  intro FG BG gsz gof gno gyes X2 T2
  have gS : ∀ b o, g.get? b = some o → b ≠ S := fun b o e q => by rw [q, gno _ List.mem_cons_self] at e; cases e
  have F2 : Fr g s.heap.objs.size s''.heap _ := ⟨(hns.push _).at' fun o e => hal _ o (Nat.ne_of_gt SL) e, fun b o e => up b o (gS b o e) (gof b o e), Nat.le_of_eq gsz⟩
  have hxs := N _ (List.mem_cons_of_mem _ List.mem_cons_self)
  have hds := N _ (List.mem_cons_of_mem _ (List.mem_cons_of_mem _ List.mem_cons_self))
  have N2 : News g s.heap.objs.size s''.heap [(x, instObj 448 dx), (dx, dictOf (vent8 w.params k1 k2 k3 k4 k5 k6 k7 k8 a b c t1 t2 t3 tp tb tk r1) n), (S, oS2), (h₁.objs.size, { cls := .type "generator", data := .fields #[.int s.gens.size 0, .str (Str.ofString "__iter__") tk₁, .str (Str.ofString "Version.__iter__") (tk₁ + 1)] })] := by
    intro q hq
    simp only [List.mem_cons, List.not_mem_nil, or_false] at hq
    rcases hq with rfl | rfl | rfl | rfl
    · exact ⟨up _ _ xS hxs.1, Nat.ne_of_lt (Heap.lt_size hxs.1), gno (x, instObj 448 dx) (by simp)⟩
    · exact ⟨up _ _ dxS hds.1, Nat.ne_of_lt (Heap.lt_size hds.1), gno (dx, dictOf (vent8 w.params k1 k2 k3 k4 k5 k6 k7 k8 a b c t1 t2 t3 tp tb tk r1) n) (by simp)⟩
    · exact ⟨hS2, Nat.ne_of_lt SL, gno (S, oS) (by simp)⟩
    · refine ⟨ha2, Nat.ne_of_gt sz, ?_⟩
      cases e : g.get? h₁.objs.size with
      | none => rfl
      | some o => exact absurd (Heap.lt_size e) (by rw [gsz]; exact Nat.not_lt.mpr (Nat.le_of_lt sz))
  show wpAny _ (topA (dp + 1) _ gd _ (env :: outer)) _ _ _ _
  obtain ⟨hh, gg, dd, tt, oo⟩ := s''
  dsimp only at *
  have fin : ∀ (D : Addr) (h' : Heap) (tk' : Nat) (m' : Str → Option Value), Fr g s.heap.objs.size h' m' → News g s.heap.objs.size h' ((D, ({ cls := .type "tuple", data := .seq #[.int a t1, .int b t2, .int c t3, .ref tp, .ref tb] } : Obj)) :: [(x, instObj 448 dx), (dx, dictOf (vent8 w.params k1 k2 k3 k4 k5 k6 k7 k8 a b c t1 t2 t3 tp tb tk r1) n), (S, oS2), (h₁.objs.size, { cls := .type "generator", data := .fields #[.int s.gens.size 0, .str (Str.ofString "__iter__") tk₁, .str (Str.ofString "Version.__iter__") (tk₁ + 1)] })]) → (x < D ∧ dx < D ∧ S < D ∧ h₁.objs.size < D) → Q (.ref D) ⟨h', gg, dd, tk', oo⟩ := by
    intro D h' tk' m' F3 N3 lt
    refine hq _ _ _ ⟨_, (N3 _ List.mem_cons_self).1, rfl, _, rfl⟩ (Ne.symm (Nat.ne_of_lt lt.2.2.1)) fun y o hp e => keep_two F2 N2 F3 (fun q hq => N3 q (List.mem_cons_of_mem _ hq)) ?_ e
    rcases hp with ⟨o', e'⟩ | rfl | rfl
    · by_cases q : y ∈ [S, x, dx]
      · refine .inr ?_
        simp only [List.mem_cons, List.not_mem_nil, or_false, List.map_cons, List.map_nil] at q ⊢
        rcases q with q | q | q
        · exact .inr (.inr (.inl q))
        · exact .inl q
        · exact .inr (.inl q)
      · exact .inl ⟨_, gyes y o' e' q⟩
    · exact .inr (by simp)
    · exact .inr (by simp)
  k_steps
  all_goals exact fin _ _ _ _ (by with_reducible assumption) (by with_reducible assumption) (by assumption)
end
end
section
section
variable {w : World} {p : Program} {loose : List Str} {mean : ExcName → Option Value} {mg mb : Str → Option Value} {dp un : Nat} {gd : Option (List Code)} {env : Env} {outer : List Env} {A₀ : Around} {base h₀ : Heap} {L : Addr} {m : Str → Option Value}
  {s : Shared} {Q : List Value → Shared → Prop} {E : Value → Shared → Prop} {k1 k2 k3 k4 k5 k6 k7 k8 : Tok} {a b c : Int} {t1 t2 t3 : Tok} {n : Nat} {x dx tp tb tk r1 : Addr}
theorem collectX (B : Below A₀ base outer h₀) (F : Fr h₀ L s.heap m) (N : News h₀ L s.heap [(x, instObj 448 dx), (dx, dictOf (vent8 w.params k1 k2 k3 k4 k5 k6 k7 k8 a b c t1 t2 t3 tp tb tk r1) n)])
    (T : Top p loose mean mg mb h₀) (X : (Mine.fr.heap_1 w.params).In h₀) (hf : env.frame = some L) (hk : env.scope.kind = .function) (hd : dp + 8 < recursionLimit) (hu : un + 60 < cLine)
    (hQ : ∀ h' g' tk', (∀ b o, s.heap.get? b = some o → h'.get? b = some o) → (AllBare s.gens → AllBare g') → Q [.int a t1, .int b t2, .int c t3, .ref tp, .ref tb] ⟨h', g', s.drawn, tk', s.os⟩) :
    wpAny (model PySem.Challenge.rw_lh0061_01.row.prog w) (topA dp (un + 2) gd env outer) (collect (.ref x)) Q E s := by
  have hx := N _ List.mem_cons_self
  have hdx := N _ (List.mem_cons_of_mem _ List.mem_cons_self)
  have xS : x ≠ s.heap.objs.size := Nat.ne_of_lt (Heap.lt_size hx.1)
  have dxS : dx ≠ s.heap.objs.size := Nat.ne_of_lt (Heap.lt_size hdx.1)
  unfold collect
  refine wpAny_bind (wpAny_runValue (codeAny_builtin PySem.F.entry_proto_collect ?_))
  rw [Around.under_plainId PySem.F.plain_proto_collect _]
  show wpAny _ (topA dp (un + 3) gd env outer) (newList [] >>= fun l => again (.builtin "list.__iadd__" ⟨[l, .ref x], []⟩)) _ _ s
  refine wpAny_bind (wpAny_newObj_type ?_)
  refine wpAny_pure ⟨plainId_quiet PySem.F.plain_list_iadd _, codeAny_builtin PySem.F.entry_list_iadd ?_⟩
  rw [Around.under_plainId PySem.F.plain_list_iadd _]
  have kp : ∀ y o, s.heap.get? y = some o → (s.heap.push { cls := .type "list", data := .seq ([] : List Value).toArray }).get? y = some o := fun y o e => Heap.get?_push_of_some _ e
  have F1 := F.push { cls := .type "list", data := .seq ([] : List Value).toArray }
  have N1 := N.push F { cls := .type "list", data := .seq ([] : List Value).toArray }
  show wpAny _ (topA dp (un + 3) gd env outer) (Builtin.List.listExtendWith (.ref s.heap.objs.size) (.ref x) (.ref s.heap.objs.size)) _ _ _
  unfold Builtin.List.listExtendWith
  refine wpAny_bind (inst_type (kp _ _ hx.1) ?_)
  have h1 : Builtin.List.listSameRef (.ref s.heap.objs.size) (.ref x) = false := by simp [Builtin.List.listSameRef, Ne.symm xS]
  have h2 : (Value.ref 448 == Value.type "list") = false := by decide
  have h3 : (Value.ref 448 == Value.type "tuple") = false := by decide
  simp only [h1, h2, h3, Bool.or_false, Bool.false_eq_true, if_false]
  refine wpAny_bind (inst_iter ((X.keeps F.keep).keeps kp) (kp _ _ hx.1) (wpAny_call (iter_call B F1 N1 T X hf hk hd hu xS dxS fun a' gi h' g' tk' st kept fresh ab => ?_)))
  have hxh := kept _ _ (kp _ _ hx.1)
  have Xh : (Mine.fr.heap_1 w.params).In h' := ((X.keeps F.keep).keeps kp).keeps kept
  refine ⟨st.gen.typeIs, ?_⟩
  refine wpAny_bind (wpAny_holding ?_)
  unfold Builtin.List.listLengthHint
  refine wpAny_bind (inst_special Xh hxh (fl_448 w rfl) ?_)
  show wpAny _ _ (specialOf (.ref x) (Str.ofString "__length_hint__") >>= _) _ _ _
  refine wpAny_bind (inst_special Xh hxh (fh_448 w rfl) ?_)
  refine wpAny_pure ?_
  show wpAny _ (topA dp (un + 3) gd env outer) (rule "list.extend.makes-room" >>= fun _ => Builtin.List.listTouch (.ref s.heap.objs.size) >>= fun _ =>
    again (.builtin "list.extend.loop" ⟨[.ref s.heap.objs.size, .ref a', .ref s.heap.objs.size], []⟩)) _ _ _
  refine wpAny_bind (wpAny_rule ?_)
  have hS₁ : h'.get? s.heap.objs.size = some { cls := .type "list", data := .seq ([] : List Value).toArray } := kept _ _ (Heap.get?_push_size _ rfl)
  have aS : a' ≠ s.heap.objs.size := fun e => by
    have : (s.heap.push { cls := .type "list", data := .seq ([] : List Value).toArray }).get? s.heap.objs.size = some { cls := .type "list", data := .seq ([] : List Value).toArray } := Heap.get?_push_size _ rfl
    rw [← e] at this
    rw [this] at fresh; cases fresh
  refine wpAny_bind ?_
  show wpAny _ (topA dp (un + 3) gd env outer) (updateSeq s.heap.objs.size (·.push .none) >>= fun _ => updateSeq s.heap.objs.size (·.pop)) _ _ _
  refine wpAny_bind (wpAny_updateSeq hS₁ rfl ?_)
  have hS₂ := Heap.get?_update_self (Obj.mapSeq (·.push Value.none)) hS₁ rfl
  refine wpAny_updateSeq hS₂ rfl ?_
  have hS₃ := Heap.get?_update_self (Obj.mapSeq (·.pop)) hS₂ rfl
  have cs : cStatics ≠ s.heap.objs.size := let ⟨_, hn, _⟩ := T.nolimit.keeps F.keep; Nat.ne_of_lt hn.lt
  have W := y_yield (w := w) (dp := dp) (un := un) (gd := gd) (env := env) (outer := outer) (gi := gi) (g0 := g') (os0 := s.os) (dr0 := s.drawn) (href := s.heap.push { cls := .type "list", data := .seq ([] : List Value).toArray }) (vals := [.int a t1, .int b t2, .int c t3, .ref tp, .ref tb]) (by simp) aS ((T.nolimit.keeps F.keep).keeps kp) cs (by omega)
  refine wpAny_pure ⟨plainId_quiet PySem.F.plain_extend_loop _, extend_loopL (A := topA dp (un + 2) gd env outer) W (by rw [sizeLine_eq]; exact Nat.le_of_ble_eq_true rfl) _ 5 [] _ _ rfl (Nat.zero_le _)
    (W.frame [] (⟨h', g', s.drawn, tk', s.os⟩ : Shared) _ tk' st fun y o hb e => (Heap.get?_update_other _ _ (Ne.symm hb)).trans ((Heap.get?_update_other _ _ (Ne.symm hb)).trans e)) hS₃ fun s' acc' c' hf' hS' hacc => ?_⟩
  show wpAny _ _ (load s.heap.objs.size >>= _) _ _ s'
  obtain ⟨e1, kp2, e3, e4, gq⟩ := hf'
  refine wpAny_bind (wpAny_load hS' (wpAny_pure ?_))
  obtain ⟨hh, gg, dd, tt, oo⟩ := s'
  dsimp only at e3 e4 gq kp2 ⊢
  subst e1
  subst e3
  subst e4
  exact hQ hh gg tt (fun y o e => kp2 y o (Nat.ne_of_lt (Heap.lt_size e)) (kp y o e)) (fun hb => bare_of gq (ab hb))
end
end
section
section
variable {w : World} {p : Program} {loose : List Str} {mean : ExcName → Option Value} {mg mb : Str → Option Value} {dp un : Nat} {gd : Option (List Code)} {env : Env} {outer : List Env} {A₀ : Around} {base h₀ : Heap} {L : Addr} {m : Str → Option Value}
  {s : Shared} {E : Value → Shared → Prop} {k1 k2 k3 k4 k5 k6 k7 k8 : Tok} {a b c : Int} {t1 t2 t3 : Tok} {n : Nat} {x dx tp tb tk r1 : Addr}
theorem tuple_newX {Q₁ : Value → Shared → Prop} (B : Below A₀ base outer h₀) (F : Fr h₀ L s.heap m) (N : News h₀ L s.heap [(x, instObj 448 dx), (dx, dictOf (vent8 w.params k1 k2 k3 k4 k5 k6 k7 k8 a b c t1 t2 t3 tp tb tk r1) n)])
    (T : Top p loose mean mg mb h₀) (X : (Mine.fr.heap_1 w.params).In h₀) (hf : env.frame = some L) (hk : env.scope.kind = .function) (hd : dp + 8 < recursionLimit) (hu : un + 60 < cLine)
    (h : ∀ (h' : Heap) (g' : Array GenState) (tk' : Nat), (∀ b o, s.heap.get? b = some o → h'.get? b = some o) → (AllBare s.gens → AllBare g') → Q₁ (.ref h'.objs.size) ⟨h'.push (tupO [.int a t1, .int b t2, .int c t3, .ref tp, .ref tb]), g', s.drawn, tk', s.os⟩) :
    codeAny (model PySem.Challenge.rw_lh0061_01.row.prog w) (topA dp (un + 1) gd env outer) (.call (.builtin "tuple.__new__") ⟨[.type "tuple", .ref x], []⟩) (wants Q₁ E) s := by
  have hx := N _ List.mem_cons_self
  refine codeAny_of_tree ?_
  show wpAny _ (topA dp (un + 2) gd env outer) (do checkBuiltinCall "tuple.__new__" ⟨[.type "tuple", .ref x], []⟩; again (.builtin "tuple.__new__" ⟨[.type "tuple", .ref x], []⟩)) _ _ s
  refine wpAny_bind (wpAny_of_eq (PySem.F.newCall_tuple_1 _) (wpAny_pure ⟨plainId_quiet PySem.F.plain_tuple_new _, codeAny_builtin PySem.F.entry_tuple_new ?_⟩))
  rw [Around.under_plainId PySem.F.plain_tuple_new _]
  show wpAny _ (topA dp (un + 2) gd env outer) _ _ _ s
  refine tuple_new_body (P := fun xs s' => ∃ (h' : Heap) (g' : Array GenState) (tk' : Nat), xs = [.int a t1, .int b t2, .int c t3, .ref tp, .ref tb] ∧ s' = ⟨h', g', s.drawn, tk', s.os⟩ ∧ (∀ b o, s.heap.get? b = some o → h'.get? b = some o) ∧ (AllBare s.gens → AllBare g'))
    (fun Q hQ => wpAny_bind (inst_type hx.1 (wpAny_pure hQ))) (fun Q hQ => collectX B F N T X hf hk hd hu fun h' g' tk' kp ab => hQ _ _ ⟨h', g', tk', rfl, rfl, kp, ab⟩) ?_
  rintro xs s' ⟨h', g', tk', rfl, rfl, kp, ab⟩
  show wpAny _ _ (Builtin.Tuple.tupleExact #[.int a t1, .int b t2, .int c t3, .ref tp, .ref tb] >>= fun v => ret v) _ _ _
  unfold Builtin.Tuple.tupleExact
  refine wpAny_bind (wpAny_newObj_type ?_ (by show (5 : Nat) ≤ sizeLine; rw [sizeLine_eq]; decide))
  exact wpAny_pure (h h' g' tk' kp ab)
theorem call_tupleX {Q : Value → Shared → Prop} (B : Below A₀ base outer h₀) (F : Fr h₀ L s.heap m) (N : News h₀ L s.heap [(x, instObj 448 dx), (dx, dictOf (vent8 w.params k1 k2 k3 k4 k5 k6 k7 k8 a b c t1 t2 t3 tp tb tk r1) n)])
    (T : Top p loose mean mg mb h₀) (X : (Mine.fr.heap_1 w.params).In h₀) (hf : env.frame = some L) (hk : env.scope.kind = .function) (hd : dp + 8 < recursionLimit) (hu : un + 60 < cLine)
    (h : ∀ (h' : Heap) (g' : Array GenState) (tk' : Nat), (∀ b o, s.heap.get? b = some o → h'.get? b = some o) → (AllBare s.gens → AllBare g') → Q (.ref h'.objs.size) ⟨h'.push (tupO [.int a t1, .int b t2, .int c t3, .ref tp, .ref tb]), g', s.drawn, tk', s.os⟩) :
    wpAny (model PySem.Challenge.rw_lh0061_01.row.prog w) (topA dp un gd env outer) (call (.type "tuple") [.ref x]) Q E s := by
  refine callType_codes (Q₁ := fun obj s₁ => s₁.TypeIs obj "tuple" ∧ Q obj s₁) PySem.F.called_tuple (PySem.F.typeCall_tuple_1 _) PySem.F.entry_object_init
    (tuple_newX B F N T X hf hk hd hu fun h' g' tk' kp ab => ⟨⟨_, Heap.get?_push_size _ rfl, rfl⟩, h h' g' tk' kp ab⟩) fun obj s₁ h₁ => ?_
  exact ⟨h₁.1, PySem.F.args_object_init_2 obj _, object_init_meets PySem.F.called_tuple.init.lookup PySem.F.called_tuple.made (by decide) PySem.Challenge.rw_lh0061_01.row.prog w (topA dp un gd env outer).in1 _ s₁ ⟨h₁.1, rfl, h₁.2⟩⟩
end
end
section
section
variable {prog : Program} {w : World} {A : Around} {E : Value → Shared → Prop} {s : Shared} {Q : Value → Shared → Prop} {a b : Addr} {oa ob : Obj} {xs ys : Array Value} {na nb : Nat}
noncomputable def Lex_ne (prog : Program) (w : World) (A : Around) (E : Value → Shared → Prop) (fin : Bool) (Q : Value → Shared → Prop) : List (Value × Value) → Shared → Prop
  | [], s => Q (.bool fin) s
  | (p, q) :: r, s => wpAny (model prog w) A (eqBool p q) (fun e s' => if e = true then Lex_ne prog w A E fin Q r s' else Q (.bool true) s') E s
theorem tup_ne_tree (hoa : s.heap.get? a = some oa) (hda : oa.data = .seq xs na) (hob : s.heap.get? b = some ob) (hcb : ob.cls = .type "tuple") (hdb : ob.data = .seq ys nb)
    (h : Lex_ne prog w A E (!(xs.size == ys.size)) Q (xs.toList.zip ys.toList) s) :
    wpAny (model prog w) A (Builtin.«tuple.__ne__» ⟨[.ref a, .ref b], []⟩) (fun fin s' => ∃ v, fin = .done (.ret v) ∧ v ≠ .notImplemented ∧ Q v s') E s := by
  show wpAny _ _ (isInstance (.ref b) (.type "tuple") >>= _) _ _ s
  refine wpAny_bind (wpAny_isInstance ⟨_, hob, hcb⟩ isSubtype_tuple_tuple ?_)
  simp only [Bool.not_true, Bool.false_eq_true, if_false]
  refine wpAny_bind (wpAny_tupleItemsOf hoa hda ?_)
  refine wpAny_bind (wpAny_tupleItemsOf hob hdb ?_)
  refine wpAny_bind ?_
  clear hoa hob
  generalize xs.toList.zip ys.toList = l at h ⊢
  induction l generalizing s with
  | nil =>
    rw [List.forIn_nil]
    refine wpAny_pure ?_
    exact wpAny_pure ⟨_, rfl, (fun e => nomatch e), h⟩
  | cons pq r ih =>
    obtain ⟨p, q⟩ := pq
    rw [List.forIn_cons]
    refine wpAny_bind ?_
    have h2 : wpAny (model prog w) A (eqBool p q) (fun e s' => if e = true then Lex_ne prog w A E (!(xs.size == ys.size)) Q r s' else Q (.bool true) s') E s := h
    refine wpAny_bind (wpAny_mono h2 (fun e s' he => ?_) fun _ _ x => x)
    cases e with
    | true =>
      simp only [if_true] at he
      simp only [Bool.not_true, Bool.false_eq_true, if_false]
      exact wpAny_pure (ih he)
    | false =>
      simp only [Bool.false_eq_true, if_false] at he
      simp only [Bool.not_false, if_true]
      exact wpAny_bind (wpAny_pure (wpAny_pure (wpAny_pure (wpAny_pure ⟨_, rfl, (fun e => nomatch e), he⟩))))
theorem tup_ne_rich (hoa : s.heap.get? a = some oa) (hca : oa.cls = .type "tuple") (hda : oa.data = .seq xs na) (hob : s.heap.get? b = some ob) (hcb : ob.cls = .type "tuple") (hdb : ob.data = .seq ys nb) (hu : A.units < cLine)
    (h : Lex_ne prog w A.in1 E (!(xs.size == ys.size)) Q (xs.toList.zip ys.toList) s) : wpAny (model prog w) A (richCompare .NotEq (.ref a) (.ref b)) (fun v s' => v ≠ .notImplemented ∧ Q v s') E s :=
  wpAny_mono (wpAny_richCompare_same_room (op := .NotEq) (Q := fun v s' => v ≠ .notImplemented ∧ Q v s') ⟨_, hoa, hca⟩ ⟨_, hob, hcb⟩ F.slot_tuple_ne (wpAny_call_entry F.slot_tuple_ne ⟨_, hoa, hca⟩ F.entry_tuple_ne (wpAny_mono (tup_ne_tree hoa hda hob hcb hdb h) (fun fin s' ⟨v, e, hv⟩ => ⟨v, e, hv.1, hv⟩) fun _ _ x => x) (F.args_tuple_ne_2 _ _)) hu) (fun _ _ x => x) fun _ _ x => x
end
end
section
section
variable {w : World} {A : Around} {s : Shared} {E : Value → Shared → Prop}
theorem lex_ne {fin : Bool} : ∀ (l : List (Value × Value)) (s' : Shared) (Q : Value → Shared → Prop), Keep s s' → (∀ pq ∈ l, EqB w A s pq.1 pq.2 true) → (∀ s'', Keep s' s'' → Q (.bool fin) s'') → Lex_ne progL w A E fin Q l s'
  | [], s', Q, hk, h, hQ => hQ _ (Keep.refl _)
  | (p, q) :: l, s', Q, hk, h, hQ => by
    refine h (p, q) List.mem_cons_self s' _ E hk fun s'' hk' => ?_
    simp only [if_true]
    exact lex_ne l s'' Q (hk.trans hk') (fun x hx => h x (List.mem_cons_of_mem _ hx)) fun s3 h3 => hQ s3 (hk'.trans h3)
end
section
variable {w : World} {dp un : Nat} {gd : Option (List Code)} {env : Env} {outer : List Env} {h₀ : Heap} {L : Addr} {m : Str → Option Value} {s : Shared} {news : List (Addr × Obj)} {Q : Value → Shared → Prop} {E : Value → Shared → Prop} {T1 T2 p1 q1 p2 q2 : Addr} {a b c : Int} {u1 u2 u3 v1 v2 v3 : Tok} {zp yp : List Str} {vp vb wp wb : List Value}
theorem ne_five (hu : un + 50 < cLine) (F : Fr h₀ L s.heap m) (N : News h₀ L s.heap news) (m1 : (T1, tupO [.int a u1, .int b u2, .int c u3, .ref p1, .ref q1]) ∈ news) (m2 : (T2, tupO [.int a v1, .int b v2, .int c v3, .ref p2, .ref q2]) ∈ news)
    (hp1 : (p1, tupO vp) ∈ news) (hq1 : (q1, tupO vb) ∈ news) (hp2 : (p2, tupO wp) ∈ news) (hq2 : (q2, tupO wb) ∈ news) (hvp : StrsAre vp zp) (hvb : StrsAre vb yp) (hwp : StrsAre wp zp) (hwb : StrsAre wb yp)
    (h : ∀ h' tk', Fr h₀ L h' m → News h₀ L h' news → Q (.bool false) ⟨h', s.gens, s.drawn, tk', s.os⟩) :
    wpAny (model PySem.Challenge.rw_lh0061_01.row.prog w) (topA dp un gd env outer) (compareOp .NotEq (.ref T1) (.ref T2)) Q E s := by
  have eqs : ∀ {x y : Addr} {vs us : List Value} {zs : List Str}, (x, tupO vs) ∈ news → (y, tupO us) ∈ news → StrsAre vs zs → StrsAre us zs → EqB w (topA dp (un + 1) gd env outer) s (.ref x) (.ref y) true := by
    intro x y vs us zs hx hy h1 h2
    have := strs_rib (w := w) (A := topA dp (un + 1) gd env outer) (s := s) (by show un + 1 < cLine; omega) (N _ hx).1 (N _ hy).1 h1 h2
    rw [decide_eq_true rfl] at this
    exact i_eqb (fun _ => rfl) this
  refine wpAny_mono (tup_ne_rich (Q := Q) (N _ m1).1 rfl rfl (N _ m2).1 rfl rfl (by show un < cLine; omega) ?_) (fun v s2 hv => hv.2) fun _ _ e => e
  refine lex_ne _ s Q (Keep.refl _) (fun pq hpq => ?_) fun s'' hk => ?_
  · have hpq' : pq ∈ [(Value.int a u1, Value.int a v1), (.int b u2, .int b v2), (.int c u3, .int c v3), (.ref p1, .ref p2), (.ref q1, .ref q2)] := hpq
    simp only [List.mem_cons, List.not_mem_nil, or_false] at hpq'
    rcases hpq' with rfl | rfl | rfl | rfl | rfl
    · exact int_eq _ _ _ _ rfl
    · exact int_eq _ _ _ _ rfl
    · exact int_eq _ _ _ _ rfl
    · exact eqs hp1 hp2 hvp hwp
    · exact eqs hq1 hq2 hvb hwb
  · obtain ⟨h', g, d, t, o⟩ := s''
    obtain ⟨k, rfl, rfl, rfl⟩ := hk
    exact h h' t (F.keeps k) (N.keeps k)
end
end
section
section
variable {w : World} {p : Program} {loose : List Str} {mean : ExcName → Option Value} {mg mb : Str → Option Value} {dp un : Nat} {gd : Option (List Code)} {env : Env} {outer : List Env} {A₀ : Around} {base h₀ : Heap} {L : Addr} {m : Str → Option Value}
  {s : Shared} {E : Value → Shared → Prop} {k1 k2 k3 k4 k5 k6 k7 k8 : Tok} {a b c : Int} {t1 t2 t3 : Tok} {n : Nat} {x dx tp tb tk r1 : Addr} {news : List (Addr × Obj)}
theorem call_tupleY {Q : Value → Shared → Prop} (B : Below A₀ base outer h₀) (F : Fr h₀ L s.heap m) (N : News h₀ L s.heap news) (hx : (x, instObj 448 dx) ∈ news) (hdx : (dx, dictOf (vent8 w.params k1 k2 k3 k4 k5 k6 k7 k8 a b c t1 t2 t3 tp tb tk r1) n) ∈ news)
    (T : Top p loose mean mg mb h₀) (X : (Mine.fr.heap_1 w.params).In h₀) (hf : env.frame = some L) (hk : env.scope.kind = .function) (hd : dp + 8 < recursionLimit) (hu : un + 60 < cLine)
    (h : ∀ D h' g' tk', Fr h₀ L h' m → News h₀ L h' ((D, tupO [.int a t1, .int b t2, .int c t3, .ref tp, .ref tb]) :: news) → (∀ q ∈ news, q.1 < D) → (AllBare s.gens → AllBare g') → Q (.ref D) ⟨h', g', s.drawn, tk', s.os⟩) :
    wpAny (model PySem.Challenge.rw_lh0061_01.row.prog w) (topA dp un gd env outer) (call (.type "tuple") [.ref x]) Q E s := by
  refine call_tupleX B F (news_sub N (sub_cons hx (sub_cons hdx sub_nil))) T X hf hk hd hu fun h' g' tk' kp ab => ?_
  have F' := F.keeps kp
  have N' := N.keeps kp
  exact h _ _ g' tk' (F'.push _) (N'.push F' _) (fun q hq => Heap.lt_size (N' q hq).1) ab
end
end
section
section
theorem kw1_N12 : True := by
  (k_with "+call type:tuple" => ((k_here; k_dflt (refine' call_tupleY ?B9q ?F9q ?N9q ?x9q ?d9q ?T9q ?X9q ?hf9q ?hk9q ?hd9q ?hu9q ?_; (case B9q => k_asm); (case F9q => k_asm); (case N9q => k_asm); (case x9q => k_mem); (case d9q => k_mem); (case T9q => k_asm); (case X9q => k_asm); (case hf9q => first | exact rfl | assumption); (case hk9q => first | exact rfl | assumption); (case hd9q => ktr_room); (case hu9q => ktr_units); k_whole); intro D9 h9 g9 tk9 F9 N9 l9 b9; (try k_lt l9); (try dsimp only))))
  (k_with "+compareOp NotEq ref ref" => ((k_here; k_dflt (refine' ne_five ?hu9q ?F9q ?N9q ?m19q ?m29q ?a19q ?a29q ?a39q ?a49q ?b19q ?b29q ?b39q ?b49q ?_; (case F9q => k_asm); (case N9q => k_asm); (case m19q => k_mem); (case m29q => k_mem); (case a19q => k_mem); (case a29q => k_mem); (case a39q => k_mem); (case a49q => k_mem); (case b19q => k_asm); (case b29q => k_asm); (case b39q => k_asm); (case b49q => k_asm); (case hu9q => ktr_units); k_whole); intro h9 tk9 F9 N9; (try dsimp only))))
  exact True.intro
set_option maxHeartbeats 1000000 in
theorem v_ne0 (w : World) (a b c : Int) {x1 dx1 tp1 tb1 tk1 r1 x2 dx2 tp2 tb2 tk2 r2 : Addr} {k1 k2 k3 k4 k5 k6 k7 k8 t1 t2 t3 l1 l2 l3 l4 l5 l6 l7 l8 u1 u2 u3 : Tok} {n1 n2 : Nat} {zp yp : List Str} {vp vb wp wb : List Value}
    (hvp : StrsAre vp zp) (hvb : StrsAre vb yp) (hwp : StrsAre wp zp) (hwb : StrsAre wb yp) :
    ConG w 12 100 (.ref 417) [.ref x1, .ref x2] [] [(x1, instObj 448 dx1), (dx1, dictOf (vent8 w.params k1 k2 k3 k4 k5 k6 k7 k8 a b c t1 t2 t3 tp1 tb1 tk1 r1) n1), (tp1, tupO vp), (tb1, tupO vb), (x2, instObj 448 dx2), (dx2, dictOf (vent8 w.params l1 l2 l3 l4 l5 l6 l7 l8 a b c u1 u2 u3 tp2 tb2 tk2 r2) n2), (tp2, tupO wp), (tb2, tupO wb)] (fun r tl => r = .bool false ∧ tl = []) := by
  unfold ConG
  intro p loose mean mg mb dp un gd env outer A₀ base h₀ L m rest ps s R B F N htr T hf hk hd hu hsub hret
  k_fill
  intro X
  have N0 := news_subG N hsub
  walk_at "con enter"
  k_steps
  all_goals (unfold KeptEnd; dsimp only; intro hK)
  all_goals (refine hret _ [] _ _ _ ps ⟨rfl, rfl⟩ (fun y o _ e => keep_back N0 hK (news_sub (by with_reducible assumption) (by walk_at "con sub")) y o e) (fun _ h => nomatch h) htr (news_sub (by with_reducible assumption) (by walk_at "con sub")) (fun hb => by solve_by_elim))
end
theorem kw2_N12 : True := by
  k_with_none
  (k_with "+lt room" => (first | exact lt_r0 (by assumption) (by decide) | exact lt_rc (by assumption) (by decide) | exact lt_rd (by assumption) (by decide) | exact lt_z0 (by assumption)))
  (k_with "@ktr_room" => (walk_at "lt room"))
  (k_with "@ktr_units" => (walk_at "lt room"))
  (k_with "@units_room" => (walk_at "lt room"))
  (k_with "@k_room" => (ktr_room))
  (k_with "+con binds" => (first | exact fm_nilE (by exact rfl) | exact fm_some (by exact rfl) (by walk_at "con binds")))
  (k_with "+con enter" => ((k_dflt (refine' code_keep ?k19q ?k29q ?k39q ?k49q ?k59q ?kA9q ?kF9q ?kK9q ?k69q ?k79q ?k89q ?k99q ?kB9q ?_ ?c29q ?c39q ?c49q ?c59q; (case kA9q => exact rfl); (case kF9q => assumption); (case kK9q => assumption); (case k49q => k_asm); (case k19q => k_asm); (case k29q => k_asm); (case k39q => k_asm); (case k59q => k_asm); (case k69q => k_is); (case k79q => k_is); (case k89q => ktr_room); (case k99q => (refine' binds_to ?b99q ?e99q; (case b99q => first | exact BindsTo.of_eq rfl | exact binds_K (by k_in) rfl (by k_is) rfl rfl rfl | fail "con enter: no rule for these arguments"); (case e99q => first | (walk_at "con binds") | (walk_say "con enter: binds left as they are"; exact rfl)))); (case c59q => decide); (case kB9q => exact locs rfl); (case c29q => exact rfl); (case c39q => exact rfl); (case c49q => exact rfl); k_whole; intro g' L' h' FG' F' N' B' X' T' G0'; (try dsimp only); (try k_fold)))))
  (k_with "+con sub" => (repeat (first | exact sub_nil | refine sub_cons (by k_mem) ?_)))
  (k_with "+ite" => ((k_here; k_openite; with_reducible refine ite_isFalse (bne_self_eq_false _) ?_; walk_say "PRUNED same")))
  (k_with "+con sides" => (((case k39q => k_asm); (case k29q => k_asm); (case k19q => k_asm); (case k49q => k_asm); (case k59q => k_asm); (case kF9q => first | exact rfl | assumption); (case kK9q => first | exact rfl | assumption); (case kd9q => ktr_room); (case ku9q => ktr_units); (case ks9q => walk_at "con sub"))))
  (k_with "+ne close" => (first | assumption | exact Ne.symm (by assumption) | exact Nat.ne_of_lt (by assumption) | exact Nat.ne_of_gt (by assumption) | exact Nat.ne_of_lt (Nat.lt_trans (by assumption) (by assumption)) | exact Nat.ne_of_gt (Nat.lt_trans (by assumption) (by assumption)) | (rename _ ∧ _ => hh9; obtain ⟨_, _⟩ := hh9; walk_at "ne close")))
  (k_with "@k_ne" => ((refine neN ?_; (try dsimp only); with_reducible walk_at "ne close")))
  exact True.intro
end
section
/- the law's loop: what holds between the turns -/
/-- neither an iterator nor a code table -/
noncomputable def PlainO (o : Obj) : Prop := o.cls ≠ .type "list_iterator" ∧ o.cls ≠ .none
theorem plain_type {o : Obj} {T : String} (h : o.cls = .type T) (hT : T ≠ "list_iterator") : PlainO o := by
  constructor
  · intro e
    rw [h] at e
    injection e with e
    exact hT e
  · intro e
    rw [h] at e
    cases e
theorem plain_ref {o : Obj} {c : Addr} (h : o.cls = .ref c) : PlainO o := by
  constructor <;> (intro e; rw [h] at e; cases e)
theorem keyobj_plain {P : Params} {z : Str} {tl : List (Addr × Obj)} {x : Addr} (k : KeyObj P z tl x) : ∀ q ∈ tl, PlainO q.2 := by
  cases k <;> (intro q hq; simp only [List.mem_cons, List.not_mem_nil, or_false] at hq; rcases hq with rfl | rfl <;> (first | exact plain_ref rfl | exact plain_type rfl (by decide)))
theorem keysok_plain {P : Params} {zs : List Str} {acc : List Value} {led : List (Addr × Obj)} (k : KeysOk P zs acc led) : ∀ q ∈ led, PlainO q.2 := by
  induction k with
  | nil => exact fun _ h => nomatch h
  | snoc _ k ih =>
    intro q hq
    rcases List.mem_append.mp hq with hq | hq
    · exact keyobj_plain k q hq
    · exact ih q hq
theorem prekey_plain {P : Params} {zs : List Str} {acc : List Value} {led : List (Addr × Obj)} (k : PreKey P zs acc led) : ∀ q ∈ led, PlainO q.2 := by
  cases k with
  | max => intro q hq; simp only [List.mem_cons, List.not_mem_nil, or_false] at hq; rcases hq with rfl | rfl <;> (first | exact plain_ref rfl | exact plain_type rfl (by decide))
  | keys h => exact keysok_plain h
theorem ver_plain {P : Params} {a b c : Int} {zp yp : List Str} {x : Addr} {tl : List (Addr × Obj)} (V : VerObj P a b c zp yp x tl) : ∀ q ∈ tl, PlainO q.2 := by
  cases V with
  | mk hvp hvb k =>
    intro q hq
    simp only [List.mem_cons] at hq
    rcases hq with rfl | rfl | rfl | rfl | rfl | rfl | hq
    case inr.inr.inr.inr.inr.inr => exact prekey_plain k q hq
    all_goals (first | exact plain_ref rfl | exact plain_type rfl (by decide))
inductive HeldAt (P : Params) (i : Nat) : Addr → Addr → List (Addr × Obj) → Prop
  | mk {x v p q : Addr} {a b c : Int} {zp yp : List Str} {tl : List (Addr × Obj)} {t1 t2 t3 : Tok} {n n1 n2 : Nat} {vp vb : List Value} (V : VerObj P a b c zp yp x tl) (ba : 0 ≤ a ∧ a < 12 + i) (bb : 0 ≤ b ∧ b < 12 + i) (bc : 0 ≤ c ∧ c < 10 ^ 30 + i) (hz : Ids zp) (hy : Ids yp) (hvp : StrsAre vp zp) (hvb : StrsAre vb yp) :
      HeldAt P i x v (lawV v a b c t1 t2 t3 p q n :: (p, lstO vp n1) :: (q, lstO vb n2) :: tl)
theorem HeldAt.mono {P : Params} {i j : Nat} {x v : Addr} {led : List (Addr × Obj)} (h : HeldAt P i x v led) (hij : i ≤ j) : HeldAt P j x v led := by
  cases h with
  | mk V ba bb bc hz hy hvp hvb => exact .mk V (bd_le hij ba) (bd_le hij bb) (bd_le hij bc) hz hy hvp hvb
theorem HeldAt.plain {P : Params} {i : Nat} {x v : Addr} {led : List (Addr × Obj)} (h : HeldAt P i x v led) : ∀ q ∈ led, PlainO q.2 := by
  cases h with
  | mk V _ _ _ _ _ _ _ =>
    intro q hq
    simp only [List.mem_cons] at hq
    rcases hq with rfl | rfl | rfl | hq
    case inr.inr.inr => exact ver_plain V q hq
    all_goals (first | exact plain_ref rfl | exact plain_type rfl (by decide))
/-- what a turn leaves: X is kept -/
inductive TurnPost (P : Params) (h₀ : Heap) (L : Addr) (j : Nat) (X : List (Addr × Obj)) (s₁ : Shared) : Flow → Shared → Prop
  | mk (h' : Heap) (g' : Array GenState) (tk' : Nat) (m' : Str → Option Value) (x' v' : Addr) (led' : List (Addr × Obj)) (ps' : Array Value) (F : Fr h₀ L h' m') (mh : m' (Str.ofString "held") = some (.ref x')) (mv : m' (Str.ofString "version") = some (.ref v')) (H : HeldAt P j x' v' led')
      (N : News h₀ L h' ((383, tabObj ps') :: (led' ++ X))) (ht : TriplesOk ps'.toList) (ab : AllBare s₁.gens → AllBare g') : TurnPost P h₀ L j X s₁ .next ⟨h', g', s₁.drawn, tk', s₁.os⟩
/-- what the loop is begun with -/
inductive LoopHead (P : Params) (h₀ : Heap) (L : Addr) (g0 : Array GenState) (dr0 : Drawn) (os0 : OsState) : Value → Shared → Prop
  | mk (l : Addr) (vs : List Value) (ns : List Int) (nl : Nat) (x v : Addr) (led : List (Addr × Obj)) (ps : Array Value) (m : Str → Option Value) (h : Heap) (g : Array GenState) (tk : Nat) (hi : IntsAre vs ns) (h8 : ns.length ≤ 8) (F : Fr h₀ L h m) (mh : m (Str.ofString "held") = some (.ref x)) (mv : m (Str.ofString "version") = some (.ref v)) (H : HeldAt P 0 x v led)
      (N : News h₀ L h ((383, tabObj ps) :: (led ++ [(l, lstO vs nl)]))) (ht : TriplesOk ps.toList) (ab : AllBare g0 → AllBare g) : LoopHead P h₀ L g0 dr0 os0 (.ref l) ⟨h, g, dr0, tk, os0⟩
/-- between the turns -/
inductive LoopI (P : Params) (h₀ : Heap) (L I l : Addr) (o2 : Obj) (n : Nat) (g0 : Array GenState) (dr : Drawn) (os : OsState) : Nat → Shared → Prop
  | mk (h' : Heap) (g' : Array GenState) (tk' : Nat) (x' v' : Addr) (led' : List (Addr × Obj)) (ps' : Array Value) (m' : Str → Option Value) (i : Nat) (oI : Obj) (hi : i ≤ n) (it : h'.IsListIter I l i) (F : Fr h₀ L h' m') (mh : m' (Str.ofString "held") = some (.ref x')) (mv : m' (Str.ofString "version") = some (.ref v')) (H : HeldAt P i x' v' led')
      (N : News h₀ L h' ((383, tabObj ps') :: (led' ++ [(I, oI), (l, o2)]))) (ht : TriplesOk ps'.toList) (ab : AllBare g0 → AllBare g') : LoopI P h₀ L I l o2 n g0 dr os (n + 1 - i) ⟨h', g', dr, tk', os⟩
theorem it_split {α : Type} {q a b c : α} {l : List α} (hq : q ∈ a :: (l ++ [b, c])) : q ∈ a :: (l ++ [c]) ∨ q = b := by
  simp only [List.mem_cons, List.mem_append, List.not_mem_nil, or_false] at hq ⊢
  rcases hq with h | h | h | h
  · exact .inl (.inl h)
  · exact .inl (.inr (.inl h))
  · exact .inr h
  · exact .inl (.inr (.inr h))
theorem it_in {α : Type} {q a b c : α} {l : List α} (hq : q ∈ a :: (l ++ [c])) : q ∈ a :: (l ++ [b, c]) := by
  simp only [List.mem_cons, List.mem_append, List.not_mem_nil, or_false] at hq ⊢
  rcases hq with h | h | h
  · exact .inl h
  · exact .inr (.inl h)
  · exact .inr (.inr (.inr h))
theorem loop_start {h₀ h1 : Heap} {L l : Addr} {m : Str → Option Value} {p o2 : _} {led : List (Addr × Obj)} (F : Fr h₀ L h1 m) (N : News h₀ L h1 (p :: (led ++ [(l, o2)]))) :
    News h₀ L (h1.push { cls := .type "list_iterator", data := .fields #[.ref l, .int 0 0] }) (p :: (led ++ [(h1.objs.size, { cls := .type "list_iterator", data := .fields #[.ref l, .int 0 0] }), (l, o2)])) := by
  intro q hq
  rcases it_split hq with hq | rfl
  · exact ⟨Heap.get?_push_of_some _ (N q hq).1, (N q hq).2⟩
  · exact ⟨Heap.get?_push_size _ rfl, Ne.symm (Nat.ne_of_lt F.ns.lt), next_is_new F⟩
section
variable {w : World} {A : Around} {E : Value → Shared → Prop} {s : Shared} {env : Env} {h₀ : Heap} {body : List Stmt} {Q : Flow → Shared → Prop} {prog : Program}
theorem For_law {px pos : Pos} {iter : PySem.Expr} (hh : A.handled = none) (hx : env.kindOf (Str.ofString "number") = some .local)
    (hp : (env.scope.kind == .class || (env.scope.kind == .module && env.locals != env.globals)) = false)
    (turn : ∀ (i : Nat) (n : Int) (t : Tok) (x v : Addr) (led X : List (Addr × Obj)) (m : Str → Option Value) (h : Heap) (g : Array GenState) (tk : Nat) (ps : Array Value), i < 8 → HeldAt w.params i x v led → m (Str.ofString "held") = some (.ref x) → m (Str.ofString "version") = some (.ref v) →
      Fr h₀ env.locals h (fun y => if y = Str.ofString "number" then some (.int n t) else m y) → News h₀ env.locals h ((383, tabObj ps) :: (led ++ X)) → (∀ q ∈ X, q.2.cls ≠ .none) → TriplesOk ps.toList →
      wpAny (model prog w) A (execs body env) (TurnPost w.params h₀ env.locals (i + 1) X ⟨h, g, s.drawn, tk, s.os⟩) E ⟨h, g, s.drawn, tk, s.os⟩)
    (done : ∀ (x v : Addr) (led : List (Addr × Obj)) (m : Str → Option Value) (h : Heap) (g : Array GenState) (tk : Nat) (ps : Array Value), HeldAt w.params 8 x v led → m (Str.ofString "held") = some (.ref x) → m (Str.ofString "version") = some (.ref v) → Fr h₀ env.locals h m → News h₀ env.locals h ((383, tabObj ps) :: led) → TriplesOk ps.toList → (AllBare s.gens → AllBare g) →
      Q .next ⟨h, g, s.drawn, tk, s.os⟩)
    (h : wpAny (model prog w) A (eval iter env) (LoopHead w.params h₀ env.locals s.gens s.drawn s.os) E s)
    (hs : ∀ x, foldedSetIterable iter env x = pure x := by intro _; rfl)
    (hE : PassesOwn (model prog w) A env E := by passes_own) :
    wpAny (model prog w) A (exec (.For (.Name (Str.ofString "number") px) iter body [] pos) env) Q E s := by
  refine wpAny_For (wpAny_mono h (fun xv s₁ h₁ => ?_) fun _ _ e => e) hs
  cases h₁ with
  | mk l vs ns nl x v led ps m h1 g1 tk1 hi h8 F mh mv H N ht ab =>
  have Nl := N (l, lstO vs nl) (List.mem_cons_of_mem _ (List.mem_append_right _ List.mem_cons_self))
  refine wpAny_pyIter_list (items := vs.toArray) ⟨_, Nl.1, rfl, _, rfl⟩ ?_
  refine codeAny_forLoop (R := fun r s' => match r with | .ok f => Q f s' | .error e => cameBackBy (model prog w) A env E e s')
    (LoopI w.params h₀ env.locals h1.objs.size l (lstO vs nl) ns.length s.gens s.drawn s.os) ?_ (ns.length + 1) ?_
  rotate_left
  · exact .mk _ g1 tk1 x v led ps m 0 { cls := .type "list_iterator", data := .fields #[.ref l, .int 0 0] } (Nat.zero_le _) ⟨_, Heap.get?_push_size _ rfl, rfl, rfl⟩ (F.push _) mh mv H (loop_start F N) ht ab
  · intro k s' hI
    generalize h1.objs.size = I at hI ⊢
    cases hI with
    | mk h' g' tk' x' v' led' ps' m' i oI hik it F' mh' mv' H' N' ht' ab' =>
    have NI := N' (I, oI) (List.mem_cons_of_mem _ (List.mem_append_right _ List.mem_cons_self))
    have Nl := N' (l, lstO vs nl) (List.mem_cons_of_mem _ (List.mem_append_right _ (List.mem_cons_of_mem _ List.mem_cons_self)))
    have hl : h'.IsList l vs.toArray := ⟨_, Nl.1, rfl, _, rfl⟩
    obtain ⟨o, ho, hoc, hod⟩ := id it
    have hoI : o = oI := by have := NI.1; rw [ho] at this; exact Option.some.inj this
    subst hoI
    have apart : ∀ q ∈ (383, tabObj ps') :: (led' ++ [(l, lstO vs nl)]), q.1 ≠ I := by
      intro q hq e
      rcases List.mem_cons.mp hq with rfl | hq
      · have h1 := (N' _ List.mem_cons_self).1
        rw [show ((383, tabObj ps').1 : Addr) = I from e, ho] at h1
        rw [Option.some.inj h1] at hoc
        cases hoc
      rcases List.mem_append.mp hq with hq | hq
      · have h1 := (N' q (List.mem_cons_of_mem _ (List.mem_append_left _ hq))).1
        rw [e, ho] at h1
        exact (H'.plain q hq).1 (by rw [← Option.some.inj h1]; exact hoc)
      · rw [List.mem_singleton.mp hq] at e
        have h1 := Nl.1
        rw [show l = I from e, ho] at h1
        rw [Option.some.inj h1] at hoc
        injection hoc with hoc; revert hoc; decide
    by_cases hlt' : i < ns.length
    · obtain ⟨t, hx'⟩ := hi.get i ns[i] (by simp [hlt'])
      refine wpAny_pyNext_list_item it hl (x := .int ns[i] t) (by simpa using hx') fun h₁ it₁ sb => ?_
      obtain ⟨o₁, ho₁, hc₁, hd₁⟩ := id it₁
      have F₁ : Fr h₀ env.locals h₁ m' := ⟨F'.ns.at' fun o e => (sb.2 _ (Ne.symm NI.2.1)).trans e, fun b o e => (sb.2 b fun q => by
        have := NI.2.2
        rw [← q, e] at this; cases this).trans (F'.keep b o e), F'.above⟩
      have N₁ : News h₀ env.locals h₁ ((383, tabObj ps') :: (led' ++ [(I, o₁), (l, lstO vs nl)])) := by
        intro q hq
        have : q ∈ (383, tabObj ps') :: (led' ++ [(l, lstO vs nl)]) ∨ q = (I, o₁) := it_split hq
        rcases this with hq' | rfl
        · have hq2 : q ∈ (383, tabObj ps') :: (led' ++ [(I, o), (l, lstO vs nl)]) := it_in hq'
          exact ⟨(sb.2 q.1 (apart q hq')).trans (N' q hq2).1, (N' q hq2).2⟩
        · exact ⟨ho₁, NI.2⟩
      refine wpAny_assign_Name (wpAny_storeName_local hx F₁.ns (fun h₂ hn₂ hs₂ => ?_) hp)
      have F₂ := F₁.set hn₂ hs₂
      have N₂ := N₁.set hs₂
      have it₂ : h₂.IsListIter I l (i + 1) := ⟨o₁, (hs₂.2 _ NI.2.1).trans ho₁, hc₁, hd₁⟩
      refine wpAny_mono (wpAny_passesOwn hE (turn i ns[i] t x' v' led' [(I, o₁), (l, lstO vs nl)] m' h₂ g' _ ps' (by omega) H' mh' mv' F₂ N₂ ?_ ht')) (fun f s₃ h₃ => ?_) fun _ _ e => e
      · intro q hq
        simp only [List.mem_cons, List.not_mem_nil, or_false] at hq
        rcases hq with rfl | rfl
        · intro e; rw [show o₁.cls = _ from hc₁] at e; cases e
        · intro e; cases e
      cases h₃ with
      | mk h₄ g₄ tk₄ m₄ x₄ v₄ led₄ ps₄ F₄ mh₄ mv₄ H₄ N₄ ht₄ ab₄ =>
      have I₄ := N₄ (I, o₁) (List.mem_cons_of_mem _ (List.mem_append_right _ List.mem_cons_self))
      exact ⟨ns.length + 1 - (i + 1), by omega, .mk h₄ g₄ tk₄ x₄ v₄ led₄ ps₄ m₄ (i + 1) o₁ hlt' ⟨o₁, I₄.1, hc₁, hd₁⟩ F₄ mh₄ mv₄ H₄ N₄ ht₄ fun a => ab₄ (ab' a)⟩
    · have hin : i = ns.length := by omega
      subst hin
      refine wpAny_pyNext_list_end hh it hl (by simp [hi.length]) fun h₁ sb => wpAny_execs_nil ?_
      have hF : Fr h₀ env.locals h₁ m' := ⟨F'.ns.at' fun o e => sb _ _ (Ne.symm NI.2.1) e, fun b o e => sb b o (fun q => by
        have := NI.2.2
        rw [← q, e] at this; cases this) (F'.keep b o e), F'.above⟩
      refine done x' v' led' m' h₁ g' _ ps' (H'.mono h8) mh' mv' hF (fun q hq => ?_) ht' ab'
      · have hq2 : q ∈ (383, tabObj ps') :: (led' ++ [(I, o), (l, lstO vs nl)]) := by
          rcases List.mem_cons.mp hq with rfl | hq
          · exact List.mem_cons_self
          · exact List.mem_cons_of_mem _ (List.mem_append_left _ hq)
        exact ⟨sb _ _ (apart q (by
          rcases List.mem_cons.mp hq with rfl | hq
          · exact List.mem_cons_self
          · exact List.mem_cons_of_mem _ (List.mem_append_left _ hq))) (N' q hq2).1, (N' q hq2).2⟩
end
end
section
/- the law's turn: what its walk leans on -/
inductive Pick {α : Type} (x : α) : List α → List α → Prop
  | here {l : List α} : Pick x (x :: l) l
  | there {y : α} {l r : List α} (h : Pick x l r) : Pick x (y :: l) (y :: r)
theorem Pick.mem {α : Type} {x q : α} {l r : List α} (h : Pick x l r) : q ∈ l ↔ q = x ∨ q ∈ r := by
  induction h with
  | here => exact List.mem_cons
  | there _ ih =>
    rw [List.mem_cons, List.mem_cons, ih]
    constructor
    · rintro (h | h | h)
      · exact .inr (.inl h)
      · exact .inl h
      · exact .inr (.inr h)
    · rintro (h | h | h)
      · exact .inr (.inl h)
      · exact .inl h
      · exact .inr (.inr h)
section
variable {w : World} {D U : Nat} {f : Value} {vs : List Value} {kw : List (Str × Value)} {sub : List (Addr × Obj)} {post : Value → List (Addr × Obj) → Prop}
  {p : Program} {loose : List Str} {mean : ExcName → Option Value} {mg mb : Str → Option Value} {dp un : Nat} {gd : Option (List Code)} {env : Env} {outer : List Env} {A₀ : Around} {base h₀ : Heap} {L : Addr} {m : Str → Option Value}
  {news rest : List (Addr × Obj)} {s : Shared} {R : Result → Shared → Prop} {ps : Array Value}
theorem pick_news {h : Heap} (N : News h₀ L h news) (hp : Pick (383, tabObj ps) news rest) (hc : ∀ q ∈ rest, q.2.cls ≠ .none) : News h₀ L h ((383, tabObj ps) :: rest) ∧ 383 ∉ rest.map (·.1) := by
  refine ⟨fun q hq => N q (hp.mem.mpr (List.mem_cons.mp hq)), fun e => ?_⟩
  obtain ⟨q, hq, e⟩ := List.mem_map.mp e
  have h1 := (N q (hp.mem.mpr (.inr hq))).1
  have h2 := (N (383, tabObj ps) (hp.mem.mpr (.inl rfl))).1
  rw [e] at h1
  have h3 : q.2 = tabObj ps := Option.some.inj (h1.symm.trans h2)
  exact hc q hq (by rw [h3])
theorem ConV.useP (C : ConV w D U f vs kw sub post)
    (B : Below A₀ base outer h₀) (F : Fr h₀ L s.heap m) (N : News h₀ L s.heap news) (hp : Pick (383, tabObj ps) news rest) (hc : ∀ q ∈ rest, q.2.cls ≠ .none) (ht : TriplesOk ps.toList) (T : Top p loose mean mg mb h₀) (X : (Mine.fr.heap_1 w.params).In h₀) (hf : env.frame = some L) (hk : env.scope.kind = .function) (hd : dp + D < recursionLimit) (hu : un + U < cLine) (hs : ∀ q ∈ sub, q ∈ rest)
    (ret : ∀ r tl h' g' tk' ps', post r tl → TriplesOk ps'.toList → Fr h₀ L h' m → News h₀ L h' ((383, tabObj ps') :: (rest ++ tl)) → (AllBare s.gens → AllBare g') → R (.ok (.ret r)) ⟨h', g', s.drawn, tk', s.os⟩) :
    codeAny (model PySem.Challenge.rw_lh0061_01.row.prog w) (topA dp un gd env outer) (.call f ⟨vs, kw⟩) R s :=
  ConV.use C B F (pick_news N hp hc).1 ht (pick_news N hp hc).2 T X hf hk hd hu hs fun r tl h' g' tk' ps' hp' _ ht' F' N' _ hb => ret r tl h' g' tk' ps' hp' ht' F' N' hb
theorem ConG.useP (C : ConG w D U f vs kw sub post)
    (B : Below A₀ base outer h₀) (F : Fr h₀ L s.heap m) (N : News h₀ L s.heap news) (hp : Pick (383, tabObj ps) news rest) (hc : ∀ q ∈ rest, q.2.cls ≠ .none) (ht : TriplesOk ps.toList) (T : Top p loose mean mg mb h₀) (X : (Mine.fr.heap_1 w.params).In h₀) (hf : env.frame = some L) (hk : env.scope.kind = .function) (hd : dp + D < recursionLimit) (hu : un + U < cLine) (hs : ∀ q ∈ sub, q ∈ rest)
    (ret : ∀ r tl h' g' tk' ps', post r tl → TriplesOk ps'.toList → Fr h₀ L h' m → News h₀ L h' ((383, tabObj ps') :: (rest ++ tl)) → (AllBare s.gens → AllBare g') → R (.ok (.ret r)) ⟨h', g', s.drawn, tk', s.os⟩) :
    codeAny (model PySem.Challenge.rw_lh0061_01.row.prog w) (topA dp un gd env outer) (.call f ⟨vs, kw⟩) R s :=
  ConG.use C B F (pick_news N hp hc).1 ht (pick_news N hp hc).2 T X hf hk hd hu hs fun r tl h' g' tk' ps' hp' _ _ ht' F' N' _ hb => ret r tl h' g' tk' ps' hp' ht' F' N' hb
inductive VerInst (P : Params) (a b c : Int) (x : Addr) (news : List (Addr × Obj)) : Prop
  | mk (dx : Addr) (k1 k2 k3 k4 k5 k6 k7 k8 t1 t2 t3 : Tok) (tp tb tk t8 : Addr) (n : Nat) (ia : (x, instObj 448 dx) ∈ news) (ib : (dx, dictOf (vent8 P k1 k2 k3 k4 k5 k6 k7 k8 a b c t1 t2 t3 tp tb tk t8) n) ∈ news) : VerInst P a b c x news
theorem ver_inst {P : Params} {a b c : Int} {zp yp : List Str} {x : Addr} {tl news : List (Addr × Obj)} (V : VerObj P a b c zp yp x tl) (hs : ∀ q ∈ tl, q ∈ news) : VerInst P a b c x news := by
  cases V with
  | mk _ _ _ => exact .mk _ _ _ _ _ _ _ _ _ _ _ _ _ _ _ _ _ (hs _ List.mem_cons_self) (hs _ (List.mem_cons_of_mem _ List.mem_cons_self))
theorem ConV.use0P {v : Value} (C : ConV w D U f vs kw sub fun r tl => r = v ∧ tl = [])
    (B : Below A₀ base outer h₀) (F : Fr h₀ L s.heap m) (N : News h₀ L s.heap news) (hp : Pick (383, tabObj ps) news rest) (hc : ∀ q ∈ rest, q.2.cls ≠ .none) (ht : TriplesOk ps.toList) (T : Top p loose mean mg mb h₀) (X : (Mine.fr.heap_1 w.params).In h₀) (hf : env.frame = some L) (hk : env.scope.kind = .function) (hd : dp + D < recursionLimit) (hu : un + U < cLine) (hs : ∀ q ∈ sub, q ∈ rest)
    (ret : ∀ h' g' tk' ps', TriplesOk ps'.toList → Fr h₀ L h' m → News h₀ L h' ((383, tabObj ps') :: rest) → (AllBare s.gens → AllBare g') → R (.ok (.ret v)) ⟨h', g', s.drawn, tk', s.os⟩) :
    codeAny (model PySem.Challenge.rw_lh0061_01.row.prog w) (topA dp un gd env outer) (.call f ⟨vs, kw⟩) R s :=
  ConV.useP C B F N hp hc ht T X hf hk hd hu hs fun r tl h' g' tk' ps' pq ht' F' N' hb => by
    obtain ⟨rfl, rfl⟩ := pq
    rw [List.append_nil] at N'
    exact ret h' g' tk' ps' ht' F' N' hb
theorem ConG.use0P {v : Value} (C : ConG w D U f vs kw sub fun r tl => r = v ∧ tl = [])
    (B : Below A₀ base outer h₀) (F : Fr h₀ L s.heap m) (N : News h₀ L s.heap news) (hp : Pick (383, tabObj ps) news rest) (hc : ∀ q ∈ rest, q.2.cls ≠ .none) (ht : TriplesOk ps.toList) (T : Top p loose mean mg mb h₀) (X : (Mine.fr.heap_1 w.params).In h₀) (hf : env.frame = some L) (hk : env.scope.kind = .function) (hd : dp + D < recursionLimit) (hu : un + U < cLine) (hs : ∀ q ∈ sub, q ∈ rest)
    (ret : ∀ h' g' tk' ps', TriplesOk ps'.toList → Fr h₀ L h' m → News h₀ L h' ((383, tabObj ps') :: rest) → (AllBare s.gens → AllBare g') → R (.ok (.ret v)) ⟨h', g', s.drawn, tk', s.os⟩) :
    codeAny (model PySem.Challenge.rw_lh0061_01.row.prog w) (topA dp un gd env outer) (.call f ⟨vs, kw⟩) R s :=
  ConG.useP C B F N hp hc ht T X hf hk hd hu hs fun r tl h' g' tk' ps' pq ht' F' N' hb => by
    obtain ⟨rfl, rfl⟩ := pq
    rw [List.append_nil] at N'
    exact ret h' g' tk' ps' ht' F' N' hb
theorem ConV.useVp {a b c : Int} {zp yp : List Str} (C : ConV w D U f vs kw sub fun r tl => ∃ x, r = .ref x ∧ VerObj w.params a b c zp yp x tl)
    (B : Below A₀ base outer h₀) (F : Fr h₀ L s.heap m) (N : News h₀ L s.heap news) (hp : Pick (383, tabObj ps) news rest) (hc : ∀ q ∈ rest, q.2.cls ≠ .none) (ht : TriplesOk ps.toList) (T : Top p loose mean mg mb h₀) (X : (Mine.fr.heap_1 w.params).In h₀) (hf : env.frame = some L) (hk : env.scope.kind = .function) (hd : dp + D < recursionLimit) (hu : un + U < cLine) (hs : ∀ q ∈ sub, q ∈ rest)
    (ret : ∀ x tl dx k1 k2 k3 k4 k5 k6 k7 k8 t1 t2 t3 tp tb tk t8 n h' g' tk' ps', VerObj w.params a b c zp yp x tl → (x, instObj 448 dx) ∈ tl → (dx, dictOf (vent8 w.params k1 k2 k3 k4 k5 k6 k7 k8 a b c t1 t2 t3 tp tb tk t8) n) ∈ tl → (∀ q ∈ tl, q.2.cls ≠ .none) → TriplesOk ps'.toList → Fr h₀ L h' m → News h₀ L h' ((383, tabObj ps') :: (rest ++ tl)) → (AllBare s.gens → AllBare g') → R (.ok (.ret (.ref x))) ⟨h', g', s.drawn, tk', s.os⟩) :
    codeAny (model PySem.Challenge.rw_lh0061_01.row.prog w) (topA dp un gd env outer) (.call f ⟨vs, kw⟩) R s :=
  ConV.useP C B F N hp hc ht T X hf hk hd hu hs fun r tl h' g' tk' ps' pq ht' F' N' hb => by
    obtain ⟨x, rfl, V⟩ := pq
    obtain ⟨dx, k1, k2, k3, k4, k5, k6, k7, k8, t1, t2, t3, tp, tb, tk, t8, n, ia, ib⟩ := ver_inst V fun _ h => h
    exact ret x tl _ _ _ _ _ _ _ _ _ _ _ _ _ _ _ _ _ h' g' tk' ps' V ia ib (fun q hq => (ver_plain V q hq).2) ht' F' N' hb
/-- a call that gives a new version: it stands ahead of what stood -/
theorem ConV.useVer {a b c : Int} {zp yp : List Str} (C : ConV w D U f vs kw sub fun r tl => ∃ x, r = .ref x ∧ VerObj w.params a b c zp yp x tl)
    (B : Below A₀ base outer h₀) (F : Fr h₀ L s.heap m) (N : News h₀ L s.heap news) (hp : Pick (383, tabObj ps) news rest) (hc : ∀ q ∈ rest, q.2.cls ≠ .none) (ht : TriplesOk ps.toList) (T : Top p loose mean mg mb h₀) (X : (Mine.fr.heap_1 w.params).In h₀) (hf : env.frame = some L) (hk : env.scope.kind = .function) (hd : dp + D < recursionLimit) (hu : un + U < cLine) (hs : ∀ q ∈ sub, q ∈ rest)
    (ret : ∀ x dx tp tb tk t8 pk k1 k2 k3 k4 k5 k6 k7 k8 t1 t2 t3 u1 u2 u3 n vp vb acc led h' g' tk' ps', VerObj w.params a b c zp yp x ((x, instObj 448 dx) :: (dx, dictOf (vent8 w.params k1 k2 k3 k4 k5 k6 k7 k8 a b c t1 t2 t3 tp tb tk t8) n) :: (tp, tupO vp) :: (tb, tupO vb) :: (tk, tupO [.int a u1, .int b u2, .int c u3, .ref pk]) :: (pk, tupO acc) :: led) → StrsAre vp zp → StrsAre vb yp → (∀ q ∈ led, q.2.cls ≠ .none) →
      TriplesOk ps'.toList → Fr h₀ L h' m → News h₀ L h' ((x, instObj 448 dx) :: (dx, dictOf (vent8 w.params k1 k2 k3 k4 k5 k6 k7 k8 a b c t1 t2 t3 tp tb tk t8) n) :: (tp, tupO vp) :: (tb, tupO vb) :: (tk, tupO [.int a u1, .int b u2, .int c u3, .ref pk]) :: (pk, tupO acc) :: (383, tabObj ps') :: (rest ++ led)) → (AllBare s.gens → AllBare g') → R (.ok (.ret (.ref x))) ⟨h', g', s.drawn, tk', s.os⟩) :
    codeAny (model PySem.Challenge.rw_lh0061_01.row.prog w) (topA dp un gd env outer) (.call f ⟨vs, kw⟩) R s := by
  refine ConV.useP C B F N hp hc ht T X hf hk hd hu hs fun r tl h' g' tk' ps' pq ht' F' N' hb => ?_
  obtain ⟨x, rfl, V⟩ := pq
  have pl := fun q hq => (ver_plain V q hq).2
  have V' := V
  cases V with
  | mk hvp hvb k =>
    refine ret _ _ _ _ _ _ _ _ _ _ _ _ _ _ _ _ _ _ _ _ _ _ _ _ _ _ h' g' tk' ps' V' hvp hvb (fun q hq => pl q (by simp [hq])) ht' F' (fun q hq => N' q (perm7 q hq)) hb
theorem ConV.useVer0 {a b c : Int} (C : ConV w D U f vs kw sub fun r tl => ∃ x, r = .ref x ∧ VerObj w.params a b c [] [] x tl)
    (B : Below A₀ base outer h₀) (F : Fr h₀ L s.heap m) (N : News h₀ L s.heap news) (hp : Pick (383, tabObj ps) news rest) (hc : ∀ q ∈ rest, q.2.cls ≠ .none) (ht : TriplesOk ps.toList) (T : Top p loose mean mg mb h₀) (X : (Mine.fr.heap_1 w.params).In h₀) (hf : env.frame = some L) (hk : env.scope.kind = .function) (hd : dp + D < recursionLimit) (hu : un + U < cLine) (hs : ∀ q ∈ sub, q ∈ rest)
    (ret : ∀ x dx tp tb tk t8 pk k1 k2 k3 k4 k5 k6 k7 k8 t1 t2 t3 u1 u2 u3 n acc led h' g' tk' ps', VerObj w.params a b c [] [] x ((x, instObj 448 dx) :: (dx, dictOf (vent8 w.params k1 k2 k3 k4 k5 k6 k7 k8 a b c t1 t2 t3 tp tb tk t8) n) :: (tp, tupO []) :: (tb, tupO []) :: (tk, tupO [.int a u1, .int b u2, .int c u3, .ref pk]) :: (pk, tupO acc) :: led) → (∀ q ∈ led, q.2.cls ≠ .none) →
      TriplesOk ps'.toList → Fr h₀ L h' m → News h₀ L h' ((x, instObj 448 dx) :: (dx, dictOf (vent8 w.params k1 k2 k3 k4 k5 k6 k7 k8 a b c t1 t2 t3 tp tb tk t8) n) :: (tp, tupO []) :: (tb, tupO []) :: (tk, tupO [.int a u1, .int b u2, .int c u3, .ref pk]) :: (pk, tupO acc) :: (383, tabObj ps') :: (rest ++ led)) → (AllBare s.gens → AllBare g') → R (.ok (.ret (.ref x))) ⟨h', g', s.drawn, tk', s.os⟩) :
    codeAny (model PySem.Challenge.rw_lh0061_01.row.prog w) (topA dp un gd env outer) (.call f ⟨vs, kw⟩) R s :=
  ConV.useVer C B F N hp hc ht T X hf hk hd hu hs fun x dx tp tb tk t8 pk k1 k2 k3 k4 k5 k6 k7 k8 t1 t2 t3 u1 u2 u3 n vp vb acc led h' g' tk' ps' V hvp hvb => by
    cases strs0 hvp
    cases strs0 hvb
    exact ret x dx tp tb tk t8 pk k1 k2 k3 k4 k5 k6 k7 k8 t1 t2 t3 u1 u2 u3 n acc led h' g' tk' ps' V
end
theorem sub_two {tl1 tl2 news : List (Addr × Obj)} (h1 : ∀ q ∈ tl1, q ∈ news) (h2 : ∀ q ∈ tl2, q ∈ news) : ∀ q ∈ tl1 ++ tl2, q ∈ news := fun q hq => (List.mem_append.mp hq).elim (h1 q) (h2 q)
theorem ConG.mono {w : World} {D U : Nat} {f : Value} {vs : List Value} {kw : List (Str × Value)} {sub sub' : List (Addr × Obj)} {post : Value → List (Addr × Obj) → Prop} (C : ConG w D U f vs kw sub post) (h : ∀ q ∈ sub, q ∈ sub') : ConG w D U f vs kw sub' post :=
  fun _ _ _ _ _ _ _ _ _ _ _ _ _ _ _ _ _ _ _ B F N ht T hf hk hd hu hs hret X => C _ _ _ _ _ _ _ _ _ _ _ _ _ _ _ _ _ _ _ B F N ht T hf hk hd hu (fun q hq => hs q (h q hq)) hret X
theorem v_ne (w : World) {a b c : Int} {zp yp : List Str} {x1 x2 : Addr} {tl1 tl2 : List (Addr × Obj)} (V1 : VerObj w.params a b c zp yp x1 tl1) (V2 : VerObj w.params a b c zp yp x2 tl2) :
    ConG w 12 100 (.ref 417) [.ref x1, .ref x2] [] (tl1 ++ tl2) (fun r tl => r = .bool false ∧ tl = []) := by
  cases V1 with
  | mk hvp hvb k =>
    rename_i dx1 tp1 tb1 tk1 r1 pk1 k1 k2 k3 k4 k5 k6 k7 k8 t1 t2 t3 u1 u2 u3 n1 vp1 vb1 acc1 led1
    cases V2 with
    | mk hwp hwb k' =>
      rename_i dx2 tp2 tb2 tk2 r2 pk2 j1 j2 j3 j4 j5 j6 j7 j8 s1 s2 s3 v1 v2 v3 n2 vp2 vb2 acc2 led2
      refine ConG.mono (sub := [(x1, instObj 448 dx1), (dx1, dictOf (vent8 w.params k1 k2 k3 k4 k5 k6 k7 k8 a b c t1 t2 t3 tp1 tb1 tk1 r1) n1), (tp1, tupO vp1), (tb1, tupO vb1), (x2, instObj 448 dx2), (dx2, dictOf (vent8 w.params j1 j2 j3 j4 j5 j6 j7 j8 a b c s1 s2 s3 tp2 tb2 tk2 r2) n2), (tp2, tupO vp2), (tb2, tupO vb2)]) (v_ne0 w a b c hvp hvb hwp hwb) sub8
/- the law's own function, taken apart -/
noncomputable def LawFn (o : Option Obj) (qual : Str) (scope : Scope) (body : List Stmt) : Prop := FnSel forB5 o qual scope body
theorem law_elim {o : Option Obj} {G : Str → Scope → List Stmt → Prop} {oc : Value} {od : Option Addr} {name qual : Str} {params : Arguments} {scope : Scope} {s0 s1 s2 s3 : Stmt} {t it : PySem.Expr} {pos : Pos} {body rest : List Stmt} {dV kV doc pm cdv ct : Value} {an : Option Addr} {osl : Array (Option Value)}
    (h1 : o = some ⟨oc, od, .func (fnOf name qual params (s0 :: s1 :: s2 :: s3 :: .For t it body [] pos :: rest) scope dV kV doc pm an cdv ct), osl⟩) (k : LawFn o qual scope body → G qual scope body) : ∀ (qual' : Str) (scope' : Scope) (body' : List Stmt), LawFn o qual' scope' body' → G qual' scope' body' := fun _ _ _ HL => FnSel.elim HL h1 rfl k
/-- what stands around the law's own frame -/
noncomputable abbrev baseA (dp un : Nat) (gd : Option (List Code)) : Around := { handled := none, depth := dp, frames := some [], guards := gd, units := un }
theorem turn_map {n : Int} {t : Tok} {x v : Addr} {m : Str → Option Value} (mh : m (Str.ofString "held") = some (.ref x)) (mv : m (Str.ofString "version") = some (.ref v)) :
    (fun y => if y = Str.ofString "number" then some (.int n t) else m y) = fun y => if y = Str.ofString "number" then some (.int n t) else if y = Str.ofString "held" then some (.ref x) else if y = Str.ofString "version" then some (.ref v) else m y := by
  funext y
  by_cases h1 : y = Str.ofString "number"
  · rw [if_pos h1, if_pos h1]
  · rw [if_neg h1, if_neg h1]
    by_cases h2 : y = Str.ofString "held"
    · rw [if_pos h2, h2, mh]
    · rw [if_neg h2]
      by_cases h3 : y = Str.ofString "version"
      · rw [if_pos h3, h3, mv]
      · rw [if_neg h3]
/- the three nexts -/
theorem nMaj_lo {a b c A B C : Int} {zp : List Str} {i : Nat} (e : nMaj a b c zp = (A, B, C)) (ha : 0 ≤ a ∧ a < 12 + i) (hb : 0 ≤ b ∧ b < 12 + i) (hc : 0 ≤ c ∧ c < 10 ^ 30 + i) : (0 ≤ A ∧ A < 12 + (i + 1 : Nat)) ∧ (0 ≤ B ∧ B < 12 + (i + 1 : Nat)) ∧ (0 ≤ C ∧ C < 10 ^ 30 + (i + 1 : Nat)) := by
  unfold nMaj at e
  split at e
  · cases e; exact ⟨bd_le (Nat.le_succ i) ha, bd_0 (by decide), bd_0 (by decide)⟩
  · cases e; exact ⟨bd_s ha, bd_0 (by decide), bd_0 (by decide)⟩
theorem nMin_lo {a b c A B C : Int} {zp : List Str} {i : Nat} (e : nMin a b c zp = (A, B, C)) (ha : 0 ≤ a ∧ a < 12 + i) (hb : 0 ≤ b ∧ b < 12 + i) (hc : 0 ≤ c ∧ c < 10 ^ 30 + i) : (0 ≤ A ∧ A < 12 + (i + 1 : Nat)) ∧ (0 ≤ B ∧ B < 12 + (i + 1 : Nat)) ∧ (0 ≤ C ∧ C < 10 ^ 30 + (i + 1 : Nat)) := by
  unfold nMin at e
  split at e
  · cases e; exact ⟨bd_le (Nat.le_succ i) ha, bd_le (Nat.le_succ i) hb, bd_0 (by decide)⟩
  · cases e; exact ⟨bd_le (Nat.le_succ i) ha, bd_s hb, bd_0 (by decide)⟩
theorem nPat_lo {a b c A B C : Int} {zp : List Str} {i : Nat} (e : nPat a b c zp = (A, B, C)) (ha : 0 ≤ a ∧ a < 12 + i) (hb : 0 ≤ b ∧ b < 12 + i) (hc : 0 ≤ c ∧ c < 10 ^ 30 + i) : (0 ≤ A ∧ A < 12 + (i + 1 : Nat)) ∧ (0 ≤ B ∧ B < 12 + (i + 1 : Nat)) ∧ (0 ≤ C ∧ C < 10 ^ 30 + (i + 1 : Nat)) := by
  unfold nPat at e
  split at e
  · cases e; exact ⟨bd_le (Nat.le_succ i) ha, bd_le (Nat.le_succ i) hb, bd_le (Nat.le_succ i) hc⟩
  · cases e; exact ⟨bd_le (Nat.le_succ i) ha, bd_le (Nat.le_succ i) hb, bd_s hc⟩
theorem rel_nil (zp : List Str) : KeyRel [] zp (decide (zp = [])) := by
  cases zp with
  | nil => exact .same
  | cons z zs => rw [decide_eq_false (by simp)]; exact .max
theorem rel_same (zp : List Str) : KeyRel zp zp true := .same
theorem nMaj_gt {a b c A B C : Int} {zp : List Str} (e : nMaj a b c zp = (A, B, C)) (hc : 0 ≤ c) : gtV A B C a b c (decide (zp = [])) = true := by
  unfold nMaj at e
  split at e
  · rename_i h
    obtain ⟨h1, rfl, rfl⟩ := h
    cases e
    simp [gtV, h1]
  · cases e
    unfold gtV
    rw [if_neg (by omega)]
    exact decide_eq_true (by omega)
theorem nMin_gt {a b c A B C : Int} {zp : List Str} (e : nMin a b c zp = (A, B, C)) (hc : 0 ≤ c) : gtV A B C a b c (decide (zp = [])) = true := by
  unfold nMin at e
  split at e
  · rename_i h
    obtain ⟨h1, rfl⟩ := h
    cases e
    simp [gtV, h1]
  · cases e
    unfold gtV
    rw [if_pos rfl, if_neg (by omega)]
    exact decide_eq_true (by omega)
theorem nPat_gt {a b c A B C : Int} {zp : List Str} (e : nPat a b c zp = (A, B, C)) (hc : 0 ≤ c) : gtV A B C a b c (decide (zp = [])) = true := by
  unfold nPat at e
  split at e
  · rename_i h
    cases e
    simp [gtV, h]
  · cases e
    unfold gtV
    rw [if_pos rfl, if_pos rfl, if_neg (by omega)]
    exact decide_eq_true (by omega)
theorem ConV.post {w : World} {D U : Nat} {f : Value} {vs : List Value} {kw : List (Str × Value)} {sub : List (Addr × Obj)} {post post' : Value → List (Addr × Obj) → Prop} (C : ConV w D U f vs kw sub post) (h : ∀ r tl, post r tl → post' r tl) : ConV w D U f vs kw sub post' :=
  fun _ _ _ _ _ _ _ _ _ _ _ _ _ _ _ _ _ _ _ B F N ht hne T hf hk hd hu hs hret X => C _ _ _ _ _ _ _ _ _ _ _ _ _ _ _ _ _ _ _ B F N ht hne T hf hk hd hu hs (fun r tl h' g' tk' ps' hp => hret r tl h' g' tk' ps' (h r tl hp)) X
theorem c_nmajV (w : World) {a b c A B C : Int} {zp zb : List Str} {x : Addr} {tl : List (Addr × Obj)} (e : nMaj a b c zp = (A, B, C)) (V : VerObj w.params a b c zp zb x tl) (hz : Ids zp) : ConV w 30 150 (.ref 287) [.ref x] [] tl (fun r tl => ∃ x, r = .ref x ∧ VerObj w.params A B C [] [] x tl) :=
  (c_nmaj w a b c V hz).post fun r tl ⟨x, _, _, _, h, v, k⟩ => by rw [e] at k; cases k; exact ⟨x, h, v⟩
theorem c_nminV (w : World) {a b c A B C : Int} {zp zb : List Str} {x : Addr} {tl : List (Addr × Obj)} (e : nMin a b c zp = (A, B, C)) (V : VerObj w.params a b c zp zb x tl) (hz : Ids zp) : ConV w 30 150 (.ref 294) [.ref x] [] tl (fun r tl => ∃ x, r = .ref x ∧ VerObj w.params A B C [] [] x tl) :=
  (c_nmin w a b c V hz).post fun r tl ⟨x, _, _, _, h, v, k⟩ => by rw [e] at k; cases k; exact ⟨x, h, v⟩
theorem c_npatV (w : World) {a b c A B C : Int} {zp zb : List Str} {x : Addr} {tl : List (Addr × Obj)} (e : nPat a b c zp = (A, B, C)) (V : VerObj w.params a b c zp zb x tl) (hz : Ids zp) : ConV w 30 150 (.ref 301) [.ref x] [] tl (fun r tl => ∃ x, r = .ref x ∧ VerObj w.params A B C [] [] x tl) :=
  (c_npat w a b c V hz).post fun r tl ⟨x, _, _, _, h, v, k⟩ => by rw [e] at k; cases k; exact ⟨x, h, v⟩
theorem ConF.post {w : World} {D U : Nat} {f : Value} {vs : List Value} {kw : List (Str × Value)} {sub : List (Addr × Obj)} {post post' : Value → List (Addr × Obj) → Prop} (C : ConF w D U f vs kw sub post) (h : ∀ r tl, post r tl → post' r tl) : ConF w D U f vs kw sub post' :=
  fun _ _ _ _ _ _ _ _ _ _ _ _ _ _ _ _ _ _ B F N T hf hk hd hu hs hret X => C _ _ _ _ _ _ _ _ _ _ _ _ _ _ _ _ _ _ B F N T hf hk hd hu hs (fun r tl h' tk' hp => hret r tl h' tk' (h r tl hp)) X
inductive NumPost (A B C : Int) : Value → List (Addr × Obj) → Prop
  | mk (D p q : Addr) (u1 u2 u3 : Tok) (k1 k2 k3 : Nat) : NumPost A B C (.ref D) [lawV D A B C u1 u2 u3 p q k1, (p, lstO [] k2), (q, lstO [] k3)]
theorem lawnext_to {v3 : Int × Int × Int} {A B C : Int} {r : Value} {tl : List (Addr × Obj)} (e : v3 = (A, B, C)) (h : LawNext v3 r tl) : NumPost A B C r tl := by
  subst e
  obtain ⟨D, p, q, A', B', C', u1, u2, u3, k1, k2, k3, rfl, rfl, k⟩ := h
  cases k
  exact .mk D p q u1 u2 u3 k1 k2 k3
theorem c_lmajV (w : World) {a b c A B C : Int} {v p q : Addr} {t0 t1 t2 t3 : Tok} {n n1 n2 : Nat} {zp yp : List Str} {vp vb : List Value} {k0 : Int} (hk : k0 = 0) (e : nMaj a b c zp = (A, B, C)) (a0 : 0 ≤ a) (b0 : 0 ≤ b) (c0 : 0 ≤ c) (hz : Ids zp) (hy : Ids yp) (hvp : StrsAre vp zp) (hvb : StrsAre vb yp) :
    ConF w 8 80 (.ref 478) [.ref v, .int k0 t0] [] [lawV v a b c t1 t2 t3 p q n, (p, lstO vp n1), (q, lstO vb n2)] (NumPost A B C) :=
  hk ▸ (c_lmaj w a b c a0 b0 c0 hz hy hvp hvb).post fun r tl h => lawnext_to e h
theorem c_lminV (w : World) {a b c A B C : Int} {v p q : Addr} {t0 t1 t2 t3 : Tok} {n n1 n2 : Nat} {zp yp : List Str} {vp vb : List Value} {k0 : Int} (hk : k0 = 1) (e : nMin a b c zp = (A, B, C)) (a0 : 0 ≤ a) (b0 : 0 ≤ b) (c0 : 0 ≤ c) (hz : Ids zp) (hy : Ids yp) (hvp : StrsAre vp zp) (hvb : StrsAre vb yp) :
    ConF w 8 80 (.ref 478) [.ref v, .int k0 t0] [] [lawV v a b c t1 t2 t3 p q n, (p, lstO vp n1), (q, lstO vb n2)] (NumPost A B C) :=
  hk ▸ (c_lmin w a b c a0 b0 c0 hz hy hvp hvb).post fun r tl h => lawnext_to e h
theorem c_lpatV (w : World) {a b c A B C : Int} {v p q : Addr} {t0 t1 t2 t3 : Tok} {n n1 n2 : Nat} {zp yp : List Str} {vp vb : List Value} {k0 : Int} (hk : k0 = 2) (e : nPat a b c zp = (A, B, C)) (a0 : 0 ≤ a) (b0 : 0 ≤ b) (c0 : 0 ≤ c) (hz : Ids zp) (hy : Ids yp) (hvp : StrsAre vp zp) (hvb : StrsAre vb yp) :
    ConF w 8 80 (.ref 478) [.ref v, .int k0 t0] [] [lawV v a b c t1 t2 t3 p q n, (p, lstO vp n1), (q, lstO vb n2)] (NumPost A B C) :=
  hk ▸ (c_lpat w a b c a0 b0 c0 hz hy hvp hvb).post fun r tl h => lawnext_to e h
theorem v_gtV (w : World) {A B C a b c : Int} {zr yr zp yp : List Str} {x1 x2 : Addr} {tl1 tl2 : List (Addr × Obj)} {e bb : Bool} (V1 : VerObj w.params A B C zr yr x1 tl1) (V2 : VerObj w.params a b c zp yp x2 tl2) (rel : KeyRel zr zp e) (hb : gtV A B C a b c e = bb) :
    Con w 8 80 (.ref 438) [.ref x1, .ref x2] [] (tl1 ++ tl2) (fun r tl => r = .bool bb ∧ tl = []) := hb ▸ v_gt w V1 V2 rel
theorem v_ltV (w : World) {A B C a b c : Int} {zr yr zp yp : List Str} {x1 x2 : Addr} {tl1 tl2 : List (Addr × Obj)} {e bb : Bool} (V1 : VerObj w.params A B C zr yr x1 tl1) (V2 : VerObj w.params a b c zp yp x2 tl2) (rel : KeyRel zr zp e) (hb : ltV A B C a b c = bb) :
    Con w 8 80 (.ref 424) [.ref x1, .ref x2] [] (tl1 ++ tl2) (fun r tl => r = .bool bb ∧ tl = []) := hb ▸ v_lt w V1 V2 rel
theorem v_eqV (w : World) {A B C a b c : Int} {zr yr zp yp : List Str} {x1 x2 : Addr} {tl1 tl2 : List (Addr × Obj)} {bb : Bool} (V1 : VerObj w.params A B C zr yr x1 tl1) (V2 : VerObj w.params a b c zp yp x2 tl2) (h1 : Ids zr) (h2 : Ids yr) (h3 : Ids zp) (h4 : Ids yp) (hb : eqV A B C a b c zr yr zp yp = bb) :
    Con w 8 80 (.ref 410) [.ref x1, .ref x2] [] (tl1 ++ tl2) (fun r tl => r = .bool bb ∧ tl = []) := hb ▸ v_eq w V1 V2 h1 h2 h3 h4
theorem fit_of {a : Int} (i : Nat) (h0 : 0 ≤ a) (h1 : a < 12 + i) (hi : i ≤ 8) : Fit a := ⟨h0, by omega⟩
theorem fit_big {a : Int} (i : Nat) (h0 : 0 ≤ a) (h1 : a < 10 ^ 30 + i) (hi : i ≤ 8) : Fit a := ⟨h0, by omega⟩
theorem mod_deed {prog : Program} {w : World} {A : Around} {E : Value → Shared → Prop} {s : Shared} {Q : Value → Shared → Prop} {n d : Int} {t u : Tok} (hn : n.fmod 10 = d) (h : Q (.int d s.toks) { s with toks := s.toks + 1 }) : wpAny (model prog w) A (binaryOp .Mod (.int n t) (.int 10 u)) Q E s := mod_int' (by decide) (hn ▸ h)
theorem turn_end {P : Params} {h₀ h h' : Heap} {L : Addr} {j : Nat} {X news tl : List (Addr × Obj)} {g g' : Array GenState} {dr : Drawn} {os : OsState} {tk tk' : Nat} {m' : Str → Option Value} {x' v' p q : Addr} {A B C : Int} {zr yr : List Str} {t1 t2 t3 : Tok} {n n1 n2 : Nat} {vp vb : List Value} {ps' : Array Value}
    (F : Fr h₀ L h' m') (N : News h₀ L h' news) (mh : m' (Str.ofString "held") = some (.ref x')) (mv : m' (Str.ofString "version") = some (.ref v')) (V : VerObj P A B C zr yr x' tl) (m1 : lawV v' A B C t1 t2 t3 p q n ∈ news) (m2 : (p, lstO vp n1) ∈ news) (m3 : (q, lstO vb n2) ∈ news)
    (hvp : StrsAre vp zr) (hvb : StrsAre vb yr) (hz : Ids zr) (hy : Ids yr) (ba : 0 ≤ A ∧ A < 12 + j) (bb : 0 ≤ B ∧ B < 12 + j) (bc : 0 ≤ C ∧ C < 10 ^ 30 + j) (hs : ∀ q ∈ tl, q ∈ news) (hX : ∀ q ∈ X, q ∈ news) (h3 : (383, tabObj ps') ∈ news) (ht : TriplesOk ps'.toList) (ab : AllBare g → AllBare g') :
    TurnPost P h₀ L j X ⟨h, g, dr, tk, os⟩ .next ⟨h', g', dr, tk', os⟩ := by
  refine .mk h' g' tk' m' x' v' _ ps' F mh mv (.mk (t1 := t1) (t2 := t2) (t3 := t3) (p := p) (q := q) (n := n) (n1 := n1) (n2 := n2) V ba bb bc hz hy hvp hvb) (fun y hy => N y ?_) ht ab
  simp only [List.mem_cons, List.cons_append, List.mem_append] at hy
  rcases hy with rfl | rfl | rfl | rfl | hy | hy
  · exact h3
  · exact m1
  · exact m2
  · exact m3
  · exact hs y hy
  · exact hX y hy
theorem bnd_up {a k : Int} {i : Nat} (h : 0 ≤ a ∧ a < k + i) : 0 ≤ a ∧ a < k + (i + 1 : Nat) := bd_le (Nat.le_succ i) h
theorem bnd_0 {k : Int} {i : Nat} (h : 0 < k) : (0 : Int) ≤ 0 ∧ (0 : Int) < k + (i + 1 : Nat) := bd_0 h
theorem dead_a {A B C a b c : Int} {zp : List Str} {gg : Bool} (hgt : gtV A B C a b c (decide (zp = [])) = gg) (hA : A = a) (hB : B ≤ b) (hC : C ≤ c) (h : zp = []) (e : (gg != !decide (zp = [])) = true) : False := by
  subst h hA hgt
  simp only [decide_true, Bool.not_true, bne_iff_ne, ne_eq, Bool.not_eq_false] at e
  unfold gtV at e
  rw [if_pos rfl] at e
  split at e
  · split at e
    · cases e
    · have := of_decide_eq_true e; omega
  · have := of_decide_eq_true e; omega
theorem dead_b {A B C a b c : Int} {zp : List Str} {gg : Bool} (hgt : gtV A B C a b c (decide (zp = [])) = gg) (hA : A = a) (hB : B ≤ b) (hC : C ≤ c) (h : ¬ zp = []) (e : (gg != decide ([a, b, c] = [A, B, C])) = true) : False := by
  subst hA hgt
  rw [decide_eq_false h] at e
  unfold gtV at e
  rw [if_pos rfl] at e
  by_cases h1 : B = b
  · subst h1
    by_cases h2 : C = c
    · subst h2; simp at e
    · rw [if_pos rfl, if_neg h2, decide_eq_false (by omega : ¬ C > c), decide_eq_false (by simp; omega)] at e; cases e
  · rw [if_neg h1, decide_eq_false (by omega : ¬ B > b), decide_eq_false (by simp; omega)] at e; cases e
noncomputable def bads : List Str := [Str.ofString "minorr", Str.ofString "", Str.ofString "Major", Str.ofString "none"]
structure Bad (z : Str) : Prop where
  len : z.length ≤ 6
  n1 : z ≠ Str.ofString "build"
  n2 : z ≠ Str.ofString "prerelease"
  n3 : z ≠ Str.ofString "patch"
  n4 : z ≠ Str.ofString "minor"
  n5 : z ≠ Str.ofString "major"
theorem bads_bad {z : Str} (hz : z ∈ bads) : Bad z := by
  have : ∀ z ∈ bads, z.length ≤ 6 ∧ z ≠ Str.ofString "build" ∧ z ≠ Str.ofString "prerelease" ∧ z ≠ Str.ofString "patch" ∧ z ≠ Str.ofString "minor" ∧ z ≠ Str.ofString "major" := by decide +kernel
  obtain ⟨a, b, c, d, e, f⟩ := this z hz
  exact ⟨a, b, c, d, e, f⟩
theorem fin4 : ∀ k : Fin 4, ((k : Nat) : Int) = 0 ∨ ((k : Nat) : Int) = 1 ∨ ((k : Nat) : Int) = 2 ∨ ((k : Nat) : Int) = 3 := by decide
theorem fmod4 (n : Int) : n.fmod 4 = 0 ∨ n.fmod 4 = 1 ∨ n.fmod 4 = 2 ∨ n.fmod 4 = 3 := by
  obtain ⟨k, e⟩ := Int.eq_ofNat_of_zero_le (Int.fmod_nonneg_of_pos n (by decide : (0 : Int) < 4))
  have h1 := Int.fmod_lt_of_pos n (by decide : (0 : Int) < 4)
  rw [e] at h1 ⊢
  exact fin4 ⟨k, Int.ofNat_lt.mp h1⟩
theorem bad_at {prog : Program} {w : World} {A : Around} {E : Value → Shared → Prop} {s : Shared} {value slice : PySem.Expr} {D : Addr} {o : Obj} {n : Nat} {k : Int} {u t1 t2 t3 t4 : Tok} {h₀ : Heap} {L : Addr} {news : List (Addr × Obj)} {Q : Value → Shared → Prop} (N : News h₀ L s.heap news) (hm : (D, o) ∈ news) (ho : o = lstO [.str (Str.ofString "minorr") t1, .str (Str.ofString "") t2, .str (Str.ofString "Major") t3, .str (Str.ofString "none") t4] n) (h : ∀ z t, Bad z → Q (.str z t) s)
    (hs : subscripted slice false (.ref D) (.int (k.fmod 4) u) = operate [.ref D, .int (k.fmod 4) u] (getItem (.ref D) (.int (k.fmod 4) u)) := by with_unfolding_all rfl) (ht : ∀ r, letTemporaryGo value (.ref D) r = pure () := by intro _; with_unfolding_all rfl) :
    wpAny (model prog w) A (subscriptTail value slice (.ref D) (.int (k.fmod 4) u)) Q E s := by
  subst ho
  rcases fmod4 k with e | e | e | e <;> rw [e] at hs ⊢
  · exact list_item N hm rfl (by decide) (Nat.le_of_ble_eq_true rfl) (h _ _ (bads_bad (by simp [bads]))) hs ht
  · exact list_item N hm rfl (by decide) (Nat.le_of_ble_eq_true rfl) (h _ _ (bads_bad (by simp [bads]))) hs ht
  · exact list_item N hm rfl (by decide) (Nat.le_of_ble_eq_true rfl) (h _ _ (bads_bad (by simp [bads]))) hs ht
  · exact list_item N hm rfl (by decide) (Nat.le_of_ble_eq_true rfl) (h _ _ (bads_bad (by simp [bads]))) hs ht
theorem eq_strF {prog : Program} {w : World} {A : Around} {E : Value → Shared → Prop} {s : Shared} {Q : Value → Shared → Prop} {x y : Str} {t u : Tok} (hne : x ≠ y) (h : Q (.bool false) s) : wpAny (model prog w) A (compareOp .Eq (.str x t) (.str y u)) Q E s := PyProof.Rows.eq_str (by rw [beq_eq_false_iff_ne.mpr hne]; exact h)
theorem ids_of {vs : List Value} {n : Int} (_ : StrsAre vs (wordsOf n)) : Ids (wordsOf n) := by
  have few : ∀ o : Option Str, o.toList.length ≤ 1 := fun o => by cases o <;> simp
  have word : ∀ (k : Nat), ∀ z ∈ (Words[k]?).toList, z ∈ Words := fun k z hz => by
    rw [Option.mem_toList] at hz
    exact List.mem_of_getElem? hz
  unfold wordsOf
  split
  · refine ⟨?_, fun z hz => ?_⟩
    · rw [List.length_append]
      have h1 := few (Words[(n.fmod 8).toNat]?)
      split
      · have h2 := few (Words[((n.fdiv 8).fmod 8).toNat]?); omega
      · simp only [List.length_nil]; omega
    · rcases List.mem_append.mp hz with hz | hz
      · exact word _ z hz
      · split at hz
        · exact word _ z hz
        · cases hz
  · exact ⟨Nat.zero_le _, fun _ h => nomatch h⟩
theorem fmod64_lo (n : Int) : 0 ≤ n.fmod 64 := Int.fmod_nonneg_of_pos n (by decide)
theorem fmod64_hi (n : Int) : n.fmod 64 < 64 := Int.fmod_lt_of_pos n (by decide)
theorem fit12 (n : Int) : Fit (n.fmod 12) := ⟨Int.fmod_nonneg_of_pos n (by decide), Int.lt_trans (Int.fmod_lt_of_pos n (by decide)) (by decide)⟩
theorem fit3 (n : Int) : Fit (n.fmod 3) := ⟨Int.fmod_nonneg_of_pos n (by decide), Int.lt_trans (Int.fmod_lt_of_pos n (by decide)) (by decide)⟩
theorem fit30 (n : Int) : Fit (n.fmod (10 ^ 30)) := ⟨Int.fmod_nonneg_of_pos n (by decide), Int.lt_trans (Int.fmod_lt_of_pos n (by decide)) (by decide)⟩
theorem slice_two {prog : Program} {w : World} {A : Around} {E : Value → Shared → Prop} {s : Shared} {h₀ : Heap} {L l : Addr} {m : Str → Option Value} {news : List (Addr × Obj)} {value slice : PySem.Expr} {vs : List Value} {ns : List Int} {vl vu : Value} {Q : Value → Shared → Prop}
    (F : Fr h₀ L s.heap m) (N : News h₀ L s.heap news) (hl : s.heap.IsList l vs.toArray) (hi : IntsAre vs ns) (h2 : 2 ≤ ns.length) (pl : IsPart vl none) (pu : IsPart vu (some 2))
    (h : ∀ D a b ta tb h', Fr h₀ L h' m → News h₀ L h' ((D, lstO [.int a ta, .int b tb] 0) :: news) → (∀ p ∈ news, p.1 < D) → Q (.ref D) { s with heap := h' })
    (hs : subscripted slice false (.ref l) (.ref s.heap.objs.size) = operate [.ref s.heap.objs.size, .ref l] (getItem (.ref l) (.ref s.heap.objs.size))) (ht : ∀ r, letTemporaryGo value (.ref l) r = pure ()) (hz : vs.toArray.size ≤ sizeLine) :
    wpAny (model prog w) A (subscriptTail value slice (.ref l) (.ref s.heap.objs.size)) Q E { s with heap := s.heap.push { cls := .type "slice", data := .fields #[vl, vu, .none] } } := by
  refine kmk_slice F N hl pl pu (fun D h' F' N' l1 => ?_) hs ht hz
  have u := kmk_upto (y := 2) hi (by decide)
  match ns, h2, u with
  | a :: b :: r, _, u =>
    have u' : IntsAre (slicePick vs.toArray none (some 2) none).toList [a, b] := u
    have key : ∀ {zs : List Value}, IntsAre zs [a, b] → ∃ ta tb, zs = [.int a ta, .int b tb] := by
      intro zs hz
      cases hz with
      | cons i t hz =>
        cases hz with
        | cons i' t' hz => cases hz; exact ⟨_, _, rfl⟩
    obtain ⟨ta, tb, e⟩ := key u'
    refine h D a b ta tb h' F' ?_ l1
    rw [← e, Array.toArray_toList]
    exact N'
end
section
/- the law's turn, taken apart -/
structure LawAt (w : World) (p : Program) (loose : List Str) (mean : ExcName → Option Value) (mg mb : Str → Option Value) (dp un : Nat) (gd : Option (List Code)) (qual : Str) (scope : Scope) (h₀ : Heap) (L fa : Addr) (cd : Value) (E : Value → Shared → Prop) : Prop where
  X : (Mine.fr.heap_1 w.params).In h₀
  B : Below (baseA dp un gd) h₀ [] h₀
  T : Top p loose mean mg mb h₀
  v1 : Str.ofString "ValueError" ∉ loose
  v2 : Str.ofString "ValueError" ∉ (recsOf p).map (·.name)
  v3 : Str.ofString "ValueError" ∉ (litsOf p).map (·.1)
  v4 : Str.ofString "ValueError" ∉ (clssOf p loose).map (·.name)
  E1 : ∀ e, PassesOwnAt (model PySem.Challenge.rw_lh0061_01.row.prog w) (((baseA dp un gd).deeper (envOf qual scope L fa cd)).mark (some (.ref e))) ((baseA dp un gd).deeper (envOf qual scope L fa cd)) (envOf qual scope L fa cd) E
  E2 : PassesOwn (model PySem.Challenge.rw_lh0061_01.row.prog w) ((baseA dp un gd).deeper (envOf qual scope L fa cd)) (envOf qual scope L fa cd) E
  hd : dp + 60 < recursionLimit
  hu : un + 300 < cLine
/-- the parts of a turn's text -/
noncomputable def LawP (o : Option Obj) (qual : Str) (scope : Scope) (b0 b1 : Stmt) (c1 : PySem.Expr) (th1 : List Stmt) (c2 : PySem.Expr) (d1 d2 : Stmt) (ds el2 : List Stmt) (q2 q1 : Pos) (e1 e2 : Stmt) : Prop :=
  LawFn o qual scope [b0, b1, .If c1 th1 [.If c2 (d1 :: d2 :: ds) el2 q2] q1, e1, e2]
theorem lawp_elim {o : Option Obj} {G : Str → Scope → Stmt → Stmt → PySem.Expr → List Stmt → PySem.Expr → Stmt → Stmt → List Stmt → List Stmt → Pos → Pos → Stmt → Stmt → Prop}
    {oc : Value} {od : Option Addr} {name qual : Str} {params : Arguments} {scope : Scope} {s0 s1 s2 s3 : Stmt} {t it : PySem.Expr} {pos : Pos} {b0 b1 : Stmt} {c1 : PySem.Expr} {th1 : List Stmt} {c2 : PySem.Expr} {d1 d2 : Stmt} {ds el2 : List Stmt} {q2 q1 : Pos} {e1 e2 : Stmt} {rest : List Stmt} {dV kV doc pm cdv ct : Value} {an : Option Addr} {osl : Array (Option Value)}
    (h1 : o = some ⟨oc, od, .func (fnOf name qual params (s0 :: s1 :: s2 :: s3 :: .For t it [b0, b1, .If c1 th1 [.If c2 (d1 :: d2 :: ds) el2 q2] q1, e1, e2] [] pos :: rest) scope dV kV doc pm an cdv ct), osl⟩)
    (k : LawP o qual scope b0 b1 c1 th1 c2 d1 d2 ds el2 q2 q1 e1 e2 → G qual scope b0 b1 c1 th1 c2 d1 d2 ds el2 q2 q1 e1 e2) : ∀ (qual' : Str) (scope' : Scope) (b0' b1' : Stmt) (c1' : PySem.Expr) (th1' : List Stmt) (c2' : PySem.Expr) (d1' d2' : Stmt) (ds' el2' : List Stmt) (q2' q1' : Pos) (e1' e2' : Stmt), LawP o qual' scope' b0' b1' c1' th1' c2' d1' d2' ds' el2' q2' q1' e1' e2' → G qual' scope' b0' b1' c1' th1' c2' d1' d2' ds' el2' q2' q1' e1' e2' := by
  intro qual' scope' b0' b1' c1' th1' c2' d1' d2' ds' el2' q2' q1' e1' e2' HP
  obtain ⟨rfl, rfl, z⟩ := FnSel.eq HP h1 rfl
  cases z
  exact k HP
theorem lawp_elimD {o : Option Obj} {G : Str → Scope → Stmt → Stmt → List Stmt → Prop}
    {oc : Value} {od : Option Addr} {name qual : Str} {params : Arguments} {scope : Scope} {s0 s1 s2 s3 : Stmt} {t it : PySem.Expr} {pos : Pos} {b0 b1 : Stmt} {c1 : PySem.Expr} {th1 : List Stmt} {c2 : PySem.Expr} {d1 d2 : Stmt} {ds el2 : List Stmt} {q2 q1 : Pos} {e1 e2 : Stmt} {rest : List Stmt} {dV kV doc pm cdv ct : Value} {an : Option Addr} {osl : Array (Option Value)}
    (h1 : o = some ⟨oc, od, .func (fnOf name qual params (s0 :: s1 :: s2 :: s3 :: .For t it [b0, b1, .If c1 th1 [.If c2 (d1 :: d2 :: ds) el2 q2] q1, e1, e2] [] pos :: rest) scope dV kV doc pm an cdv ct), osl⟩)
    (k : ∀ ds', G qual scope d1 d2 ds') : ∀ (qual' : Str) (scope' : Scope) (b0' b1' : Stmt) (c1' : PySem.Expr) (th1' : List Stmt) (c2' : PySem.Expr) (d1' d2' : Stmt) (ds' el2' : List Stmt) (q2' q1' : Pos) (e1' e2' : Stmt), LawP o qual' scope' b0' b1' c1' th1' c2' d1' d2' ds' el2' q2' q1' e1' e2' → G qual' scope' d1' d2' ds' := lawp_elim (G := fun qual scope _ _ _ _ _ d1 d2 ds _ _ _ _ _ => G qual scope d1 d2 ds) h1 fun _ => k ds
theorem fr_to {h₀ h : Heap} {L : Addr} {m m' : Str → Option Value} (F : Fr h₀ L h m) (e : m = m') : Fr h₀ L h m' := e ▸ F
theorem mem_of {α : Type} {l r : List α} {q : α} (h : ∀ q ∈ l, q ∈ r) (hq : q ∈ l) : q ∈ r := h q hq
theorem map4 {m : Str → Option Value} {k1 k2 k3 k4 : Str} {v1 v2 v3 v4 : Value} (h1 : m k1 = some v1) (h2 : m k2 = some v2) (h3 : m k3 = some v3) (h4 : m k4 = some v4) :
    m = fun y => if y = k1 then some v1 else if y = k2 then some v2 else if y = k3 then some v3 else if y = k4 then some v4 else m y := by
  funext y
  split
  · next e => rw [e, h1]
  · split
    · next e => rw [e, h2]
    · split
      · next e => rw [e, h3]
      · split
        · next e => rw [e, h4]
        · rfl
theorem map2 {m : Str → Option Value} {k1 k2 : Str} {v1 v2 : Value} (h1 : m k1 = some v1) (h2 : m k2 = some v2) :
    m = fun y => if y = k1 then some v1 else if y = k2 then some v2 else m y := by
  funext y
  split
  · next e => rw [e, h1]
  · split
    · next e => rw [e, h2]
    · rfl
/-- what the middle of a turn leaves: row and after stand -/
inductive MidAt (P : Params) (h₀ : Heap) (L : Addr) (j : Nat) (X : List (Addr × Obj)) (g1 : Array GenState) (dr : Drawn) (os : OsState) (a b c : Int) (zp yp : List Str) (x : Addr) (tl : List (Addr × Obj)) : Shared → Prop
  | mk {h' : Heap} {g' : Array GenState} {tk' : Nat} {m' : Str → Option Value} {xr va : Addr} {A B C : Int} {zr yr : List Str} {tlr : List (Addr × Obj)} {p q : Addr} {t1 t2 t3 : Tok} {n n1 n2 : Nat} {vp vb : List Value} {ps' : Array Value} {news : List (Addr × Obj)} {tt : Tok}
      (F : Fr h₀ L h' m') (N : News h₀ L h' news) (mr : m' (Str.ofString "row") = some (.ref xr)) (ma : m' (Str.ofString "after") = some (.ref va)) (mh : m' (Str.ofString "held") = some (.ref x)) (mt : m' (Str.ofString "text") = some (.str (verText a b c zp yp) tt))
      (V : VerObj P A B C zr yr xr tlr) (m1 : lawV va A B C t1 t2 t3 p q n ∈ news) (m2 : (p, lstO vp n1) ∈ news) (m3 : (q, lstO vb n2) ∈ news) (hvp : StrsAre vp zr) (hvb : StrsAre vb yr) (hz : Ids zr) (hy : Ids yr)
      (ba : 0 ≤ A ∧ A < 12 + j) (bb : 0 ≤ B ∧ B < 12 + j) (bc : 0 ≤ C ∧ C < 10 ^ 30 + j) (hr : ∀ q ∈ tlr, q ∈ news) (hs : ∀ q ∈ tl, q ∈ news) (hX : ∀ q ∈ X, q ∈ news) (h3 : (383, tabObj ps') ∈ news) (ht : TriplesOk ps'.toList) (ab : AllBare g1 → AllBare g') :
      MidAt P h₀ L j X g1 dr os a b c zp yp x tl ⟨h', g', dr, tk', os⟩
noncomputable def MidPost (P : Params) (h₀ : Heap) (L : Addr) (j : Nat) (X : List (Addr × Obj)) (g1 : Array GenState) (dr : Drawn) (os : OsState) (a b c : Int) (zp yp : List Str) (x : Addr) (tl : List (Addr × Obj)) (f : Flow) (s' : Shared) : Prop := f = .next ∧ MidAt P h₀ L j X g1 dr os a b c zp yp x tl s'
theorem mid_end {P : Params} {h₀ : Heap} {L : Addr} {j : Nat} {X : List (Addr × Obj)} {g1 : Array GenState} {dr : Drawn} {os : OsState} {a b c : Int} {zp yp : List Str} {x : Addr} {tl : List (Addr × Obj)} {h' : Heap} {g' : Array GenState} {tk' : Nat} {m' : Str → Option Value} {xr va : Addr} {A B C : Int} {zr yr : List Str} {tlr : List (Addr × Obj)} {p q : Addr} {t1 t2 t3 : Tok} {n n1 n2 : Nat} {vp vb : List Value} {ps' : Array Value} {news : List (Addr × Obj)} {tt : Tok}
    (F : Fr h₀ L h' m') (N : News h₀ L h' news) (mr : m' (Str.ofString "row") = some (.ref xr)) (ma : m' (Str.ofString "after") = some (.ref va)) (mh : m' (Str.ofString "held") = some (.ref x)) (mt : m' (Str.ofString "text") = some (.str (verText a b c zp yp) tt))
    (V : VerObj P A B C zr yr xr tlr) (m1 : lawV va A B C t1 t2 t3 p q n ∈ news) (m2 : (p, lstO vp n1) ∈ news) (m3 : (q, lstO vb n2) ∈ news) (hvp : StrsAre vp zr) (hvb : StrsAre vb yr) (hz : Ids zr) (hy : Ids yr)
    (ba : 0 ≤ A ∧ A < 12 + j) (bb : 0 ≤ B ∧ B < 12 + j) (bc : 0 ≤ C ∧ C < 10 ^ 30 + j) (hr : ∀ q ∈ tlr, q ∈ news) (hs : ∀ q ∈ tl, q ∈ news) (hX : ∀ q ∈ X, q ∈ news) (h3 : (383, tabObj ps') ∈ news) (ht : TriplesOk ps'.toList) (ab : AllBare g1 → AllBare g') :
    MidAt P h₀ L j X g1 dr os a b c zp yp x tl ⟨h', g', dr, tk', os⟩ := .mk F N mr ma mh mt V m1 m2 m3 hvp hvb hz hy ba bb bc hr hs hX h3 ht ab
noncomputable def MidFor (w : World) (d : Int) : Prop := ∀ (qual : Str) (scope : Scope) (b0 b1 : Stmt) (c1 : PySem.Expr) (th1 : List Stmt) (c2 : PySem.Expr) (d1 d2 : Stmt) (ds el2 : List Stmt) (q2 q1 : Pos) (e1 e2 : Stmt), LawP ((Mine.fr.heap_1 w.params).lookup 485) qual scope b0 b1 c1 th1 c2 d1 d2 ds el2 q2 q1 e1 e2 → ∀ (p : Program) (loose : List Str) (mean : ExcName → Option Value) (mg mb : Str → Option Value) (dp un : Nat) (gd : Option (List Code)) (h₀ : Heap) (L fa : Addr) (cd : Value) (E : Value → Shared → Prop) (dr : Drawn) (os : OsState) (i : Nat) (n : Int) (t td tt : Tok) (x v p' q' : Addr) (a b c : Int) (zp yp : List Str) (tl rest X : List (Addr × Obj)) (t1 t2 t3 : Tok) (nv n1 n2 : Nat) (vp vb : List Value) (m : Str → Option Value) (h : Heap) (g : Array GenState) (tk : Nat) (ps : Array Value),
    LawAt w p loose mean mg mb dp un gd qual scope h₀ L fa cd E → i < 8 → n.fmod 10 = d → VerObj w.params a b c zp yp x tl → (0 ≤ a ∧ a < 12 + i) → (0 ≤ b ∧ b < 12 + i) → (0 ≤ c ∧ c < 10 ^ 30 + i) → Ids zp → Ids yp → StrsAre vp zp → StrsAre vb yp →
    Fr h₀ L h (fun y => if y = Str.ofString "text" then some (.str (verText a b c zp yp) tt) else if y = Str.ofString "deed" then some (.int d td) else if y = Str.ofString "number" then some (.int n t) else if y = Str.ofString "held" then some (.ref x) else if y = Str.ofString "version" then some (.ref v) else m y) → News h₀ L h ((383, tabObj ps) :: rest) → (∀ q ∈ rest, q.2.cls ≠ .none) → lawV v a b c t1 t2 t3 p' q' nv ∈ rest → (p', lstO vp n1) ∈ rest → (q', lstO vb n2) ∈ rest → (∀ q ∈ tl, q ∈ rest) → (∀ q ∈ X, q ∈ rest) → TriplesOk ps.toList →
    wpAny (model PySem.Challenge.rw_lh0061_01.row.prog w) ((baseA dp un gd).deeper (envOf qual scope L fa cd)) (exec (.If c1 th1 [.If c2 (d1 :: d2 :: ds) el2 q2] q1) (envOf qual scope L fa cd)) (MidPost w.params h₀ L (i + 1) X g dr os a b c zp yp x tl) E ⟨h, g, dr, tk, os⟩
noncomputable def MidIn (w : World) (d : Int) : Prop := ∀ (qual : Str) (scope : Scope) (b0 b1 : Stmt) (c1 : PySem.Expr) (th1 : List Stmt) (c2 : PySem.Expr) (d1 d2 : Stmt) (ds el2 : List Stmt) (q2 q1 : Pos) (e1 e2 : Stmt), LawP ((Mine.fr.heap_1 w.params).lookup 485) qual scope b0 b1 c1 th1 c2 d1 d2 ds el2 q2 q1 e1 e2 → ∀ (p : Program) (loose : List Str) (mean : ExcName → Option Value) (mg mb : Str → Option Value) (dp un : Nat) (gd : Option (List Code)) (h₀ : Heap) (L fa : Addr) (cd : Value) (E : Value → Shared → Prop) (dr : Drawn) (os : OsState) (i : Nat) (n : Int) (t td tt : Tok) (x v p' q' : Addr) (a b c : Int) (zp yp : List Str) (tl rest X : List (Addr × Obj)) (t1 t2 t3 : Tok) (nv n1 n2 : Nat) (vp vb : List Value) (m : Str → Option Value) (h : Heap) (g : Array GenState) (tk : Nat) (ps : Array Value) (dx0 : Addr) (j1 j2 j3 j4 j5 j6 j7 j8 z1 z2 z3 : Tok) (tp0 tb0 tk0 t80 : Addr) (n0 : Nat) (Q : Flow → Shared → Prop),
    LawAt w p loose mean mg mb dp un gd qual scope h₀ L fa cd E → (Mine.fr.heap_1 w.params).In h₀ → Below (baseA dp un gd) h₀ [] h₀ → Top p loose mean mg mb h₀ → Str.ofString "ValueError" ∉ loose → Str.ofString "ValueError" ∉ (recsOf p).map (·.name) → Str.ofString "ValueError" ∉ (litsOf p).map (·.1) → Str.ofString "ValueError" ∉ (clssOf p loose).map (·.name) → (∀ e, PassesOwnAt (model PySem.Challenge.rw_lh0061_01.row.prog w) (((baseA dp un gd).deeper (envOf qual scope L fa cd)).mark (some (.ref e))) ((baseA dp un gd).deeper (envOf qual scope L fa cd)) (envOf qual scope L fa cd) E) → PassesOwn (model PySem.Challenge.rw_lh0061_01.row.prog w) ((baseA dp un gd).deeper (envOf qual scope L fa cd)) (envOf qual scope L fa cd) E → dp + 60 < recursionLimit → un + 300 < cLine → i < 8 → n.fmod 10 = d → VerObj w.params a b c zp yp x tl → (0 ≤ a ∧ a < 12 + i) → (0 ≤ b ∧ b < 12 + i) → (0 ≤ c ∧ c < 10 ^ 30 + i) → Ids zp → Ids yp → StrsAre vp zp → StrsAre vb yp →
    Fr h₀ L h (fun y => if y = Str.ofString "text" then some (.str (verText a b c zp yp) tt) else if y = Str.ofString "deed" then some (.int d td) else if y = Str.ofString "number" then some (.int n t) else if y = Str.ofString "held" then some (.ref x) else if y = Str.ofString "version" then some (.ref v) else m y) → News h₀ L h ((383, tabObj ps) :: rest) → (∀ q ∈ rest, q.2.cls ≠ .none) → lawV v a b c t1 t2 t3 p' q' nv ∈ rest → (p', lstO vp n1) ∈ rest → (q', lstO vb n2) ∈ rest → (∀ q ∈ tl, q ∈ rest) → (∀ q ∈ X, q ∈ rest) → TriplesOk ps.toList → (x, instObj 448 dx0) ∈ rest → (dx0, dictOf (vent8 w.params j1 j2 j3 j4 j5 j6 j7 j8 a b c z1 z2 z3 tp0 tb0 tk0 t80) n0) ∈ rest → Fit a → Fit b → Fit c → Ids [] → StrsAre [] [] → 0 ≤ a → 0 ≤ b → 0 ≤ c → KeyRel [] zp (decide (zp = [])) → KeyRel zp zp true → (0 ≤ a ∧ a < 12 + (i + 1 : Nat)) → (0 ≤ b ∧ b < 12 + (i + 1 : Nat)) → (0 ≤ c ∧ c < 10 ^ 30 + (i + 1 : Nat)) → (∀ s', MidAt w.params h₀ L (i + 1) X g dr os a b c zp yp x tl s' → Q .next s') →
    wpAny (model PySem.Challenge.rw_lh0061_01.row.prog w) ((baseA dp un gd).deeper (envOf qual scope L fa cd)) (exec (.If c1 th1 [.If c2 (d1 :: d2 :: ds) el2 q2] q1) (envOf qual scope L fa cd)) Q E ⟨h, g, dr, tk, os⟩
theorem mid_of {w : World} {d : Int} (H : MidIn w d) : MidFor w d := by
  intro qual scope r0 r1 c1 th1 c2 d1 d2 ds el2 q2 q1 e1 e2 HP p loose mean mg mb dp un gd h₀ L fa cd E dr os i n t td tt x v p' q' a b c zp yp tl rest X t1 t2 t3 nv n1 n2 vp vb m h g tk ps C hi hn V0 ba bb bc hz hy hvp hvb F N hc m1 m2 m3 hs hX ht
  obtain ⟨dx0, j1, j2, j3, j4, j5, j6, j7, j8, z1, z2, z3, tp0, tb0, tk0, t80, n0, ia0, ib0⟩ := ver_inst V0 hs
  exact H qual scope r0 r1 c1 th1 c2 d1 d2 ds el2 q2 q1 e1 e2 HP p loose mean mg mb dp un gd h₀ L fa cd E dr os i n t td tt x v p' q' a b c zp yp tl rest X t1 t2 t3 nv n1 n2 vp vb m h g tk ps dx0 j1 j2 j3 j4 j5 j6 j7 j8 z1 z2 z3 tp0 tb0 tk0 t80 n0 _ C C.X C.B C.T C.v1 C.v2 C.v3 C.v4 C.E1 C.E2 C.hd C.hu hi hn V0 ba bb bc hz hy hvp hvb F N hc m1 m2 m3 hs hX ht ia0 ib0 (fit_of i ba.1 ba.2 (Nat.le_of_lt hi)) (fit_of i bb.1 bb.2 (Nat.le_of_lt hi)) (fit_big i bc.1 bc.2 (Nat.le_of_lt hi)) ⟨Nat.zero_le _, fun _ h => nomatch h⟩ .nil ba.1 bb.1 bc.1 (rel_nil zp) (rel_same zp) (bnd_up ba) (bnd_up bb) (bnd_up bc) fun _ h => ⟨rfl, h⟩
end
section
section
theorem kw1_U2 : True := by
  (k_with "@k_lt clear" => (skip))
  (k_with "@k_mem" => (first | with_reducible assumption | with_reducible exact List.mem_cons_self | (with_reducible refine List.mem_cons_of_mem _ ?_; k_mem) | (with_reducible refine List.mem_append_left _ ?_; k_mem) | (with_reducible refine List.mem_append_right _ ?_; k_mem)))
  (k_with "+fit" => (first | with_reducible assumption | exact fit12 _ | exact fit3 _ | exact fit30 _))
  (k_with "@ktr_units" => (first | exact lt_r0 (by assumption) (by decide) | exact lt_rc (by assumption) (by decide) | exact lt_rd (by assumption) (by decide) | exact lt_z0 (by assumption) | (have hcL9 := cLine_is; ((try simp only [units_under_kw, units_in1, units_deeper, Around.mark_units, units_caller] at *); (try dsimp only [ktrTop, topA] at *); omega))))
  (k_with "@k_units" => (ktr_units))
  (k_with "@k_in" => (first | with_reducible assumption | (refine' Frag.In.keeps ?ki99q (Fr.keep (by with_reducible assumption)); case ki9 => with_reducible assumption)))
  (k_with "+ite" => ((k_closed; with_reducible (first | refine ite_pos (by k_dflt decide) ?_ | refine ite_neg (by k_dflt decide) ?_))))
  (k_with "+binaryOp Mod int int" => ((k_here; (with_reducible show wpAny _ _ (binaryOp Operator.Mod (Value.int _ _) (Value.int 10 _)) _ _ _); k_dflt (refine mod_deed (by with_reducible assumption) ?_))))
  (k_with "+con led" => ((first | with_reducible assumption | ((repeat (refine sub_cons ?_ ?_; k_mem)); (first | with_reducible assumption | (intro q9 hq9; (repeat (first | exact hq9 | exact mem_of (by with_reducible assumption) hq9 | exact List.mem_append_left _ hq9 | exact List.mem_append_left _ (mem_of (by with_reducible assumption) hq9) | exact List.mem_append_left _ (List.mem_append_right _ hq9) | exact List.mem_append_left _ (List.mem_append_left _ (mem_of (by with_reducible assumption) hq9)) | refine List.mem_append_right _ ?_ | refine List.mem_cons_of_mem _ ?_))))))))
  (k_with "+con pick" => ((first | with_reducible exact Pick.here | exact Pick.there (by walk_at "con pick"))))
  (k_with "+con cls" => ((repeat (first | with_reducible assumption | (refine List.forall_mem_cons.mpr ⟨(fun e9 => nomatch e9), ?_⟩) | exact List.forall_mem_nil _ | (refine List.forall_mem_append.mpr ⟨?_, ?_⟩)))))
  (k_with "+con kp" => ((walk_at "con base"; (case kp9q => walk_at "con pick"); (case kc9q => walk_at "con cls"); (case ht9q => k_asm))))
  (k_with "+con ne" => ((k_whole; intro h9 g9 tk9 ps9 t9 F9 N9 b9; (try dsimp only [PySem.W.CmpBack]); (try dsimp only))))
  (k_with "+con base" => (((case k39q => k_asm); (case k29q => k_asm); (case k19q => k_asm); (case k49q => k_asm); (case k59q => k_asm); (case kF9q => first | exact rfl | assumption); (case kK9q => first | exact rfl | assumption); (case kd9q => ktr_room); (case ku9q => ktr_units))))
  (k_with "@k_enter" => ((refine' Con.useT (c_text0 _ _ _ _ ?ha9q ?hb9q ?hc9q ?hz9q ?hy9q ?hvp9q ?hvb9q) ?k19q ?k29q ?k39q ?k49q ?k59q ?kF9q ?kK9q ?kd9q ?ku9q ?ks9q ?_; walk_at "con base"; (case ks9q => walk_at "con sub"); (case hvp9q => k_asm); (case hvb9q => k_asm); (case hz9q => k_asm); (case hy9q => k_asm); (case ha9q => walk_at "fit"); (case hb9q => walk_at "fit"); (case hc9q => walk_at "fit"); k_whole; intro t9 h9 tk9 F9 N9; (try dsimp only [PySem.W.StrBack]); (try dsimp only))))
  (k_with "@k_enter" => ((refine' Con.useT (v_str _ ?V9q ?ha9q ?hb9q ?hc9q ?hz9q ?hy9q) ?k19q ?k29q ?k39q ?k49q ?k59q ?kF9q ?kK9q ?kd9q ?ku9q ?ks9q ?_; walk_at "con base"; (case V9q => k_asm); (case ks9q => walk_at "con led"); (case hz9q => k_asm); (case hy9q => k_asm); (case ha9q => walk_at "fit"); (case hb9q => walk_at "fit"); (case hc9q => walk_at "fit"); k_whole; intro t9 h9 tk9 F9 N9; (try dsimp only [PySem.W.StrBack]); (try dsimp only))))
  (k_with "@k_enter" => ((refine' Con.use0 (v_gtV _ ?V19q ?V29q ?rel9q ?hb9q) ?k19q ?k29q ?k39q ?k49q ?k59q ?kF9q ?kK9q ?kd9q ?ku9q (sub_two ?ks19q ?ks29q) ?_; walk_at "con base"; (case V19q => k_asm); (case V29q => k_asm); (case rel9q => k_asm); (case hb9q => k_asm); (case ks19q => walk_at "con led"); (case ks29q => walk_at "con led"); k_whole; intro h9 tk9 F9 N9; (try dsimp only [PySem.W.CmpBack]); (try dsimp only))))
  (k_with "@k_enter" => ((refine' Con.use0 (v_ltV _ ?V19q ?V29q ?rel9q ?hb9q) ?k19q ?k29q ?k39q ?k49q ?k59q ?kF9q ?kK9q ?kd9q ?ku9q (sub_two ?ks19q ?ks29q) ?_; walk_at "con base"; (case V19q => k_asm); (case V29q => k_asm); (case rel9q => k_asm); (case hb9q => k_asm); (case ks19q => walk_at "con led"); (case ks29q => walk_at "con led"); k_whole; intro h9 tk9 F9 N9; (try dsimp only [PySem.W.CmpBack]); (try dsimp only))))
  (k_with "+con vp" => (((case V9q => k_asm); (case hz9q => k_asm); walk_at "con base"; (case kp9q => walk_at "con pick"); (case kc9q => walk_at "con cls"); (case ht9q => k_asm); (case ks9q => walk_at "con led"); k_whole; intro x9 tl9 dx9 k1 k2 k3 k4 k5 k6 k7 k8 t1 t2 t3 tp9 tb9 tw9 t8 n9 h9 g9 tk9 ps9 V9 ia9 ib9 pl9 t9 F9 N9 b9; (try dsimp only))))
  (k_with "+con ver" => (((case V9q => k_asm); (case hz9q => k_asm); walk_at "con base"; (case kp9q => walk_at "con pick"); (case kc9q => walk_at "con cls"); (case ht9q => k_asm); (case ks9q => walk_at "con led"); k_whole; intro x9 dx9 tp9 tb9 tw9 t8 pk9 k1 k2 k3 k4 k5 k6 k7 k8 t1 t2 t3 u1 u2 u3 n9 acc9 led9 h9 g9 tk9 ps9 V9 pl9 t9 F9 N9 b9; (simp only [List.cons_append, List.append_assoc] at N9); (try dsimp only))))
  (k_with "+mid fin" => ((refine' mid_end ?F9q ?N9q ?mr9q ?ma9q ?mh9q ?mt9q ?V9q ?m19q ?m29q ?m39q ?hvp9q ?hvb9q ?hz9q ?hy9q ?ba9q ?bb9q ?bc9q ?hr9q ?hs9q ?hX9q ?h39q ?ht9q ?ab9q; (case F9q => with_reducible assumption); (case N9q => with_reducible assumption); (case mr9q => with_unfolding_all rfl); (case ma9q => with_unfolding_all rfl); (case mh9q => with_unfolding_all rfl); (case mt9q => with_unfolding_all rfl); (case V9q => with_reducible assumption); (case m19q => k_mem); (case m29q => k_mem); (case m39q => k_mem); (case hvp9q => with_reducible assumption); (case hvb9q => with_reducible assumption); (case hz9q => with_reducible assumption); (case hy9q => with_reducible assumption); (case ba9q => with_reducible assumption); (case bb9q => with_reducible assumption); (case bc9q => with_reducible assumption); (case hr9q => walk_at "con led"); (case hs9q => walk_at "con led"); (case hX9q => walk_at "con led"); (case h39q => k_mem); (case ht9q => with_reducible assumption); (case ab9q => (intro hb; solve_by_elim)))))
  (k_with "+TurnPost" => ((refine' turn_end ?F9q ?N9q ?mh9q ?mv9q ?V9q ?m19q ?m29q ?m39q ?hvp9q ?hvb9q ?hz9q ?hy9q ?ba9q ?bb9q ?bc9q ?hs9q ?hX9q ?h39q ?ht9q ?ab9q; (case F9q => with_reducible assumption); (case N9q => with_reducible assumption); (case mh9q => with_unfolding_all rfl); (case mv9q => with_unfolding_all rfl); (case V9q => with_reducible assumption); (case m19q => k_mem); (case m29q => k_mem); (case m39q => k_mem); (case hvp9q => with_reducible assumption); (case hvb9q => with_reducible assumption); (case hz9q => with_reducible assumption); (case hy9q => with_reducible assumption); (case ba9q => with_reducible assumption); (case bb9q => with_reducible assumption); (case bc9q => with_reducible assumption); (case hs9q => walk_at "con led"); (case hX9q => walk_at "con led"); (case h39q => k_mem); (case ht9q => with_reducible assumption); (case ab9q => (intro hb; solve_by_elim)))))
  exact True.intro
set_option maxHeartbeats 2000000 in
/-- the turn's end: the texts are held against each other, row and after take the places of held and version -/
theorem suf (w : World) : ∀ (qual : Str) (scope : Scope) (b0 b1 : Stmt) (c1 : PySem.Expr) (th1 : List Stmt) (c2 : PySem.Expr) (d1 d2 : Stmt) (ds el2 : List Stmt) (q2 q1 : Pos) (e1 e2 : Stmt), LawP ((Mine.fr.heap_1 w.params).lookup 485) qual scope b0 b1 c1 th1 c2 d1 d2 ds el2 q2 q1 e1 e2 → ∀ (p : Program) (loose : List Str) (mean : ExcName → Option Value) (mg mb : Str → Option Value) (dp un : Nat) (gd : Option (List Code)) (h₀ : Heap) (L fa : Addr) (cd : Value) (E : Value → Shared → Prop) (dr : Drawn) (os : OsState) (i : Nat) (X : List (Addr × Obj)) (h1 : Heap) (g1 : Array GenState) (tk1 : Nat) (a b c : Int) (zp yp : List Str) (x : Addr) (tl : List (Addr × Obj)) (s' : Shared),
    LawAt w p loose mean mg mb dp un gd qual scope h₀ L fa cd E → i < 8 → VerObj w.params a b c zp yp x tl → (0 ≤ a ∧ a < 12 + i) → (0 ≤ b ∧ b < 12 + i) → (0 ≤ c ∧ c < 10 ^ 30 + i) → Ids zp → Ids yp → MidAt w.params h₀ L (i + 1) X g1 dr os a b c zp yp x tl s' →
    wpAny (model PySem.Challenge.rw_lh0061_01.row.prog w) ((baseA dp un gd).deeper (envOf qual scope L fa cd)) (execs [e1, e2] (envOf qual scope L fa cd)) (TurnPost w.params h₀ L (i + 1) X ⟨h1, g1, dr, tk1, os⟩) E s' := by
  k_fill
  refine' lawp_elim ?h1 ?_
  case h1 => k_is
  intro _
  intro p loose mean mg mb dp un gd h₀ L fa cd E dr os i X h1 g1 tk1 a b c zp yp x tl s' C hi V0 ba bb bc hz hy M
  obtain ⟨KX, B, T, hv1, hv2, hv3, hv4, HE, HE2, hdp, hun⟩ := C
  have fa9 := fit_of i ba.1 ba.2 (Nat.le_of_lt hi)
  have fb9 := fit_of i bb.1 bb.2 (Nat.le_of_lt hi)
  have fc9 := fit_big i bc.1 bc.2 (Nat.le_of_lt hi)
  clear ba bb bc
  cases M with
  | mk F N mr ma mh mt V m1 m2 m3 hvp hvb hzr hyr ba bb bc hr hs hX h3 ht ab =>
  have fA9 := fit_of (i + 1) ba.1 ba.2 hi
  have fB9 := fit_of (i + 1) bb.1 bb.2 hi
  have fC9 := fit_big (i + 1) bc.1 bc.2 hi
  replace F := fr_to F (map4 mr ma mh mt)
  clear mr ma mh mt
  obtain ⟨dxr, k1, k2, k3, k4, k5, k6, k7, k8, w1, w2, w3, tp, tb, tk, t8, nr, ia, ib⟩ := ver_inst V hr
  obtain ⟨dx0, j1, j2, j3, j4, j5, j6, j7, j8, z1, z2, z3, tp0, tb0, tk0, t80, n0, ia0, ib0⟩ := ver_inst V0 hs
  k_steps
end
theorem kw2_U2 : True := by
  k_with_none
  (k_with "+lt room" => (first | exact lt_r0 (by assumption) (by decide) | exact lt_rc (by assumption) (by decide) | exact lt_rd (by assumption) (by decide) | exact lt_z0 (by assumption)))
  (k_with "@ktr_room" => (walk_at "lt room"))
  (k_with "@ktr_units" => (walk_at "lt room"))
  (k_with "@units_room" => (walk_at "lt room"))
  (k_with "@k_room" => (ktr_room))
  (k_with "+con binds" => (first | exact fm_nilE (by exact rfl) | exact fm_some (by exact rfl) (by walk_at "con binds")))
  (k_with "+con enter" => ((k_dflt (refine' code_keep ?k19q ?k29q ?k39q ?k49q ?k59q ?kA9q ?kF9q ?kK9q ?k69q ?k79q ?k89q ?k99q ?kB9q ?_ ?c29q ?c39q ?c49q ?c59q; (case kA9q => exact rfl); (case kF9q => assumption); (case kK9q => assumption); (case k49q => k_asm); (case k19q => k_asm); (case k29q => k_asm); (case k39q => k_asm); (case k59q => k_asm); (case k69q => k_is); (case k79q => k_is); (case k89q => ktr_room); (case k99q => (refine' binds_to ?b99q ?e99q; (case b99q => first | exact BindsTo.of_eq rfl | exact binds_K (by k_in) rfl (by k_is) rfl rfl rfl | fail "con enter: no rule for these arguments"); (case e99q => first | (walk_at "con binds") | (walk_say "con enter: binds left as they are"; exact rfl)))); (case c59q => decide); (case kB9q => exact locs rfl); (case c29q => exact rfl); (case c39q => exact rfl); (case c49q => exact rfl); k_whole; intro g' L' h' FG' F' N' B' X' T' G0'; (try dsimp only); (try k_fold)))))
  (k_with "+con sub" => (repeat (first | exact sub_nil | refine sub_cons (by k_mem) ?_)))
  (k_with "+ite" => ((k_here; k_openite; with_reducible refine ite_isFalse (bne_self_eq_false _) ?_; walk_say "PRUNED same")))
  (k_with "+con sides" => (((case k39q => k_asm); (case k29q => k_asm); (case k19q => k_asm); (case k49q => k_asm); (case k59q => k_asm); (case kF9q => first | exact rfl | assumption); (case kK9q => first | exact rfl | assumption); (case kd9q => ktr_room); (case ku9q => ktr_units); (case ks9q => walk_at "con sub"))))
  (k_with "+ne close" => (first | assumption | exact Ne.symm (by assumption) | exact Nat.ne_of_lt (by assumption) | exact Nat.ne_of_gt (by assumption) | exact Nat.ne_of_lt (Nat.lt_trans (by assumption) (by assumption)) | exact Nat.ne_of_gt (Nat.lt_trans (by assumption) (by assumption)) | (rename _ ∧ _ => hh9; obtain ⟨_, _⟩ := hh9; walk_at "ne close")))
  (k_with "@k_ne" => ((refine neN ?_; (try dsimp only); with_reducible walk_at "ne close")))
  exact True.intro
end
section
section
theorem kw1_U3 : True := by
  (k_with "@k_lt clear" => (skip))
  (k_with "@k_mem" => (first | with_reducible assumption | with_reducible exact List.mem_cons_self | (with_reducible refine List.mem_cons_of_mem _ ?_; k_mem) | (with_reducible refine List.mem_append_left _ ?_; k_mem) | (with_reducible refine List.mem_append_right _ ?_; k_mem)))
  (k_with "+fit" => (first | with_reducible assumption | exact fit12 _ | exact fit3 _ | exact fit30 _))
  (k_with "@ktr_units" => (first | exact lt_r0 (by assumption) (by decide) | exact lt_rc (by assumption) (by decide) | exact lt_rd (by assumption) (by decide) | exact lt_z0 (by assumption) | (have hcL9 := cLine_is; ((try simp only [units_under_kw, units_in1, units_deeper, Around.mark_units, units_caller] at *); (try dsimp only [ktrTop, topA] at *); omega))))
  (k_with "@k_units" => (ktr_units))
  (k_with "@k_in" => (first | with_reducible assumption | (refine' Frag.In.keeps ?ki99q (Fr.keep (by with_reducible assumption)); case ki9 => with_reducible assumption)))
  (k_with "+ite" => ((k_closed; with_reducible (first | refine ite_pos (by k_dflt decide) ?_ | refine ite_neg (by k_dflt decide) ?_))))
  (k_with "+binaryOp Mod int int" => ((k_here; (with_reducible show wpAny _ _ (binaryOp Operator.Mod (Value.int _ _) (Value.int 10 _)) _ _ _); k_dflt (refine mod_deed (by with_reducible assumption) ?_))))
  (k_with "+con led" => ((first | with_reducible assumption | ((repeat (refine sub_cons ?_ ?_; k_mem)); (first | with_reducible assumption | (intro q9 hq9; (repeat (first | exact hq9 | exact mem_of (by with_reducible assumption) hq9 | exact List.mem_append_left _ hq9 | exact List.mem_append_left _ (mem_of (by with_reducible assumption) hq9) | exact List.mem_append_left _ (List.mem_append_right _ hq9) | exact List.mem_append_left _ (List.mem_append_left _ (mem_of (by with_reducible assumption) hq9)) | refine List.mem_append_right _ ?_ | refine List.mem_cons_of_mem _ ?_))))))))
  (k_with "+con pick" => ((first | with_reducible exact Pick.here | exact Pick.there (by walk_at "con pick"))))
  (k_with "+con cls" => ((repeat (first | with_reducible assumption | (refine List.forall_mem_cons.mpr ⟨(fun e9 => nomatch e9), ?_⟩) | exact List.forall_mem_nil _ | (refine List.forall_mem_append.mpr ⟨?_, ?_⟩)))))
  (k_with "+con kp" => ((walk_at "con base"; (case kp9q => walk_at "con pick"); (case kc9q => walk_at "con cls"); (case ht9q => k_asm))))
  (k_with "+con ne" => ((k_whole; intro h9 g9 tk9 ps9 t9 F9 N9 b9; (try dsimp only [PySem.W.CmpBack]); (try dsimp only))))
  (k_with "+con base" => (((case k39q => k_asm); (case k29q => k_asm); (case k19q => k_asm); (case k49q => k_asm); (case k59q => k_asm); (case kF9q => first | exact rfl | assumption); (case kK9q => first | exact rfl | assumption); (case kd9q => ktr_room); (case ku9q => ktr_units))))
  (k_with "@k_enter" => ((refine' Con.useT (c_text0 _ _ _ _ ?ha9q ?hb9q ?hc9q ?hz9q ?hy9q ?hvp9q ?hvb9q) ?k19q ?k29q ?k39q ?k49q ?k59q ?kF9q ?kK9q ?kd9q ?ku9q ?ks9q ?_; walk_at "con base"; (case ks9q => walk_at "con sub"); (case hvp9q => k_asm); (case hvb9q => k_asm); (case hz9q => k_asm); (case hy9q => k_asm); (case ha9q => walk_at "fit"); (case hb9q => walk_at "fit"); (case hc9q => walk_at "fit"); k_whole; intro t9 h9 tk9 F9 N9; (try dsimp only [PySem.W.StrBack]); (try dsimp only))))
  (k_with "@k_enter" => ((refine' Con.useT (v_str _ ?V9q ?ha9q ?hb9q ?hc9q ?hz9q ?hy9q) ?k19q ?k29q ?k39q ?k49q ?k59q ?kF9q ?kK9q ?kd9q ?ku9q ?ks9q ?_; walk_at "con base"; (case V9q => k_asm); (case ks9q => walk_at "con led"); (case hz9q => k_asm); (case hy9q => k_asm); (case ha9q => walk_at "fit"); (case hb9q => walk_at "fit"); (case hc9q => walk_at "fit"); k_whole; intro t9 h9 tk9 F9 N9; (try dsimp only [PySem.W.StrBack]); (try dsimp only))))
  (k_with "@k_enter" => ((refine' Con.use0 (v_gtV _ ?V19q ?V29q ?rel9q ?hb9q) ?k19q ?k29q ?k39q ?k49q ?k59q ?kF9q ?kK9q ?kd9q ?ku9q (sub_two ?ks19q ?ks29q) ?_; walk_at "con base"; (case V19q => k_asm); (case V29q => k_asm); (case rel9q => k_asm); (case hb9q => k_asm); (case ks19q => walk_at "con led"); (case ks29q => walk_at "con led"); k_whole; intro h9 tk9 F9 N9; (try dsimp only [PySem.W.CmpBack]); (try dsimp only))))
  (k_with "@k_enter" => ((refine' Con.use0 (v_ltV _ ?V19q ?V29q ?rel9q ?hb9q) ?k19q ?k29q ?k39q ?k49q ?k59q ?kF9q ?kK9q ?kd9q ?ku9q (sub_two ?ks19q ?ks29q) ?_; walk_at "con base"; (case V19q => k_asm); (case V29q => k_asm); (case rel9q => k_asm); (case hb9q => k_asm); (case ks19q => walk_at "con led"); (case ks29q => walk_at "con led"); k_whole; intro h9 tk9 F9 N9; (try dsimp only [PySem.W.CmpBack]); (try dsimp only))))
  (k_with "+con vp" => (((case V9q => k_asm); (case hz9q => k_asm); walk_at "con base"; (case kp9q => walk_at "con pick"); (case kc9q => walk_at "con cls"); (case ht9q => k_asm); (case ks9q => walk_at "con led"); k_whole; intro x9 tl9 dx9 k1 k2 k3 k4 k5 k6 k7 k8 t1 t2 t3 tp9 tb9 tw9 t8 n9 h9 g9 tk9 ps9 V9 ia9 ib9 pl9 t9 F9 N9 b9; (try dsimp only))))
  (k_with "+con ver" => (((case V9q => k_asm); (case hz9q => k_asm); walk_at "con base"; (case kp9q => walk_at "con pick"); (case kc9q => walk_at "con cls"); (case ht9q => k_asm); (case ks9q => walk_at "con led"); k_whole; intro x9 dx9 tp9 tb9 tw9 t8 pk9 k1 k2 k3 k4 k5 k6 k7 k8 t1 t2 t3 u1 u2 u3 n9 acc9 led9 h9 g9 tk9 ps9 V9 pl9 t9 F9 N9 b9; (simp only [List.cons_append, List.append_assoc] at N9); (try dsimp only))))
  (k_with "+mid fin" => ((refine' mid_end ?F9q ?N9q ?mr9q ?ma9q ?mh9q ?mt9q ?V9q ?m19q ?m29q ?m39q ?hvp9q ?hvb9q ?hz9q ?hy9q ?ba9q ?bb9q ?bc9q ?hr9q ?hs9q ?hX9q ?h39q ?ht9q ?ab9q; (case F9q => with_reducible assumption); (case N9q => with_reducible assumption); (case mr9q => with_unfolding_all rfl); (case ma9q => with_unfolding_all rfl); (case mh9q => with_unfolding_all rfl); (case mt9q => with_unfolding_all rfl); (case V9q => with_reducible assumption); (case m19q => k_mem); (case m29q => k_mem); (case m39q => k_mem); (case hvp9q => with_reducible assumption); (case hvb9q => with_reducible assumption); (case hz9q => with_reducible assumption); (case hy9q => with_reducible assumption); (case ba9q => with_reducible assumption); (case bb9q => with_reducible assumption); (case bc9q => with_reducible assumption); (case hr9q => walk_at "con led"); (case hs9q => walk_at "con led"); (case hX9q => walk_at "con led"); (case h39q => k_mem); (case ht9q => with_reducible assumption); (case ab9q => (intro hb; solve_by_elim)))))
  (k_with "+TurnPost" => ((refine' turn_end ?F9q ?N9q ?mh9q ?mv9q ?V9q ?m19q ?m29q ?m39q ?hvp9q ?hvb9q ?hz9q ?hy9q ?ba9q ?bb9q ?bc9q ?hs9q ?hX9q ?h39q ?ht9q ?ab9q; (case F9q => with_reducible assumption); (case N9q => with_reducible assumption); (case mh9q => with_unfolding_all rfl); (case mv9q => with_unfolding_all rfl); (case V9q => with_reducible assumption); (case m19q => k_mem); (case m29q => k_mem); (case m39q => k_mem); (case hvp9q => with_reducible assumption); (case hvb9q => with_reducible assumption); (case hz9q => with_reducible assumption); (case hy9q => with_reducible assumption); (case ba9q => with_reducible assumption); (case bb9q => with_reducible assumption); (case bc9q => with_reducible assumption); (case hs9q => walk_at "con led"); (case hX9q => walk_at "con led"); (case h39q => k_mem); (case ht9q => with_reducible assumption); (case ab9q => (intro hb; solve_by_elim)))))
  exact True.intro
set_option maxHeartbeats 2000000 in
/-- the turn's beginning: deed and text -/
theorem pre (w : World) : ∀ (qual : Str) (scope : Scope) (b0 b1 : Stmt) (c1 : PySem.Expr) (th1 : List Stmt) (c2 : PySem.Expr) (d1 d2 : Stmt) (ds el2 : List Stmt) (q2 q1 : Pos) (e1 e2 : Stmt), LawP ((Mine.fr.heap_1 w.params).lookup 485) qual scope b0 b1 c1 th1 c2 d1 d2 ds el2 q2 q1 e1 e2 → ∀ (p : Program) (loose : List Str) (mean : ExcName → Option Value) (mg mb : Str → Option Value) (dp un : Nat) (gd : Option (List Code)) (h₀ : Heap) (L fa : Addr) (cd : Value) (E : Value → Shared → Prop) (dr : Drawn) (os : OsState) (a b c : Int) (zp yp : List Str) (x v p' q' : Addr) (t1 t2 t3 : Tok) (nv n1 n2 : Nat) (vp vb : List Value) (news : List (Addr × Obj)) (h : Heap) (g : Array GenState) (tk : Nat) (n d : Int) (t : Tok) (m : Str → Option Value) (more : List Stmt) (Q : Flow → Shared → Prop),
    LawAt w p loose mean mg mb dp un gd qual scope h₀ L fa cd E → Fit a → Fit b → Fit c → Ids zp → Ids yp → StrsAre vp zp → StrsAre vb yp → n.fmod 10 = d → Fr h₀ L h (fun y => if y = Str.ofString "number" then some (.int n t) else if y = Str.ofString "held" then some (.ref x) else if y = Str.ofString "version" then some (.ref v) else m y) → News h₀ L h news → lawV v a b c t1 t2 t3 p' q' nv ∈ news → (p', lstO vp n1) ∈ news → (q', lstO vb n2) ∈ news →
    (∀ h' tk' td tt, Fr h₀ L h' (fun y => if y = Str.ofString "text" then some (.str (verText a b c zp yp) tt) else if y = Str.ofString "deed" then some (.int d td) else if y = Str.ofString "number" then some (.int n t) else if y = Str.ofString "held" then some (.ref x) else if y = Str.ofString "version" then some (.ref v) else m y) → News h₀ L h' news → wpAny (model PySem.Challenge.rw_lh0061_01.row.prog w) ((baseA dp un gd).deeper (envOf qual scope L fa cd)) (execs more (envOf qual scope L fa cd)) Q E ⟨h', g, dr, tk', os⟩) →
    wpAny (model PySem.Challenge.rw_lh0061_01.row.prog w) ((baseA dp un gd).deeper (envOf qual scope L fa cd)) (execs (b0 :: b1 :: more) (envOf qual scope L fa cd)) Q E ⟨h, g, dr, tk, os⟩ := by
  k_fill
  refine' lawp_elim ?h1 ?_
  case h1 => k_is
  intro _
  intro p loose mean mg mb dp un gd h₀ L fa cd E dr os a b c zp yp x v p' q' t1 t2 t3 nv n1 n2 vp vb news h g tk n d t m more Q C fa9 fb9 fc9 hz hy hvp hvb hn F N m1 m2 m3 next
  obtain ⟨KX, B, T, hv1, hv2, hv3, hv4, HE, HE2, hdp, hun⟩ := C
  k_steps
  all_goals exact next _ _ _ _ (by with_reducible assumption) (by with_reducible assumption)
end
theorem kw2_U3 : True := by
  k_with_none
  (k_with "+lt room" => (first | exact lt_r0 (by assumption) (by decide) | exact lt_rc (by assumption) (by decide) | exact lt_rd (by assumption) (by decide) | exact lt_z0 (by assumption)))
  (k_with "@ktr_room" => (walk_at "lt room"))
  (k_with "@ktr_units" => (walk_at "lt room"))
  (k_with "@units_room" => (walk_at "lt room"))
  (k_with "@k_room" => (ktr_room))
  (k_with "+con binds" => (first | exact fm_nilE (by exact rfl) | exact fm_some (by exact rfl) (by walk_at "con binds")))
  (k_with "+con enter" => ((k_dflt (refine' code_keep ?k19q ?k29q ?k39q ?k49q ?k59q ?kA9q ?kF9q ?kK9q ?k69q ?k79q ?k89q ?k99q ?kB9q ?_ ?c29q ?c39q ?c49q ?c59q; (case kA9q => exact rfl); (case kF9q => assumption); (case kK9q => assumption); (case k49q => k_asm); (case k19q => k_asm); (case k29q => k_asm); (case k39q => k_asm); (case k59q => k_asm); (case k69q => k_is); (case k79q => k_is); (case k89q => ktr_room); (case k99q => (refine' binds_to ?b99q ?e99q; (case b99q => first | exact BindsTo.of_eq rfl | exact binds_K (by k_in) rfl (by k_is) rfl rfl rfl | fail "con enter: no rule for these arguments"); (case e99q => first | (walk_at "con binds") | (walk_say "con enter: binds left as they are"; exact rfl)))); (case c59q => decide); (case kB9q => exact locs rfl); (case c29q => exact rfl); (case c39q => exact rfl); (case c49q => exact rfl); k_whole; intro g' L' h' FG' F' N' B' X' T' G0'; (try dsimp only); (try k_fold)))))
  (k_with "+con sub" => (repeat (first | exact sub_nil | refine sub_cons (by k_mem) ?_)))
  (k_with "+ite" => ((k_here; k_openite; with_reducible refine ite_isFalse (bne_self_eq_false _) ?_; walk_say "PRUNED same")))
  (k_with "+con sides" => (((case k39q => k_asm); (case k29q => k_asm); (case k19q => k_asm); (case k49q => k_asm); (case k59q => k_asm); (case kF9q => first | exact rfl | assumption); (case kK9q => first | exact rfl | assumption); (case kd9q => ktr_room); (case ku9q => ktr_units); (case ks9q => walk_at "con sub"))))
  (k_with "+ne close" => (first | assumption | exact Ne.symm (by assumption) | exact Nat.ne_of_lt (by assumption) | exact Nat.ne_of_gt (by assumption) | exact Nat.ne_of_lt (Nat.lt_trans (by assumption) (by assumption)) | exact Nat.ne_of_gt (Nat.lt_trans (by assumption) (by assumption)) | (rename _ ∧ _ => hh9; obtain ⟨_, _⟩ := hh9; walk_at "ne close")))
  (k_with "@k_ne" => ((refine neN ?_; (try dsimp only); with_reducible walk_at "ne close")))
  exact True.intro
end
section
/-- what a cut of each level leaves -/
inductive Cut (a b c : Int) (zp yp : List Str) : Int → Str → Int → Int → Int → List Str → List Str → Prop
  | build : Cut a b c zp yp 3 (Str.ofString "build") a b c zp yp
  | pre : Cut a b c zp yp 4 (Str.ofString "prerelease") a b c zp []
  | patch : Cut a b c zp yp 5 (Str.ofString "patch") a b c [] []
  | minor : Cut a b c zp yp 6 (Str.ofString "minor") a b 0 [] []
  | major : Cut a b c zp yp 7 (Str.ofString "major") a 0 0 [] []
theorem Cut.is3 {a b c : Int} {zp yp : List Str} {d : Int} {z : Str} {A B C : Int} {zr yr : List Str} (h : Cut a b c zp yp d z A B C zr yr) (e : d = 3) : Str.ofString "build" = z ∧ a = A ∧ b = B ∧ c = C ∧ zp = zr ∧ yp = yr := by
  cases h <;> first | exact ⟨rfl, rfl, rfl, rfl, rfl, rfl⟩ | exact absurd e (by decide)
theorem Cut.is4 {a b c : Int} {zp yp : List Str} {d : Int} {z : Str} {A B C : Int} {zr yr : List Str} (h : Cut a b c zp yp d z A B C zr yr) (e : d = 4) : Str.ofString "prerelease" = z ∧ a = A ∧ b = B ∧ c = C ∧ zp = zr ∧ [] = yr := by
  cases h <;> first | exact ⟨rfl, rfl, rfl, rfl, rfl, rfl⟩ | exact absurd e (by decide)
theorem Cut.is5 {a b c : Int} {zp yp : List Str} {d : Int} {z : Str} {A B C : Int} {zr yr : List Str} (h : Cut a b c zp yp d z A B C zr yr) (e : d = 5) : Str.ofString "patch" = z ∧ a = A ∧ b = B ∧ c = C ∧ [] = zr ∧ [] = yr := by
  cases h <;> first | exact ⟨rfl, rfl, rfl, rfl, rfl, rfl⟩ | exact absurd e (by decide)
theorem Cut.is6 {a b c : Int} {zp yp : List Str} {d : Int} {z : Str} {A B C : Int} {zr yr : List Str} (h : Cut a b c zp yp d z A B C zr yr) (e : d = 6) : Str.ofString "minor" = z ∧ a = A ∧ b = B ∧ 0 = C ∧ [] = zr ∧ [] = yr := by
  cases h <;> first | exact ⟨rfl, rfl, rfl, rfl, rfl, rfl⟩ | exact absurd e (by decide)
theorem Cut.is7 {a b c : Int} {zp yp : List Str} {d : Int} {z : Str} {A B C : Int} {zr yr : List Str} (h : Cut a b c zp yp d z A B C zr yr) (e : d = 7) : Str.ofString "major" = z ∧ a = A ∧ 0 = B ∧ 0 = C ∧ [] = zr ∧ [] = yr := by
  cases h <;> first | exact ⟨rfl, rfl, rfl, rfl, rfl, rfl⟩ | exact absurd e (by decide)
theorem cut3 {a b c : Int} {zp yp : List Str} {G : Str → Int → Int → Int → List Str → List Str → Prop} (k : G (Str.ofString "build") a b c zp yp) : ∀ (z : Str) (A B C : Int) (zr yr : List Str), Cut a b c zp yp 3 z A B C zr yr → G z A B C zr yr := by
  intro z A B C zr yr h
  obtain ⟨rfl, rfl, rfl, rfl, rfl, rfl⟩ := h.is3 rfl
  exact k
theorem cut4 {a b c : Int} {zp yp : List Str} {G : Str → Int → Int → Int → List Str → List Str → Prop} (k : G (Str.ofString "prerelease") a b c zp []) : ∀ (z : Str) (A B C : Int) (zr yr : List Str), Cut a b c zp yp 4 z A B C zr yr → G z A B C zr yr := by
  intro z A B C zr yr h
  obtain ⟨rfl, rfl, rfl, rfl, rfl, rfl⟩ := h.is4 rfl
  exact k
theorem cut5 {a b c : Int} {zp yp : List Str} {G : Str → Int → Int → Int → List Str → List Str → Prop} (k : G (Str.ofString "patch") a b c [] []) : ∀ (z : Str) (A B C : Int) (zr yr : List Str), Cut a b c zp yp 5 z A B C zr yr → G z A B C zr yr := by
  intro z A B C zr yr h
  obtain ⟨rfl, rfl, rfl, rfl, rfl, rfl⟩ := h.is5 rfl
  exact k
theorem cut6 {a b c : Int} {zp yp : List Str} {G : Str → Int → Int → Int → List Str → List Str → Prop} (k : G (Str.ofString "minor") a b 0 [] []) : ∀ (z : Str) (A B C : Int) (zr yr : List Str), Cut a b c zp yp 6 z A B C zr yr → G z A B C zr yr := by
  intro z A B C zr yr h
  obtain ⟨rfl, rfl, rfl, rfl, rfl, rfl⟩ := h.is6 rfl
  exact k
theorem cut7 {a b c : Int} {zp yp : List Str} {G : Str → Int → Int → Int → List Str → List Str → Prop} (k : G (Str.ofString "major") a 0 0 [] []) : ∀ (z : Str) (A B C : Int) (zr yr : List Str), Cut a b c zp yp 7 z A B C zr yr → G z A B C zr yr := by
  intro z A B C zr yr h
  obtain ⟨rfl, rfl, rfl, rfl, rfl, rfl⟩ := h.is7 rfl
  exact k
structure Pick5 (d : Int) (r v3 v4 v5 v6 v7 : Value) : Prop where
  p3 : d = 3 → r = v3
  p4 : d = 4 → r = v4
  p5 : d = 5 → r = v5
  p6 : d = 6 → r = v6
  p7 : d = 7 → r = v7
theorem five {d : Int} (h3 : 3 ≤ d) (h8 : d < 8) : d = 3 ∨ d = 4 ∨ d = 5 ∨ d = 6 ∨ d = 7 := by
  obtain ⟨k, rfl⟩ := Int.le.dest h3
  match k, h8 with
  | 0, _ => exact .inl rfl
  | 1, _ => exact .inr (.inl rfl)
  | 2, _ => exact .inr (.inr (.inl rfl))
  | 3, _ => exact .inr (.inr (.inr (.inl rfl)))
  | 4, _ => exact .inr (.inr (.inr (.inr rfl)))
  | k + 5, h => exact absurd h (by omega)
theorem pick5 {prog : Program} {w : World} {A : Around} {E : Value → Shared → Prop} {s : Shared} {value slice : PySem.Expr} {D : Addr} {o : Obj} {n : Nat} {d : Int} {u : Tok} {v3 v4 v5 v6 v7 : Value} {h₀ : Heap} {L : Addr} {news : List (Addr × Obj)} {Q : Value → Shared → Prop} (h3 : 3 ≤ d) (h8 : d < 8) (N : News h₀ L s.heap news) (hm : (D, o) ∈ news) (ho : o = lstO [v3, v4, v5, v6, v7] n)
    (h : ∀ r, Pick5 d r v3 v4 v5 v6 v7 → Q r s)
    (hs : subscripted slice false (.ref D) (.int (d - 3) u) = operate [.ref D, .int (d - 3) u] (getItem (.ref D) (.int (d - 3) u)) := by with_unfolding_all rfl) (ht : ∀ r, letTemporaryGo value (.ref D) r = pure () := by intro _; with_unfolding_all rfl) :
    wpAny (model prog w) A (subscriptTail value slice (.ref D) (.int (d - 3) u)) Q E s := by
  subst ho
  rcases five h3 h8 with e | e | e | e | e <;> subst e
  · exact list_item N hm rfl (by decide) (Nat.le_of_ble_eq_true rfl) (h _ ⟨fun _ => rfl, fun e => absurd e (by decide), fun e => absurd e (by decide), fun e => absurd e (by decide), fun e => absurd e (by decide)⟩) hs ht
  · exact list_item N hm rfl (by decide) (Nat.le_of_ble_eq_true rfl) (h _ ⟨fun e => absurd e (by decide), fun _ => rfl, fun e => absurd e (by decide), fun e => absurd e (by decide), fun e => absurd e (by decide)⟩) hs ht
  · exact list_item N hm rfl (by decide) (Nat.le_of_ble_eq_true rfl) (h _ ⟨fun e => absurd e (by decide), fun e => absurd e (by decide), fun _ => rfl, fun e => absurd e (by decide), fun e => absurd e (by decide)⟩) hs ht
  · exact list_item N hm rfl (by decide) (Nat.le_of_ble_eq_true rfl) (h _ ⟨fun e => absurd e (by decide), fun e => absurd e (by decide), fun e => absurd e (by decide), fun _ => rfl, fun e => absurd e (by decide)⟩) hs ht
  · exact list_item N hm rfl (by decide) (Nat.le_of_ble_eq_true rfl) (h _ ⟨fun e => absurd e (by decide), fun e => absurd e (by decide), fun e => absurd e (by decide), fun e => absurd e (by decide), fun _ => rfl⟩) hs ht
inductive DispEnd (a b c : Int) (zp yp : List Str) (d : Int) (R : List (Addr × Obj)) : Value → Value → Prop
  | mk (z : Str) (tz : Tok) (va : Addr) (A B C : Int) (zr yr : List Str) (p₁ q₁ : Addr) (u1 u2 u3 : Tok) (k1 k2 k3 : Nat) (wp wb : List Value) (hC : Cut a b c zp yp d z A B C zr yr) (m1 : lawV va A B C u1 u2 u3 p₁ q₁ k1 ∈ R) (m2 : (p₁, lstO wp k2) ∈ R) (m3 : (q₁, lstO wb k3) ∈ R) (h1 : StrsAre wp zr) (h2 : StrsAre wb yr) : DispEnd a b c zp yp d R (.str z tz) (.ref va)
theorem disp_mk {a b c d : Int} {zp yp : List Str} {rl ra : Value} {R : List (Addr × Obj)} {z : Str} {tz : Tok} {va : Addr} (e1 : rl = .str z tz) (e2 : ra = .ref va) (h : DispEnd a b c zp yp d R (.str z tz) (.ref va)) : DispEnd a b c zp yp d R rl ra := by
  subst e1 e2
  exact h
theorem disp_end {a b c d : Int} {zp yp : List Str} {rl ra : Value} {R : List (Addr × Obj)} {x1 x2 x3 x4 x5 t1 t2 t3 s1 s2 s3 : Tok} {v p' q' l4 l5 l6 l7 e4 e5 f5 e6 f6 e7 f7 : Addr} {nv n1 n2 k4 k5 k6 k7 j4 j5 i5 j6 i6 j7 i7 : Nat} {vp vb : List Value} {o4 o5 o6 o7 g4 g5 r5 g6 r6 g7 r7 : Obj}
    (h3 : 3 ≤ d) (h8 : d < 8) (hvp : StrsAre vp zp) (hvb : StrsAre vb yp) (hL : Pick5 d rl (.str (Str.ofString "build") x1) (.str (Str.ofString "prerelease") x2) (.str (Str.ofString "patch") x3) (.str (Str.ofString "minor") x4) (.str (Str.ofString "major") x5)) (hA : Pick5 d ra (.ref v) (.ref l4) (.ref l5) (.ref l6) (.ref l7))
    (m1 : lawV v a b c t1 t2 t3 p' q' nv ∈ R) (m2 : (p', lstO vp n1) ∈ R) (m3 : (q', lstO vb n2) ∈ R)
    (m4 : (l4, o4) ∈ R) (y4 : o4 = lstO [.int a t1, .int b t2, .int c t3, .ref p', .ref e4] k4) (a4 : (e4, g4) ∈ R) (z4 : g4 = lstO [] j4)
    (m5 : (l5, o5) ∈ R) (y5 : o5 = lstO [.int a t1, .int b t2, .int c t3, .ref e5, .ref f5] k5) (a5 : (e5, g5) ∈ R) (z5 : g5 = lstO [] j5) (b5 : (f5, r5) ∈ R) (w5 : r5 = lstO [] i5)
    (m6 : (l6, o6) ∈ R) (y6 : o6 = lstO [.int a t1, .int b t2, .int 0 s1, .ref e6, .ref f6] k6) (a6 : (e6, g6) ∈ R) (z6 : g6 = lstO [] j6) (b6 : (f6, r6) ∈ R) (w6 : r6 = lstO [] i6)
    (m7 : (l7, o7) ∈ R) (y7 : o7 = lstO [.int a t1, .int 0 s2, .int 0 s3, .ref e7, .ref f7] k7) (a7 : (e7, g7) ∈ R) (z7 : g7 = lstO [] j7) (b7 : (f7, r7) ∈ R) (w7 : r7 = lstO [] i7) : DispEnd a b c zp yp d R rl ra := by
  subst y4 z4 y5 z5 w5 y6 z6 w6 y7 z7 w7
  rcases five h3 h8 with e | e | e | e | e <;> subst e
  · exact disp_mk (hL.p3 rfl) (hA.p3 rfl) (.mk _ _ _ _ _ _ _ _ _ _ _ _ _ _ _ _ _ _ .build m1 m2 m3 hvp hvb)
  · exact disp_mk (hL.p4 rfl) (hA.p4 rfl) (.mk _ _ _ _ _ _ _ _ _ _ _ _ _ _ _ _ _ _ .pre m4 m2 a4 hvp .nil)
  · exact disp_mk (hL.p5 rfl) (hA.p5 rfl) (.mk _ _ _ _ _ _ _ _ _ _ _ _ _ _ _ _ _ _ .patch m5 a5 b5 .nil .nil)
  · exact disp_mk (hL.p6 rfl) (hA.p6 rfl) (.mk _ _ _ _ _ _ _ _ _ _ _ _ _ _ _ _ _ _ .minor m6 a6 b6 .nil .nil)
  · exact disp_mk (hL.p7 rfl) (hA.p7 rfl) (.mk _ _ _ _ _ _ _ _ _ _ _ _ _ _ _ _ _ _ .major m7 a7 b7 .nil .nil)
theorem disp_fin {h₀ h' : Heap} {L : Addr} {a b c d : Int} {zp yp : List Str} {rl ra : Value} {news R : List (Addr × Obj)} {ps : Array Value} {G : Prop} (N : News h₀ L h' news) (hp : Pick (383, tabObj ps) news R) (hc : ∀ q ∈ R, q.2.cls ≠ .none) (D : DispEnd a b c zp yp d R rl ra)
    (k : ∀ z tz va A B C zr yr p₁ q₁ u1 u2 u3 k1 k2 k3 wp wb, rl = .str z tz → ra = .ref va → Cut a b c zp yp d z A B C zr yr → lawV va A B C u1 u2 u3 p₁ q₁ k1 ∈ R → (p₁, lstO wp k2) ∈ R → (q₁, lstO wb k3) ∈ R → StrsAre wp zr → StrsAre wb yr → News h₀ L h' ((383, tabObj ps) :: R) → G) : G := by
  cases D with
  | mk z tz va A B C zr yr p₁ q₁ u1 u2 u3 k1 k2 k3 wp wb hC m1 m2 m3 h1 h2 => exact k z tz va A B C zr yr p₁ q₁ u1 u2 u3 k1 k2 k3 wp wb rfl rfl hC m1 m2 m3 h1 h2 (pick_news N hp hc).1
section
theorem kw1_U4 : True := by
  (k_with "@k_lt clear" => (skip))
  (k_with "@k_mem" => (first | with_reducible assumption | with_reducible exact List.mem_cons_self | (with_reducible refine List.mem_cons_of_mem _ ?_; k_mem) | (with_reducible refine List.mem_append_left _ ?_; k_mem) | (with_reducible refine List.mem_append_right _ ?_; k_mem)))
  (k_with "+fit" => (first | with_reducible assumption | exact fit12 _ | exact fit3 _ | exact fit30 _))
  (k_with "@ktr_units" => (first | exact lt_r0 (by assumption) (by decide) | exact lt_rc (by assumption) (by decide) | exact lt_rd (by assumption) (by decide) | exact lt_z0 (by assumption) | (have hcL9 := cLine_is; ((try simp only [units_under_kw, units_in1, units_deeper, Around.mark_units, units_caller] at *); (try dsimp only [ktrTop, topA] at *); omega))))
  (k_with "@k_units" => (ktr_units))
  (k_with "@k_in" => (first | with_reducible assumption | (refine' Frag.In.keeps ?ki99q (Fr.keep (by with_reducible assumption)); case ki9 => with_reducible assumption)))
  (k_with "+ite" => ((k_closed; with_reducible (first | refine ite_pos (by k_dflt decide) ?_ | refine ite_neg (by k_dflt decide) ?_))))
  (k_with "+binaryOp Mod int int" => ((k_here; (with_reducible show wpAny _ _ (binaryOp Operator.Mod (Value.int _ _) (Value.int 10 _)) _ _ _); k_dflt (refine mod_deed (by with_reducible assumption) ?_))))
  (k_with "+con led" => ((first | with_reducible assumption | ((repeat (refine sub_cons ?_ ?_; k_mem)); (first | with_reducible assumption | (intro q9 hq9; (repeat (first | exact hq9 | exact mem_of (by with_reducible assumption) hq9 | exact List.mem_append_left _ hq9 | exact List.mem_append_left _ (mem_of (by with_reducible assumption) hq9) | exact List.mem_append_left _ (List.mem_append_right _ hq9) | exact List.mem_append_left _ (List.mem_append_left _ (mem_of (by with_reducible assumption) hq9)) | refine List.mem_append_right _ ?_ | refine List.mem_cons_of_mem _ ?_))))))))
  (k_with "+con pick" => ((first | with_reducible exact Pick.here | exact Pick.there (by walk_at "con pick"))))
  (k_with "+con cls" => ((repeat (first | with_reducible assumption | (refine List.forall_mem_cons.mpr ⟨(fun e9 => nomatch e9), ?_⟩) | exact List.forall_mem_nil _ | (refine List.forall_mem_append.mpr ⟨?_, ?_⟩)))))
  (k_with "+con kp" => ((walk_at "con base"; (case kp9q => walk_at "con pick"); (case kc9q => walk_at "con cls"); (case ht9q => k_asm))))
  (k_with "+con ne" => ((k_whole; intro h9 g9 tk9 ps9 t9 F9 N9 b9; (try dsimp only [PySem.W.CmpBack]); (try dsimp only))))
  (k_with "+con base" => (((case k39q => k_asm); (case k29q => k_asm); (case k19q => k_asm); (case k49q => k_asm); (case k59q => k_asm); (case kF9q => first | exact rfl | assumption); (case kK9q => first | exact rfl | assumption); (case kd9q => ktr_room); (case ku9q => ktr_units))))
  (k_with "@k_enter" => ((refine' Con.useT (c_text0 _ _ _ _ ?ha9q ?hb9q ?hc9q ?hz9q ?hy9q ?hvp9q ?hvb9q) ?k19q ?k29q ?k39q ?k49q ?k59q ?kF9q ?kK9q ?kd9q ?ku9q ?ks9q ?_; walk_at "con base"; (case ks9q => walk_at "con sub"); (case hvp9q => k_asm); (case hvb9q => k_asm); (case hz9q => k_asm); (case hy9q => k_asm); (case ha9q => walk_at "fit"); (case hb9q => walk_at "fit"); (case hc9q => walk_at "fit"); k_whole; intro t9 h9 tk9 F9 N9; (try dsimp only [PySem.W.StrBack]); (try dsimp only))))
  (k_with "@k_enter" => ((refine' Con.useT (v_str _ ?V9q ?ha9q ?hb9q ?hc9q ?hz9q ?hy9q) ?k19q ?k29q ?k39q ?k49q ?k59q ?kF9q ?kK9q ?kd9q ?ku9q ?ks9q ?_; walk_at "con base"; (case V9q => k_asm); (case ks9q => walk_at "con led"); (case hz9q => k_asm); (case hy9q => k_asm); (case ha9q => walk_at "fit"); (case hb9q => walk_at "fit"); (case hc9q => walk_at "fit"); k_whole; intro t9 h9 tk9 F9 N9; (try dsimp only [PySem.W.StrBack]); (try dsimp only))))
  (k_with "@k_enter" => ((refine' Con.use0 (v_gtV _ ?V19q ?V29q ?rel9q ?hb9q) ?k19q ?k29q ?k39q ?k49q ?k59q ?kF9q ?kK9q ?kd9q ?ku9q (sub_two ?ks19q ?ks29q) ?_; walk_at "con base"; (case V19q => k_asm); (case V29q => k_asm); (case rel9q => k_asm); (case hb9q => k_asm); (case ks19q => walk_at "con led"); (case ks29q => walk_at "con led"); k_whole; intro h9 tk9 F9 N9; (try dsimp only [PySem.W.CmpBack]); (try dsimp only))))
  (k_with "@k_enter" => ((refine' Con.use0 (v_ltV _ ?V19q ?V29q ?rel9q ?hb9q) ?k19q ?k29q ?k39q ?k49q ?k59q ?kF9q ?kK9q ?kd9q ?ku9q (sub_two ?ks19q ?ks29q) ?_; walk_at "con base"; (case V19q => k_asm); (case V29q => k_asm); (case rel9q => k_asm); (case hb9q => k_asm); (case ks19q => walk_at "con led"); (case ks29q => walk_at "con led"); k_whole; intro h9 tk9 F9 N9; (try dsimp only [PySem.W.CmpBack]); (try dsimp only))))
  (k_with "+con vp" => (((case V9q => k_asm); (case hz9q => k_asm); walk_at "con base"; (case kp9q => walk_at "con pick"); (case kc9q => walk_at "con cls"); (case ht9q => k_asm); (case ks9q => walk_at "con led"); k_whole; intro x9 tl9 dx9 k1 k2 k3 k4 k5 k6 k7 k8 t1 t2 t3 tp9 tb9 tw9 t8 n9 h9 g9 tk9 ps9 V9 ia9 ib9 pl9 t9 F9 N9 b9; (try dsimp only))))
  (k_with "+con ver" => (((case V9q => k_asm); (case hz9q => k_asm); walk_at "con base"; (case kp9q => walk_at "con pick"); (case kc9q => walk_at "con cls"); (case ht9q => k_asm); (case ks9q => walk_at "con led"); k_whole; intro x9 dx9 tp9 tb9 tw9 t8 pk9 k1 k2 k3 k4 k5 k6 k7 k8 t1 t2 t3 u1 u2 u3 n9 acc9 led9 h9 g9 tk9 ps9 V9 pl9 t9 F9 N9 b9; (simp only [List.cons_append, List.append_assoc] at N9); (try dsimp only))))
  (k_with "+mid fin" => ((refine' mid_end ?F9q ?N9q ?mr9q ?ma9q ?mh9q ?mt9q ?V9q ?m19q ?m29q ?m39q ?hvp9q ?hvb9q ?hz9q ?hy9q ?ba9q ?bb9q ?bc9q ?hr9q ?hs9q ?hX9q ?h39q ?ht9q ?ab9q; (case F9q => with_reducible assumption); (case N9q => with_reducible assumption); (case mr9q => with_unfolding_all rfl); (case ma9q => with_unfolding_all rfl); (case mh9q => with_unfolding_all rfl); (case mt9q => with_unfolding_all rfl); (case V9q => with_reducible assumption); (case m19q => k_mem); (case m29q => k_mem); (case m39q => k_mem); (case hvp9q => with_reducible assumption); (case hvb9q => with_reducible assumption); (case hz9q => with_reducible assumption); (case hy9q => with_reducible assumption); (case ba9q => with_reducible assumption); (case bb9q => with_reducible assumption); (case bc9q => with_reducible assumption); (case hr9q => walk_at "con led"); (case hs9q => walk_at "con led"); (case hX9q => walk_at "con led"); (case h39q => k_mem); (case ht9q => with_reducible assumption); (case ab9q => (intro hb; solve_by_elim)))))
  (k_with "+TurnPost" => ((refine' turn_end ?F9q ?N9q ?mh9q ?mv9q ?V9q ?m19q ?m29q ?m39q ?hvp9q ?hvb9q ?hz9q ?hy9q ?ba9q ?bb9q ?bc9q ?hs9q ?hX9q ?h39q ?ht9q ?ab9q; (case F9q => with_reducible assumption); (case N9q => with_reducible assumption); (case mh9q => with_unfolding_all rfl); (case mv9q => with_unfolding_all rfl); (case V9q => with_reducible assumption); (case m19q => k_mem); (case m29q => k_mem); (case m39q => k_mem); (case hvp9q => with_reducible assumption); (case hvb9q => with_reducible assumption); (case hz9q => with_reducible assumption); (case hy9q => with_reducible assumption); (case ba9q => with_reducible assumption); (case bb9q => with_reducible assumption); (case bc9q => with_reducible assumption); (case hs9q => walk_at "con led"); (case hX9q => walk_at "con led"); (case h39q => k_mem); (case ht9q => with_reducible assumption); (case ab9q => (intro hb; solve_by_elim)))))
  (k_with "+subscriptTail List cons" => ((k_here; k_dflt (refine kba_turn (value' := PySem.Expr.Name (PySem.Str.ofString "_") ⟨0, 0, 0, 0⟩) (fun _ => rfl) ?_))))
  (k_with "+subscriptTail Name BinOp ref int" => ((k_here; k_dflt (refine' pick5 ?h39q ?h89q ?N9q ?m9q ?o9q ?_; (case h39q => k_asm); (case h89q => k_asm); (case N9q => k_asm); (case m9q => k_mem); (case o9q => with_unfolding_all exact rfl)); intro r9 hr9; (try dsimp only))))
  exact True.intro
set_option maxHeartbeats 2000000 in
/-- the two menus: the level's word and the list that is to come -/
theorem disp (w : World) : ∀ (qual : Str) (scope : Scope) (b0 b1 : Stmt) (c1 : PySem.Expr) (th1 : List Stmt) (c2 : PySem.Expr) (d1 d2 : Stmt) (ds el2 : List Stmt) (q2 q1 : Pos) (e1 e2 : Stmt), LawP ((Mine.fr.heap_1 w.params).lookup 485) qual scope b0 b1 c1 th1 c2 d1 d2 ds el2 q2 q1 e1 e2 → ∀ (p : Program) (loose : List Str) (mean : ExcName → Option Value) (mg mb : Str → Option Value) (dp un : Nat) (gd : Option (List Code)) (h₀ : Heap) (L fa : Addr) (cd : Value) (E : Value → Shared → Prop) (dr : Drawn) (os : OsState) (a b c : Int) (zp yp : List Str) (v p' q' : Addr) (t1 t2 t3 : Tok) (nv n1 n2 : Nat) (vp vb : List Value) (rest : List (Addr × Obj)) (h : Heap) (g : Array GenState) (tk : Nat) (d : Int) (td : Tok) (m : Str → Option Value) (ps : Array Value) (Q : Flow → Shared → Prop),
    LawAt w p loose mean mg mb dp un gd qual scope h₀ L fa cd E → StrsAre vp zp → StrsAre vb yp → 3 ≤ d → d < 8 → Fr h₀ L h m → m (Str.ofString "deed") = some (.int d td) → m (Str.ofString "version") = some (.ref v) → News h₀ L h ((383, tabObj ps) :: rest) → (∀ q ∈ rest, q.2.cls ≠ .none) → lawV v a b c t1 t2 t3 p' q' nv ∈ rest → (p', lstO vp n1) ∈ rest → (q', lstO vb n2) ∈ rest →
    (∀ h' tk' rest' z tz va A B C zr yr p₁ q₁ u1 u2 u3 k1 k2 k3 wp wb, Cut a b c zp yp d z A B C zr yr → Fr h₀ L h' (fun y => if y = Str.ofString "after" then some (.ref va) else if y = Str.ofString "level" then some (.str z tz) else m y) → News h₀ L h' ((383, tabObj ps) :: rest') → (∀ q ∈ rest, q ∈ rest') → (∀ q ∈ rest', q.2.cls ≠ .none) →
      lawV va A B C u1 u2 u3 p₁ q₁ k1 ∈ rest' → (p₁, lstO wp k2) ∈ rest' → (q₁, lstO wb k3) ∈ rest' → StrsAre wp zr → StrsAre wb yr → wpAny (model PySem.Challenge.rw_lh0061_01.row.prog w) ((baseA dp un gd).deeper (envOf qual scope L fa cd)) (execs ds (envOf qual scope L fa cd)) Q E ⟨h', g, dr, tk', os⟩) →
    wpAny (model PySem.Challenge.rw_lh0061_01.row.prog w) ((baseA dp un gd).deeper (envOf qual scope L fa cd)) (execs (d1 :: d2 :: ds) (envOf qual scope L fa cd)) Q E ⟨h, g, dr, tk, os⟩ := by
  k_fill
  refine' lawp_elimD ?h1 ?_
  case h1 => k_is
  intro ds
  intro p loose mean mg mb dp un gd h₀ L fa cd E dr os a b c zp yp v p' q' t1 t2 t3 nv n1 n2 vp vb rest h g tk d td m ps Q C hvp hvb h3 h8 F md mv N hc m1 m2 m3 next
  obtain ⟨KX, B, T, hv1, hv2, hv3, hv4, HE, HE2, hdp, hun⟩ := C
  have back := map2 md mv
  replace F := fr_to F back
  k_steps
  all_goals (
    refine' disp_fin ?N ?hp ?hc ?D ?k
    case N => with_reducible assumption
    case hp => walk_at "con pick"
    case hc => walk_at "con cls"
    case D =>
      refine' disp_end h3 h8 hvp hvb ?hL ?hA ?m1 ?m2 ?m3 ?m4 ?y4 ?a4 ?z4 ?m5 ?y5 ?a5 ?z5 ?b5 ?w5 ?m6 ?y6 ?a6 ?z6 ?b6 ?w6 ?m7 ?y7 ?a7 ?z7 ?b7 ?w7
      case hL => with_reducible assumption
      case hA => with_reducible assumption
      case m1 => k_mem
      case m2 => k_mem
      case m3 => k_mem
      case m4 => k_mem
      case y4 => with_unfolding_all exact rfl
      case a4 => k_mem
      case z4 => with_unfolding_all exact rfl
      case m5 => k_mem
      case y5 => with_unfolding_all exact rfl
      case a5 => k_mem
      case z5 => with_unfolding_all exact rfl
      case b5 => k_mem
      case w5 => with_unfolding_all exact rfl
      case m6 => k_mem
      case y6 => with_unfolding_all exact rfl
      case a6 => k_mem
      case z6 => with_unfolding_all exact rfl
      case b6 => k_mem
      case w6 => with_unfolding_all exact rfl
      case m7 => k_mem
      case y7 => with_unfolding_all exact rfl
      case a7 => k_mem
      case z7 => with_unfolding_all exact rfl
      case b7 => k_mem
      case w7 => with_unfolding_all exact rfl
    case k =>
      intro z9 tz9 va9 A9 B9 C9 zr9 yr9 p9 q9 u1 u2 u3 k1 k2 k3 wp9 wb9 e1 e2 hC9 n1 n2 n3 s1 s2 N9
      subst e1 e2
      exact next _ _ _ _ _ _ _ _ _ _ _ _ _ _ _ _ _ _ _ _ _ hC9 (fr_to (by with_reducible assumption) (funext fun y => by
        split
        · rfl
        · split
          · rfl
          · exact (congrFun back y).symm)) N9 (by walk_at "con led") (by walk_at "con cls") n1 n2 n3 s1 s2)
end
theorem kw2_U4 : True := by
  k_with_none
  (k_with "+lt room" => (first | exact lt_r0 (by assumption) (by decide) | exact lt_rc (by assumption) (by decide) | exact lt_rd (by assumption) (by decide) | exact lt_z0 (by assumption)))
  (k_with "@ktr_room" => (walk_at "lt room"))
  (k_with "@ktr_units" => (walk_at "lt room"))
  (k_with "@units_room" => (walk_at "lt room"))
  (k_with "@k_room" => (ktr_room))
  (k_with "+con binds" => (first | exact fm_nilE (by exact rfl) | exact fm_some (by exact rfl) (by walk_at "con binds")))
  (k_with "+con enter" => ((k_dflt (refine' code_keep ?k19q ?k29q ?k39q ?k49q ?k59q ?kA9q ?kF9q ?kK9q ?k69q ?k79q ?k89q ?k99q ?kB9q ?_ ?c29q ?c39q ?c49q ?c59q; (case kA9q => exact rfl); (case kF9q => assumption); (case kK9q => assumption); (case k49q => k_asm); (case k19q => k_asm); (case k29q => k_asm); (case k39q => k_asm); (case k59q => k_asm); (case k69q => k_is); (case k79q => k_is); (case k89q => ktr_room); (case k99q => (refine' binds_to ?b99q ?e99q; (case b99q => first | exact BindsTo.of_eq rfl | exact binds_K (by k_in) rfl (by k_is) rfl rfl rfl | fail "con enter: no rule for these arguments"); (case e99q => first | (walk_at "con binds") | (walk_say "con enter: binds left as they are"; exact rfl)))); (case c59q => decide); (case kB9q => exact locs rfl); (case c29q => exact rfl); (case c39q => exact rfl); (case c49q => exact rfl); k_whole; intro g' L' h' FG' F' N' B' X' T' G0'; (try dsimp only); (try k_fold)))))
  (k_with "+con sub" => (repeat (first | exact sub_nil | refine sub_cons (by k_mem) ?_)))
  (k_with "+ite" => ((k_here; k_openite; with_reducible refine ite_isFalse (bne_self_eq_false _) ?_; walk_say "PRUNED same")))
  (k_with "+con sides" => (((case k39q => k_asm); (case k29q => k_asm); (case k19q => k_asm); (case k49q => k_asm); (case k59q => k_asm); (case kF9q => first | exact rfl | assumption); (case kK9q => first | exact rfl | assumption); (case kd9q => ktr_room); (case ku9q => ktr_units); (case ks9q => walk_at "con sub"))))
  (k_with "+ne close" => (first | assumption | exact Ne.symm (by assumption) | exact Nat.ne_of_lt (by assumption) | exact Nat.ne_of_gt (by assumption) | exact Nat.ne_of_lt (Nat.lt_trans (by assumption) (by assumption)) | exact Nat.ne_of_gt (Nat.lt_trans (by assumption) (by assumption)) | (rename _ ∧ _ => hh9; obtain ⟨_, _⟩ := hh9; walk_at "ne close")))
  (k_with "@k_ne" => ((refine neN ?_; (try dsimp only); with_reducible walk_at "ne close")))
  exact True.intro
end
section
section
theorem kw1_Z0 : True := by
  (k_with "@k_lt clear" => (skip))
  (k_with "@k_mem" => (first | with_reducible assumption | with_reducible exact List.mem_cons_self | (with_reducible refine List.mem_cons_of_mem _ ?_; k_mem) | (with_reducible refine List.mem_append_left _ ?_; k_mem) | (with_reducible refine List.mem_append_right _ ?_; k_mem)))
  (k_with "+fit" => (first | with_reducible assumption | exact fit12 _ | exact fit3 _ | exact fit30 _))
  (k_with "@ktr_units" => (first | exact lt_r0 (by assumption) (by decide) | exact lt_rc (by assumption) (by decide) | exact lt_rd (by assumption) (by decide) | exact lt_z0 (by assumption) | (have hcL9 := cLine_is; ((try simp only [units_under_kw, units_in1, units_deeper, Around.mark_units, units_caller] at *); (try dsimp only [ktrTop, topA] at *); omega))))
  (k_with "@k_units" => (ktr_units))
  (k_with "@k_in" => (first | with_reducible assumption | (refine' Frag.In.keeps ?ki99q (Fr.keep (by with_reducible assumption)); case ki9 => with_reducible assumption)))
  (k_with "+ite" => ((k_closed; with_reducible (first | refine ite_pos (by k_dflt decide) ?_ | refine ite_neg (by k_dflt decide) ?_))))
  (k_with "+binaryOp Mod int int" => ((k_here; (with_reducible show wpAny _ _ (binaryOp Operator.Mod (Value.int _ _) (Value.int 10 _)) _ _ _); k_dflt (refine mod_deed (by with_reducible assumption) ?_))))
  (k_with "+con led" => ((first | with_reducible assumption | ((repeat (refine sub_cons ?_ ?_; k_mem)); (first | with_reducible assumption | (intro q9 hq9; (repeat (first | exact hq9 | exact mem_of (by with_reducible assumption) hq9 | exact List.mem_append_left _ hq9 | exact List.mem_append_left _ (mem_of (by with_reducible assumption) hq9) | exact List.mem_append_left _ (List.mem_append_right _ hq9) | exact List.mem_append_left _ (List.mem_append_left _ (mem_of (by with_reducible assumption) hq9)) | refine List.mem_append_right _ ?_ | refine List.mem_cons_of_mem _ ?_))))))))
  (k_with "+con pick" => ((first | with_reducible exact Pick.here | exact Pick.there (by walk_at "con pick"))))
  (k_with "+con cls" => ((repeat (first | with_reducible assumption | (refine List.forall_mem_cons.mpr ⟨(fun e9 => nomatch e9), ?_⟩) | exact List.forall_mem_nil _ | (refine List.forall_mem_append.mpr ⟨?_, ?_⟩)))))
  (k_with "+con kp" => ((walk_at "con base"; (case kp9q => walk_at "con pick"); (case kc9q => walk_at "con cls"); (case ht9q => k_asm))))
  (k_with "+con ne" => ((k_whole; intro h9 g9 tk9 ps9 t9 F9 N9 b9; (try dsimp only [PySem.W.CmpBack]); (try dsimp only))))
  (k_with "+con base" => (((case k39q => k_asm); (case k29q => k_asm); (case k19q => k_asm); (case k49q => k_asm); (case k59q => k_asm); (case kF9q => first | exact rfl | assumption); (case kK9q => first | exact rfl | assumption); (case kd9q => ktr_room); (case ku9q => ktr_units))))
  (k_with "@k_enter" => ((refine' Con.useT (c_text0 _ _ _ _ ?ha9q ?hb9q ?hc9q ?hz9q ?hy9q ?hvp9q ?hvb9q) ?k19q ?k29q ?k39q ?k49q ?k59q ?kF9q ?kK9q ?kd9q ?ku9q ?ks9q ?_; walk_at "con base"; (case ks9q => walk_at "con sub"); (case hvp9q => k_asm); (case hvb9q => k_asm); (case hz9q => k_asm); (case hy9q => k_asm); (case ha9q => walk_at "fit"); (case hb9q => walk_at "fit"); (case hc9q => walk_at "fit"); k_whole; intro t9 h9 tk9 F9 N9; (try dsimp only [PySem.W.StrBack]); (try dsimp only))))
  (k_with "@k_enter" => ((refine' Con.useT (v_str _ ?V9q ?ha9q ?hb9q ?hc9q ?hz9q ?hy9q) ?k19q ?k29q ?k39q ?k49q ?k59q ?kF9q ?kK9q ?kd9q ?ku9q ?ks9q ?_; walk_at "con base"; (case V9q => k_asm); (case ks9q => walk_at "con led"); (case hz9q => k_asm); (case hy9q => k_asm); (case ha9q => walk_at "fit"); (case hb9q => walk_at "fit"); (case hc9q => walk_at "fit"); k_whole; intro t9 h9 tk9 F9 N9; (try dsimp only [PySem.W.StrBack]); (try dsimp only))))
  (k_with "@k_enter" => ((refine' Con.use0 (v_gtV _ ?V19q ?V29q ?rel9q ?hb9q) ?k19q ?k29q ?k39q ?k49q ?k59q ?kF9q ?kK9q ?kd9q ?ku9q (sub_two ?ks19q ?ks29q) ?_; walk_at "con base"; (case V19q => k_asm); (case V29q => k_asm); (case rel9q => k_asm); (case hb9q => k_asm); (case ks19q => walk_at "con led"); (case ks29q => walk_at "con led"); k_whole; intro h9 tk9 F9 N9; (try dsimp only [PySem.W.CmpBack]); (try dsimp only))))
  (k_with "@k_enter" => ((refine' Con.use0 (v_ltV _ ?V19q ?V29q ?rel9q ?hb9q) ?k19q ?k29q ?k39q ?k49q ?k59q ?kF9q ?kK9q ?kd9q ?ku9q (sub_two ?ks19q ?ks29q) ?_; walk_at "con base"; (case V19q => k_asm); (case V29q => k_asm); (case rel9q => k_asm); (case hb9q => k_asm); (case ks19q => walk_at "con led"); (case ks29q => walk_at "con led"); k_whole; intro h9 tk9 F9 N9; (try dsimp only [PySem.W.CmpBack]); (try dsimp only))))
  (k_with "+con vp" => (((case V9q => k_asm); (case hz9q => k_asm); walk_at "con base"; (case kp9q => walk_at "con pick"); (case kc9q => walk_at "con cls"); (case ht9q => k_asm); (case ks9q => walk_at "con led"); k_whole; intro x9 tl9 dx9 k1 k2 k3 k4 k5 k6 k7 k8 t1 t2 t3 tp9 tb9 tw9 t8 n9 h9 g9 tk9 ps9 V9 ia9 ib9 pl9 t9 F9 N9 b9; (try dsimp only))))
  (k_with "+con ver" => (((case V9q => k_asm); (case hz9q => k_asm); walk_at "con base"; (case kp9q => walk_at "con pick"); (case kc9q => walk_at "con cls"); (case ht9q => k_asm); (case ks9q => walk_at "con led"); k_whole; intro x9 dx9 tp9 tb9 tw9 t8 pk9 k1 k2 k3 k4 k5 k6 k7 k8 t1 t2 t3 u1 u2 u3 n9 acc9 led9 h9 g9 tk9 ps9 V9 pl9 t9 F9 N9 b9; (simp only [List.cons_append, List.append_assoc] at N9); (try dsimp only))))
  (k_with "+mid fin" => ((refine' mid_end ?F9q ?N9q ?mr9q ?ma9q ?mh9q ?mt9q ?V9q ?m19q ?m29q ?m39q ?hvp9q ?hvb9q ?hz9q ?hy9q ?ba9q ?bb9q ?bc9q ?hr9q ?hs9q ?hX9q ?h39q ?ht9q ?ab9q; (case F9q => with_reducible assumption); (case N9q => with_reducible assumption); (case mr9q => with_unfolding_all rfl); (case ma9q => with_unfolding_all rfl); (case mh9q => with_unfolding_all rfl); (case mt9q => with_unfolding_all rfl); (case V9q => with_reducible assumption); (case m19q => k_mem); (case m29q => k_mem); (case m39q => k_mem); (case hvp9q => with_reducible assumption); (case hvb9q => with_reducible assumption); (case hz9q => with_reducible assumption); (case hy9q => with_reducible assumption); (case ba9q => with_reducible assumption); (case bb9q => with_reducible assumption); (case bc9q => with_reducible assumption); (case hr9q => walk_at "con led"); (case hs9q => walk_at "con led"); (case hX9q => walk_at "con led"); (case h39q => k_mem); (case ht9q => with_reducible assumption); (case ab9q => (intro hb; solve_by_elim)))))
  (k_with "+TurnPost" => ((refine' turn_end ?F9q ?N9q ?mh9q ?mv9q ?V9q ?m19q ?m29q ?m39q ?hvp9q ?hvb9q ?hz9q ?hy9q ?ba9q ?bb9q ?bc9q ?hs9q ?hX9q ?h39q ?ht9q ?ab9q; (case F9q => with_reducible assumption); (case N9q => with_reducible assumption); (case mh9q => with_unfolding_all rfl); (case mv9q => with_unfolding_all rfl); (case V9q => with_reducible assumption); (case m19q => k_mem); (case m29q => k_mem); (case m39q => k_mem); (case hvp9q => with_reducible assumption); (case hvb9q => with_reducible assumption); (case hz9q => with_reducible assumption); (case hy9q => with_reducible assumption); (case ba9q => with_reducible assumption); (case bb9q => with_reducible assumption); (case bc9q => with_reducible assumption); (case hs9q => walk_at "con led"); (case hX9q => walk_at "con led"); (case h39q => k_mem); (case ht9q => with_reducible assumption); (case ab9q => (intro hb; solve_by_elim)))))
  (k_with "@k_enter" => ((refine' ConF.use (c_lmajV _ ?hk9q ?e9q ?a09q ?b09q ?c09q ?hz9q ?hy9q ?hvp9q ?hvb9q) ?k19q ?k29q ?k39q ?k49q ?k59q ?kF9q ?kK9q ?kd9q ?ku9q ?ks9q ?_; walk_at "con base"; (case hk9q => exact rfl); (case ks9q => walk_at "con sub"); (case e9q => k_asm); (case hvp9q => k_asm); (case hvb9q => k_asm); (case hz9q => k_asm); (case hy9q => k_asm); (case a09q => k_asm); (case b09q => k_asm); (case c09q => k_asm); k_whole; intro r9 tl9 h9 tk9 p9; obtain ⟨D9, p8, q8, a1, a2, a3, m1, m2, m3⟩ := p9; intro c9 n9 F9 N9; (dsimp only [List.cons_append, List.nil_append] at N9); (try dsimp only))))
  (k_with "@k_enter" => ((refine' ConV.useVer0 (c_nmajV _ ?e9q ?V9q ?hz9q) ?k19q ?k29q ?k39q ?kp9q ?kc9q ?ht9q ?k49q ?k59q ?kF9q ?kK9q ?kd9q ?ku9q ?ks9q ?_; (case e9q => k_asm); walk_at "con ver")))
  exact True.intro
set_option maxHeartbeats 4000000 in
theorem mid0 (w : World) : MidFor w 0 := by
  refine mid_of ?_
  unfold MidIn
  k_fill
  refine' lawp_elim ?h1 ?_
  case h1 => k_is
  intro HP
  intro p loose mean mg mb dp un gd h₀ L fa cd E dr os i n t td tt x v p' q' a b c zp yp tl rest X t1 t2 t3 nv n1 n2 vp vb m h g tk ps dx0 j1 j2 j3 j4 j5 j6 j7 j8 z1 z2 z3 tp0 tb0 tk0 t80 n0 Q C0 KX B T hv1 hv2 hv3 hv4 HE HE2 hdp hun hi hn V0 ba bb bc hz hy hvp hvb F N hc m1 m2 m3 hs hX ht ia0 ib0 fa9 fb9 fc9 i0 s0 a0 b0 c0 rl rs lA lB lC hQ
  obtain ⟨⟨A, B', C⟩, hABC⟩ : ∃ v, nMaj a b c zp = v := ⟨_, rfl⟩
  clear lA lB lC
  obtain ⟨lA, lB, lC⟩ := nMaj_lo hABC ba bb bc
  have fA := fit_of (i + 1) lA.1 lA.2 hi
  have fB := fit_of (i + 1) lB.1 lB.2 hi
  have fC := fit_big (i + 1) lC.1 lC.2 hi
  have hgt := nMaj_gt hABC bc.1
  clear bb ba bc
  k_steps
  all_goals (refine hQ _ ?_; walk_at "mid fin")
end
theorem kw2_Z0 : True := by
  k_with_none
  (k_with "+lt room" => (first | exact lt_r0 (by assumption) (by decide) | exact lt_rc (by assumption) (by decide) | exact lt_rd (by assumption) (by decide) | exact lt_z0 (by assumption)))
  (k_with "@ktr_room" => (walk_at "lt room"))
  (k_with "@ktr_units" => (walk_at "lt room"))
  (k_with "@units_room" => (walk_at "lt room"))
  (k_with "@k_room" => (ktr_room))
  (k_with "+con binds" => (first | exact fm_nilE (by exact rfl) | exact fm_some (by exact rfl) (by walk_at "con binds")))
  (k_with "+con enter" => ((k_dflt (refine' code_keep ?k19q ?k29q ?k39q ?k49q ?k59q ?kA9q ?kF9q ?kK9q ?k69q ?k79q ?k89q ?k99q ?kB9q ?_ ?c29q ?c39q ?c49q ?c59q; (case kA9q => exact rfl); (case kF9q => assumption); (case kK9q => assumption); (case k49q => k_asm); (case k19q => k_asm); (case k29q => k_asm); (case k39q => k_asm); (case k59q => k_asm); (case k69q => k_is); (case k79q => k_is); (case k89q => ktr_room); (case k99q => (refine' binds_to ?b99q ?e99q; (case b99q => first | exact BindsTo.of_eq rfl | exact binds_K (by k_in) rfl (by k_is) rfl rfl rfl | fail "con enter: no rule for these arguments"); (case e99q => first | (walk_at "con binds") | (walk_say "con enter: binds left as they are"; exact rfl)))); (case c59q => decide); (case kB9q => exact locs rfl); (case c29q => exact rfl); (case c39q => exact rfl); (case c49q => exact rfl); k_whole; intro g' L' h' FG' F' N' B' X' T' G0'; (try dsimp only); (try k_fold)))))
  (k_with "+con sub" => (repeat (first | exact sub_nil | refine sub_cons (by k_mem) ?_)))
  (k_with "+ite" => ((k_here; k_openite; with_reducible refine ite_isFalse (bne_self_eq_false _) ?_; walk_say "PRUNED same")))
  (k_with "+con sides" => (((case k39q => k_asm); (case k29q => k_asm); (case k19q => k_asm); (case k49q => k_asm); (case k59q => k_asm); (case kF9q => first | exact rfl | assumption); (case kK9q => first | exact rfl | assumption); (case kd9q => ktr_room); (case ku9q => ktr_units); (case ks9q => walk_at "con sub"))))
  (k_with "+ne close" => (first | assumption | exact Ne.symm (by assumption) | exact Nat.ne_of_lt (by assumption) | exact Nat.ne_of_gt (by assumption) | exact Nat.ne_of_lt (Nat.lt_trans (by assumption) (by assumption)) | exact Nat.ne_of_gt (Nat.lt_trans (by assumption) (by assumption)) | (rename _ ∧ _ => hh9; obtain ⟨_, _⟩ := hh9; walk_at "ne close")))
  (k_with "@k_ne" => ((refine neN ?_; (try dsimp only); with_reducible walk_at "ne close")))
  exact True.intro
end
section
section
theorem kw1_Z1 : True := by
  (k_with "@k_lt clear" => (skip))
  (k_with "@k_mem" => (first | with_reducible assumption | with_reducible exact List.mem_cons_self | (with_reducible refine List.mem_cons_of_mem _ ?_; k_mem) | (with_reducible refine List.mem_append_left _ ?_; k_mem) | (with_reducible refine List.mem_append_right _ ?_; k_mem)))
  (k_with "+fit" => (first | with_reducible assumption | exact fit12 _ | exact fit3 _ | exact fit30 _))
  (k_with "@ktr_units" => (first | exact lt_r0 (by assumption) (by decide) | exact lt_rc (by assumption) (by decide) | exact lt_rd (by assumption) (by decide) | exact lt_z0 (by assumption) | (have hcL9 := cLine_is; ((try simp only [units_under_kw, units_in1, units_deeper, Around.mark_units, units_caller] at *); (try dsimp only [ktrTop, topA] at *); omega))))
  (k_with "@k_units" => (ktr_units))
  (k_with "@k_in" => (first | with_reducible assumption | (refine' Frag.In.keeps ?ki99q (Fr.keep (by with_reducible assumption)); case ki9 => with_reducible assumption)))
  (k_with "+ite" => ((k_closed; with_reducible (first | refine ite_pos (by k_dflt decide) ?_ | refine ite_neg (by k_dflt decide) ?_))))
  (k_with "+binaryOp Mod int int" => ((k_here; (with_reducible show wpAny _ _ (binaryOp Operator.Mod (Value.int _ _) (Value.int 10 _)) _ _ _); k_dflt (refine mod_deed (by with_reducible assumption) ?_))))
  (k_with "+con led" => ((first | with_reducible assumption | ((repeat (refine sub_cons ?_ ?_; k_mem)); (first | with_reducible assumption | (intro q9 hq9; (repeat (first | exact hq9 | exact mem_of (by with_reducible assumption) hq9 | exact List.mem_append_left _ hq9 | exact List.mem_append_left _ (mem_of (by with_reducible assumption) hq9) | exact List.mem_append_left _ (List.mem_append_right _ hq9) | exact List.mem_append_left _ (List.mem_append_left _ (mem_of (by with_reducible assumption) hq9)) | refine List.mem_append_right _ ?_ | refine List.mem_cons_of_mem _ ?_))))))))
  (k_with "+con pick" => ((first | with_reducible exact Pick.here | exact Pick.there (by walk_at "con pick"))))
  (k_with "+con cls" => ((repeat (first | with_reducible assumption | (refine List.forall_mem_cons.mpr ⟨(fun e9 => nomatch e9), ?_⟩) | exact List.forall_mem_nil _ | (refine List.forall_mem_append.mpr ⟨?_, ?_⟩)))))
  (k_with "+con kp" => ((walk_at "con base"; (case kp9q => walk_at "con pick"); (case kc9q => walk_at "con cls"); (case ht9q => k_asm))))
  (k_with "+con ne" => ((k_whole; intro h9 g9 tk9 ps9 t9 F9 N9 b9; (try dsimp only [PySem.W.CmpBack]); (try dsimp only))))
  (k_with "+con base" => (((case k39q => k_asm); (case k29q => k_asm); (case k19q => k_asm); (case k49q => k_asm); (case k59q => k_asm); (case kF9q => first | exact rfl | assumption); (case kK9q => first | exact rfl | assumption); (case kd9q => ktr_room); (case ku9q => ktr_units))))
  (k_with "@k_enter" => ((refine' Con.useT (c_text0 _ _ _ _ ?ha9q ?hb9q ?hc9q ?hz9q ?hy9q ?hvp9q ?hvb9q) ?k19q ?k29q ?k39q ?k49q ?k59q ?kF9q ?kK9q ?kd9q ?ku9q ?ks9q ?_; walk_at "con base"; (case ks9q => walk_at "con sub"); (case hvp9q => k_asm); (case hvb9q => k_asm); (case hz9q => k_asm); (case hy9q => k_asm); (case ha9q => walk_at "fit"); (case hb9q => walk_at "fit"); (case hc9q => walk_at "fit"); k_whole; intro t9 h9 tk9 F9 N9; (try dsimp only [PySem.W.StrBack]); (try dsimp only))))
  (k_with "@k_enter" => ((refine' Con.useT (v_str _ ?V9q ?ha9q ?hb9q ?hc9q ?hz9q ?hy9q) ?k19q ?k29q ?k39q ?k49q ?k59q ?kF9q ?kK9q ?kd9q ?ku9q ?ks9q ?_; walk_at "con base"; (case V9q => k_asm); (case ks9q => walk_at "con led"); (case hz9q => k_asm); (case hy9q => k_asm); (case ha9q => walk_at "fit"); (case hb9q => walk_at "fit"); (case hc9q => walk_at "fit"); k_whole; intro t9 h9 tk9 F9 N9; (try dsimp only [PySem.W.StrBack]); (try dsimp only))))
  (k_with "@k_enter" => ((refine' Con.use0 (v_gtV _ ?V19q ?V29q ?rel9q ?hb9q) ?k19q ?k29q ?k39q ?k49q ?k59q ?kF9q ?kK9q ?kd9q ?ku9q (sub_two ?ks19q ?ks29q) ?_; walk_at "con base"; (case V19q => k_asm); (case V29q => k_asm); (case rel9q => k_asm); (case hb9q => k_asm); (case ks19q => walk_at "con led"); (case ks29q => walk_at "con led"); k_whole; intro h9 tk9 F9 N9; (try dsimp only [PySem.W.CmpBack]); (try dsimp only))))
  (k_with "@k_enter" => ((refine' Con.use0 (v_ltV _ ?V19q ?V29q ?rel9q ?hb9q) ?k19q ?k29q ?k39q ?k49q ?k59q ?kF9q ?kK9q ?kd9q ?ku9q (sub_two ?ks19q ?ks29q) ?_; walk_at "con base"; (case V19q => k_asm); (case V29q => k_asm); (case rel9q => k_asm); (case hb9q => k_asm); (case ks19q => walk_at "con led"); (case ks29q => walk_at "con led"); k_whole; intro h9 tk9 F9 N9; (try dsimp only [PySem.W.CmpBack]); (try dsimp only))))
  (k_with "+con vp" => (((case V9q => k_asm); (case hz9q => k_asm); walk_at "con base"; (case kp9q => walk_at "con pick"); (case kc9q => walk_at "con cls"); (case ht9q => k_asm); (case ks9q => walk_at "con led"); k_whole; intro x9 tl9 dx9 k1 k2 k3 k4 k5 k6 k7 k8 t1 t2 t3 tp9 tb9 tw9 t8 n9 h9 g9 tk9 ps9 V9 ia9 ib9 pl9 t9 F9 N9 b9; (try dsimp only))))
  (k_with "+con ver" => (((case V9q => k_asm); (case hz9q => k_asm); walk_at "con base"; (case kp9q => walk_at "con pick"); (case kc9q => walk_at "con cls"); (case ht9q => k_asm); (case ks9q => walk_at "con led"); k_whole; intro x9 dx9 tp9 tb9 tw9 t8 pk9 k1 k2 k3 k4 k5 k6 k7 k8 t1 t2 t3 u1 u2 u3 n9 acc9 led9 h9 g9 tk9 ps9 V9 pl9 t9 F9 N9 b9; (simp only [List.cons_append, List.append_assoc] at N9); (try dsimp only))))
  (k_with "+mid fin" => ((refine' mid_end ?F9q ?N9q ?mr9q ?ma9q ?mh9q ?mt9q ?V9q ?m19q ?m29q ?m39q ?hvp9q ?hvb9q ?hz9q ?hy9q ?ba9q ?bb9q ?bc9q ?hr9q ?hs9q ?hX9q ?h39q ?ht9q ?ab9q; (case F9q => with_reducible assumption); (case N9q => with_reducible assumption); (case mr9q => with_unfolding_all rfl); (case ma9q => with_unfolding_all rfl); (case mh9q => with_unfolding_all rfl); (case mt9q => with_unfolding_all rfl); (case V9q => with_reducible assumption); (case m19q => k_mem); (case m29q => k_mem); (case m39q => k_mem); (case hvp9q => with_reducible assumption); (case hvb9q => with_reducible assumption); (case hz9q => with_reducible assumption); (case hy9q => with_reducible assumption); (case ba9q => with_reducible assumption); (case bb9q => with_reducible assumption); (case bc9q => with_reducible assumption); (case hr9q => walk_at "con led"); (case hs9q => walk_at "con led"); (case hX9q => walk_at "con led"); (case h39q => k_mem); (case ht9q => with_reducible assumption); (case ab9q => (intro hb; solve_by_elim)))))
  (k_with "+TurnPost" => ((refine' turn_end ?F9q ?N9q ?mh9q ?mv9q ?V9q ?m19q ?m29q ?m39q ?hvp9q ?hvb9q ?hz9q ?hy9q ?ba9q ?bb9q ?bc9q ?hs9q ?hX9q ?h39q ?ht9q ?ab9q; (case F9q => with_reducible assumption); (case N9q => with_reducible assumption); (case mh9q => with_unfolding_all rfl); (case mv9q => with_unfolding_all rfl); (case V9q => with_reducible assumption); (case m19q => k_mem); (case m29q => k_mem); (case m39q => k_mem); (case hvp9q => with_reducible assumption); (case hvb9q => with_reducible assumption); (case hz9q => with_reducible assumption); (case hy9q => with_reducible assumption); (case ba9q => with_reducible assumption); (case bb9q => with_reducible assumption); (case bc9q => with_reducible assumption); (case hs9q => walk_at "con led"); (case hX9q => walk_at "con led"); (case h39q => k_mem); (case ht9q => with_reducible assumption); (case ab9q => (intro hb; solve_by_elim)))))
  (k_with "@k_enter" => ((refine' ConF.use (c_lminV _ ?hk9q ?e9q ?a09q ?b09q ?c09q ?hz9q ?hy9q ?hvp9q ?hvb9q) ?k19q ?k29q ?k39q ?k49q ?k59q ?kF9q ?kK9q ?kd9q ?ku9q ?ks9q ?_; walk_at "con base"; (case hk9q => exact rfl); (case ks9q => walk_at "con sub"); (case e9q => k_asm); (case hvp9q => k_asm); (case hvb9q => k_asm); (case hz9q => k_asm); (case hy9q => k_asm); (case a09q => k_asm); (case b09q => k_asm); (case c09q => k_asm); k_whole; intro r9 tl9 h9 tk9 p9; obtain ⟨D9, p8, q8, a1, a2, a3, m1, m2, m3⟩ := p9; intro c9 n9 F9 N9; (dsimp only [List.cons_append, List.nil_append] at N9); (try dsimp only))))
  (k_with "@k_enter" => ((refine' ConV.useVer0 (c_nminV _ ?e9q ?V9q ?hz9q) ?k19q ?k29q ?k39q ?kp9q ?kc9q ?ht9q ?k49q ?k59q ?kF9q ?kK9q ?kd9q ?ku9q ?ks9q ?_; (case e9q => k_asm); walk_at "con ver")))
  exact True.intro
set_option maxHeartbeats 4000000 in
theorem mid1 (w : World) : MidFor w 1 := by
  refine mid_of ?_
  unfold MidIn
  k_fill
  refine' lawp_elim ?h1 ?_
  case h1 => k_is
  intro HP
  intro p loose mean mg mb dp un gd h₀ L fa cd E dr os i n t td tt x v p' q' a b c zp yp tl rest X t1 t2 t3 nv n1 n2 vp vb m h g tk ps dx0 j1 j2 j3 j4 j5 j6 j7 j8 z1 z2 z3 tp0 tb0 tk0 t80 n0 Q C0 KX B T hv1 hv2 hv3 hv4 HE HE2 hdp hun hi hn V0 ba bb bc hz hy hvp hvb F N hc m1 m2 m3 hs hX ht ia0 ib0 fa9 fb9 fc9 i0 s0 a0 b0 c0 rl rs lA lB lC hQ
  obtain ⟨⟨A, B', C⟩, hABC⟩ : ∃ v, nMin a b c zp = v := ⟨_, rfl⟩
  clear lA lB lC
  obtain ⟨lA, lB, lC⟩ := nMin_lo hABC ba bb bc
  have fA := fit_of (i + 1) lA.1 lA.2 hi
  have fB := fit_of (i + 1) lB.1 lB.2 hi
  have fC := fit_big (i + 1) lC.1 lC.2 hi
  have hgt := nMin_gt hABC bc.1
  clear bb ba bc
  k_steps
  all_goals (refine hQ _ ?_; walk_at "mid fin")
end
theorem kw2_Z1 : True := by
  k_with_none
  (k_with "+lt room" => (first | exact lt_r0 (by assumption) (by decide) | exact lt_rc (by assumption) (by decide) | exact lt_rd (by assumption) (by decide) | exact lt_z0 (by assumption)))
  (k_with "@ktr_room" => (walk_at "lt room"))
  (k_with "@ktr_units" => (walk_at "lt room"))
  (k_with "@units_room" => (walk_at "lt room"))
  (k_with "@k_room" => (ktr_room))
  (k_with "+con binds" => (first | exact fm_nilE (by exact rfl) | exact fm_some (by exact rfl) (by walk_at "con binds")))
  (k_with "+con enter" => ((k_dflt (refine' code_keep ?k19q ?k29q ?k39q ?k49q ?k59q ?kA9q ?kF9q ?kK9q ?k69q ?k79q ?k89q ?k99q ?kB9q ?_ ?c29q ?c39q ?c49q ?c59q; (case kA9q => exact rfl); (case kF9q => assumption); (case kK9q => assumption); (case k49q => k_asm); (case k19q => k_asm); (case k29q => k_asm); (case k39q => k_asm); (case k59q => k_asm); (case k69q => k_is); (case k79q => k_is); (case k89q => ktr_room); (case k99q => (refine' binds_to ?b99q ?e99q; (case b99q => first | exact BindsTo.of_eq rfl | exact binds_K (by k_in) rfl (by k_is) rfl rfl rfl | fail "con enter: no rule for these arguments"); (case e99q => first | (walk_at "con binds") | (walk_say "con enter: binds left as they are"; exact rfl)))); (case c59q => decide); (case kB9q => exact locs rfl); (case c29q => exact rfl); (case c39q => exact rfl); (case c49q => exact rfl); k_whole; intro g' L' h' FG' F' N' B' X' T' G0'; (try dsimp only); (try k_fold)))))
  (k_with "+con sub" => (repeat (first | exact sub_nil | refine sub_cons (by k_mem) ?_)))
  (k_with "+ite" => ((k_here; k_openite; with_reducible refine ite_isFalse (bne_self_eq_false _) ?_; walk_say "PRUNED same")))
  (k_with "+con sides" => (((case k39q => k_asm); (case k29q => k_asm); (case k19q => k_asm); (case k49q => k_asm); (case k59q => k_asm); (case kF9q => first | exact rfl | assumption); (case kK9q => first | exact rfl | assumption); (case kd9q => ktr_room); (case ku9q => ktr_units); (case ks9q => walk_at "con sub"))))
  (k_with "+ne close" => (first | assumption | exact Ne.symm (by assumption) | exact Nat.ne_of_lt (by assumption) | exact Nat.ne_of_gt (by assumption) | exact Nat.ne_of_lt (Nat.lt_trans (by assumption) (by assumption)) | exact Nat.ne_of_gt (Nat.lt_trans (by assumption) (by assumption)) | (rename _ ∧ _ => hh9; obtain ⟨_, _⟩ := hh9; walk_at "ne close")))
  (k_with "@k_ne" => ((refine neN ?_; (try dsimp only); with_reducible walk_at "ne close")))
  exact True.intro
end
section
section
theorem kw1_Z2 : True := by
  (k_with "@k_lt clear" => (skip))
  (k_with "@k_mem" => (first | with_reducible assumption | with_reducible exact List.mem_cons_self | (with_reducible refine List.mem_cons_of_mem _ ?_; k_mem) | (with_reducible refine List.mem_append_left _ ?_; k_mem) | (with_reducible refine List.mem_append_right _ ?_; k_mem)))
  (k_with "+fit" => (first | with_reducible assumption | exact fit12 _ | exact fit3 _ | exact fit30 _))
  (k_with "@ktr_units" => (first | exact lt_r0 (by assumption) (by decide) | exact lt_rc (by assumption) (by decide) | exact lt_rd (by assumption) (by decide) | exact lt_z0 (by assumption) | (have hcL9 := cLine_is; ((try simp only [units_under_kw, units_in1, units_deeper, Around.mark_units, units_caller] at *); (try dsimp only [ktrTop, topA] at *); omega))))
  (k_with "@k_units" => (ktr_units))
  (k_with "@k_in" => (first | with_reducible assumption | (refine' Frag.In.keeps ?ki99q (Fr.keep (by with_reducible assumption)); case ki9 => with_reducible assumption)))
  (k_with "+ite" => ((k_closed; with_reducible (first | refine ite_pos (by k_dflt decide) ?_ | refine ite_neg (by k_dflt decide) ?_))))
  (k_with "+binaryOp Mod int int" => ((k_here; (with_reducible show wpAny _ _ (binaryOp Operator.Mod (Value.int _ _) (Value.int 10 _)) _ _ _); k_dflt (refine mod_deed (by with_reducible assumption) ?_))))
  (k_with "+con led" => ((first | with_reducible assumption | ((repeat (refine sub_cons ?_ ?_; k_mem)); (first | with_reducible assumption | (intro q9 hq9; (repeat (first | exact hq9 | exact mem_of (by with_reducible assumption) hq9 | exact List.mem_append_left _ hq9 | exact List.mem_append_left _ (mem_of (by with_reducible assumption) hq9) | exact List.mem_append_left _ (List.mem_append_right _ hq9) | exact List.mem_append_left _ (List.mem_append_left _ (mem_of (by with_reducible assumption) hq9)) | refine List.mem_append_right _ ?_ | refine List.mem_cons_of_mem _ ?_))))))))
  (k_with "+con pick" => ((first | with_reducible exact Pick.here | exact Pick.there (by walk_at "con pick"))))
  (k_with "+con cls" => ((repeat (first | with_reducible assumption | (refine List.forall_mem_cons.mpr ⟨(fun e9 => nomatch e9), ?_⟩) | exact List.forall_mem_nil _ | (refine List.forall_mem_append.mpr ⟨?_, ?_⟩)))))
  (k_with "+con kp" => ((walk_at "con base"; (case kp9q => walk_at "con pick"); (case kc9q => walk_at "con cls"); (case ht9q => k_asm))))
  (k_with "+con ne" => ((k_whole; intro h9 g9 tk9 ps9 t9 F9 N9 b9; (try dsimp only [PySem.W.CmpBack]); (try dsimp only))))
  (k_with "+con base" => (((case k39q => k_asm); (case k29q => k_asm); (case k19q => k_asm); (case k49q => k_asm); (case k59q => k_asm); (case kF9q => first | exact rfl | assumption); (case kK9q => first | exact rfl | assumption); (case kd9q => ktr_room); (case ku9q => ktr_units))))
  (k_with "@k_enter" => ((refine' Con.useT (c_text0 _ _ _ _ ?ha9q ?hb9q ?hc9q ?hz9q ?hy9q ?hvp9q ?hvb9q) ?k19q ?k29q ?k39q ?k49q ?k59q ?kF9q ?kK9q ?kd9q ?ku9q ?ks9q ?_; walk_at "con base"; (case ks9q => walk_at "con sub"); (case hvp9q => k_asm); (case hvb9q => k_asm); (case hz9q => k_asm); (case hy9q => k_asm); (case ha9q => walk_at "fit"); (case hb9q => walk_at "fit"); (case hc9q => walk_at "fit"); k_whole; intro t9 h9 tk9 F9 N9; (try dsimp only [PySem.W.StrBack]); (try dsimp only))))
  (k_with "@k_enter" => ((refine' Con.useT (v_str _ ?V9q ?ha9q ?hb9q ?hc9q ?hz9q ?hy9q) ?k19q ?k29q ?k39q ?k49q ?k59q ?kF9q ?kK9q ?kd9q ?ku9q ?ks9q ?_; walk_at "con base"; (case V9q => k_asm); (case ks9q => walk_at "con led"); (case hz9q => k_asm); (case hy9q => k_asm); (case ha9q => walk_at "fit"); (case hb9q => walk_at "fit"); (case hc9q => walk_at "fit"); k_whole; intro t9 h9 tk9 F9 N9; (try dsimp only [PySem.W.StrBack]); (try dsimp only))))
  (k_with "@k_enter" => ((refine' Con.use0 (v_gtV _ ?V19q ?V29q ?rel9q ?hb9q) ?k19q ?k29q ?k39q ?k49q ?k59q ?kF9q ?kK9q ?kd9q ?ku9q (sub_two ?ks19q ?ks29q) ?_; walk_at "con base"; (case V19q => k_asm); (case V29q => k_asm); (case rel9q => k_asm); (case hb9q => k_asm); (case ks19q => walk_at "con led"); (case ks29q => walk_at "con led"); k_whole; intro h9 tk9 F9 N9; (try dsimp only [PySem.W.CmpBack]); (try dsimp only))))
  (k_with "@k_enter" => ((refine' Con.use0 (v_ltV _ ?V19q ?V29q ?rel9q ?hb9q) ?k19q ?k29q ?k39q ?k49q ?k59q ?kF9q ?kK9q ?kd9q ?ku9q (sub_two ?ks19q ?ks29q) ?_; walk_at "con base"; (case V19q => k_asm); (case V29q => k_asm); (case rel9q => k_asm); (case hb9q => k_asm); (case ks19q => walk_at "con led"); (case ks29q => walk_at "con led"); k_whole; intro h9 tk9 F9 N9; (try dsimp only [PySem.W.CmpBack]); (try dsimp only))))
  (k_with "+con vp" => (((case V9q => k_asm); (case hz9q => k_asm); walk_at "con base"; (case kp9q => walk_at "con pick"); (case kc9q => walk_at "con cls"); (case ht9q => k_asm); (case ks9q => walk_at "con led"); k_whole; intro x9 tl9 dx9 k1 k2 k3 k4 k5 k6 k7 k8 t1 t2 t3 tp9 tb9 tw9 t8 n9 h9 g9 tk9 ps9 V9 ia9 ib9 pl9 t9 F9 N9 b9; (try dsimp only))))
  (k_with "+con ver" => (((case V9q => k_asm); (case hz9q => k_asm); walk_at "con base"; (case kp9q => walk_at "con pick"); (case kc9q => walk_at "con cls"); (case ht9q => k_asm); (case ks9q => walk_at "con led"); k_whole; intro x9 dx9 tp9 tb9 tw9 t8 pk9 k1 k2 k3 k4 k5 k6 k7 k8 t1 t2 t3 u1 u2 u3 n9 acc9 led9 h9 g9 tk9 ps9 V9 pl9 t9 F9 N9 b9; (simp only [List.cons_append, List.append_assoc] at N9); (try dsimp only))))
  (k_with "+mid fin" => ((refine' mid_end ?F9q ?N9q ?mr9q ?ma9q ?mh9q ?mt9q ?V9q ?m19q ?m29q ?m39q ?hvp9q ?hvb9q ?hz9q ?hy9q ?ba9q ?bb9q ?bc9q ?hr9q ?hs9q ?hX9q ?h39q ?ht9q ?ab9q; (case F9q => with_reducible assumption); (case N9q => with_reducible assumption); (case mr9q => with_unfolding_all rfl); (case ma9q => with_unfolding_all rfl); (case mh9q => with_unfolding_all rfl); (case mt9q => with_unfolding_all rfl); (case V9q => with_reducible assumption); (case m19q => k_mem); (case m29q => k_mem); (case m39q => k_mem); (case hvp9q => with_reducible assumption); (case hvb9q => with_reducible assumption); (case hz9q => with_reducible assumption); (case hy9q => with_reducible assumption); (case ba9q => with_reducible assumption); (case bb9q => with_reducible assumption); (case bc9q => with_reducible assumption); (case hr9q => walk_at "con led"); (case hs9q => walk_at "con led"); (case hX9q => walk_at "con led"); (case h39q => k_mem); (case ht9q => with_reducible assumption); (case ab9q => (intro hb; solve_by_elim)))))
  (k_with "+TurnPost" => ((refine' turn_end ?F9q ?N9q ?mh9q ?mv9q ?V9q ?m19q ?m29q ?m39q ?hvp9q ?hvb9q ?hz9q ?hy9q ?ba9q ?bb9q ?bc9q ?hs9q ?hX9q ?h39q ?ht9q ?ab9q; (case F9q => with_reducible assumption); (case N9q => with_reducible assumption); (case mh9q => with_unfolding_all rfl); (case mv9q => with_unfolding_all rfl); (case V9q => with_reducible assumption); (case m19q => k_mem); (case m29q => k_mem); (case m39q => k_mem); (case hvp9q => with_reducible assumption); (case hvb9q => with_reducible assumption); (case hz9q => with_reducible assumption); (case hy9q => with_reducible assumption); (case ba9q => with_reducible assumption); (case bb9q => with_reducible assumption); (case bc9q => with_reducible assumption); (case hs9q => walk_at "con led"); (case hX9q => walk_at "con led"); (case h39q => k_mem); (case ht9q => with_reducible assumption); (case ab9q => (intro hb; solve_by_elim)))))
  (k_with "@k_enter" => ((refine' ConF.use (c_lpatV _ ?hk9q ?e9q ?a09q ?b09q ?c09q ?hz9q ?hy9q ?hvp9q ?hvb9q) ?k19q ?k29q ?k39q ?k49q ?k59q ?kF9q ?kK9q ?kd9q ?ku9q ?ks9q ?_; walk_at "con base"; (case hk9q => exact rfl); (case ks9q => walk_at "con sub"); (case e9q => k_asm); (case hvp9q => k_asm); (case hvb9q => k_asm); (case hz9q => k_asm); (case hy9q => k_asm); (case a09q => k_asm); (case b09q => k_asm); (case c09q => k_asm); k_whole; intro r9 tl9 h9 tk9 p9; obtain ⟨D9, p8, q8, a1, a2, a3, m1, m2, m3⟩ := p9; intro c9 n9 F9 N9; (dsimp only [List.cons_append, List.nil_append] at N9); (try dsimp only))))
  (k_with "@k_enter" => ((refine' ConV.useVer0 (c_npatV _ ?e9q ?V9q ?hz9q) ?k19q ?k29q ?k39q ?kp9q ?kc9q ?ht9q ?k49q ?k59q ?kF9q ?kK9q ?kd9q ?ku9q ?ks9q ?_; (case e9q => k_asm); walk_at "con ver")))
  exact True.intro
set_option maxHeartbeats 4000000 in
theorem mid2 (w : World) : MidFor w 2 := by
  refine mid_of ?_
  unfold MidIn
  k_fill
  refine' lawp_elim ?h1 ?_
  case h1 => k_is
  intro HP
  intro p loose mean mg mb dp un gd h₀ L fa cd E dr os i n t td tt x v p' q' a b c zp yp tl rest X t1 t2 t3 nv n1 n2 vp vb m h g tk ps dx0 j1 j2 j3 j4 j5 j6 j7 j8 z1 z2 z3 tp0 tb0 tk0 t80 n0 Q C0 KX B T hv1 hv2 hv3 hv4 HE HE2 hdp hun hi hn V0 ba bb bc hz hy hvp hvb F N hc m1 m2 m3 hs hX ht ia0 ib0 fa9 fb9 fc9 i0 s0 a0 b0 c0 rl rs lA lB lC hQ
  obtain ⟨⟨A, B', C⟩, hABC⟩ : ∃ v, nPat a b c zp = v := ⟨_, rfl⟩
  clear lA lB lC
  obtain ⟨lA, lB, lC⟩ := nPat_lo hABC ba bb bc
  have fA := fit_of (i + 1) lA.1 lA.2 hi
  have fB := fit_of (i + 1) lB.1 lB.2 hi
  have fC := fit_big (i + 1) lC.1 lC.2 hi
  have hgt := nPat_gt hABC bc.1
  clear bb ba bc
  k_steps
  all_goals (refine hQ _ ?_; walk_at "mid fin")
end
theorem kw2_Z2 : True := by
  k_with_none
  (k_with "+lt room" => (first | exact lt_r0 (by assumption) (by decide) | exact lt_rc (by assumption) (by decide) | exact lt_rd (by assumption) (by decide) | exact lt_z0 (by assumption)))
  (k_with "@ktr_room" => (walk_at "lt room"))
  (k_with "@ktr_units" => (walk_at "lt room"))
  (k_with "@units_room" => (walk_at "lt room"))
  (k_with "@k_room" => (ktr_room))
  (k_with "+con binds" => (first | exact fm_nilE (by exact rfl) | exact fm_some (by exact rfl) (by walk_at "con binds")))
  (k_with "+con enter" => ((k_dflt (refine' code_keep ?k19q ?k29q ?k39q ?k49q ?k59q ?kA9q ?kF9q ?kK9q ?k69q ?k79q ?k89q ?k99q ?kB9q ?_ ?c29q ?c39q ?c49q ?c59q; (case kA9q => exact rfl); (case kF9q => assumption); (case kK9q => assumption); (case k49q => k_asm); (case k19q => k_asm); (case k29q => k_asm); (case k39q => k_asm); (case k59q => k_asm); (case k69q => k_is); (case k79q => k_is); (case k89q => ktr_room); (case k99q => (refine' binds_to ?b99q ?e99q; (case b99q => first | exact BindsTo.of_eq rfl | exact binds_K (by k_in) rfl (by k_is) rfl rfl rfl | fail "con enter: no rule for these arguments"); (case e99q => first | (walk_at "con binds") | (walk_say "con enter: binds left as they are"; exact rfl)))); (case c59q => decide); (case kB9q => exact locs rfl); (case c29q => exact rfl); (case c39q => exact rfl); (case c49q => exact rfl); k_whole; intro g' L' h' FG' F' N' B' X' T' G0'; (try dsimp only); (try k_fold)))))
  (k_with "+con sub" => (repeat (first | exact sub_nil | refine sub_cons (by k_mem) ?_)))
  (k_with "+ite" => ((k_here; k_openite; with_reducible refine ite_isFalse (bne_self_eq_false _) ?_; walk_say "PRUNED same")))
  (k_with "+con sides" => (((case k39q => k_asm); (case k29q => k_asm); (case k19q => k_asm); (case k49q => k_asm); (case k59q => k_asm); (case kF9q => first | exact rfl | assumption); (case kK9q => first | exact rfl | assumption); (case kd9q => ktr_room); (case ku9q => ktr_units); (case ks9q => walk_at "con sub"))))
  (k_with "+ne close" => (first | assumption | exact Ne.symm (by assumption) | exact Nat.ne_of_lt (by assumption) | exact Nat.ne_of_gt (by assumption) | exact Nat.ne_of_lt (Nat.lt_trans (by assumption) (by assumption)) | exact Nat.ne_of_gt (Nat.lt_trans (by assumption) (by assumption)) | (rename _ ∧ _ => hh9; obtain ⟨_, _⟩ := hh9; walk_at "ne close")))
  (k_with "@k_ne" => ((refine neN ?_; (try dsimp only); with_reducible walk_at "ne close")))
  exact True.intro
end
section
section
theorem kw1_Z3 : True := by
  (k_with "@k_lt clear" => (skip))
  (k_with "@k_mem" => (first | with_reducible assumption | with_reducible exact List.mem_cons_self | (with_reducible refine List.mem_cons_of_mem _ ?_; k_mem) | (with_reducible refine List.mem_append_left _ ?_; k_mem) | (with_reducible refine List.mem_append_right _ ?_; k_mem)))
  (k_with "+fit" => (first | with_reducible assumption | exact fit12 _ | exact fit3 _ | exact fit30 _))
  (k_with "@ktr_units" => (first | exact lt_r0 (by assumption) (by decide) | exact lt_rc (by assumption) (by decide) | exact lt_rd (by assumption) (by decide) | exact lt_z0 (by assumption) | (have hcL9 := cLine_is; ((try simp only [units_under_kw, units_in1, units_deeper, Around.mark_units, units_caller] at *); (try dsimp only [ktrTop, topA] at *); omega))))
  (k_with "@k_units" => (ktr_units))
  (k_with "@k_in" => (first | with_reducible assumption | (refine' Frag.In.keeps ?ki99q (Fr.keep (by with_reducible assumption)); case ki9 => with_reducible assumption)))
  (k_with "+ite" => ((k_closed; with_reducible (first | refine ite_pos (by k_dflt decide) ?_ | refine ite_neg (by k_dflt decide) ?_))))
  (k_with "+binaryOp Mod int int" => ((k_here; (with_reducible show wpAny _ _ (binaryOp Operator.Mod (Value.int _ _) (Value.int 10 _)) _ _ _); k_dflt (refine mod_deed (by with_reducible assumption) ?_))))
  (k_with "+con led" => ((first | with_reducible assumption | ((repeat (refine sub_cons ?_ ?_; k_mem)); (first | with_reducible assumption | (intro q9 hq9; (repeat (first | exact hq9 | exact mem_of (by with_reducible assumption) hq9 | exact List.mem_append_left _ hq9 | exact List.mem_append_left _ (mem_of (by with_reducible assumption) hq9) | exact List.mem_append_left _ (List.mem_append_right _ hq9) | exact List.mem_append_left _ (List.mem_append_left _ (mem_of (by with_reducible assumption) hq9)) | refine List.mem_append_right _ ?_ | refine List.mem_cons_of_mem _ ?_))))))))
  (k_with "+con pick" => ((first | with_reducible exact Pick.here | exact Pick.there (by walk_at "con pick"))))
  (k_with "+con cls" => ((repeat (first | with_reducible assumption | (refine List.forall_mem_cons.mpr ⟨(fun e9 => nomatch e9), ?_⟩) | exact List.forall_mem_nil _ | (refine List.forall_mem_append.mpr ⟨?_, ?_⟩)))))
  (k_with "+con kp" => ((walk_at "con base"; (case kp9q => walk_at "con pick"); (case kc9q => walk_at "con cls"); (case ht9q => k_asm))))
  (k_with "+con ne" => ((k_whole; intro h9 g9 tk9 ps9 t9 F9 N9 b9; (try dsimp only [PySem.W.CmpBack]); (try dsimp only))))
  (k_with "+con base" => (((case k39q => k_asm); (case k29q => k_asm); (case k19q => k_asm); (case k49q => k_asm); (case k59q => k_asm); (case kF9q => first | exact rfl | assumption); (case kK9q => first | exact rfl | assumption); (case kd9q => ktr_room); (case ku9q => ktr_units))))
  (k_with "@k_enter" => ((refine' Con.useT (c_text0 _ _ _ _ ?ha9q ?hb9q ?hc9q ?hz9q ?hy9q ?hvp9q ?hvb9q) ?k19q ?k29q ?k39q ?k49q ?k59q ?kF9q ?kK9q ?kd9q ?ku9q ?ks9q ?_; walk_at "con base"; (case ks9q => walk_at "con sub"); (case hvp9q => k_asm); (case hvb9q => k_asm); (case hz9q => k_asm); (case hy9q => k_asm); (case ha9q => walk_at "fit"); (case hb9q => walk_at "fit"); (case hc9q => walk_at "fit"); k_whole; intro t9 h9 tk9 F9 N9; (try dsimp only [PySem.W.StrBack]); (try dsimp only))))
  (k_with "@k_enter" => ((refine' Con.useT (v_str _ ?V9q ?ha9q ?hb9q ?hc9q ?hz9q ?hy9q) ?k19q ?k29q ?k39q ?k49q ?k59q ?kF9q ?kK9q ?kd9q ?ku9q ?ks9q ?_; walk_at "con base"; (case V9q => k_asm); (case ks9q => walk_at "con led"); (case hz9q => k_asm); (case hy9q => k_asm); (case ha9q => walk_at "fit"); (case hb9q => walk_at "fit"); (case hc9q => walk_at "fit"); k_whole; intro t9 h9 tk9 F9 N9; (try dsimp only [PySem.W.StrBack]); (try dsimp only))))
  (k_with "@k_enter" => ((refine' Con.use0 (v_gtV _ ?V19q ?V29q ?rel9q ?hb9q) ?k19q ?k29q ?k39q ?k49q ?k59q ?kF9q ?kK9q ?kd9q ?ku9q (sub_two ?ks19q ?ks29q) ?_; walk_at "con base"; (case V19q => k_asm); (case V29q => k_asm); (case rel9q => k_asm); (case hb9q => k_asm); (case ks19q => walk_at "con led"); (case ks29q => walk_at "con led"); k_whole; intro h9 tk9 F9 N9; (try dsimp only [PySem.W.CmpBack]); (try dsimp only))))
  (k_with "@k_enter" => ((refine' Con.use0 (v_ltV _ ?V19q ?V29q ?rel9q ?hb9q) ?k19q ?k29q ?k39q ?k49q ?k59q ?kF9q ?kK9q ?kd9q ?ku9q (sub_two ?ks19q ?ks29q) ?_; walk_at "con base"; (case V19q => k_asm); (case V29q => k_asm); (case rel9q => k_asm); (case hb9q => k_asm); (case ks19q => walk_at "con led"); (case ks29q => walk_at "con led"); k_whole; intro h9 tk9 F9 N9; (try dsimp only [PySem.W.CmpBack]); (try dsimp only))))
  (k_with "+con vp" => (((case V9q => k_asm); (case hz9q => k_asm); walk_at "con base"; (case kp9q => walk_at "con pick"); (case kc9q => walk_at "con cls"); (case ht9q => k_asm); (case ks9q => walk_at "con led"); k_whole; intro x9 tl9 dx9 k1 k2 k3 k4 k5 k6 k7 k8 t1 t2 t3 tp9 tb9 tw9 t8 n9 h9 g9 tk9 ps9 V9 ia9 ib9 pl9 t9 F9 N9 b9; (try dsimp only))))
  (k_with "+con ver" => (((case V9q => k_asm); (case hz9q => k_asm); walk_at "con base"; (case kp9q => walk_at "con pick"); (case kc9q => walk_at "con cls"); (case ht9q => k_asm); (case ks9q => walk_at "con led"); k_whole; intro x9 dx9 tp9 tb9 tw9 t8 pk9 k1 k2 k3 k4 k5 k6 k7 k8 t1 t2 t3 u1 u2 u3 n9 acc9 led9 h9 g9 tk9 ps9 V9 pl9 t9 F9 N9 b9; (simp only [List.cons_append, List.append_assoc] at N9); (try dsimp only))))
  (k_with "+mid fin" => ((refine' mid_end ?F9q ?N9q ?mr9q ?ma9q ?mh9q ?mt9q ?V9q ?m19q ?m29q ?m39q ?hvp9q ?hvb9q ?hz9q ?hy9q ?ba9q ?bb9q ?bc9q ?hr9q ?hs9q ?hX9q ?h39q ?ht9q ?ab9q; (case F9q => with_reducible assumption); (case N9q => with_reducible assumption); (case mr9q => with_unfolding_all rfl); (case ma9q => with_unfolding_all rfl); (case mh9q => with_unfolding_all rfl); (case mt9q => with_unfolding_all rfl); (case V9q => with_reducible assumption); (case m19q => k_mem); (case m29q => k_mem); (case m39q => k_mem); (case hvp9q => with_reducible assumption); (case hvb9q => with_reducible assumption); (case hz9q => with_reducible assumption); (case hy9q => with_reducible assumption); (case ba9q => with_reducible assumption); (case bb9q => with_reducible assumption); (case bc9q => with_reducible assumption); (case hr9q => walk_at "con led"); (case hs9q => walk_at "con led"); (case hX9q => walk_at "con led"); (case h39q => k_mem); (case ht9q => with_reducible assumption); (case ab9q => (intro hb; solve_by_elim)))))
  (k_with "+TurnPost" => ((refine' turn_end ?F9q ?N9q ?mh9q ?mv9q ?V9q ?m19q ?m29q ?m39q ?hvp9q ?hvb9q ?hz9q ?hy9q ?ba9q ?bb9q ?bc9q ?hs9q ?hX9q ?h39q ?ht9q ?ab9q; (case F9q => with_reducible assumption); (case N9q => with_reducible assumption); (case mh9q => with_unfolding_all rfl); (case mv9q => with_unfolding_all rfl); (case V9q => with_reducible assumption); (case m19q => k_mem); (case m29q => k_mem); (case m39q => k_mem); (case hvp9q => with_reducible assumption); (case hvb9q => with_reducible assumption); (case hz9q => with_reducible assumption); (case hy9q => with_reducible assumption); (case ba9q => with_reducible assumption); (case bb9q => with_reducible assumption); (case bc9q => with_reducible assumption); (case hs9q => walk_at "con led"); (case hX9q => walk_at "con led"); (case h39q => k_mem); (case ht9q => with_reducible assumption); (case ab9q => (intro hb; solve_by_elim)))))
  (k_with "+execs cons" => ((k_here; (with_reducible show wpAny _ _ (execs (Stmt.Assign [PySem.Expr.Name (Str.ofString "level") _] _ _ :: _) _) _ _ _); with_reducible (refine' disp _ _ _ _ _ _ _ _ _ _ _ _ _ _ _ _ HP _ _ _ _ _ _ _ _ _ _ _ _ _ _ _ _ _ _ _ _ _ _ _ _ _ _ _ _ _ _ _ _ _ _ _ _ _ _ _ _ C0 hvp hvb ?h39q ?h89q ?F9q ?md9q ?mv9q ?N9q ?hc9q ?m19q ?m29q ?m39q ?_; (case F9q => k_asm); (case N9q => k_asm); (case md9q => with_unfolding_all rfl); (case mv9q => with_unfolding_all rfl); (case h39q => decide); (case h89q => decide); (case hc9q => k_asm); (case m19q => k_mem); (case m29q => k_mem); (case m39q => k_mem)); intro h9 tk9 rest9 z9 tz9 va9 A9 B9 C9 zr9 yr9 p9 q9 u1 u2 u3 k1 k2 k3 wp9 wb9 cut9; (revert z9 A9 B9 C9 zr9 yr9); (refine cut3 ?_); intro F9 N9 hr9 hc9 n1' n2' n3' w1' w2'; (have hs9 := fun q hq => hr9 q (hs q hq)); (have hX9 := fun q hq => hr9 q (hX q hq)); (have ia9 := hr9 _ ia0); (have ib9 := hr9 _ ib0); (have va9' := hr9 _ m1); (have vp9' := hr9 _ m2); (have vb9' := hr9 _ m3); (try dsimp only))))
  (k_with "@k_enter" => ((refine' ConV.use0P (c_tr_build _ _ _ _ _ ?V9q) ?k19q ?k29q ?k39q ?kp9q ?kc9q ?ht9q ?k49q ?k59q ?kF9q ?kK9q ?kd9q ?ku9q ?ks9q ?_; (case V9q => k_asm); walk_at "con kp"; (case ks9q => walk_at "con led"); walk_at "con ne")))
  exact True.intro
set_option maxHeartbeats 4000000 in
theorem mid3 (w : World) : MidFor w 3 := by
  refine mid_of ?_
  unfold MidIn
  k_fill
  refine' lawp_elim ?h1 ?_
  case h1 => k_is
  intro HP
  intro p loose mean mg mb dp un gd h₀ L fa cd E dr os i n t td tt x v p' q' a b c zp yp tl rest X t1 t2 t3 nv n1 n2 vp vb m h g tk ps dx0 j1 j2 j3 j4 j5 j6 j7 j8 z1 z2 z3 tp0 tb0 tk0 t80 n0 Q C0 KX B T hv1 hv2 hv3 hv4 HE HE2 hdp hun hi hn V0 ba bb bc hz hy hvp hvb F N hc m1 m2 m3 hs hX ht ia0 ib0 fa9 fb9 fc9 i0 s0 a0 b0 c0 rl rs lA lB lC hQ
  clear ba bb bc
  k_steps
  all_goals (refine hQ _ ?_; walk_at "mid fin")
end
theorem kw2_Z3 : True := by
  k_with_none
  (k_with "+lt room" => (first | exact lt_r0 (by assumption) (by decide) | exact lt_rc (by assumption) (by decide) | exact lt_rd (by assumption) (by decide) | exact lt_z0 (by assumption)))
  (k_with "@ktr_room" => (walk_at "lt room"))
  (k_with "@ktr_units" => (walk_at "lt room"))
  (k_with "@units_room" => (walk_at "lt room"))
  (k_with "@k_room" => (ktr_room))
  (k_with "+con binds" => (first | exact fm_nilE (by exact rfl) | exact fm_some (by exact rfl) (by walk_at "con binds")))
  (k_with "+con enter" => ((k_dflt (refine' code_keep ?k19q ?k29q ?k39q ?k49q ?k59q ?kA9q ?kF9q ?kK9q ?k69q ?k79q ?k89q ?k99q ?kB9q ?_ ?c29q ?c39q ?c49q ?c59q; (case kA9q => exact rfl); (case kF9q => assumption); (case kK9q => assumption); (case k49q => k_asm); (case k19q => k_asm); (case k29q => k_asm); (case k39q => k_asm); (case k59q => k_asm); (case k69q => k_is); (case k79q => k_is); (case k89q => ktr_room); (case k99q => (refine' binds_to ?b99q ?e99q; (case b99q => first | exact BindsTo.of_eq rfl | exact binds_K (by k_in) rfl (by k_is) rfl rfl rfl | fail "con enter: no rule for these arguments"); (case e99q => first | (walk_at "con binds") | (walk_say "con enter: binds left as they are"; exact rfl)))); (case c59q => decide); (case kB9q => exact locs rfl); (case c29q => exact rfl); (case c39q => exact rfl); (case c49q => exact rfl); k_whole; intro g' L' h' FG' F' N' B' X' T' G0'; (try dsimp only); (try k_fold)))))
  (k_with "+con sub" => (repeat (first | exact sub_nil | refine sub_cons (by k_mem) ?_)))
  (k_with "+ite" => ((k_here; k_openite; with_reducible refine ite_isFalse (bne_self_eq_false _) ?_; walk_say "PRUNED same")))
  (k_with "+con sides" => (((case k39q => k_asm); (case k29q => k_asm); (case k19q => k_asm); (case k49q => k_asm); (case k59q => k_asm); (case kF9q => first | exact rfl | assumption); (case kK9q => first | exact rfl | assumption); (case kd9q => ktr_room); (case ku9q => ktr_units); (case ks9q => walk_at "con sub"))))
  (k_with "+ne close" => (first | assumption | exact Ne.symm (by assumption) | exact Nat.ne_of_lt (by assumption) | exact Nat.ne_of_gt (by assumption) | exact Nat.ne_of_lt (Nat.lt_trans (by assumption) (by assumption)) | exact Nat.ne_of_gt (Nat.lt_trans (by assumption) (by assumption)) | (rename _ ∧ _ => hh9; obtain ⟨_, _⟩ := hh9; walk_at "ne close")))
  (k_with "@k_ne" => ((refine neN ?_; (try dsimp only); with_reducible walk_at "ne close")))
  exact True.intro
end
section
section
theorem kw1_Z4 : True := by
  (k_with "@k_lt clear" => (skip))
  (k_with "@k_mem" => (first | with_reducible assumption | with_reducible exact List.mem_cons_self | (with_reducible refine List.mem_cons_of_mem _ ?_; k_mem) | (with_reducible refine List.mem_append_left _ ?_; k_mem) | (with_reducible refine List.mem_append_right _ ?_; k_mem)))
  (k_with "+fit" => (first | with_reducible assumption | exact fit12 _ | exact fit3 _ | exact fit30 _))
  (k_with "@ktr_units" => (first | exact lt_r0 (by assumption) (by decide) | exact lt_rc (by assumption) (by decide) | exact lt_rd (by assumption) (by decide) | exact lt_z0 (by assumption) | (have hcL9 := cLine_is; ((try simp only [units_under_kw, units_in1, units_deeper, Around.mark_units, units_caller] at *); (try dsimp only [ktrTop, topA] at *); omega))))
  (k_with "@k_units" => (ktr_units))
  (k_with "@k_in" => (first | with_reducible assumption | (refine' Frag.In.keeps ?ki99q (Fr.keep (by with_reducible assumption)); case ki9 => with_reducible assumption)))
  (k_with "+ite" => ((k_closed; with_reducible (first | refine ite_pos (by k_dflt decide) ?_ | refine ite_neg (by k_dflt decide) ?_))))
  (k_with "+binaryOp Mod int int" => ((k_here; (with_reducible show wpAny _ _ (binaryOp Operator.Mod (Value.int _ _) (Value.int 10 _)) _ _ _); k_dflt (refine mod_deed (by with_reducible assumption) ?_))))
  (k_with "+con led" => ((first | with_reducible assumption | ((repeat (refine sub_cons ?_ ?_; k_mem)); (first | with_reducible assumption | (intro q9 hq9; (repeat (first | exact hq9 | exact mem_of (by with_reducible assumption) hq9 | exact List.mem_append_left _ hq9 | exact List.mem_append_left _ (mem_of (by with_reducible assumption) hq9) | exact List.mem_append_left _ (List.mem_append_right _ hq9) | exact List.mem_append_left _ (List.mem_append_left _ (mem_of (by with_reducible assumption) hq9)) | refine List.mem_append_right _ ?_ | refine List.mem_cons_of_mem _ ?_))))))))
  (k_with "+con pick" => ((first | with_reducible exact Pick.here | exact Pick.there (by walk_at "con pick"))))
  (k_with "+con cls" => ((repeat (first | with_reducible assumption | (refine List.forall_mem_cons.mpr ⟨(fun e9 => nomatch e9), ?_⟩) | exact List.forall_mem_nil _ | (refine List.forall_mem_append.mpr ⟨?_, ?_⟩)))))
  (k_with "+con kp" => ((walk_at "con base"; (case kp9q => walk_at "con pick"); (case kc9q => walk_at "con cls"); (case ht9q => k_asm))))
  (k_with "+con ne" => ((k_whole; intro h9 g9 tk9 ps9 t9 F9 N9 b9; (try dsimp only [PySem.W.CmpBack]); (try dsimp only))))
  (k_with "+con base" => (((case k39q => k_asm); (case k29q => k_asm); (case k19q => k_asm); (case k49q => k_asm); (case k59q => k_asm); (case kF9q => first | exact rfl | assumption); (case kK9q => first | exact rfl | assumption); (case kd9q => ktr_room); (case ku9q => ktr_units))))
  (k_with "@k_enter" => ((refine' Con.useT (c_text0 _ _ _ _ ?ha9q ?hb9q ?hc9q ?hz9q ?hy9q ?hvp9q ?hvb9q) ?k19q ?k29q ?k39q ?k49q ?k59q ?kF9q ?kK9q ?kd9q ?ku9q ?ks9q ?_; walk_at "con base"; (case ks9q => walk_at "con sub"); (case hvp9q => k_asm); (case hvb9q => k_asm); (case hz9q => k_asm); (case hy9q => k_asm); (case ha9q => walk_at "fit"); (case hb9q => walk_at "fit"); (case hc9q => walk_at "fit"); k_whole; intro t9 h9 tk9 F9 N9; (try dsimp only [PySem.W.StrBack]); (try dsimp only))))
  (k_with "@k_enter" => ((refine' Con.useT (v_str _ ?V9q ?ha9q ?hb9q ?hc9q ?hz9q ?hy9q) ?k19q ?k29q ?k39q ?k49q ?k59q ?kF9q ?kK9q ?kd9q ?ku9q ?ks9q ?_; walk_at "con base"; (case V9q => k_asm); (case ks9q => walk_at "con led"); (case hz9q => k_asm); (case hy9q => k_asm); (case ha9q => walk_at "fit"); (case hb9q => walk_at "fit"); (case hc9q => walk_at "fit"); k_whole; intro t9 h9 tk9 F9 N9; (try dsimp only [PySem.W.StrBack]); (try dsimp only))))
  (k_with "@k_enter" => ((refine' Con.use0 (v_gtV _ ?V19q ?V29q ?rel9q ?hb9q) ?k19q ?k29q ?k39q ?k49q ?k59q ?kF9q ?kK9q ?kd9q ?ku9q (sub_two ?ks19q ?ks29q) ?_; walk_at "con base"; (case V19q => k_asm); (case V29q => k_asm); (case rel9q => k_asm); (case hb9q => k_asm); (case ks19q => walk_at "con led"); (case ks29q => walk_at "con led"); k_whole; intro h9 tk9 F9 N9; (try dsimp only [PySem.W.CmpBack]); (try dsimp only))))
  (k_with "@k_enter" => ((refine' Con.use0 (v_ltV _ ?V19q ?V29q ?rel9q ?hb9q) ?k19q ?k29q ?k39q ?k49q ?k59q ?kF9q ?kK9q ?kd9q ?ku9q (sub_two ?ks19q ?ks29q) ?_; walk_at "con base"; (case V19q => k_asm); (case V29q => k_asm); (case rel9q => k_asm); (case hb9q => k_asm); (case ks19q => walk_at "con led"); (case ks29q => walk_at "con led"); k_whole; intro h9 tk9 F9 N9; (try dsimp only [PySem.W.CmpBack]); (try dsimp only))))
  (k_with "+con vp" => (((case V9q => k_asm); (case hz9q => k_asm); walk_at "con base"; (case kp9q => walk_at "con pick"); (case kc9q => walk_at "con cls"); (case ht9q => k_asm); (case ks9q => walk_at "con led"); k_whole; intro x9 tl9 dx9 k1 k2 k3 k4 k5 k6 k7 k8 t1 t2 t3 tp9 tb9 tw9 t8 n9 h9 g9 tk9 ps9 V9 ia9 ib9 pl9 t9 F9 N9 b9; (try dsimp only))))
  (k_with "+con ver" => (((case V9q => k_asm); (case hz9q => k_asm); walk_at "con base"; (case kp9q => walk_at "con pick"); (case kc9q => walk_at "con cls"); (case ht9q => k_asm); (case ks9q => walk_at "con led"); k_whole; intro x9 dx9 tp9 tb9 tw9 t8 pk9 k1 k2 k3 k4 k5 k6 k7 k8 t1 t2 t3 u1 u2 u3 n9 acc9 led9 h9 g9 tk9 ps9 V9 pl9 t9 F9 N9 b9; (simp only [List.cons_append, List.append_assoc] at N9); (try dsimp only))))
  (k_with "+mid fin" => ((refine' mid_end ?F9q ?N9q ?mr9q ?ma9q ?mh9q ?mt9q ?V9q ?m19q ?m29q ?m39q ?hvp9q ?hvb9q ?hz9q ?hy9q ?ba9q ?bb9q ?bc9q ?hr9q ?hs9q ?hX9q ?h39q ?ht9q ?ab9q; (case F9q => with_reducible assumption); (case N9q => with_reducible assumption); (case mr9q => with_unfolding_all rfl); (case ma9q => with_unfolding_all rfl); (case mh9q => with_unfolding_all rfl); (case mt9q => with_unfolding_all rfl); (case V9q => with_reducible assumption); (case m19q => k_mem); (case m29q => k_mem); (case m39q => k_mem); (case hvp9q => with_reducible assumption); (case hvb9q => with_reducible assumption); (case hz9q => with_reducible assumption); (case hy9q => with_reducible assumption); (case ba9q => with_reducible assumption); (case bb9q => with_reducible assumption); (case bc9q => with_reducible assumption); (case hr9q => walk_at "con led"); (case hs9q => walk_at "con led"); (case hX9q => walk_at "con led"); (case h39q => k_mem); (case ht9q => with_reducible assumption); (case ab9q => (intro hb; solve_by_elim)))))
  (k_with "+TurnPost" => ((refine' turn_end ?F9q ?N9q ?mh9q ?mv9q ?V9q ?m19q ?m29q ?m39q ?hvp9q ?hvb9q ?hz9q ?hy9q ?ba9q ?bb9q ?bc9q ?hs9q ?hX9q ?h39q ?ht9q ?ab9q; (case F9q => with_reducible assumption); (case N9q => with_reducible assumption); (case mh9q => with_unfolding_all rfl); (case mv9q => with_unfolding_all rfl); (case V9q => with_reducible assumption); (case m19q => k_mem); (case m29q => k_mem); (case m39q => k_mem); (case hvp9q => with_reducible assumption); (case hvb9q => with_reducible assumption); (case hz9q => with_reducible assumption); (case hy9q => with_reducible assumption); (case ba9q => with_reducible assumption); (case bb9q => with_reducible assumption); (case bc9q => with_reducible assumption); (case hs9q => walk_at "con led"); (case hX9q => walk_at "con led"); (case h39q => k_mem); (case ht9q => with_reducible assumption); (case ab9q => (intro hb; solve_by_elim)))))
  (k_with "+execs cons" => ((k_here; (with_reducible show wpAny _ _ (execs (Stmt.Assign [PySem.Expr.Name (Str.ofString "level") _] _ _ :: _) _) _ _ _); with_reducible (refine' disp _ _ _ _ _ _ _ _ _ _ _ _ _ _ _ _ HP _ _ _ _ _ _ _ _ _ _ _ _ _ _ _ _ _ _ _ _ _ _ _ _ _ _ _ _ _ _ _ _ _ _ _ _ _ _ _ _ C0 hvp hvb ?h39q ?h89q ?F9q ?md9q ?mv9q ?N9q ?hc9q ?m19q ?m29q ?m39q ?_; (case F9q => k_asm); (case N9q => k_asm); (case md9q => with_unfolding_all rfl); (case mv9q => with_unfolding_all rfl); (case h39q => decide); (case h89q => decide); (case hc9q => k_asm); (case m19q => k_mem); (case m29q => k_mem); (case m39q => k_mem)); intro h9 tk9 rest9 z9 tz9 va9 A9 B9 C9 zr9 yr9 p9 q9 u1 u2 u3 k1 k2 k3 wp9 wb9 cut9; (revert z9 A9 B9 C9 zr9 yr9); (refine cut4 ?_); intro F9 N9 hr9 hc9 n1' n2' n3' w1' w2'; (have hs9 := fun q hq => hr9 q (hs q hq)); (have hX9 := fun q hq => hr9 q (hX q hq)); (have ia9 := hr9 _ ia0); (have ib9 := hr9 _ ib0); (have va9' := hr9 _ m1); (have vp9' := hr9 _ m2); (have vb9' := hr9 _ m3); (try dsimp only))))
  (k_with "@k_enter" => ((refine' ConV.useVp (c_tr_prer _ _ _ _ _ ?V9q ?hz9q) ?k19q ?k29q ?k39q ?kp9q ?kc9q ?ht9q ?k49q ?k59q ?kF9q ?kK9q ?kd9q ?ku9q ?ks9q ?_; walk_at "con vp")))
  exact True.intro
set_option maxHeartbeats 4000000 in
theorem mid4 (w : World) : MidFor w 4 := by
  refine mid_of ?_
  unfold MidIn
  k_fill
  refine' lawp_elim ?h1 ?_
  case h1 => k_is
  intro HP
  intro p loose mean mg mb dp un gd h₀ L fa cd E dr os i n t td tt x v p' q' a b c zp yp tl rest X t1 t2 t3 nv n1 n2 vp vb m h g tk ps dx0 j1 j2 j3 j4 j5 j6 j7 j8 z1 z2 z3 tp0 tb0 tk0 t80 n0 Q C0 KX B T hv1 hv2 hv3 hv4 HE HE2 hdp hun hi hn V0 ba bb bc hz hy hvp hvb F N hc m1 m2 m3 hs hX ht ia0 ib0 fa9 fb9 fc9 i0 s0 a0 b0 c0 rl rs lA lB lC hQ
  have hgt : gtV a b c a b c true = false := by simp [gtV]
  have hlt : ltV a b c a b c = false := by simp [ltV]
  clear ba bb bc
  k_steps
  all_goals (refine hQ _ ?_; walk_at "mid fin")
end
theorem kw2_Z4 : True := by
  k_with_none
  (k_with "+lt room" => (first | exact lt_r0 (by assumption) (by decide) | exact lt_rc (by assumption) (by decide) | exact lt_rd (by assumption) (by decide) | exact lt_z0 (by assumption)))
  (k_with "@ktr_room" => (walk_at "lt room"))
  (k_with "@ktr_units" => (walk_at "lt room"))
  (k_with "@units_room" => (walk_at "lt room"))
  (k_with "@k_room" => (ktr_room))
  (k_with "+con binds" => (first | exact fm_nilE (by exact rfl) | exact fm_some (by exact rfl) (by walk_at "con binds")))
  (k_with "+con enter" => ((k_dflt (refine' code_keep ?k19q ?k29q ?k39q ?k49q ?k59q ?kA9q ?kF9q ?kK9q ?k69q ?k79q ?k89q ?k99q ?kB9q ?_ ?c29q ?c39q ?c49q ?c59q; (case kA9q => exact rfl); (case kF9q => assumption); (case kK9q => assumption); (case k49q => k_asm); (case k19q => k_asm); (case k29q => k_asm); (case k39q => k_asm); (case k59q => k_asm); (case k69q => k_is); (case k79q => k_is); (case k89q => ktr_room); (case k99q => (refine' binds_to ?b99q ?e99q; (case b99q => first | exact BindsTo.of_eq rfl | exact binds_K (by k_in) rfl (by k_is) rfl rfl rfl | fail "con enter: no rule for these arguments"); (case e99q => first | (walk_at "con binds") | (walk_say "con enter: binds left as they are"; exact rfl)))); (case c59q => decide); (case kB9q => exact locs rfl); (case c29q => exact rfl); (case c39q => exact rfl); (case c49q => exact rfl); k_whole; intro g' L' h' FG' F' N' B' X' T' G0'; (try dsimp only); (try k_fold)))))
  (k_with "+con sub" => (repeat (first | exact sub_nil | refine sub_cons (by k_mem) ?_)))
  (k_with "+ite" => ((k_here; k_openite; with_reducible refine ite_isFalse (bne_self_eq_false _) ?_; walk_say "PRUNED same")))
  (k_with "+con sides" => (((case k39q => k_asm); (case k29q => k_asm); (case k19q => k_asm); (case k49q => k_asm); (case k59q => k_asm); (case kF9q => first | exact rfl | assumption); (case kK9q => first | exact rfl | assumption); (case kd9q => ktr_room); (case ku9q => ktr_units); (case ks9q => walk_at "con sub"))))
  (k_with "+ne close" => (first | assumption | exact Ne.symm (by assumption) | exact Nat.ne_of_lt (by assumption) | exact Nat.ne_of_gt (by assumption) | exact Nat.ne_of_lt (Nat.lt_trans (by assumption) (by assumption)) | exact Nat.ne_of_gt (Nat.lt_trans (by assumption) (by assumption)) | (rename _ ∧ _ => hh9; obtain ⟨_, _⟩ := hh9; walk_at "ne close")))
  (k_with "@k_ne" => ((refine neN ?_; (try dsimp only); with_reducible walk_at "ne close")))
  exact True.intro
end
section
section
theorem kw1_Z5 : True := by
  (k_with "@k_lt clear" => (skip))
  (k_with "@k_mem" => (first | with_reducible assumption | with_reducible exact List.mem_cons_self | (with_reducible refine List.mem_cons_of_mem _ ?_; k_mem) | (with_reducible refine List.mem_append_left _ ?_; k_mem) | (with_reducible refine List.mem_append_right _ ?_; k_mem)))
  (k_with "+fit" => (first | with_reducible assumption | exact fit12 _ | exact fit3 _ | exact fit30 _))
  (k_with "@ktr_units" => (first | exact lt_r0 (by assumption) (by decide) | exact lt_rc (by assumption) (by decide) | exact lt_rd (by assumption) (by decide) | exact lt_z0 (by assumption) | (have hcL9 := cLine_is; ((try simp only [units_under_kw, units_in1, units_deeper, Around.mark_units, units_caller] at *); (try dsimp only [ktrTop, topA] at *); omega))))
  (k_with "@k_units" => (ktr_units))
  (k_with "@k_in" => (first | with_reducible assumption | (refine' Frag.In.keeps ?ki99q (Fr.keep (by with_reducible assumption)); case ki9 => with_reducible assumption)))
  (k_with "+ite" => ((k_closed; with_reducible (first | refine ite_pos (by k_dflt decide) ?_ | refine ite_neg (by k_dflt decide) ?_))))
  (k_with "+binaryOp Mod int int" => ((k_here; (with_reducible show wpAny _ _ (binaryOp Operator.Mod (Value.int _ _) (Value.int 10 _)) _ _ _); k_dflt (refine mod_deed (by with_reducible assumption) ?_))))
  (k_with "+con led" => ((first | with_reducible assumption | ((repeat (refine sub_cons ?_ ?_; k_mem)); (first | with_reducible assumption | (intro q9 hq9; (repeat (first | exact hq9 | exact mem_of (by with_reducible assumption) hq9 | exact List.mem_append_left _ hq9 | exact List.mem_append_left _ (mem_of (by with_reducible assumption) hq9) | exact List.mem_append_left _ (List.mem_append_right _ hq9) | exact List.mem_append_left _ (List.mem_append_left _ (mem_of (by with_reducible assumption) hq9)) | refine List.mem_append_right _ ?_ | refine List.mem_cons_of_mem _ ?_))))))))
  (k_with "+con pick" => ((first | with_reducible exact Pick.here | exact Pick.there (by walk_at "con pick"))))
  (k_with "+con cls" => ((repeat (first | with_reducible assumption | (refine List.forall_mem_cons.mpr ⟨(fun e9 => nomatch e9), ?_⟩) | exact List.forall_mem_nil _ | (refine List.forall_mem_append.mpr ⟨?_, ?_⟩)))))
  (k_with "+con kp" => ((walk_at "con base"; (case kp9q => walk_at "con pick"); (case kc9q => walk_at "con cls"); (case ht9q => k_asm))))
  (k_with "+con ne" => ((k_whole; intro h9 g9 tk9 ps9 t9 F9 N9 b9; (try dsimp only [PySem.W.CmpBack]); (try dsimp only))))
  (k_with "+con base" => (((case k39q => k_asm); (case k29q => k_asm); (case k19q => k_asm); (case k49q => k_asm); (case k59q => k_asm); (case kF9q => first | exact rfl | assumption); (case kK9q => first | exact rfl | assumption); (case kd9q => ktr_room); (case ku9q => ktr_units))))
  (k_with "@k_enter" => ((refine' Con.useT (c_text0 _ _ _ _ ?ha9q ?hb9q ?hc9q ?hz9q ?hy9q ?hvp9q ?hvb9q) ?k19q ?k29q ?k39q ?k49q ?k59q ?kF9q ?kK9q ?kd9q ?ku9q ?ks9q ?_; walk_at "con base"; (case ks9q => walk_at "con sub"); (case hvp9q => k_asm); (case hvb9q => k_asm); (case hz9q => k_asm); (case hy9q => k_asm); (case ha9q => walk_at "fit"); (case hb9q => walk_at "fit"); (case hc9q => walk_at "fit"); k_whole; intro t9 h9 tk9 F9 N9; (try dsimp only [PySem.W.StrBack]); (try dsimp only))))
  (k_with "@k_enter" => ((refine' Con.useT (v_str _ ?V9q ?ha9q ?hb9q ?hc9q ?hz9q ?hy9q) ?k19q ?k29q ?k39q ?k49q ?k59q ?kF9q ?kK9q ?kd9q ?ku9q ?ks9q ?_; walk_at "con base"; (case V9q => k_asm); (case ks9q => walk_at "con led"); (case hz9q => k_asm); (case hy9q => k_asm); (case ha9q => walk_at "fit"); (case hb9q => walk_at "fit"); (case hc9q => walk_at "fit"); k_whole; intro t9 h9 tk9 F9 N9; (try dsimp only [PySem.W.StrBack]); (try dsimp only))))
  (k_with "@k_enter" => ((refine' Con.use0 (v_gtV _ ?V19q ?V29q ?rel9q ?hb9q) ?k19q ?k29q ?k39q ?k49q ?k59q ?kF9q ?kK9q ?kd9q ?ku9q (sub_two ?ks19q ?ks29q) ?_; walk_at "con base"; (case V19q => k_asm); (case V29q => k_asm); (case rel9q => k_asm); (case hb9q => k_asm); (case ks19q => walk_at "con led"); (case ks29q => walk_at "con led"); k_whole; intro h9 tk9 F9 N9; (try dsimp only [PySem.W.CmpBack]); (try dsimp only))))
  (k_with "@k_enter" => ((refine' Con.use0 (v_ltV _ ?V19q ?V29q ?rel9q ?hb9q) ?k19q ?k29q ?k39q ?k49q ?k59q ?kF9q ?kK9q ?kd9q ?ku9q (sub_two ?ks19q ?ks29q) ?_; walk_at "con base"; (case V19q => k_asm); (case V29q => k_asm); (case rel9q => k_asm); (case hb9q => k_asm); (case ks19q => walk_at "con led"); (case ks29q => walk_at "con led"); k_whole; intro h9 tk9 F9 N9; (try dsimp only [PySem.W.CmpBack]); (try dsimp only))))
  (k_with "+con vp" => (((case V9q => k_asm); (case hz9q => k_asm); walk_at "con base"; (case kp9q => walk_at "con pick"); (case kc9q => walk_at "con cls"); (case ht9q => k_asm); (case ks9q => walk_at "con led"); k_whole; intro x9 tl9 dx9 k1 k2 k3 k4 k5 k6 k7 k8 t1 t2 t3 tp9 tb9 tw9 t8 n9 h9 g9 tk9 ps9 V9 ia9 ib9 pl9 t9 F9 N9 b9; (try dsimp only))))
  (k_with "+con ver" => (((case V9q => k_asm); (case hz9q => k_asm); walk_at "con base"; (case kp9q => walk_at "con pick"); (case kc9q => walk_at "con cls"); (case ht9q => k_asm); (case ks9q => walk_at "con led"); k_whole; intro x9 dx9 tp9 tb9 tw9 t8 pk9 k1 k2 k3 k4 k5 k6 k7 k8 t1 t2 t3 u1 u2 u3 n9 acc9 led9 h9 g9 tk9 ps9 V9 pl9 t9 F9 N9 b9; (simp only [List.cons_append, List.append_assoc] at N9); (try dsimp only))))
  (k_with "+mid fin" => ((refine' mid_end ?F9q ?N9q ?mr9q ?ma9q ?mh9q ?mt9q ?V9q ?m19q ?m29q ?m39q ?hvp9q ?hvb9q ?hz9q ?hy9q ?ba9q ?bb9q ?bc9q ?hr9q ?hs9q ?hX9q ?h39q ?ht9q ?ab9q; (case F9q => with_reducible assumption); (case N9q => with_reducible assumption); (case mr9q => with_unfolding_all rfl); (case ma9q => with_unfolding_all rfl); (case mh9q => with_unfolding_all rfl); (case mt9q => with_unfolding_all rfl); (case V9q => with_reducible assumption); (case m19q => k_mem); (case m29q => k_mem); (case m39q => k_mem); (case hvp9q => with_reducible assumption); (case hvb9q => with_reducible assumption); (case hz9q => with_reducible assumption); (case hy9q => with_reducible assumption); (case ba9q => with_reducible assumption); (case bb9q => with_reducible assumption); (case bc9q => with_reducible assumption); (case hr9q => walk_at "con led"); (case hs9q => walk_at "con led"); (case hX9q => walk_at "con led"); (case h39q => k_mem); (case ht9q => with_reducible assumption); (case ab9q => (intro hb; solve_by_elim)))))
  (k_with "+TurnPost" => ((refine' turn_end ?F9q ?N9q ?mh9q ?mv9q ?V9q ?m19q ?m29q ?m39q ?hvp9q ?hvb9q ?hz9q ?hy9q ?ba9q ?bb9q ?bc9q ?hs9q ?hX9q ?h39q ?ht9q ?ab9q; (case F9q => with_reducible assumption); (case N9q => with_reducible assumption); (case mh9q => with_unfolding_all rfl); (case mv9q => with_unfolding_all rfl); (case V9q => with_reducible assumption); (case m19q => k_mem); (case m29q => k_mem); (case m39q => k_mem); (case hvp9q => with_reducible assumption); (case hvb9q => with_reducible assumption); (case hz9q => with_reducible assumption); (case hy9q => with_reducible assumption); (case ba9q => with_reducible assumption); (case bb9q => with_reducible assumption); (case bc9q => with_reducible assumption); (case hs9q => walk_at "con led"); (case hX9q => walk_at "con led"); (case h39q => k_mem); (case ht9q => with_reducible assumption); (case ab9q => (intro hb; solve_by_elim)))))
  (k_with "+execs cons" => ((k_here; (with_reducible show wpAny _ _ (execs (Stmt.Assign [PySem.Expr.Name (Str.ofString "level") _] _ _ :: _) _) _ _ _); with_reducible (refine' disp _ _ _ _ _ _ _ _ _ _ _ _ _ _ _ _ HP _ _ _ _ _ _ _ _ _ _ _ _ _ _ _ _ _ _ _ _ _ _ _ _ _ _ _ _ _ _ _ _ _ _ _ _ _ _ _ _ C0 hvp hvb ?h39q ?h89q ?F9q ?md9q ?mv9q ?N9q ?hc9q ?m19q ?m29q ?m39q ?_; (case F9q => k_asm); (case N9q => k_asm); (case md9q => with_unfolding_all rfl); (case mv9q => with_unfolding_all rfl); (case h39q => decide); (case h89q => decide); (case hc9q => k_asm); (case m19q => k_mem); (case m29q => k_mem); (case m39q => k_mem)); intro h9 tk9 rest9 z9 tz9 va9 A9 B9 C9 zr9 yr9 p9 q9 u1 u2 u3 k1 k2 k3 wp9 wb9 cut9; (revert z9 A9 B9 C9 zr9 yr9); (refine cut5 ?_); intro F9 N9 hr9 hc9 n1' n2' n3' w1' w2'; (have hs9 := fun q hq => hr9 q (hs q hq)); (have hX9 := fun q hq => hr9 q (hX q hq)); (have ia9 := hr9 _ ia0); (have ib9 := hr9 _ ib0); (have va9' := hr9 _ m1); (have vp9' := hr9 _ m2); (have vb9' := hr9 _ m3); (try dsimp only))))
  (k_with "+subscriptTail Name Constant ref int" => ((k_here; (with_reducible show wpAny _ _ (subscriptTail _ _ (Value.ref _) (Value.int _ _)) _ _ _); k_dflt (refine' list_item ?N9q ?m9q ?e9q ?z9q ?b9q ?_; (case N9q => k_asm); (case m9q => k_mem); (case e9q => exact rfl); (case z9q => decide); (case b9q => exact Nat.le_of_ble_eq_true rfl)); (try dsimp only))))
  (k_with "+compareOp NotEq ref ref" => ((k_here; (with_reducible show wpAny _ _ (compareOp CmpOp.NotEq (Value.ref _) (Value.ref _)) _ _ _); k_dflt (refine' ne_strs0 ?N9q ?ma9q ?mb9q ?ho9q ?hx9q ?hz9q ?hu9q ?_; (case N9q => k_asm); (case ma9q => k_mem); (case mb9q => k_mem); (case ho9q => with_unfolding_all exact rfl); (case hx9q => k_asm); (case hz9q => k_asm); (case hu9q => ktr_units)))))
  (k_with "@k_enter" => ((refine' ConG.use0P (v_ne _ ?V9q ?V29q) ?k19q ?k29q ?k39q ?kp9q ?kc9q ?ht9q ?k49q ?k59q ?kF9q ?kK9q ?kd9q ?ku9q (sub_two ?ks9q ?ks29q) ?_; (case V29q => k_asm); (case V9q => k_asm); walk_at "con kp"; (case ks9q => walk_at "con led"); (case ks29q => walk_at "con led"); walk_at "con ne")))
  (k_with "@k_enter" => ((refine' ConV.useVp (c_tr_patch _ _ _ _ _ ?V9q ?hz9q) ?k19q ?k29q ?k39q ?kp9q ?kc9q ?ht9q ?k49q ?k59q ?kF9q ?kK9q ?kd9q ?ku9q ?ks9q ?_; walk_at "con vp")))
  (k_with "@k_enter" => ((refine' ConV.useVp (c_tr_dflt _ _ _ _ ?V9q ?hz9q) ?k19q ?k29q ?k39q ?kp9q ?kc9q ?ht9q ?k49q ?k59q ?kF9q ?kK9q ?kd9q ?ku9q ?ks9q ?_; walk_at "con vp")))
  exact True.intro
set_option maxHeartbeats 4000000 in
theorem mid5 (w : World) : MidFor w 5 := by
  refine mid_of ?_
  unfold MidIn
  k_fill
  refine' lawp_elim ?h1 ?_
  case h1 => k_is
  intro HP
  intro p loose mean mg mb dp un gd h₀ L fa cd E dr os i n t td tt x v p' q' a b c zp yp tl rest X t1 t2 t3 nv n1 n2 vp vb m h g tk ps dx0 j1 j2 j3 j4 j5 j6 j7 j8 z1 z2 z3 tp0 tb0 tk0 t80 n0 Q C0 KX B T hv1 hv2 hv3 hv4 HE HE2 hdp hun hi hn V0 ba bb bc hz hy hvp hvb F N hc m1 m2 m3 hs hX ht ia0 ib0 fa9 fb9 fc9 i0 s0 a0 b0 c0 rl rs lA lB lC hQ
  have hgt : gtV a b c a b c (decide (zp = [])) = !decide (zp = []) := by simp [gtV]
  have hlt : ltV a b c a b c = false := by simp [ltV]
  clear ba bb bc
  k_steps
  all_goals (refine hQ _ ?_; walk_at "mid fin")
end
theorem kw2_Z5 : True := by
  k_with_none
  (k_with "+lt room" => (first | exact lt_r0 (by assumption) (by decide) | exact lt_rc (by assumption) (by decide) | exact lt_rd (by assumption) (by decide) | exact lt_z0 (by assumption)))
  (k_with "@ktr_room" => (walk_at "lt room"))
  (k_with "@ktr_units" => (walk_at "lt room"))
  (k_with "@units_room" => (walk_at "lt room"))
  (k_with "@k_room" => (ktr_room))
  (k_with "+con binds" => (first | exact fm_nilE (by exact rfl) | exact fm_some (by exact rfl) (by walk_at "con binds")))
  (k_with "+con enter" => ((k_dflt (refine' code_keep ?k19q ?k29q ?k39q ?k49q ?k59q ?kA9q ?kF9q ?kK9q ?k69q ?k79q ?k89q ?k99q ?kB9q ?_ ?c29q ?c39q ?c49q ?c59q; (case kA9q => exact rfl); (case kF9q => assumption); (case kK9q => assumption); (case k49q => k_asm); (case k19q => k_asm); (case k29q => k_asm); (case k39q => k_asm); (case k59q => k_asm); (case k69q => k_is); (case k79q => k_is); (case k89q => ktr_room); (case k99q => (refine' binds_to ?b99q ?e99q; (case b99q => first | exact BindsTo.of_eq rfl | exact binds_K (by k_in) rfl (by k_is) rfl rfl rfl | fail "con enter: no rule for these arguments"); (case e99q => first | (walk_at "con binds") | (walk_say "con enter: binds left as they are"; exact rfl)))); (case c59q => decide); (case kB9q => exact locs rfl); (case c29q => exact rfl); (case c39q => exact rfl); (case c49q => exact rfl); k_whole; intro g' L' h' FG' F' N' B' X' T' G0'; (try dsimp only); (try k_fold)))))
  (k_with "+con sub" => (repeat (first | exact sub_nil | refine sub_cons (by k_mem) ?_)))
  (k_with "+ite" => ((k_here; k_openite; with_reducible refine ite_isFalse (bne_self_eq_false _) ?_; walk_say "PRUNED same")))
  (k_with "+con sides" => (((case k39q => k_asm); (case k29q => k_asm); (case k19q => k_asm); (case k49q => k_asm); (case k59q => k_asm); (case kF9q => first | exact rfl | assumption); (case kK9q => first | exact rfl | assumption); (case kd9q => ktr_room); (case ku9q => ktr_units); (case ks9q => walk_at "con sub"))))
  (k_with "+ne close" => (first | assumption | exact Ne.symm (by assumption) | exact Nat.ne_of_lt (by assumption) | exact Nat.ne_of_gt (by assumption) | exact Nat.ne_of_lt (Nat.lt_trans (by assumption) (by assumption)) | exact Nat.ne_of_gt (Nat.lt_trans (by assumption) (by assumption)) | (rename _ ∧ _ => hh9; obtain ⟨_, _⟩ := hh9; walk_at "ne close")))
  (k_with "@k_ne" => ((refine neN ?_; (try dsimp only); with_reducible walk_at "ne close")))
  exact True.intro
end
section
section
theorem kw1_Z6 : True := by
  (k_with "@k_lt clear" => (skip))
  (k_with "@k_mem" => (first | with_reducible assumption | with_reducible exact List.mem_cons_self | (with_reducible refine List.mem_cons_of_mem _ ?_; k_mem) | (with_reducible refine List.mem_append_left _ ?_; k_mem) | (with_reducible refine List.mem_append_right _ ?_; k_mem)))
  (k_with "+fit" => (first | with_reducible assumption | exact fit12 _ | exact fit3 _ | exact fit30 _))
  (k_with "@ktr_units" => (first | exact lt_r0 (by assumption) (by decide) | exact lt_rc (by assumption) (by decide) | exact lt_rd (by assumption) (by decide) | exact lt_z0 (by assumption) | (have hcL9 := cLine_is; ((try simp only [units_under_kw, units_in1, units_deeper, Around.mark_units, units_caller] at *); (try dsimp only [ktrTop, topA] at *); omega))))
  (k_with "@k_units" => (ktr_units))
  (k_with "@k_in" => (first | with_reducible assumption | (refine' Frag.In.keeps ?ki99q (Fr.keep (by with_reducible assumption)); case ki9 => with_reducible assumption)))
  (k_with "+ite" => ((k_closed; with_reducible (first | refine ite_pos (by k_dflt decide) ?_ | refine ite_neg (by k_dflt decide) ?_))))
  (k_with "+binaryOp Mod int int" => ((k_here; (with_reducible show wpAny _ _ (binaryOp Operator.Mod (Value.int _ _) (Value.int 10 _)) _ _ _); k_dflt (refine mod_deed (by with_reducible assumption) ?_))))
  (k_with "+con led" => ((first | with_reducible assumption | ((repeat (refine sub_cons ?_ ?_; k_mem)); (first | with_reducible assumption | (intro q9 hq9; (repeat (first | exact hq9 | exact mem_of (by with_reducible assumption) hq9 | exact List.mem_append_left _ hq9 | exact List.mem_append_left _ (mem_of (by with_reducible assumption) hq9) | exact List.mem_append_left _ (List.mem_append_right _ hq9) | exact List.mem_append_left _ (List.mem_append_left _ (mem_of (by with_reducible assumption) hq9)) | refine List.mem_append_right _ ?_ | refine List.mem_cons_of_mem _ ?_))))))))
  (k_with "+con pick" => ((first | with_reducible exact Pick.here | exact Pick.there (by walk_at "con pick"))))
  (k_with "+con cls" => ((repeat (first | with_reducible assumption | (refine List.forall_mem_cons.mpr ⟨(fun e9 => nomatch e9), ?_⟩) | exact List.forall_mem_nil _ | (refine List.forall_mem_append.mpr ⟨?_, ?_⟩)))))
  (k_with "+con kp" => ((walk_at "con base"; (case kp9q => walk_at "con pick"); (case kc9q => walk_at "con cls"); (case ht9q => k_asm))))
  (k_with "+con ne" => ((k_whole; intro h9 g9 tk9 ps9 t9 F9 N9 b9; (try dsimp only [PySem.W.CmpBack]); (try dsimp only))))
  (k_with "+con base" => (((case k39q => k_asm); (case k29q => k_asm); (case k19q => k_asm); (case k49q => k_asm); (case k59q => k_asm); (case kF9q => first | exact rfl | assumption); (case kK9q => first | exact rfl | assumption); (case kd9q => ktr_room); (case ku9q => ktr_units))))
  (k_with "@k_enter" => ((refine' Con.useT (c_text0 _ _ _ _ ?ha9q ?hb9q ?hc9q ?hz9q ?hy9q ?hvp9q ?hvb9q) ?k19q ?k29q ?k39q ?k49q ?k59q ?kF9q ?kK9q ?kd9q ?ku9q ?ks9q ?_; walk_at "con base"; (case ks9q => walk_at "con sub"); (case hvp9q => k_asm); (case hvb9q => k_asm); (case hz9q => k_asm); (case hy9q => k_asm); (case ha9q => walk_at "fit"); (case hb9q => walk_at "fit"); (case hc9q => walk_at "fit"); k_whole; intro t9 h9 tk9 F9 N9; (try dsimp only [PySem.W.StrBack]); (try dsimp only))))
  (k_with "@k_enter" => ((refine' Con.useT (v_str _ ?V9q ?ha9q ?hb9q ?hc9q ?hz9q ?hy9q) ?k19q ?k29q ?k39q ?k49q ?k59q ?kF9q ?kK9q ?kd9q ?ku9q ?ks9q ?_; walk_at "con base"; (case V9q => k_asm); (case ks9q => walk_at "con led"); (case hz9q => k_asm); (case hy9q => k_asm); (case ha9q => walk_at "fit"); (case hb9q => walk_at "fit"); (case hc9q => walk_at "fit"); k_whole; intro t9 h9 tk9 F9 N9; (try dsimp only [PySem.W.StrBack]); (try dsimp only))))
  (k_with "@k_enter" => ((refine' Con.use0 (v_gtV _ ?V19q ?V29q ?rel9q ?hb9q) ?k19q ?k29q ?k39q ?k49q ?k59q ?kF9q ?kK9q ?kd9q ?ku9q (sub_two ?ks19q ?ks29q) ?_; walk_at "con base"; (case V19q => k_asm); (case V29q => k_asm); (case rel9q => k_asm); (case hb9q => k_asm); (case ks19q => walk_at "con led"); (case ks29q => walk_at "con led"); k_whole; intro h9 tk9 F9 N9; (try dsimp only [PySem.W.CmpBack]); (try dsimp only))))
  (k_with "@k_enter" => ((refine' Con.use0 (v_ltV _ ?V19q ?V29q ?rel9q ?hb9q) ?k19q ?k29q ?k39q ?k49q ?k59q ?kF9q ?kK9q ?kd9q ?ku9q (sub_two ?ks19q ?ks29q) ?_; walk_at "con base"; (case V19q => k_asm); (case V29q => k_asm); (case rel9q => k_asm); (case hb9q => k_asm); (case ks19q => walk_at "con led"); (case ks29q => walk_at "con led"); k_whole; intro h9 tk9 F9 N9; (try dsimp only [PySem.W.CmpBack]); (try dsimp only))))
  (k_with "+con vp" => (((case V9q => k_asm); (case hz9q => k_asm); walk_at "con base"; (case kp9q => walk_at "con pick"); (case kc9q => walk_at "con cls"); (case ht9q => k_asm); (case ks9q => walk_at "con led"); k_whole; intro x9 tl9 dx9 k1 k2 k3 k4 k5 k6 k7 k8 t1 t2 t3 tp9 tb9 tw9 t8 n9 h9 g9 tk9 ps9 V9 ia9 ib9 pl9 t9 F9 N9 b9; (try dsimp only))))
  (k_with "+con ver" => (((case V9q => k_asm); (case hz9q => k_asm); walk_at "con base"; (case kp9q => walk_at "con pick"); (case kc9q => walk_at "con cls"); (case ht9q => k_asm); (case ks9q => walk_at "con led"); k_whole; intro x9 dx9 tp9 tb9 tw9 t8 pk9 k1 k2 k3 k4 k5 k6 k7 k8 t1 t2 t3 u1 u2 u3 n9 acc9 led9 h9 g9 tk9 ps9 V9 pl9 t9 F9 N9 b9; (simp only [List.cons_append, List.append_assoc] at N9); (try dsimp only))))
  (k_with "+mid fin" => ((refine' mid_end ?F9q ?N9q ?mr9q ?ma9q ?mh9q ?mt9q ?V9q ?m19q ?m29q ?m39q ?hvp9q ?hvb9q ?hz9q ?hy9q ?ba9q ?bb9q ?bc9q ?hr9q ?hs9q ?hX9q ?h39q ?ht9q ?ab9q; (case F9q => with_reducible assumption); (case N9q => with_reducible assumption); (case mr9q => with_unfolding_all rfl); (case ma9q => with_unfolding_all rfl); (case mh9q => with_unfolding_all rfl); (case mt9q => with_unfolding_all rfl); (case V9q => with_reducible assumption); (case m19q => k_mem); (case m29q => k_mem); (case m39q => k_mem); (case hvp9q => with_reducible assumption); (case hvb9q => with_reducible assumption); (case hz9q => with_reducible assumption); (case hy9q => with_reducible assumption); (case ba9q => with_reducible assumption); (case bb9q => with_reducible assumption); (case bc9q => with_reducible assumption); (case hr9q => walk_at "con led"); (case hs9q => walk_at "con led"); (case hX9q => walk_at "con led"); (case h39q => k_mem); (case ht9q => with_reducible assumption); (case ab9q => (intro hb; solve_by_elim)))))
  (k_with "+TurnPost" => ((refine' turn_end ?F9q ?N9q ?mh9q ?mv9q ?V9q ?m19q ?m29q ?m39q ?hvp9q ?hvb9q ?hz9q ?hy9q ?ba9q ?bb9q ?bc9q ?hs9q ?hX9q ?h39q ?ht9q ?ab9q; (case F9q => with_reducible assumption); (case N9q => with_reducible assumption); (case mh9q => with_unfolding_all rfl); (case mv9q => with_unfolding_all rfl); (case V9q => with_reducible assumption); (case m19q => k_mem); (case m29q => k_mem); (case m39q => k_mem); (case hvp9q => with_reducible assumption); (case hvb9q => with_reducible assumption); (case hz9q => with_reducible assumption); (case hy9q => with_reducible assumption); (case ba9q => with_reducible assumption); (case bb9q => with_reducible assumption); (case bc9q => with_reducible assumption); (case hs9q => walk_at "con led"); (case hX9q => walk_at "con led"); (case h39q => k_mem); (case ht9q => with_reducible assumption); (case ab9q => (intro hb; solve_by_elim)))))
  (k_with "+execs cons" => ((k_here; (with_reducible show wpAny _ _ (execs (Stmt.Assign [PySem.Expr.Name (Str.ofString "level") _] _ _ :: _) _) _ _ _); with_reducible (refine' disp _ _ _ _ _ _ _ _ _ _ _ _ _ _ _ _ HP _ _ _ _ _ _ _ _ _ _ _ _ _ _ _ _ _ _ _ _ _ _ _ _ _ _ _ _ _ _ _ _ _ _ _ _ _ _ _ _ C0 hvp hvb ?h39q ?h89q ?F9q ?md9q ?mv9q ?N9q ?hc9q ?m19q ?m29q ?m39q ?_; (case F9q => k_asm); (case N9q => k_asm); (case md9q => with_unfolding_all rfl); (case mv9q => with_unfolding_all rfl); (case h39q => decide); (case h89q => decide); (case hc9q => k_asm); (case m19q => k_mem); (case m29q => k_mem); (case m39q => k_mem)); intro h9 tk9 rest9 z9 tz9 va9 A9 B9 C9 zr9 yr9 p9 q9 u1 u2 u3 k1 k2 k3 wp9 wb9 cut9; (revert z9 A9 B9 C9 zr9 yr9); (refine cut6 ?_); intro F9 N9 hr9 hc9 n1' n2' n3' w1' w2'; (have hs9 := fun q hq => hr9 q (hs q hq)); (have hX9 := fun q hq => hr9 q (hX q hq)); (have ia9 := hr9 _ ia0); (have ib9 := hr9 _ ib0); (have va9' := hr9 _ m1); (have vp9' := hr9 _ m2); (have vb9' := hr9 _ m3); (try dsimp only))))
  (k_with "+subscriptTail Name Constant ref int" => ((k_here; (with_reducible show wpAny _ _ (subscriptTail _ _ (Value.ref _) (Value.int _ _)) _ _ _); k_dflt (refine' list_item ?N9q ?m9q ?e9q ?z9q ?b9q ?_; (case N9q => k_asm); (case m9q => k_mem); (case e9q => exact rfl); (case z9q => decide); (case b9q => exact Nat.le_of_ble_eq_true rfl)); (try dsimp only))))
  (k_with "+compareOp NotEq ref ref" => ((k_here; (with_reducible show wpAny _ _ (compareOp CmpOp.NotEq (Value.ref _) (Value.ref _)) _ _ _); k_dflt (refine' ne_strs0 ?N9q ?ma9q ?mb9q ?ho9q ?hx9q ?hz9q ?hu9q ?_; (case N9q => k_asm); (case ma9q => k_mem); (case mb9q => k_mem); (case ho9q => with_unfolding_all exact rfl); (case hx9q => k_asm); (case hz9q => k_asm); (case hu9q => ktr_units)))))
  (k_with "@k_enter" => ((refine' ConV.useVp (c_tr_minor _ _ _ _ _ ?V9q ?hz9q) ?k19q ?k29q ?k39q ?kp9q ?kc9q ?ht9q ?k49q ?k59q ?kF9q ?kK9q ?kd9q ?ku9q ?ks9q ?_; walk_at "con vp")))
  exact True.intro
set_option maxHeartbeats 4000000 in
theorem mid6 (w : World) : MidFor w 6 := by
  refine mid_of ?_
  unfold MidIn
  k_fill
  refine' lawp_elim ?h1 ?_
  case h1 => k_is
  intro HP
  intro p loose mean mg mb dp un gd h₀ L fa cd E dr os i n t td tt x v p' q' a b c zp yp tl rest X t1 t2 t3 nv n1 n2 vp vb m h g tk ps dx0 j1 j2 j3 j4 j5 j6 j7 j8 z1 z2 z3 tp0 tb0 tk0 t80 n0 Q C0 KX B T hv1 hv2 hv3 hv4 HE HE2 hdp hun hi hn V0 ba bb bc hz hy hvp hvb F N hc m1 m2 m3 hs hX ht ia0 ib0 fa9 fb9 fc9 i0 s0 a0 b0 c0 rl rs lA lB lC hQ
  obtain ⟨gg, hgt⟩ : ∃ gg, gtV a b 0 a b c (decide (zp = [])) = gg := ⟨_, rfl⟩
  have lz := bnd_0 (k := 10 ^ 30) (i := i) (by decide)
  clear ba bb bc
  k_steps
  all_goals first | (refine hQ _ ?_; walk_at "mid fin") | exact (dead_a hgt rfl (by omega) (by omega) (by with_reducible assumption) (by with_reducible assumption)).elim | exact (dead_b hgt rfl (by omega) (by omega) (by with_reducible assumption) (by with_reducible assumption)).elim
end
theorem kw2_Z6 : True := by
  k_with_none
  (k_with "+lt room" => (first | exact lt_r0 (by assumption) (by decide) | exact lt_rc (by assumption) (by decide) | exact lt_rd (by assumption) (by decide) | exact lt_z0 (by assumption)))
  (k_with "@ktr_room" => (walk_at "lt room"))
  (k_with "@ktr_units" => (walk_at "lt room"))
  (k_with "@units_room" => (walk_at "lt room"))
  (k_with "@k_room" => (ktr_room))
  (k_with "+con binds" => (first | exact fm_nilE (by exact rfl) | exact fm_some (by exact rfl) (by walk_at "con binds")))
  (k_with "+con enter" => ((k_dflt (refine' code_keep ?k19q ?k29q ?k39q ?k49q ?k59q ?kA9q ?kF9q ?kK9q ?k69q ?k79q ?k89q ?k99q ?kB9q ?_ ?c29q ?c39q ?c49q ?c59q; (case kA9q => exact rfl); (case kF9q => assumption); (case kK9q => assumption); (case k49q => k_asm); (case k19q => k_asm); (case k29q => k_asm); (case k39q => k_asm); (case k59q => k_asm); (case k69q => k_is); (case k79q => k_is); (case k89q => ktr_room); (case k99q => (refine' binds_to ?b99q ?e99q; (case b99q => first | exact BindsTo.of_eq rfl | exact binds_K (by k_in) rfl (by k_is) rfl rfl rfl | fail "con enter: no rule for these arguments"); (case e99q => first | (walk_at "con binds") | (walk_say "con enter: binds left as they are"; exact rfl)))); (case c59q => decide); (case kB9q => exact locs rfl); (case c29q => exact rfl); (case c39q => exact rfl); (case c49q => exact rfl); k_whole; intro g' L' h' FG' F' N' B' X' T' G0'; (try dsimp only); (try k_fold)))))
  (k_with "+con sub" => (repeat (first | exact sub_nil | refine sub_cons (by k_mem) ?_)))
  (k_with "+ite" => ((k_here; k_openite; with_reducible refine ite_isFalse (bne_self_eq_false _) ?_; walk_say "PRUNED same")))
  (k_with "+con sides" => (((case k39q => k_asm); (case k29q => k_asm); (case k19q => k_asm); (case k49q => k_asm); (case k59q => k_asm); (case kF9q => first | exact rfl | assumption); (case kK9q => first | exact rfl | assumption); (case kd9q => ktr_room); (case ku9q => ktr_units); (case ks9q => walk_at "con sub"))))
  (k_with "+ne close" => (first | assumption | exact Ne.symm (by assumption) | exact Nat.ne_of_lt (by assumption) | exact Nat.ne_of_gt (by assumption) | exact Nat.ne_of_lt (Nat.lt_trans (by assumption) (by assumption)) | exact Nat.ne_of_gt (Nat.lt_trans (by assumption) (by assumption)) | (rename _ ∧ _ => hh9; obtain ⟨_, _⟩ := hh9; walk_at "ne close")))
  (k_with "@k_ne" => ((refine neN ?_; (try dsimp only); with_reducible walk_at "ne close")))
  exact True.intro
end
section
section
theorem kw1_Z7 : True := by
  (k_with "@k_lt clear" => (skip))
  (k_with "@k_mem" => (first | with_reducible assumption | with_reducible exact List.mem_cons_self | (with_reducible refine List.mem_cons_of_mem _ ?_; k_mem) | (with_reducible refine List.mem_append_left _ ?_; k_mem) | (with_reducible refine List.mem_append_right _ ?_; k_mem)))
  (k_with "+fit" => (first | with_reducible assumption | exact fit12 _ | exact fit3 _ | exact fit30 _))
  (k_with "@ktr_units" => (first | exact lt_r0 (by assumption) (by decide) | exact lt_rc (by assumption) (by decide) | exact lt_rd (by assumption) (by decide) | exact lt_z0 (by assumption) | (have hcL9 := cLine_is; ((try simp only [units_under_kw, units_in1, units_deeper, Around.mark_units, units_caller] at *); (try dsimp only [ktrTop, topA] at *); omega))))
  (k_with "@k_units" => (ktr_units))
  (k_with "@k_in" => (first | with_reducible assumption | (refine' Frag.In.keeps ?ki99q (Fr.keep (by with_reducible assumption)); case ki9 => with_reducible assumption)))
  (k_with "+ite" => ((k_closed; with_reducible (first | refine ite_pos (by k_dflt decide) ?_ | refine ite_neg (by k_dflt decide) ?_))))
  (k_with "+binaryOp Mod int int" => ((k_here; (with_reducible show wpAny _ _ (binaryOp Operator.Mod (Value.int _ _) (Value.int 10 _)) _ _ _); k_dflt (refine mod_deed (by with_reducible assumption) ?_))))
  (k_with "+con led" => ((first | with_reducible assumption | ((repeat (refine sub_cons ?_ ?_; k_mem)); (first | with_reducible assumption | (intro q9 hq9; (repeat (first | exact hq9 | exact mem_of (by with_reducible assumption) hq9 | exact List.mem_append_left _ hq9 | exact List.mem_append_left _ (mem_of (by with_reducible assumption) hq9) | exact List.mem_append_left _ (List.mem_append_right _ hq9) | exact List.mem_append_left _ (List.mem_append_left _ (mem_of (by with_reducible assumption) hq9)) | refine List.mem_append_right _ ?_ | refine List.mem_cons_of_mem _ ?_))))))))
  (k_with "+con pick" => ((first | with_reducible exact Pick.here | exact Pick.there (by walk_at "con pick"))))
  (k_with "+con cls" => ((repeat (first | with_reducible assumption | (refine List.forall_mem_cons.mpr ⟨(fun e9 => nomatch e9), ?_⟩) | exact List.forall_mem_nil _ | (refine List.forall_mem_append.mpr ⟨?_, ?_⟩)))))
  (k_with "+con kp" => ((walk_at "con base"; (case kp9q => walk_at "con pick"); (case kc9q => walk_at "con cls"); (case ht9q => k_asm))))
  (k_with "+con ne" => ((k_whole; intro h9 g9 tk9 ps9 t9 F9 N9 b9; (try dsimp only [PySem.W.CmpBack]); (try dsimp only))))
  (k_with "+con base" => (((case k39q => k_asm); (case k29q => k_asm); (case k19q => k_asm); (case k49q => k_asm); (case k59q => k_asm); (case kF9q => first | exact rfl | assumption); (case kK9q => first | exact rfl | assumption); (case kd9q => ktr_room); (case ku9q => ktr_units))))
  (k_with "@k_enter" => ((refine' Con.useT (c_text0 _ _ _ _ ?ha9q ?hb9q ?hc9q ?hz9q ?hy9q ?hvp9q ?hvb9q) ?k19q ?k29q ?k39q ?k49q ?k59q ?kF9q ?kK9q ?kd9q ?ku9q ?ks9q ?_; walk_at "con base"; (case ks9q => walk_at "con sub"); (case hvp9q => k_asm); (case hvb9q => k_asm); (case hz9q => k_asm); (case hy9q => k_asm); (case ha9q => walk_at "fit"); (case hb9q => walk_at "fit"); (case hc9q => walk_at "fit"); k_whole; intro t9 h9 tk9 F9 N9; (try dsimp only [PySem.W.StrBack]); (try dsimp only))))
  (k_with "@k_enter" => ((refine' Con.useT (v_str _ ?V9q ?ha9q ?hb9q ?hc9q ?hz9q ?hy9q) ?k19q ?k29q ?k39q ?k49q ?k59q ?kF9q ?kK9q ?kd9q ?ku9q ?ks9q ?_; walk_at "con base"; (case V9q => k_asm); (case ks9q => walk_at "con led"); (case hz9q => k_asm); (case hy9q => k_asm); (case ha9q => walk_at "fit"); (case hb9q => walk_at "fit"); (case hc9q => walk_at "fit"); k_whole; intro t9 h9 tk9 F9 N9; (try dsimp only [PySem.W.StrBack]); (try dsimp only))))
  (k_with "@k_enter" => ((refine' Con.use0 (v_gtV _ ?V19q ?V29q ?rel9q ?hb9q) ?k19q ?k29q ?k39q ?k49q ?k59q ?kF9q ?kK9q ?kd9q ?ku9q (sub_two ?ks19q ?ks29q) ?_; walk_at "con base"; (case V19q => k_asm); (case V29q => k_asm); (case rel9q => k_asm); (case hb9q => k_asm); (case ks19q => walk_at "con led"); (case ks29q => walk_at "con led"); k_whole; intro h9 tk9 F9 N9; (try dsimp only [PySem.W.CmpBack]); (try dsimp only))))
  (k_with "@k_enter" => ((refine' Con.use0 (v_ltV _ ?V19q ?V29q ?rel9q ?hb9q) ?k19q ?k29q ?k39q ?k49q ?k59q ?kF9q ?kK9q ?kd9q ?ku9q (sub_two ?ks19q ?ks29q) ?_; walk_at "con base"; (case V19q => k_asm); (case V29q => k_asm); (case rel9q => k_asm); (case hb9q => k_asm); (case ks19q => walk_at "con led"); (case ks29q => walk_at "con led"); k_whole; intro h9 tk9 F9 N9; (try dsimp only [PySem.W.CmpBack]); (try dsimp only))))
  (k_with "+con vp" => (((case V9q => k_asm); (case hz9q => k_asm); walk_at "con base"; (case kp9q => walk_at "con pick"); (case kc9q => walk_at "con cls"); (case ht9q => k_asm); (case ks9q => walk_at "con led"); k_whole; intro x9 tl9 dx9 k1 k2 k3 k4 k5 k6 k7 k8 t1 t2 t3 tp9 tb9 tw9 t8 n9 h9 g9 tk9 ps9 V9 ia9 ib9 pl9 t9 F9 N9 b9; (try dsimp only))))
  (k_with "+con ver" => (((case V9q => k_asm); (case hz9q => k_asm); walk_at "con base"; (case kp9q => walk_at "con pick"); (case kc9q => walk_at "con cls"); (case ht9q => k_asm); (case ks9q => walk_at "con led"); k_whole; intro x9 dx9 tp9 tb9 tw9 t8 pk9 k1 k2 k3 k4 k5 k6 k7 k8 t1 t2 t3 u1 u2 u3 n9 acc9 led9 h9 g9 tk9 ps9 V9 pl9 t9 F9 N9 b9; (simp only [List.cons_append, List.append_assoc] at N9); (try dsimp only))))
  (k_with "+mid fin" => ((refine' mid_end ?F9q ?N9q ?mr9q ?ma9q ?mh9q ?mt9q ?V9q ?m19q ?m29q ?m39q ?hvp9q ?hvb9q ?hz9q ?hy9q ?ba9q ?bb9q ?bc9q ?hr9q ?hs9q ?hX9q ?h39q ?ht9q ?ab9q; (case F9q => with_reducible assumption); (case N9q => with_reducible assumption); (case mr9q => with_unfolding_all rfl); (case ma9q => with_unfolding_all rfl); (case mh9q => with_unfolding_all rfl); (case mt9q => with_unfolding_all rfl); (case V9q => with_reducible assumption); (case m19q => k_mem); (case m29q => k_mem); (case m39q => k_mem); (case hvp9q => with_reducible assumption); (case hvb9q => with_reducible assumption); (case hz9q => with_reducible assumption); (case hy9q => with_reducible assumption); (case ba9q => with_reducible assumption); (case bb9q => with_reducible assumption); (case bc9q => with_reducible assumption); (case hr9q => walk_at "con led"); (case hs9q => walk_at "con led"); (case hX9q => walk_at "con led"); (case h39q => k_mem); (case ht9q => with_reducible assumption); (case ab9q => (intro hb; solve_by_elim)))))
  (k_with "+TurnPost" => ((refine' turn_end ?F9q ?N9q ?mh9q ?mv9q ?V9q ?m19q ?m29q ?m39q ?hvp9q ?hvb9q ?hz9q ?hy9q ?ba9q ?bb9q ?bc9q ?hs9q ?hX9q ?h39q ?ht9q ?ab9q; (case F9q => with_reducible assumption); (case N9q => with_reducible assumption); (case mh9q => with_unfolding_all rfl); (case mv9q => with_unfolding_all rfl); (case V9q => with_reducible assumption); (case m19q => k_mem); (case m29q => k_mem); (case m39q => k_mem); (case hvp9q => with_reducible assumption); (case hvb9q => with_reducible assumption); (case hz9q => with_reducible assumption); (case hy9q => with_reducible assumption); (case ba9q => with_reducible assumption); (case bb9q => with_reducible assumption); (case bc9q => with_reducible assumption); (case hs9q => walk_at "con led"); (case hX9q => walk_at "con led"); (case h39q => k_mem); (case ht9q => with_reducible assumption); (case ab9q => (intro hb; solve_by_elim)))))
  (k_with "+execs cons" => ((k_here; (with_reducible show wpAny _ _ (execs (Stmt.Assign [PySem.Expr.Name (Str.ofString "level") _] _ _ :: _) _) _ _ _); with_reducible (refine' disp _ _ _ _ _ _ _ _ _ _ _ _ _ _ _ _ HP _ _ _ _ _ _ _ _ _ _ _ _ _ _ _ _ _ _ _ _ _ _ _ _ _ _ _ _ _ _ _ _ _ _ _ _ _ _ _ _ C0 hvp hvb ?h39q ?h89q ?F9q ?md9q ?mv9q ?N9q ?hc9q ?m19q ?m29q ?m39q ?_; (case F9q => k_asm); (case N9q => k_asm); (case md9q => with_unfolding_all rfl); (case mv9q => with_unfolding_all rfl); (case h39q => decide); (case h89q => decide); (case hc9q => k_asm); (case m19q => k_mem); (case m29q => k_mem); (case m39q => k_mem)); intro h9 tk9 rest9 z9 tz9 va9 A9 B9 C9 zr9 yr9 p9 q9 u1 u2 u3 k1 k2 k3 wp9 wb9 cut9; (revert z9 A9 B9 C9 zr9 yr9); (refine cut7 ?_); intro F9 N9 hr9 hc9 n1' n2' n3' w1' w2'; (have hs9 := fun q hq => hr9 q (hs q hq)); (have hX9 := fun q hq => hr9 q (hX q hq)); (have ia9 := hr9 _ ia0); (have ib9 := hr9 _ ib0); (have va9' := hr9 _ m1); (have vp9' := hr9 _ m2); (have vb9' := hr9 _ m3); (try dsimp only))))
  (k_with "+subscriptTail Name Constant ref int" => ((k_here; (with_reducible show wpAny _ _ (subscriptTail _ _ (Value.ref _) (Value.int _ _)) _ _ _); k_dflt (refine' list_item ?N9q ?m9q ?e9q ?z9q ?b9q ?_; (case N9q => k_asm); (case m9q => k_mem); (case e9q => exact rfl); (case z9q => decide); (case b9q => exact Nat.le_of_ble_eq_true rfl)); (try dsimp only))))
  (k_with "+compareOp NotEq ref ref" => ((k_here; (with_reducible show wpAny _ _ (compareOp CmpOp.NotEq (Value.ref _) (Value.ref _)) _ _ _); k_dflt (refine' ne_strs0 ?N9q ?ma9q ?mb9q ?ho9q ?hx9q ?hz9q ?hu9q ?_; (case N9q => k_asm); (case ma9q => k_mem); (case mb9q => k_mem); (case ho9q => with_unfolding_all exact rfl); (case hx9q => k_asm); (case hz9q => k_asm); (case hu9q => ktr_units)))))
  (k_with "@k_enter" => ((refine' ConV.useVp (c_tr_major _ _ _ _ _ ?V9q ?hz9q) ?k19q ?k29q ?k39q ?kp9q ?kc9q ?ht9q ?k49q ?k59q ?kF9q ?kK9q ?kd9q ?ku9q ?ks9q ?_; walk_at "con vp")))
  exact True.intro
set_option maxHeartbeats 4000000 in
theorem mid7 (w : World) : MidFor w 7 := by
  refine mid_of ?_
  unfold MidIn
  k_fill
  refine' lawp_elim ?h1 ?_
  case h1 => k_is
  intro HP
  intro p loose mean mg mb dp un gd h₀ L fa cd E dr os i n t td tt x v p' q' a b c zp yp tl rest X t1 t2 t3 nv n1 n2 vp vb m h g tk ps dx0 j1 j2 j3 j4 j5 j6 j7 j8 z1 z2 z3 tp0 tb0 tk0 t80 n0 Q C0 KX B T hv1 hv2 hv3 hv4 HE HE2 hdp hun hi hn V0 ba bb bc hz hy hvp hvb F N hc m1 m2 m3 hs hX ht ia0 ib0 fa9 fb9 fc9 i0 s0 a0 b0 c0 rl rs lA lB lC hQ
  obtain ⟨gg, hgt⟩ : ∃ gg, gtV a 0 0 a b c (decide (zp = [])) = gg := ⟨_, rfl⟩
  have lz := bnd_0 (k := 10 ^ 30) (i := i) (by decide)
  have lz2 := bnd_0 (k := 12) (i := i) (by decide)
  clear ba bb bc
  k_steps
  all_goals first | (refine hQ _ ?_; walk_at "mid fin") | exact (dead_a hgt rfl (by omega) (by omega) (by with_reducible assumption) (by with_reducible assumption)).elim | exact (dead_b hgt rfl (by omega) (by omega) (by with_reducible assumption) (by with_reducible assumption)).elim
end
theorem kw2_Z7 : True := by
  k_with_none
  (k_with "+lt room" => (first | exact lt_r0 (by assumption) (by decide) | exact lt_rc (by assumption) (by decide) | exact lt_rd (by assumption) (by decide) | exact lt_z0 (by assumption)))
  (k_with "@ktr_room" => (walk_at "lt room"))
  (k_with "@ktr_units" => (walk_at "lt room"))
  (k_with "@units_room" => (walk_at "lt room"))
  (k_with "@k_room" => (ktr_room))
  (k_with "+con binds" => (first | exact fm_nilE (by exact rfl) | exact fm_some (by exact rfl) (by walk_at "con binds")))
  (k_with "+con enter" => ((k_dflt (refine' code_keep ?k19q ?k29q ?k39q ?k49q ?k59q ?kA9q ?kF9q ?kK9q ?k69q ?k79q ?k89q ?k99q ?kB9q ?_ ?c29q ?c39q ?c49q ?c59q; (case kA9q => exact rfl); (case kF9q => assumption); (case kK9q => assumption); (case k49q => k_asm); (case k19q => k_asm); (case k29q => k_asm); (case k39q => k_asm); (case k59q => k_asm); (case k69q => k_is); (case k79q => k_is); (case k89q => ktr_room); (case k99q => (refine' binds_to ?b99q ?e99q; (case b99q => first | exact BindsTo.of_eq rfl | exact binds_K (by k_in) rfl (by k_is) rfl rfl rfl | fail "con enter: no rule for these arguments"); (case e99q => first | (walk_at "con binds") | (walk_say "con enter: binds left as they are"; exact rfl)))); (case c59q => decide); (case kB9q => exact locs rfl); (case c29q => exact rfl); (case c39q => exact rfl); (case c49q => exact rfl); k_whole; intro g' L' h' FG' F' N' B' X' T' G0'; (try dsimp only); (try k_fold)))))
  (k_with "+con sub" => (repeat (first | exact sub_nil | refine sub_cons (by k_mem) ?_)))
  (k_with "+ite" => ((k_here; k_openite; with_reducible refine ite_isFalse (bne_self_eq_false _) ?_; walk_say "PRUNED same")))
  (k_with "+con sides" => (((case k39q => k_asm); (case k29q => k_asm); (case k19q => k_asm); (case k49q => k_asm); (case k59q => k_asm); (case kF9q => first | exact rfl | assumption); (case kK9q => first | exact rfl | assumption); (case kd9q => ktr_room); (case ku9q => ktr_units); (case ks9q => walk_at "con sub"))))
  (k_with "+ne close" => (first | assumption | exact Ne.symm (by assumption) | exact Nat.ne_of_lt (by assumption) | exact Nat.ne_of_gt (by assumption) | exact Nat.ne_of_lt (Nat.lt_trans (by assumption) (by assumption)) | exact Nat.ne_of_gt (Nat.lt_trans (by assumption) (by assumption)) | (rename _ ∧ _ => hh9; obtain ⟨_, _⟩ := hh9; walk_at "ne close")))
  (k_with "@k_ne" => ((refine neN ?_; (try dsimp only); with_reducible walk_at "ne close")))
  exact True.intro
end
section
section
theorem kw1_Z8 : True := by
  (k_with "@k_lt clear" => (skip))
  (k_with "@k_mem" => (first | with_reducible assumption | with_reducible exact List.mem_cons_self | (with_reducible refine List.mem_cons_of_mem _ ?_; k_mem) | (with_reducible refine List.mem_append_left _ ?_; k_mem) | (with_reducible refine List.mem_append_right _ ?_; k_mem)))
  (k_with "+fit" => (first | with_reducible assumption | exact fit12 _ | exact fit3 _ | exact fit30 _))
  (k_with "@ktr_units" => (first | exact lt_r0 (by assumption) (by decide) | exact lt_rc (by assumption) (by decide) | exact lt_rd (by assumption) (by decide) | exact lt_z0 (by assumption) | (have hcL9 := cLine_is; ((try simp only [units_under_kw, units_in1, units_deeper, Around.mark_units, units_caller] at *); (try dsimp only [ktrTop, topA] at *); omega))))
  (k_with "@k_units" => (ktr_units))
  (k_with "@k_in" => (first | with_reducible assumption | (refine' Frag.In.keeps ?ki99q (Fr.keep (by with_reducible assumption)); case ki9 => with_reducible assumption)))
  (k_with "+ite" => ((k_closed; with_reducible (first | refine ite_pos (by k_dflt decide) ?_ | refine ite_neg (by k_dflt decide) ?_))))
  (k_with "+binaryOp Mod int int" => ((k_here; (with_reducible show wpAny _ _ (binaryOp Operator.Mod (Value.int _ _) (Value.int 10 _)) _ _ _); k_dflt (refine mod_deed (by with_reducible assumption) ?_))))
  (k_with "+con led" => ((first | with_reducible assumption | ((repeat (refine sub_cons ?_ ?_; k_mem)); (first | with_reducible assumption | (intro q9 hq9; (repeat (first | exact hq9 | exact mem_of (by with_reducible assumption) hq9 | exact List.mem_append_left _ hq9 | exact List.mem_append_left _ (mem_of (by with_reducible assumption) hq9) | exact List.mem_append_left _ (List.mem_append_right _ hq9) | exact List.mem_append_left _ (List.mem_append_left _ (mem_of (by with_reducible assumption) hq9)) | refine List.mem_append_right _ ?_ | refine List.mem_cons_of_mem _ ?_))))))))
  (k_with "+con pick" => ((first | with_reducible exact Pick.here | exact Pick.there (by walk_at "con pick"))))
  (k_with "+con cls" => ((repeat (first | with_reducible assumption | (refine List.forall_mem_cons.mpr ⟨(fun e9 => nomatch e9), ?_⟩) | exact List.forall_mem_nil _ | (refine List.forall_mem_append.mpr ⟨?_, ?_⟩)))))
  (k_with "+con kp" => ((walk_at "con base"; (case kp9q => walk_at "con pick"); (case kc9q => walk_at "con cls"); (case ht9q => k_asm))))
  (k_with "+con ne" => ((k_whole; intro h9 g9 tk9 ps9 t9 F9 N9 b9; (try dsimp only [PySem.W.CmpBack]); (try dsimp only))))
  (k_with "+con base" => (((case k39q => k_asm); (case k29q => k_asm); (case k19q => k_asm); (case k49q => k_asm); (case k59q => k_asm); (case kF9q => first | exact rfl | assumption); (case kK9q => first | exact rfl | assumption); (case kd9q => ktr_room); (case ku9q => ktr_units))))
  (k_with "@k_enter" => ((refine' Con.useT (c_text0 _ _ _ _ ?ha9q ?hb9q ?hc9q ?hz9q ?hy9q ?hvp9q ?hvb9q) ?k19q ?k29q ?k39q ?k49q ?k59q ?kF9q ?kK9q ?kd9q ?ku9q ?ks9q ?_; walk_at "con base"; (case ks9q => walk_at "con sub"); (case hvp9q => k_asm); (case hvb9q => k_asm); (case hz9q => k_asm); (case hy9q => k_asm); (case ha9q => walk_at "fit"); (case hb9q => walk_at "fit"); (case hc9q => walk_at "fit"); k_whole; intro t9 h9 tk9 F9 N9; (try dsimp only [PySem.W.StrBack]); (try dsimp only))))
  (k_with "@k_enter" => ((refine' Con.useT (v_str _ ?V9q ?ha9q ?hb9q ?hc9q ?hz9q ?hy9q) ?k19q ?k29q ?k39q ?k49q ?k59q ?kF9q ?kK9q ?kd9q ?ku9q ?ks9q ?_; walk_at "con base"; (case V9q => k_asm); (case ks9q => walk_at "con led"); (case hz9q => k_asm); (case hy9q => k_asm); (case ha9q => walk_at "fit"); (case hb9q => walk_at "fit"); (case hc9q => walk_at "fit"); k_whole; intro t9 h9 tk9 F9 N9; (try dsimp only [PySem.W.StrBack]); (try dsimp only))))
  (k_with "@k_enter" => ((refine' Con.use0 (v_gtV _ ?V19q ?V29q ?rel9q ?hb9q) ?k19q ?k29q ?k39q ?k49q ?k59q ?kF9q ?kK9q ?kd9q ?ku9q (sub_two ?ks19q ?ks29q) ?_; walk_at "con base"; (case V19q => k_asm); (case V29q => k_asm); (case rel9q => k_asm); (case hb9q => k_asm); (case ks19q => walk_at "con led"); (case ks29q => walk_at "con led"); k_whole; intro h9 tk9 F9 N9; (try dsimp only [PySem.W.CmpBack]); (try dsimp only))))
  (k_with "@k_enter" => ((refine' Con.use0 (v_ltV _ ?V19q ?V29q ?rel9q ?hb9q) ?k19q ?k29q ?k39q ?k49q ?k59q ?kF9q ?kK9q ?kd9q ?ku9q (sub_two ?ks19q ?ks29q) ?_; walk_at "con base"; (case V19q => k_asm); (case V29q => k_asm); (case rel9q => k_asm); (case hb9q => k_asm); (case ks19q => walk_at "con led"); (case ks29q => walk_at "con led"); k_whole; intro h9 tk9 F9 N9; (try dsimp only [PySem.W.CmpBack]); (try dsimp only))))
  (k_with "+con vp" => (((case V9q => k_asm); (case hz9q => k_asm); walk_at "con base"; (case kp9q => walk_at "con pick"); (case kc9q => walk_at "con cls"); (case ht9q => k_asm); (case ks9q => walk_at "con led"); k_whole; intro x9 tl9 dx9 k1 k2 k3 k4 k5 k6 k7 k8 t1 t2 t3 tp9 tb9 tw9 t8 n9 h9 g9 tk9 ps9 V9 ia9 ib9 pl9 t9 F9 N9 b9; (try dsimp only))))
  (k_with "+con ver" => (((case V9q => k_asm); (case hz9q => k_asm); walk_at "con base"; (case kp9q => walk_at "con pick"); (case kc9q => walk_at "con cls"); (case ht9q => k_asm); (case ks9q => walk_at "con led"); k_whole; intro x9 dx9 tp9 tb9 tw9 t8 pk9 k1 k2 k3 k4 k5 k6 k7 k8 t1 t2 t3 u1 u2 u3 n9 acc9 led9 h9 g9 tk9 ps9 V9 pl9 t9 F9 N9 b9; (simp only [List.cons_append, List.append_assoc] at N9); (try dsimp only))))
  (k_with "+mid fin" => ((refine' mid_end ?F9q ?N9q ?mr9q ?ma9q ?mh9q ?mt9q ?V9q ?m19q ?m29q ?m39q ?hvp9q ?hvb9q ?hz9q ?hy9q ?ba9q ?bb9q ?bc9q ?hr9q ?hs9q ?hX9q ?h39q ?ht9q ?ab9q; (case F9q => with_reducible assumption); (case N9q => with_reducible assumption); (case mr9q => with_unfolding_all rfl); (case ma9q => with_unfolding_all rfl); (case mh9q => with_unfolding_all rfl); (case mt9q => with_unfolding_all rfl); (case V9q => with_reducible assumption); (case m19q => k_mem); (case m29q => k_mem); (case m39q => k_mem); (case hvp9q => with_reducible assumption); (case hvb9q => with_reducible assumption); (case hz9q => with_reducible assumption); (case hy9q => with_reducible assumption); (case ba9q => with_reducible assumption); (case bb9q => with_reducible assumption); (case bc9q => with_reducible assumption); (case hr9q => walk_at "con led"); (case hs9q => walk_at "con led"); (case hX9q => walk_at "con led"); (case h39q => k_mem); (case ht9q => with_reducible assumption); (case ab9q => (intro hb; solve_by_elim)))))
  (k_with "+TurnPost" => ((refine' turn_end ?F9q ?N9q ?mh9q ?mv9q ?V9q ?m19q ?m29q ?m39q ?hvp9q ?hvb9q ?hz9q ?hy9q ?ba9q ?bb9q ?bc9q ?hs9q ?hX9q ?h39q ?ht9q ?ab9q; (case F9q => with_reducible assumption); (case N9q => with_reducible assumption); (case mh9q => with_unfolding_all rfl); (case mv9q => with_unfolding_all rfl); (case V9q => with_reducible assumption); (case m19q => k_mem); (case m29q => k_mem); (case m39q => k_mem); (case hvp9q => with_reducible assumption); (case hvb9q => with_reducible assumption); (case hz9q => with_reducible assumption); (case hy9q => with_reducible assumption); (case ba9q => with_reducible assumption); (case bb9q => with_reducible assumption); (case bc9q => with_reducible assumption); (case hs9q => walk_at "con led"); (case hX9q => walk_at "con led"); (case h39q => k_mem); (case ht9q => with_reducible assumption); (case ab9q => (intro hb; solve_by_elim)))))
  (k_with "@kpc_piece" => (first | (refine KPc.after_add0 (by kpc_g) (by kpc_text) (by kpc_obj) ?_; intro _ _) | (refine KPc.after_add (by kpc_g) (by kpc_text) (by kpc_obj) ?_; intro _ _) | (refine KPc.after_str0 (by kpc_g) (by kpc_len) (by kpc_obj) ?_; intro _ _) | (refine KPc.after_str (by kpc_g) (by kpc_len) (by kpc_obj) ?_; intro _ _)))
  (k_with "+subscriptTail List cons" => ((k_here; k_dflt (refine kba_turn (value' := PySem.Expr.Name (PySem.Str.ofString "_") ⟨0, 0, 0, 0⟩) (fun _ => rfl) ?_))))
  (k_with "+subscriptTail Name BinOp ref int" => ((k_here; k_dflt (refine' bad_at ?N9q ?m9q ?o9q ?_; (case N9q => k_asm); (case m9q => k_mem); (case o9q => with_unfolding_all exact rfl)); intro z9 tz9 hz9; (have zn1 := hz9.n1); (have zn2 := hz9.n2); (have zn3 := hz9.n3); (have zn4 := hz9.n4); (have zn5 := hz9.n5); (have zl := hz9.len); (try dsimp only))))
  (k_with "+compareOp Eq str str" => ((k_here; refine eq_strF (by with_reducible assumption) ?_)))
  (k_with "+noteFrame ref" => ((k_here; (rename RaisedN _ _ _ _ _ _ => rkX); (refine caught_N0 (T' := "ValueError") (by assumption) (by assumption) (by assumption) (by assumption) (by k_asm) PyProof.Rows.Boot.«ValueError» PySem.F.isExc_ValueError PySem.F.notTuple_ValueError (by rw [isSubtype_type]; kernel_rfl) ?_ (h2 := by assumption) (h3 := by assumption) (h4 := by assumption) (h4c := by assumption) (hE := by solve_by_elim)); intro h' F' N'; (try k_sweep))))
  exact True.intro
set_option maxHeartbeats 4000000 in
theorem mid8 (w : World) : MidFor w 8 := by
  refine mid_of ?_
  unfold MidIn
  k_fill
  refine' lawp_elim ?h1 ?_
  case h1 => k_is
  intro HP
  intro p loose mean mg mb dp un gd h₀ L fa cd E dr os i n t td tt x v p' q' a b c zp yp tl rest X t1 t2 t3 nv n1 n2 vp vb m h g tk ps dx0 j1 j2 j3 j4 j5 j6 j7 j8 z1 z2 z3 tp0 tb0 tk0 t80 n0 Q C0 KX B T hv1 hv2 hv3 hv4 HE HE2 hdp hun hi hn V0 ba bb bc hz hy hvp hvb F N hc m1 m2 m3 hs hX ht ia0 ib0 fa9 fb9 fc9 i0 s0 a0 b0 c0 rl rs lA lB lC hQ
  clear ba bb bc
  k_steps
  all_goals (refine hQ _ ?_; walk_at "mid fin")
end
theorem kw2_Z8 : True := by
  k_with_none
  (k_with "+lt room" => (first | exact lt_r0 (by assumption) (by decide) | exact lt_rc (by assumption) (by decide) | exact lt_rd (by assumption) (by decide) | exact lt_z0 (by assumption)))
  (k_with "@ktr_room" => (walk_at "lt room"))
  (k_with "@ktr_units" => (walk_at "lt room"))
  (k_with "@units_room" => (walk_at "lt room"))
  (k_with "@k_room" => (ktr_room))
  (k_with "+con binds" => (first | exact fm_nilE (by exact rfl) | exact fm_some (by exact rfl) (by walk_at "con binds")))
  (k_with "+con enter" => ((k_dflt (refine' code_keep ?k19q ?k29q ?k39q ?k49q ?k59q ?kA9q ?kF9q ?kK9q ?k69q ?k79q ?k89q ?k99q ?kB9q ?_ ?c29q ?c39q ?c49q ?c59q; (case kA9q => exact rfl); (case kF9q => assumption); (case kK9q => assumption); (case k49q => k_asm); (case k19q => k_asm); (case k29q => k_asm); (case k39q => k_asm); (case k59q => k_asm); (case k69q => k_is); (case k79q => k_is); (case k89q => ktr_room); (case k99q => (refine' binds_to ?b99q ?e99q; (case b99q => first | exact BindsTo.of_eq rfl | exact binds_K (by k_in) rfl (by k_is) rfl rfl rfl | fail "con enter: no rule for these arguments"); (case e99q => first | (walk_at "con binds") | (walk_say "con enter: binds left as they are"; exact rfl)))); (case c59q => decide); (case kB9q => exact locs rfl); (case c29q => exact rfl); (case c39q => exact rfl); (case c49q => exact rfl); k_whole; intro g' L' h' FG' F' N' B' X' T' G0'; (try dsimp only); (try k_fold)))))
  (k_with "+con sub" => (repeat (first | exact sub_nil | refine sub_cons (by k_mem) ?_)))
  (k_with "+ite" => ((k_here; k_openite; with_reducible refine ite_isFalse (bne_self_eq_false _) ?_; walk_say "PRUNED same")))
  (k_with "+con sides" => (((case k39q => k_asm); (case k29q => k_asm); (case k19q => k_asm); (case k49q => k_asm); (case k59q => k_asm); (case kF9q => first | exact rfl | assumption); (case kK9q => first | exact rfl | assumption); (case kd9q => ktr_room); (case ku9q => ktr_units); (case ks9q => walk_at "con sub"))))
  (k_with "+ne close" => (first | assumption | exact Ne.symm (by assumption) | exact Nat.ne_of_lt (by assumption) | exact Nat.ne_of_gt (by assumption) | exact Nat.ne_of_lt (Nat.lt_trans (by assumption) (by assumption)) | exact Nat.ne_of_gt (Nat.lt_trans (by assumption) (by assumption)) | (rename _ ∧ _ => hh9; obtain ⟨_, _⟩ := hh9; walk_at "ne close")))
  (k_with "@k_ne" => ((refine neN ?_; (try dsimp only); with_reducible walk_at "ne close")))
  exact True.intro
end
section
section
theorem kw1_Z9 : True := by
  (k_with "@k_lt clear" => (skip))
  (k_with "@k_mem" => (first | with_reducible assumption | with_reducible exact List.mem_cons_self | (with_reducible refine List.mem_cons_of_mem _ ?_; k_mem) | (with_reducible refine List.mem_append_left _ ?_; k_mem) | (with_reducible refine List.mem_append_right _ ?_; k_mem)))
  (k_with "+fit" => (first | with_reducible assumption | exact fit12 _ | exact fit3 _ | exact fit30 _))
  (k_with "@ktr_units" => (first | exact lt_r0 (by assumption) (by decide) | exact lt_rc (by assumption) (by decide) | exact lt_rd (by assumption) (by decide) | exact lt_z0 (by assumption) | (have hcL9 := cLine_is; ((try simp only [units_under_kw, units_in1, units_deeper, Around.mark_units, units_caller] at *); (try dsimp only [ktrTop, topA] at *); omega))))
  (k_with "@k_units" => (ktr_units))
  (k_with "@k_in" => (first | with_reducible assumption | (refine' Frag.In.keeps ?ki99q (Fr.keep (by with_reducible assumption)); case ki9 => with_reducible assumption)))
  (k_with "+ite" => ((k_closed; with_reducible (first | refine ite_pos (by k_dflt decide) ?_ | refine ite_neg (by k_dflt decide) ?_))))
  (k_with "+binaryOp Mod int int" => ((k_here; (with_reducible show wpAny _ _ (binaryOp Operator.Mod (Value.int _ _) (Value.int 10 _)) _ _ _); k_dflt (refine mod_deed (by with_reducible assumption) ?_))))
  (k_with "+con led" => ((first | with_reducible assumption | ((repeat (refine sub_cons ?_ ?_; k_mem)); (first | with_reducible assumption | (intro q9 hq9; (repeat (first | exact hq9 | exact mem_of (by with_reducible assumption) hq9 | exact List.mem_append_left _ hq9 | exact List.mem_append_left _ (mem_of (by with_reducible assumption) hq9) | exact List.mem_append_left _ (List.mem_append_right _ hq9) | exact List.mem_append_left _ (List.mem_append_left _ (mem_of (by with_reducible assumption) hq9)) | refine List.mem_append_right _ ?_ | refine List.mem_cons_of_mem _ ?_))))))))
  (k_with "+con pick" => ((first | with_reducible exact Pick.here | exact Pick.there (by walk_at "con pick"))))
  (k_with "+con cls" => ((repeat (first | with_reducible assumption | (refine List.forall_mem_cons.mpr ⟨(fun e9 => nomatch e9), ?_⟩) | exact List.forall_mem_nil _ | (refine List.forall_mem_append.mpr ⟨?_, ?_⟩)))))
  (k_with "+con kp" => ((walk_at "con base"; (case kp9q => walk_at "con pick"); (case kc9q => walk_at "con cls"); (case ht9q => k_asm))))
  (k_with "+con ne" => ((k_whole; intro h9 g9 tk9 ps9 t9 F9 N9 b9; (try dsimp only [PySem.W.CmpBack]); (try dsimp only))))
  (k_with "+con base" => (((case k39q => k_asm); (case k29q => k_asm); (case k19q => k_asm); (case k49q => k_asm); (case k59q => k_asm); (case kF9q => first | exact rfl | assumption); (case kK9q => first | exact rfl | assumption); (case kd9q => ktr_room); (case ku9q => ktr_units))))
  (k_with "@k_enter" => ((refine' Con.useT (c_text0 _ _ _ _ ?ha9q ?hb9q ?hc9q ?hz9q ?hy9q ?hvp9q ?hvb9q) ?k19q ?k29q ?k39q ?k49q ?k59q ?kF9q ?kK9q ?kd9q ?ku9q ?ks9q ?_; walk_at "con base"; (case ks9q => walk_at "con sub"); (case hvp9q => k_asm); (case hvb9q => k_asm); (case hz9q => k_asm); (case hy9q => k_asm); (case ha9q => walk_at "fit"); (case hb9q => walk_at "fit"); (case hc9q => walk_at "fit"); k_whole; intro t9 h9 tk9 F9 N9; (try dsimp only [PySem.W.StrBack]); (try dsimp only))))
  (k_with "@k_enter" => ((refine' Con.useT (v_str _ ?V9q ?ha9q ?hb9q ?hc9q ?hz9q ?hy9q) ?k19q ?k29q ?k39q ?k49q ?k59q ?kF9q ?kK9q ?kd9q ?ku9q ?ks9q ?_; walk_at "con base"; (case V9q => k_asm); (case ks9q => walk_at "con led"); (case hz9q => k_asm); (case hy9q => k_asm); (case ha9q => walk_at "fit"); (case hb9q => walk_at "fit"); (case hc9q => walk_at "fit"); k_whole; intro t9 h9 tk9 F9 N9; (try dsimp only [PySem.W.StrBack]); (try dsimp only))))
  (k_with "@k_enter" => ((refine' Con.use0 (v_gtV _ ?V19q ?V29q ?rel9q ?hb9q) ?k19q ?k29q ?k39q ?k49q ?k59q ?kF9q ?kK9q ?kd9q ?ku9q (sub_two ?ks19q ?ks29q) ?_; walk_at "con base"; (case V19q => k_asm); (case V29q => k_asm); (case rel9q => k_asm); (case hb9q => k_asm); (case ks19q => walk_at "con led"); (case ks29q => walk_at "con led"); k_whole; intro h9 tk9 F9 N9; (try dsimp only [PySem.W.CmpBack]); (try dsimp only))))
  (k_with "@k_enter" => ((refine' Con.use0 (v_ltV _ ?V19q ?V29q ?rel9q ?hb9q) ?k19q ?k29q ?k39q ?k49q ?k59q ?kF9q ?kK9q ?kd9q ?ku9q (sub_two ?ks19q ?ks29q) ?_; walk_at "con base"; (case V19q => k_asm); (case V29q => k_asm); (case rel9q => k_asm); (case hb9q => k_asm); (case ks19q => walk_at "con led"); (case ks29q => walk_at "con led"); k_whole; intro h9 tk9 F9 N9; (try dsimp only [PySem.W.CmpBack]); (try dsimp only))))
  (k_with "+con vp" => (((case V9q => k_asm); (case hz9q => k_asm); walk_at "con base"; (case kp9q => walk_at "con pick"); (case kc9q => walk_at "con cls"); (case ht9q => k_asm); (case ks9q => walk_at "con led"); k_whole; intro x9 tl9 dx9 k1 k2 k3 k4 k5 k6 k7 k8 t1 t2 t3 tp9 tb9 tw9 t8 n9 h9 g9 tk9 ps9 V9 ia9 ib9 pl9 t9 F9 N9 b9; (try dsimp only))))
  (k_with "+con ver" => (((case V9q => k_asm); (case hz9q => k_asm); walk_at "con base"; (case kp9q => walk_at "con pick"); (case kc9q => walk_at "con cls"); (case ht9q => k_asm); (case ks9q => walk_at "con led"); k_whole; intro x9 dx9 tp9 tb9 tw9 t8 pk9 k1 k2 k3 k4 k5 k6 k7 k8 t1 t2 t3 u1 u2 u3 n9 acc9 led9 h9 g9 tk9 ps9 V9 pl9 t9 F9 N9 b9; (simp only [List.cons_append, List.append_assoc] at N9); (try dsimp only))))
  (k_with "+mid fin" => ((refine' mid_end ?F9q ?N9q ?mr9q ?ma9q ?mh9q ?mt9q ?V9q ?m19q ?m29q ?m39q ?hvp9q ?hvb9q ?hz9q ?hy9q ?ba9q ?bb9q ?bc9q ?hr9q ?hs9q ?hX9q ?h39q ?ht9q ?ab9q; (case F9q => with_reducible assumption); (case N9q => with_reducible assumption); (case mr9q => with_unfolding_all rfl); (case ma9q => with_unfolding_all rfl); (case mh9q => with_unfolding_all rfl); (case mt9q => with_unfolding_all rfl); (case V9q => with_reducible assumption); (case m19q => k_mem); (case m29q => k_mem); (case m39q => k_mem); (case hvp9q => with_reducible assumption); (case hvb9q => with_reducible assumption); (case hz9q => with_reducible assumption); (case hy9q => with_reducible assumption); (case ba9q => with_reducible assumption); (case bb9q => with_reducible assumption); (case bc9q => with_reducible assumption); (case hr9q => walk_at "con led"); (case hs9q => walk_at "con led"); (case hX9q => walk_at "con led"); (case h39q => k_mem); (case ht9q => with_reducible assumption); (case ab9q => (intro hb; solve_by_elim)))))
  (k_with "+TurnPost" => ((refine' turn_end ?F9q ?N9q ?mh9q ?mv9q ?V9q ?m19q ?m29q ?m39q ?hvp9q ?hvb9q ?hz9q ?hy9q ?ba9q ?bb9q ?bc9q ?hs9q ?hX9q ?h39q ?ht9q ?ab9q; (case F9q => with_reducible assumption); (case N9q => with_reducible assumption); (case mh9q => with_unfolding_all rfl); (case mv9q => with_unfolding_all rfl); (case V9q => with_reducible assumption); (case m19q => k_mem); (case m29q => k_mem); (case m39q => k_mem); (case hvp9q => with_reducible assumption); (case hvb9q => with_reducible assumption); (case hz9q => with_reducible assumption); (case hy9q => with_reducible assumption); (case ba9q => with_reducible assumption); (case bb9q => with_reducible assumption); (case bc9q => with_reducible assumption); (case hs9q => walk_at "con led"); (case hX9q => walk_at "con led"); (case h39q => k_mem); (case ht9q => with_reducible assumption); (case ab9q => (intro hb; solve_by_elim)))))
  (k_with "@k_enter" => ((refine' ConF.use (c_wordsof _ _ _ ?h09q ?h19q) ?k19q ?k29q ?k39q ?k49q ?k59q ?kF9q ?kK9q ?kd9q ?ku9q sub_nil ?_; (case h09q => exact fmod64_lo _); (case h19q => exact fmod64_hi _); walk_at "con base"; k_whole; intro r9 tl9 h9 tk9 p9; obtain ⟨D9, vs9, m9, s9⟩ := p9; intro c9 n9 F9 N9; (have i9 := ids_of s9); (dsimp only [List.cons_append, List.nil_append] at N9); (try dsimp only))))
  (k_with "+call ref" => ((k_here; k_dflt (refine wpAny_call ?_; refine' ConV.useVer (c_verT _ _ ?HT9q ?ha9q ?hb9q ?hc9q ?hz9q ?hy9q) ?k19q ?k29q ?k39q ?kp9q ?kc9q ?ht9q ?k49q ?k59q ?kF9q ?kK9q ?kd9q ?ku9q sub_nil ?_; (case HT9q => refine told ?_ ?_ ?_ ?_ ?_ <;> walk_at "fit"); (case ha9q => walk_at "fit"); (case hb9q => walk_at "fit"); (case hc9q => walk_at "fit"); (case hz9q => k_asm); (case hy9q => k_asm); walk_at "con base"; (case kp9q => walk_at "con pick"); (case kc9q => walk_at "con cls"); (case ht9q => k_asm); k_whole; intro x9 dx9 tp9 tb9 tw9 t8 pk9 k1 k2 k3 k4 k5 k6 k7 k8 t1 t2 t3 u1 u2 u3 n9 vp9 vb9 acc9 led9 h9 g9 tk9 ps9 V9 hvp9 hvb9 pl9 t9 F9 N9 b9; (simp only [List.cons_append, List.append_assoc] at N9); (try dsimp only)))))
  exact True.intro
set_option maxHeartbeats 4000000 in
theorem mid9 (w : World) : MidFor w 9 := by
  refine mid_of ?_
  unfold MidIn
  k_fill
  refine' lawp_elim ?h1 ?_
  case h1 => k_is
  intro HP
  intro p loose mean mg mb dp un gd h₀ L fa cd E dr os i n t td tt x v p' q' a b c zp yp tl rest X t1 t2 t3 nv n1 n2 vp vb m h g tk ps dx0 j1 j2 j3 j4 j5 j6 j7 j8 z1 z2 z3 tp0 tb0 tk0 t80 n0 Q C0 KX B T hv1 hv2 hv3 hv4 HE HE2 hdp hun hi hn V0 ba bb bc hz hy hvp hvb F N hc m1 m2 m3 hs hX ht ia0 ib0 fa9 fb9 fc9 i0 s0 a0 b0 c0 rl rs lA lB lC hQ
  clear ba bb bc
  k_steps
  all_goals (refine hQ _ ?_; walk_at "mid fin")
end
theorem kw2_Z9 : True := by
  k_with_none
  (k_with "+lt room" => (first | exact lt_r0 (by assumption) (by decide) | exact lt_rc (by assumption) (by decide) | exact lt_rd (by assumption) (by decide) | exact lt_z0 (by assumption)))
  (k_with "@ktr_room" => (walk_at "lt room"))
  (k_with "@ktr_units" => (walk_at "lt room"))
  (k_with "@units_room" => (walk_at "lt room"))
  (k_with "@k_room" => (ktr_room))
  (k_with "+con binds" => (first | exact fm_nilE (by exact rfl) | exact fm_some (by exact rfl) (by walk_at "con binds")))
  (k_with "+con enter" => ((k_dflt (refine' code_keep ?k19q ?k29q ?k39q ?k49q ?k59q ?kA9q ?kF9q ?kK9q ?k69q ?k79q ?k89q ?k99q ?kB9q ?_ ?c29q ?c39q ?c49q ?c59q; (case kA9q => exact rfl); (case kF9q => assumption); (case kK9q => assumption); (case k49q => k_asm); (case k19q => k_asm); (case k29q => k_asm); (case k39q => k_asm); (case k59q => k_asm); (case k69q => k_is); (case k79q => k_is); (case k89q => ktr_room); (case k99q => (refine' binds_to ?b99q ?e99q; (case b99q => first | exact BindsTo.of_eq rfl | exact binds_K (by k_in) rfl (by k_is) rfl rfl rfl | fail "con enter: no rule for these arguments"); (case e99q => first | (walk_at "con binds") | (walk_say "con enter: binds left as they are"; exact rfl)))); (case c59q => decide); (case kB9q => exact locs rfl); (case c29q => exact rfl); (case c39q => exact rfl); (case c49q => exact rfl); k_whole; intro g' L' h' FG' F' N' B' X' T' G0'; (try dsimp only); (try k_fold)))))
  (k_with "+con sub" => (repeat (first | exact sub_nil | refine sub_cons (by k_mem) ?_)))
  (k_with "+ite" => ((k_here; k_openite; with_reducible refine ite_isFalse (bne_self_eq_false _) ?_; walk_say "PRUNED same")))
  (k_with "+con sides" => (((case k39q => k_asm); (case k29q => k_asm); (case k19q => k_asm); (case k49q => k_asm); (case k59q => k_asm); (case kF9q => first | exact rfl | assumption); (case kK9q => first | exact rfl | assumption); (case kd9q => ktr_room); (case ku9q => ktr_units); (case ks9q => walk_at "con sub"))))
  (k_with "+ne close" => (first | assumption | exact Ne.symm (by assumption) | exact Nat.ne_of_lt (by assumption) | exact Nat.ne_of_gt (by assumption) | exact Nat.ne_of_lt (Nat.lt_trans (by assumption) (by assumption)) | exact Nat.ne_of_gt (Nat.lt_trans (by assumption) (by assumption)) | (rename _ ∧ _ => hh9; obtain ⟨_, _⟩ := hh9; walk_at "ne close")))
  (k_with "@k_ne" => ((refine neN ?_; (try dsimp only); with_reducible walk_at "ne close")))
  exact True.intro
end
section
/- the law, whole -/
noncomputable def LawBody (o : Option Obj) (qual : Str) (scope : Scope) (body : List Stmt) : Prop := FnSel bodyS o qual scope body
theorem law_loopbody {o : Option Obj} {oc : Value} {od : Option Addr} {name qual : Str} {params : Arguments} {scope : Scope} {s0 s1 s2 s3 : Stmt} {t it : PySem.Expr} {pos : Pos} {body rest : List Stmt} {dV kV doc pm cdv ct : Value} {an : Option Addr} {osl : Array (Option Value)}
    (h1 : o = some ⟨oc, od, .func (fnOf name qual params (s0 :: s1 :: s2 :: s3 :: .For t it body [] pos :: rest) scope dV kV doc pm an cdv ct), osl⟩) : LawFn o qual scope body := FnSel.of h1 rfl
theorem fin10 : ∀ k : Fin 10, ((k : Nat) : Int) = 0 ∨ ((k : Nat) : Int) = 1 ∨ ((k : Nat) : Int) = 2 ∨ ((k : Nat) : Int) = 3 ∨ ((k : Nat) : Int) = 4 ∨ ((k : Nat) : Int) = 5 ∨ ((k : Nat) : Int) = 6 ∨ ((k : Nat) : Int) = 7 ∨ ((k : Nat) : Int) = 8 ∨ ((k : Nat) : Int) = 9 := by decide
theorem fmod10 (n : Int) : n.fmod 10 = 0 ∨ n.fmod 10 = 1 ∨ n.fmod 10 = 2 ∨ n.fmod 10 = 3 ∨ n.fmod 10 = 4 ∨ n.fmod 10 = 5 ∨ n.fmod 10 = 6 ∨ n.fmod 10 = 7 ∨ n.fmod 10 = 8 ∨ n.fmod 10 = 9 := by
  obtain ⟨k, e⟩ := Int.eq_ofNat_of_zero_le (Int.fmod_nonneg_of_pos n (by decide : (0 : Int) < 10))
  have h1 := Int.fmod_lt_of_pos n (by decide : (0 : Int) < 10)
  rw [e] at h1 ⊢
  exact fin10 ⟨k, Int.ofNat_lt.mp h1⟩
/-- where the law's frame stands -/
noncomputable def TurnAny (w : World) : Prop := ∀ (qual : Str) (scope : Scope) (body : List Stmt), LawFn ((Mine.fr.heap_1 w.params).lookup 485) qual scope body →
  ∀ (p : Program) (loose : List Str) (mean : ExcName → Option Value) (mg mb : Str → Option Value) (dp un : Nat) (gd : Option (List Code)) (h₀ : Heap) (L fa : Addr) (cd : Value) (E : Value → Shared → Prop) (dr : Drawn) (os : OsState)
    (i : Nat) (n : Int) (t : Tok) (x v : Addr) (led X : List (Addr × Obj)) (m : Str → Option Value) (h : Heap) (g : Array GenState) (tk : Nat) (ps : Array Value),
    LawAt w p loose mean mg mb dp un gd qual scope h₀ L fa cd E → i < 8 → HeldAt w.params i x v led → m (Str.ofString "held") = some (.ref x) → m (Str.ofString "version") = some (.ref v) →
    Fr h₀ L h (fun y => if y = Str.ofString "number" then some (.int n t) else m y) → News h₀ L h ((383, tabObj ps) :: (led ++ X)) → (∀ q ∈ X, q.2.cls ≠ .none) → TriplesOk ps.toList →
    wpAny (model PySem.Challenge.rw_lh0061_01.row.prog w) ((baseA dp un gd).deeper (envOf qual scope L fa cd)) (execs body (envOf qual scope L fa cd)) (TurnPost w.params h₀ L (i + 1) X ⟨h, g, dr, tk, os⟩) E ⟨h, g, dr, tk, os⟩
noncomputable def LawTail (o : Option Obj) (qual : Str) (scope : Scope) (rest : List Stmt) : Prop := FnSel tail5 o qual scope rest
theorem law_tail {o : Option Obj} {oc : Value} {od : Option Addr} {name qual : Str} {params : Arguments} {scope : Scope} {s0 s1 s2 s3 s4 : Stmt} {rest : List Stmt} {dV kV doc pm cdv ct : Value} {an : Option Addr} {osl : Array (Option Value)}
    (h1 : o = some ⟨oc, od, .func (fnOf name qual params (s0 :: s1 :: s2 :: s3 :: s4 :: rest) scope dV kV doc pm an cdv ct), osl⟩) : LawTail o qual scope rest := FnSel.of h1 rfl
theorem tail_elim {o : Option Obj} {G : Str → Scope → List Stmt → Prop} {oc : Value} {od : Option Addr} {name qual : Str} {params : Arguments} {scope : Scope} {s0 s1 s2 s3 s4 : Stmt} {rest : List Stmt} {dV kV doc pm cdv ct : Value} {an : Option Addr} {osl : Array (Option Value)}
    (h1 : o = some ⟨oc, od, .func (fnOf name qual params (s0 :: s1 :: s2 :: s3 :: s4 :: rest) scope dV kV doc pm an cdv ct), osl⟩) (k : G qual scope rest) : ∀ (qual' : Str) (scope' : Scope) (rest' : List Stmt), LawTail o qual' scope' rest' → G qual' scope' rest' := fun _ _ _ HL => FnSel.elim HL h1 rfl fun _ => k
theorem body_elim {o : Option Obj} {G : Str → Scope → List Stmt → Prop} {oc : Value} {od : Option Addr} {name qual : Str} {params : Arguments} {scope : Scope} {body : List Stmt} {dV kV doc pm cdv ct : Value} {an : Option Addr} {osl : Array (Option Value)}
    (h1 : o = some ⟨oc, od, .func (fnOf name qual params body scope dV kV doc pm an cdv ct), osl⟩) (k : G qual scope body) : ∀ (qual' : Str) (scope' : Scope) (body' : List Stmt), LawBody o qual' scope' body' → G qual' scope' body' := fun _ _ _ HL => FnSel.elim HL h1 rfl fun _ => k
theorem turn_map2 {x v : Addr} {m : Str → Option Value} (mh : m (Str.ofString "held") = some (.ref x)) (mv : m (Str.ofString "version") = some (.ref v)) :
    m = fun y => if y = Str.ofString "held" then some (.ref x) else if y = Str.ofString "version" then some (.ref v) else m y := by
  funext y
  by_cases h2 : y = Str.ofString "held"
  · rw [if_pos h2, h2, mh]
  · rw [if_neg h2]
    by_cases h3 : y = Str.ofString "version"
    · rw [if_pos h3, h3, mv]
    · rw [if_neg h3]
theorem TurnAny.use {w : World} (turn : TurnAny w) {qual : Str} {scope : Scope} {body : List Stmt} (HL : LawFn ((Mine.fr.heap_1 w.params).lookup 485) qual scope body)
    {p : Program} {loose : List Str} {mean : ExcName → Option Value} {mg mb : Str → Option Value} {dp un : Nat} {gd : Option (List Code)} {h₀ : Heap} {L fa : Addr} {cd : Value} {E : Value → Shared → Prop} {dr : Drawn} {os : OsState}
    {i : Nat} {n : Int} {t : Tok} {x v : Addr} {led X : List (Addr × Obj)} {m : Str → Option Value} {h : Heap} {g : Array GenState} {tk : Nat} {ps : Array Value}
    (C : LawAt w p loose mean mg mb dp un gd qual scope h₀ L fa cd E) (hi : i < 8) (H : HeldAt w.params i x v led) (mh : m (Str.ofString "held") = some (.ref x)) (mv : m (Str.ofString "version") = some (.ref v))
    (F : Fr h₀ L h (fun y => if y = Str.ofString "number" then some (.int n t) else m y)) (N : News h₀ L h ((383, tabObj ps) :: (led ++ X))) (hX : ∀ q ∈ X, q.2.cls ≠ .none) (ht : TriplesOk ps.toList) :
    wpAny (model PySem.Challenge.rw_lh0061_01.row.prog w) ((baseA dp un gd).deeper (envOf qual scope L fa cd)) (execs body (envOf qual scope L fa cd)) (TurnPost w.params h₀ L (i + 1) X ⟨h, g, dr, tk, os⟩) E ⟨h, g, dr, tk, os⟩ :=
  turn _ _ _ HL p loose mean mg mb dp un gd h₀ L fa cd E dr os i n t x v led X m h g tk ps C hi H mh mv F N hX ht
theorem loop_head {P : Params} {h₀ h : Heap} {L : Addr} {news tl : List (Addr × Obj)} {g0 g : Array GenState} {dr : Drawn} {os : OsState} {tk : Nat} {m' : Str → Option Value} {x' v' p q l : Addr} {A B C : Int} {zr yr : List Str} {t1 t2 t3 : Tok} {n n1 n2 nl : Nat} {vp vb vs : List Value} {ns : List Int} {ps' : Array Value}
    (F : Fr h₀ L h m') (N : News h₀ L h news) (mh : m' (Str.ofString "held") = some (.ref x')) (mv : m' (Str.ofString "version") = some (.ref v')) (V : VerObj P A B C zr yr x' tl) (m1 : lawV v' A B C t1 t2 t3 p q n ∈ news) (m2 : (p, lstO vp n1) ∈ news) (m3 : (q, lstO vb n2) ∈ news)
    (hvp : StrsAre vp zr) (hvb : StrsAre vb yr) (hz : Ids zr) (hy : Ids yr) (ba : 0 ≤ A ∧ A < 12) (bb : 0 ≤ B ∧ B < 12) (bc : 0 ≤ C ∧ C < 10 ^ 30) (hs : ∀ q ∈ tl, q ∈ news) (ml : (l, lstO vs nl) ∈ news) (hi : IntsAre vs ns) (h8 : ns.length ≤ 8) (h3 : (383, tabObj ps') ∈ news) (ht : TriplesOk ps'.toList) (ab : AllBare g0 → AllBare g) :
    LoopHead P h₀ L g0 dr os (.ref l) ⟨h, g, dr, tk, os⟩ := by
  refine .mk l vs ns nl x' v' _ ps' m' _ _ _ hi h8 F mh mv (.mk (t1 := t1) (t2 := t2) (t3 := t3) (p := p) (q := q) (n := n) (n1 := n1) (n2 := n2) V ⟨ba.1, by have := ba.2; simpa using this⟩ ⟨bb.1, by have := bb.2; simpa using this⟩ ⟨bc.1, by have := bc.2; simpa using this⟩ hz hy hvp hvb) (fun y hy => N y ?_) ht ab
  simp only [List.mem_cons, List.cons_append, List.mem_append, List.not_mem_nil, or_false] at hy
  rcases hy with rfl | rfl | rfl | rfl | hy | rfl
  · exact h3
  · exact m1
  · exact m2
  · exact m3
  · exact hs y hy
  · exact ml
theorem bd12 (n : Int) : 0 ≤ n.fmod 12 ∧ n.fmod 12 < 12 := ⟨Int.fmod_nonneg_of_pos n (by decide), Int.fmod_lt_of_pos n (by decide)⟩
theorem bd3 (n : Int) : 0 ≤ n.fmod 3 ∧ n.fmod 3 < 10 ^ 30 := ⟨Int.fmod_nonneg_of_pos n (by decide), Int.lt_trans (Int.fmod_lt_of_pos n (by decide)) (by decide)⟩
theorem bd30 (n : Int) : 0 ≤ n.fmod (10 ^ 30) ∧ n.fmod (10 ^ 30) < 10 ^ 30 := ⟨Int.fmod_nonneg_of_pos n (by decide), Int.fmod_lt_of_pos n (by decide)⟩
theorem few8 {a b : Nat} {ns : List Int} (h : ns.length = min (min 10 a - 2) b) : ns.length ≤ 8 := h ▸ Nat.le_trans (Nat.min_le_left _ _) (Nat.sub_le_sub_right (Nat.min_le_left 10 a) 2)
theorem eqV_same (a b c : Int) (zp yp : List Str) : eqV a b c a b c zp yp zp yp = true := by simp [eqV]
theorem eqV_maj {a b c A B C : Int} {zp yp : List Str} (e : nMaj a b c zp = (A, B, C)) : eqV a b c A B C zp yp [] [] = false := by
  unfold nMaj at e
  split at e
  · rename_i h
    cases e
    simp [eqV, h.1]
  · cases e
    unfold eqV
    rw [decide_eq_false (by omega)]
theorem slice_ten {prog : Program} {w : World} {A : Around} {E : Value → Shared → Prop} {s : Shared} {h₀ : Heap} {L l : Addr} {m : Str → Option Value} {news : List (Addr × Obj)} {value slice : PySem.Expr} {vs : List Value} {ns : List Int} {vl vu : Value} {Q : Value → Shared → Prop}
    (F : Fr h₀ L s.heap m) (N : News h₀ L s.heap news) (hl : s.heap.IsList l vs.toArray) (hi : IntsAre vs ns) (pl : IsPart vl (some 2)) (pu : IsPart vu (some 10))
    (h : ∀ D ws ms h', Fr h₀ L h' m → News h₀ L h' ((D, lstO ws 0) :: news) → (∀ p ∈ news, p.1 < D) → IntsAre ws ms → ms.length ≤ 8 → Q (.ref D) { s with heap := h' })
    (hs : subscripted slice false (.ref l) (.ref s.heap.objs.size) = operate [.ref s.heap.objs.size, .ref l] (getItem (.ref l) (.ref s.heap.objs.size))) (ht : ∀ r, letTemporaryGo value (.ref l) r = pure ()) (hz : ns.length ≤ 63) :
    wpAny (model prog w) A (subscriptTail value slice (.ref l) (.ref s.heap.objs.size)) Q E { s with heap := s.heap.push { cls := .type "slice", data := .fields #[vl, vu, .none] } } := by
  refine kmk_slice F N hl pl pu (fun D h' F' N' l1 => ?_) hs ht (by rw [List.size_toArray, hi.length, sizeLine_eq]; exact Nat.le_trans hz (by decide))
  refine h D (slicePick vs.toArray (some 2) (some 10) none).toList _ h' F' ?_ l1 (kmk_run (x := 2) (y := 10) hi (by decide) (by decide)) ?_
  · rw [Array.toArray_toList]; exact N'
  · rw [List.length_take]
    exact Nat.le_trans (Nat.min_le_left _ _) (Nat.sub_le_sub_right (Nat.min_le_left 10 _) 2)
theorem truthy_ten {prog : Program} {w : World} {A : Around} {E : Value → Shared → Prop} {s : Shared} {h₀ : Heap} {L D : Addr} {news : List (Addr × Obj)} {ws : List Value} {ms : List Int} {n : Nat} {Q : Bool → Shared → Prop} (N : News h₀ L s.heap news) (hm : (D, lstO ws n) ∈ news) (hi : IntsAre ws ms) (h8 : ms.length ≤ 8)
    (h : Q (decide (0 < ms.length)) { s with toks := s.toks + 1 + 1 }) : wpAny (model prog w) A (truthy (.ref D)) Q E s := by
  refine wpAny_truthy_list (items := ws.toArray) ⟨_, (N _ hm).1, rfl, _, rfl⟩ (by rw [List.size_toArray, hi.length]; omega) ?_
  have e : (!ws.toArray.isEmpty) = decide (0 < ms.length) := by
    cases hi with
    | nil => rfl
    | cons i t h => simp
  rw [e]
  exact h
theorem For_lawL {w : World} {A : Around} {E : Value → Shared → Prop} {s : Shared} {env : Env} {h₀ : Heap} {L : Addr} {m0 : Str → Option Value} {body : List Stmt} {Q : Flow → Shared → Prop} {prog : Program} {px pos : Pos} {iter : PySem.Expr} (F0 : Fr h₀ L s.heap m0) (hL : env.locals = L) (hh : A.handled = none) (hx : env.kindOf (Str.ofString "number") = some .local)
    (hp : (env.scope.kind == .class || (env.scope.kind == .module && env.locals != env.globals)) = false)
    (turn : ∀ (i : Nat) (n : Int) (t : Tok) (x v : Addr) (led X : List (Addr × Obj)) (m : Str → Option Value) (h : Heap) (g : Array GenState) (tk : Nat) (ps : Array Value), i < 8 → HeldAt w.params i x v led → m (Str.ofString "held") = some (.ref x) → m (Str.ofString "version") = some (.ref v) →
      Fr h₀ L h (fun y => if y = Str.ofString "number" then some (.int n t) else m y) → News h₀ L h ((383, tabObj ps) :: (led ++ X)) → (∀ q ∈ X, q.2.cls ≠ .none) → TriplesOk ps.toList →
      wpAny (model prog w) A (execs body env) (TurnPost w.params h₀ L (i + 1) X ⟨h, g, s.drawn, tk, s.os⟩) E ⟨h, g, s.drawn, tk, s.os⟩)
    (done : ∀ (x v : Addr) (led : List (Addr × Obj)) (m : Str → Option Value) (h : Heap) (g : Array GenState) (tk : Nat) (ps : Array Value), HeldAt w.params 8 x v led → m (Str.ofString "held") = some (.ref x) → m (Str.ofString "version") = some (.ref v) → Fr h₀ L h m → News h₀ L h ((383, tabObj ps) :: led) → TriplesOk ps.toList → (AllBare s.gens → AllBare g) →
      Q .next ⟨h, g, s.drawn, tk, s.os⟩)
    (h : wpAny (model prog w) A (eval iter env) (LoopHead w.params h₀ L s.gens s.drawn s.os) E s)
    (hs : ∀ x, foldedSetIterable iter env x = pure x)
    (hE : PassesOwn (model prog w) A env E) :
    wpAny (model prog w) A (exec (.For (.Name (Str.ofString "number") px) iter body [] pos) env) Q E s := by
  subst hL
  exact For_law hh hx hp turn done h hs hE
section
variable {prog : Program} {w : World} {A : Around} {E : Value → Shared → Prop} {s : Shared} {Q : Value → Shared → Prop} {a : Int} {t u : Tok}
theorem pow_1030 (h : Q (.int (10 ^ 30) s.toks) { s with toks := s.toks + 1 }) : wpAny (model prog w) A (binaryOp .Pow (.int 10 t) (.int 30 u)) Q E s :=
  pow_int (a := 10) (n := 30) (by decide) (by decide +kernel) (by
    have e : (10 : Int) ^ (30 : Int).toNat = 10 ^ 30 := rfl
    rw [e]; exact h)
theorem mod_1030 (h : Q (.int (a.fmod (10 ^ 30)) s.toks) { s with toks := s.toks + 1 }) : wpAny (model prog w) A (binaryOp .Mod (.int a t) (.int (10 ^ 30) u)) Q E s := mod_int' (by decide) h
end
end
section
section
theorem kw1_Y7 : True := by
  (k_with "@k_lt clear" => (skip))
  (k_with "@k_mem" => (first | with_reducible assumption | with_reducible exact List.mem_cons_self | (with_reducible refine List.mem_cons_of_mem _ ?_; k_mem) | (with_reducible refine List.mem_append_left _ ?_; k_mem) | (with_reducible refine List.mem_append_right _ ?_; k_mem)))
  (k_with "+fit" => (first | with_reducible assumption | exact fit12 _ | exact fit3 _ | exact fit30 _))
  (k_with "@ktr_units" => (first | exact lt_r0 (by assumption) (by decide) | exact lt_rc (by assumption) (by decide) | exact lt_rd (by assumption) (by decide) | exact lt_z0 (by assumption) | (have hcL9 := cLine_is; ((try simp only [units_under_kw, units_in1, units_deeper, Around.mark_units, units_caller] at *); (try dsimp only [ktrTop, topA] at *); omega))))
  (k_with "@k_units" => (ktr_units))
  (k_with "@k_in" => (first | with_reducible assumption | (refine' Frag.In.keeps ?ki99q (Fr.keep (by with_reducible assumption)); case ki9 => with_reducible assumption)))
  (k_with "+ite" => ((k_closed; with_reducible (first | refine ite_pos (by k_dflt decide) ?_ | refine ite_neg (by k_dflt decide) ?_))))
  (k_with "+binaryOp Mod int int" => ((k_here; (with_reducible show wpAny _ _ (binaryOp Operator.Mod (Value.int _ _) (Value.int 10 _)) _ _ _); k_dflt (refine mod_deed (by with_reducible assumption) ?_))))
  (k_with "+con led" => ((first | with_reducible assumption | ((repeat (refine sub_cons ?_ ?_; k_mem)); (first | with_reducible assumption | (intro q9 hq9; (repeat (first | exact hq9 | exact mem_of (by with_reducible assumption) hq9 | exact List.mem_append_left _ hq9 | exact List.mem_append_left _ (mem_of (by with_reducible assumption) hq9) | exact List.mem_append_left _ (List.mem_append_right _ hq9) | exact List.mem_append_left _ (List.mem_append_left _ (mem_of (by with_reducible assumption) hq9)) | refine List.mem_append_right _ ?_ | refine List.mem_cons_of_mem _ ?_))))))))
  (k_with "+con pick" => ((first | with_reducible exact Pick.here | exact Pick.there (by walk_at "con pick"))))
  (k_with "+con cls" => ((repeat (first | with_reducible assumption | (refine List.forall_mem_cons.mpr ⟨(fun e9 => nomatch e9), ?_⟩) | exact List.forall_mem_nil _ | (refine List.forall_mem_append.mpr ⟨?_, ?_⟩)))))
  (k_with "+con kp" => ((walk_at "con base"; (case kp9q => walk_at "con pick"); (case kc9q => walk_at "con cls"); (case ht9q => k_asm))))
  (k_with "+con ne" => ((k_whole; intro h9 g9 tk9 ps9 t9 F9 N9 b9; (try dsimp only [PySem.W.CmpBack]); (try dsimp only))))
  (k_with "+con base" => (((case k39q => k_asm); (case k29q => k_asm); (case k19q => k_asm); (case k49q => k_asm); (case k59q => k_asm); (case kF9q => first | exact rfl | assumption); (case kK9q => first | exact rfl | assumption); (case kd9q => ktr_room); (case ku9q => ktr_units))))
  (k_with "@k_enter" => ((refine' Con.useT (c_text0 _ _ _ _ ?ha9q ?hb9q ?hc9q ?hz9q ?hy9q ?hvp9q ?hvb9q) ?k19q ?k29q ?k39q ?k49q ?k59q ?kF9q ?kK9q ?kd9q ?ku9q ?ks9q ?_; walk_at "con base"; (case ks9q => walk_at "con sub"); (case hvp9q => k_asm); (case hvb9q => k_asm); (case hz9q => k_asm); (case hy9q => k_asm); (case ha9q => walk_at "fit"); (case hb9q => walk_at "fit"); (case hc9q => walk_at "fit"); k_whole; intro t9 h9 tk9 F9 N9; (try dsimp only [PySem.W.StrBack]); (try dsimp only))))
  (k_with "@k_enter" => ((refine' Con.useT (v_str _ ?V9q ?ha9q ?hb9q ?hc9q ?hz9q ?hy9q) ?k19q ?k29q ?k39q ?k49q ?k59q ?kF9q ?kK9q ?kd9q ?ku9q ?ks9q ?_; walk_at "con base"; (case V9q => k_asm); (case ks9q => walk_at "con led"); (case hz9q => k_asm); (case hy9q => k_asm); (case ha9q => walk_at "fit"); (case hb9q => walk_at "fit"); (case hc9q => walk_at "fit"); k_whole; intro t9 h9 tk9 F9 N9; (try dsimp only [PySem.W.StrBack]); (try dsimp only))))
  (k_with "@k_enter" => ((refine' Con.use0 (v_gtV _ ?V19q ?V29q ?rel9q ?hb9q) ?k19q ?k29q ?k39q ?k49q ?k59q ?kF9q ?kK9q ?kd9q ?ku9q (sub_two ?ks19q ?ks29q) ?_; walk_at "con base"; (case V19q => k_asm); (case V29q => k_asm); (case rel9q => k_asm); (case hb9q => k_asm); (case ks19q => walk_at "con led"); (case ks29q => walk_at "con led"); k_whole; intro h9 tk9 F9 N9; (try dsimp only [PySem.W.CmpBack]); (try dsimp only))))
  (k_with "@k_enter" => ((refine' Con.use0 (v_ltV _ ?V19q ?V29q ?rel9q ?hb9q) ?k19q ?k29q ?k39q ?k49q ?k59q ?kF9q ?kK9q ?kd9q ?ku9q (sub_two ?ks19q ?ks29q) ?_; walk_at "con base"; (case V19q => k_asm); (case V29q => k_asm); (case rel9q => k_asm); (case hb9q => k_asm); (case ks19q => walk_at "con led"); (case ks29q => walk_at "con led"); k_whole; intro h9 tk9 F9 N9; (try dsimp only [PySem.W.CmpBack]); (try dsimp only))))
  (k_with "+con vp" => (((case V9q => k_asm); (case hz9q => k_asm); walk_at "con base"; (case kp9q => walk_at "con pick"); (case kc9q => walk_at "con cls"); (case ht9q => k_asm); (case ks9q => walk_at "con led"); k_whole; intro x9 tl9 dx9 k1 k2 k3 k4 k5 k6 k7 k8 t1 t2 t3 tp9 tb9 tw9 t8 n9 h9 g9 tk9 ps9 V9 ia9 ib9 pl9 t9 F9 N9 b9; (try dsimp only))))
  (k_with "+con ver" => (((case V9q => k_asm); (case hz9q => k_asm); walk_at "con base"; (case kp9q => walk_at "con pick"); (case kc9q => walk_at "con cls"); (case ht9q => k_asm); (case ks9q => walk_at "con led"); k_whole; intro x9 dx9 tp9 tb9 tw9 t8 pk9 k1 k2 k3 k4 k5 k6 k7 k8 t1 t2 t3 u1 u2 u3 n9 acc9 led9 h9 g9 tk9 ps9 V9 pl9 t9 F9 N9 b9; (simp only [List.cons_append, List.append_assoc] at N9); (try dsimp only))))
  (k_with "+mid fin" => ((refine' mid_end ?F9q ?N9q ?mr9q ?ma9q ?mh9q ?mt9q ?V9q ?m19q ?m29q ?m39q ?hvp9q ?hvb9q ?hz9q ?hy9q ?ba9q ?bb9q ?bc9q ?hr9q ?hs9q ?hX9q ?h39q ?ht9q ?ab9q; (case F9q => with_reducible assumption); (case N9q => with_reducible assumption); (case mr9q => with_unfolding_all rfl); (case ma9q => with_unfolding_all rfl); (case mh9q => with_unfolding_all rfl); (case mt9q => with_unfolding_all rfl); (case V9q => with_reducible assumption); (case m19q => k_mem); (case m29q => k_mem); (case m39q => k_mem); (case hvp9q => with_reducible assumption); (case hvb9q => with_reducible assumption); (case hz9q => with_reducible assumption); (case hy9q => with_reducible assumption); (case ba9q => with_reducible assumption); (case bb9q => with_reducible assumption); (case bc9q => with_reducible assumption); (case hr9q => walk_at "con led"); (case hs9q => walk_at "con led"); (case hX9q => walk_at "con led"); (case h39q => k_mem); (case ht9q => with_reducible assumption); (case ab9q => (intro hb; solve_by_elim)))))
  (k_with "+TurnPost" => ((refine' turn_end ?F9q ?N9q ?mh9q ?mv9q ?V9q ?m19q ?m29q ?m39q ?hvp9q ?hvb9q ?hz9q ?hy9q ?ba9q ?bb9q ?bc9q ?hs9q ?hX9q ?h39q ?ht9q ?ab9q; (case F9q => with_reducible assumption); (case N9q => with_reducible assumption); (case mh9q => with_unfolding_all rfl); (case mv9q => with_unfolding_all rfl); (case V9q => with_reducible assumption); (case m19q => k_mem); (case m29q => k_mem); (case m39q => k_mem); (case hvp9q => with_reducible assumption); (case hvb9q => with_reducible assumption); (case hz9q => with_reducible assumption); (case hy9q => with_reducible assumption); (case ba9q => with_reducible assumption); (case bb9q => with_reducible assumption); (case bc9q => with_reducible assumption); (case hs9q => walk_at "con led"); (case hX9q => walk_at "con led"); (case h39q => k_mem); (case ht9q => with_reducible assumption); (case ab9q => (intro hb; solve_by_elim)))))
  (k_with "@k_enter" => ((refine' ConF.use (c_lmajV _ ?hk9q ?e9q ?a09q ?b09q ?c09q ?hz9q ?hy9q ?hvp9q ?hvb9q) ?k19q ?k29q ?k39q ?k49q ?k59q ?kF9q ?kK9q ?kd9q ?ku9q ?ks9q ?_; walk_at "con base"; (case hk9q => exact rfl); (case ks9q => walk_at "con sub"); (case e9q => k_asm); (case hvp9q => k_asm); (case hvb9q => k_asm); (case hz9q => k_asm); (case hy9q => k_asm); (case a09q => k_asm); (case b09q => k_asm); (case c09q => k_asm); k_whole; intro r9 tl9 h9 tk9 p9; obtain ⟨D9, p8, q8, a1, a2, a3, m1, m2, m3⟩ := p9; intro c9 n9 F9 N9; (dsimp only [List.cons_append, List.nil_append] at N9); (try dsimp only))))
  (k_with "+call ref" => ((k_here; k_dflt (refine wpAny_call ?_; refine' ConV.useVer (c_verT _ _ ?HT9q ?ha9q ?hb9q ?hc9q ?hz9q ?hy9q) ?k19q ?k29q ?k39q ?kp9q ?kc9q ?ht9q ?k49q ?k59q ?kF9q ?kK9q ?kd9q ?ku9q sub_nil ?_; (case HT9q => refine told ?_ ?_ ?_ ?_ ?_ <;> walk_at "fit"); (case ha9q => walk_at "fit"); (case hb9q => walk_at "fit"); (case hc9q => walk_at "fit"); (case hz9q => k_asm); (case hy9q => k_asm); walk_at "con base"; (case kp9q => walk_at "con pick"); (case kc9q => walk_at "con cls"); (case ht9q => k_asm); k_whole; intro x9 dx9 tp9 tb9 tw9 t8 pk9 k1 k2 k3 k4 k5 k6 k7 k8 t1 t2 t3 u1 u2 u3 n9 vp9 vb9 acc9 led9 h9 g9 tk9 ps9 V9 hvp9 hvb9 pl9 t9 F9 N9 b9; (simp only [List.cons_append, List.append_assoc] at N9); (try dsimp only)))))
  (k_with "@k_enter" => ((refine' Con.use0 (v_eqV _ ?V19q ?V29q ?h19q ?h29q ?h39q ?h49q ?hb9q) ?k19q ?k29q ?k39q ?k49q ?k59q ?kF9q ?kK9q ?kd9q ?ku9q (sub_two ?ks19q ?ks29q) ?_; walk_at "con base"; (case V19q => with_reducible assumption); (case V29q => with_reducible assumption); (case h19q => with_reducible assumption); (case h29q => with_reducible assumption); (case h39q => with_reducible assumption); (case h49q => with_reducible assumption); (case hb9q => with_reducible assumption); (case ks19q => walk_at "con led"); (case ks29q => walk_at "con led"); k_whole; intro h9 tk9 F9 N9; (try dsimp only [PySem.W.CmpBack]); (try dsimp only))))
  exact True.intro
set_option maxHeartbeats 800000 in
theorem law_done (w : World) (qual : Str) (scope : Scope) (rest : List Stmt) (HL : LawTail ((Mine.fr.heap_1 w.params).lookup 485) qual scope rest)
    {p : Program} {loose : List Str} {mean : ExcName → Option Value} {mg mb : Str → Option Value} {dp un : Nat} {gd : Option (List Code)} {h₀ : Heap} {L fa : Addr} {cd : Value} {E : Value → Shared → Prop} {dr : Drawn} {os : OsState}
    {x v : Addr} {led : List (Addr × Obj)} {m : Str → Option Value} {h : Heap} {g : Array GenState} {tk : Nat} {ps : Array Value} {Q : Flow → Shared → Prop}
    (Cx : LawAt w p loose mean mg mb dp un gd qual scope h₀ L fa cd E) (H : HeldAt w.params 8 x v led) (mh : m (Str.ofString "held") = some (.ref x)) (mv : m (Str.ofString "version") = some (.ref v)) (F : Fr h₀ L h m) (N : News h₀ L h ((383, tabObj ps) :: led)) (ht : TriplesOk ps.toList) (gb : AllBare g)
    (hQ : ∀ h' g' tk' m' ps', Fr h₀ L h' m' → News h₀ L h' [(383, tabObj ps')] → AllBare g' → Q (.ret (.bool true)) ⟨h', g', dr, tk', os⟩) :
    wpAny (model PySem.Challenge.rw_lh0061_01.row.prog w) ((baseA dp un gd).deeper (envOf qual scope L fa cd)) (execs rest (envOf qual scope L fa cd)) Q E ⟨h, g, dr, tk, os⟩ := by
  have KX := Cx.X
  revert KX
  k_fill
  intro KX
  revert qual scope rest
  refine' tail_elim ?h1 ?_
  case h1 => k_is
  intro Cx
  have B := Cx.B
  have T := Cx.T
  have hdp := Cx.hd
  have hun := Cx.hu
  clear Cx
  cases H with
  | mk V ba bb bc hz hy hvp hvb =>
  rename_i p q a b c zp yp tl t1 t2 t3 nv n1 n2 vp vb
  have hpl := fun q hq => (ver_plain V q hq).2
  have V0 := V
  cases V with
  | mk hup hub k =>
  rename_i dx tp tb tk0 r0 pk k1 k2 k3 k4 k5 k6 k7 k8 u1 u2 u3 w1 w2 w3 nd up ub acc led
  have hled : ∀ q ∈ led, q.2.cls ≠ .none := fun q hq => hpl q (by simp [hq])
  clear hpl k
  rw [turn_map2 mh mv] at F
  clear mh mv
  have fa9 := fit_of 8 ba.1 ba.2 (Nat.le_refl _)
  have fb9 := fit_of 8 bb.1 bb.2 (Nat.le_refl _)
  have fc9 := fit_big 8 bc.1 bc.2 (Nat.le_refl _)
  have i0 : Ids [] := ⟨Nat.zero_le _, fun _ h => nomatch h⟩
  have s0 : StrsAre [] [] := .nil
  have a0 := ba.1
  have b0 := bb.1
  have c0 := bc.1
  obtain ⟨⟨A, B', C⟩, hABC⟩ : ∃ v, nMaj a b c zp = v := ⟨_, rfl⟩
  obtain ⟨lA, lB, lC⟩ := nMaj_lo hABC ba bb bc
  have fA : Fit A := ⟨lA.1, by omega⟩
  have fB : Fit B' := ⟨lB.1, by omega⟩
  have fC : Fit C := ⟨lC.1, by omega⟩
  have he1 := eqV_same a b c zp yp
  have he2 := eqV_maj (yp := yp) hABC
  k_steps
  (refine' hQ _ _ _ _ _ ?F ?N ?ab; (case F => with_reducible assumption); (case N => exact news_sub (by with_reducible assumption) (by walk_at "con sub")); (case ab => solve_by_elim))
end
theorem kw2_Y7 : True := by
  k_with_none
  (k_with "+lt room" => (first | exact lt_r0 (by assumption) (by decide) | exact lt_rc (by assumption) (by decide) | exact lt_rd (by assumption) (by decide) | exact lt_z0 (by assumption)))
  (k_with "@ktr_room" => (walk_at "lt room"))
  (k_with "@ktr_units" => (walk_at "lt room"))
  (k_with "@units_room" => (walk_at "lt room"))
  (k_with "@k_room" => (ktr_room))
  (k_with "+con binds" => (first | exact fm_nilE (by exact rfl) | exact fm_some (by exact rfl) (by walk_at "con binds")))
  (k_with "+con enter" => ((k_dflt (refine' code_keep ?k19q ?k29q ?k39q ?k49q ?k59q ?kA9q ?kF9q ?kK9q ?k69q ?k79q ?k89q ?k99q ?kB9q ?_ ?c29q ?c39q ?c49q ?c59q; (case kA9q => exact rfl); (case kF9q => assumption); (case kK9q => assumption); (case k49q => k_asm); (case k19q => k_asm); (case k29q => k_asm); (case k39q => k_asm); (case k59q => k_asm); (case k69q => k_is); (case k79q => k_is); (case k89q => ktr_room); (case k99q => (refine' binds_to ?b99q ?e99q; (case b99q => first | exact BindsTo.of_eq rfl | exact binds_K (by k_in) rfl (by k_is) rfl rfl rfl | fail "con enter: no rule for these arguments"); (case e99q => first | (walk_at "con binds") | (walk_say "con enter: binds left as they are"; exact rfl)))); (case c59q => decide); (case kB9q => exact locs rfl); (case c29q => exact rfl); (case c39q => exact rfl); (case c49q => exact rfl); k_whole; intro g' L' h' FG' F' N' B' X' T' G0'; (try dsimp only); (try k_fold)))))
  (k_with "+con sub" => (repeat (first | exact sub_nil | refine sub_cons (by k_mem) ?_)))
  (k_with "+ite" => ((k_here; k_openite; with_reducible refine ite_isFalse (bne_self_eq_false _) ?_; walk_say "PRUNED same")))
  (k_with "+con sides" => (((case k39q => k_asm); (case k29q => k_asm); (case k19q => k_asm); (case k49q => k_asm); (case k59q => k_asm); (case kF9q => first | exact rfl | assumption); (case kK9q => first | exact rfl | assumption); (case kd9q => ktr_room); (case ku9q => ktr_units); (case ks9q => walk_at "con sub"))))
  (k_with "+ne close" => (first | assumption | exact Ne.symm (by assumption) | exact Nat.ne_of_lt (by assumption) | exact Nat.ne_of_gt (by assumption) | exact Nat.ne_of_lt (Nat.lt_trans (by assumption) (by assumption)) | exact Nat.ne_of_gt (Nat.lt_trans (by assumption) (by assumption)) | (rename _ ∧ _ => hh9; obtain ⟨_, _⟩ := hh9; walk_at "ne close")))
  (k_with "@k_ne" => ((refine neN ?_; (try dsimp only); with_reducible walk_at "ne close")))
  exact True.intro
end
section
section
theorem kw1_Y6 : True := by
  (k_with "@k_lt clear" => (skip))
  (k_with "@k_mem" => (first | with_reducible assumption | with_reducible exact List.mem_cons_self | (with_reducible refine List.mem_cons_of_mem _ ?_; k_mem) | (with_reducible refine List.mem_append_left _ ?_; k_mem) | (with_reducible refine List.mem_append_right _ ?_; k_mem)))
  (k_with "+fit" => (first | with_reducible assumption | exact fit12 _ | exact fit3 _ | exact fit30 _))
  (k_with "@ktr_units" => (first | exact lt_r0 (by assumption) (by decide) | exact lt_rc (by assumption) (by decide) | exact lt_rd (by assumption) (by decide) | exact lt_z0 (by assumption) | (have hcL9 := cLine_is; ((try simp only [units_under_kw, units_in1, units_deeper, Around.mark_units, units_caller] at *); (try dsimp only [ktrTop, topA] at *); omega))))
  (k_with "@k_units" => (ktr_units))
  (k_with "@k_in" => (first | with_reducible assumption | (refine' Frag.In.keeps ?ki99q (Fr.keep (by with_reducible assumption)); case ki9 => with_reducible assumption)))
  (k_with "+ite" => ((k_closed; with_reducible (first | refine ite_pos (by k_dflt decide) ?_ | refine ite_neg (by k_dflt decide) ?_))))
  (k_with "+binaryOp Mod int int" => ((k_here; (with_reducible show wpAny _ _ (binaryOp Operator.Mod (Value.int _ _) (Value.int 10 _)) _ _ _); k_dflt (refine mod_deed (by with_reducible assumption) ?_))))
  (k_with "+con led" => ((first | with_reducible assumption | ((repeat (refine sub_cons ?_ ?_; k_mem)); (first | with_reducible assumption | (intro q9 hq9; (repeat (first | exact hq9 | exact mem_of (by with_reducible assumption) hq9 | exact List.mem_append_left _ hq9 | exact List.mem_append_left _ (mem_of (by with_reducible assumption) hq9) | exact List.mem_append_left _ (List.mem_append_right _ hq9) | exact List.mem_append_left _ (List.mem_append_left _ (mem_of (by with_reducible assumption) hq9)) | refine List.mem_append_right _ ?_ | refine List.mem_cons_of_mem _ ?_))))))))
  (k_with "+con pick" => ((first | with_reducible exact Pick.here | exact Pick.there (by walk_at "con pick"))))
  (k_with "+con cls" => ((repeat (first | with_reducible assumption | (refine List.forall_mem_cons.mpr ⟨(fun e9 => nomatch e9), ?_⟩) | exact List.forall_mem_nil _ | (refine List.forall_mem_append.mpr ⟨?_, ?_⟩)))))
  (k_with "+con kp" => ((walk_at "con base"; (case kp9q => walk_at "con pick"); (case kc9q => walk_at "con cls"); (case ht9q => k_asm))))
  (k_with "+con ne" => ((k_whole; intro h9 g9 tk9 ps9 t9 F9 N9 b9; (try dsimp only [PySem.W.CmpBack]); (try dsimp only))))
  (k_with "+con base" => (((case k39q => k_asm); (case k29q => k_asm); (case k19q => k_asm); (case k49q => k_asm); (case k59q => k_asm); (case kF9q => first | exact rfl | assumption); (case kK9q => first | exact rfl | assumption); (case kd9q => ktr_room); (case ku9q => ktr_units))))
  (k_with "@k_enter" => ((refine' Con.useT (c_text0 _ _ _ _ ?ha9q ?hb9q ?hc9q ?hz9q ?hy9q ?hvp9q ?hvb9q) ?k19q ?k29q ?k39q ?k49q ?k59q ?kF9q ?kK9q ?kd9q ?ku9q ?ks9q ?_; walk_at "con base"; (case ks9q => walk_at "con sub"); (case hvp9q => k_asm); (case hvb9q => k_asm); (case hz9q => k_asm); (case hy9q => k_asm); (case ha9q => walk_at "fit"); (case hb9q => walk_at "fit"); (case hc9q => walk_at "fit"); k_whole; intro t9 h9 tk9 F9 N9; (try dsimp only [PySem.W.StrBack]); (try dsimp only))))
  (k_with "@k_enter" => ((refine' Con.useT (v_str _ ?V9q ?ha9q ?hb9q ?hc9q ?hz9q ?hy9q) ?k19q ?k29q ?k39q ?k49q ?k59q ?kF9q ?kK9q ?kd9q ?ku9q ?ks9q ?_; walk_at "con base"; (case V9q => k_asm); (case ks9q => walk_at "con led"); (case hz9q => k_asm); (case hy9q => k_asm); (case ha9q => walk_at "fit"); (case hb9q => walk_at "fit"); (case hc9q => walk_at "fit"); k_whole; intro t9 h9 tk9 F9 N9; (try dsimp only [PySem.W.StrBack]); (try dsimp only))))
  (k_with "@k_enter" => ((refine' Con.use0 (v_gtV _ ?V19q ?V29q ?rel9q ?hb9q) ?k19q ?k29q ?k39q ?k49q ?k59q ?kF9q ?kK9q ?kd9q ?ku9q (sub_two ?ks19q ?ks29q) ?_; walk_at "con base"; (case V19q => k_asm); (case V29q => k_asm); (case rel9q => k_asm); (case hb9q => k_asm); (case ks19q => walk_at "con led"); (case ks29q => walk_at "con led"); k_whole; intro h9 tk9 F9 N9; (try dsimp only [PySem.W.CmpBack]); (try dsimp only))))
  (k_with "@k_enter" => ((refine' Con.use0 (v_ltV _ ?V19q ?V29q ?rel9q ?hb9q) ?k19q ?k29q ?k39q ?k49q ?k59q ?kF9q ?kK9q ?kd9q ?ku9q (sub_two ?ks19q ?ks29q) ?_; walk_at "con base"; (case V19q => k_asm); (case V29q => k_asm); (case rel9q => k_asm); (case hb9q => k_asm); (case ks19q => walk_at "con led"); (case ks29q => walk_at "con led"); k_whole; intro h9 tk9 F9 N9; (try dsimp only [PySem.W.CmpBack]); (try dsimp only))))
  (k_with "+con vp" => (((case V9q => k_asm); (case hz9q => k_asm); walk_at "con base"; (case kp9q => walk_at "con pick"); (case kc9q => walk_at "con cls"); (case ht9q => k_asm); (case ks9q => walk_at "con led"); k_whole; intro x9 tl9 dx9 k1 k2 k3 k4 k5 k6 k7 k8 t1 t2 t3 tp9 tb9 tw9 t8 n9 h9 g9 tk9 ps9 V9 ia9 ib9 pl9 t9 F9 N9 b9; (try dsimp only))))
  (k_with "+con ver" => (((case V9q => k_asm); (case hz9q => k_asm); walk_at "con base"; (case kp9q => walk_at "con pick"); (case kc9q => walk_at "con cls"); (case ht9q => k_asm); (case ks9q => walk_at "con led"); k_whole; intro x9 dx9 tp9 tb9 tw9 t8 pk9 k1 k2 k3 k4 k5 k6 k7 k8 t1 t2 t3 u1 u2 u3 n9 acc9 led9 h9 g9 tk9 ps9 V9 pl9 t9 F9 N9 b9; (simp only [List.cons_append, List.append_assoc] at N9); (try dsimp only))))
  (k_with "+mid fin" => ((refine' mid_end ?F9q ?N9q ?mr9q ?ma9q ?mh9q ?mt9q ?V9q ?m19q ?m29q ?m39q ?hvp9q ?hvb9q ?hz9q ?hy9q ?ba9q ?bb9q ?bc9q ?hr9q ?hs9q ?hX9q ?h39q ?ht9q ?ab9q; (case F9q => with_reducible assumption); (case N9q => with_reducible assumption); (case mr9q => with_unfolding_all rfl); (case ma9q => with_unfolding_all rfl); (case mh9q => with_unfolding_all rfl); (case mt9q => with_unfolding_all rfl); (case V9q => with_reducible assumption); (case m19q => k_mem); (case m29q => k_mem); (case m39q => k_mem); (case hvp9q => with_reducible assumption); (case hvb9q => with_reducible assumption); (case hz9q => with_reducible assumption); (case hy9q => with_reducible assumption); (case ba9q => with_reducible assumption); (case bb9q => with_reducible assumption); (case bc9q => with_reducible assumption); (case hr9q => walk_at "con led"); (case hs9q => walk_at "con led"); (case hX9q => walk_at "con led"); (case h39q => k_mem); (case ht9q => with_reducible assumption); (case ab9q => (intro hb; solve_by_elim)))))
  (k_with "+TurnPost" => ((refine' turn_end ?F9q ?N9q ?mh9q ?mv9q ?V9q ?m19q ?m29q ?m39q ?hvp9q ?hvb9q ?hz9q ?hy9q ?ba9q ?bb9q ?bc9q ?hs9q ?hX9q ?h39q ?ht9q ?ab9q; (case F9q => with_reducible assumption); (case N9q => with_reducible assumption); (case mh9q => with_unfolding_all rfl); (case mv9q => with_unfolding_all rfl); (case V9q => with_reducible assumption); (case m19q => k_mem); (case m29q => k_mem); (case m39q => k_mem); (case hvp9q => with_reducible assumption); (case hvb9q => with_reducible assumption); (case hz9q => with_reducible assumption); (case hy9q => with_reducible assumption); (case ba9q => with_reducible assumption); (case bb9q => with_reducible assumption); (case bc9q => with_reducible assumption); (case hs9q => walk_at "con led"); (case hX9q => walk_at "con led"); (case h39q => k_mem); (case ht9q => with_reducible assumption); (case ab9q => (intro hb; solve_by_elim)))))
  (k_with "+eval Name" => ((k_here; k_dflt (first | (refine' nameX_L ?F9q ?v9q ?_ ?a9q ?b9q ?d9q; (case F9q => k_asm); (case b9q => kernel_rfl!); (case a9q => kernel_rfl!); (case d9q => kernel_rfl!); (case v9q => rfl); k_whole) | (refine' nameX_K ?F9q ?X9q ?T9q ?e9q ?_ ?a9q ?b9q ?d9q; (case F9q => k_asm); (case X9q => k_asm); (case T9q => k_asm); (case b9q => kernel_rfl!); (case a9q => kernel_rfl!); (case d9q => kernel_rfl!); (case e9q => k_is); k_whole) | (refine' nameX_B ?F9q ?X9q ?T9q ?e9q ?v9q ?n9q ?_ ?a9q ?b9q ?d9q; (case F9q => k_asm); (case X9q => k_asm); (case T9q => k_asm); (case b9q => kernel_rfl!); (case a9q => kernel_rfl!); (case d9q => kernel_rfl!); (case e9q => k_is); (case v9q => boot_fast); (case n9q => decide); k_whole)))))
  (k_with "@k_enter" => ((refine' ConF.use (c_wordsof _ _ _ ?h09q ?h19q) ?k19q ?k29q ?k39q ?k49q ?k59q ?kF9q ?kK9q ?kd9q ?ku9q sub_nil ?_; (case h09q => exact fmod64_lo _); (case h19q => exact fmod64_hi _); walk_at "con base"; k_whole; intro r9 tl9 h9 tk9 p9; obtain ⟨D9, vs9, m9, s9⟩ := p9; intro c9 n9 F9 N9; (have i9 := ids_of s9); (dsimp only [List.cons_append, List.nil_append] at N9); (try dsimp only))))
  (k_with "+call ref" => ((k_here; k_dflt (refine wpAny_call ?_; refine' ConV.useVer (c_verT _ _ ?HT9q ?ha9q ?hb9q ?hc9q ?hz9q ?hy9q) ?k19q ?k29q ?k39q ?kp9q ?kc9q ?ht9q ?k49q ?k59q ?kF9q ?kK9q ?kd9q ?ku9q sub_nil ?_; (case HT9q => refine told ?_ ?_ ?_ ?_ ?_ <;> walk_at "fit"); (case ha9q => walk_at "fit"); (case hb9q => walk_at "fit"); (case hc9q => walk_at "fit"); (case hz9q => k_asm); (case hy9q => k_asm); walk_at "con base"; (case kp9q => walk_at "con pick"); (case kc9q => walk_at "con cls"); (case ht9q => k_asm); k_whole; intro x9 dx9 tp9 tb9 tw9 t8 pk9 k1 k2 k3 k4 k5 k6 k7 k8 t1 t2 t3 u1 u2 u3 n9 vp9 vb9 acc9 led9 h9 g9 tk9 ps9 V9 hvp9 hvb9 pl9 t9 F9 N9 b9; (simp only [List.cons_append, List.append_assoc] at N9); (try dsimp only)))))
  (k_with "+subscriptTail BinOp" => ((k_here; k_dflt (refine kba_turn (value' := PySem.Expr.Name (PySem.Str.ofString "_") ⟨0, 0, 0, 0⟩) (fun _ => rfl) ?_))))
  (k_with "+subscriptTail Name Slice ref ref" => ((k_here; (with_reducible show wpAny _ _ (subscriptTail _ (PySem.Expr.Slice none _ none _) (Value.ref _) (Value.ref _)) _ _ _); k_dflt (refine' slice_two ?F9q ?N9q ?l9q ?i9q ?h29q ?p9q ?q9q ?_ ?s9q ?t9q ?z9q; (case F9q => k_asm); (case N9q => k_asm); (case l9q => kmk_list); (case p9q => kmk_part); (case q9q => kmk_part); (case i9q => l_ints); (case h29q => (simp only [List.length_append, List.length_cons, List.length_nil]; omega)); (case s9q => with_unfolding_all rfl); (case t9q => kmk_pure); (case z9q => kmk_size)); intro D' a' b' ta' tb' h' F' N' l1; (try k_lt l1); (try k_sweep))))
  (k_with "+subscriptTail" => ((k_here; (with_reducible show wpAny _ _ (subscriptTail _ (PySem.Expr.Slice none _ none _) (Value.ref _) (Value.ref _)) _ _ _); k_dflt (refine' slice_two ?F9q ?N9q ?l9q ?i9q ?h29q ?p9q ?q9q ?_ ?s9q ?t9q ?z9q; (case F9q => k_asm); (case N9q => k_asm); (case l9q => kmk_list); (case p9q => kmk_part); (case q9q => kmk_part); (case i9q => l_ints); (case h29q => (simp only [List.length_append, List.length_cons, List.length_nil]; omega)); (case s9q => with_unfolding_all rfl); (case t9q => kmk_pure); (case z9q => kmk_size)); intro D' a' b' ta' tb' h' F' N' l1; (try k_lt l1); (try k_sweep))))
  (k_with "+subscriptTail" => ((k_here; (with_reducible show wpAny _ _ (subscriptTail _ (PySem.Expr.Slice (some _) _ none _) (Value.ref _) (Value.ref _)) _ _ _); k_dflt (refine' slice_ten ?F9q ?N9q ?l9q ?i9q ?p9q ?q9q ?_ ?s9q ?t9q ?z9q; (case F9q => k_asm); (case N9q => k_asm); (case l9q => kmk_list); (case p9q => kmk_part); (case q9q => kmk_part); (case i9q => with_reducible assumption); (case s9q => with_unfolding_all rfl); (case t9q => kmk_pure); (case z9q => with_reducible assumption)); intro D' ws' ms' h' F' N' l1 hI' hc'; (try k_lt l1); (try k_sweep))))
  (k_with "+subscriptTail Name Slice ref ref" => ((k_here; (with_reducible show wpAny _ _ (subscriptTail _ (PySem.Expr.Slice (some _) _ none _) (Value.ref _) (Value.ref _)) _ _ _); k_dflt (refine' slice_ten ?F9q ?N9q ?l9q ?i9q ?p9q ?q9q ?_ ?s9q ?t9q ?z9q; (case F9q => k_asm); (case N9q => k_asm); (case l9q => kmk_list); (case p9q => kmk_part); (case q9q => kmk_part); (case i9q => with_reducible assumption); (case s9q => with_unfolding_all rfl); (case t9q => kmk_pure); (case z9q => with_reducible assumption)); intro D' ws' ms' h' F' N' l1 hI' hc'; (try k_lt l1); (try k_sweep))))
  (k_with "+truthy ref" => ((k_here; (with_reducible show wpAny _ _ (truthy (Value.ref _)) _ _ _); k_dflt (refine' truthy_ten ?N9q ?m9q ?i9q ?z9q ?_; (case N9q => k_asm); (case m9q => k_mem); (case i9q => with_reducible assumption); (case z9q => with_reducible assumption)))))
  (k_with "+binaryOp Pow int int" => ((k_here; (with_reducible refine pow_1030 ?_))))
  (k_with "+binaryOp Mod int int" => ((k_here; (with_reducible refine mod_1030 ?_))))
  (k_with "+LoopHead" => ((refine' loop_head ?F9q ?N9q ?mh9q ?mv9q ?V9q ?m19q ?m29q ?m39q ?hvp9q ?hvb9q ?hz9q ?hy9q ?ba9q ?bb9q ?bc9q ?hs9q ?ml9q ?hi9q ?h89q ?h39q ?ht9q ?ab9q; (case F9q => with_reducible assumption); (case N9q => with_reducible assumption); (case mh9q => with_unfolding_all rfl); (case mv9q => with_unfolding_all rfl); (case V9q => with_reducible assumption); (case m19q => k_mem); (case m29q => k_mem); (case m39q => k_mem); (case hvp9q => with_reducible assumption); (case hvb9q => with_reducible assumption); (case hz9q => with_reducible assumption); (case hy9q => with_reducible assumption); (case ba9q => exact bd12 _); (case bb9q => exact bd12 _); (case bc9q => first | exact bd3 _ | exact bd30 _); (case hs9q => walk_at "con led"); (case ml9q => k_mem); (case hi9q => l_ints); (case h89q => first | omega | exact Nat.le_of_ble_eq_true rfl); (case h39q => k_mem); (case ht9q => with_reducible assumption); (case ab9q => exact fun hb => hb))))
  (k_with "+law for" => ((refine' For_lawL ?F09q ?hL9q ?hh9q ?hx9q ?hp9q ?turn9q ?done9q ?_ ?hs9q ?hE9q; (case F09q => with_reducible assumption); (case hL9q => exact rfl); (case hh9q => exact rfl); (case hx9q => exact rfl); (case hp9q => exact rfl); (case hs9q => (intro _; exact rfl)); (case hE9q => with_reducible assumption); (case turn9q => (intro i n t x v led X m h g tk ps hi H mh mv F N hX ht; exact TurnAny.use (by with_reducible assumption) (law_loopbody (by k_is)) (by with_reducible assumption) hi H mh mv F N hX ht)); (case done9q => (intro x v led m h g tk ps H mh mv F N ht ab; exact law_done _ _ _ _ (law_tail (by k_is)) (by with_reducible assumption) H mh mv F N ht (ab (by solve_by_elim)) (by with_reducible assumption))); k_whole)))
  (k_with "+exec For Name BoolOp cons nil" => ((k_here; walk_at "law for")))
  exact True.intro
set_option maxHeartbeats 4000000 in
theorem law_walk (w : World) (turn : TurnAny w) (qual : Str) (scope : Scope) (body : List Stmt) (HL : LawBody ((Mine.fr.heap_1 w.params).lookup 485) qual scope body)
    {p : Program} {loose : List Str} {mean : ExcName → Option Value} {mg mb : Str → Option Value} {dp un : Nat} {gd : Option (List Code)} {h₀ : Heap} {L fa : Addr} {cd : Value} {E : Value → Shared → Prop} {dr : Drawn} {os : OsState}
    {vs : List Value} {ns : List Int} {l : Addr} {m : Str → Option Value} {h : Heap} {g : Array GenState} {tk : Nat} {Q : Flow → Shared → Prop}
    (C : LawAt w p loose mean mg mb dp un gd qual scope h₀ L fa cd E) (hl : h₀.IsList l vs.toArray) (hi : IntsAre vs ns) (h63 : ns.length ≤ 63)
    (F : Fr h₀ L h (fun y => if y = Str.ofString "script" then some (.ref l) else m y)) (N : News h₀ L h [(383, tabObj #[])]) (gb : AllBare g)
    (hQ : ∀ h' g' tk' m' ps', Fr h₀ L h' m' → News h₀ L h' [(383, tabObj ps')] → AllBare g' → Q (.ret (.bool true)) ⟨h', g', dr, tk', os⟩) :
    wpAny (model PySem.Challenge.rw_lh0061_01.row.prog w) ((baseA dp un gd).deeper (envOf qual scope L fa cd)) (execs body (envOf qual scope L fa cd)) Q E ⟨h, g, dr, tk, os⟩ := by
  have KX := C.X
  revert KX
  k_fill
  intro KX
  revert qual scope body
  refine' body_elim ?h1 ?_
  case h1 => k_is
  intro C
  have B := C.B
  have T := C.T
  have hdp := C.hd
  have hun := C.hu
  have hE2 := C.E2
  have ht : TriplesOk (#[] : Array Value).toList := True.intro
  k_steps
end
theorem kw2_Y6 : True := by
  k_with_none
  (k_with "+lt room" => (first | exact lt_r0 (by assumption) (by decide) | exact lt_rc (by assumption) (by decide) | exact lt_rd (by assumption) (by decide) | exact lt_z0 (by assumption)))
  (k_with "@ktr_room" => (walk_at "lt room"))
  (k_with "@ktr_units" => (walk_at "lt room"))
  (k_with "@units_room" => (walk_at "lt room"))
  (k_with "@k_room" => (ktr_room))
  (k_with "+con binds" => (first | exact fm_nilE (by exact rfl) | exact fm_some (by exact rfl) (by walk_at "con binds")))
  (k_with "+con enter" => ((k_dflt (refine' code_keep ?k19q ?k29q ?k39q ?k49q ?k59q ?kA9q ?kF9q ?kK9q ?k69q ?k79q ?k89q ?k99q ?kB9q ?_ ?c29q ?c39q ?c49q ?c59q; (case kA9q => exact rfl); (case kF9q => assumption); (case kK9q => assumption); (case k49q => k_asm); (case k19q => k_asm); (case k29q => k_asm); (case k39q => k_asm); (case k59q => k_asm); (case k69q => k_is); (case k79q => k_is); (case k89q => ktr_room); (case k99q => (refine' binds_to ?b99q ?e99q; (case b99q => first | exact BindsTo.of_eq rfl | exact binds_K (by k_in) rfl (by k_is) rfl rfl rfl | fail "con enter: no rule for these arguments"); (case e99q => first | (walk_at "con binds") | (walk_say "con enter: binds left as they are"; exact rfl)))); (case c59q => decide); (case kB9q => exact locs rfl); (case c29q => exact rfl); (case c39q => exact rfl); (case c49q => exact rfl); k_whole; intro g' L' h' FG' F' N' B' X' T' G0'; (try dsimp only); (try k_fold)))))
  (k_with "+con sub" => (repeat (first | exact sub_nil | refine sub_cons (by k_mem) ?_)))
  (k_with "+ite" => ((k_here; k_openite; with_reducible refine ite_isFalse (bne_self_eq_false _) ?_; walk_say "PRUNED same")))
  (k_with "+con sides" => (((case k39q => k_asm); (case k29q => k_asm); (case k19q => k_asm); (case k49q => k_asm); (case k59q => k_asm); (case kF9q => first | exact rfl | assumption); (case kK9q => first | exact rfl | assumption); (case kd9q => ktr_room); (case ku9q => ktr_units); (case ks9q => walk_at "con sub"))))
  (k_with "+ne close" => (first | assumption | exact Ne.symm (by assumption) | exact Nat.ne_of_lt (by assumption) | exact Nat.ne_of_gt (by assumption) | exact Nat.ne_of_lt (Nat.lt_trans (by assumption) (by assumption)) | exact Nat.ne_of_gt (Nat.lt_trans (by assumption) (by assumption)) | (rename _ ∧ _ => hh9; obtain ⟨_, _⟩ := hh9; walk_at "ne close")))
  (k_with "@k_ne" => ((refine neN ?_; (try dsimp only); with_reducible walk_at "ne close")))
  exact True.intro
end
section
/-- every turn, from its parts -/
theorem mid_any (w : World) {n d : Int} (hd : n.fmod 10 = d) : MidFor w d := by
  rcases fmod10 n with e | e | e | e | e | e | e | e | e | e <;> (rw [hd] at e; subst e)
  · exact mid0 w
  · exact mid1 w
  · exact mid2 w
  · exact mid3 w
  · exact mid4 w
  · exact mid5 w
  · exact mid6 w
  · exact mid7 w
  · exact mid8 w
  · exact mid9 w
theorem turn_any {w : World} {qual : Str} {scope : Scope} {b0 b1 : Stmt} {c1 : PySem.Expr} {th1 : List Stmt} {c2 : PySem.Expr} {d1 d2 : Stmt} {ds el2 : List Stmt} {q2 q1 : Pos} {e1 e2 : Stmt} (HP : LawP ((Mine.fr.heap_1 w.params).lookup 485) qual scope b0 b1 c1 th1 c2 d1 d2 ds el2 q2 q1 e1 e2)
    (p : Program) (loose : List Str) (mean : ExcName → Option Value) (mg mb : Str → Option Value) (dp un : Nat) (gd : Option (List Code)) (h₀ : Heap) (L fa : Addr) (cd : Value) (E : Value → Shared → Prop) (dr : Drawn) (os : OsState)
    (i : Nat) (n : Int) (t : Tok) (x v : Addr) (led X : List (Addr × Obj)) (m : Str → Option Value) (h : Heap) (g : Array GenState) (tk : Nat) (ps : Array Value)
    (C : LawAt w p loose mean mg mb dp un gd qual scope h₀ L fa cd E) (hi : i < 8) (H : HeldAt w.params i x v led) (mh : m (Str.ofString "held") = some (.ref x)) (mv : m (Str.ofString "version") = some (.ref v))
    (F : Fr h₀ L h (fun y => if y = Str.ofString "number" then some (.int n t) else m y)) (N : News h₀ L h ((383, tabObj ps) :: (led ++ X))) (hX : ∀ q ∈ X, q.2.cls ≠ .none) (ht : TriplesOk ps.toList) :
    wpAny (model PySem.Challenge.rw_lh0061_01.row.prog w) ((baseA dp un gd).deeper (envOf qual scope L fa cd)) (execs [b0, b1, .If c1 th1 [.If c2 (d1 :: d2 :: ds) el2 q2] q1, e1, e2] (envOf qual scope L fa cd)) (TurnPost w.params h₀ L (i + 1) X ⟨h, g, dr, tk, os⟩) E ⟨h, g, dr, tk, os⟩ := by
  cases H with
  | mk V ba bb bc hz hy hvp hvb =>
  rename_i p' q' a b c zp yp tl t1 t2 t3 nv n1 n2 vp vb
  have hpl := fun q hq => (ver_plain V q hq).2
  rw [turn_map mh mv] at F
  obtain ⟨d, hd⟩ : ∃ d, n.fmod 10 = d := ⟨_, rfl⟩
  have hc : ∀ q ∈ lawV v a b c t1 t2 t3 p' q' nv :: (p', lstO vp n1) :: (q', lstO vb n2) :: (tl ++ X), q.2.cls ≠ .none := by
    refine List.forall_mem_cons.mpr ⟨(fun e => nomatch e), List.forall_mem_cons.mpr ⟨(fun e => nomatch e), List.forall_mem_cons.mpr ⟨(fun e => nomatch e), List.forall_mem_append.mpr ⟨hpl, hX⟩⟩⟩⟩
  simp only [List.cons_append] at N
  have r1 : lawV v a b c t1 t2 t3 p' q' nv ∈ lawV v a b c t1 t2 t3 p' q' nv :: (p', lstO vp n1) :: (q', lstO vb n2) :: (tl ++ X) := List.mem_cons_self
  have r2 : (p', lstO vp n1) ∈ lawV v a b c t1 t2 t3 p' q' nv :: (p', lstO vp n1) :: (q', lstO vb n2) :: (tl ++ X) := List.mem_cons_of_mem _ List.mem_cons_self
  have r3 : (q', lstO vb n2) ∈ lawV v a b c t1 t2 t3 p' q' nv :: (p', lstO vp n1) :: (q', lstO vb n2) :: (tl ++ X) := List.mem_cons_of_mem _ (List.mem_cons_of_mem _ List.mem_cons_self)
  have r4 : ∀ q ∈ tl, q ∈ lawV v a b c t1 t2 t3 p' q' nv :: (p', lstO vp n1) :: (q', lstO vb n2) :: (tl ++ X) := fun q hq => List.mem_cons_of_mem _ (List.mem_cons_of_mem _ (List.mem_cons_of_mem _ (List.mem_append_left _ hq)))
  have r5 : ∀ q ∈ X, q ∈ lawV v a b c t1 t2 t3 p' q' nv :: (p', lstO vp n1) :: (q', lstO vb n2) :: (tl ++ X) := fun q hq => List.mem_cons_of_mem _ (List.mem_cons_of_mem _ (List.mem_cons_of_mem _ (List.mem_append_right _ hq)))
  have N2 := N
  clear N
  revert hc r1 r2 r3 r4 r5 N2
  obtain ⟨rest, hrest⟩ : ∃ rest, rest = lawV v a b c t1 t2 t3 p' q' nv :: (p', lstO vp n1) :: (q', lstO vb n2) :: (tl ++ X) := ⟨_, rfl⟩
  rw [← hrest]
  clear hrest
  intro hc r1 r2 r3 r4 r5 N
  refine pre w _ _ _ _ _ _ _ _ _ _ _ _ _ _ _ HP p loose mean mg mb dp un gd h₀ L fa cd E dr os a b c zp yp x v p' q' t1 t2 t3 nv n1 n2 vp vb _ h g tk n d t m _ _ C (fit_of i ba.1 ba.2 (Nat.le_of_lt hi)) (fit_of i bb.1 bb.2 (Nat.le_of_lt hi)) (fit_big i bc.1 bc.2 (Nat.le_of_lt hi)) hz hy hvp hvb hd F N (List.mem_cons_of_mem _ r1) (List.mem_cons_of_mem _ r2) (List.mem_cons_of_mem _ r3) ?_
  intro h' tk' td tt F' N'
  refine wpAny_execs_cons (wpAny_mono (mid_any w hd _ _ _ _ _ _ _ _ _ _ _ _ _ _ _ HP p loose mean mg mb dp un gd h₀ L fa cd E dr os i n t td tt x v p' q' a b c zp yp tl rest X t1 t2 t3 nv n1 n2 vp vb m h' g tk' ps C hi hd V ba bb bc hz hy hvp hvb F' N' hc r1 r2 r3 r4 r5 ht) (fun f s' hM => ?_) fun _ _ e => e)
  obtain ⟨rfl, M⟩ := hM
  exact suf w _ _ _ _ _ _ _ _ _ _ _ _ _ _ _ HP p loose mean mg mb dp un gd h₀ L fa cd E dr os i X h g tk a b c zp yp x tl s' C hi V ba bb bc hz hy M
theorem turns (w : World) : TurnAny w := by
  unfold TurnAny
  k_fill
  refine' law_elim ?h1 ?_
  case h1 => k_is
  intro HL
  intro p loose mean mg mb dp un gd h₀ L fa cd E dr os i n t x v led X m h g tk ps C hi H mh mv F N hX ht
  exact turn_any HL p loose mean mg mb dp un gd h₀ L fa cd E dr os i n t x v led X m h g tk ps C hi H mh mv F N hX ht
end
section
theorem top_post {M : Model} {A : Around} {cd : Code} {s s₁ : Shared} {cw : ClaimW} {cl : Str → Option Addr} {mean : ExcName → Option Value} {args : List WData} {tabs : List (Addr × Addr)} (hT : TabsAt tabs s₁.heap) (hr : ∀ cls, cw.raises args cls = false) (hp : cw.post args (.bool true) args = true)
    (h : codeAny M A cd (fun r s' => r = .ok (.ret (.bool true)) ∧ (∀ b o, (ghostOf s₁.heap tabs).get? b = some o → s'.heap.get? b = some o) ∧ s'.os = s₁.os ∧ AllBare s'.gens ∧ GrownAll tabs s'.heap) s) : codeAny M A cd (GoodWG cw cl mean args s₁) s := by
  refine codeAny_mono h fun r s' hx => ?_
  obtain ⟨rfl, hk, hos, hb, hgr⟩ := hx
  refine ⟨.inl ⟨.bool true, .bool true, [], rfl, hr, .bool true, hp, fun _ => ⟨List.nodup_nil, fun _ h => nomatch h⟩⟩, ⟨fun b o e => ?_, fun b o e => ?_⟩, hos, hb⟩
  · by_cases hm : b ∈ tabs.map (·.2)
    · obtain ⟨q, hq, rfl⟩ := List.mem_map.mp hm
      have e2 := (hT q hq).2
      rw [e] at e2
      cases e2
      obtain ⟨ps, hP⟩ := hgr.get q hq
      exact .inr (.inl ⟨((hT q hq).1.tab (hT q hq).2).isCodeTable, rfl, #[], ps, rfl, by rw [Array.empty_append]; exact hP⟩)
    · exact .inl (hk b o (ghost_ne e hm))
  · by_cases hm : b ∈ tabs.map (·.2)
    · obtain ⟨q, hq, rfl⟩ := List.mem_map.mp hm
      obtain ⟨ps, hP⟩ := hgr.get q hq
      exact ⟨_, hP⟩
    · exact ⟨o, hk b o (ghost_ne e hm)⟩
theorem script_map {l : Addr} {k : Str} (hk : k = Str.ofString "script") : (fun x => List.lookup x [(k, Value.ref l)].reverse) = fun y => if y = Str.ofString "script" then some (.ref l) else none := by
  subst hk
  funext y
  simp only [List.reverse_cons, List.reverse_nil, List.nil_append, List.lookup]
  by_cases h : y = Str.ofString "script"
  · subst h; simp
  · rw [if_neg h]
    have : (y == Str.ofString "script") = false := by simpa using h
    rw [this]
theorem law_body {o : Option Obj} {oc : Value} {od : Option Addr} {name qual : Str} {params : Arguments} {scope : Scope} {body : List Stmt} {dV kV doc pm cdv ct : Value} {an : Option Addr} {osl : Array (Option Value)}
    (h1 : o = some ⟨oc, od, .func (fnOf name qual params body scope dV kV doc pm an cdv ct), osl⟩) : LawBody o qual scope body := FnSel.of h1 rfl
theorem law_walk2 (w : World) (turn : TurnAny w) {qual : Str} {scope : Scope} {body : List Stmt} (HL : LawBody ((Mine.fr.heap_1 w.params).lookup 485) qual scope body)
    {p : Program} {loose : List Str} {mean : ExcName → Option Value} {mg mb : Str → Option Value} {dp un : Nat} {gd : Option (List Code)} {h₀ : Heap} {L fa : Addr} {cd : Value} {E : Value → Shared → Prop} {dr : Drawn} {os : OsState}
    {vs : List Value} {ns : List Int} {l : Addr} {m0 : Str → Option Value} {h : Heap} {g : Array GenState} {tk : Nat} {Q : Flow → Shared → Prop}
    (C : LawAt w p loose mean mg mb dp un gd qual scope h₀ L fa cd E) (hl : h₀.IsList l vs.toArray) (hi : IntsAre vs ns) (h63 : ns.length ≤ 63)
    (F : Fr h₀ L h m0) (hm : m0 = fun y => if y = Str.ofString "script" then some (.ref l) else none) (N : News h₀ L h [(383, tabObj #[])]) (gb : AllBare g)
    (hQ : ∀ h' g' tk' m' ps', Fr h₀ L h' m' → News h₀ L h' [(383, tabObj ps')] → AllBare g' → Q (.ret (.bool true)) ⟨h', g', dr, tk', os⟩) :
    wpAny (model PySem.Challenge.rw_lh0061_01.row.prog w) ((baseA dp un gd).deeper (envOf qual scope L fa cd)) (execs body (envOf qual scope L fa cd)) Q E ⟨h, g, dr, tk, os⟩ := by
  subst hm
  exact law_walk w turn _ _ _ HL C hl hi h63 F N gb hQ
section
local macro_rules | `(tactic| o_head ($f $k $a $e)) => `(tactic| o_head (kmHook fr.heap_1 $a (fun _ => by kernel_rfl) [383]))
theorem law_main.tw10009383787311891369 : True := trivial
theorem law_main.tw10033417284554259126 : True := trivial
theorem law_main.tw10062189010422828408 : True := trivial
theorem law_main.tw10065936496979187912 : True := trivial
theorem law_main.tw10071730523931235916 : True := trivial
theorem law_main.tw10109147078405596911 : True := trivial
theorem law_main.tw10126454105857746457 : True := trivial
theorem law_main.tw10131981770314810367 : True := trivial
theorem law_main.tw10145713030990610173 : True := trivial
theorem law_main.tw10188346289815214531 : True := trivial
theorem law_main.tw10202652703892908762 : True := trivial
theorem law_main.tw10225029688688514278 : True := trivial
theorem law_main.tw1025380332306782186 : True := trivial
theorem law_main.tw1028243600330490085 : True := trivial
theorem law_main.tw10286626591910895062 : True := trivial
theorem law_main.tw10358596756390571532 : True := trivial
theorem law_main.tw10375818352076425238 : True := trivial
theorem law_main.tw10403356698215500216 : True := trivial
theorem law_main.tw10435893592618620289 : True := trivial
theorem law_main.tw10462665583487759320 : True := trivial
theorem law_main.tw10485921822819450614 : True := trivial
theorem law_main.tw10487471447125364386 : True := trivial
theorem law_main.tw1049060507075782238 : True := trivial
theorem law_main.tw10545243027319121842 : True := trivial
theorem law_main.tw1055398797705690545 : True := trivial
theorem law_main.tw10563917244151280406 : True := trivial
theorem law_main.tw10590118664336427025 : True := trivial
theorem law_main.tw10597817981110329174 : True := trivial
theorem law_main.tw10603904833850980676 : True := trivial
theorem law_main.tw10608174885278295028 : True := trivial
theorem law_main.tw10643224799968189688 : True := trivial
theorem law_main.tw10763982388264040417 : True := trivial
theorem law_main.tw10770342226063478279 : True := trivial
theorem law_main.tw10786015331089108756 : True := trivial
theorem law_main.tw10786171648791691715 : True := trivial
theorem law_main.tw10820457719443192116 : True := trivial
theorem law_main.tw10824667903277908327 : True := trivial
theorem law_main.tw1085354433100796443 : True := trivial
theorem law_main.tw10871599849677756371 : True := trivial
theorem law_main.tw10872688426167335000 : True := trivial
theorem law_main.tw10912181937446993227 : True := trivial
theorem law_main.tw10926388693480928781 : True := trivial
theorem law_main.tw10934780146359453400 : True := trivial
theorem law_main.tw10959438458239862170 : True := trivial
theorem law_main.tw11001640731237645523 : True := trivial
theorem law_main.tw11019923464727068180 : True := trivial
theorem law_main.tw1102435555840728101 : True := trivial
theorem law_main.tw11027507736909729814 : True := trivial
theorem law_main.tw11096977517224163281 : True := trivial
theorem law_main.tw11105262195178295128 : True := trivial
theorem law_main.tw11129537476304358098 : True := trivial
theorem law_main.tw11187583078992109907 : True := trivial
theorem law_main.tw11206529078801959971 : True := trivial
theorem law_main.tw11233666775170745609 : True := trivial
theorem law_main.tw11280362767749825933 : True := trivial
theorem law_main.tw11356697392004783372 : True := trivial
theorem law_main.tw11375365920279155089 : True := trivial
theorem law_main.tw1145593773868255878 : True := trivial
theorem law_main.tw11496912208278269112 : True := trivial
theorem law_main.tw11505977979378491932 : True := trivial
theorem law_main.tw11506349067262284761 : True := trivial
theorem law_main.tw11513775099432789235 : True := trivial
theorem law_main.tw11538719947999661041 : True := trivial
theorem law_main.tw11587150140576926142 : True := trivial
theorem law_main.tw11620803666405664752 : True := trivial
theorem law_main.tw11652190129979105397 : True := trivial
theorem law_main.tw11652716952678211318 : True := trivial
theorem law_main.tw11667268104047201014 : True := trivial
theorem law_main.tw11673154931870055305 : True := trivial
theorem law_main.tw11686828651951280459 : True := trivial
theorem law_main.tw11723379680853503693 : True := trivial
theorem law_main.tw11724813052924870483 : True := trivial
theorem law_main.tw11741537352300203566 : True := trivial
theorem law_main.tw11783007097884039871 : True := trivial
theorem law_main.tw11815453323184677173 : True := trivial
theorem law_main.tw11836806636734465557 : True := trivial
theorem law_main.tw11854022115698487461 : True := trivial
theorem law_main.tw11865086303149753202 : True := trivial
theorem law_main.tw11929892378161673143 : True := trivial
theorem law_main.tw11982998428722966641 : True := trivial
theorem law_main.tw12003867942663373506 : True := trivial
theorem law_main.tw12041544693149142044 : True := trivial
theorem law_main.tw12048159387131080609 : True := trivial
theorem law_main.tw12066733619418755026 : True := trivial
theorem law_main.tw12080816583209408913 : True := trivial
theorem law_main.tw12095483204511894155 : True := trivial
theorem law_main.tw12114639440892580502 : True := trivial
theorem law_main.tw12130933025563133720 : True := trivial
theorem law_main.tw12138347965396003575 : True := trivial
theorem law_main.tw12187409149380076968 : True := trivial
theorem law_main.tw12190908354543683030 : True := trivial
theorem law_main.tw12218008679615450931 : True := trivial
theorem law_main.tw12272603629988509316 : True := trivial
theorem law_main.tw12275723354351644936 : True := trivial
theorem law_main.tw12288263904870208558 : True := trivial
theorem law_main.tw12302193189801611569 : True := trivial
theorem law_main.tw12304337305734174387 : True := trivial
theorem law_main.tw12366190055533351330 : True := trivial
theorem law_main.tw12367322884079782491 : True := trivial
theorem law_main.tw12382139487147019031 : True := trivial
theorem law_main.tw12432251705218270710 : True := trivial
theorem law_main.tw12432885193953334089 : True := trivial
theorem law_main.tw12492192088803055106 : True := trivial
theorem law_main.tw12552392324800736923 : True := trivial
theorem law_main.tw12602903837774113010 : True := trivial
theorem law_main.tw12658561391147845479 : True := trivial
theorem law_main.tw12665054814192332692 : True := trivial
theorem law_main.tw12677195542138526296 : True := trivial
theorem law_main.tw12691247902375522602 : True := trivial
theorem law_main.tw12691823912007669181 : True := trivial
theorem law_main.tw12731874653704580340 : True := trivial
theorem law_main.tw12753915000238399044 : True := trivial
theorem law_main.tw12793677730301252595 : True := trivial
theorem law_main.tw12798238723595957523 : True := trivial
theorem law_main.tw12807018679685582186 : True := trivial
theorem law_main.tw12859985664732237940 : True := trivial
theorem law_main.tw12991030543449736435 : True := trivial
theorem law_main.tw12996993109871156074 : True := trivial
theorem law_main.tw13090650723494836560 : True := trivial
theorem law_main.tw1309912490025323849 : True := trivial
theorem law_main.tw1310812633317535026 : True := trivial
theorem law_main.tw13108704247488066038 : True := trivial
theorem law_main.tw13177359441345021608 : True := trivial
theorem law_main.tw13198013302750709775 : True := trivial
theorem law_main.tw13223271993750682384 : True := trivial
theorem law_main.tw1323364466282195526 : True := trivial
theorem law_main.tw13282170630502015125 : True := trivial
theorem law_main.tw13310843388698549466 : True := trivial
theorem law_main.tw13380964395826122668 : True := trivial
theorem law_main.tw13410744797433300967 : True := trivial
theorem law_main.tw13417337573120759379 : True := trivial
theorem law_main.tw13549663157172779975 : True := trivial
theorem law_main.tw13631112040019714998 : True := trivial
theorem law_main.tw13719672044136329382 : True := trivial
theorem law_main.tw13723205841099062367 : True := trivial
theorem law_main.tw13743304894672010325 : True := trivial
theorem law_main.tw1376576861112920448 : True := trivial
theorem law_main.tw13774335474407808569 : True := trivial
theorem law_main.tw13776714997873635245 : True := trivial
theorem law_main.tw1377749549801380936 : True := trivial
theorem law_main.tw13839643465687315407 : True := trivial
theorem law_main.tw13846996233292191404 : True := trivial
theorem law_main.tw13870453677455058880 : True := trivial
theorem law_main.tw13884258636417046317 : True := trivial
theorem law_main.tw13946188563911704909 : True := trivial
theorem law_main.tw13971571788958878302 : True := trivial
theorem law_main.tw13984492018179294196 : True := trivial
theorem law_main.tw13998958902955379598 : True := trivial
theorem law_main.tw14005397140943696257 : True := trivial
theorem law_main.tw14032105508396704766 : True := trivial
theorem law_main.tw14061317263530931702 : True := trivial
theorem law_main.tw14069261235843096185 : True := trivial
theorem law_main.tw14135975757422231358 : True := trivial
theorem law_main.tw1413608474400784706 : True := trivial
theorem law_main.tw14165364798192118665 : True := trivial
theorem law_main.tw14179958454381402871 : True := trivial
theorem law_main.tw14200119110472911447 : True := trivial
theorem law_main.tw14238313309902607001 : True := trivial
theorem law_main.tw14240955754270088510 : True := trivial
theorem law_main.tw1424550389659463622 : True := trivial
theorem law_main.tw14274997617399893909 : True := trivial
theorem law_main.tw14296807309868979684 : True := trivial
theorem law_main.tw14302578994634034446 : True := trivial
theorem law_main.tw14372825250212027668 : True := trivial
theorem law_main.tw1439304514016540740 : True := trivial
theorem law_main.tw14430037006700155342 : True := trivial
theorem law_main.tw14486355085548659375 : True := trivial
theorem law_main.tw14515392697183175055 : True := trivial
theorem law_main.tw14585545537936857995 : True := trivial
theorem law_main.tw14598892490027909604 : True := trivial
theorem law_main.tw14600887417646772463 : True := trivial
theorem law_main.tw14619919343898387960 : True := trivial
theorem law_main.tw14652545273377465589 : True := trivial
theorem law_main.tw14660642328910704625 : True := trivial
theorem law_main.tw14695723913950442524 : True := trivial
theorem law_main.tw14705726664363190822 : True := trivial
theorem law_main.tw14706981431437613707 : True := trivial
theorem law_main.tw14729591609217049826 : True := trivial
theorem law_main.tw14740987560656026978 : True := trivial
theorem law_main.tw14778342098496001561 : True := trivial
theorem law_main.tw14785557391200840789 : True := trivial
theorem law_main.tw14808889766202652450 : True := trivial
theorem law_main.tw14826705874924925849 : True := trivial
theorem law_main.tw14852190230791651943 : True := trivial
theorem law_main.tw14857593412497526408 : True := trivial
theorem law_main.tw14960341376695378152 : True := trivial
theorem law_main.tw1496077431955140227 : True := trivial
theorem law_main.tw14965174025474420829 : True := trivial
theorem law_main.tw14982006336215191091 : True := trivial
theorem law_main.tw15147513938873241760 : True := trivial
theorem law_main.tw15153211335652212586 : True := trivial
theorem law_main.tw15185233829150455186 : True := trivial
theorem law_main.tw15193174626245992110 : True := trivial
theorem law_main.tw15195825026702110783 : True := trivial
theorem law_main.tw15228671513216812464 : True := trivial
theorem law_main.tw15266619242901897438 : True := trivial
theorem law_main.tw15266648593611929530 : True := trivial
theorem law_main.tw15292210335228008491 : True := trivial
theorem law_main.tw15305223787476328395 : True := trivial
theorem law_main.tw15313485909151214886 : True := trivial
theorem law_main.tw15326385735185213921 : True := trivial
theorem law_main.tw15349631616040032352 : True := trivial
theorem law_main.tw15349707439552355318 : True := trivial
theorem law_main.tw15350965818404911328 : True := trivial
theorem law_main.tw15377096837667092898 : True := trivial
theorem law_main.tw15414676173788412579 : True := trivial
theorem law_main.tw15422167041202342230 : True := trivial
theorem law_main.tw15430388919272660954 : True := trivial
theorem law_main.tw15439441771006161218 : True := trivial
theorem law_main.tw15537319116143412079 : True := trivial
theorem law_main.tw15546007251634191958 : True := trivial
theorem law_main.tw15565614061891082614 : True := trivial
theorem law_main.tw15567833231295731611 : True := trivial
theorem law_main.tw15573812918238556634 : True := trivial
theorem law_main.tw15588857123602969649 : True := trivial
theorem law_main.tw15612462863219608634 : True := trivial
theorem law_main.tw15617351340900541394 : True := trivial
theorem law_main.tw1564514207608182746 : True := trivial
theorem law_main.tw15674437022000136846 : True := trivial
theorem law_main.tw15692644739773657156 : True := trivial
theorem law_main.tw15696711027295579848 : True := trivial
theorem law_main.tw15712178397478822869 : True := trivial
theorem law_main.tw15750890882705838876 : True := trivial
theorem law_main.tw15760372092921096294 : True := trivial
theorem law_main.tw15774574401160718306 : True := trivial
theorem law_main.tw1577597359431081712 : True := trivial
theorem law_main.tw15792251125476621824 : True := trivial
theorem law_main.tw15798039629901988940 : True := trivial
theorem law_main.tw15860598627672785705 : True := trivial
theorem law_main.tw15868612419761575263 : True := trivial
theorem law_main.tw15874082914683803031 : True := trivial
theorem law_main.tw15896684252220390642 : True := trivial
theorem law_main.tw15906950005901715633 : True := trivial
theorem law_main.tw15907958908374375734 : True := trivial
theorem law_main.tw16009459696308240953 : True := trivial
theorem law_main.tw16023386502478935265 : True := trivial
theorem law_main.tw16034941211498539878 : True := trivial
theorem law_main.tw16049186466863839474 : True := trivial
theorem law_main.tw16060594591030893838 : True := trivial
theorem law_main.tw16077951430017067908 : True := trivial
theorem law_main.tw16079423056489856371 : True := trivial
theorem law_main.tw16119767572422361813 : True := trivial
theorem law_main.tw16155537167592110816 : True := trivial
theorem law_main.tw16157589278736698095 : True := trivial
theorem law_main.tw16158044607087635261 : True := trivial
theorem law_main.tw16218185302098776643 : True := trivial
theorem law_main.tw16225917573494960455 : True := trivial
theorem law_main.tw16259562489695818021 : True := trivial
theorem law_main.tw16295729141340862283 : True := trivial
theorem law_main.tw16299131947585495994 : True := trivial
theorem law_main.tw16302838665353820144 : True := trivial
theorem law_main.tw16311706938484281424 : True := trivial
theorem law_main.tw16314352456741760738 : True := trivial
theorem law_main.tw16359106206957872153 : True := trivial
theorem law_main.tw16360490637440641877 : True := trivial
theorem law_main.tw16366561609404116455 : True := trivial
theorem law_main.tw16470255842041600863 : True := trivial
theorem law_main.tw16511197943089611563 : True := trivial
theorem law_main.tw16523819197415970902 : True := trivial
theorem law_main.tw16566438276929219699 : True := trivial
theorem law_main.tw16574076814696057076 : True := trivial
theorem law_main.tw16616061461414182025 : True := trivial
theorem law_main.tw16620955423426750390 : True := trivial
theorem law_main.tw16641658687431160304 : True := trivial
theorem law_main.tw16676930489523055403 : True := trivial
theorem law_main.tw16703461261039084533 : True := trivial
theorem law_main.tw16719258448803975824 : True := trivial
theorem law_main.tw16749072721820438851 : True := trivial
theorem law_main.tw16795413464664921318 : True := trivial
theorem law_main.tw16811086661486768486 : True := trivial
theorem law_main.tw16816693619920311314 : True := trivial
theorem law_main.tw16817226997381757417 : True := trivial
theorem law_main.tw16824175580917722810 : True := trivial
theorem law_main.tw16839429816946348050 : True := trivial
theorem law_main.tw16846557516487541092 : True := trivial
theorem law_main.tw16865969097102880770 : True := trivial
theorem law_main.tw16871912672601942415 : True := trivial
theorem law_main.tw16883744741543859831 : True := trivial
theorem law_main.tw16905197365965161809 : True := trivial
theorem law_main.tw16943882875560866944 : True := trivial
theorem law_main.tw16957199424134404453 : True := trivial
theorem law_main.tw16978246036216562727 : True := trivial
theorem law_main.tw17009099974719963799 : True := trivial
theorem law_main.tw17037347042100133267 : True := trivial
theorem law_main.tw17059669843319756397 : True := trivial
theorem law_main.tw1706564232217015446 : True := trivial
theorem law_main.tw17075072418164326280 : True := trivial
theorem law_main.tw17087024262072620663 : True := trivial
theorem law_main.tw17120137492545194418 : True := trivial
theorem law_main.tw17134807813190484310 : True := trivial
theorem law_main.tw17149795998417014711 : True := trivial
theorem law_main.tw17151216946866669101 : True := trivial
theorem law_main.tw17157068247336416264 : True := trivial
theorem law_main.tw17203965670132277172 : True := trivial
theorem law_main.tw17284001305151087744 : True := trivial
theorem law_main.tw1732449233929131714 : True := trivial
theorem law_main.tw17324776425612453287 : True := trivial
theorem law_main.tw17331076429575468368 : True := trivial
theorem law_main.tw17351842603801386118 : True := trivial
theorem law_main.tw17352353293400634128 : True := trivial
theorem law_main.tw17368169931878646554 : True := trivial
theorem law_main.tw17375575313535950018 : True := trivial
theorem law_main.tw17408559425179981948 : True := trivial
theorem law_main.tw17416515120868331807 : True := trivial
theorem law_main.tw17469388979169872652 : True := trivial
theorem law_main.tw17488320370367320220 : True := trivial
theorem law_main.tw17505497361560357610 : True := trivial
theorem law_main.tw17582310113230925281 : True := trivial
theorem law_main.tw17623324592149715262 : True := trivial
theorem law_main.tw17651711691752855890 : True := trivial
theorem law_main.tw17679488289083167241 : True := trivial
theorem law_main.tw17697154268063975738 : True := trivial
theorem law_main.tw17703935975862937971 : True := trivial
theorem law_main.tw17734032484995774794 : True := trivial
theorem law_main.tw17765507678589190047 : True := trivial
theorem law_main.tw17776905138687098989 : True := trivial
theorem law_main.tw17801278370471946545 : True := trivial
theorem law_main.tw17808251812285588450 : True := trivial
theorem law_main.tw17854344053548254826 : True := trivial
theorem law_main.tw17984584379917024996 : True := trivial
theorem law_main.tw18005520850147448220 : True := trivial
theorem law_main.tw1802755423238078362 : True := trivial
theorem law_main.tw18047335243990471254 : True := trivial
theorem law_main.tw18055702095249075176 : True := trivial
theorem law_main.tw18059492336816359396 : True := trivial
theorem law_main.tw18072212350084493203 : True := trivial
theorem law_main.tw18080812206980097043 : True := trivial
theorem law_main.tw18128827929404418045 : True := trivial
theorem law_main.tw1815721245453609497 : True := trivial
theorem law_main.tw18161915630714553012 : True := trivial
theorem law_main.tw18170591100172223572 : True := trivial
theorem law_main.tw1822880698606447936 : True := trivial
theorem law_main.tw18262786352893442661 : True := trivial
theorem law_main.tw18306566280308905146 : True := trivial
theorem law_main.tw18323492792939674931 : True := trivial
theorem law_main.tw18339245862140919808 : True := trivial
theorem law_main.tw18345023916270258379 : True := trivial
theorem law_main.tw18368786470844509372 : True := trivial
theorem law_main.tw1886267683660728072 : True := trivial
theorem law_main.tw1937036719133941924 : True := trivial
theorem law_main.tw1961887981231072998 : True := trivial
theorem law_main.tw1982258038718618731 : True := trivial
theorem law_main.tw2010797986087292854 : True := trivial
theorem law_main.tw2064267698510424910 : True := trivial
theorem law_main.tw213758291865680375 : True := trivial
theorem law_main.tw2160377670348606185 : True := trivial
theorem law_main.tw2169192648829220899 : True := trivial
theorem law_main.tw2262221851959591730 : True := trivial
theorem law_main.tw2263321056801036659 : True := trivial
theorem law_main.tw2348402952091668704 : True := trivial
theorem law_main.tw2370355172199199136 : True := trivial
theorem law_main.tw2437258656485666671 : True := trivial
theorem law_main.tw246246407572187929 : True := trivial
theorem law_main.tw247077912720906763 : True := trivial
theorem law_main.tw2483461438445054578 : True := trivial
theorem law_main.tw2513183450834787827 : True := trivial
theorem law_main.tw2532515870888452220 : True := trivial
theorem law_main.tw2566805764788308867 : True := trivial
theorem law_main.tw2569652437305536096 : True := trivial
theorem law_main.tw2588129756843715551 : True := trivial
theorem law_main.tw2621491366541366022 : True := trivial
theorem law_main.tw2634075551085833457 : True := trivial
theorem law_main.tw2658832534461529849 : True := trivial
theorem law_main.tw267273414137901376 : True := trivial
theorem law_main.tw267612478585772532 : True := trivial
theorem law_main.tw2692162800832138177 : True := trivial
theorem law_main.tw2700338051956908593 : True := trivial
theorem law_main.tw2735945367094426566 : True := trivial
theorem law_main.tw2752062826276243636 : True := trivial
theorem law_main.tw2756449118758842500 : True := trivial
theorem law_main.tw2827705131816386276 : True := trivial
theorem law_main.tw2834237739094480233 : True := trivial
theorem law_main.tw2839249094726729613 : True := trivial
theorem law_main.tw2882944322088309658 : True := trivial
theorem law_main.tw2907929455906710188 : True := trivial
theorem law_main.tw2932796702407009506 : True := trivial
theorem law_main.tw3021161606810881396 : True := trivial
theorem law_main.tw3025445391919974519 : True := trivial
theorem law_main.tw303248833619763474 : True := trivial
theorem law_main.tw3036814516751196943 : True := trivial
theorem law_main.tw3081284559749277034 : True := trivial
theorem law_main.tw3116495696469433125 : True := trivial
theorem law_main.tw3119011701226289328 : True := trivial
theorem law_main.tw3134724297132247054 : True := trivial
theorem law_main.tw3187839213977003451 : True := trivial
theorem law_main.tw3195618915262806641 : True := trivial
theorem law_main.tw3210738183763061305 : True := trivial
theorem law_main.tw3215845165407696501 : True := trivial
theorem law_main.tw3232835009272904180 : True := trivial
theorem law_main.tw3279515886660695193 : True := trivial
theorem law_main.tw328805951428169812 : True := trivial
theorem law_main.tw3321546203341324297 : True := trivial
theorem law_main.tw3366750023066303676 : True := trivial
theorem law_main.tw3380287071556376463 : True := trivial
theorem law_main.tw3381453553304539677 : True := trivial
theorem law_main.tw3384956407222159307 : True := trivial
theorem law_main.tw3421248271379779857 : True := trivial
theorem law_main.tw3439781673849947333 : True := trivial
theorem law_main.tw3472894689643948231 : True := trivial
theorem law_main.tw3489972420051802574 : True := trivial
theorem law_main.tw3492207919118766829 : True := trivial
theorem law_main.tw3509381913988698607 : True := trivial
theorem law_main.tw3523997080624758908 : True := trivial
theorem law_main.tw3539599167230425490 : True := trivial
theorem law_main.tw3573830362174776383 : True := trivial
theorem law_main.tw3581445032257874099 : True := trivial
theorem law_main.tw3604668134193428604 : True := trivial
theorem law_main.tw3641160388641333981 : True := trivial
theorem law_main.tw3664425100933034383 : True := trivial
theorem law_main.tw3684041266594551646 : True := trivial
theorem law_main.tw3701607126642166399 : True := trivial
theorem law_main.tw3814152557720904013 : True := trivial
theorem law_main.tw3843060867441605016 : True := trivial
theorem law_main.tw3871204992407311098 : True := trivial
theorem law_main.tw3893146709617779560 : True := trivial
theorem law_main.tw3924391508466944231 : True := trivial
theorem law_main.tw3947485128845836262 : True := trivial
theorem law_main.tw4000839303017864174 : True := trivial
theorem law_main.tw4051448327316936890 : True := trivial
theorem law_main.tw4106737135158533645 : True := trivial
theorem law_main.tw4122408778087308774 : True := trivial
theorem law_main.tw4164289623094447396 : True := trivial
theorem law_main.tw4166383847273138776 : True := trivial
theorem law_main.tw4239650033708865625 : True := trivial
theorem law_main.tw4266165031264655159 : True := trivial
theorem law_main.tw4286670451129054371 : True := trivial
theorem law_main.tw4296355661691376254 : True := trivial
theorem law_main.tw4306580628730840040 : True := trivial
theorem law_main.tw4311112728919163520 : True := trivial
theorem law_main.tw4344343888318783083 : True := trivial
theorem law_main.tw4373083072877231807 : True := trivial
theorem law_main.tw4406866556801862989 : True := trivial
theorem law_main.tw4435439612852832906 : True := trivial
theorem law_main.tw4442365607819475525 : True := trivial
theorem law_main.tw444742927853419862 : True := trivial
theorem law_main.tw4490709545114356312 : True := trivial
theorem law_main.tw451736873604451697 : True := trivial
theorem law_main.tw4536762805718306830 : True := trivial
theorem law_main.tw4548403833237490675 : True := trivial
theorem law_main.tw4555462946037337122 : True := trivial
theorem law_main.tw455730382294816559 : True := trivial
theorem law_main.tw4639247647249917307 : True := trivial
theorem law_main.tw4649507619218863881 : True := trivial
theorem law_main.tw4655839844618025311 : True := trivial
theorem law_main.tw4692588369361866376 : True := trivial
theorem law_main.tw4712834384252327196 : True := trivial
theorem law_main.tw4721134906762839832 : True := trivial
theorem law_main.tw4732763338560072792 : True := trivial
theorem law_main.tw4761708486919980090 : True := trivial
theorem law_main.tw4773297612864217413 : True := trivial
theorem law_main.tw4778913667346207058 : True := trivial
theorem law_main.tw477912987778045057 : True := trivial
theorem law_main.tw4806060809630251477 : True := trivial
theorem law_main.tw4827669078988512415 : True := trivial
theorem law_main.tw4829194718528574292 : True := trivial
theorem law_main.tw4839965325336795371 : True := trivial
theorem law_main.tw4901722689024189073 : True := trivial
theorem law_main.tw4901912838363680896 : True := trivial
theorem law_main.tw4924246254004574125 : True := trivial
theorem law_main.tw4951783288792541552 : True := trivial
theorem law_main.tw4983440841631174016 : True := trivial
theorem law_main.tw5016446012579249564 : True := trivial
theorem law_main.tw5020063858597525950 : True := trivial
theorem law_main.tw5052064997637977761 : True := trivial
theorem law_main.tw5053584699918898756 : True := trivial
theorem law_main.tw5110643204526610549 : True := trivial
theorem law_main.tw5134795769707920985 : True := trivial
theorem law_main.tw5165981662236534978 : True := trivial
theorem law_main.tw5170917324267433851 : True := trivial
theorem law_main.tw5174601056664173269 : True := trivial
theorem law_main.tw5178032150233425985 : True := trivial
theorem law_main.tw5189218924152416321 : True := trivial
theorem law_main.tw5200007929991930921 : True := trivial
theorem law_main.tw5200594964825775971 : True := trivial
theorem law_main.tw5215078528074668344 : True := trivial
theorem law_main.tw5225011579016758665 : True := trivial
theorem law_main.tw5277089371198760600 : True := trivial
theorem law_main.tw5305077148695228009 : True := trivial
theorem law_main.tw5307223670818616800 : True := trivial
theorem law_main.tw5357269453995073566 : True := trivial
theorem law_main.tw5417001991220700012 : True := trivial
theorem law_main.tw542215765366215183 : True := trivial
theorem law_main.tw5436750570899127829 : True := trivial
theorem law_main.tw5482282589608222830 : True := trivial
theorem law_main.tw5525310283799137203 : True := trivial
theorem law_main.tw5543450035398736605 : True := trivial
theorem law_main.tw5567308350407831916 : True := trivial
theorem law_main.tw5613748251275469489 : True := trivial
theorem law_main.tw5650462476598709407 : True := trivial
theorem law_main.tw5657269846823442647 : True := trivial
theorem law_main.tw5672885420519777237 : True := trivial
theorem law_main.tw5718519413460616250 : True := trivial
theorem law_main.tw5726260766216831404 : True := trivial
theorem law_main.tw5736628382537459185 : True := trivial
theorem law_main.tw5761866563308378892 : True := trivial
theorem law_main.tw5767264231650202910 : True := trivial
theorem law_main.tw5837308222219646223 : True := trivial
theorem law_main.tw5841594743237848265 : True := trivial
theorem law_main.tw5879167349428983040 : True := trivial
theorem law_main.tw5912139416129769328 : True := trivial
theorem law_main.tw5915535575383643179 : True := trivial
theorem law_main.tw5954660562397826303 : True := trivial
theorem law_main.tw602605061878556945 : True := trivial
theorem law_main.tw610149944912021374 : True := trivial
theorem law_main.tw6106796548741521491 : True := trivial
theorem law_main.tw612107486046120953 : True := trivial
theorem law_main.tw6138220603502552601 : True := trivial
theorem law_main.tw6141952156867622459 : True := trivial
theorem law_main.tw6203637219401983604 : True := trivial
theorem law_main.tw630818948574407725 : True := trivial
theorem law_main.tw6310285543953168118 : True := trivial
theorem law_main.tw6320363920833919953 : True := trivial
theorem law_main.tw6365943684305522041 : True := trivial
theorem law_main.tw6374711899453459499 : True := trivial
theorem law_main.tw6388420970597648435 : True := trivial
theorem law_main.tw6405286509656436398 : True := trivial
theorem law_main.tw6452407707555612139 : True := trivial
theorem law_main.tw6489876347386804070 : True := trivial
theorem law_main.tw6507775789197126563 : True := trivial
theorem law_main.tw6514505632385848704 : True := trivial
theorem law_main.tw6528655731353538026 : True := trivial
theorem law_main.tw6528722996136334045 : True := trivial
theorem law_main.tw6542496317293267545 : True := trivial
theorem law_main.tw66433640019731788 : True := trivial
theorem law_main.tw666430081763479838 : True := trivial
theorem law_main.tw6677887716976727518 : True := trivial
theorem law_main.tw6688468369064155325 : True := trivial
theorem law_main.tw670352351605735171 : True := trivial
theorem law_main.tw673593616509308394 : True := trivial
theorem law_main.tw6739099946416596284 : True := trivial
theorem law_main.tw6757491165780021356 : True := trivial
theorem law_main.tw6763096573759315809 : True := trivial
theorem law_main.tw6829572405874833104 : True := trivial
theorem law_main.tw6833777438145440775 : True := trivial
theorem law_main.tw6851752714818629698 : True := trivial
theorem law_main.tw6856508589743079798 : True := trivial
theorem law_main.tw6911965145317334431 : True := trivial
theorem law_main.tw6933298493911497741 : True := trivial
theorem law_main.tw6937456585103297525 : True := trivial
theorem law_main.tw6956295650827473936 : True := trivial
theorem law_main.tw6972029999243839032 : True := trivial
theorem law_main.tw6972923202651475832 : True := trivial
theorem law_main.tw6978237413797580549 : True := trivial
theorem law_main.tw7126292069047307353 : True := trivial
theorem law_main.tw7171434926116578266 : True := trivial
theorem law_main.tw7180367025682424432 : True := trivial
theorem law_main.tw7190224315729582607 : True := trivial
theorem law_main.tw7212722815868226938 : True := trivial
theorem law_main.tw7276146564192317918 : True := trivial
theorem law_main.tw7289748503323628267 : True := trivial
theorem law_main.tw7322132018402849497 : True := trivial
theorem law_main.tw7332020224369145500 : True := trivial
theorem law_main.tw7363284096215845598 : True := trivial
theorem law_main.tw7378317110006405525 : True := trivial
theorem law_main.tw7421771121574897863 : True := trivial
theorem law_main.tw7447396213151598142 : True := trivial
theorem law_main.tw7466512118326244637 : True := trivial
theorem law_main.tw7482744533714844801 : True := trivial
theorem law_main.tw74871221895075420 : True := trivial
theorem law_main.tw7489837178140063822 : True := trivial
theorem law_main.tw7522505258732067809 : True := trivial
theorem law_main.tw7558351658216449949 : True := trivial
theorem law_main.tw7565586166271477107 : True := trivial
theorem law_main.tw757568241745866170 : True := trivial
theorem law_main.tw7641016803145321969 : True := trivial
theorem law_main.tw7740449721845060590 : True := trivial
theorem law_main.tw7789374352791030184 : True := trivial
theorem law_main.tw781019644868853921 : True := trivial
theorem law_main.tw7837685004525867339 : True := trivial
theorem law_main.tw7891423334960663175 : True := trivial
theorem law_main.tw7958956001266962330 : True := trivial
theorem law_main.tw7965756669043804834 : True := trivial
theorem law_main.tw7981519038267862144 : True := trivial
theorem law_main.tw8020566485096796532 : True := trivial
theorem law_main.tw8021745972451297138 : True := trivial
theorem law_main.tw8038769788589514099 : True := trivial
theorem law_main.tw8078643249683345317 : True := trivial
theorem law_main.tw8113341123759694679 : True := trivial
theorem law_main.tw8158384327203623158 : True := trivial
theorem law_main.tw8181857116216916201 : True := trivial
theorem law_main.tw8193483241629232063 : True := trivial
theorem law_main.tw8206089013178779159 : True := trivial
theorem law_main.tw8232666864550375255 : True := trivial
theorem law_main.tw831747521400388689 : True := trivial
theorem law_main.tw8439756127740942094 : True := trivial
theorem law_main.tw8516307621387154915 : True := trivial
theorem law_main.tw8530108845852526039 : True := trivial
theorem law_main.tw8537289297763905544 : True := trivial
theorem law_main.tw8563811006454466886 : True := trivial
theorem law_main.tw8612221415922058800 : True := trivial
theorem law_main.tw8668950094328330852 : True := trivial
theorem law_main.tw8711080293583665415 : True := trivial
theorem law_main.tw8779666939615801273 : True := trivial
theorem law_main.tw8790940520319788571 : True := trivial
theorem law_main.tw8820042682005523393 : True := trivial
theorem law_main.tw8836979040123746042 : True := trivial
theorem law_main.tw8843638879130548273 : True := trivial
theorem law_main.tw8931976437079329236 : True := trivial
theorem law_main.tw8966001661348349229 : True := trivial
theorem law_main.tw8983279589339252362 : True := trivial
theorem law_main.tw8983701746722063817 : True := trivial
theorem law_main.tw8995264440809936124 : True := trivial
theorem law_main.tw9045028375589228301 : True := trivial
theorem law_main.tw9084237064402773258 : True := trivial
theorem law_main.tw9127562387420664221 : True := trivial
theorem law_main.tw9132662447394361364 : True := trivial
theorem law_main.tw9143148715079300875 : True := trivial
theorem law_main.tw9149244185426939912 : True := trivial
theorem law_main.tw91875819662350096 : True := trivial
theorem law_main.tw9197974758214243299 : True := trivial
theorem law_main.tw9248857801823301526 : True := trivial
theorem law_main.tw9253765684447126267 : True := trivial
theorem law_main.tw9270046347867286811 : True := trivial
theorem law_main.tw9326305028756454253 : True := trivial
theorem law_main.tw9326545966430228865 : True := trivial
theorem law_main.tw9337717605455178342 : True := trivial
theorem law_main.tw9366576269279257862 : True := trivial
theorem law_main.tw936804366513844284 : True := trivial
theorem law_main.tw9370678825490581806 : True := trivial
theorem law_main.tw9396893098815281075 : True := trivial
theorem law_main.tw939699325635709149 : True := trivial
theorem law_main.tw94251825084803925 : True := trivial
theorem law_main.tw9426311698547362514 : True := trivial
theorem law_main.tw9452671277326977587 : True := trivial
theorem law_main.tw9494079761880911977 : True := trivial
theorem law_main.tw9500528653272133776 : True := trivial
theorem law_main.tw9512757777258935227 : True := trivial
theorem law_main.tw9523933926267990318 : True := trivial
theorem law_main.tw9592294938987003321 : True := trivial
theorem law_main.tw9602263878568307332 : True := trivial
theorem law_main.tw9604255054778368623 : True := trivial
theorem law_main.tw9649151344684890351 : True := trivial
theorem law_main.tw9667167981317267512 : True := trivial
theorem law_main.tw9671519262234134100 : True := trivial
theorem law_main.tw9671536119479784382 : True := trivial
theorem law_main.tw9685442546819031094 : True := trivial
theorem law_main.tw9707841503358145044 : True := trivial
theorem law_main.tw9717091946391871061 : True := trivial
theorem law_main.tw9723294752459985829 : True := trivial
theorem law_main.tw9794942502194381959 : True := trivial
theorem law_main.tw9810079754064193229 : True := trivial
theorem law_main.tw9880092419112633560 : True := trivial
theorem law_main.tw9890656193443190882 : True := trivial
theorem law_main.tw9946501273902767976 : True := trivial
set_option maxHeartbeats 20000000 in
set_option Elab.async true in
theorem law_main : PySem.Challenge.rw_lh0061_01.Holds := by
  w_on
  o_law
  k_head
  (case hw => w_witness2)
  k_fill
  intro w s₀ s₁ mg mb G Y fa o pm cd doc dV kV ho hd hcd hD hmg hg args vals as hpre hlay hrd hwl hlo
  have KX := km_in_of Y
  have hT8 := km_tabs_of Y
  have X := (Ground.X G).1
  have V := (Ground.X G).2
  refine Ground.open G ?_
  intro T B D TE TW
  try (refine guard_noD D (by decide +kernel) ?_; clear D)
  have hT9 : TabsAt ([(387,383)] : List (Addr × Addr)) _ := (List.forall_mem_cons.mpr ⟨⟨codeHd_of_K (c := 387) (P := 383) KX (by kernel_rfl), hT8 383 (by k_mem)⟩, (fun _ h => nomatch h)⟩)
  clear hmg
  wrow_args hpre hlay hrd hwl hlo
  all_goals (
    first | refine callC_kw (enter_call ?_) | refine enter_call ?_
    w_top on
    refine top_post hT9 (raisesW_false (by wrow_none_raised)) (by kc_post) ?_
    w_call any ho hd hcd hD T F
    clear hd
    kn_ghosts F T
    k_drop
    skip)
  refine' law_walk2 (dp := callerA.depth) (un := callerA.units) (gd := callerA.guards) w (turns w) (law_body ?hb7z) ?C7z ?hl7z ?hi7z ?h637z ?F7z ?hm7z ?N7z ?gb7z ?hQ7z
  case F7z => assumption
  case hl7z => assumption
  case hi7z => assumption
  case h637z => omega
  case hm7z => exact script_map rfl
  case N7z => assumption
  case gb7z => exact AllBare.of_eq (by assumption)
  case hb7z => k_is
  case hQ7z =>
    intro h' g' tk' m' ps' F'' N'' gb'
    exact ⟨rfl, F''.keep, rfl, gb', ⟨ps', (N'' _ List.mem_cons_self).1⟩, trivial⟩
  case C7z => exact { X := by assumption, B := by assumption, T := by assumption, v1 := by decide +kernel, v2 := by decide +kernel, v3 := by decide +kernel, v4 := by decide +kernel, E1 := fun e => by passes_own, E2 := by passes_own, hd := by decide +kernel, hu := by decide +kernel }
end
end
end Mine
theorem PySem.Challenge.cw_lh0061_01_holds : PySem.Challenge.rw_lh0061_01.Holds :=
  Mine.law_main
