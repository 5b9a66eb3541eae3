import PyProof.Rows.All
import Wide.All
import OpenK.AllK
import Wide.FinOn
import PySem.Challenge.RW_xe0009_02
set_option Elab.async false
set_option maxRecDepth 100000
set_option compiler.extract_closed false
section
open PySem PySem.W PyProof.Rows
set_option maxHeartbeats 8000000

namespace Mine
/-- the text without the statements that bind no name of the law's -/
noncomputable def viewOf (p : Program) (ks : List Nat) : Program := { p with main := { p.main with body := ks.filterMap fun i => p.main.body[i]? } }
noncomputable abbrev view : Program := viewOf PySem.Challenge.pw_xe0009_02 [1, 3, 4, 5, 7, 9, 10, 11, 12, 13, 14, 15, 16]
end Mine
local macro_rules | `(tactic| o_head $H) => `(tactic| (refine holds_open (q := Mine.view) (loose := []) (Xt := fun s => xlAt Mine.view [] s && recOk (RowW.records (OpenRow.toRowW (OpenLaw.row PySem.Challenge.rw_xe0009_02))) s) (XP := XL Mine.view []) (Yf := Hook.obs $H) (Ya := Hook.val $H) (YP := Hook.says $H) (N := 2344) ?hl (Hook.of $H) (Hook.keeps $H) (fun s e => xl_of s (Bool.and_eq_true_iff.mp e).1) XL.keeps (by rfl) (by rfl) (by rfl) (fun s e => recFacts_of (Bool.and_eq_true_iff.mp e).2) (by rfl) (by first | assumption | decide +kernel) (by decide +kernel) ⟨rfl, rfl, rfl, rfl, rfl, by decide +kernel⟩ ?hw ?hc; (case hl => (intro w; kernel_rfl))))
namespace Mine
open_top hd for PySem.Challenge.rw_xe0009_02
end Mine

end
open PySem PySem.W PyProof.Rows PySem.Calls PySem.Spec
namespace Mine
section


theorem eqN {a b : Nat} (h : a = b) : a = b := h
/-- what a call leaves: all but the entries of `pre` stands as it stood, and `post` is there -/
structure Kept (s s' : Shared) (pre post : List (Addr × Obj)) : Prop where
  form : ∃ tk, s' = { s with heap := s'.heap, toks := tk }
  keep : ∀ b o, s.heap.get? b = some o → b ∉ pre.map (·.1) → s'.heap.get? b = some o
  there : ∀ p ∈ post, s'.heap.get? p.1 = some p.2 ∧ (p.1 ∈ pre.map (·.1) ∨ s.heap.get? p.1 = none)

/-- the end of a def's body -/
noncomputable def Left (s : Shared) (g : Heap) (Post : Value → List (Addr × Obj) → Prop) (v : Value) (s' : Shared) : Prop :=
  ∃ L' m' news' post tk, s' = { s with heap := s'.heap, toks := tk } ∧ Fr g L' s'.heap m' ∧ News g L' s'.heap news' ∧ (∀ p ∈ post, p ∈ news') ∧ Post v post

theorem Left.intro {s : Shared} {g h' : Heap} {Post : Value → List (Addr × Obj) → Prop} {v : Value} {L' : Addr} {m' : Str → Option Value} {news' post : List (Addr × Obj)} {tk : Nat}
    (F : Fr g L' h' m') (N : News g L' h' news') (hp : ∀ p ∈ post, p ∈ news') (h : Post v post) : Left s g Post v { s with heap := h', toks := tk } :=
  ⟨L', m', news', post, tk, rfl, F, N, hp, h⟩

section
variable {prog : Program} {w : World} {A₀ A : Around} {s : Shared} {base h₀ : Heap} {outer : List Env} {L : Addr} {m : Str → Option Value} {env : Env} {pre : List (Addr × Obj)} {K : Frag}
  {R : Result → Shared → Prop} {name qual : Str} {params : Arguments} {body : List Stmt} {scope : Scope} {cl : List (Str × Addr)} {dV kV doc pm cdv ct : Value} {an : Option Addr} {fo : Obj} {f : Addr} {args : Args} {binds : List (Str × Value)}
  {Post : Nat → Value → List (Addr × Obj) → Prop}

theorem leftKept {Post : Value → List (Addr × Obj) → Prop} {g s' : _} {v : Value} (hg : g = hideAll s.heap (pre.map (·.1))) (hl : Left s g Post v s') : ∃ post, Post v post ∧ Kept s s' pre post := by
  obtain ⟨L', m', news', post, tk, e, F', N', hp, h⟩ := hl
  refine ⟨post, h, ⟨tk, e⟩, fun b o eb nb => F'.keep b o (hg ▸ hideAll_get _ eb nb), fun p hpp => ⟨(N' p (hp p hpp)).1, ?_⟩⟩
  by_cases hm : p.1 ∈ pre.map (·.1)
  · exact .inl hm
  · refine .inr ?_
    cases q : s.heap.get? p.1 with
    | none => rfl
    | some o =>
      have := (N' p (hp p hpp)).2.2
      rw [hg, hideAll_get _ q hm] at this
      cases this

theorem enterX (B : Below A₀ base outer h₀) (F : Fr h₀ L s.heap m) (N : News h₀ L s.heap pre) (hlim : h₀.NoLimit) (hA : A.frames = some (env :: outer)) (hf : env.frame = some L) (hke : env.scope.kind = .function)
    (ho : s.heap.get? f = some fo) (hd : fo.data = .func (fnX name qual params body scope cl dV kV doc pm an cdv ct)) (hcd : s.heap.CodeRec cdv qual) (hroom : A.depth < recursionLimit)
    (hbind : BindsTo s (fnX name qual params body scope cl dV kV doc pm an cdv ct) args binds) (hloc : ∀ y ∈ binds, scope.names.lookup y.1 = some .local)
    (k : ∀ n0 v post s', n0 = s.heap.objs.size → Post n0 v post → Kept s s' pre post → R (.ok (.ret v)) s')
    (h : ∀ g L' h₁, Fr h₀ L g m → Fr g L' h₁ (fun y => binds.reverse.lookup y) → News g L' h₁ pre → Below A base (env :: outer) g → h₀.StaysIn g → (∀ p ∈ pre, p.1 < L') → L' = s.heap.objs.size →
      wpAny (model prog w) (A.deeper (envX qual scope L' f cdv cl)) (execs body (envX qual scope L' f cdv cl))
        (fun fl s' => Left s g (Post s.heap.objs.size) (match fl with | .ret v => v | _ => .none) s')
        (fun e s' => wpAny (model prog w) (A.deeper (envX qual scope L' f cdv cl)) (leaving (envX qual scope L' f cdv cl) e) (fun _ s'' => R (.error e) s'') (fun e' s'' => R (.error e') s'') s')
        { s with heap := h₁, toks := s.toks + binds.length })
    (hcell : ∀ x ∈ scope.names, x.2 ≠ .cell) (hco : scope.isCoroutine = false := by rfl) (hgen : scope.isGenerator = false := by rfl) (hk : scope.kind = .function := by rfl) : codeAny (model prog w) A (.call (.ref f) args) R s := by
  obtain ⟨FG, BG, st, _⟩ := groundX (R := fun _ _ => True) B F N hA hf hke
  refine codeAny_call_def (fd := fnX name qual params body scope cl dV kV doc pm an cdv ct) (body := body) (binds := binds) hroom ho hd (hlim.keeps F.keep) hcd rfl hbind hcell hloc (fun h₁ hns hk₁ => ?_) hco hgen hk
  refine wpAny_mono (h _ s.heap.objs.size h₁ FG ⟨hns, fun b o e => hk₁ b o (of_hideAll _ e), Nat.le_of_eq (hideAll_size _ _)⟩
    (fun p hp => ⟨hk₁ _ _ (N p hp).1, Nat.ne_of_lt (Heap.lt_size (N p hp).1), hideAll_none _ (List.mem_map_of_mem hp)⟩) BG st (fun p hp => Heap.lt_size (N p hp).1) rfl) (fun fl s' hl => ?_) fun _ _ y => y
  obtain ⟨post, hP, hK⟩ := leftKept rfl hl
  exact k _ _ post s' rfl hP hK

theorem enterC (B : Below A₀ base outer h₀) (F : Fr h₀ L s.heap m) (N : News h₀ L s.heap pre) (hlim : h₀.NoLimit) (hA : A.frames = some (env :: outer)) (hf : env.frame = some L) (hke : env.scope.kind = .function)
    (ho : s.heap.get? f = some fo) (hd : fo.data = .func (fnX name qual params body scope [] dV kV doc pm an cdv ct)) (hcd : s.heap.CodeRec cdv qual) (hroom : A.depth < recursionLimit)
    (hbind : BindsTo s (fnX name qual params body scope [] dV kV doc pm an cdv ct) args binds)
    (hkind : ∀ n, ∀ x ∈ binds, scope.names.lookup x.1 = some .local ∨ (scope.names.lookup x.1 = some .cell ∧ ((cellsFrom n scope.names []).lookup x.1).isSome = true))
    (hnd : ((cellsFrom 0 scope.names []).map (·.1)).Nodup)
    (k : ∀ n0 v post s', n0 = s.heap.objs.size → Post n0 v post → Kept s s' pre post → R (.ok (.ret v)) s')
    (h : ∀ g L' h₁ tk cells, Fr h₀ L g m → Fr g L' h₁ (bindL (envOfC qual scope L' f cdv).kindOf binds fun _ => none) → News g L' h₁ (cells ++ pre) →
      CellsAre (bindC (envOfC qual scope L' f cdv).kindOf binds fun _ => none) (cellsFrom (L' + 1) scope.names []) cells → Below A base (env :: outer) g → h₀.StaysIn g → (∀ p ∈ pre, p.1 < L') → L' = s.heap.objs.size →
      wpAny (model prog w) (A.deeper (envOfC qual scope L' f cdv)) (execs body (envOfC qual scope L' f cdv))
        (fun fl s' => Left s g (Post s.heap.objs.size) (match fl with | .ret v => v | _ => .none) s')
        (fun e s' => wpAny (model prog w) (A.deeper (envOfC qual scope L' f cdv)) (leaving (envOfC qual scope L' f cdv) e) (fun _ s'' => R (.error e) s'') (fun e' s'' => R (.error e') s'') s')
        { s with heap := h₁, toks := tk })
    (hco : scope.isCoroutine = false := by rfl) (hgen : scope.isGenerator = false := by rfl) (hk : scope.kind = .function := by rfl) : codeAny (model prog w) A (.call (.ref f) args) R s := by
  obtain ⟨FG, BG, st, _⟩ := groundX (R := fun _ _ => True) B F N hA hf hke
  refine codeAny_call_function hroom ho hd hco hgen rfl hcd (hbind _ _ _ _ ?_)
  refine wpAny_newFunctionEnv_cells hk (hkind _) fun env' he s' x => ?_
  subst he
  refine ⟨(hlim.keeps F.keep).keeps x.toInCall.keep, codeAny_func ?_⟩
  obtain ⟨h₁, tk, rfl, _⟩ := x.done
  have hk₁ := x.toInCall.keep
  obtain ⟨cells, NC, Y⟩ := Cl.news (h₀ := s.heap) (Nat.le_refl _) fun n c hm => ⟨x.cell n c (lookup_of_mem_nodup (cellsFrom_names scope.names 0 (s.heap.objs.size + 1) [] [] rfl ▸ hnd) hm), x.above n c hm⟩
  refine wpAny_mono (h _ s.heap.objs.size h₁ tk cells FG ⟨x.toInCall.ns, fun b o e => hk₁ b o (of_hideAll _ e), Nat.le_of_eq (hideAll_size _ _)⟩ (fun p hp => ?_) Y BG st (fun p hp => Heap.lt_size (N p hp).1) rfl) (fun fl s' hl => ?_) fun _ _ y => y
  · rcases List.mem_append.mp hp with hp | hp
    · refine ⟨(NC p hp).1, (NC p hp).2.1, ?_⟩
      cases q : (hideAll s.heap (pre.map (·.1))).get? p.1 with
      | none => rfl
      | some o => have := of_hideAll _ q; rw [(NC p hp).2.2] at this; cases this
    · exact ⟨hk₁ _ _ (N p hp).1, Nat.ne_of_lt (Heap.lt_size (N p hp).1), hideAll_none _ (List.mem_map_of_mem hp)⟩
  · obtain ⟨post, hP, hK⟩ := leftKept rfl hl
    exact k _ _ post s' rfl hP hK
end

section
variable {prog : Program} {w : World} {A₀ A : Around} {s : Shared} {base h₀ : Heap} {outer : List Env} {L : Addr} {m mg mb : Str → Option Value} {env : Env} {pre : List (Addr × Obj)} {K : Frag} {p : Program} {loose : List Str} {mean : ExcName → Option Value}
  {R : Result → Shared → Prop} {name qual : Str} {params : Arguments} {body : List Stmt} {scope : Scope} {dV kV doc pm cdv ct oc : Value} {an od : Option Addr} {osl : Array (Option Value)} {f : Addr} {args : Args} {binds : List (Str × Value)}
  {Post : Nat → Value → List (Addr × Obj) → Prop}
theorem enter (B : Below A₀ base outer h₀) (F : Fr h₀ L s.heap m) (X₀ : K.In h₀) (N : News h₀ L s.heap pre) (T : Top p loose mean mg mb h₀) (hA : A.frames = some (env :: outer)) (hf : env.frame = some L) (hke : env.scope.kind = .function)
    (ho : K.lookup f = some ⟨oc, od, .func (fnOf name qual params body scope dV kV doc pm an cdv ct), osl⟩) (hcd : codeIn K cdv qual = true) (hroom : A.depth < recursionLimit)
    (hbind : BindsTo s (fnOf name qual params body scope dV kV doc pm an cdv ct) args binds) (hloc : ∀ y ∈ binds, scope.names.lookup y.1 = some .local)
    (k : ∀ n0 v post s', n0 = s.heap.objs.size → Post n0 v post → Kept s s' pre post → R (.ok (.ret v)) s')
    (h : ∀ g L' h₁, Fr h₀ L g m → Fr g L' h₁ (fun y => binds.reverse.lookup y) → News g L' h₁ pre → Below A base (env :: outer) g → K.In g → Top p loose mean mg mb g → (∀ p ∈ pre, p.1 < L') → L' = s.heap.objs.size →
      wpAny (model prog w) (A.deeper (envOf qual scope L' f cdv)) (execs body (envOf qual scope L' f cdv))
        (fun fl s' => Left s g (Post s.heap.objs.size) (match fl with | .ret v => v | _ => .none) s')
        (fun e s' => wpAny (model prog w) (A.deeper (envOf qual scope L' f cdv)) (leaving (envOf qual scope L' f cdv) e) (fun _ s'' => R (.error e) s'') (fun e' s'' => R (.error e') s'') s')
        { s with heap := h₁, toks := s.toks + binds.length })
    (hco : scope.isCoroutine = false) (hgen : scope.isGenerator = false) (hk : scope.kind = .function)
    (hcell : ∀ x ∈ scope.names, x.2 ≠ .cell) : codeAny (model prog w) A (.call (.ref f) args) R s :=
  enterX (cl := []) B F N T.nolimit hA hf hke ((X₀.keeps F.keep) _ _ ho) rfl (codeRec_of (X₀.keeps F.keep) hcd) hroom hbind hloc k (fun g L' h₁ FG F' N' B' st l e => h g L' h₁ FG F' N' B' (X₀.keeps st) (T.keeps st) l e) hcell hco hgen hk
theorem enterK (B : Below A₀ base outer h₀) (F : Fr h₀ L s.heap m) (X₀ : K.In h₀) (N : News h₀ L s.heap pre) (T : Top p loose mean mg mb h₀) (hA : A.frames = some (env :: outer)) (hf : env.frame = some L) (hke : env.scope.kind = .function)
    (ho : K.lookup f = some ⟨oc, od, .func (fnOf name qual params body scope dV kV doc pm an cdv ct), osl⟩) (hcd : codeIn K cdv qual = true) (hroom : A.depth < recursionLimit)
    (hbind : BindsTo s (fnOf name qual params body scope dV kV doc pm an cdv ct) args binds) (hkind : (binds.all fun y => scope.names.lookup y.1 == some .local || scope.names.lookup y.1 == some .cell) = true)
    (hnd : ((cellsFrom 0 scope.names []).map (·.1)).Nodup)
    (k : ∀ n0 v post s', n0 = s.heap.objs.size → Post n0 v post → Kept s s' pre post → R (.ok (.ret v)) s')
    (h : ∀ g L' h₁ tk cells, Fr h₀ L g m → Fr g L' h₁ (bindL (envOfC qual scope L' f cdv).kindOf binds fun _ => none) → News g L' h₁ (cells ++ pre) →
      CellsAre (bindC (envOfC qual scope L' f cdv).kindOf binds fun _ => none) (cellsFrom (L' + 1) scope.names []) cells → Below A base (env :: outer) g → K.In g → Top p loose mean mg mb g → (∀ p ∈ pre, p.1 < L') → L' = s.heap.objs.size →
      wpAny (model prog w) (A.deeper (envOfC qual scope L' f cdv)) (execs body (envOfC qual scope L' f cdv))
        (fun fl s' => Left s g (Post s.heap.objs.size) (match fl with | .ret v => v | _ => .none) s')
        (fun e s' => wpAny (model prog w) (A.deeper (envOfC qual scope L' f cdv)) (leaving (envOfC qual scope L' f cdv) e) (fun _ s'' => R (.error e) s'') (fun e' s'' => R (.error e') s'') s')
        { s with heap := h₁, toks := tk })
    (hco : scope.isCoroutine = false) (hgen : scope.isGenerator = false) (hk : scope.kind = .function) : codeAny (model prog w) A (.call (.ref f) args) R s :=
  enterC B F N T.nolimit hA hf hke ((X₀.keeps F.keep) _ _ ho) rfl (codeRec_of (X₀.keeps F.keep) hcd) hroom hbind (kindsX hkind) hnd k (fun g L' h₁ tk cells FG F' N' Y B' st l e => h g L' h₁ tk cells FG F' N' Y B' (X₀.keeps st) (T.keeps st) l e) hco hgen hk
end

/-- what a call of the text's own def at f gives, upon a ledger; the number is the first address that is free at the call -/
noncomputable def DoesN (prog : Program) (w : World) (K : Frag) (D U : Nat) (f : Addr) (vs : List Value) (pre : List (Addr × Obj)) (Post : Nat → Value → List (Addr × Obj) → Prop) : Prop :=
  ∀ (p : Program) (loose : List Str) (mean : ExcName → Option Value) (mg mb : Str → Option Value) (dp un : Nat) (gd : Option (List Code)) (cn : Str) (cs : Scope) (a : Addr) (ccd : Value) (cl : List (Str × Addr)) (outer : List Env) (A₀ : Around) (base h₀ : Heap) (L : Addr) (m : Str → Option Value) (s : Shared) (R : Result → Shared → Prop),
    Below A₀ base outer h₀ → Fr h₀ L s.heap m → K.In h₀ → News h₀ L s.heap pre → Top p loose mean mg mb h₀ → cs.kind = .function → dp + D < recursionLimit → un + U < cLine →
    (∀ n0 v post s', n0 = s.heap.objs.size → Post n0 v post → Kept s s' pre post → R (.ok (.ret v)) s') →
    codeAny (model prog w) (ktrTop dp un gd cn cs L a ccd cl outer) (.call (.ref f) ⟨vs, []⟩) R s

noncomputable abbrev Does (prog : Program) (w : World) (K : Frag) (D U : Nat) (f : Addr) (vs : List Value) (pre : List (Addr × Obj)) (Post : Value → List (Addr × Obj) → Prop) : Prop := DoesN prog w K D U f vs pre fun _ => Post

inductive Rest (pre : List (Addr × Obj)) : List (Addr × Obj) → List (Addr × Obj) → Prop
  | nil : Rest pre [] []
  | drop {p n r} : Rest pre n r → Rest pre (p :: n) r
  | keep {p n r} : p.1 ∉ pre.map (·.1) → Rest pre n r → Rest pre (p :: n) (p :: r)
theorem Rest.mem {pre : List (Addr × Obj)} : ∀ {n r : List (Addr × Obj)}, Rest pre n r → ∀ p ∈ r, p ∈ n ∧ p.1 ∉ pre.map (·.1)
  | _, _, .nil, _, h => nomatch h
  | _, _, .drop h, p, hp => ⟨.tail _ (h.mem p hp).1, (h.mem p hp).2⟩
  | _, _, .keep h0 h, p, hp => by
    rcases List.mem_cons.mp hp with rfl | hp
    · exact ⟨.head _, h0⟩
    · exact ⟨.tail _ (h.mem p hp).1, (h.mem p hp).2⟩
theorem off_nil (a : Addr) : a ∉ ([] : List (Addr × Obj)).map (·.1) := fun h => nomatch h
theorem off_cons {a : Addr} {q : Addr × Obj} {l : List (Addr × Obj)} (h : a ≠ q.1) (t : a ∉ l.map (·.1)) : a ∉ (q :: l).map (·.1) := fun e => by
  rcases List.mem_cons.mp e with e | e
  · exact h e
  · exact t e

theorem Kept.caller {s s' : Shared} {pre post news rest : List (Addr × Obj)} {h₀ : Heap} {L : Addr} {m : Str → Option Value} (k : Kept s s' pre post) (F : Fr h₀ L s.heap m) (N : News h₀ L s.heap news) (hp : ∀ p ∈ pre, p ∈ news) (hr : Rest pre news rest) :
    Fr h₀ L s'.heap m ∧ News h₀ L s'.heap (post ++ rest) ∧ ∀ p ∈ post, p.1 ∈ pre.map (·.1) ∨ ∀ q ∈ news, q.1 ≠ p.1 := by
  have hoff : ∀ b, b ∈ pre.map (·.1) → ∃ o, (b, o) ∈ news := fun b hb => by
    obtain ⟨p, hpp, rfl⟩ := List.mem_map.mp hb
    exact ⟨p.2, hp p hpp⟩
  have hL : L ∉ pre.map (·.1) := fun h => by
    obtain ⟨o, ho⟩ := hoff L h
    exact (N _ ho).2.1 rfl
  have hz : ∀ b o, h₀.get? b = some o → b ∉ pre.map (·.1) := fun b o e h => by
    obtain ⟨o', ho⟩ := hoff b h
    have := (N _ ho).2.2
    rw [e] at this; cases this
  obtain ⟨oL, es, ep, hLo, hLd, hLk, hLf⟩ := F.ns
  have old : ∀ p ∈ post, p.1 ∈ pre.map (·.1) ∨ ∀ q ∈ news, q.1 ≠ p.1 := fun p hp => by
    rcases (k.there p hp).2 with h | h
    · exact .inl h
    · exact .inr fun q hq e => by
        have := (N q hq).1
        rw [e, h] at this; cases this
  refine ⟨⟨⟨oL, es, ep, k.keep L oL hLo hL, hLd, hLk, hLf⟩, fun b o e => k.keep b o (F.keep b o e) (hz b o e), F.above⟩, fun p hpp => ?_, old⟩
  rcases List.mem_append.mp hpp with hpp | hpp
  · refine ⟨(k.there p hpp).1, ?_⟩
    rcases (k.there p hpp).2 with h | h
    · obtain ⟨o, ho⟩ := hoff _ h
      exact (N _ ho).2
    · refine ⟨fun e => ?_, ?_⟩
      · rw [e, hLo] at h; cases h
      · cases q : h₀.get? p.1 with
        | none => rfl
        | some o => rw [F.keep _ _ q] at h; cases h
  · obtain ⟨hn, ho⟩ := hr.mem p hpp
    exact ⟨k.keep _ _ (N p hn).1 ho, (N p hn).2⟩

theorem Does.use {prog : Program} {w : World} {K : Frag} {D U : Nat} {f : Addr} {vs : List Value} {pre : List (Addr × Obj)} {Post : Nat → Value → List (Addr × Obj) → Prop}
    {p : Program} {loose : List Str} {mean : ExcName → Option Value} {mg mb : Str → Option Value} {dp un : Nat} {gd : Option (List Code)} {cn : Str} {cs : Scope} {a : Addr} {ccd : Value} {cl : List (Str × Addr)} {outer : List Env} {A₀ : Around} {base h₀ : Heap} {L : Addr} {m : Str → Option Value} {s : Shared} {Q E : Value → Shared → Prop} {news rest : List (Addr × Obj)}
    (C : DoesN prog w K D U f vs pre Post) (B : Below A₀ base outer h₀) (F : Fr h₀ L s.heap m) (X : K.In h₀) (N : News h₀ L s.heap news) (T : Top p loose mean mg mb h₀) (hk : cs.kind = .function) (hd : dp + D < recursionLimit) (hu : un + U < cLine)
    (hp : ∀ p ∈ pre, p ∈ news) (hr : Rest pre news rest)
    (ret : ∀ n0 v post h' tk', (∀ q ∈ news, q.1 < n0) → Post n0 v post → Fr h₀ L h' m → News h₀ L h' (post ++ rest) → Q v { s with heap := h', toks := tk' }) :
    wpAny (model prog w) (ktrTop dp un gd cn cs L a ccd cl outer) (call (.ref f) vs) Q E s :=
  wpAny_call (C _ _ _ _ _ _ _ _ _ _ _ _ _ _ _ _ _ _ _ _ _ B F X (fun p h => N p (hp p h)) T hk hd hu fun n0 v post s' en hP k => by
    obtain ⟨F', N', _⟩ := k.caller F N hp hr
    obtain ⟨tk, e⟩ := k.form
    rw [e] at F' N' ⊢
    exact ret n0 v post _ tk (fun q hq => en ▸ Heap.lt_size (N q hq).1) hP F' N')
theorem Does.code {prog : Program} {w : World} {K : Frag} {D U : Nat} {f : Addr} {vs : List Value} {pre : List (Addr × Obj)} {Post : Nat → Value → List (Addr × Obj) → Prop}
    {p : Program} {loose : List Str} {mean : ExcName → Option Value} {mg mb : Str → Option Value} {dp un : Nat} {gd : Option (List Code)} {cn : Str} {cs : Scope} {a : Addr} {ccd : Value} {cl : List (Str × Addr)} {outer : List Env} {A₀ : Around} {base h₀ : Heap} {L : Addr} {m : Str → Option Value} {s : Shared} {R : Result → Shared → Prop} {news rest : List (Addr × Obj)}
    (C : DoesN prog w K D U f vs pre Post) (B : Below A₀ base outer h₀) (F : Fr h₀ L s.heap m) (X : K.In h₀) (N : News h₀ L s.heap news) (T : Top p loose mean mg mb h₀) (hk : cs.kind = .function) (hd : dp + D < recursionLimit) (hu : un + U < cLine)
    (hp : ∀ p ∈ pre, p ∈ news) (hr : Rest pre news rest)
    (ret : ∀ n0 v post h' tk', (∀ q ∈ news, q.1 < n0) → Post n0 v post → Fr h₀ L h' m → News h₀ L h' (post ++ rest) → R (.ok (.ret v)) { s with heap := h', toks := tk' }) :
    codeAny (model prog w) (ktrTop dp un gd cn cs L a ccd cl outer) (.call (.ref f) ⟨vs, []⟩) R s :=
  C _ _ _ _ _ _ _ _ _ _ _ _ _ _ _ _ _ _ _ _ _ B F X (fun p h => N p (hp p h)) T hk hd hu fun n0 v post s' en hP k => by
    obtain ⟨F', N', _⟩ := k.caller F N hp hr
    obtain ⟨tk, e⟩ := k.form
    rw [e] at F' N' ⊢
    exact ret n0 v post _ tk (fun q hq => en ▸ Heap.lt_size (N q hq).1) hP F' N'

theorem sub_nil {m : List (Addr × Obj)} : ∀ p ∈ ([] : List (Addr × Obj)), p ∈ m := fun _ h => nomatch h
theorem sub_both {a : Addr × Obj} {l m : List (Addr × Obj)} (h : ∀ p ∈ l, p ∈ m) : ∀ p ∈ a :: l, p ∈ a :: m := fun p hp => by
  rcases List.mem_cons.mp hp with rfl | hp
  · exact .head _
  · exact .tail _ (h p hp)
theorem sub_bothA {a : Addr} {o o' : Obj} {l m : List (Addr × Obj)} (e : o = o') (h : ∀ p ∈ l, p ∈ m) : ∀ p ∈ (a, o) :: l, p ∈ (a, o') :: m := e ▸ sub_both h
theorem sub_skip {a : Addr × Obj} {l m : List (Addr × Obj)} (h : ∀ p ∈ l, p ∈ m) : ∀ p ∈ l, p ∈ a :: m := fun p hp => .tail _ (h p hp)
theorem sub_cons {a : Addr × Obj} {l m : List (Addr × Obj)} (ha : a ∈ m) (h : ∀ p ∈ l, p ∈ m) : ∀ p ∈ a :: l, p ∈ m := fun p hp => by
  rcases List.mem_cons.mp hp with rfl | hp
  · exact ha
  · exact h p hp
theorem all_nil {d : Addr} : ∀ p ∈ ([] : List (Addr × Obj)), p.1 ≠ d := fun _ h => nomatch h
theorem all_cons {d : Addr} {q : Addr × Obj} {l : List (Addr × Obj)} (h : q.1 ≠ d) (t : ∀ p ∈ l, p.1 ≠ d) : ∀ p ∈ q :: l, p.1 ≠ d := fun p hp => by
  rcases List.mem_cons.mp hp with rfl | hp
  · exact h
  · exact t p hp
theorem neL {a b : Nat} (h : a < b) : a ≠ b := Nat.ne_of_lt h
theorem neG {a b : Nat} (h : b < a) : a ≠ b := Nat.ne_of_gt h

section
variable {prog : Program} {w : World} {A : Around} {E : Value → Shared → Prop} {s : Shared} {h₀ : Heap} {L : Addr} {m : Str → Option Value} {Q : Value → Shared → Prop} {news : List (Addr × Obj)}
theorem list_strK {x : Str} {t : Tok} (hh : A.handled = none) (F : Fr h₀ L s.heap m) (N : News h₀ L s.heap news) (hsz : x.length ≤ sizeLine)
    (h : ∀ D n ys h' tk, Fr h₀ L h' m → News h₀ L h' ((D, listOf (List.toArray ys) n) :: news) → StrsAre ys (signs x) → (∀ p ∈ news, p.1 < D) → Q (.ref D) { s with heap := h', toks := tk }) :
    wpAny (model prog w) A (call (.type "list") [.str x t]) Q E s :=
  list_strD hh F N (fun h' tk ys F' N' _ hf _ np hc => by
    obtain ⟨n, NX⟩ := made_enters np F' N' hf
    exact h _ n ys h' tk F' NX (StrsAre.of_carried hc) fun p hp => Heap.lt_size (N p hp).1) hsz
end
/-- the tokens are forgotten: in place of a search through the whole goal -/
theorem gen9 {α : Type} {M : Model} {A : Around} {t : Sem α} {Q : α → Shared → Prop} {E : Value → Shared → Prop} {h : Heap} {g : Array GenState} {d : Drawn} {o : OsState} {X : Nat} (k : ∀ tk : Nat, wpAny M A t Q E ⟨h, g, d, tk, o⟩) : wpAny M A t Q E ⟨h, g, d, X, o⟩ := k X

end
set_option maxHeartbeats 1000000
section
section
theorem startFnAttr : True := by
  w_top off
  trivial
local macro_rules | `(tactic| walk_at "zz none") => `(tactic| fail "zz none")
open PySem.Builtin PySem.Builtin.ObjectAttr
theorem slot_fn_setattr : Slot "function" "__setattr__" "object.__setattr__" :=
  .of (owner := "object") (n := "__setattr__") (by rw [typeLookup_type, builtinLookup_eq_fast]; kernel_rfl) (by decide +kernel) (by decide +kernel) (by decide +kernel)
    (by first | exact .inl (by decide +kernel) | exact .inr (by decide +kernel)) (by rw [isSubtype_type]; kernel_rfl)
theorem refuse_fn (self : Value) : refuseLoop self "__setattr__" [.type "function", .type "object"] = pure () := by kernel_rfl
theorem mro_fn : mroOf (.type "function") = pure [.type "function", .type "object"] := by kernel_rfl
theorem fn_no_read : typeLookup (.type "function") "read" = pure none := by rw [typeLookup_type, builtinLookup_eq_fast]; kernel_rfl
theorem hasDict_fn : typeHasDict (.type "function") = true := by decide +kernel
theorem fin_fn : finalisedInACycleAlone "function" = false := by decide +kernel

section
variable {prog : Program} {w : World} {A : Around} {E : Value → Shared → Prop} {s : Shared} {h₀ : Heap} {L f : Addr} {m : Str → Option Value} {news : List (Addr × Obj)} {pre post : List (Addr × Obj)} {fd : FuncData} {sl : Array (Option Value)} {name : Str} {v : Value} {Q : Unit → Shared → Prop}

theorem setAttr_fn (F : Fr h₀ L s.heap m) (N : News h₀ L s.heap (pre ++ (f, ⟨.type "function", none, .func fd, sl⟩) :: post)) (h1 : ∀ p ∈ pre, p.1 ≠ f) (h2 : ∀ p ∈ post, p.1 ≠ f)
    (hname : typeLookup (.type "function") name = pure none)
    (h : ∀ d h', Fr h₀ L h' m → News h₀ L h' ((d, dictOf [⟨PyData.keyHash w.params name, .str name (s.toks + 1), v⟩] 1) :: (pre ++ (f, ⟨.type "function", some d, .func fd, sl⟩) :: post)) → (∀ p ∈ pre ++ (f, (⟨.type "function", some d, .func fd, sl⟩ : Obj)) :: post, p.1 < d) → Q () { s with heap := h', toks := s.toks + 2 }) :
    wpAny (model prog w) A (setAttr (.ref f) name v) Q E s := by
  have hf := N (f, ⟨.type "function", none, .func fd, sl⟩) (by simp)
  have hT : s.TypeIs (.ref f) "function" := ⟨_, hf.1, rfl⟩
  refine wpAny_bind (wpAny_mkText (wpAny_bind (wpAny_callSpecial?_slot (s := { s with toks := s.toks + 1 }) hT slot_fn_setattr (wpAny_call ?_))))
  refine codeAny_call_builtin slot_fn_setattr.plain PySem.F.entry_object_sa (slot_fn_setattr.check _ _ _ _ _ _ _ _ hT (PySem.F.store_object.args _ _ _) ?_)
  rw [osa_eq, refuse_eq]
  refine wpAny_bind (wpAny_bind (wpAny_typeOf (T := "function") hT (wpAny_bind (wpAny_of_eq mro_fn ?_))))
  rw [refuse_fn]
  refine wpAny_pure (wpAny_bind (wpAny_typeOf (T := "function") hT (wpAny_bind (wpAny_of_eq hname ?_))))
  refine wpAny_bind (wpAny_pure ?_)
  show wpAny _ _ (storeInOwnDict _ _ _ _ _ _) _ _ _
  unfold storeInOwnDict
  refine wpAny_bind (wpAny_of_eq (show ownStreamTells (.ref f) (.type "function") = pure () from rfl) ?_)
  rw [if_neg (by decide)]
  refine wpAny_bind ?_
  show wpAny _ _ (instanceDict f true) _ _ _
  unfold instanceDict
  refine wpAny_bind (wpAny_loadPart hf.1 ?_)
  dsimp only
  rw [hasDict_fn]
  rw [if_neg (by decide)]
  refine wpAny_bind (wpAny_alloc ?_)
  have F1 := F.push { cls := .type "dict", data := .dict #[] }
  have N1 := N.push F { cls := .type "dict", data := .dict #[] }
  have lt : ∀ p ∈ pre ++ (f, (⟨.type "function", none, .func fd, sl⟩ : Obj)) :: post, p.1 < s.heap.objs.size := fun p hp => Heap.lt_size (N p hp).1
  generalize hD : s.heap.objs.size = D at N1 lt ⊢
  generalize hH : s.heap.push { cls := .type "dict", data := .dict #[] } = H1 at F1 N1 ⊢
  have U := news_upd (pre := (D, { cls := .type "dict", data := .dict #[] }) :: pre) (post := post) (d := f) (f := fun o => { o with dict := some D }) F1 N1 (fun p hp => by
    rcases List.mem_cons.mp hp with rfl | hp
    · exact Nat.ne_of_gt (lt (f, ⟨.type "function", none, .func fd, sl⟩) (by simp))
    · exact h1 p hp) h2 rfl rfl
  refine wpAny_bind (wpAny_update (N1 (f, ⟨.type "function", none, .func fd, sl⟩) (by simp)).1 ?_)
  generalize hH2 : H1.update f (fun o => { o with dict := some D }) = H2 at U ⊢
  unfold dictMade
  dsimp only
  rw [fin_fn, if_neg (by decide)]
  refine wpAny_bind (wpAny_pure (wpAny_pure ?_))
  dsimp only
  unfold storeInDict newKeyGuard
  refine wpAny_bind (wpAny_pure (wpAny_bind ?_))
  have Dd := (U.2 (D, { cls := .type "dict", data := .dict #[] }) (by simp)).1
  unfold nsSet
  refine wpAny_bind (wpAny_bind (wpAny_askSetting (wpAny_pure (wpAny_bind (wpAny_mkText (wpAny_bind (wpAny_loadPart Dd ?_)))))))
  dsimp only
  rw [show aRefKeyMayBeTheName name #[] = false from rfl, if_neg (by decide)]
  refine wpAny_bind (wpAny_pure (wpAny_updatePart Dd ?_))
  have V := news_upd (pre := []) (post := pre ++ (f, ⟨.type "function", some D, .func fd, sl⟩) :: post) (d := D) (f := Obj.putName name (PyData.keyHash w.params name) (.str name (s.toks + 1)) v) (o' := dictOf [⟨PyData.keyHash w.params name, .str name (s.toks + 1), v⟩] 1) U.1 (by simpa using U.2) (fun _ h => nomatch h) (fun p hp => by
    rcases List.mem_append.mp hp with hp | hp
    · exact Nat.ne_of_lt (lt p (List.mem_append_left _ hp))
    · rcases List.mem_cons.mp hp with rfl | hp
      · exact Nat.ne_of_lt (lt (f, ⟨.type "function", none, .func fd, sl⟩) (by simp))
      · exact Nat.ne_of_lt (lt p (List.mem_append_right _ (.tail _ hp)))) (putName_dict name _ _ v [] 0) rfl
  refine wpAny_bind (wpAny_lookBehind (V.2 (D, _) (.head _)).1 (pastItsLine_dict (by rw [sizeLine_eq]; show 1 ≤ _; (first | lia | omega))) ?_)
  refine wpAny_pure ?_
  refine wpAny_pure (h D _ V.1 V.2 fun p hp => ?_)
  rcases List.mem_append.mp hp with hp | hp
  · exact lt p (List.mem_append_left _ hp)
  · rcases List.mem_cons.mp hp with rfl | hp
    · exact lt (f, ⟨.type "function", none, .func fd, sl⟩) (by simp)
    · exact lt p (List.mem_append_right _ (.tail _ hp))
theorem setAttr_fnK {g : Obj → List (Addr × Obj)} (F : Fr h₀ L s.heap m) (N : News h₀ L s.heap news) (U : UpdF f ⟨.type "function", none, .func fd, sl⟩ news g)
    (hname : typeLookup (.type "function") name = pure none)
    (h : ∀ d h', Fr h₀ L h' m → News h₀ L h' ((d, dictOf [⟨PyData.keyHash w.params name, .str name (s.toks + 1), v⟩] 1) :: g ⟨.type "function", some d, .func fd, sl⟩) → (∀ p ∈ news, p.1 < d) → Q () { s with heap := h', toks := s.toks + 2 }) :
    wpAny (model prog w) A (setAttr (.ref f) name v) Q E s := by
  obtain ⟨own, rest, rfl, hg, h1, h2⟩ := U.split
  refine setAttr_fn F N h1 h2 hname fun d h' F' N' lt => h d h' F' (by rw [hg]; exact N') fun p hp => ?_
  rcases List.mem_append.mp hp with hp | hp
  · exact lt p (List.mem_append_left _ hp)
  · rcases List.mem_cons.mp hp with rfl | hp
    · exact lt (f, ⟨.type "function", some d, .func fd, sl⟩) (by simp)
    · exact lt p (List.mem_append_right _ (.tail _ hp))
end

end
section
theorem startListOps : True := by
  w_top off
  trivial
section
variable {prog : Program} {w : World} {A : Around} {E : Value → Shared → Prop} {s : Shared} {h₀ : Heap} {L D : Addr} {m : Str → Option Value} {news news' : List (Addr × Obj)} {n : Nat} {y : Value} {q : List Value}
theorem pop0 {u : Tok} {Q : Value → Shared → Prop} (F : Fr h₀ L s.heap m) (N : News h₀ L s.heap news) (U : Upd D (listOf (y :: q).toArray n) (listOf q.toArray (n + 1)) news news')
    (hz : (y :: q).length ≤ sizeLine) (h : ∀ h', Fr h₀ L h' m → News h₀ L h' news' → Q y { s with heap := h' }) : wpAny (model prog w) A (call (.builtin "list.pop") [.ref D, .int 0 u]) Q E s :=
  kl_popAt (i := 0) (k := 0) (p := []) (q := q) (y := y) F N rfl (by
    show seqIndex? 0 (y :: q).toArray.size = some 0
    unfold seqIndex?
    rw [List.size_toArray, List.length_cons]
    simp) rfl U hz h
theorem truthyNil {Q : Bool → Shared → Prop} (N : News h₀ L s.heap news) (hm : (D, listOf ([] : List Value).toArray n) ∈ news) (h : ∀ tk, Q false { s with toks := tk }) : wpAny (model prog w) A (truthy (.ref D)) Q E s :=
  wpAny_truthy_list ⟨_, N.get hm, rfl, _, rfl⟩ (by decide) (h _)
theorem truthyCons {Q : Bool → Shared → Prop} (N : News h₀ L s.heap news) (hm : (D, listOf (y :: q).toArray n) ∈ news) (hz : (y :: q).length ≤ sizeLine) (h : ∀ tk, Q true { s with toks := tk }) : wpAny (model prog w) A (truthy (.ref D)) Q E s :=
  wpAny_truthy_list ⟨_, N.get hm, rfl, _, rfl⟩ (by rw [sizeLine_eq] at hz; rw [List.size_toArray]; (first | lia | omega)) (by
    have : (!(y :: q).toArray.isEmpty) = true := by simp
    rw [this]; exact h _)
end

theorem in_head {a : Addr} {o : Obj} {l : List (Addr × Obj)} : a ∈ ((a, o) :: l).map (·.1) := .head _
theorem in_tail {a : Addr} {q : Addr × Obj} {l : List (Addr × Obj)} (h : a ∈ l.map (·.1)) : a ∈ (q :: l).map (·.1) := .tail _ h
theorem Rest.drop2 {pre n r : List (Addr × Obj)} {a : Addr} {o : Obj} (_h : a ∈ pre.map (·.1)) (t : Rest pre n r) : Rest pre ((a, o) :: n) r := .drop t

end
section
theorem startFnGet : True := by
  w_top off
  trivial
local macro_rules | `(tactic| walk_at "zz none") => `(tactic| fail "zz none")
open PySem.Builtin PySem.Builtin.ObjectAttr
theorem slot_fn_ga : Slot "function" "__getattribute__" "object.__getattribute__" :=
  .of (owner := "object") (n := "__getattribute__") (by rw [typeLookup_type, builtinLookup_eq_fast]; kernel_rfl) (by decide +kernel) (by decide +kernel) (by decide +kernel)
    (by first | exact .inl (by decide +kernel) | exact .inr (by decide +kernel)) (by rw [isSubtype_type]; kernel_rfl)
theorem fn_no_getattr : typeLookup (.type "function") "__getattr__" = pure none := by rw [typeLookup_type, builtinLookup_eq_fast]; kernel_rfl
theorem canon_oga : (Manifest.canonical "object.__getattribute__" != "object.__getattribute__") = false := by decide +kernel
section
variable {prog : Program} {w : World} {A : Around} {E : Value → Shared → Prop} {s : Shared} {h₀ : Heap} {L f d : Addr} {m : Str → Option Value} {news : List (Addr × Obj)} {fd : FuncData} {sl : Array (Option Value)} {name : Str} {v : Value} {es : List DictEntry} {n : Nat}

theorem getAttr_fn {Q : Value → Shared → Prop} (N : News h₀ L s.heap news) (hf : (f, (⟨.type "function", some d, .func fd, sl⟩ : Obj)) ∈ news) (hd : (d, dictOf es n) ∈ news)
    (hname : typeLookup (.type "function") name = pure none) (hl : getL name es = some (some v)) (hv : handedIn v = true)
    (h : Q v { s with toks := s.toks + 1 }) : wpAny (model prog w) A (getAttr (.ref f) name) Q E s := by
  have hT : s.TypeIs (.ref f) "function" := ⟨_, N.get hf, rfl⟩
  have hT' : ({ s with toks := s.toks + 1 } : Shared).TypeIs (.ref f) "function" := ⟨_, N.get hf, rfl⟩
  refine wpAny_bind (wpAny_mkText ?_)
  show wpAny _ _ (holding _ _) _ _ _
  refine wpAny_holding (wpAny_bind (wpAny_typeOf (T := "function") hT' (wpAny_bind (wpAny_of_eq slot_fn_ga.lookup ?_))))
  show wpAny _ _ (getAttrByItsOwn _ _ _ _ _ _) _ _ _
  refine wpAny_bind (wpAny_pure (wpAny_bind (wpAny_attempt (wpAny_holding ?_))))
  show wpAny _ _ (boundAndCalled _ _ _) _ _ _
  unfold boundAndCalled
  rw [slot_fn_ga.bind]
  refine wpAny_bind (wpAny_pure (wpAny_call_entry slot_fn_ga hT' PySem.F.entry_object_getattribute ?_ (PySem.F.args_object_getattribute_2 _ _)))
  have e : ∀ (self : Value) (tk : Tok), Builtin.«object.__getattribute__» ⟨[self, .str name tk], []⟩ = (typeOf self >>= fun tp => find self tp name >>= fun r => match r with
    | .value v => ret v
    | .bind g a => bindTo g a self tp
    | .missing => do
      if tp == .type "module" then
        if ← isOpaqueModuleObj self then
          let byTheModulesOwnEntry := match (← stack).drop 1 with
            | (.builtin "module.__getattribute__" ⟨m :: _, _⟩, _) :: _ => m == self
            | _ => false
          if !byTheModulesOwnEntry then unsupported "thirdparty:object.__getattribute__:a-miss-on-an-opaque-module"
      if tp == .type "type" then
        if let some key ← opaqueClassAbove self then unsupported s!"thirdparty:{key.toString}.{name.toString}:object.__getattribute__-misses-on-an-opaque-class"
      noSuchAttribute self name) := fun self tk => by kernel_rfl
  show wpAny _ _ (Builtin.«object.__getattribute__» ⟨[.ref f, .str name s.toks], []⟩) _ _ _
  rw [e]
  refine wpAny_bind (wpAny_typeOf (T := "function") hT' (wpAny_bind ?_))
  unfold find
  refine wpAny_bind (wpAny_of_eq hname (wpAny_bind (wpAny_pure (wpAny_bind (wpAny_pure ?_)))))
  show wpAny _ _ (ownThenClass _ _ _ _) _ _ _
  unfold ownThenClass
  refine wpAny_bind ?_
  show wpAny _ _ (do inDict name (← ObjectAttr.ownDict f)) _ _ _
  refine wpAny_bind ?_
  unfold ObjectAttr.ownDict
  refine wpAny_bind (wpAny_loadPart (N.get hf) ?_)
  dsimp only
  unfold instanceDict
  refine wpAny_bind (wpAny_loadPart (N.get hf) ?_)
  dsimp only
  refine wpAny_pure ?_
  show wpAny _ _ (nsGet d name) _ _ _
  unfold nsGet
  refine wpAny_bind (wpAny_loadPart (N.get hd) ?_)
  rw [nsLook_of (r := some v) (by rw [lookIn_dict]; exact hl)]
  refine wpAny_pure (wpAny_bind (wpAny_rule (wpAny_pure ?_)))
  refine wpAny_pure ⟨v, rfl, ?_⟩
  show wpAny _ _ (handedOut v) _ _ _
  rw [handedOut_of hv]
  exact wpAny_pure h

theorem getMethod_fn {pl : Sem Bool} {Q : Value × List Value → Shared → Prop} (N : News h₀ L s.heap news) (hf : (f, (⟨.type "function", some d, .func fd, sl⟩ : Obj)) ∈ news) (hd : (d, dictOf es n) ∈ news)
    (hname : typeLookup (.type "function") name = pure none) (hl : getL name es = some (some v)) (hv : handedIn v = true)
    (h : Q (v, []) { s with toks := s.toks + 1 }) : wpAny (model prog w) A (getMethod (.ref f) name pl) Q E s := by
  have hT : s.TypeIs (.ref f) "function" := ⟨_, N.get hf, rfl⟩
  unfold getMethod
  refine wpAny_bind (wpAny_specialOf hT slot_fn_ga.lookup ?_)
  show wpAny _ _ (if (Manifest.canonical "object.__getattribute__" != "object.__getattribute__") = true then _ else _) Q E s
  rw [canon_oga, if_neg Bool.false_ne_true]
  refine wpAny_bind (wpAny_specialOf hT fn_no_getattr ?_)
  refine wpAny_bind (wpAny_specialOf hT hname ?_)
  refine wpAny_bind (getAttr_fn N hf hd hname hl hv ?_)
  exact wpAny_pure h
end

end
section
theorem startCallIter : True := by
  w_top off
  trivial
open PySem.Builtin
noncomputable abbrev citer (f sv : Value) : Obj := { cls := .type "callable_iterator", data := .fields #[f, sv, .bool false] }
noncomputable abbrev cended : Obj := { cls := .type "callable_iterator", data := .fields #[.none, .none, .bool true] }
theorem slot_citer_iter : Slot "callable_iterator" "__iter__" "callable_iterator.__iter__" :=
  .of (owner := "callable_iterator") (n := "__iter__") (by rw [typeLookup_type, builtinLookup_eq_fast]; kernel_rfl) (by decide +kernel) (by decide +kernel) (by decide +kernel)
    (by first | exact .inl (by decide +kernel) | exact .inr (by decide +kernel)) (by rw [isSubtype_type]; kernel_rfl)
theorem slot_citer_next : Slot "callable_iterator" "__next__" "callable_iterator.__next__" :=
  .of (owner := "callable_iterator") (n := "__next__") (by rw [typeLookup_type, builtinLookup_eq_fast]; kernel_rfl) (by decide +kernel) (by decide +kernel) (by decide +kernel)
    (by first | exact .inl (by decide +kernel) | exact .inr (by decide +kernel)) (by rw [isSubtype_type]; kernel_rfl)
theorem entry_citer_iter : entryFor table "callable_iterator.__iter__" = some Builtin.«dict_keyiterator.__iter__» :=
  entryFor_alias (id' := "dict_keyiterator.__iter__") (by kernel_rfl) rfl (by decide +kernel) (by kernel_rfl)
theorem entry_citer_next : entryFor table "callable_iterator.__next__" = some Builtin.«callable_iterator.__next__» := entryFor_of_tree (by kernel_rfl)
theorem args_citer_iter (a : Value) : argsOk "callable_iterator.__iter__" ⟨[a], []⟩ := by unfold argsOk; kernel_rfl
theorem args_citer_next (a : Value) : argsOk "callable_iterator.__next__" ⟨[a], []⟩ := by unfold argsOk; kernel_rfl
theorem entry_iter : entryFor table "iter" = some Builtin.«iter» := entryFor_of_tree (by kernel_rfl)
theorem kind_iter : builtinKind "iter" = none := by decide +kernel
theorem plain_iter : plainId "iter" = true := by decide +kernel
theorem args_iter2 (a b : Value) : argsOk "iter" ⟨[a, b], []⟩ := by unfold argsOk; kernel_rfl
theorem method_call_slot : typeLookup (.type "method") "__call__" = pure (some (.builtin "method.__call__")) := by rw [typeLookup_type, builtinLookup_eq_fast]; kernel_rfl
section
variable {prog : Program} {w : World} {A : Around} {E : Value → Shared → Prop} {s : Shared} {h₀ : Heap} {L q it : Addr} {m : Str → Option Value} {news : List (Addr × Obj)} {g self v : Value} {Q : Value → Shared → Prop}

theorem iter_call (F : Fr h₀ L s.heap m) (N : News h₀ L s.heap news) (hq : (q, methodObj g self) ∈ news)
    (h : ∀ it h', Fr h₀ L h' m → News h₀ L h' ((it, citer (.ref q) v) :: news) → (∀ p ∈ news, p.1 < it) → Q (.ref it) { s with heap := h' }) :
    wpAny (model prog w) A (call (.builtin "iter") [.ref q, v]) Q E s := by
  refine Calls.call_function_entry kind_iter plain_iter entry_iter (args_iter2 _ _) ?_
  have hT : s.TypeIs (.ref q) "method" := ⟨_, N.get hq, rfl⟩
  show wpAny _ _ (do
    if (← specialOf (.ref q) "__call__").isNone then rule "iter.not-callable"; raiseError "TypeError" "iter(v, w): v must be callable"
    rule "iter.sentinel"; ret (← newFields "callable_iterator" [.ref q, v, .bool false])) _ _ _
  refine wpAny_bind (wpAny_specialOf hT method_call_slot ?_)
  rw [if_neg (by decide)]
  refine wpAny_bind (wpAny_rule (wpAny_bind ?_))
  unfold newFields
  refine wpAny_newObj_type (wpAny_pure ⟨_, rfl, h _ _ (F.push _) (N.push F _) fun p hp => Heap.lt_size (N p hp).1⟩) (by size_fits)

theorem pyIter_citer {vs : Array Value} (N : News h₀ L s.heap news) (hi : (it, (⟨.type "callable_iterator", none, .fields vs, #[]⟩ : Obj)) ∈ news) (h : Q (.ref it) s) : wpAny (model prog w) A (pyIter (.ref it)) Q E s := by
  have hT : s.TypeIs (.ref it) "callable_iterator" := ⟨_, N.get hi, rfl⟩
  refine wpAny_pyIter_slot hT slot_citer_iter (wpAny_call_entry slot_citer_iter hT entry_citer_iter ?_ (args_citer_iter _))
  show wpAny _ _ (do ret (Value.ref it)) _ _ s
  exact wpAny_pure ⟨_, rfl, "callable_iterator", _, hT, slot_citer_next.lookup, h⟩

theorem borrows_method {f : Addr} {fd : FuncData} {dd : Option Addr} {sl : Array (Option Value)} {E : Value → Shared → Prop} {Q : Bool → Shared → Prop} (hq : s.heap.get? q = some (methodObj (.ref f) self)) (hf : s.heap.get? f = some ⟨.type "function", dd, .func fd, sl⟩) (h : Q true s) :
    wpAny (model prog w) A (borrowsExactly (.ref q)) Q E s := by
  unfold borrowsExactly
  refine wpAny_bind (wpAny_load hq ?_)
  dsimp only
  rw [if_pos (by decide)]
  refine wpAny_bind (wpAny_load hf ?_)
  exact wpAny_pure h
theorem wpAny_callBorrowed {f : Value} {pos : List Value} (hc : codeAny (model prog w) A (.call f ⟨pos, []⟩) (fun r s' => match r with | .ok (.ret v) => Q v s' | .ok _ => False | .error e => E e s') s) :
    wpAny (model prog w) A (callBorrowed f pos) Q E s := fun Γ p hΓ => by
  unfold callBorrowed
  rw [Sem.wp]
  refine wpCode_mono (fun r s' h => ?_) (hc _ p rfl (hΓ.enter _ none p (by intro x; cases x)))
  rcases r with e | (v | _ | _ | _) <;> first | exact h | exact h.elim

/-- the next of a sign's iterator: the call gives a text; the empty text ends -/
theorem pyNext_citer {f : Addr} {fd : FuncData} {dd : Option Addr} {sl : Array (Option Value)} {t : Tok} {Q : Option Value → Shared → Prop}
    (hh : A.handled = none)
    (hi : s.heap.get? it = some (citer (.ref q) (.str "" t))) (hq : s.heap.get? q = some (methodObj (.ref f) self)) (hf : s.heap.get? f = some ⟨.type "function", dd, .func fd, sl⟩)
    (hc : codeAny (model prog w) A.in1 (.call (.ref f) ⟨[self], []⟩) (fun r s' => ∃ x u, r = .ok (.ret (.str x u)) ∧
      s'.heap.get? it = some (citer (.ref q) (.str "" t)) ∧ s'.heap.get? q = some (methodObj (.ref f) self) ∧ s'.heap.get? f = some ⟨.type "function", dd, .func fd, sl⟩ ∧
      (x ≠ Str.ofString "" → Q (some (.str x u)) s') ∧
      (x = Str.ofString "" → ∀ h', h'.get? it = some cended → (∀ b o, b ≠ it → s'.heap.get? b = some o → h'.get? b = some o) → Q none { s' with heap := h' })) s) :
    wpAny (model prog w) A (pyNext (.ref it)) Q E s := by
  have hT : s.TypeIs (.ref it) "callable_iterator" := ⟨_, hi, rfl⟩
  unfold pyNext
  refine wpAny_bind (wpAny_attempt (wpAny_callSpecial?_slot (name := Str.ofString "__next__") hT slot_citer_next
    (wpAny_call (codeAny_call_builtin slot_citer_next.plain entry_citer_next (slot_citer_next.check _ _ _ _ _ _ _ _ hT (args_citer_next _) ?_)))))
  show wpAny _ _ (field (.ref it) 2 >>= _) _ _ _
  refine wpAny_bind (wpAny_field hi rfl (x := .bool false) rfl ?_)
  show wpAny _ _ (if (Value.bool false == Value.bool true) = true then _ else _) _ _ _
  rw [if_neg (by decide)]
  refine wpAny_bind (wpAny_field hi rfl (x := .ref q) rfl ?_)
  refine wpAny_bind (wpAny_attempt ?_)
  unfold callOutOfASlot
  refine wpAny_bind (borrows_method hq hf ?_)
  rw [if_pos rfl]
  refine wpAny_callBorrowed (method_call hq (codeAny_mono hc fun r s' h => ?_))
  obtain ⟨x, u, rfl, hi', hq', hf', h1, h2⟩ := h
  dsimp only
  refine wpAny_bind (wpAny_field hi' rfl (x := .bool false) rfl ?_)
  show wpAny _ _ (if (Value.bool false == Value.bool true) = true then _ else _) _ _ _
  rw [if_neg (by decide)]
  refine wpAny_bind (wpAny_field hi' rfl (x := .str "" t) rfl (wpAny_bind (wpAny_holding (eqBool_str ?_))))
  by_cases hx : x = Str.ofString ""
  · have e : ((Str.ofString "" : Str) == x) = true := by rw [hx]; simp
    rw [e]
    rw [if_neg (by decide)]
    refine wpAny_bind (wpAny_rule (wpAny_bind ?_))
    show wpAny _ _ (field (.ref it) 0 >>= _) _ _ _
    refine wpAny_bind (wpAny_field hi' rfl (x := .ref q) rfl (wpAny_bind ?_))
    unfold slotLetsGo
    refine wpAny_bind (borrows_method hq' hf' ?_)
    rw [if_pos rfl]
    refine wpAny_pure ?_
    refine wpAny_bind (wpAny_setField_rec hi' (by simp) fun H1 g1 k1 => ?_)
    refine wpAny_bind (wpAny_setField_rec (s := { s' with heap := H1 }) g1 (by simp) fun H2 g2 k2 => ?_)
    refine wpAny_setField_rec (s := { s' with heap := H2 }) g2 (by simp) fun H3 g3 k3 => ?_
    show wpAny _ _ (newExc (.type "StopIteration") [] >>= _) _ _ _
    refine wpAny_bind ?_
    simp only [newExc, newTuple]
    refine wpAny_bind (wpAny_newObj_type ?_ (by size_fits))
    refine wpAny_bind (m := firstArgMember _ _) (wpAny_of_eq (a := Value.none) (by first | rfl | (simp only [firstArgMember]; rfl)) ?_)
    refine wpAny_newObj_type ?_ (by size_fits)
    simp only [raiseNew]
    refine wpAny_bind (wpAny_handled ?_)
    rw [show A.in1.handled = none from hh]
    refine wpAny_bind (wpAny_pure (wpAny_throw ?_))
    refine wpAny_bind (wpAny_isInstance (T := "StopIteration") (b := true) ⟨_, Heap.get?_push_size _ rfl, rfl⟩ isSubtype_stop ?_)
    refine wpAny_pure (h2 hx _ (Heap.get?_push_of_some _ (Heap.get?_push_of_some _ g3)) fun b o hb eb => Heap.get?_push_of_some _ (Heap.get?_push_of_some _ ?_))
    exact (k3.2 b hb).trans ((k2.2 b hb).trans ((k1.2 b hb).trans eb))
  · have e : ((Str.ofString "" : Str) == x) = false := beq_eq_false_iff_ne.mpr fun q => hx q.symm
    rw [e]
    rw [if_pos (by decide)]
    refine wpAny_bind (wpAny_pure (wpAny_pure ?_))
    exact wpAny_pure (h1 hx)

theorem pyNext_cended {Q : Option Value → Shared → Prop} (hh : A.handled = none) (hi : s.heap.get? it = some cended)
    (h : ∀ h', (∀ b o, s.heap.get? b = some o → h'.get? b = some o) → Q none { s with heap := h' }) : wpAny (model prog w) A (pyNext (.ref it)) Q E s := by
  have hT : s.TypeIs (.ref it) "callable_iterator" := ⟨_, hi, rfl⟩
  unfold pyNext
  refine wpAny_bind (wpAny_attempt (wpAny_callSpecial?_slot (name := Str.ofString "__next__") hT slot_citer_next
    (wpAny_call (codeAny_call_builtin slot_citer_next.plain entry_citer_next (slot_citer_next.check _ _ _ _ _ _ _ _ hT (args_citer_next _) ?_)))))
  show wpAny _ _ (field (.ref it) 2 >>= _) _ _ _
  refine wpAny_bind (wpAny_field hi rfl (x := .bool true) rfl ?_)
  show wpAny _ _ (if (Value.bool true == Value.bool true) = true then _ else _) _ _ _
  rw [if_pos (by decide)]
  refine wpAny_bind (wpAny_rule (wpAny_bind ?_))
  show wpAny _ _ (newExc (.type "StopIteration") [] >>= _) _ _ _
  refine wpAny_bind ?_
  simp only [newExc, newTuple]
  refine wpAny_bind (wpAny_newObj_type ?_ (by size_fits))
  refine wpAny_bind (m := firstArgMember _ _) (wpAny_of_eq (a := Value.none) (by first | rfl | (simp only [firstArgMember]; rfl)) ?_)
  refine wpAny_newObj_type ?_ (by size_fits)
  simp only [raiseNew]
  refine wpAny_bind (wpAny_handled ?_)
  rw [show A.in1.handled = none from hh]
  refine wpAny_bind (wpAny_pure (wpAny_throw ?_))
  refine wpAny_bind (wpAny_isInstance (T := "StopIteration") (b := true) ⟨_, Heap.get?_push_size _ rfl, rfl⟩ isSubtype_stop ?_)
  exact wpAny_pure (h _ fun b o eb => Heap.get?_push_of_some _ (Heap.get?_push_of_some _ eb))
end

end
section
theorem startLoops : True := by
  w_top off
  trivial
local macro_rules | `(tactic| walk_at "zz none") => `(tactic| fail "zz none")
/-- a goal that the walk is to leave alone -/
noncomputable def Hold (P : Prop) : Prop := P
theorem hold {P : Prop} (h : Hold P) : P := h
theorem unhold {P : Prop} (h : P) : Hold P := h
section
variable {prog : Program} {w : World} {A : Around} {E : Value → Shared → Prop} {s : Shared} {env : Env} {Q : Flow → Shared → Prop} {x : Str} {px pos : Pos} {iter test : Expr} {body : List Stmt}
theorem For_rule (I : Nat → Value → Shared → Prop) (n : Nat)
    (h : wpAny (model prog w) A (eval iter env) (fun xv s₁ => wpAny (model prog w) A (pyIter xv) (fun it s₂ => I n it s₂) E s₁) E s)
    (turn : ∀ n it s, I n it s → wpAny (model prog w) A (pyNext it) (fun r s₁ => match r with
      | none => Q .next s₁
      | some v => wpAny (model prog w) A (storeName env x v) (fun _ s₂ => wpAny (model prog w) A (execs body env) (fun f s₃ => match f with
          | .next | .cont => Hold (∃ m, m < n ∧ I m it s₃)
          | .brk => Q .next s₃
          | .ret v => Q (.ret v) s₃) E s₂) E s₁) E s)
    (hs : ∀ x, foldedSetIterable iter env x = pure x := by intro _; rfl)
    (hE : PassesOwn (model prog w) A env E := by passes_own) :
    wpAny (model prog w) A (exec (.For (.Name x px) iter body [] pos) env) Q E s := by
  refine wpAny_For (wpAny_mono h (fun xv s₁ h₁ => wpAny_mono h₁ (fun it s₂ h₂ => ?_) fun _ _ e => e) fun _ _ e => e) hs
  refine codeAny_forLoop (fun n s => I n it s) (fun n s hI => ?_) n h₂
  refine wpAny_mono (turn n it s hI) (fun r s₁ hr => ?_) hE
  cases r with
  | none => exact wpAny_execs_nil hr
  | some v =>
    refine wpAny_mono (wpAny_assign_Name hr) (fun _ s₂ h₂ => wpAny_mono h₂ (fun f s₃ h₃ => ?_) hE) hE
    cases f <;> exact h₃
theorem While_rule (I : Nat → Shared → Prop) (n : Nat) (h : I n s)
    (turn : ∀ n s, I n s → wpAny (model prog w) A (isTrue test env (eval test env)) (fun b s₂ =>
        if b = true then wpAny (model prog w) A (execs body env) (fun f s₃ => match f with
            | .next | .cont => Hold (∃ m, m < n ∧ I m s₃)
            | .brk => Q .next s₃
            | .ret v => Q (.ret v) s₃) E s₂
        else Q .next s₂) E s)
    (hE : PassesOwn (model prog w) A env E := by passes_own) :
    wpAny (model prog w) A (exec (.While test body [] pos) env) Q E s := by
  refine wpAny_While (codeAny_whileLoop I (fun n s hI => ?_) n h)
  refine wpAny_mono (turn n s hI) (fun b s₂ h₂ => ?_) hE
  cases b with
  | false =>
    simp only [Bool.false_eq_true, if_false] at h₂ ⊢
    exact wpAny_execs_nil h₂
  | true =>
    simp only [if_true] at h₂ ⊢
    refine wpAny_mono h₂ (fun f s₃ h₃ => ?_) hE
    cases f <;> exact h₃
end
theorem Fr.congr {h₀ h : Heap} {L : Addr} {m m' : Str → Option Value} (F : Fr h₀ L h m) (e : ∀ y, m y = m' y) : Fr h₀ L h m' := (funext e : m = m') ▸ F

end
section
theorem startComp : True := by
  w_top off
  trivial
open LCg
section
variable {prog : Program} {w : World} {A : Around} {E : Value → Shared → Prop} {s : Shared} {h₀ : Heap} {L : Addr} {m : Str → Option Value} {env : Env}
/-- a comprehension's source that is walked -/
structure CSrc (prog : Program) (w : World) (A : Around) (h₀ : Heap) (L : Addr) (m : Str → Option Value) (env : Env) (elt : Expr) (x : Str) (scope : Scope) (cl : List (Str × Addr)) (Fin : List Value → List (Addr × Obj) → Prop) (s₂ : Shared) (I : Addr) (fp : List Addr) (n : Nat) (P : Nat → Value → Prop) (St : Nat → Heap → Prop) (S : List (Addr × Obj) → Prop) (news : List (Addr × Obj)) : Prop where
  W : Walks prog w A I fp [I] n P St
  hsz : n ≤ sizeLine
  hIo : ∀ i h, St i h → ∃ o, h.get? I = some o
  hSt : ∀ i h h' o nw, St i h → h.get? I = some o → h'.get? I = some o → (∀ b o, h₀.get? b = some o → h'.get? b = some o) → News h₀ L h' nw → S nw → St i h'
  hst : St 0 s₂.heap
  hfp : ∀ b ∈ fp, b < s₂.heap.objs.size
  F : Fr h₀ L s₂.heap m
  N : News h₀ L s₂.heap news
  hLI : L ≠ I
  hI₀ : h₀.get? I = none
  off : ∀ p ∈ news, p.1 ≠ I
  hS : S news
  R : CompRest prog w A h₀ L m env elt x scope cl s₂ S P Fin n 0 [] news
noncomputable def WalkSrc (prog : Program) (w : World) (A : Around) (h₀ : Heap) (L : Addr) (m : Str → Option Value) (env : Env) (elt : Expr) (x : Str) (scope : Scope) (cl : List (Str × Addr)) (Fin : List Value → List (Addr × Obj) → Prop) (it : Value) (s₂ : Shared) : Prop :=
  ∃ I fp n P St S news, it = .ref I ∧ CSrc prog w A h₀ L m env elt x scope cl Fin s₂ I fp n P St S news
theorem ListComp_X {elt iter : Expr} {x : Str} {px : Pos} {scope : Scope} {cl : List (Str × Addr)} {pos : Pos} {Q : Value → Shared → Prop} (F₀ : Fr h₀ L s.heap m)
    (hclos : closureFor scope env = pure cl) (hcell : ∀ y ∈ scope.names, y.2 ≠ .cell) (hkind : scope.kind = .function)
    (hnames : ∀ y ∈ scope.names, y.2 = .local → scope.names.lookup y.1 = some .local) (hx : scope.names.lookup x = some .local)
    (h : wpAny (model prog w) A (eval iter env) (fun xv s₁ => wpAny (model prog w) A (pyIter xv) (fun it s₂ => WalkSrc prog w A h₀ L m env elt x scope cl (FinE h₀ L m s₂ Q) it s₂) E s₁) E s)
    (hs : ∀ x, foldedSetIterable iter env x = pure x := by intro _; rfl) :
    wpAny (model prog w) A (eval (.ListComp elt [⟨.Name x px, iter, [], 0⟩] scope pos) env) Q E s := by
  rw [eval_ListComp]
  refine wpAny_comprehension_free (use := none) rfl hs hclos hkind hnames (wpAny_mono h (fun xv s₁ h₁ => wpAny_mono h₁ (fun it s₂ h₂ => ?_) fun _ _ e => e) fun _ _ e => e)
  obtain ⟨I, fp, n, P, St, S, news, rfl, C⟩ := h₂
  refine block_U C.W C.hsz C.hIo C.hSt hcell hkind hx C.hst C.hfp C.F C.N C.hLI C.hI₀ C.off C.hS C.R ?_
  intro D C h' tk m' ys news' F' N' o1 hn hC₀ hD₀ hCL hDL hCD offC fin
  refine ⟨m', hn, fun h'' hs'' => fin D h'' tk (F'.change hs'' hCL hC₀) (fun p hp => ?_) o1⟩
  refine ⟨hs''.extBut _ _ ?_ (N' p hp).1, (N' p hp).2⟩
  rcases List.mem_cons.mp hp with rfl | hp
  · exact Ne.symm hCD
  · exact offC p hp
theorem Assign_X {elt iter : Expr} {x y : Str} {px py : Pos} {scope : Scope} {cl : List (Str × Addr)} {pos spos : Pos} {Q : Flow → Shared → Prop} (F₀ : Fr h₀ L s.heap m) (hLe : env.locals = L)
    (hsw : swapsWith (.ListComp elt [⟨.Name x px, iter, [], 0⟩] scope pos) (some (.Name y py)) spos.line env = pure true)
    (hclos : closureFor scope env = pure cl) (hcell : ∀ z ∈ scope.names, z.2 ≠ .cell) (hkind : scope.kind = .function)
    (hnames : ∀ z ∈ scope.names, z.2 = .local → scope.names.lookup z.1 = some .local) (hx : scope.names.lookup x = some .local)
    (hy : env.kindOf y = some .local) (hp : (env.scope.kind == .class || (env.scope.kind == .module && env.locals != env.globals)) = false)
    (h : wpAny (model prog w) A (eval iter env) (fun xv s₁ => wpAny (model prog w) A (pyIter xv) (fun it s₂ => WalkSrc prog w A h₀ L m env elt x scope cl (FinA h₀ L m s₂ y Q) it s₂) E s₁) E s)
    (hs : ∀ x, foldedSetIterable iter env x = pure x := by intro _; rfl) :
    wpAny (model prog w) A (exec (.Assign [.Name y py] (.ListComp elt [⟨.Name x px, iter, [], 0⟩] scope pos) spos) env) Q E s := by
  subst hLe
  rw [exec_Assign_Name_used _ _ _ _ hsw]
  refine wpAny_bind (wpAny_standAt (wpAny_bind ?_))
  show wpAny _ A (do let _ ← comprehension (.ListComp elt [⟨.Name x px, iter, [], 0⟩] scope pos) scope env _ (newList []) false (eval iter env) (some (assign (.Name y py) env))) _ _ s
  refine wpAny_bind (wpAny_mono (wpAny_comprehension_free (use := some (assign (.Name y py) env)) (Q := fun _ s' => Q .next s') rfl hs hclos hkind hnames
    (wpAny_mono h (fun xv s₁ h₁ => wpAny_mono h₁ (fun it s₂ h₂ => ?_) fun _ _ e => e) fun _ _ e => e)) (fun _ s' hq => wpAny_pure (wpAny_pure hq)) fun _ _ e => e)
  obtain ⟨I, fp, n, P, St, S, news, rfl, C⟩ := h₂
  refine block_U C.W C.hsz C.hIo C.hSt hcell hkind hx C.hst C.hfp C.F C.N C.hLI C.hI₀ C.off C.hS C.R ?_
  intro D C h' tk m' ys news' F' N' o1 hn hC₀ hD₀ hCL hDL hCD offC fin
  show wpAny _ A (assign (.Name y py) env (.ref D)) _ _ _
  refine wpAny_assign_Name (wpAny_storeName_local hy F'.ns (fun h₂ hn₂ hs₂ => ?_) hp)
  have F₂ := F'.set hn₂ hs₂
  refine ⟨m', hn.sameBut hs₂ hCL, fun h'' hs'' => fin D h'' _ (F₂.change hs'' hCL hC₀) (fun p hp => ?_) o1⟩
  have z : h₂.get? p.1 = some p.2 := hs₂.extBut _ _ (N' p hp).2.1 (N' p hp).1
  refine ⟨hs''.extBut _ _ ?_ z, (N' p hp).2⟩
  rcases List.mem_cons.mp hp with rfl | hp
  · exact Ne.symm hCD
  · exact offC p hp
theorem st1 {I : Addr} {St : Nat → Heap → Prop} (W : ∀ i h h', St i h → (∀ b ∈ [I], ∀ o, h.get? b = some o → h'.get? b = some o) → St i h') : ∀ i (h h' : Heap) (o : Obj) (nw : List (Addr × Obj)), St i h → h.get? I = some o → h'.get? I = some o → (∀ b o, h₀.get? b = some o → h'.get? b = some o) → News h₀ L h' nw → True → St i h' :=
  fun i h h' o nw st e e' _ _ _ => W i h h' st fun b hb o' eb => by
    rw [List.mem_singleton.mp hb] at eb ⊢
    rw [e] at eb; cases eb; exact e'
theorem WalkSrc.bytes {elt : Expr} {x : Str} {scope : Scope} {cl : List (Str × Addr)} {Fin : Shared → List Value → List (Addr × Obj) → Prop} {b : Array UInt8} {t : Tok} {news : List (Addr × Obj)}
    (hh : A.handled = none) (F : Fr h₀ L s.heap m) (N : News h₀ L s.heap news) (hz : b.size ≤ sizeLine)
    (R : ∀ g, CompRest prog w A h₀ L m env elt x scope cl { s with heap := g } (fun _ => True) (fun i v => ∃ c u, b[i]? = some c ∧ v = .int (c.toNat : Int) u) (Fin { s with heap := g }) b.size 0 [] news) :
    wpAny (model prog w) A (pyIter (.bytes b t)) (fun it s₂ => WalkSrc prog w A h₀ L m env elt x scope cl (Fin s₂) it s₂) E s := by
  refine KBw.pyIter_bytes ?_
  exact ⟨_, _, _, _, _, _, news, rfl, KBw.walks hh _ b t, hz, fun i h st => by obtain ⟨o, e, _⟩ := st; exact ⟨o, e⟩, st1 (KBw.walks (prog := prog) (w := w) hh _ b t).frame, ⟨_, Heap.get?_push_size _ rfl, rfl, rfl⟩, fun b hb => by rw [List.mem_singleton.mp hb]; show _ < (Heap.push _ _).objs.size; rw [Heap.size_push]; exact Nat.lt_succ_self _, F.push _, N.grown fun _ _ e => Heap.get?_push_of_some _ e, Nat.ne_of_lt F.ns.lt, next_is_new F, fun p hp => Nat.ne_of_lt (Heap.lt_size (N p hp).1), trivial, R _⟩
theorem WalkSrc.str {elt : Expr} {x : Str} {scope : Scope} {cl : List (Str × Addr)} {Fin : Shared → List Value → List (Addr × Obj) → Prop} {b : Str} {t : Tok} {news : List (Addr × Obj)}
    (hh : A.handled = none) (F : Fr h₀ L s.heap m) (N : News h₀ L s.heap news) (hz : b.cps.size ≤ sizeLine)
    (R : ∀ g, CompRest prog w A h₀ L m env elt x scope cl { s with heap := g } (fun _ => True) (SignAt b) (Fin { s with heap := g }) b.cps.size 0 [] news) :
    wpAny (model prog w) A (pyIter (.str b t)) (fun it s₂ => WalkSrc prog w A h₀ L m env elt x scope cl (Fin s₂) it s₂) E s := by
  cases ha : b.cps.all (· < 128)
  · refine wpAny_pyIter_wide ha ?_
    exact ⟨_, _, _, _, _, _, news, rfl, Walks.strWide hh _ b t, hz, fun i h st => by obtain ⟨o, e, _⟩ := st; exact ⟨o, e⟩, st1 (Walks.strWide (prog := prog) (w := w) hh _ b t).frame, ⟨_, Heap.get?_push_size _ rfl, rfl, rfl⟩, fun b hb => by rw [List.mem_singleton.mp hb]; show _ < (Heap.push _ _).objs.size; rw [Heap.size_push]; exact Nat.lt_succ_self _, F.push _, N.grown fun _ _ e => Heap.get?_push_of_some _ e, Nat.ne_of_lt F.ns.lt, next_is_new F, fun p hp => Nat.ne_of_lt (Heap.lt_size (N p hp).1), trivial, R _⟩
  · refine wpAny_pyIter_ascii ha ?_
    exact ⟨_, _, _, _, _, _, news, rfl, Walks.strAscii hh _ b t, hz, fun i h st => by obtain ⟨o, e, _⟩ := st; exact ⟨o, e⟩, st1 (Walks.strAscii (prog := prog) (w := w) hh _ b t).frame, ⟨_, Heap.get?_push_size _ rfl, rfl, rfl⟩, fun b hb => by rw [List.mem_singleton.mp hb]; show _ < (Heap.push _ _).objs.size; rw [Heap.size_push]; exact Nat.lt_succ_self _, F.push _, N.grown fun _ _ e => Heap.get?_push_of_some _ e, Nat.ne_of_lt F.ns.lt, next_is_new F, fun p hp => Nat.ne_of_lt (Heap.lt_size (N p hp).1), trivial, R _⟩
theorem WalkSrc.range {elt : Expr} {x : Str} {scope : Scope} {cl : List (Str × Addr)} {Fin : Shared → List Value → List (Addr × Obj) → Prop} {r : Addr} {a b : Int} {t u v : Tok} {n : Nat} {news : List (Addr × Obj)}
    (hh : A.handled = none) (F : Fr h₀ L s.heap m) (N : News h₀ L s.heap news) (hr : IsRange s.heap r a b 1 t u v) (hsm : Builtin.Range.small a b 1 = true) (hn : Builtin.Range.rangeSize a b 1 = ((n : Nat) : Int)) (hz : n ≤ sizeLine)
    (R : ∀ g, CompRest prog w A h₀ L m env elt x scope cl { s with heap := g } (fun _ => True) (fun i v => ∃ t, v = .int (a + (i : Int)) t) (Fin { s with heap := g }) n 0 [] news) :
    wpAny (model prog w) A (pyIter (.ref r)) (fun it s₂ => WalkSrc prog w A h₀ L m env elt x scope cl (Fin s₂) it s₂) E s := by
  refine wpAny_pyIter_range hr hsm ?_
  exact ⟨_, _, _, _, _, _, news, rfl, range_walks hh a n, hz, fun i h st => ⟨_, st⟩, range_st, by show IsRangeIter _ _ _ _ _; rw [hn]; simpa using Heap.get?_push_size _ rfl, fun b hb => by rw [List.mem_singleton.mp hb]; show _ < (Heap.push _ _).objs.size; rw [Heap.size_push]; exact Nat.lt_succ_self _, F.push _, N.grown fun _ _ e => Heap.get?_push_of_some _ e, Nat.ne_of_lt F.ns.lt, next_is_new F, fun p hp => Nat.ne_of_lt (Heap.lt_size (N p hp).1), trivial, R _⟩
theorem WalkSrc.list {elt : Expr} {x : Str} {scope : Scope} {cl : List (Str × Addr)} {Fin : Shared → List Value → List (Addr × Obj) → Prop} {ax : Addr} {its : Array Value} {k : Nat} {news : List (Addr × Obj)}
    (hh : A.handled = none) (F : Fr h₀ L s.heap m) (N : News h₀ L s.heap news) (hm : (ax, W.listOf its k) ∈ news) (hz : its.size ≤ sizeLine)
    (R : ∀ g, CompRest prog w A h₀ L m env elt x scope cl { s with heap := g } (fun nw => ∃ k, (ax, W.listOf its k) ∈ nw) (fun i v => its[i]? = some v) (Fin { s with heap := g }) its.size 0 [] news) :
    wpAny (model prog w) A (pyIter (.ref ax)) (fun it s₂ => WalkSrc prog w A h₀ L m env elt x scope cl (Fin s₂) it s₂) E s := by
  have hl : s.heap.IsList ax its := ⟨_, (N _ hm).1, rfl, k, rfl⟩
  have hax : ax < s.heap.objs.size := Heap.lt_size (N _ hm).1
  refine wpAny_pyIter_list hl ?_
  exact ⟨_, _, _, _, _, _, news, rfl, Walks.list hh _ ax (Nat.ne_of_lt hax) its, hz, fun i h st => by obtain ⟨o, e, _⟩ := st.1; exact ⟨o, e⟩, fun i h h' o nw st e e' _ N' S' => by
    obtain ⟨o', q, r⟩ := st.1; rw [e] at q; cases q; obtain ⟨k, hk⟩ := S'; exact ⟨⟨o, e', r⟩, ⟨_, (N' _ hk).1, rfl, k, rfl⟩⟩, ⟨⟨_, Heap.get?_push_size _ rfl, rfl, rfl⟩, hl.push _⟩, fun b hb => by
      show b < (Heap.push _ _).objs.size
      rw [Heap.size_push]
      rcases List.mem_cons.mp hb with rfl | hb
      · exact Nat.lt_succ_self _
      · rw [List.mem_singleton.mp hb]; exact Nat.lt_succ_of_lt hax, F.push _, N.grown fun _ _ e => Heap.get?_push_of_some _ e, Nat.ne_of_lt F.ns.lt, next_is_new F, fun p hp => Nat.ne_of_lt (Heap.lt_size (N p hp).1), ⟨k, hm⟩, R _⟩
/-- a comprehension of any length by what holds between the turns -/
theorem compRest {elt : Expr} {x : Str} {scope : Scope} {cl : List (Str × Addr)} {S : List (Addr × Obj) → Prop} {P : Nat → Value → Prop} {Fin : List Value → List (Addr × Obj) → Prop} {n : Nat} (J : Nat → List Value → List (Addr × Obj) → Prop)
    (turn : ∀ i ys news, i < n → J i ys news → ∀ v I oI C oC D m₂ h tk (E' : Value → Shared → Prop), P i v → NsObj oC m₂ → m₂ x = some v → Fr h₀ L h m → News h₀ L h ((I, oI) :: (C, oC) :: (D, lst ys) :: news) → Off3 I C D news → ((@Ne Nat I C) ∧ (@Ne Nat I D) ∧ (@Ne Nat C D)) →
      wpAny (model prog w) A (eval elt (compEnvC scope cl C env)) (CompEnd h₀ L m { s with heap := h, toks := tk } I oI C oC D (lst ys) S (fun y news' => Hold (J (i + 1) (ys ++ [y]) news'))) E' { s with heap := h, toks := tk })
    (fin : ∀ ys news, J n ys news → Fin ys news) :
    ∀ k i ys news, i + k = n → J i ys news → CompRest prog w A h₀ L m env elt x scope cl s S P Fin k i ys news
  | 0, i, ys, news, e, h => by
    have : i = n := by (first | lia | omega)
    subst this
    exact fin ys news h
  | k + 1, i, ys, news, e, h => CompRest.succ fun v I oI C oC D m₂ hp tk E' hP hC hx F N off ne =>
      wpAny_mono (turn i ys news (by (first | lia | omega)) h v I oI C oC D m₂ hp tk E' hP hC hx F N off ne) (fun y s₂ h₂ => by
        obtain ⟨h', tk', news', e2, F', N', off', hS, hJ⟩ := h₂
        exact ⟨h', tk', news', e2, F', N', off', hS, compRest J turn fin k (i + 1) _ _ (by (first | lia | omega)) hJ⟩) fun _ _ e => e
end
section
variable {prog : Program} {w : World} {A : Around} {s : Shared} {h₀ : Heap} {L : Addr} {m : Str → Option Value} {env : Env}
/-- the same where the ledger stays -/
theorem compRestC {elt : Expr} {x : Str} {scope : Scope} {cl : List (Str × Addr)} {S : List (Addr × Obj) → Prop} {P : Nat → Value → Prop} {Fin : List Value → List (Addr × Obj) → Prop} {n : Nat} {news : List (Addr × Obj)} (J : Nat → List Value → Prop)
    (j0 : J 0 [])
    (turn : ∀ i ys, i < n → J i ys → ∀ v I oI C oC D m₂ h tk (E' : Value → Shared → Prop), P i v → NsObj oC m₂ → m₂ x = some v → Fr h₀ L h m → News h₀ L h ((I, oI) :: (C, oC) :: (D, lst ys) :: news) → Off3 I C D news → ((@Ne Nat I C) ∧ (@Ne Nat I D) ∧ (@Ne Nat C D)) →
      wpAny (model prog w) A (eval elt (compEnvC scope cl C env)) (CompEnd h₀ L m { s with heap := h, toks := tk } I oI C oC D (lst ys) S (fun y news' => Hold (news' = news ∧ J (i + 1) (ys ++ [y])))) E' { s with heap := h, toks := tk })
    (fin : ∀ ys, J n ys → Fin ys news) :
    CompRest prog w A h₀ L m env elt x scope cl s S P Fin n 0 [] news :=
  compRest (fun i ys nw => nw = news ∧ J i ys) (fun i ys nw hi hJ => by
    obtain ⟨e, j⟩ := hJ
    subst e
    exact turn i ys hi j) (fun ys nw hJ => by
    obtain ⟨e, j⟩ := hJ
    subst e
    exact fin ys j) n 0 [] news (Nat.zero_add _) ⟨rfl, j0⟩
end

end
section
theorem startForW : True := by
  w_top off
  trivial
local macro_rules | `(tactic| walk_at "zz none") => `(tactic| fail "zz none")
open LCg
section
variable {prog : Program} {w : World} {A : Around} {E : Value → Shared → Prop} {s : Shared} {h₀ : Heap} {L : Addr} {env : Env} {Q : Flow → Shared → Prop} {x : Str} {px pos : Pos} {iter : Expr} {body : List Stmt}
/-- what a turn of a for loop leaves -/
noncomputable def TurnEnd (h₀ : Heap) (L : Addr) (s₁ : Shared) (I : Addr) (oI : Obj) (J : (Str → Option Value) → List (Addr × Obj) → Prop) (s' : Shared) : Prop :=
  ∃ h' tk m' news', s' = { s₁ with heap := h', toks := tk } ∧ Fr h₀ L h' m' ∧ News h₀ L h' ((I, oI) :: news') ∧ (∀ p ∈ news', p.1 ≠ I) ∧ J m' news'
theorem TurnEnd.intro {s₁ : Shared} {I : Addr} {oI : Obj} {J : (Str → Option Value) → List (Addr × Obj) → Prop} {h' : Heap} {tk : Nat} {m' : Str → Option Value} {all news' : List (Addr × Obj)}
    (F : Fr h₀ L h' m') (N : News h₀ L h' all) (sub : ∀ p ∈ (I, oI) :: news', p ∈ all) (off : ∀ p ∈ news', p.1 ≠ I) (j : J m' news') : TurnEnd h₀ L s₁ I oI J { s₁ with heap := h', toks := tk } :=
  ⟨h', tk, m', news', rfl, F, fun p hp => N p (sub p hp), off, j⟩
structure ForSrc (prog : Program) (w : World) (A : Around) (h₀ : Heap) (L : Addr) (env : Env) (x : Str) (body : List Stmt) (Q : Flow → Shared → Prop) (E : Value → Shared → Prop) (s₂ : Shared) (I : Addr) (fp : List Addr) (n : Nat) (P : Nat → Value → Prop) (St : Nat → Heap → Prop) (S : List (Addr × Obj) → Prop) (m0 : Str → Option Value) (news : List (Addr × Obj)) : Prop where
  W : Walks prog w A I fp [I] n P St
  hIo : ∀ i h, St i h → ∃ o, h.get? I = some o
  hSt : ∀ i h h' o nw, St i h → h.get? I = some o → h'.get? I = some o → (∀ b o, h₀.get? b = some o → h'.get? b = some o) → News h₀ L h' nw → S nw → St i h'
  hst : St 0 s₂.heap
  F : Fr h₀ L s₂.heap m0
  N : News h₀ L s₂.heap news
  hLI : L ≠ I
  hLf : L ∉ fp
  hI₀ : h₀.get? I = none
  off : ∀ p ∈ news, p.1 ≠ I
  R : ∃ J : Nat → (Str → Option Value) → List (Addr × Obj) → Prop, J 0 m0 news ∧ (∀ i m nw, J i m nw → S nw) ∧
    (∀ i m nw v h tk oI, i < n → J i m nw → P i v → Fr h₀ L h (fun y => if y = x then some v else m y) → News h₀ L h ((I, oI) :: nw) → (∀ p ∈ nw, p.1 ≠ I) →
      wpAny (model prog w) A (execs body env) (fun f s₃ => match f with
        | .next | .cont => Hold (TurnEnd h₀ L s₂ I oI (J (i + 1)) s₃)
        | .brk => Q .next s₃
        | .ret v => Q (.ret v) s₃) E { s₂ with heap := h, toks := tk }) ∧
    (∀ m nw h tk, J n m nw → Fr h₀ L h m → News h₀ L h nw → Q .next { s₂ with heap := h, toks := tk })
theorem For_walk {m₀ : Str → Option Value} (F₀ : Fr h₀ L s.heap m₀) (hkind : env.scope.kind = .function) (hx : env.kindOf x = some .local) (hL : env.locals = L)
    (h : wpAny (model prog w) A (eval iter env) (fun xv s₁ => wpAny (model prog w) A (pyIter xv) (fun it s₂ => ∃ I fp n P St S m0 news, it = .ref I ∧ ForSrc prog w A h₀ L env x body Q E s₂ I fp n P St S m0 news) E s₁) E s)
    (hs : ∀ x, foldedSetIterable iter env x = pure x := by intro _; rfl)
    (hE : PassesOwn (model prog w) A env E := by passes_own) :
    wpAny (model prog w) A (exec (.For (.Name x px) iter body [] pos) env) Q E s := by
  subst hL
  clear F₀
  refine wpAny_For (wpAny_mono h (fun xv s₁ h₁ => wpAny_mono h₁ (fun it s₂ h₂ => ?_) fun _ _ e => e) fun _ _ e => e) hs
  obtain ⟨I, fp, n, P, St, S, m0, news, rfl, C⟩ := h₂
  obtain ⟨J, j0, jS, turn, fin⟩ := C.R
  refine codeAny_forLoop (fun k s' => ∃ h' tk i m nw, s' = { s₂ with heap := h', toks := tk } ∧ i ≤ n ∧ k = n + 1 - i ∧ St i h' ∧ Fr h₀ env.locals h' m ∧ News h₀ env.locals h' nw ∧ (∀ p ∈ nw, p.1 ≠ I) ∧ J i m nw) ?_ (n + 1)
    ⟨_, _, 0, m0, news, rfl, Nat.zero_le _, rfl, C.hst, C.F, C.N, C.off, j0⟩
  rintro k s' ⟨h', tk, i, m, nw, rfl, hi, rfl, hst, F, N, off, j⟩
  by_cases hlt : i < n
  · refine C.W.item i _ _ _ hlt hst fun v h₂ tk₂ hPv hst₂ hk₂ => ?_
    have F₂ := fr_but F hk₂ C.hLI C.hI₀
    have N₂ : News h₀ env.locals h₂ nw := news_but N hk₂ off
    refine wpAny_assign_Name (wpAny_storeName_local hx F₂.ns (fun h₃ hn₃ hs₃ => ?_) (by rw [hkind]; rfl))
    have F₃ := F₂.set hn₃ hs₃
    have hst₃ : St (i + 1) h₃ := C.W.frame _ _ _ hst₂ fun b hb o e => hs₃.extBut b o (fun q => C.hLf (q ▸ hb)) e
    obtain ⟨oI, heI⟩ := C.hIo _ _ hst₃
    have N₃ : News h₀ env.locals h₃ ((I, oI) :: nw) := fun p hp => by
      rcases List.mem_cons.mp hp with rfl | hp
      · exact ⟨heI, Ne.symm C.hLI, C.hI₀⟩
      · exact ⟨hs₃.extBut _ _ (N₂ p hp).2.1 (N₂ p hp).1, (N₂ p hp).2⟩
    refine wpAny_mono (turn i m nw v h₃ _ oI hlt j hPv (Fr.congr F₃ fun y => rfl) N₃ off) (fun f s₃ h₃' => ?_) hE
    have next : TurnEnd h₀ env.locals s₂ I oI (J (i + 1)) s₃ → ∃ m, m < n + 1 - i ∧ ∃ h' tk i m_1 nw, s₃ = { s₂ with heap := h', toks := tk } ∧ i ≤ n ∧ m = n + 1 - i ∧ St i h' ∧ Fr h₀ env.locals h' m_1 ∧ News h₀ env.locals h' nw ∧ (∀ p ∈ nw, p.1 ≠ I) ∧ J i m_1 nw := by
      rintro ⟨h₄, tk₄, m₄, nw₄, rfl, F₄, N₄, off₄, j₄⟩
      have N₄' : News h₀ env.locals h₄ nw₄ := fun p hp => N₄ p (List.mem_cons_of_mem _ hp)
      exact ⟨n + 1 - (i + 1), by (first | lia | omega), h₄, tk₄, i + 1, m₄, nw₄, rfl, hlt, rfl, C.hSt _ _ _ _ _ hst₃ heI (N₄ _ List.mem_cons_self).1 F₄.keep N₄' (jS _ _ _ j₄), F₄, N₄', off₄, j₄⟩
    cases f with
    | next => exact next h₃'
    | cont => exact next h₃'
    | brk => exact h₃'
    | ret v => exact h₃'
  · obtain rfl : i = n := Nat.le_antisymm hi (Nat.not_lt.mp hlt)
    refine C.W.done _ _ _ hst fun h₂ tk₂ hk₂ => ?_
    exact wpAny_execs_nil (fin _ _ _ _ j (fr_but F hk₂ C.hLI C.hI₀) (news_but N hk₂ off))

theorem for_str {b : Str} {t : Tok} {m : Str → Option Value} {news : List (Addr × Obj)} (J : Nat → (Str → Option Value) → List (Addr × Obj) → Prop)
    (hh : A.handled = none) (F : Fr h₀ L s.heap m) (N : News h₀ L s.heap news) (j0 : J 0 m news)
    (turn : ∀ g I i m nw v h tk oI, i < b.cps.size → J i m nw → SignAt b i v → Fr h₀ L h (fun y => if y = x then some v else m y) → News h₀ L h ((I, oI) :: nw) → (∀ p ∈ nw, p.1 ≠ I) →
      wpAny (model prog w) A (execs body env) (fun f s₃ => match f with
        | .next | .cont => Hold (TurnEnd h₀ L { s with heap := g } I oI (J (i + 1)) s₃)
        | .brk => Q .next s₃
        | .ret v => Q (.ret v) s₃) E { s with heap := h, toks := tk })
    (fin : ∀ m nw h tk, J b.cps.size m nw → Fr h₀ L h m → News h₀ L h nw → Q .next { s with heap := h, toks := tk }) :
    wpAny (model prog w) A (pyIter (.str b t)) (fun it s₂ => ∃ I fp n P St S m0 news, it = .ref I ∧ ForSrc prog w A h₀ L env x body Q E s₂ I fp n P St S m0 news) E s := by
  have hLlt : L < s.heap.objs.size := F.ns.lt
  have off : ∀ p ∈ news, p.1 ≠ s.heap.objs.size := fun p hp => Nat.ne_of_lt (Heap.lt_size (N p hp).1)
  cases ha : b.cps.all (· < 128)
  · refine wpAny_pyIter_wide ha ?_
    exact ⟨_, _, _, _, _, fun _ => True, _, _, rfl, Walks.strWide hh _ b t, fun i h st => by obtain ⟨o, e, _⟩ := st; exact ⟨o, e⟩, fun i h h' o nw st e e' _ _ _ => by obtain ⟨o', q, r⟩ := st; rw [e] at q; cases q; exact ⟨o, e', r⟩, ⟨_, Heap.get?_push_size _ rfl, rfl, rfl⟩, F.push _, N.grown fun _ _ e => Heap.get?_push_of_some _ e, Nat.ne_of_lt hLlt, fun h => Nat.ne_of_lt hLlt (List.mem_singleton.mp h), next_is_new F, off, J, j0, fun _ _ _ _ => trivial, turn _ _, fin⟩
  · refine wpAny_pyIter_ascii ha ?_
    exact ⟨_, _, _, _, _, fun _ => True, _, _, rfl, Walks.strAscii hh _ b t, fun i h st => by obtain ⟨o, e, _⟩ := st; exact ⟨o, e⟩, fun i h h' o nw st e e' _ _ _ => by obtain ⟨o', q, r⟩ := st; rw [e] at q; cases q; exact ⟨o, e', r⟩, ⟨_, Heap.get?_push_size _ rfl, rfl, rfl⟩, F.push _, N.grown fun _ _ e => Heap.get?_push_of_some _ e, Nat.ne_of_lt hLlt, fun h => Nat.ne_of_lt hLlt (List.mem_singleton.mp h), next_is_new F, off, J, j0, fun _ _ _ _ => trivial, turn _ _, fin⟩
theorem for_list {ax : Addr} {its : Array Value} {m : Str → Option Value} {news : List (Addr × Obj)} (J : Nat → (Str → Option Value) → List (Addr × Obj) → Prop)
    (hh : A.handled = none) (F : Fr h₀ L s.heap m) (N : News h₀ L s.heap news) (j0 : J 0 m news) (jS : ∀ i m nw, J i m nw → ∃ k, (ax, listOf its k) ∈ nw)
    (turn : ∀ g I, (∀ p ∈ news, p.1 < I) → ∀ i m nw v h tk oI, i < its.size → J i m nw → its[i]? = some v → Fr h₀ L h (fun y => if y = x then some v else m y) → News h₀ L h ((I, oI) :: nw) → (∀ p ∈ nw, p.1 ≠ I) →
      wpAny (model prog w) A (execs body env) (fun f s₃ => match f with
        | .next | .cont => Hold (TurnEnd h₀ L { s with heap := g } I oI (J (i + 1)) s₃)
        | .brk => Q .next s₃
        | .ret v => Q (.ret v) s₃) E { s with heap := h, toks := tk })
    (fin : ∀ m nw h tk, J its.size m nw → Fr h₀ L h m → News h₀ L h nw → Q .next { s with heap := h, toks := tk }) :
    wpAny (model prog w) A (pyIter (.ref ax)) (fun it s₂ => ∃ I fp n P St S m0 news, it = .ref I ∧ ForSrc prog w A h₀ L env x body Q E s₂ I fp n P St S m0 news) E s := by
  have hLlt : L < s.heap.objs.size := F.ns.lt
  have off : ∀ p ∈ news, p.1 ≠ s.heap.objs.size := fun p hp => Nat.ne_of_lt (Heap.lt_size (N p hp).1)
  obtain ⟨k, hm⟩ := jS _ _ _ j0
  have hl : s.heap.IsList ax its := ⟨_, (N _ hm).1, rfl, k, rfl⟩
  have hax : ax < s.heap.objs.size := Heap.lt_size (N _ hm).1
  refine wpAny_pyIter_list hl ?_
  exact ⟨_, _, _, _, _, fun nw => ∃ k, (ax, listOf its k) ∈ nw, _, _, rfl, Walks.list hh _ ax (Nat.ne_of_lt hax) its, fun i h st => by obtain ⟨o, e, _⟩ := st.1; exact ⟨o, e⟩, fun i h h' o nw st e e' _ N' S' => by
    obtain ⟨o', q, r⟩ := st.1; rw [e] at q; cases q; obtain ⟨k, hk⟩ := S'; exact ⟨⟨o, e', r⟩, ⟨_, (N' _ hk).1, rfl, k, rfl⟩⟩, ⟨⟨_, Heap.get?_push_size _ rfl, rfl, rfl⟩, hl.push _⟩, F.push _, N.grown fun _ _ e => Heap.get?_push_of_some _ e, Nat.ne_of_lt hLlt, fun h => by
      rcases List.mem_cons.mp h with h | h
      · exact Nat.ne_of_lt hLlt h
      · exact (N _ hm).2.1 (List.mem_singleton.mp h).symm, next_is_new F, off, J, j0, jS, turn _ _ fun p hp => Heap.lt_size (N p hp).1, fin⟩
end

end
section
theorem startLex : True := by
  w_top off
  trivial
noncomputable abbrev sgn (c : Nat) : Str := ⟨#[c]⟩
noncomputable def nl (c : Nat) (ln : Int) : Int := if c = 10 then ln + 1 else ln
noncomputable def isWs (c : Nat) : Bool := c == 10 || c == 9 || c == 13 || c == 32
noncomputable def bare (acc : List Nat) : List Nat → Int → List Nat × List Nat × Int
  | [], ln => (acc, [], ln)
  | c :: cs, ln => if isWs c then (acc, cs, nl c ln) else if c = 92 then (match cs with
      | [] => (acc, [], nl c ln)
      | d :: ds => bare (acc ++ [d]) ds (nl d (nl c ln)))
    else bare (acc ++ [c]) cs (nl c ln)
noncomputable def quoted (acc : List Nat) : List Nat → Int → List Nat × List Nat × Int
  | [], ln => (acc, [], ln)
  | c :: cs, ln => if c = 34 then (acc, cs, nl c ln) else if c = 92 then (match cs with
      | [] => (acc, [], nl c ln)
      | d :: ds => quoted (acc ++ [d]) ds (nl d (nl c ln)))
    else quoted (acc ++ [c]) cs (nl c ln)
noncomputable def tok0 : List Nat → Int → List Nat × List Nat × Int
  | [], ln => ([], [], ln)
  | c :: cs, ln => if isWs c then tok0 cs (nl c ln) else if c = 34 then quoted [] cs (nl c ln) else if c = 92 then (match cs with
      | [] => ([], [], nl c ln)
      | d :: ds => bare [d] ds (nl d (nl c ln)))
    else bare [c] cs (nl c ln)
noncomputable abbrev tx (l : List Nat) : Str := ⟨l.toArray⟩
theorem tx_nil : Str.ofString "" = tx [] := by decide +kernel
theorem tx_app (l : List Nat) (c : Nat) : tx l ++ sgn c = tx (l ++ [c]) := by
  show (⟨l.toArray ++ #[c]⟩ : Str) = ⟨(l ++ [c]).toArray⟩
  simp
theorem tx_empty (l : List Nat) : tx l ++ Str.ofString "" = tx l := by
  rw [tx_nil]
  show (⟨l.toArray ++ #[]⟩ : Str) = ⟨l.toArray⟩
  simp
theorem tx_len (l : List Nat) : (tx l).length = l.length := by
  show l.toArray.size = _
  simp
theorem sgn_len (c : Nat) : (sgn c).length = 1 := rfl
theorem nl_eq : Str.ofString "\n" = sgn 10 := by decide +kernel
theorem sgn_eq {a b : Nat} : (sgn a == sgn b) = decide (a = b) := by
  by_cases h : a = b
  · subst h; simp
  · rw [decide_eq_false h]
    exact beq_eq_false_iff_ne.mpr fun e => h (by
      have := congrArg (fun x : Str => x.cps) e
      simpa using this)
theorem nl_yes {c : Nat} {ln : Int} (h : (sgn c == Str.ofString "\n") = true) : nl c ln = ln + 1 := by
  rw [nl_eq, sgn_eq] at h
  exact if_pos (of_decide_eq_true h)
theorem nl_no {c : Nat} {ln : Int} (h : (sgn c == Str.ofString "\n") = false) : nl c ln = ln := by
  rw [nl_eq, sgn_eq] at h
  exact if_neg (of_decide_eq_false h)
theorem quo_yes {c : Nat} (h : (sgn c == Str.ofString "\"") = true) : c = 34 := by
  rw [show Str.ofString "\"" = sgn 34 from by decide +kernel, sgn_eq] at h; exact of_decide_eq_true h
theorem quo_no {c : Nat} (h : (sgn c == Str.ofString "\"") = false) : c ≠ 34 := by
  rw [show Str.ofString "\"" = sgn 34 from by decide +kernel, sgn_eq] at h; exact of_decide_eq_false h
theorem bsl_yes {c : Nat} (h : (sgn c == Str.ofString "\\") = true) : c = 92 := by
  rw [show Str.ofString "\\" = sgn 92 from by decide +kernel, sgn_eq] at h; exact of_decide_eq_true h
theorem bsl_no {c : Nat} (h : (sgn c == Str.ofString "\\") = false) : c ≠ 92 := by
  rw [show Str.ofString "\\" = sgn 92 from by decide +kernel, sgn_eq] at h; exact of_decide_eq_false h
theorem ws_is (c : Nat) : (Builtin.Str.occurrences (Str.ofString "\n\t\r ") (sgn c) 0 (Str.ofString "\n\t\r ").length 1).isEmpty = !isWs c := by
  have e : Str.ofString "\n\t\r " = tx [10, 9, 13, 32] := by decide +kernel
  have h := StrLaws.found_one (Str.ofString "\n\t\r ") c
  have d : decide (c ∈ (Str.ofString "\n\t\r ").cps.toList) = isWs c := by
    rw [e]
    simp [isWs, Bool.beq_eq_decide_eq, Bool.decide_or]
    simp only [Bool.or_assoc]
  rw [d] at h
  rw [← h, Bool.not_not]
theorem tok0_cons (c : Nat) (cs : List Nat) (ln : Int) : tok0 (c :: cs) ln = if isWs c then tok0 cs (nl c ln) else if c = 34 then quoted [] cs (nl c ln) else if c = 92 then (match cs with
      | [] => ([], [], nl c ln)
      | d :: ds => bare [d] ds (nl d (nl c ln)))
    else bare [c] cs (nl c ln) := by cases cs <;> rfl
theorem bare_cons (acc : List Nat) (c : Nat) (cs : List Nat) (ln : Int) : bare acc (c :: cs) ln = if isWs c then (acc, cs, nl c ln) else if c = 92 then (match cs with
      | [] => (acc, [], nl c ln)
      | d :: ds => bare (acc ++ [d]) ds (nl d (nl c ln)))
    else bare (acc ++ [c]) cs (nl c ln) := by cases cs <;> rfl
theorem quoted_cons (acc : List Nat) (c : Nat) (cs : List Nat) (ln : Int) : quoted acc (c :: cs) ln = if c = 34 then (acc, cs, nl c ln) else if c = 92 then (match cs with
      | [] => (acc, [], nl c ln)
      | d :: ds => quoted (acc ++ [d]) ds (nl d (nl c ln)))
    else quoted (acc ++ [c]) cs (nl c ln) := by cases cs <;> rfl
theorem len_empty : (Str.ofString "").length = 0 := by decide +kernel
theorem join_sz (l : List Nat) (h : l.length ≤ 100000) : ((l.map sgn).map (·.length)).sum + (l.map sgn).length * (Str.ofString "").length ≤ 16777216 := by
  have e : (Str.ofString "").length = 0 := by decide +kernel
  have e2 : ((l.map sgn).map (·.length)).sum = l.length := by
    clear h
    induction l with
    | nil => rfl
    | cons c l ih => simp only [List.map_cons, List.sum_cons, ih, sgn_len, List.length_cons]; (first | lia | omega)
  rw [e, e2]; (first | lia | omega)
theorem join_signs (l : List Nat) : Txt.join (Str.ofString "") (l.map sgn) = tx l := by
  have h := join_nil_signs (tx l)
  have e : signs (tx l) = l.map sgn := by simp [signs]
  rw [e] at h
  rw [show Txt.join (Str.ofString "") (l.map sgn) = Str.join (Str.ofString "") (l.map sgn) from StrLaws.glued_eq_join _ _]
  exact h

end
section
theorem startSlice : True := by
  w_top off
  trivial
local macro_rules | `(tactic| walk_at "zz none") => `(tactic| fail "zz none")
theorem tx_list (l : List Nat) : (tx l).cps.toList = l := by simp
theorem tx_len' (l : List Nat) : (tx l).length = l.length := tx_len l
theorem sl_to (l : List Nat) (j : Nat) : Txt.slice (tx l) none (some (j : Int)) = tx (l.take j) := by
  have key : ∀ j : Nat, j ≤ l.length → Txt.slice (tx l) none (some (j : Int)) = tx (l.take j) := fun j hj => by
    have h := eq_of_beq (slice_closes_to (x := tx l) (j := (j : Int)) ⟨by (first | lia | omega), by rw [tx_list]; (first | lia | omega)⟩)
    rw [h, tx_list]
    simp
  by_cases hj : j ≤ l.length
  · exact key j hj
  · rw [slice_to_beyond (by rw [tx_len]; (first | lia | omega)), tx_len, key _ (Nat.le_refl _), List.take_of_length_le (Nat.le_refl _), List.take_of_length_le (by (first | lia | omega))]
theorem sl_from (l : List Nat) (i : Nat) : Txt.slice (tx l) (some (i : Int)) none = tx (l.drop i) := by
  by_cases hi : i ≤ l.length
  · rw [slice_from_eq (b := (tx l).length) (by (first | lia | omega)) (by rw [tx_len]; (first | lia | omega)) rfl, tx_list, tx_len]
    rw [List.take_of_length_le (by rw [List.length_drop]; (first | lia | omega))]
    simp
  · rw [slice_from_beyond (by rw [tx_len]; (first | lia | omega)), List.drop_eq_nil_of_le (by (first | lia | omega))]
theorem sl_ij (l : List Nat) (i j : Nat) (h : i ≤ j) (hj : j ≤ l.length) : Txt.slice (tx l) (some (i : Int)) (some (j : Int)) = tx ((l.drop i).take (j - i)) := by
  have e := eq_of_beq (slice_closesL (x := tx l) (i := (i : Int)) (j := (j : Int)) (by (first | lia | omega)) (by (first | lia | omega)) (by rw [tx_len]; (first | lia | omega)))
  rw [e, tx_list]
  have : ((j : Int) - (i : Int)).toNat = j - i := by (first | lia | omega)
  rw [this]
  simp
theorem tx_inj {a b : List Nat} : (tx a == tx b) = decide (a = b) := by
  by_cases h : a = b
  · subst h; simp
  · rw [decide_eq_false h]
    exact beq_eq_false_iff_ne.mpr fun e => h (by
      have := congrArg (fun x : Str => x.cps.toList) e
      simpa using this)
theorem it_at {l : List Nat} {i c : Nat} (h : l[i]? = some c) : Txt.item (tx l) (i : Int) = sgn c := by
  exact item_meets (Int.natCast_nonneg i) (by simpa using h)
theorem is34 (c : Nat) : (sgn c == Str.ofString "\"") = decide (c = 34) := by
  rw [show Str.ofString "\"" = sgn 34 from by decide +kernel, sgn_eq]
theorem drop_at {l : List Nat} {i c : Nat} (h : l[i]? = some c) : l.drop i = c :: l.drop (i + 1) := by
  obtain ⟨hi, e⟩ := List.getElem?_eq_some_iff.mp h
  rw [← e]; exact List.drop_eq_getElem_cons hi

end
section
theorem startUnq : True := by
  w_top off
  trivial
noncomputable def unq : List Nat → List Nat
  | [] => []
  | c :: cs => if c = 34 then (match cs with
      | [] => []
      | d :: ds => if d = 34 then 34 :: unq ds else []) else c :: unq cs
theorem unq_nil : unq [] = [] := by rw [unq]
theorem unq_end : unq [34] = [] := by rw [unq, if_pos rfl]
theorem unq_two (ds : List Nat) : unq (34 :: 34 :: ds) = 34 :: unq ds := by simp [unq]
theorem unq_stop {d : Nat} (ds : List Nat) (h : d ≠ 34) : unq (34 :: d :: ds) = [] := by simp [unq, h]
theorem unq_cons {c : Nat} (cs : List Nat) (h : c ≠ 34) : unq (c :: cs) = c :: unq cs := by rw [unq.eq_def]; simp only; rw [if_neg h]
noncomputable def p257 (l : List Nat) : List Nat := if (l.drop 3).take 2 = [32, 34] then unq (l.drop 5) else []

end
section
theorem startSig : True := by
  w_top off
  trivial
local macro_rules | `(tactic| walk_at "zz none") => `(tactic| fail "zz none")
noncomputable def sigT : List Nat := [34, 92, 32, 10, 9, 13, 35, 12, 105, 106, 107, 108, 109, 110, 111, 122]
noncomputable def sig (c : Nat) : Nat := sigT.getD (c - 65) 0
noncomputable def Lt (c : Nat) : Prop := 65 ≤ c ∧ c < 81
theorem lt_all {P : Nat → Prop} (h : ∀ k : Nat, k < 16 → P (65 + k)) {c : Nat} (hc : Lt c) : P c := by
  have := h (c - 65) (by have := hc.1; have := hc.2; (first | lia | omega))
  rwa [show 65 + (c - 65) = c by have := hc.1; (first | lia | omega)] at this
theorem sig34 {c : Nat} (h : Lt c) : sig c = 34 ↔ c = 65 := lt_all (P := fun c => sig c = 34 ↔ c = 65) (by decide +kernel) h
theorem sig92 {c : Nat} (h : Lt c) : sig c = 92 ↔ c = 66 := lt_all (P := fun c => sig c = 92 ↔ c = 66) (by decide +kernel) h
theorem sigWs {c : Nat} (h : Lt c) : isWs (sig c) = true ↔ (c = 67 ∨ c = 68 ∨ c = 69 ∨ c = 70) := lt_all (P := fun c => isWs (sig c) = true ↔ (c = 67 ∨ c = 68 ∨ c = 69 ∨ c = 70)) (by decide +kernel) h
theorem sig_lt {c : Nat} : sig c < 128 := by
  unfold sig
  by_cases h : c - 65 < 16
  · revert h
    generalize c - 65 = k
    revert k
    decide +kernel
  · have : sigT.length ≤ c - 65 := by show 16 ≤ _; (first | lia | omega)
    simp [List.getD, List.getElem?_eq_none this]
theorem sig65 : sig 65 = 34 := by decide +kernel
theorem sig66 : sig 66 = 92 := by decide +kernel
/-- reading on -/
theorem quo_lit {acc rest : List Nat} {c : Nat} {ln : Int} (h1 : c ≠ 34) (h2 : c ≠ 92) : quoted acc (c :: rest) ln = quoted (acc ++ [c]) rest (nl c ln) := by
  rw [quoted_cons, if_neg h1, if_neg h2]
theorem quo_stop {acc rest : List Nat} {ln : Int} : quoted acc (34 :: rest) ln = (acc, rest, ln) := by
  rw [quoted_cons, if_pos rfl]; rfl
theorem quo_esc {acc rest : List Nat} {c : Nat} {ln : Int} : quoted acc (92 :: c :: rest) ln = quoted (acc ++ [c]) rest (nl c ln) := by
  rw [quoted_cons, if_neg (by decide), if_pos rfl]; rfl
theorem quo_nil {acc : List Nat} {ln : Int} : quoted acc [] ln = (acc, [], ln) := by unfold quoted; rfl
theorem quo_last {acc : List Nat} {ln : Int} : quoted acc [92] ln = (acc, [], ln) := by
  rw [quoted_cons, if_neg (by decide), if_pos rfl]; rfl
theorem bar_nil {acc : List Nat} {ln : Int} : bare acc [] ln = (acc, [], ln) := by unfold bare; rfl
theorem bar_last {acc : List Nat} {ln : Int} : bare acc [92] ln = (acc, [], ln) := by
  rw [bare_cons, if_neg (by decide), if_pos rfl]; rfl
theorem bar_lit {acc rest : List Nat} {c : Nat} {ln : Int} (h1 : ¬ isWs c = true) (h2 : c ≠ 92) : bare acc (c :: rest) ln = bare (acc ++ [c]) rest (nl c ln) := by
  rw [bare_cons, if_neg h1, if_neg h2]
theorem bar_stop {acc rest : List Nat} {c : Nat} {ln : Int} (h1 : isWs c = true) : bare acc (c :: rest) ln = (acc, rest, nl c ln) := by
  rw [bare_cons, if_pos h1]
theorem bar_esc {acc rest : List Nat} {c : Nat} {ln : Int} : bare acc (92 :: c :: rest) ln = bare (acc ++ [c]) rest (nl c ln) := by
  rw [bare_cons, if_neg (by decide), if_pos rfl]; rfl
theorem tok_nil {ln : Int} : tok0 [] ln = ([], [], ln) := by unfold tok0; rfl
theorem tok_ws {rest : List Nat} {c : Nat} {ln : Int} (h1 : isWs c = true) : tok0 (c :: rest) ln = tok0 rest (nl c ln) := by
  rw [tok0_cons, if_pos h1]
theorem tok_quo {rest : List Nat} {ln : Int} : tok0 (34 :: rest) ln = quoted [] rest ln := by
  rw [tok0_cons, if_neg (by decide), if_pos rfl]; rfl
theorem tok_esc {rest : List Nat} {c : Nat} {ln : Int} : tok0 (92 :: c :: rest) ln = bare [c] rest (nl c ln) := by
  rw [tok0_cons, if_neg (by decide), if_neg (by decide), if_pos rfl]; rfl
theorem tok_last {ln : Int} : tok0 [92] ln = ([], [], ln) := by
  rw [tok0_cons, if_neg (by decide), if_neg (by decide), if_pos rfl]; rfl
theorem tok_lit {rest : List Nat} {c : Nat} {ln : Int} (h1 : ¬ isWs c = true) (h2 : c ≠ 34) (h3 : c ≠ 92) : tok0 (c :: rest) ln = bare [c] rest (nl c ln) := by
  rw [tok0_cons, if_neg h1, if_neg h2, if_neg h3]
/-- the line ends add up -/
theorem nl_count (c : Nat) (ln : Int) (cs : List Nat) : nl c ln + (cs.count 10 : Nat) = ln + ((c :: cs).count 10 : Nat) := by
  unfold nl
  rw [List.count_cons]
  by_cases h : c = 10
  · rw [if_pos h, if_pos (by simp [h])]; (first | lia | omega)
  · rw [if_neg h, if_neg (by simp [h])]; (first | lia | omega)
theorem quo_lines : ∀ (xs acc : List Nat) (ln : Int), (quoted acc xs ln).2.2 + ((quoted acc xs ln).2.1.count 10 : Nat) = ln + (xs.count 10 : Nat) := by
  intro xs acc ln
  fun_induction quoted acc xs ln with
  | case1 => rfl
  | case2 => dsimp only; rw [nl_count]
  | case3 => dsimp only; rw [nl_count]
  | case4 => rename_i ih; rw [ih, nl_count, nl_count]
  | case5 => rename_i ih; rw [ih, nl_count]
theorem bar_lines : ∀ (xs acc : List Nat) (ln : Int), (bare acc xs ln).2.2 + ((bare acc xs ln).2.1.count 10 : Nat) = ln + (xs.count 10 : Nat) := by
  intro xs acc ln
  fun_induction bare acc xs ln with
  | case1 => rfl
  | case2 => dsimp only; rw [nl_count]
  | case3 => dsimp only; rw [nl_count]
  | case4 => rename_i ih; rw [ih, nl_count, nl_count]
  | case5 => rename_i ih; rw [ih, nl_count]
theorem tok_lines : ∀ (xs : List Nat) (ln : Int), (tok0 xs ln).2.2 + ((tok0 xs ln).2.1.count 10 : Nat) = ln + (xs.count 10 : Nat) := by
  intro xs ln
  fun_induction tok0 xs ln with
  | case1 => rfl
  | case2 => rename_i ih; rw [ih, nl_count]
  | case3 => rw [quo_lines, nl_count]
  | case4 => dsimp only; rw [nl_count]
  | case5 => rw [bar_lines, nl_count, nl_count]
  | case6 => rw [bar_lines, nl_count]
noncomputable def lexAll : Nat → List Nat → Int → List (List Nat) × List Nat × Int
  | 0, xs, ln => ([], xs, ln)
  | n + 1, xs, ln => ((tok0 xs ln).1 :: (lexAll n (tok0 xs ln).2.1 (tok0 xs ln).2.2).1, (lexAll n (tok0 xs ln).2.1 (tok0 xs ln).2.2).2)
theorem lex_lines : ∀ (n : Nat) (xs : List Nat) (ln : Int), (lexAll n xs ln).2.2 + ((lexAll n xs ln).2.1.count 10 : Nat) = ln + (xs.count 10 : Nat)
  | 0, _, _ => rfl
  | n + 1, xs, ln => by
    show (lexAll n _ _).2.2 + ((lexAll n _ _).2.1.count 10 : Nat) = _
    rw [lex_lines n, tok_lines]
theorem lex_end {n : Nat} {xs : List Nat} {ln : Int} (h : (lexAll n xs ln).2.1 = []) : (lexAll n xs ln).2.2 = ln + (xs.count 10 : Nat) := by
  have := lex_lines n xs ln
  rw [h] at this
  simpa using this
theorem lex_nil : ∀ (n : Nat) (ln : Int), lexAll n [] ln = (List.replicate n [], [], ln)
  | 0, _ => rfl
  | n + 1, ln => by
    show ((tok0 [] ln).1 :: (lexAll n (tok0 [] ln).2.1 (tok0 [] ln).2.2).1, (lexAll n (tok0 [] ln).2.1 (tok0 [] ln).2.2).2) = _
    rw [tok_nil]
    show ([] :: (lexAll n [] ln).1, (lexAll n [] ln).2) = _
    rw [lex_nil n]; rfl
theorem lex_succ {n : Nat} {xs t r : List Nat} {ln l2 : Int} (h : tok0 xs ln = (t, r, l2)) : lexAll (n + 1) xs ln = (t :: (lexAll n r l2).1, (lexAll n r l2).2) := by
  show ((tok0 xs ln).1 :: (lexAll n (tok0 xs ln).2.1 (tok0 xs ln).2.2).1, (lexAll n (tok0 xs ln).2.1 (tok0 xs ln).2.2).2) = _
  rw [h]

end
section
theorem startRep : True := by
  w_top off
  trivial
/-- replace on the list of signs; y is not empty -/
noncomputable def rep (y z : List Nat) : List Nat → List Nat
  | [] => []
  | c :: cs => if y.isPrefixOf (c :: cs) then z ++ rep y z (cs.drop (y.length - 1)) else c :: rep y z cs
termination_by l => l.length
decreasing_by
  · simp only [List.length_drop, List.length_cons]; (first | lia | omega)
  · simp only [List.length_cons]; (first | lia | omega)
theorem rep_nil (y z : List Nat) : rep y z [] = [] := by rw [rep]
theorem rep_hit {y z : List Nat} (hy : y ≠ []) (l : List Nat) : rep y z (y ++ l) = z ++ rep y z l := by
  cases y with
  | nil => exact absurd rfl hy
  | cons a y =>
    rw [List.cons_append, rep, if_pos (by rw [← List.cons_append]; exact List.isPrefixOf_iff_prefix.mpr (List.prefix_append _ _))]
    simp
theorem rep_miss {y z : List Nat} {c : Nat} {cs : List Nat} (h : ¬ y <+: (c :: cs)) : rep y z (c :: cs) = c :: rep y z cs := by
  rw [rep, if_neg (by rw [List.isPrefixOf_iff_prefix]; exact h)]
theorem at_iff (L Y : List Nat) (k : Nat) : StrLaws.At (tx L) (tx Y) (tx L).length k ↔ k + Y.length ≤ L.length ∧ Y <+: L.drop k := by
  unfold StrLaws.At
  rw [tx_len, tx_len, StrLaws.subAt_eq, tx_list, tx_list, tx_len, List.prefix_iff_eq_take]
  exact and_congr Iff.rfl ⟨fun h => (eq_of_beq h).symm, fun h => beq_iff_eq.mpr h.symm⟩
theorem rep_gap {Y Z : List Nat} : ∀ (m : Nat) (l : List Nat), (∀ k, k < m → ¬ Y <+: l.drop k) → m ≤ l.length → rep Y Z l = l.take m ++ rep Y Z (l.drop m)
  | 0, l, _, _ => by simp
  | m + 1, [], _, h => by simp at h
  | m + 1, c :: l, h, hl => by
    rw [rep_miss (h 0 (by (first | lia | omega))), rep_gap m l (fun k hk => h (k + 1) (by (first | lia | omega))) (by simpa using hl)]
    rfl
theorem rep_none {Y Z : List Nat} (l : List Nat) (h : ∀ k, ¬ Y <+: l.drop k ∨ l.length ≤ k) : rep Y Z l = l := by
  rw [rep_gap l.length l (fun k hk => (h k).resolve_right (by (first | lia | omega))) (Nat.le_refl _), List.take_length, List.drop_length, rep_nil, List.append_nil]
theorem parts_rep (L Y Z : List Nat) (hY : Y ≠ []) : ∀ (cuts : List Nat) (a f : Nat), a ≤ L.length → StrLaws.ChainG (tx L) (tx Y) (tx L).length a cuts f → (∀ k, f ≤ k → ¬ StrLaws.At (tx L) (tx Y) (tx L).length k) →
    (Str.join (tx Z) (StrLaws.partsFrom (tx L) Y.length a cuts)).cps.toList = rep Y Z (L.drop a)
  | [], a, f, ha, h, hn => by
    have e : f = a := h
    subst e
    show (Builtin.Str.strSub (tx L) f (tx L).length).cps.toList = _
    rw [StrLaws.strSub_toList, tx_list, tx_len, List.take_of_length_le (Nat.le_of_eq List.length_drop)]
    refine (rep_none _ fun k => ?_).symm
    by_cases hk : (L.drop f).length ≤ k
    · exact .inr hk
    · refine .inl fun hp => hn (f + k) (by (first | lia | omega)) ((at_iff _ _ _).mpr ⟨?_, by rw [List.drop_drop] at hp; exact hp⟩)
      have := hp.length_le
      rw [List.length_drop, List.length_drop] at this
      rw [List.length_drop] at hk
      (first | lia | omega)
  | c :: r, a, f, ha, h, hn => by
    have hc := (at_iff _ _ _).mp h.2.1
    have ih := parts_rep L Y Z hY r (c + (tx Y).length) f (by rw [tx_len]; exact hc.1) h.2.2.2 hn
    obtain ⟨p, q, e⟩ := StrLaws.partsFrom_ne (tx L) Y.length (c + Y.length) r
    rw [tx_len] at ih
    show (Str.join (tx Z) (Builtin.Str.strSub (tx L) a c :: StrLaws.partsFrom (tx L) Y.length (c + Y.length) r)).cps.toList = _
    rw [e] at ih ⊢
    show (Builtin.Str.strSub (tx L) a c ++ tx Z ++ Str.join (tx Z) (p :: q)).cps.toList = _
    rw [Str.cps_append, Str.cps_append, Array.toList_append, Array.toList_append, ih, StrLaws.strSub_toList, tx_list, tx_list]
    have hac := h.1
    have hlc : c ≤ L.length := by (first | lia | omega)
    rw [rep_gap (c - a) (L.drop a) (fun k hk hp => h.2.2.1 (a + k) (by (first | lia | omega)) (by (first | lia | omega)) ((at_iff _ _ _).mpr ⟨by
      rw [List.drop_drop] at hp
      have := hp.length_le
      rw [List.length_drop] at this
      have := List.length_pos_iff.mpr hY
      (first | lia | omega), by rw [List.drop_drop] at hp; exact hp⟩)) (by rw [List.length_drop]; (first | lia | omega)), List.drop_drop, show a + (c - a) = c by (first | lia | omega)]
    obtain ⟨t, ht⟩ := hc.2
    rw [← ht, rep_hit hY, List.append_assoc]
    congr 2
    have : L.drop (c + Y.length) = t := by rw [← List.drop_drop, ← ht, List.drop_left]
    rw [this]
theorem replace_tx (L Y Z : List Nat) (hY : Y ≠ []) : Txt.replace (tx L) (tx Y) (tx Z) = tx (rep Y Z L) := by
  have hp : 0 < Y.length := List.length_pos_iff.mpr hY
  obtain ⟨f, hc, hn⟩ := StrLaws.occ_tight (tx L) (tx Y) (by rw [tx_len]; exact hp)
  have key := parts_rep L Y Z hY _ 0 f (Nat.zero_le _) hc hn
  rw [List.drop_zero] at key
  have e0 : ((tx Y).length == 0 && (tx Z).length == 0) = false := by rw [tx_len, beq_eq_false_iff_ne.mpr (by (first | lia | omega))]; rfl
  unfold Txt.replace
  rw [e0, Bool.or_false]
  generalize Builtin.Str.occurrences (tx L) (tx Y) 0 (tx L).length ((tx L).length + 1) = cuts at hc key
  have er : ∀ x : Str, x.cps.toList = rep Y Z L → x = tx (rep Y Z L) := fun x h => by
    apply Str.ext'
    apply Array.toList_inj.mp
    rw [h, tx_list]
  split
  · rename_i he
    have : cuts = [] := by simpa using he
    subst this
    refine er _ ?_
    rw [← key]
    show _ = (Builtin.Str.strSub (tx L) 0 (tx L).length).cps.toList
    rw [StrLaws.sub_whole]
  · refine er _ ?_
    rw [StrLaws.glued_eq_join, StrLaws.partsBetween_eq, tx_len, key]
theorem rep_len {Y Z : List Nat} {k : Nat} (hz : Z.length ≤ k) (hk : 1 ≤ k) (l : List Nat) : (rep Y Z l).length ≤ k * l.length := by
  induction h : l.length using Nat.strongRecOn generalizing l with
  | _ n ih =>
    subst h
    cases l with
    | nil => rw [rep_nil]; exact Nat.zero_le _
    | cons c l =>
      rw [rep]
      split
      · rw [List.length_append]
        have := ih (l.drop (Y.length - 1)).length (by simp only [List.length_drop, List.length_cons]; (first | lia | omega)) _ rfl
        have h2 : k * (l.drop (Y.length - 1)).length ≤ k * l.length := Nat.mul_le_mul_left _ (by simp)
        simp only [List.length_cons, Nat.mul_succ]
        (first | lia | omega)
      · have := ih l.length (by simp) l rfl
        simp only [List.length_cons, Nat.mul_succ]
        (first | lia | omega)
section
variable {prog : Program} {w : World} {A : Around} {E : Value → Shared → Prop} {s : Shared}
theorem replace_K {l y z : List Nat} {Y Z : Str} {t u v : Tok} {Q : Value → Shared → Prop} (eY : Y = tx y) (eZ : Z = tx z) (hy : y ≠ []) (hu : u ≠ 0) (hv : v ≠ 0) (huv : u ≠ v) (hyz : (Y == Z) = false) (hx : l.length ≤ 10000) (hz : z.length ≤ 14)
    (h : ∀ t' k, Q (.str (tx (rep y z l)) t') { s with toks := k }) : wpAny (model prog w) A (call (.builtin "str.replace") [.str (tx l) t, .str Y u, .str Z v]) Q E s := by
  subst eY
  subst eZ
  refine SC.replaceW hu hv huv hyz (by rw [tx_len]; (first | lia | omega)) (by rw [tx_len]; exact hz) fun t' k => ?_
  rw [replace_tx l y z hy]; exact h t' k
end

end
section
theorem startTk : True := by
  w_top off
  trivial
local macro_rules | `(tactic| walk_at "zz none") => `(tactic| fail "zz none")
/-- a row with its side by side A's paired (Q = 81) -/
noncomputable def tk : List Nat → List Nat
  | [] => []
  | [c] => [c]
  | c :: d :: r => if c = 65 ∧ d = 65 then 81 :: tk r else c :: tk (d :: r)
noncomputable def Lq (c : Nat) : Prop := Lt c ∨ c = 81
/-- no A ahead of an A or a pair; letters alone -/
noncomputable def OkT : List Nat → Prop
  | [] => True
  | c :: l => Lq c ∧ (c = 65 → l.head? ≠ some 65 ∧ l.head? ≠ some 81) ∧ OkT l
theorem tk_pair (r : List Nat) : tk (65 :: 65 :: r) = 81 :: tk r := by rw [tk, if_pos ⟨rfl, rfl⟩]
theorem tk_cons {c d : Nat} (r : List Nat) (h : ¬ (c = 65 ∧ d = 65)) : tk (c :: d :: r) = c :: tk (d :: r) := by rw [tk, if_neg h]
theorem tk_head {d : Nat} (r : List Nat) (h : d ≠ 65) : (tk (d :: r)).head? = some d := by
  cases r with
  | nil => rfl
  | cons e r => rw [tk_cons _ (fun x => h x.1)]; rfl
theorem tk_ok (r : List Nat) (h : ∀ c ∈ r, Lt c) : OkT (tk r) := by
  fun_induction tk r with
  | case1 => trivial
  | case2 c => exact ⟨.inl (h c (.head _)), fun _ => ⟨by simp, by simp⟩, trivial⟩
  | case3 c d r hc ih => exact ⟨.inr rfl, fun e => absurd e (by decide), ih fun x hx => h x (.tail _ (.tail _ hx))⟩
  | case4 c d r hc ih =>
    refine ⟨.inl (h c (.head _)), fun e => ?_, ih fun x hx => h x (.tail _ hx)⟩
    have hd : d ≠ 65 := fun x => hc ⟨e, x⟩
    have h81 := (h d (.tail _ (.head _))).2
    rw [tk_head r hd]
    exact ⟨fun x => hd (Option.some.inj x), fun x => by have := Option.some.inj x; (first | lia | omega)⟩
/-- one sign for a list of signs -/
noncomputable def sub (a : Nat) (z : List Nat) (c : Nat) : List Nat := if c = a then z else [c]
theorem rep_one (a : Nat) (z l : List Nat) : rep [a] z l = l.flatMap (sub a z) := by
  induction l with
  | nil => rw [rep_nil]; rfl
  | cons c l ih =>
    rw [List.flatMap_cons, ← ih]
    by_cases h : c = a
    · subst h
      have := rep_hit (y := [c]) (z := z) (by simp) l
      rw [List.singleton_append] at this
      rw [this, sub, if_pos rfl]
    · rw [rep_miss (by intro hp; have := (List.cons_prefix_cons.mp hp).1; exact h this.symm), sub, if_neg h]; rfl
noncomputable def dB : Nat → List Nat := sub 66 [66, 66]
theorem pre2 {a b c : Nat} {l : List Nat} (h : [a, b] <+: c :: l) : c = a ∧ l.head? = some b := by
  obtain ⟨h1, h2⟩ := List.cons_prefix_cons.mp h
  refine ⟨h1.symm, ?_⟩
  cases l with
  | nil => simp at h2
  | cons e l => rw [(List.cons_prefix_cons.mp h2).1]; rfl
theorem dB_head (c : Nat) (l : List Nat) : ((c :: l).flatMap dB).head? = some c := by
  rw [List.flatMap_cons]
  unfold dB sub
  split
  · rename_i h; subst h; rfl
  · rfl
theorem paired (r : List Nat) : rep [65, 65] [81] (r.flatMap dB) = (tk r).flatMap dB := by
  have one : ∀ (c : Nat) (l : List Nat), (c = 65 → l.head? ≠ some 65) → rep [65, 65] [81] (dB c ++ l) = dB c ++ rep [65, 65] [81] l := by
    intro c l h
    unfold dB sub
    split
    · show rep _ _ (66 :: 66 :: l) = _
      rw [rep_miss (fun hp => absurd (pre2 hp).1 (by decide)), rep_miss (fun hp => absurd (pre2 hp).1 (by decide))]; rfl
    · show rep _ _ (c :: l) = _
      rw [rep_miss (fun hp => h (pre2 hp).1 (pre2 hp).2)]; rfl
  fun_induction tk r with
  | case1 => rw [List.flatMap_nil, rep_nil]
  | case2 c =>
    have := one c [] (by simp)
    rw [rep_nil, List.append_nil] at this
    rw [List.flatMap_cons, List.flatMap_nil, List.append_nil, this]
  | case3 c d r hc ih =>
    obtain ⟨rfl, rfl⟩ := hc
    have := rep_hit (y := [65, 65]) (z := [81]) (by simp) (r.flatMap dB)
    have e : (65 :: 65 :: r).flatMap dB = [65, 65] ++ r.flatMap dB := rfl
    have e' : (81 :: tk r).flatMap dB = [81] ++ (tk r).flatMap dB := rfl
    rw [e, e', this, ih]
  | case4 c d r hc ih =>
    rw [List.flatMap_cons, List.flatMap_cons (xs := tk (d :: r)), one c _ (fun e => by rw [dB_head]; exact fun x => hc ⟨e, Option.some.inj x⟩), ih]
/-- the row again -/
noncomputable def unA (c : Nat) : List Nat := if c = 81 then [65, 65] else [c]
theorem tk_un (r : List Nat) (h : ∀ c ∈ r, c ≠ 81) : (tk r).flatMap unA = r := by
  have one : ∀ c, c ≠ 81 → unA c = [c] := fun c h => if_neg h
  fun_induction tk r with
  | case1 => rfl
  | case2 c => rw [List.flatMap_cons, one c (h c (.head _))]; rfl
  | case3 c d r hc ih =>
    obtain ⟨rfl, rfl⟩ := hc
    rw [List.flatMap_cons, ih fun x hx => h x (.tail _ (.tail _ hx))]; rfl
  | case4 c d r hc ih => rw [List.flatMap_cons, ih fun x hx => h x (.tail _ hx), one c (h c (.head _))]; rfl
/-- the first name, and what is left behind its mark -/
noncomputable def nmc (c : Nat) : Nat := if c = 81 then 34 else sig c
noncomputable def sh : List Nat → List Nat
  | [] => []
  | c :: l => if c = 65 then [] else nmc c :: sh l
noncomputable def st : List Nat → List Nat
  | [] => []
  | c :: l => if c = 65 then l else st l
theorem st_le : ∀ l : List Nat, (st l).length ≤ l.length
  | [] => Nat.le_refl _
  | c :: l => by
    unfold st
    split
    · simp
    · have := st_le l; simp only [List.length_cons]; (first | lia | omega)
theorem st_lt {l : List Nat} (h : l ≠ []) : (st l).length < l.length := by
  cases l with
  | nil => exact absurd rfl h
  | cons c l =>
    unfold st
    split
    · simp
    · have := st_le l; simp only [List.length_cons]; (first | lia | omega)
noncomputable def segs (l : List Nat) : List (List Nat) := if h : l = [] then [] else sh l :: segs (st l)
termination_by l.length
decreasing_by exact st_lt h
theorem segs_nil : segs [] = [] := by rw [segs, dif_pos rfl]
theorem segs_cons {l : List Nat} (h : l ≠ []) : segs l = sh l :: segs (st l) := by rw [segs, dif_neg h]
theorem ok_st : ∀ {l : List Nat}, OkT l → OkT (st l)
  | [], _ => trivial
  | c :: l, h => by
    unfold st
    split
    · exact h.2.2
    · exact ok_st h.2.2
theorem st_none : ∀ {l : List Nat}, 65 ∉ l → st l = []
  | [], _ => rfl
  | c :: l, h => by
    unfold st
    rw [if_neg (fun e : c = 65 => h (by rw [e]; exact .head _))]
    exact st_none fun x => h (.tail _ x)
/-- behind a mark there is neither a mark nor a pair -/
theorem st_head : ∀ {l : List Nat}, OkT l → 65 ∈ l → (st l).head? ≠ some 65 ∧ (st l).head? ≠ some 81
  | [], _, h => by cases h
  | c :: l, h, hm => by
    unfold st
    split
    · rename_i e; exact h.2.1 e
    · rename_i e
      rcases List.mem_cons.mp hm with e' | e'
      · exact absurd e'.symm e
      · exact st_head h.2.2 e'
/-- the text -/
noncomputable def txt (l : List Nat) : List Nat := (l.flatMap unA).map sig
theorem txt_nil : txt [] = [] := rfl
theorem txt_cons (c : Nat) (l : List Nat) : txt (c :: l) = (if c = 81 then [34, 34] else [sig c]) ++ txt l := by
  unfold txt
  rw [List.flatMap_cons, List.map_append]
  unfold unA
  split
  · rw [show ([65, 65] : List Nat).map sig = [34, 34] by decide +kernel]
  · rfl
theorem txt_head {l : List Nat} (ho : OkT l) (h : l.head? ≠ some 65 ∧ l.head? ≠ some 81) : (txt l).head? ≠ some 34 := by
  cases l with
  | nil => simp [txt_nil]
  | cons c l =>
    have h1 : c ≠ 65 := fun e => h.1 (by rw [e]; rfl)
    have h2 : c ≠ 81 := fun e => h.2 (by rw [e]; rfl)
    rw [txt_cons, if_neg h2]
    intro e
    have := (sig34 (ho.1.resolve_right h2)).mp (Option.some.inj e)
    exact h1 this
theorem unq_txt : ∀ {l : List Nat}, OkT l → unq (txt l) = sh l
  | [], _ => by rw [txt_nil, unq_nil]; rfl
  | c :: l, h => by
    rw [txt_cons, sh]
    by_cases h1 : c = 65
    · subst h1
      rw [if_neg (by decide), if_pos rfl, sig65, List.singleton_append]
      have hh := txt_head h.2.2 (h.2.1 rfl)
      cases e : txt l with
      | nil => exact unq_end
      | cons d ds => exact unq_stop ds fun x => hh (by rw [e, x]; rfl)
    · rw [if_neg h1]
      by_cases h2 : c = 81
      · subst h2
        rw [if_pos rfl]
        show unq (34 :: 34 :: txt l) = _
        rw [unq_two, unq_txt h.2.2]
        rfl
      · rw [if_neg h2, List.singleton_append, unq_cons _ (fun x => h1 ((sig34 (h.1.resolve_right h2)).mp x)), unq_txt h.2.2, nmc, if_neg h2]
theorem drop_txt : ∀ {l : List Nat}, OkT l → (txt l).drop ((sh l).length + (sh l).count 34 + 1) = txt (st l)
  | [], _ => by simp [txt_nil, st]
  | c :: l, h => by
    rw [txt_cons, sh, st]
    by_cases h1 : c = 65
    · subst h1
      rfl
    · rw [if_neg h1, if_neg h1, ← drop_txt h.2.2]
      by_cases h2 : c = 81
      · subst h2
        rw [if_pos rfl, nmc, if_pos rfl, List.length_cons, List.count_cons, if_pos (by decide)]
        rw [show (sh l).length + 1 + ((sh l).count 34 + 1) + 1 = ((sh l).length + (sh l).count 34 + 1) + 1 + 1 by (first | lia | omega)]
        rfl
      · have h3 : ¬ (sig c == 34) = true := by rw [beq_iff_eq]; exact fun x => h1 ((sig34 (h.1.resolve_right h2)).mp x)
        rw [if_neg h2, nmc, if_neg h2, List.length_cons, List.count_cons, if_neg h3]
        rw [show (sh l).length + 1 + ((sh l).count 34 + 0) + 1 = ((sh l).length + (sh l).count 34 + 1) + 1 by (first | lia | omega)]
        rfl
theorem txt_eq_nil {l : List Nat} (h : txt l = []) : l = [] := by
  cases l with
  | nil => rfl
  | cons c l =>
    rw [txt_cons] at h
    split at h <;> cases h
/-- the names that are told, one behind the other -/
noncomputable def names (t : List Nat) : List (List Nat) := if h : t = [] then [] else unq t :: names (t.drop ((unq t).length + (unq t).count 34 + 1))
termination_by t.length
decreasing_by
  have := List.length_pos_iff.mpr h
  rw [List.length_drop]; (first | lia | omega)
theorem names_nil : names [] = [] := by rw [names, dif_pos rfl]
theorem names_cons {t : List Nat} (h : t ≠ []) : names t = unq t :: names (t.drop ((unq t).length + (unq t).count 34 + 1)) := by rw [names, dif_neg h]
theorem names_txt : ∀ (n : Nat) (l : List Nat), l.length ≤ n → OkT l → names (txt l) = segs l
  | n, [], _, _ => by rw [txt_nil, names_nil, segs_nil]
  | 0, _ :: _, h, _ => by simp at h
  | n + 1, c :: l, h, ho => by
    have hne : c :: l ≠ [] := by simp
    rw [names_cons (fun e => hne (txt_eq_nil e)), segs_cons hne, unq_txt ho, drop_txt ho]
    rw [names_txt n _ (by have := st_lt hne; (first | lia | omega)) (ok_st ho)]
/-- joined again -/
noncomputable def joinQ : List (List Nat) → List Nat
  | [] => []
  | [a] => a
  | a :: b :: r => a ++ 34 :: joinQ (b :: r)
noncomputable def esc (n : List Nat) : List Nat := rep [34] [34, 34] n
theorem esc_eq (n : List Nat) : esc n = n.flatMap (sub 34 [34, 34]) := rep_one _ _ _
theorem txt_split : ∀ {l : List Nat}, OkT l → txt l = esc (sh l) ++ (if 65 ∈ l then 34 :: txt (st l) else [])
  | [], _ => by rw [if_neg (by simp), esc_eq]; rfl
  | c :: l, h => by
    rw [txt_cons, sh, st]
    by_cases h1 : c = 65
    · subst h1
      rw [if_neg (by decide), if_pos rfl, if_pos rfl, if_pos (.head _), esc_eq, sig65]; rfl
    · rw [if_neg h1, if_neg h1, txt_split h.2.2, esc_eq, esc_eq, List.flatMap_cons, List.append_assoc]
      have hm : (65 ∈ c :: l) ↔ 65 ∈ l := by
        rw [List.mem_cons]; exact ⟨fun x => x.resolve_left fun e => h1 e.symm, .inr⟩
      simp only [hm]
      congr 1
      by_cases h2 : c = 81
      · subst h2; rfl
      · rw [if_neg h2, nmc, if_neg h2, sub, if_neg fun x => h1 ((sig34 (h.1.resolve_right h2)).mp x)]
theorem joined : ∀ (n : Nat) (l : List Nat), l.length ≤ n → OkT l → txt l = joinQ ((segs l).map esc) ∨ txt l = joinQ ((segs l).map esc) ++ [34]
  | n, [], _, _ => .inl (by rw [segs_nil]; rfl)
  | 0, _ :: _, h, _ => by simp at h
  | n + 1, c :: l, h, ho => by
    have hne : c :: l ≠ [] := by simp
    have hs := txt_split ho
    rw [segs_cons hne, List.map_cons]
    by_cases hm : 65 ∈ c :: l
    · rw [if_pos hm] at hs
      have ih := joined n (st (c :: l)) (by have := st_lt hne; (first | lia | omega)) (ok_st ho)
      cases hst : st (c :: l) with
      | nil =>
        rw [hst, txt_nil] at hs
        right; rw [segs_nil]; exact hs
      | cons d r =>
        rw [hst] at hs ih
        rw [segs_cons (l := d :: r) (by simp)] at ih ⊢
        rw [List.map_cons] at ih ⊢
        rcases ih with ih | ih
        · left; rw [hs, ih]; rfl
        · right; rw [hs, ih]; show _ ++ 34 :: (_ ++ _) = (_ ++ 34 :: _) ++ _; rw [List.append_assoc]; rfl
    · rw [if_neg hm, List.append_nil] at hs
      left
      rw [st_none hm, segs_nil]; exact hs

end
section
theorem startMkd : True := by
  w_top off
  trivial
noncomputable def mkd (c : Nat) : List Nat := if c = 65 then [65, 67, 65] else if c = 66 then [66, 66] else if c = 81 then [66, 65] else [c]
theorem dB_flat (l : List Nat) : rep [66] [66, 66] l = l.flatMap dB := rep_one _ _ _
noncomputable def paired0 (row : List Nat) : List Nat := rep [65, 65] [81] (rep [66] [66, 66] row)
theorem paired0_eq (row : List Nat) : paired0 row = (tk row).flatMap dB := by rw [paired0, dB_flat, paired]
theorem flat_cong {α : Type} {l : List Nat} {f g : Nat → List α} (h : ∀ c ∈ l, f c = g c) : l.flatMap f = l.flatMap g := by
  induction l with
  | nil => rfl
  | cons c l ih => rw [List.flatMap_cons, List.flatMap_cons, h c (.head _), ih fun x hx => h x (.tail _ hx)]
/-- the "marked" row -/
noncomputable def markedR (row : List Nat) : List Nat := 65 :: rep [81] [66, 65] (rep [65] [65, 67, 65] (paired0 row))
theorem markedR_eq (row : List Nat) : markedR row = 65 :: (tk row).flatMap mkd := by
  unfold markedR
  rw [paired0_eq, rep_one, rep_one, List.flatMap_assoc, List.flatMap_assoc]
  congr 1
  refine flat_cong fun c _ => ?_
  unfold dB mkd sub
  by_cases h1 : c = 66
  · subst h1; decide
  · rw [if_neg h1]
    by_cases h2 : c = 65
    · subst h2; decide
    · rw [if_neg h2, if_neg h1]
      by_cases h3 : c = 81
      · subst h3; decide
      · rw [if_neg h3]
        simp [h2, h3]
noncomputable def M (l : List Nat) : List Nat := (l.flatMap mkd).map sig
theorem M_nil : M [] = [] := rfl
theorem M_cons (c : Nat) (l : List Nat) : M (c :: l) = (if c = 65 then [34, 32, 34] else if c = 66 then [92, 92] else if c = 81 then [92, 34] else [sig c]) ++ M l := by
  unfold M
  rw [List.flatMap_cons, List.map_append]
  congr 1
  unfold mkd
  split
  · decide +kernel
  · split
    · decide +kernel
    · split
      · decide +kernel
      · rfl
theorem mem_ne {c : Nat} {l : List Nat} (h : c ≠ 65) : (65 ∈ c :: l) ↔ 65 ∈ l := by
  rw [List.mem_cons]; exact ⟨fun x => x.resolve_left fun e => h e.symm, .inr⟩
theorem quo_M : ∀ {l : List Nat} (acc : List Nat) (ln : Int), OkT l → ∃ l2, quoted acc (M l) ln = (acc ++ sh l, (if 65 ∈ l then 32 :: 34 :: M (st l) else []), l2)
  | [], acc, ln, _ => ⟨ln, by rw [M_nil, quo_nil, if_neg (by simp), sh, List.append_nil]⟩
  | c :: l, acc, ln, h => by
    rw [M_cons, sh, st]
    by_cases h1 : c = 65
    · subst h1
      refine ⟨ln, ?_⟩
      rw [if_pos rfl, if_pos rfl, if_pos (.head _), if_pos rfl, List.append_nil]
      exact quo_stop
    · rw [if_neg h1, if_neg h1, if_neg h1]
      simp only [mem_ne h1]
      by_cases h2 : c = 66
      · subst h2
        rw [if_pos rfl]
        obtain ⟨l2, e⟩ := quo_M (acc ++ [92]) ln h.2.2
        refine ⟨l2, ?_⟩
        show quoted acc (92 :: 92 :: M l) ln = _
        rw [quo_esc]
        show quoted (acc ++ [92]) (M l) ln = _
        rw [e, List.append_assoc]; rfl
      · rw [if_neg h2]
        by_cases h3 : c = 81
        · subst h3
          rw [if_pos rfl]
          obtain ⟨l2, e⟩ := quo_M (acc ++ [34]) ln h.2.2
          refine ⟨l2, ?_⟩
          show quoted acc (92 :: 34 :: M l) ln = _
          rw [quo_esc]
          show quoted (acc ++ [34]) (M l) ln = _
          rw [e, List.append_assoc]; rfl
        · have hl := h.1.resolve_right h3
          rw [if_neg h3, nmc, if_neg h3]
          obtain ⟨l2, e⟩ := quo_M (acc ++ [sig c]) (nl (sig c) ln) h.2.2
          refine ⟨l2, ?_⟩
          show quoted acc (sig c :: M l) ln = _
          rw [quo_lit (fun x => h1 ((sig34 hl).mp x)) (fun x => h2 ((sig92 hl).mp x)), e, List.append_assoc]; rfl
theorem lex_M : ∀ (n : Nat) (l : List Nat) (ln : Int) (xs : List Nat), l.length ≤ n → OkT l → (xs = 34 :: M l ∨ xs = 32 :: 34 :: M l) → ∃ l2, lexAll ((segs l).length + 2) xs ln = (segs l ++ [[], []], [], l2)
  | n, [], ln, xs, _, _, hx => by
    have e : tok0 xs ln = ([], [], ln) := by
      rcases hx with rfl | rfl
      · rw [M_nil, tok_quo, quo_nil]
      · rw [M_nil, tok_ws (by decide), tok_quo, quo_nil]; rfl
    rw [segs_nil]
    refine ⟨ln, ?_⟩
    show lexAll (1 + 1) xs ln = _
    rw [lex_succ e, lex_nil]; rfl
  | 0, _ :: _, _, _, h, _, _ => by simp at h
  | n + 1, c :: l, ln, xs, h, ho, hx => by
    have hne : c :: l ≠ [] := by simp
    obtain ⟨l1, e1⟩ := quo_M [] ln ho
    have e : tok0 xs ln = (sh (c :: l), (if 65 ∈ c :: l then 32 :: 34 :: M (st (c :: l)) else []), l1) := by
      rcases hx with rfl | rfl
      · rw [tok_quo, e1]; rfl
      · rw [tok_ws (by decide), tok_quo]; exact e1
    rw [segs_cons hne]
    show ∃ l2, lexAll (((segs (st (c :: l))).length + 2) + 1) xs ln = _
    rw [lex_succ e]
    by_cases hm : 65 ∈ c :: l
    · rw [if_pos hm]
      obtain ⟨l2, e2⟩ := lex_M n (st (c :: l)) l1 _ (by have := st_lt hne; (first | lia | omega)) (ok_st ho) (.inr rfl)
      refine ⟨l2, ?_⟩
      rw [e2]; rfl
    · rw [if_neg hm, st_none hm, segs_nil, lex_nil]
      exact ⟨l1, rfl⟩
theorem marked_ok (row : List Nat) (h : ∀ c ∈ row, Lt c) : lexAll ((names (row.map sig)).length + 2) ((markedR row).map sig) 1 = (names (row.map sig) ++ [[], []], [], (1 : Int) + ((((markedR row).map sig).count 10 : Nat) : Int)) := by
  have ho := tk_ok row h
  have ht : row.map sig = txt (tk row) := by rw [txt, tk_un row fun c hc e => by have := (h c hc).2; (first | lia | omega)]
  rw [ht, names_txt _ _ (Nat.le_refl _) ho, markedR_eq]
  have hM : (65 :: (tk row).flatMap mkd).map sig = 34 :: M (tk row) := by rw [List.map_cons, sig65]; rfl
  rw [hM]
  obtain ⟨l2, e⟩ := lex_M _ (tk row) 1 _ (Nat.le_refl _) ho (.inl rfl)
  have := lex_end (n := (segs (tk row)).length + 2) (xs := 34 :: M (tk row)) (ln := 1) (by rw [e])
  rw [e] at this ⊢
  rw [show l2 = _ from this]

end
section
theorem startBar : True := by
  w_top off
  trivial
local macro_rules | `(tactic| walk_at "zz none") => `(tactic| fail "zz none")
noncomputable def sepk (j : Nat) : List Nat := ([67, 68, 69, 70, 67, 68, 69].drop j).take 4
noncomputable def guarded (p : List Nat) : List Nat := rep [74] [66, 74] (rep [70] [66, 70] (rep [69] [66, 69] (rep [68] [66, 68] (rep [67] [66, 67] p))))
noncomputable def grd (c : Nat) : List Nat := if c = 66 then [66, 66] else if (67 ≤ c ∧ c ≤ 70) ∨ c = 74 then [66, c] else [c]
noncomputable def gd (k : List Nat) (c : Nat) : List Nat := if c = 65 then k else grd c
noncomputable def endedR (row : List Nat) : List Nat := rep [81, 66, 68] [66, 65, 66, 68] (rep [65] (sepk (row.length % 4)) (guarded (paired0 row)))
/-- the "bare" row -/
noncomputable def bareR (row : List Nat) : List Nat := (if (endedR row).take 1 = [81] then [66] else []) ++ rep [81] [65] (endedR row) ++ List.replicate (row.length % 2) 66
theorem grd_eq (l : List Nat) (k : List Nat) : rep [65] k (guarded (l.flatMap dB)) = l.flatMap (gd k) := by
  unfold guarded
  simp only [rep_one, List.flatMap_assoc]
  refine flat_cong fun c _ => ?_
  have one : ∀ a b (z : List Nat), b ≠ a → sub a z b = [b] := fun a b z h => if_neg h
  have two : ∀ a (z : List Nat), sub a z a = z := fun a z => if_pos rfl
  by_cases h2 : c = 66
  · subst h2
    simp only [dB, two, List.flatMap_cons, List.flatMap_nil, one 67 66 _ (by decide), one 68 66 _ (by decide), one 69 66 _ (by decide), one 70 66 _ (by decide), one 74 66 _ (by decide), one 65 66 _ (by decide), List.append_nil, List.singleton_append]
    rfl
  · simp only [dB, one 66 c _ h2, List.flatMap_cons, List.flatMap_nil, List.append_nil]
    by_cases h1 : c = 65
    · subst h1
      simp only [two, List.flatMap_cons, List.flatMap_nil, one 67 65 _ (by decide), one 68 65 _ (by decide), one 69 65 _ (by decide), one 70 65 _ (by decide), one 74 65 _ (by decide), List.append_nil]
      rfl
    · have hg : gd k c = grd c := if_neg h1
      rw [hg, grd, if_neg h2]
      by_cases h3 : (67 ≤ c ∧ c ≤ 70) ∨ c = 74
      · rw [if_pos h3]
        have : c = 67 ∨ c = 68 ∨ c = 69 ∨ c = 70 ∨ c = 74 := by (first | lia | omega)
        rcases this with rfl | rfl | rfl | rfl | rfl <;> rfl
      · rw [if_neg h3]
        simp only [one 67 c _ (by (first | lia | omega)), one 68 c _ (by (first | lia | omega)), one 69 c _ (by (first | lia | omega)), one 70 c _ (by (first | lia | omega)), one 74 c _ (by (first | lia | omega)), one 65 c _ h1, List.flatMap_cons, List.flatMap_nil, List.append_nil]
noncomputable def en (k : List Nat) : List Nat → List Nat
  | [] => []
  | c :: r => (if c = 81 then (if r.head? = some 68 then [66, 65] else [81]) else gd k c) ++ en k r
theorem sep_mem {j : Nat} (h : j < 4) : ∃ a b d e, sepk j = [a, b, d, e] ∧ (67 ≤ a ∧ a ≤ 70) ∧ (67 ≤ b ∧ b ≤ 70) ∧ (67 ≤ d ∧ d ≤ 70) ∧ (67 ≤ e ∧ e ≤ 70) := by
  have : j = 0 ∨ j = 1 ∨ j = 2 ∨ j = 3 := by (first | lia | omega)
  rcases this with rfl | rfl | rfl | rfl <;> exact ⟨_, _, _, _, rfl, by decide, by decide, by decide, by decide⟩
theorem rep_over {Y Z a : List Nat} (l : List Nat) (h : ∀ k, k < a.length → ¬ Y <+: (a ++ l).drop k) : rep Y Z (a ++ l) = a ++ rep Y Z l := by
  rw [rep_gap a.length (a ++ l) h (by simp), List.take_left, List.drop_left]
theorem noQ {c : Nat} {l : List Nat} (h : c ≠ 81) : ¬ [81, 66, 68] <+: c :: l := fun hp => h (List.cons_prefix_cons.mp hp).1.symm
theorem noQs {a : List Nat} (l : List Nat) (h : ∀ c ∈ a, c ≠ 81) : ∀ k, k < a.length → ¬ [81, 66, 68] <+: (a ++ l).drop k := by
  intro k hk hp
  rw [List.drop_append_of_le_length (by (first | lia | omega)), List.drop_eq_getElem_cons hk] at hp
  exact h _ (List.getElem_mem hk) (List.cons_prefix_cons.mp hp).1.symm
theorem gd_noQ {k : List Nat} (hk : ∀ c ∈ k, c ≠ 81) {c : Nat} (h : c ≠ 81) : ∀ d ∈ gd k c, d ≠ 81 := by
  intro d hd
  unfold gd grd at hd
  split at hd
  · exact hk d hd
  · split at hd
    · rcases List.mem_cons.mp hd with rfl | hd
      · decide
      · rw [List.mem_singleton.mp hd]; decide
    · split at hd
      · rcases List.mem_cons.mp hd with rfl | hd
        · decide
        · rw [List.mem_singleton.mp hd]; exact h
      · rw [List.mem_singleton.mp hd]; exact h
theorem gd_BD {k : List Nat} {a : Nat} {k' : List Nat} (hk : k = a :: k') (ha : a ≠ 66) {d : Nat} (h : d ≠ 68) (h8 : d ≠ 81) (l : List Nat) : ¬ [66, 68] <+: gd k d ++ l := by
  intro hp
  unfold gd grd at hp
  split at hp
  · subst hk
    exact ha (pre2 hp).1
  · split at hp
    · exact absurd (Option.some.inj (pre2 hp).2) (by decide)
    · split at hp
      · exact h (Option.some.inj (pre2 hp).2)
      · rename_i h1 h2 h3
        exact h2 (pre2 hp).1
theorem en_eq {k : List Nat} {a : Nat} {k' : List Nat} (hk : k = a :: k') (ha : a ≠ 66) (hq : ∀ c ∈ k, c ≠ 81) : ∀ l : List Nat, rep [81, 66, 68] [66, 65, 66, 68] (l.flatMap (gd k)) = en k l
  | [] => by rw [List.flatMap_nil, rep_nil]; rfl
  | c :: r => by
    rw [List.flatMap_cons, en]
    by_cases h : c = 81
    · subst h
      rw [if_pos rfl, show gd k 81 = [81] from rfl]
      by_cases h6 : r.head? = some 68
      · rw [if_pos h6]
        cases r with
        | nil => cases h6
        | cons d r =>
          have hd : d = 68 := Option.some.inj h6
          subst hd
          have e : [81] ++ (68 :: r).flatMap (gd k) = [81, 66, 68] ++ r.flatMap (gd k) := rfl
          rw [e, rep_hit (by simp), en_eq hk ha hq r]
          rw [en, if_neg (by decide)]
          rfl
      · rw [if_neg h6, List.singleton_append, rep_miss, en_eq hk ha hq r]; · rfl
        intro hp
        have hp2 := (List.cons_prefix_cons.mp hp).2
        cases r with
        | nil => simp at hp2
        | cons d r =>
          rw [List.flatMap_cons] at hp2
          by_cases h8 : d = 81
          · subst h8
            exact absurd (pre2 hp2).1 (by decide)
          · exact gd_BD hk ha (fun x => h6 (by rw [x]; rfl)) h8 _ hp2
    · rw [if_neg h, rep_over _ (noQs _ (gd_noQ hq h)), en_eq hk ha hq r]
theorem ended_eq (row : List Nat) : endedR row = en (sepk (row.length % 4)) (tk row) := by
  obtain ⟨a, b, d, e, hs, h1, h2, h3, h4⟩ := sep_mem (j := row.length % 4) (by (first | lia | omega))
  unfold endedR
  rw [paired0_eq, grd_eq]
  refine en_eq hs (by (first | lia | omega)) (fun c hc => ?_) _
  rw [hs] at hc
  simp only [List.mem_cons, List.not_mem_nil, or_false] at hc
  (first | lia | omega)
/-- the text behind the beginning -/
noncomputable def Bt (k : List Nat) : List Nat → List Nat
  | [] => []
  | c :: r => (if c = 65 then k.map sig else if c = 81 then (if r.head? = some 68 then [92, 34] else [34]) else if c = 66 then [92, 92] else if (67 ≤ c ∧ c ≤ 70) ∨ c = 74 then [92, sig c] else [sig c]) ++ Bt k r
theorem Bt_eq {k : List Nat} (hq : ∀ c ∈ k, c ≠ 81) : ∀ l : List Nat, (rep [81] [65] (en k l)).map sig = Bt k l
  | [] => by rw [en, rep_nil]; rfl
  | c :: r => by
    rw [rep_one, en, List.flatMap_append, List.map_append, ← rep_one 81 [65] (en k r), Bt_eq hq r, Bt]
    congr 1
    have keep : ∀ l : List Nat, (∀ c ∈ l, c ≠ 81) → l.flatMap (sub 81 [65]) = l := by
      intro l hl
      induction l with
      | nil => rfl
      | cons x l ih => rw [List.flatMap_cons, ih fun y hy => hl y (.tail _ hy), sub, if_neg (hl x (.head _))]; rfl
    by_cases h1 : c = 81
    · subst h1
      show ((if r.head? = some 68 then [66, 65] else [81] : List Nat).flatMap (sub 81 [65])).map sig = (if r.head? = some 68 then [92, 34] else [34])
      split <;> decide +kernel
    · rw [if_neg h1, keep _ (gd_noQ hq h1)]
      unfold gd grd
      split
      · rfl
      · first | rw [if_neg h1] | skip
        split
        · decide +kernel
        · split
          · show [sig 66, sig c] = _; rw [sig66]
          · rfl
/-- a bare word is read -/
theorem bar_B {k : List Nat} {a : Nat} {k' : List Nat} (hk : k = a :: k') (ha : 67 ≤ a ∧ a ≤ 70) (tl : List Nat) (htl : tl = [] ∨ tl = [92]) : ∀ {l : List Nat} (acc : List Nat) (ln : Int), OkT l → ∃ l2, bare acc (Bt k l ++ tl) ln = (acc ++ sh l, (if 65 ∈ l then k'.map sig ++ (Bt k (st l) ++ tl) else []), l2)
  | [], acc, ln, _ => by
    refine ⟨ln, ?_⟩
    rw [if_neg (by simp), sh, List.append_nil, Bt, List.nil_append]
    rcases htl with rfl | rfl
    · exact bar_nil
    · exact bar_last
  | c :: l, acc, ln, h => by
    rw [Bt, sh, st, List.append_assoc]
    by_cases h1 : c = 65
    · subst h1
      rw [if_pos rfl, if_pos rfl, if_pos (.head _), if_pos rfl, List.append_nil]
      subst hk
      refine ⟨_, bar_stop ((sigWs ?_).mpr (by (first | lia | omega)))⟩
      unfold Lt; (first | lia | omega)
    · rw [if_neg h1, if_neg h1, if_neg h1]
      simp only [mem_ne h1]
      by_cases h3 : c = 81
      · subst h3
        rw [if_pos rfl]
        obtain ⟨l2, e⟩ := bar_B hk ha tl htl (acc ++ [34]) ln h.2.2
        refine ⟨l2, ?_⟩
        have goal : bare (acc ++ [34]) (Bt k l ++ tl) ln = (acc ++ nmc 81 :: sh l, (if 65 ∈ l then k'.map sig ++ (Bt k (st l) ++ tl) else []), l2) := by
          rw [e, List.append_assoc]; rfl
        split
        · show bare acc (92 :: 34 :: (Bt k l ++ tl)) ln = _
          rw [bar_esc]
          exact goal
        · show bare acc (34 :: (Bt k l ++ tl)) ln = _
          rw [bar_lit (by decide) (by decide)]
          exact goal
      · have hl := h.1.resolve_right h3
        rw [if_neg h3, nmc, if_neg h3]
        by_cases h2 : c = 66
        · subst h2
          rw [if_pos rfl]
          obtain ⟨l2, e⟩ := bar_B hk ha tl htl (acc ++ [92]) ln h.2.2
          refine ⟨l2, ?_⟩
          show bare acc (92 :: 92 :: (Bt k l ++ tl)) ln = _
          rw [bar_esc]
          show bare (acc ++ [92]) (Bt k l ++ tl) ln = _
          rw [e, List.append_assoc]; rfl
        · rw [if_neg h2]
          obtain ⟨l2, e⟩ := bar_B hk ha tl htl (acc ++ [sig c]) (nl (sig c) ln) h.2.2
          have goal : bare (acc ++ [sig c]) (Bt k l ++ tl) (nl (sig c) ln) = (acc ++ sig c :: sh l, (if 65 ∈ l then k'.map sig ++ (Bt k (st l) ++ tl) else []), l2) := by
            rw [e, List.append_assoc]; rfl
          refine ⟨l2, ?_⟩
          split
          · show bare acc (92 :: sig c :: (Bt k l ++ tl)) ln = _
            rw [bar_esc]
            exact goal
          · rename_i h4
            show bare acc (sig c :: (Bt k l ++ tl)) ln = _
            rw [bar_lit (fun x => h4 (.inl (by have := (sigWs hl).mp x; (first | lia | omega)))) (fun x => h2 ((sig92 hl).mp x))]
            exact goal
/-- a word's beginning -/
theorem tok_B {k : List Nat} (tl : List Nat) {c : Nat} {l : List Nat} (ln : Int) (h : OkT (c :: l)) (h1 : c ≠ 65) (h3 : c ≠ 81) : ∃ l2, tok0 (Bt k (c :: l) ++ tl) ln = bare [nmc c] (Bt k l ++ tl) l2 := by
  rw [Bt, List.append_assoc, if_neg h1, if_neg h3, nmc, if_neg h3]
  have hl := h.1.resolve_right h3
  by_cases h2 : c = 66
  · subst h2
    rw [if_pos rfl]
    exact ⟨_, tok_esc⟩
  · rw [if_neg h2]
    split
    · exact ⟨_, tok_esc⟩
    · rename_i h4
      exact ⟨_, tok_lit (fun x => h4 (.inl (by have := (sigWs hl).mp x; (first | lia | omega)))) (fun x => h1 ((sig34 hl).mp x)) (fun x => h2 ((sig92 hl).mp x))⟩
theorem tok_wss : ∀ (ws : List Nat) (xs : List Nat) (ln : Int), (∀ c ∈ ws, isWs c = true) → ∃ l2, tok0 (ws ++ xs) ln = tok0 xs l2
  | [], _, ln, _ => ⟨ln, rfl⟩
  | c :: ws, xs, ln, h => by
    rw [List.cons_append, tok_ws (h c (.head _))]
    exact tok_wss ws xs _ fun x hx => h x (.tail _ hx)
theorem ws_k {k : List Nat} (h : ∀ c ∈ k, 67 ≤ c ∧ c ≤ 70) : ∀ c ∈ k.map sig, isWs c = true := by
  intro c hc
  obtain ⟨d, hd, rfl⟩ := List.mem_map.mp hc
  have := h d hd
  exact (sigWs (by unfold Lt; (first | lia | omega))).mpr (by (first | lia | omega))
theorem sh_ne {c : Nat} {l : List Nat} (h : c ≠ 65) : sh (c :: l) ≠ [] := by
  rw [sh, if_neg h]; simp
theorem lex_B {k : List Nat} {a : Nat} {k' : List Nat} (hk : k = a :: k') (ha : ∀ c ∈ k, 67 ≤ c ∧ c ≤ 70) (tl : List Nat) (htl : tl = [] ∨ tl = [92]) : ∀ (n : Nat) (l ws : List Nat) (ln : Int), l.length ≤ n → OkT l → l.head? ≠ some 65 ∧ l.head? ≠ some 81 → (∀ c ∈ ws, isWs c = true) →
    ∃ l2, lexAll ((segs l).length + 2) (ws ++ (Bt k l ++ tl)) ln = (segs l ++ [[], []], [], l2) ∧ (segs l).filter (fun x => x ≠ []) = segs l
  | n, [], ws, ln, _, _, _, hw => by
    obtain ⟨l1, e1⟩ := tok_wss ws (Bt k [] ++ tl) ln hw
    have e : tok0 (ws ++ (Bt k [] ++ tl)) ln = ([], [], l1) := by
      rw [e1, Bt, List.nil_append]
      rcases htl with rfl | rfl
      · exact tok_nil
      · exact tok_last
    rw [segs_nil]
    refine ⟨l1, ?_, rfl⟩
    show lexAll (1 + 1) _ ln = _
    rw [lex_succ e, lex_nil]; rfl
  | 0, _ :: _, _, _, h, _, _, _ => by simp at h
  | n + 1, c :: l, ws, ln, h, ho, hh, hw => by
    have h1 : c ≠ 65 := fun e => hh.1 (by rw [e]; rfl)
    have h3 : c ≠ 81 := fun e => hh.2 (by rw [e]; rfl)
    have hne : c :: l ≠ [] := by simp
    obtain ⟨l0, e0⟩ := tok_wss ws (Bt k (c :: l) ++ tl) ln hw
    obtain ⟨l1, e1⟩ := tok_B (k := k) tl l0 ho h1 h3
    obtain ⟨l2, e2⟩ := bar_B hk (ha a (by rw [hk]; exact .head _)) tl htl [nmc c] l1 ho.2.2
    have e : tok0 (ws ++ (Bt k (c :: l) ++ tl)) ln = (sh (c :: l), (if 65 ∈ c :: l then k'.map sig ++ (Bt k (st (c :: l)) ++ tl) else []), l2) := by
      rw [e0, e1, e2, sh, st, if_neg h1, if_neg h1]
      simp only [mem_ne h1]; rfl
    rw [segs_cons hne]
    have hf : ∀ r : List (List Nat), r.filter (fun x => x ≠ []) = r → (sh (c :: l) :: r).filter (fun x => x ≠ []) = sh (c :: l) :: r := by
      intro r hr
      rw [List.filter_cons, if_pos (by simpa using sh_ne h1), hr]
    show ∃ l2, lexAll (((segs (st (c :: l))).length + 2) + 1) _ ln = _ ∧ _
    rw [lex_succ e]
    by_cases hm : 65 ∈ c :: l
    · rw [if_pos hm]
      obtain ⟨l3, e3, f3⟩ := lex_B hk ha tl htl n (st (c :: l)) (k'.map sig) l2 (by have := st_lt hne; (first | lia | omega)) (ok_st ho) (st_head ho hm) (ws_k fun x hx => ha x (by rw [hk]; exact .tail _ hx))
      refine ⟨l3, ?_, hf _ f3⟩
      rw [e3]; rfl
    · rw [if_neg hm, st_none hm, segs_nil, lex_nil]
      exact ⟨l2, rfl, hf _ rfl⟩
theorem en_head {k : List Nat} {a : Nat} {k' : List Nat} (hk : k = a :: k') (ha : a ≠ 81) {c : Nat} {l : List Nat} (h : c ≠ 81) : ¬ (en k (c :: l)).take 1 = [81] := by
  rw [en, if_neg h]
  unfold gd grd
  split
  · subst hk; intro e; exact ha (List.cons.inj e).1
  · split
    · intro e; exact absurd (List.cons.inj e).1 (by decide)
    · split
      · intro e; exact absurd (List.cons.inj e).1 (by decide)
      · intro e; exact h (List.cons.inj e).1
theorem bare_ok (row : List Nat) (h : ∀ c ∈ row, Lt c) : lexAll (((names (row.map sig)).filter (fun x => x ≠ [])).length + 2) ((bareR row).map sig) 1 = ((names (row.map sig)).filter (fun x => x ≠ []) ++ [[], []], [], (1 : Int) + ((((bareR row).map sig).count 10 : Nat) : Int)) := by
  have ho := tk_ok row h
  have ht : row.map sig = txt (tk row) := by rw [txt, tk_un row fun c hc e => by have := (h c hc).2; (first | lia | omega)]
  rw [ht, names_txt _ _ (Nat.le_refl _) ho]
  obtain ⟨a, b, d, w, hs, h1, h2, h3, h4⟩ := sep_mem (j := row.length % 4) (by (first | lia | omega))
  have hk : ∀ c ∈ sepk (row.length % 4), 67 ≤ c ∧ c ≤ 70 := by
    intro c hc
    rw [hs] at hc
    simp only [List.mem_cons, List.not_mem_nil, or_false] at hc
    (first | lia | omega)
  generalize htl : (List.replicate (row.length % 2) 66).map sig = tl
  have htl' : tl = [] ∨ tl = [92] := by
    have : row.length % 2 = 0 ∨ row.length % 2 = 1 := by (first | lia | omega)
    rcases this with e | e <;> rw [e] at htl <;> rw [← htl]
    · exact .inl rfl
    · exact .inr (by decide +kernel)
  have hB : (bareR row).map sig = (if (en (sepk (row.length % 4)) (tk row)).take 1 = [81] then [92] else []) ++ (Bt (sepk (row.length % 4)) (tk row) ++ tl) := by
    unfold bareR
    rw [ended_eq, List.map_append, List.map_append, htl, Bt_eq (fun c hc => by have := hk c hc; (first | lia | omega)), List.append_assoc]
    congr 1
    split
    · decide +kernel
    · rfl
  suffices hx : ∃ l2, lexAll (((segs (tk row)).filter (fun x => x ≠ [])).length + 2) ((bareR row).map sig) 1 = ((segs (tk row)).filter (fun x => x ≠ []) ++ [[], []], [], l2) by
    obtain ⟨l2, e2⟩ := hx
    have := lex_end (n := ((segs (tk row)).filter (fun x => x ≠ [])).length + 2) (xs := (bareR row).map sig) (ln := 1) (by rw [e2])
    rw [e2] at this ⊢
    rw [show l2 = _ from this]
  rw [hB]
  generalize sepk (row.length % 4) = k at hs hk ⊢
  generalize tk row = l at ho ⊢
  have h81 : a ≠ 81 := by (first | lia | omega)
  cases l with
  | nil =>
    obtain ⟨l2, e2, f2⟩ := lex_B hs hk tl htl' 0 [] [] 1 (Nat.le_refl _) ho (by simp) (by simp)
    rw [f2]
    refine ⟨l2, ?_⟩
    rw [if_neg (by rw [en]; simp)]; exact e2
  | cons c l =>
    by_cases hA : c = 65
    · subst hA
      rw [if_neg (en_head hs h81 (by decide)), segs_cons (by simp), sh, if_pos rfl, st, if_pos rfl]
      obtain ⟨l2, e2, f2⟩ := lex_B hs hk tl htl' l.length l (k.map sig) 1 (Nat.le_refl _) ho.2.2 (ho.2.1 rfl) (ws_k hk)
      rw [List.filter_cons, if_neg (by simp), f2]
      refine ⟨l2, ?_⟩
      rw [Bt, if_pos rfl, List.append_assoc]; exact e2
    · by_cases hQ : c = 81
      · subst hQ
        have e1 : (if (en k (81 :: l)).take 1 = [81] then [92] else []) ++ (Bt k (81 :: l) ++ tl) = 92 :: 34 :: (Bt k l ++ tl) := by
          by_cases h6 : l.head? = some 68
          · have e5 : en k (81 :: l) = [66, 65] ++ en k l := by rw [en, if_pos rfl, if_pos h6]
            have e7 : Bt k (81 :: l) = [92, 34] ++ Bt k l := by
              show (if (81 : Nat) = 65 then _ else if (81 : Nat) = 81 then (if l.head? = some 68 then [92, 34] else [34]) else _) ++ _ = _
              rw [if_neg (by decide), if_pos rfl, if_pos h6]
            rw [e5, e7, if_neg (by simp)]; rfl
          · have e5 : en k (81 :: l) = [81] ++ en k l := by rw [en, if_pos rfl, if_neg h6]
            have e7 : Bt k (81 :: l) = [34] ++ Bt k l := by
              show (if (81 : Nat) = 65 then _ else if (81 : Nat) = 81 then (if l.head? = some 68 then [92, 34] else [34]) else _) ++ _ = _
              rw [if_neg (by decide), if_pos rfl, if_neg h6]
            rw [e5, e7, if_pos (by simp)]; rfl
        rw [e1]
        have hne : (81 : Nat) :: l ≠ [] := by simp
        obtain ⟨l2, e2⟩ := bar_B hs h1 tl htl' [nmc 81] (nl 34 1) ho.2.2
        have e : tok0 (92 :: 34 :: (Bt k l ++ tl)) 1 = (sh (81 :: l), (if 65 ∈ l then [b, d, w].map sig ++ (Bt k (st l) ++ tl) else []), l2) := by
          rw [tok_esc]; exact e2
        rw [segs_cons hne]
        have hf : ∀ r : List (List Nat), r.filter (fun x => x ≠ []) = r → (sh (81 :: l) :: r).filter (fun x => x ≠ []) = sh (81 :: l) :: r := by
          intro r hr
          rw [List.filter_cons, if_pos (by simpa using sh_ne (by decide)), hr]
        have hst : st (81 :: l) = st l := by rw [st, if_neg (by decide)]
        rw [hst]
        by_cases hm : 65 ∈ l
        · obtain ⟨l3, e3, f3⟩ := lex_B hs hk tl htl' (st l).length (st l) ([b, d, w].map sig) l2 (Nat.le_refl _) (ok_st ho.2.2) (st_head ho.2.2 hm) (ws_k fun x hx => hk x (by rw [hs]; exact .tail _ hx))
          rw [hf _ f3]
          show ∃ l2, lexAll (((segs (st l)).length + 2) + 1) _ 1 = _
          rw [lex_succ e, if_pos hm, e3]
          exact ⟨l3, rfl⟩
        · rw [st_none hm, segs_nil, hf [] rfl]
          show ∃ l2, lexAll ((0 + 2) + 1) _ 1 = _
          rw [lex_succ e, if_neg hm, lex_nil]
          exact ⟨l2, rfl⟩
      · rw [if_neg (en_head hs h81 hQ)]
        obtain ⟨l2, e2, f2⟩ := lex_B hs hk tl htl' (c :: l).length (c :: l) [] 1 (Nat.le_refl _) ho ⟨fun x => hA (Option.some.inj x), fun x => hQ (Option.some.inj x)⟩ (by simp)
        rw [f2]
        exact ⟨l2, e2⟩

end
section
theorem startHk : True := by
  w_top off
  trivial
/-- a row as it is read behind a mark: BB (88), BA (89) -/
noncomputable def hk : List Nat → List Nat
  | [] => []
  | [c] => [c]
  | c :: d :: r => if c = 66 ∧ d = 66 then 88 :: hk r else if c = 66 ∧ d = 65 then 89 :: hk r else c :: hk (d :: r)
theorem hk_one (c : Nat) : hk [c] = [c] := by rw [hk]
theorem hk_BB (r : List Nat) : hk (66 :: 66 :: r) = 88 :: hk r := by rw [hk, if_pos ⟨rfl, rfl⟩]
theorem hk_BA (r : List Nat) : hk (66 :: 65 :: r) = 89 :: hk r := by rw [hk, if_neg (by decide), if_pos ⟨rfl, rfl⟩]
theorem hk_cons {c d : Nat} (r : List Nat) (h1 : ¬ (c = 66 ∧ d = 66)) (h2 : ¬ (c = 66 ∧ d = 65)) : hk (c :: d :: r) = c :: hk (d :: r) := by rw [hk, if_neg h1, if_neg h2]
theorem rep_BB (r : List Nat) : rep [66, 66] [88] (66 :: 66 :: r) = 88 :: rep [66, 66] [88] r := rep_hit (y := [66, 66]) (z := [88]) (by simp) r
theorem rep_BB' {c : Nat} (l : List Nat) (h : c = 66 → l.head? ≠ some 66) : rep [66, 66] [88] (c :: l) = c :: rep [66, 66] [88] l := rep_miss fun hp => h (pre2 hp).1 (pre2 hp).2
theorem rep_BA (r : List Nat) : rep [66, 65] [89] (66 :: 65 :: r) = 89 :: rep [66, 65] [89] r := rep_hit (y := [66, 65]) (z := [89]) (by simp) r
theorem rep_BA' {c : Nat} (l : List Nat) (h : c = 66 → l.head? ≠ some 65) : rep [66, 65] [89] (c :: l) = c :: rep [66, 65] [89] l := rep_miss fun hp => h (pre2 hp).1 (pre2 hp).2
theorem repBB_head {d : Nat} (r : List Nat) (h : d ≠ 66) : rep [66, 66] [88] (d :: r) = d :: rep [66, 66] [88] r := rep_BB' r fun e => absurd e h
theorem hidden_eq (r : List Nat) : rep [66, 65] [89] (rep [66, 66] [88] r) = hk r := by
  fun_induction hk r with
  | case1 => rw [rep_nil, rep_nil]
  | case2 c => rw [rep_BB' [] (by simp), rep_nil, rep_BA' [] (by simp), rep_nil]
  | case3 c d r hc ih =>
    obtain ⟨rfl, rfl⟩ := hc
    rw [rep_BB, rep_BA' _ (by simp), ih]
  | case4 c d r h1 hc ih =>
    obtain ⟨rfl, rfl⟩ := hc
    rw [rep_BB' _ (by simp), repBB_head _ (by decide), rep_BA, ih]
  | case5 c d r h1 h2 ih =>
    rw [rep_BB' _ (fun e => by intro x; exact h1 ⟨e, Option.some.inj x⟩), rep_BA' _ (fun e => ?_), ih]
    subst e
    rw [repBB_head _ (fun x => h1 ⟨rfl, x⟩)]
    intro x
    exact h2 ⟨rfl, Option.some.inj x⟩
/-- written out again -/
noncomputable def unH (c : Nat) : List Nat := if c = 88 then [66, 66] else if c = 89 then [66, 65] else [c]
theorem hk_un (r : List Nat) (h : ∀ c ∈ r, Lt c) : (hk r).flatMap unH = r := by
  have one : ∀ c, Lt c → unH c = [c] := fun c h => by
    have := h.2
    unfold unH
    rw [if_neg (by (first | lia | omega)), if_neg (by (first | lia | omega))]
  fun_induction hk r with
  | case1 => rfl
  | case2 c => rw [List.flatMap_cons, one c (h c (.head _))]; rfl
  | case3 c d r hc ih =>
    obtain ⟨rfl, rfl⟩ := hc
    rw [List.flatMap_cons, ih fun x hx => h x (.tail _ (.tail _ hx))]; rfl
  | case4 c d r h1 hc ih =>
    obtain ⟨rfl, rfl⟩ := hc
    rw [List.flatMap_cons, ih fun x hx => h x (.tail _ (.tail _ hx))]; rfl
  | case5 c d r h1 h2 ih => rw [List.flatMap_cons, ih fun x hx => h x (.tail _ hx), one c (h c (.head _))]; rfl
/-- up to the first A, and behind it -/
noncomputable def fro : List Nat → List Nat
  | [] => []
  | c :: l => if c = 65 then [] else c :: fro l
noncomputable def beh : List Nat → List Nat
  | [] => []
  | c :: l => if c = 65 then l else beh l
theorem fro_beh : ∀ {l : List Nat}, 65 ∈ l → l = fro l ++ 65 :: beh l
  | [], h => by cases h
  | c :: l, h => by
    rw [fro, beh]
    by_cases h1 : c = 65
    · subst h1; rw [if_pos rfl, if_pos rfl]; rfl
    · rw [if_neg h1, if_neg h1, List.cons_append, ← fro_beh ((mem_ne h1).mp h)]
theorem fro_no : ∀ (l : List Nat), 65 ∉ fro l
  | [] => by simp [fro]
  | c :: l => by
    rw [fro]
    split
    · simp
    · rename_i h1
      rw [mem_ne h1]; exact fro_no l
/-- what a reader makes of it -/
noncomputable def li (c : Nat) : List Nat := if c = 66 then [] else if c = 88 then [92] else if c = 89 then [34] else [sig c]
theorem nl92 (ln : Int) : nl 92 ln = ln := rfl
theorem nl34 (ln : Int) : nl 34 ln = ln := rfl
theorem quo_hk (r : List Nat) (h : ∀ c ∈ r, Lt c) (hm : 65 ∈ hk r) (acc : List Nat) (ln : Int) :
    (∃ l2, quoted acc (r.map sig) ln = (acc ++ (fro (hk r)).flatMap li, ((beh (hk r)).flatMap unH).map sig, l2)) ∧
    (∃ l2, quoted acc (((fro (hk r)).flatMap unH).map sig ++ [92]) ln = (acc ++ (fro (hk r)).flatMap li, [], l2)) := by
  induction hn : r.length using Nat.strongRecOn generalizing r acc ln with
  | _ n ih =>
    subst hn
    cases r with
    | nil => cases hm
    | cons c r =>
      cases r with
      | nil =>
        rw [hk_one] at hm ⊢
        have hc : c = 65 := (List.mem_singleton.mp hm).symm
        subst hc
        rw [show fro [65] = [] from rfl, show beh [65] = [] from rfl, List.flatMap_nil, List.flatMap_nil, List.append_nil, List.map_cons, sig65]
        exact ⟨⟨ln, quo_stop⟩, ⟨ln, quo_last⟩⟩
      | cons d r =>
        by_cases h1 : c = 66 ∧ d = 66
        · obtain ⟨rfl, rfl⟩ := h1
          rw [hk_BB] at hm ⊢
          rw [fro, beh, if_neg (by decide), if_neg (by decide)]
          obtain ⟨⟨a, ea⟩, ⟨b, eb⟩⟩ := ih r.length (by simp only [List.length_cons]; (first | lia | omega)) r (fun x hx => h x (.tail _ (.tail _ hx))) ((mem_ne (by decide)).mp hm) (acc ++ [92]) ln rfl
          refine ⟨⟨a, ?_⟩, ⟨b, ?_⟩⟩
          · rw [List.map_cons, List.map_cons, sig66, quo_esc, nl92, ea, List.append_assoc]; rfl
          · rw [List.flatMap_cons, List.map_append, List.append_assoc, show (unH 88).map sig = [92, 92] by decide +kernel]
            show quoted acc (92 :: 92 :: (((fro (hk r)).flatMap unH).map sig ++ [92])) ln = _
            rw [quo_esc, nl92, eb, List.append_assoc]; rfl
        · by_cases h2 : c = 66 ∧ d = 65
          · obtain ⟨rfl, rfl⟩ := h2
            rw [hk_BA] at hm ⊢
            rw [fro, beh, if_neg (by decide), if_neg (by decide)]
            obtain ⟨⟨a, ea⟩, ⟨b, eb⟩⟩ := ih r.length (by simp only [List.length_cons]; (first | lia | omega)) r (fun x hx => h x (.tail _ (.tail _ hx))) ((mem_ne (by decide)).mp hm) (acc ++ [34]) ln rfl
            refine ⟨⟨a, ?_⟩, ⟨b, ?_⟩⟩
            · rw [List.map_cons, List.map_cons, sig66, sig65, quo_esc, nl34, ea, List.append_assoc]; rfl
            · rw [List.flatMap_cons, List.map_append, List.append_assoc, show (unH 89).map sig = [92, 34] by decide +kernel]
              show quoted acc (92 :: 34 :: (((fro (hk r)).flatMap unH).map sig ++ [92])) ln = _
              rw [quo_esc, nl34, eb, List.append_assoc]; rfl
          · rw [hk_cons r h1 h2] at hm ⊢
            have hlc := h c (.head _)
            have hld := h d (.tail _ (.head _))
            by_cases h3 : c = 65
            · subst h3
              rw [fro, beh, if_pos rfl, if_pos rfl, List.flatMap_nil, List.append_nil, List.flatMap_nil, List.map_cons, sig65, hk_un _ fun x hx => h x (.tail _ hx)]
              exact ⟨⟨ln, quo_stop⟩, ⟨ln, quo_last⟩⟩
            · rw [fro, beh, if_neg h3, if_neg h3]
              have hu : unH c = [c] := by
                have := hlc.2
                unfold unH; rw [if_neg (by (first | lia | omega)), if_neg (by (first | lia | omega))]
              have e1 : (c :: d :: r).map sig = sig c :: (d :: r).map sig := rfl
              have e2 : ((c :: fro (hk (d :: r))).flatMap unH).map sig ++ [92] = sig c :: (((fro (hk (d :: r))).flatMap unH).map sig ++ [92]) := by rw [List.flatMap_cons, hu]; rfl
              have e3 : (c :: fro (hk (d :: r))).flatMap li = li c ++ (fro (hk (d :: r))).flatMap li := List.flatMap_cons
              rw [e1, e2, e3]
              by_cases h4 : c = 66
              · subst h4
                have d6 : d ≠ 66 := fun x => h1 ⟨rfl, x⟩
                have d5 : d ≠ 65 := fun x => h2 ⟨rfl, x⟩
                obtain ⟨⟨a, ea⟩, ⟨b, eb⟩⟩ := ih (d :: r).length (by simp) (d :: r) (fun x hx => h x (.tail _ hx)) ((mem_ne (by decide)).mp hm) acc ln rfl
                have hd : ∀ rest, quoted acc (92 :: sig d :: rest) ln = quoted acc (sig d :: rest) ln := fun rest => by
                  rw [quo_esc, quo_lit (fun x => d5 ((sig34 hld).mp x)) (fun x => d6 ((sig92 hld).mp x))]
                have hh : ∃ f, ((fro (hk (d :: r))).flatMap unH).map sig = sig d :: f := by
                  have : ∃ t, hk (d :: r) = d :: t := by
                    cases r with
                    | nil => exact ⟨[], hk_one d⟩
                    | cons e r => exact ⟨_, hk_cons r (fun x => d6 x.1) (fun x => d6 x.1)⟩
                  obtain ⟨t, et⟩ := this
                  have hud : unH d = [d] := by
                    have := hld.2
                    unfold unH; rw [if_neg (by (first | lia | omega)), if_neg (by (first | lia | omega))]
                  rw [et, fro, if_neg d5, List.flatMap_cons, hud]
                  exact ⟨_, rfl⟩
                obtain ⟨f, ef⟩ := hh
                rw [sig66]
                refine ⟨⟨a, ?_⟩, ⟨b, ?_⟩⟩
                · rw [List.map_cons, hd, ← List.map_cons, ea]; rfl
                · rw [ef] at eb ⊢
                  rw [List.cons_append, hd, ← List.cons_append, eb]; rfl
              · obtain ⟨⟨a, ea⟩, ⟨b, eb⟩⟩ := ih (d :: r).length (by simp) (d :: r) (fun x hx => h x (.tail _ hx)) ((mem_ne h3).mp hm) (acc ++ [sig c]) (nl (sig c) ln) rfl
                have hli : li c = [sig c] := by
                  have := hlc.2
                  unfold li; rw [if_neg h4, if_neg (by (first | lia | omega)), if_neg (by (first | lia | omega))]
                rw [hli]
                refine ⟨⟨a, ?_⟩, ⟨b, ?_⟩⟩
                · rw [quo_lit (fun x => h3 ((sig34 hlc).mp x)) (fun x => h4 ((sig92 hlc).mp x)), ea, List.append_assoc]
                · rw [quo_lit (fun x => h3 ((sig34 hlc).mp x)) (fun x => h4 ((sig92 hlc).mp x)), eb, List.append_assoc]
/-- the "back" row, and the one behind it -/
noncomputable def backR (l : List Nat) : List Nat := rep [89] [65, 65] (rep [88] [66] (rep [66] [] l))
noncomputable def behR (l : List Nat) : List Nat := rep [89] [66, 65] (rep [88] [66, 66] l)
theorem behR_eq (l : List Nat) : behR l = l.flatMap unH := by
  unfold behR
  rw [rep_one, rep_one, List.flatMap_assoc]
  refine flat_cong fun c _ => ?_
  unfold sub unH
  by_cases h1 : c = 88
  · subst h1; rfl
  · rw [if_neg h1, if_neg h1, List.flatMap_cons, List.flatMap_nil, List.append_nil]
noncomputable def bk (c : Nat) : List Nat := if c = 66 then [] else if c = 88 then [66] else if c = 89 then [65, 65] else [c]
theorem backR_eq (l : List Nat) : backR l = l.flatMap bk := by
  unfold backR
  rw [rep_one, rep_one, rep_one, List.flatMap_assoc, List.flatMap_assoc]
  refine flat_cong fun c _ => ?_
  unfold sub bk
  by_cases h1 : c = 66
  · subst h1; rfl
  · rw [if_neg h1, if_neg h1]
    by_cases h2 : c = 88
    · subst h2; rfl
    · rw [if_neg h2]
      by_cases h3 : c = 89
      · subst h3; rfl
      · rw [if_neg h3]; simp [h2, h3]
theorem unq_back : ∀ (l : List Nat), (∀ c ∈ l, c ≠ 65 ∧ (Lt c ∨ c = 88 ∨ c = 89)) → unq ((l.flatMap bk).map sig ++ [34]) = l.flatMap li
  | [], _ => unq_end
  | c :: l, h => by
    have ih := unq_back l fun x hx => h x (.tail _ hx)
    rw [List.flatMap_cons, List.flatMap_cons, List.map_append, List.append_assoc, ← ih]
    unfold bk li
    by_cases h1 : c = 66
    · rw [if_pos h1, if_pos h1]; rfl
    · rw [if_neg h1, if_neg h1]
      by_cases h2 : c = 88
      · rw [if_pos h2, if_pos h2, show ([66] : List Nat).map sig = [92] by decide +kernel]
        exact unq_cons _ (by decide)
      · rw [if_neg h2, if_neg h2]
        by_cases h3 : c = 89
        · rw [if_pos h3, if_pos h3, show ([65, 65] : List Nat).map sig = [34, 34] by decide +kernel]
          exact unq_two _
        · rw [if_neg h3, if_neg h3]
          obtain ⟨h5, hl⟩ := h c (.head _)
          have hlt : Lt c := hl.resolve_right fun x => x.elim h2 h3
          exact unq_cons _ fun x => h5 ((sig34 hlt).mp x)
theorem hk_mem (r : List Nat) (h : ∀ c ∈ r, Lt c) : ∀ c ∈ hk r, Lt c ∨ c = 88 ∨ c = 89 := by
  fun_induction hk r with
  | case1 => intro c hc; cases hc
  | case2 c => intro x hx; rw [List.mem_singleton.mp hx]; exact .inl (h c (.head _))
  | case3 c d r hc ih =>
    intro x hx
    rcases List.mem_cons.mp hx with rfl | hx
    · exact .inr (.inl rfl)
    · exact ih (fun y hy => h y (.tail _ (.tail _ hy))) x hx
  | case4 c d r h1 hc ih =>
    intro x hx
    rcases List.mem_cons.mp hx with rfl | hx
    · exact .inr (.inr rfl)
    · exact ih (fun y hy => h y (.tail _ (.tail _ hy))) x hx
  | case5 c d r h1 h2 ih =>
    intro x hx
    rcases List.mem_cons.mp hx with rfl | hx
    · exact .inl (h _ (.head _))
    · exact ih (fun y hy => h y (.tail _ hy)) x hx
theorem fro_sub : ∀ (l : List Nat), ∀ c ∈ fro l, c ∈ l
  | [], c, h => by cases h
  | d :: l, c, h => by
    rw [fro] at h
    split at h
    · cases h
    · rcases List.mem_cons.mp h with rfl | h
      · exact .head _
      · exact .tail _ (fro_sub l c h)
/-- the tokens of the middle part stand by themselves -/
theorem hk_app : ∀ (n : Nat) (p : List Nat) (d : Nat) (r : List Nat), p.length ≤ n → d ≠ 65 → d ≠ 66 → ∃ q, hk (p ++ d :: r) = q ++ d :: hk r := by
  have one : ∀ (d : Nat) (r : List Nat), d ≠ 66 → hk (d :: r) = d :: hk r := by
    intro d r hd
    cases r with
    | nil => rw [hk_one]; rfl
    | cons e r => exact hk_cons r (fun x => hd x.1) (fun x => hd x.1)
  intro n
  induction n with
  | zero =>
    intro p d r hp h5 h6
    have : p = [] := List.eq_nil_of_length_eq_zero (by (first | lia | omega))
    subst this
    exact ⟨[], one d r h6⟩
  | succ n ih =>
    intro p d r hp h5 h6
    cases p with
    | nil => exact ⟨[], one d r h6⟩
    | cons c p =>
      cases p with
      | nil =>
        refine ⟨[c], ?_⟩
        show hk (c :: d :: r) = _
        rw [hk_cons r (fun x => h6 x.2) (fun x => h5 x.2), one d r h6]; rfl
      | cons e p =>
        show ∃ q, hk (c :: e :: (p ++ d :: r)) = _
        by_cases h1 : c = 66 ∧ e = 66
        · obtain ⟨rfl, rfl⟩ := h1
          obtain ⟨q, eq⟩ := ih p d r (by simp only [List.length_cons] at hp; (first | lia | omega)) h5 h6
          rw [hk_BB, eq]
          exact ⟨88 :: q, rfl⟩
        · by_cases h2 : c = 66 ∧ e = 65
          · obtain ⟨rfl, rfl⟩ := h2
            obtain ⟨q, eq⟩ := ih p d r (by simp only [List.length_cons] at hp; (first | lia | omega)) h5 h6
            rw [hk_BA, eq]
            exact ⟨89 :: q, rfl⟩
          · obtain ⟨q, eq⟩ := ih (e :: p) d r (by simp only [List.length_cons] at hp ⊢; (first | lia | omega)) h5 h6
            rw [hk_cons _ h1 h2]
            rw [List.cons_append] at eq
            rw [eq]
            exact ⟨c :: q, rfl⟩
noncomputable def midR : List Nat := [74, 66, 65, 73, 66, 66, 65, 65, 67, 65, 65, 68, 66, 65, 65]
theorem hk_mid (p r : List Nat) : 65 ∈ hk (p ++ midR ++ r) := by
  have e : p ++ midR ++ r = p ++ 74 :: (66 :: 65 :: 73 :: 66 :: 66 :: 65 :: 65 :: 67 :: 65 :: 65 :: 68 :: 66 :: 65 :: 65 :: r) := by
    rw [List.append_assoc]; rfl
  obtain ⟨q, eq⟩ := hk_app p.length p 74 (66 :: 65 :: 73 :: 66 :: 66 :: 65 :: 65 :: 67 :: 65 :: 65 :: 68 :: 66 :: 65 :: 65 :: r) (Nat.le_refl _) (by decide) (by decide)
  rw [e, eq, hk_BA, hk_cons _ (by decide) (by decide), hk_BB, hk_cons _ (by decide) (by decide)]
  simp
/-- what the law asks at its end; front and behind are the parts of the hidden row -/
theorem back_ok (row : List Nat) (h : ∀ c ∈ row, Lt c) (hm : 65 ∈ hk row) :
    row.map sig = ((fro (hk row)).flatMap unH).map sig ++ 34 :: ((behR (beh (hk row))).map sig) ∧
    (∃ l2, tok0 (34 :: row.map sig) 1 = (unq ((backR (fro (hk row))).map sig ++ [34]), (behR (beh (hk row))).map sig, l2)) ∧
    (∃ l2, tok0 (34 :: (((fro (hk row)).flatMap unH).map sig ++ [92])) 1 = (unq ((backR (fro (hk row))).map sig ++ [34]), [], l2)) := by
  rw [behR_eq, backR_eq, unq_back _ fun c hc => ⟨fun e => fro_no _ (e ▸ hc), hk_mem row h c (fro_sub _ c hc)⟩, tok_quo, tok_quo]
  obtain ⟨⟨a, ea⟩, ⟨b, eb⟩⟩ := quo_hk row h hm [] 1
  refine ⟨?_, ⟨a, ea⟩, ⟨b, eb⟩⟩
  have h1 := hk_un row h
  have h2 := fro_beh hm
  rw [h2, List.flatMap_append, List.flatMap_cons] at h1
  have h3 := congrArg (List.map sig) h1
  rw [List.map_append, List.map_append, show (unH 65).map sig = [34] by decide +kernel] at h3
  exact h3.symm
theorem back_lines (row : List Nat) (h : ∀ c ∈ row, Lt c) (hm : 65 ∈ hk row) :
    (tok0 (34 :: row.map sig) 1).2.2 = (1 : Int) + ((((fro (hk row)).flatMap unH).map sig).count 10 : Nat) := by
  obtain ⟨h1, ⟨a, ea⟩, _⟩ := back_ok row h hm
  have := tok_lines (34 :: row.map sig) 1
  rw [ea] at this ⊢
  dsimp only at this ⊢
  rw [List.count_cons, if_neg (by decide), h1, List.count_append, List.count_cons, if_neg (by decide)] at this
  (first | lia | omega)

end
section
theorem startExch : True := by
  w_top off
  trivial
local macro_rules | `(tactic| walk_at "zz none") => `(tactic| fail "zz none")
theorem find_is {L : List Nat} {c : Nat} {p r : List Nat} (e : L = p ++ c :: r) (h : c ∉ p) : Txt.find (tx L) (tx [c]) = (p.length : Int) := by
  have here : [c] <+: L.drop p.length := by rw [e, List.drop_left]; exact ⟨r, rfl⟩
  have hlen : p.length + 1 ≤ L.length := by rw [e]; simp
  rcases find_whole (tx L) (tx [c]) with ⟨_, hn⟩ | ⟨i, hi, ha, hk⟩
  · exact absurd ((at_iff L [c] p.length).mpr ⟨hlen, here⟩) (hn _)
  · rw [hi]
    have h1 : ¬ p.length < i := fun hlt => hk _ hlt ((at_iff L [c] p.length).mpr ⟨hlen, here⟩)
    have h2 : ¬ i < p.length := fun hlt => by
      obtain ⟨t, ht⟩ := ((at_iff L [c] i).mp ha).2
      have h3 : L[i]? = some c := by
        have : (L.drop i)[0]? = some c := by rw [← ht]; rfl
        rw [List.getElem?_drop] at this
        exact this
      rw [e, List.getElem?_append_left hlt] at h3
      exact h (List.mem_of_getElem? h3)
    congr 1; (first | lia | omega)
theorem sliceIdx_both_neg (len : Nat) {i j : Int} (h : j < 0) : Builtin.Str.strSliceIndices (some i) (some j) 1 len = Builtin.Str.strSliceIndices (some i) (some (max 0 ((len : Int) + j))) 1 len := by
  have a3 : ¬ (max 0 ((len : Int) + j) < 0) := by (first | lia | omega)
  have e : max (0 : Int) (min (j + len) (len : Int)) = max 0 (min (max 0 ((len : Int) + j)) (len : Int)) := by (first | lia | omega)
  simp [Builtin.Str.strSliceIndices, h, a3, e]
theorem sl_back (l : List Nat) (i : Nat) (h : i + 1 ≤ l.length) : Txt.slice (tx l) (some (i : Int)) (some (-1)) = tx ((l.drop i).take (l.length - 1 - i)) := by
  have e : Txt.slice (tx l) (some (i : Int)) (some (-1)) = Txt.slice (tx l) (some (i : Int)) (some ((l.length - 1 : Nat) : Int)) := by
    show StrLaws.sliceText (tx l) (some (i : Int)) (some (-1)) = StrLaws.sliceText (tx l) (some (i : Int)) (some ((l.length - 1 : Nat) : Int))
    unfold StrLaws.sliceText
    rw [sliceIdx_both_neg _ (by decide), tx_len]
    rw [show max 0 ((l.length : Int) + -1) = ((l.length - 1 : Nat) : Int) by (first | lia | omega)]
  rw [e, sl_ij l i (l.length - 1) (by (first | lia | omega)) (by (first | lia | omega))]
noncomputable def hidR (l : List Nat) : List Nat := rep [66, 65] [89] (rep [66, 66] [88] l) ++ [65]
theorem hid_split {l : List Nat} (hm : 65 ∈ hk l) : hidR l = fro (hk l) ++ 65 :: (beh (hk l) ++ [65]) := by
  unfold hidR
  rw [hidden_eq]
  have := congrArg (· ++ [65]) (fro_beh hm)
  simp only [List.append_assoc, List.cons_append] at this
  exact this
theorem hid_find {l : List Nat} (hm : 65 ∈ hk l) : Txt.find (tx (hidR l)) (tx [65]) = ((fro (hk l)).length : Int) := find_is (hid_split hm) (fro_no _)
theorem hid_front {l : List Nat} (hm : 65 ∈ hk l) : Txt.slice (tx (hidR l)) none (some ((fro (hk l)).length : Int)) = tx (fro (hk l)) := by
  rw [sl_to, hid_split hm, List.take_left]
theorem hid_behind {l : List Nat} (hm : 65 ∈ hk l) : Txt.slice (tx (hidR l)) (some ((fro (hk l)).length + 1 : Int)) (some (-1)) = tx (beh (hk l)) := by
  have hl : (hidR l).length = (fro (hk l)).length + (beh (hk l)).length + 2 := by rw [hid_split hm]; simp; (first | lia | omega)
  have e : ((fro (hk l)).length : Int) + 1 = (((fro (hk l)).length + 1 : Nat) : Int) := by (first | lia | omega)
  rw [e, sl_back _ _ (by (first | lia | omega))]
  congr 2
  rw [hl, hid_split hm]
  rw [show fro (hk l) ++ 65 :: (beh (hk l) ++ [65]) = (fro (hk l) ++ [65]) ++ (beh (hk l) ++ [65]) by simp]
  rw [List.drop_left' (by simp), List.take_left' (by (first | lia | omega))]
theorem sep_is (n : Nat) : Txt.slice (Txt.slice (Str.ofString "CDEFCDE") (some ((n % 4 : Nat) : Int)) none) none (some 4) = tx (sepk (n % 4)) := by
  rw [show Str.ofString "CDEFCDE" = tx [67, 68, 69, 70, 67, 68, 69] by decide +kernel, sl_from]
  exact sl_to _ 4
theorem fro_le : ∀ l : List Nat, (fro l).length + (beh l).length ≤ l.length
  | [] => by simp [fro, beh]
  | c :: l => by
    rw [fro, beh]
    split
    · simp
    · have := fro_le l; simp only [List.length_cons]; (first | lia | omega)
theorem hk_len (l : List Nat) : (hk l).length ≤ l.length := by
  fun_induction hk l with
  | case1 => exact Nat.le_refl _
  | case2 => exact Nat.le_refl _
  | case3 => rename_i ih; simp only [List.length_cons]; (first | lia | omega)
  | case4 => rename_i ih; simp only [List.length_cons]; (first | lia | omega)
  | case5 => rename_i ih; simp only [List.length_cons] at ih ⊢; (first | lia | omega)
/-- the five rows -/
noncomputable def exch (l : List Nat) : List (List Nat) := [l, markedR l, bareR l, backR (fro (hk l)), behR (beh (hk l))]

end
section
theorem startExchL : True := by
  w_top off
  trivial
theorem flat_len {f : Nat → List Nat} {k : Nat} (h : ∀ c, (f c).length ≤ k) : ∀ l : List Nat, (l.flatMap f).length ≤ k * l.length
  | [] => Nat.zero_le _
  | c :: l => by
    rw [List.flatMap_cons, List.length_append, List.length_cons, Nat.mul_succ]
    have := h c
    have := flat_len h l
    (first | lia | omega)
theorem tk_len : ∀ (n : Nat) (l : List Nat), l.length ≤ n → (tk l).length ≤ l.length
  | _, [], _ => Nat.le_refl _
  | _, [_], _ => Nat.le_refl _
  | 0, _ :: _ :: _, h => by simp at h
  | n + 1, c :: d :: r, h => by
    simp only [List.length_cons] at h
    rw [tk]
    split
    · have := tk_len n r (by (first | lia | omega))
      simp only [List.length_cons]; (first | lia | omega)
    · have := tk_len n (d :: r) (by simp only [List.length_cons]; (first | lia | omega))
      simp only [List.length_cons] at this ⊢; (first | lia | omega)
theorem tk_mem : ∀ (n : Nat) (l : List Nat), l.length ≤ n → ∀ c ∈ tk l, c ∈ l ∨ c = 81
  | _, [], _, _, h => nomatch h
  | _, [_], _, _, h => .inl h
  | 0, _ :: _ :: _, h, _, _ => by simp at h
  | n + 1, a :: d :: r, h, c, hc => by
    simp only [List.length_cons] at h
    rw [tk] at hc
    split at hc
    · rcases List.mem_cons.mp hc with e | hc
      · exact .inr e
      · rcases tk_mem n r (by (first | lia | omega)) c hc with h | h
        · exact .inl (.tail _ (.tail _ h))
        · exact .inr h
    · rcases List.mem_cons.mp hc with e | hc
      · exact .inl (e ▸ .head _)
      · rcases tk_mem n (d :: r) (by simp only [List.length_cons]; (first | lia | omega)) c hc with h | h
        · exact .inl (.tail _ h)
        · exact .inr h
theorem mkd_len (c : Nat) : (mkd c).length ≤ 3 := by unfold mkd; split <;> (try split) <;> (try split) <;> simp
theorem bk_len (c : Nat) : (bk c).length ≤ 2 := by unfold bk; split <;> (try split) <;> (try split) <;> simp
theorem unH_len (c : Nat) : (unH c).length ≤ 2 := by unfold unH; split <;> (try split) <;> simp
theorem gd_len {j : Nat} (h : j < 4) (c : Nat) : (gd (sepk j) c).length ≤ 4 := by
  obtain ⟨a, b, d, e, ek, _⟩ := sep_mem h
  unfold gd grd
  rw [ek]
  split <;> (try split) <;> (try split) <;> simp
theorem en_len {j : Nat} (h : j < 4) : ∀ l : List Nat, (en (sepk j) l).length ≤ 4 * l.length
  | [] => Nat.zero_le _
  | c :: r => by
    rw [en, List.length_append, List.length_cons, Nat.mul_succ]
    have h1 := gd_len h c
    have h2 := en_len h r
    have h3 : (if c = 81 then (if r.head? = some 68 then [66, 65] else [81]) else gd (sepk j) c).length ≤ 4 := by
      split
      · split <;> simp
      · exact h1
    (first | lia | omega)
theorem exch_len {l : List Nat} (hz : l.length ≤ 27) : ∀ x ∈ exch l, x.length ≤ 400 := by
  have ht := tk_len _ l (Nat.le_refl _)
  have hh := hk_len l
  have hf := fro_le (hk l)
  intro x hx
  unfold exch at hx
  rcases List.mem_cons.mp hx with rfl | hx
  · (first | lia | omega)
  rcases List.mem_cons.mp hx with rfl | hx
  · rw [markedR_eq, List.length_cons]
    have := flat_len mkd_len (tk l)
    (first | lia | omega)
  rcases List.mem_cons.mp hx with rfl | hx
  · unfold bareR
    rw [ended_eq, List.length_append, List.length_append, List.length_replicate]
    have h1 := en_len (Nat.mod_lt l.length (by decide)) (tk l)
    have h2 := rep_len (Y := [81]) (Z := [65]) (k := 1) (by decide) (by decide) (en (sepk (l.length % 4)) (tk l))
    have h3 : ((if (en (sepk (l.length % 4)) (tk l)).take 1 = [81] then [66] else []) : List Nat).length ≤ 1 := by split <;> simp
    (first | lia | omega)
  rcases List.mem_cons.mp hx with rfl | hx
  · rw [backR_eq]
    have := flat_len bk_len (fro (hk l))
    (first | lia | omega)
  · rw [List.mem_singleton.mp hx, behR_eq]
    have := flat_len unH_len (beh (hk l))
    (first | lia | omega)
theorem beh_sub : ∀ (l : List Nat), ∀ c ∈ beh l, c ∈ l
  | [], _, h => nomatch h
  | a :: l, c, h => by
    rw [beh] at h
    split at h
    · exact .tail _ h
    · exact .tail _ (beh_sub l c h)
theorem lt65 : Lt 65 := ⟨by decide, by decide⟩
theorem lt66 : Lt 66 := ⟨by decide, by decide⟩
theorem lt67 : Lt 67 := ⟨by decide, by decide⟩
theorem exch_lt {l : List Nat} (hl : ∀ c ∈ l, Lt c) : ∀ x ∈ exch l, ∀ c ∈ x, Lt c := by
  have ht : ∀ c ∈ tk l, c ≠ 81 → Lt c := fun c hc h => by
    rcases tk_mem _ l (Nat.le_refl _) c hc with h1 | h1
    · exact hl c h1
    · exact absurd h1 h
  have hh := hk_mem l hl
  intro x hx
  unfold exch at hx
  rcases List.mem_cons.mp hx with rfl | hx
  · exact hl
  rcases List.mem_cons.mp hx with rfl | hx
  · intro c hc
    rw [markedR_eq] at hc
    rcases List.mem_cons.mp hc with rfl | hc
    · exact lt65
    obtain ⟨d, hd, hc⟩ := List.mem_flatMap.mp hc
    unfold mkd at hc
    split at hc
    · rcases List.mem_cons.mp hc with rfl | hc
      · exact lt65
      rcases List.mem_cons.mp hc with rfl | hc
      · exact lt67
      · rw [List.mem_singleton.mp hc]; exact lt65
    split at hc
    · rcases List.mem_cons.mp hc with rfl | hc
      · exact lt66
      · rw [List.mem_singleton.mp hc]; exact lt66
    split at hc
    · rcases List.mem_cons.mp hc with rfl | hc
      · exact lt66
      · rw [List.mem_singleton.mp hc]; exact lt65
    · rw [List.mem_singleton.mp hc]; exact ht d hd (by assumption)
  rcases List.mem_cons.mp hx with rfl | hx
  · intro c hc
    obtain ⟨a, b, d, e, ek, ha, hb, hd, he⟩ := sep_mem (Nat.mod_lt l.length (by decide) : l.length % 4 < 4)
    have hen : ∀ (r : List Nat), (∀ c ∈ r, c ≠ 81 → Lt c) → ∀ c ∈ en (sepk (l.length % 4)) r, c ≠ 81 → Lt c := by
      intro r
      induction r with
      | nil => intro _ c hc; rw [en] at hc; cases hc
      | cons y r ih =>
        intro hr c hc h81
        rw [en] at hc
        rcases List.mem_append.mp hc with hc | hc
        · split at hc
          · split at hc
            · rcases List.mem_cons.mp hc with rfl | hc
              · exact lt66
              · rw [List.mem_singleton.mp hc]; exact lt65
            · exact absurd (List.mem_singleton.mp hc) h81
          · have hy := hr y (.head _) (by assumption)
            unfold gd grd at hc
            rw [ek] at hc
            split at hc
            · have hk4 : c = a ∨ c = b ∨ c = d ∨ c = e := by simpa using hc
              unfold Lt
              (first | lia | omega)
            split at hc
            · have : c = 66 := by simpa using hc
              rw [this]; exact lt66
            split at hc
            · rcases List.mem_cons.mp hc with rfl | hc
              · exact lt66
              · rw [List.mem_singleton.mp hc]; exact hy
            · rw [List.mem_singleton.mp hc]; exact hy
        · exact ih (fun c hc => hr c (.tail _ hc)) c hc h81
    unfold bareR at hc
    rw [ended_eq, rep_one] at hc
    rcases List.mem_append.mp hc with hc | hc
    · rcases List.mem_append.mp hc with hc | hc
      · split at hc
        · rw [List.mem_singleton.mp hc]; exact lt66
        · cases hc
      · obtain ⟨y, hy, hc⟩ := List.mem_flatMap.mp hc
        unfold sub at hc
        split at hc
        · rw [List.mem_singleton.mp hc]; exact lt65
        · rw [List.mem_singleton.mp hc]; exact hen _ ht y hy (by assumption)
    · rw [List.eq_of_mem_replicate hc]; exact lt66
  rcases List.mem_cons.mp hx with rfl | hx
  · intro c hc
    rw [backR_eq] at hc
    obtain ⟨d, hd, hc⟩ := List.mem_flatMap.mp hc
    have h1 := hh d (fro_sub _ d hd)
    unfold bk at hc
    split at hc
    · cases hc
    split at hc
    · rw [List.mem_singleton.mp hc]; exact lt66
    split at hc
    · have : c = 65 := by simpa using hc
      rw [this]; exact lt65
    · rw [List.mem_singleton.mp hc]
      rcases h1 with h | h | h
      · exact h
      · exact absurd h (by assumption)
      · exact absurd h (by assumption)
  · rw [List.mem_singleton.mp hx]
    intro c hc
    rw [behR_eq] at hc
    obtain ⟨d, hd, hc⟩ := List.mem_flatMap.mp hc
    have h1 := hh d (beh_sub _ d hd)
    unfold unH at hc
    split at hc
    · have : c = 66 := by simpa using hc
      rw [this]; exact lt66
    split at hc
    · rcases List.mem_cons.mp hc with rfl | hc
      · exact lt66
      · rw [List.mem_singleton.mp hc]; exact lt65
    · rw [List.mem_singleton.mp hc]
      rcases h1 with h | h | h
      · exact h
      · exact absurd h (by assumption)
      · exact absurd h (by assumption)

end
section
theorem startLexP : True := by
  w_top off
  trivial
local macro_rules | `(tactic| walk_at "zz none") => `(tactic| fail "zz none")
/-- what get_token gives next: of the line first, then of the text -/
noncomputable def stepP : List (List Nat) → List Nat → Int → List Nat × List (List Nat) × List Nat × Int
  | y :: r, xs, ln => (y, r, xs, ln)
  | [], xs, ln => ((tok0 xs ln).1, [], (tok0 xs ln).2.1, (tok0 xs ln).2.2)
noncomputable def lexP : Nat → List (List Nat) → List Nat → Int → List (List Nat) × List (List Nat) × List Nat × Int
  | 0, ps, xs, ln => ([], ps, xs, ln)
  | n + 1, ps, xs, ln => let q := stepP ps xs ln; let r := lexP n q.2.1 q.2.2.1 q.2.2.2; (q.1 :: r.1, r.2)
theorem lexP_nil : ∀ (n : Nat) (xs : List Nat) (ln : Int), lexP n [] xs ln = ((lexAll n xs ln).1, [], (lexAll n xs ln).2)
  | 0, _, _ => rfl
  | n + 1, xs, ln => by
    show ((tok0 xs ln).1 :: (lexP n [] (tok0 xs ln).2.1 (tok0 xs ln).2.2).1, (lexP n [] (tok0 xs ln).2.1 (tok0 xs ln).2.2).2) = _
    rw [lexP_nil n]; rfl
theorem lexP_two (n : Nat) (a b : List Nat) (xs : List Nat) (ln : Int) : lexP (n + 2) [a, b] xs ln = (a :: b :: (lexAll n xs ln).1, [], (lexAll n xs ln).2) := by
  show (a :: b :: (lexP n [] xs ln).1, (lexP n [] xs ln).2) = _
  rw [lexP_nil n]
theorem nl_in (c : Nat) (ln : Int) : ln ≤ nl c ln ∧ nl c ln ≤ ln + 1 := by unfold nl; split <;> (first | lia | omega)
theorem quo_room (xs acc : List Nat) (ln : Int) : ln ≤ (quoted acc xs ln).2.2 ∧ (quoted acc xs ln).2.2 + (quoted acc xs ln).2.1.length ≤ ln + xs.length := by
  fun_induction quoted acc xs ln with
  | case1 => simp
  | case2 acc cs ln => have := nl_in 34 ln; simp only [List.length_cons]; (first | lia | omega)
  | case3 acc ln => have := nl_in 92 ln; simp only [List.length_cons, List.length_nil]; (first | lia | omega)
  | case4 acc ln d ds _ ih => have := nl_in 92 ln; have := nl_in d (nl 92 ln); simp only [List.length_cons]; (first | lia | omega)
  | case5 acc c cs ln _ _ ih => have := nl_in c ln; simp only [List.length_cons]; (first | lia | omega)
theorem bar_room (xs acc : List Nat) (ln : Int) : ln ≤ (bare acc xs ln).2.2 ∧ (bare acc xs ln).2.2 + (bare acc xs ln).2.1.length ≤ ln + xs.length := by
  fun_induction bare acc xs ln with
  | case1 => simp
  | case2 acc c cs ln _ => have := nl_in c ln; simp only [List.length_cons]; (first | lia | omega)
  | case3 acc ln => have := nl_in 92 ln; simp only [List.length_cons, List.length_nil]; (first | lia | omega)
  | case4 acc ln d ds _ ih => have := nl_in 92 ln; have := nl_in d (nl 92 ln); simp only [List.length_cons]; (first | lia | omega)
  | case5 acc c cs ln _ _ ih => have := nl_in c ln; simp only [List.length_cons]; (first | lia | omega)
theorem tok_room (xs : List Nat) (ln : Int) : ln ≤ (tok0 xs ln).2.2 ∧ (tok0 xs ln).2.2 + (tok0 xs ln).2.1.length ≤ ln + xs.length := by
  fun_induction tok0 xs ln with
  | case1 => simp
  | case2 c cs ln _ ih => have := nl_in c ln; simp only [List.length_cons]; (first | lia | omega)
  | case3 cs ln _ => have := nl_in 34 ln; have := quo_room cs [] (nl 34 ln); simp only [List.length_cons]; (first | lia | omega)
  | case4 ln _ _ => have := nl_in 92 ln; simp only [List.length_cons, List.length_nil]; (first | lia | omega)
  | case5 ln d ds _ _ => have := nl_in 92 ln; have := nl_in d (nl 92 ln); have := bar_room ds [d] (nl d (nl 92 ln)); simp only [List.length_cons]; (first | lia | omega)
  | case6 c cs ln _ _ _ => have := nl_in c ln; have := bar_room cs [c] (nl c ln); simp only [List.length_cons]; (first | lia | omega)
theorem stepP_room {ps : List (List Nat)} {xs : List Nat} {ln : Int} {b : Nat} (h : 0 ≤ ln ∧ ln + xs.length ≤ b) : 0 ≤ (stepP ps xs ln).2.2.2 ∧ (stepP ps xs ln).2.2.2 + (stepP ps xs ln).2.2.1.length ≤ b := by
  cases ps with
  | cons y r => exact h
  | nil =>
    have h1 := tok_room xs ln
    show 0 ≤ (tok0 xs ln).2.2 ∧ (tok0 xs ln).2.2 + (tok0 xs ln).2.1.length ≤ b
    (first | lia | omega)

end
section
theorem startEqStrs : True := by
  w_top off
  trivial
theorem ok_tx {l : List Nat} (h : ∀ c ∈ l, c < 0x110000) : PyData.strOk (tx l) = true := by
  unfold PyData.strOk
  rw [Array.all_eq_true']
  intro c hc
  exact decide_eq_true (h c (by simpa using hc))
theorem es_depth : ∀ ns : List Str, PyData.depthAll (ns.map PyData.str) = 0
  | [] => rfl
  | _ :: r => by simp [PyData.depthAll, PyData.depth, es_depth r]
theorem es_shaped {ns : List Str} (h : ∀ x ∈ ns, PyData.strOk x = true) : SeqAt.shaped (.list (ns.map PyData.str)) = true := by
  have h1 : ns.all PyData.strOk = true := List.all_eq_true.mpr h
  simp [SeqAt.shaped, PyData.canLay0, PyData.depth, canLayAll_strs', es_depth]
  exact h
theorem es_sameAll : ∀ ns ms : List Str, PySem.Spec.sameAll (ns.map PyData.str) (ms.map PyData.str) = decide (ns = ms)
  | [], [] => by simp [PySem.Spec.sameAll]
  | [], _ :: _ => by simp [PySem.Spec.sameAll]
  | _ :: _, [] => by simp [PySem.Spec.sameAll]
  | a :: r, b :: t => by
    simp only [List.map_cons, PySem.Spec.sameAll, PySem.Spec.same, es_sameAll r t]
    by_cases h : a = b <;> by_cases h' : r = t <;> simp [h, h']
theorem es_same (ns ms : List Str) : PySem.Spec.same (.list (ns.map PyData.str)) (.list (ms.map PyData.str)) = decide (ns = ms) := by
  simp only [PySem.Spec.same]; exact es_sameAll ns ms
theorem es_carried {vs : List Value} {ns : List Str} (h : StrsAre vs ns) : CarriedAll vs (ns.map PyData.str) := by
  induction h with
  | nil => exact .nil
  | cons y t _ ih => exact .cons (.str y t) ih
section
variable {prog : Program} {w : World} {A : Around} {E : Value → Shared → Prop} {s : Shared} {h₀ : Heap} {L a b : Addr} {news : List (Addr × Obj)} {xs ys : List Value} {n k : Nat} {ns ms : List Str} {Q : Value → Shared → Prop}
theorem eq_strs (N : News h₀ L s.heap news) (ha : (a, W.listOf xs.toArray n) ∈ news) (hb : (b, W.listOf ys.toArray k) ∈ news) (hi : StrsAre xs ns) (hj : StrsAre ys ms) (o1 : ∀ x ∈ ns, PyData.strOk x = true) (o2 : ∀ x ∈ ms, PyData.strOk x = true) (hu : A.units + 64 < cLine) (h : Q (.bool (decide (ns = ms))) s) :
    wpAny (model prog w) A (compareOp .Eq (.ref a) (.ref b)) Q E s :=
  eq_dataH_same (reads_newData ⟨_, (N _ ha).1, rfl, n, rfl⟩ (es_carried hi)) (reads_newData ⟨_, (N _ hb).1, rfl, k, rfl⟩ (es_carried hj)) (es_shaped o1) (es_shaped o2) hu (SeqAt.noMix_of_shape (.list .str) rfl _ _ (list_map_has fun _ => rfl) (list_map_has fun _ => rfl)) (by rw [es_same]; exact h)
theorem ne_strs (N : News h₀ L s.heap news) (ha : (a, W.listOf xs.toArray n) ∈ news) (hb : (b, W.listOf ys.toArray k) ∈ news) (hi : StrsAre xs ns) (hj : StrsAre ys ms) (o1 : ∀ x ∈ ns, PyData.strOk x = true) (o2 : ∀ x ∈ ms, PyData.strOk x = true) (hu : A.units + 64 < cLine) (h : Q (.bool (!decide (ns = ms))) s) :
    wpAny (model prog w) A (compareOp .NotEq (.ref a) (.ref b)) Q E s :=
  ne_dataH_same (reads_newData ⟨_, (N _ ha).1, rfl, n, rfl⟩ (es_carried hi)) (reads_newData ⟨_, (N _ hb).1, rfl, k, rfl⟩ (es_carried hj)) (es_shaped o1) (es_shaped o2) hu (SeqAt.noMix_of_shape (.list .str) rfl _ _ (list_map_has fun _ => rfl) (list_map_has fun _ => rfl)) (by rw [es_same]; exact h)
theorem ne_one {x y : Str} {t u : Tok} (N : News h₀ L s.heap news) (ha : (a, W.listOf #[.str x t] n) ∈ news) (hb : (b, W.listOf #[.str y u] k) ∈ news) (ok : PyData.strOk x = true) (hu : A.units + 64 < cLine) (e : x = y) (h : Q (.bool false) s) :
    wpAny (model prog w) A (compareOp .NotEq (.ref a) (.ref b)) Q E s :=
  ne_strs (xs := [.str x t]) (ys := [.str y u]) N ha hb (.cons _ _ .nil) (.cons _ _ .nil) (fun z hz => by rw [List.mem_singleton.mp hz]; exact ok) (fun z hz => by rw [List.mem_singleton.mp hz, ← e]; exact ok) hu (by subst e; simpa using h)
end

end
section
theorem startCount : True := by
  w_top off
  trivial
local macro_rules | `(tactic| walk_at "zz none") => `(tactic| fail "zz none")
theorem cnt_is (c : Nat) (l : List Nat) : cnt c l = ((l.count c : Nat) : Int) := by
  induction l with
  | nil => rfl
  | cons d l ih =>
    rw [List.count_cons, cnt_cons, ih]
    by_cases h : d = c
    · subst h; simp; (first | lia | omega)
    · simp [h]
theorem count34 (l : List Nat) : Txt.count (tx l) (Str.ofString "\"") = ((l.count 34 : Nat) : Int) := by
  rw [show Str.ofString "\"" = (⟨#[34]⟩ : Str) by decide +kernel, count_cnt, cnt_is]
theorem count_marks (h : Nat) (e : List Nat) (he : ∀ c ∈ e, c ≠ 34) : (List.replicate h 34 ++ e).count 34 = h := by
  rw [List.count_append, List.count_replicate_self, List.count_eq_zero.mpr fun hm => he 34 hm rfl]
  rfl

end
section
theorem startAp : True := by
  w_top off
  trivial
noncomputable def ap (n : Nat) : List Nat := if n = 0 then [] else ap (n / 16) ++ [65 + n % 16]
decreasing_by (first | lia | omega)
theorem ap_zero : ap 0 = [] := by unfold ap; rfl
theorem ap_pos {n : Nat} (h : n ≠ 0) : ap n = ap (n / 16) ++ [65 + n % 16] := by rw [ap]; exact if_neg h
theorem ap_len (n k : Nat) (h : n < 16 ^ k) : (ap n).length ≤ k := by
  induction k generalizing n with
  | zero =>
    have : n = 0 := by simpa using h
    subst this; rw [ap_zero]; exact Nat.le_refl _
  | succ k ih =>
    by_cases h0 : n = 0
    · subst h0; rw [ap_zero]; exact Nat.zero_le _
    · rw [ap_pos h0, List.length_append]
      have := ih (n / 16) (by rw [Nat.pow_succ] at h; (first | lia | omega))
      simp only [List.length_cons, List.length_nil]
      (first | lia | omega)
noncomputable def by8 (l : List Nat) : Array UInt8 := (l.map UInt8.ofNat).toArray
theorem by8_nil : (#[] : Array UInt8) = by8 [] := rfl
theorem by8_app (a b : List Nat) : by8 a ++ by8 b = by8 (a ++ b) := by simp [by8]
theorem by8_size (l : List Nat) : (by8 l).size = l.length := by simp [by8]
theorem pick16 (n : Nat) : KBy.picked #[65, 66, 67, 68, 69, 70, 71, 72, 73, 74, 75, 76, 77, 78, 79, 80] (some (Int.fmod n 16)) (some (Int.fmod n 16 + 1)) = by8 [65 + n % 16] := by
  have e : Int.fmod (n : Int) 16 = ((n % 16 : Nat) : Int) := by
    rw [Int.fmod_eq_emod_of_nonneg _ (by decide)]; (first | lia | omega)
  rw [e]
  have h : n % 16 < 16 := Nat.mod_lt _ (by decide)
  generalize n % 16 = m at h
  revert h
  revert m
  decide +kernel
theorem fdiv16 (n : Nat) : Int.fdiv (n : Int) 16 = ((n / 16 : Nat) : Int) := by
  rw [Int.fdiv_eq_ediv_of_nonneg _ (by decide)]; (first | lia | omega)
theorem ap_mem (n : Nat) : ∀ c ∈ ap n, 65 ≤ c ∧ c < 81 := by
  induction n using Nat.strongRecOn with
  | _ n ih =>
    intro c hc
    by_cases h0 : n = 0
    · subst h0; rw [ap_zero] at hc; cases hc
    · rw [ap_pos h0] at hc
      rcases List.mem_append.mp hc with h | h
      · exact ih (n / 16) (by (first | lia | omega)) c h
      · rw [List.mem_singleton.mp h]; (first | lia | omega)
theorem by8_at {l : List Nat} {i : Nat} {c : UInt8} (hl : ∀ c ∈ l, c < 256) (h : (by8 l)[i]? = some c) : l[i]? = some c.toNat := by
  have : (by8 l)[i]? = (l.map UInt8.ofNat)[i]? := by simp [by8]
  rw [this, List.getElem?_map] at h
  cases e : l[i]? with
  | none => rw [e] at h; cases h
  | some y =>
    rw [e] at h
    have hy : y < 256 := hl y (List.mem_of_getElem? e)
    have : UInt8.ofNat y = c := by simpa using h
    rw [← this]
    simp [UInt8.toNat_ofNat, Nat.mod_eq_of_lt hy]

end
section
theorem startApV : True := by
  w_top off
  trivial
local macro_rules | `(tactic| walk_at "zz none") => `(tactic| fail "zz none")
noncomputable def valN (l : List Nat) : Nat := l.foldl (fun a c => a * 16 + (c - 65)) 0
theorem ap_fold : ∀ (l : List Nat) (a : Nat), 0 < a → (∀ c ∈ l, Lt c) → ap (l.foldl (fun a c => a * 16 + (c - 65)) a) = ap a ++ l ∧ 0 < l.foldl (fun a c => a * 16 + (c - 65)) a
  | [], a, ha, _ => ⟨(List.append_nil _).symm, ha⟩
  | c :: l, a, ha, h => by
    obtain ⟨h1, h2⟩ := h c (.head _)
    have ih := ap_fold l (a * 16 + (c - 65)) (by (first | lia | omega)) fun x hx => h x (.tail _ hx)
    rw [List.foldl_cons]
    refine ⟨?_, ih.2⟩
    rw [ih.1, ap_pos (by (first | lia | omega)), show (a * 16 + (c - 65)) / 16 = a by (first | lia | omega), show 65 + (a * 16 + (c - 65)) % 16 = c by (first | lia | omega), List.append_assoc]; rfl
theorem ap15 : ap 15 = [80] := by rw [ap_pos (by decide)]; show ap 0 ++ _ = _; rw [ap_zero]; rfl
theorem ap_valP {l : List Nat} (h : ∀ c ∈ l, Lt c) : ap (valN (80 :: l)) = 80 :: l := by
  have := (ap_fold l 15 (by decide) h).1
  rw [ap15] at this
  exact this
noncomputable def val16 (l : List Nat) : Int := l.foldl (fun (a : Int) (c : Nat) => a * 16 + ((c : Int) - 65)) (0 : Int)
theorem val_nat : ∀ (l : List Nat) (a : Nat), (∀ c ∈ l, Lt c) → l.foldl (fun (a : Int) (c : Nat) => a * 16 + ((c : Int) - 65)) (a : Int) = ((l.foldl (fun a c => a * 16 + (c - 65)) a : Nat) : Int)
  | [], _, _ => rfl
  | c :: l, a, h => by
    have := (h c (.head _)).1
    rw [List.foldl_cons, List.foldl_cons, ← val_nat l _ fun x hx => h x (.tail _ hx)]
    congr 1
    (first | lia | omega)
theorem ltP : Lt 80 := ⟨by decide, by decide⟩
theorem lt_P {l : List Nat} (h : ∀ c ∈ l, Lt c) : ∀ c ∈ 80 :: l, Lt c := fun c hc => by
  rcases List.mem_cons.mp hc with rfl | hc
  · exact ltP
  · exact h c hc
theorem ap_val16 {l : List Nat} (h : ∀ c ∈ l, Lt c) : ap (val16 (80 :: l)).natAbs = 80 :: l := by
  have e : val16 (80 :: l) = (valN (80 :: l) : Int) := val_nat (80 :: l) 0 (lt_P h)
  rw [e, Int.natAbs_natCast, ap_valP h]
theorem val_succ {l : List Nat} {i c : Nat} (h : l[i]? = some c) : val16 (l.take (i + 1)) = val16 (l.take i) * 16 + ((c : Int) - 65) := by
  rw [List.take_add_one, h]
  simp only [val16, Option.toList, List.foldl_append, List.foldl_cons, List.foldl_nil]
theorem find16 : ∀ m : Nat, m < 16 → Txt.find (Str.ofString "ABCDEFGHIJKLMNOP") (sgn (65 + m)) = (m : Int) := by decide +kernel
theorem find16' {c : Nat} (h : Lt c) : Txt.find (Str.ofString "ABCDEFGHIJKLMNOP") (sgn c) = (c : Int) - 65 := by
  have e := find16 (c - 65) (by have := h.1; have := h.2; (first | lia | omega))
  rw [show 65 + (c - 65) = c by have := h.1; (first | lia | omega)] at e
  rw [e]; have := h.1; (first | lia | omega)
theorem tx_tx2 (a b : List Nat) : tx a ++ tx b = tx (a ++ b) := by
  show (⟨a.toArray ++ b.toArray⟩ : Str) = ⟨(a ++ b).toArray⟩
  simp
theorem txP (l : List Nat) : Str.ofString "P" ++ tx l = tx (80 :: l) := by
  rw [show Str.ofString "P" = tx [80] by decide +kernel, tx_tx2]; rfl
theorem item_sig : ∀ m : Nat, m < 16 → Txt.item (Str.ofString "\"\\ \n\t\r#\x0cijklmnoz") (m : Int) = sgn (sig (65 + m)) := by decide +kernel
theorem item_sig' {c : Nat} (h : Lt c) : Txt.item (Str.ofString "\"\\ \n\t\r#\x0cijklmnoz") ((c : Int) - 65) = sgn (sig c) := by
  have e := item_sig (c - 65) (by have := h.1; have := h.2; (first | lia | omega))
  rw [show 65 + (c - 65) = c by have := h.1; (first | lia | omega)] at e
  rw [← e]; congr 1; have := h.1; (first | lia | omega)

end
section
theorem startLits : True := by
  w_top off
  trivial
structure LitZ (Z : Str) (z : List Nat) (c : Nat) : Prop where
  e : Z = tx z
  l : z.length ≤ c
  p : 1 ≤ c
theorem lit_B : LitZ (Str.ofString "B") ([66] : List Nat) 1 := ⟨by decide +kernel, by decide, by decide⟩
theorem lit_BB : LitZ (Str.ofString "BB") ([66, 66] : List Nat) 2 := ⟨by decide +kernel, by decide, by decide⟩
theorem lit_AA : LitZ (Str.ofString "AA") ([65, 65] : List Nat) 2 := ⟨by decide +kernel, by decide, by decide⟩
theorem lit_Q : LitZ (Str.ofString "Q") ([81] : List Nat) 1 := ⟨by decide +kernel, by decide, by decide⟩
theorem lit_A : LitZ (Str.ofString "A") ([65] : List Nat) 1 := ⟨by decide +kernel, by decide, by decide⟩
theorem lit_ACA : LitZ (Str.ofString "ACA") ([65, 67, 65] : List Nat) 3 := ⟨by decide +kernel, by decide, by decide⟩
theorem lit_BA : LitZ (Str.ofString "BA") ([66, 65] : List Nat) 2 := ⟨by decide +kernel, by decide, by decide⟩
theorem lit_C : LitZ (Str.ofString "C") ([67] : List Nat) 1 := ⟨by decide +kernel, by decide, by decide⟩
theorem lit_BC : LitZ (Str.ofString "BC") ([66, 67] : List Nat) 2 := ⟨by decide +kernel, by decide, by decide⟩
theorem lit_D : LitZ (Str.ofString "D") ([68] : List Nat) 1 := ⟨by decide +kernel, by decide, by decide⟩
theorem lit_BD : LitZ (Str.ofString "BD") ([66, 68] : List Nat) 2 := ⟨by decide +kernel, by decide, by decide⟩
theorem lit_E : LitZ (Str.ofString "E") ([69] : List Nat) 1 := ⟨by decide +kernel, by decide, by decide⟩
theorem lit_BE : LitZ (Str.ofString "BE") ([66, 69] : List Nat) 2 := ⟨by decide +kernel, by decide, by decide⟩
theorem lit_F : LitZ (Str.ofString "F") ([70] : List Nat) 1 := ⟨by decide +kernel, by decide, by decide⟩
theorem lit_BF : LitZ (Str.ofString "BF") ([66, 70] : List Nat) 2 := ⟨by decide +kernel, by decide, by decide⟩
theorem lit_J : LitZ (Str.ofString "J") ([74] : List Nat) 1 := ⟨by decide +kernel, by decide, by decide⟩
theorem lit_BJ : LitZ (Str.ofString "BJ") ([66, 74] : List Nat) 2 := ⟨by decide +kernel, by decide, by decide⟩
theorem lit_QBD : LitZ (Str.ofString "QBD") ([81, 66, 68] : List Nat) 3 := ⟨by decide +kernel, by decide, by decide⟩
theorem lit_BABD : LitZ (Str.ofString "BABD") ([66, 65, 66, 68] : List Nat) 4 := ⟨by decide +kernel, by decide, by decide⟩
theorem lit_X : LitZ (Str.ofString "X") ([88] : List Nat) 1 := ⟨by decide +kernel, by decide, by decide⟩
theorem lit_Y : LitZ (Str.ofString "Y") ([89] : List Nat) 1 := ⟨by decide +kernel, by decide, by decide⟩
theorem lit_e : LitZ (Str.ofString "") ([] : List Nat) 1 := ⟨by decide +kernel, by decide, by decide⟩
section
variable {prog : Program} {w : World} {A : Around} {E : Value → Shared → Prop} {s : Shared}
theorem rep_K {l y z : List Nat} {Y Z : Str} {c c' N : Nat} {t u v : Tok} {Q : Value → Shared → Prop} (hY : LitZ Y y c') (hZ : LitZ Z z c) (hx : l.length ≤ N) (hy : 0 < y.length) (hu : u ≠ 0) (hv : v ≠ 0) (huv : u ≠ v) (hyz : (Y == Z) = false) (hN : N ≤ 1000000) (hc : c ≤ 14)
    (h : ∀ t' k, (rep y z l).length ≤ c * N → Q (.str (tx (rep y z l)) t') { s with toks := k }) : wpAny (model prog w) A (call (.builtin "str.replace") [.str (tx l) t, .str Y u, .str Z v]) Q E s := by
  obtain ⟨rfl, h1, h2⟩ := hY
  obtain ⟨rfl, h3, h4⟩ := hZ
  refine SC.replaceW hu hv huv hyz (by rw [tx_len]; (first | lia | omega)) (by rw [tx_len]; (first | lia | omega)) fun t' k => ?_
  rw [replace_tx l y z (fun e => by rw [e] at hy; exact absurd hy (by decide))]
  exact h t' k (Nat.le_trans (rep_len h3 h4 l) (Nat.mul_le_mul_left _ hx))
end

end
section
theorem startToks : True := by
  w_top off
  trivial
local macro_rules | `(tactic| walk_at "zz none") => `(tactic| fail "zz none")
theorem post_vs {s : Shared} {c : Prop} [Decidable c] {y z : Str} {t : Tok} {Q : Value → Shared → Prop} (hz : (if c then y else z).length ≤ sizeLine)
    (h : ∀ (t' k : Nat), s.toks ≤ k → (t' = t ∨ t' = s.toks) → Q (.str (if c then y else z) t') { s with toks := k }) : (if c then Made.val (.str y t) else Made.str z).post Q s := by
  by_cases hc : c
  · rw [if_pos hc]; have h' := h t s.toks (Nat.le_refl _) (.inl rfl); rw [if_pos hc] at h'; exact h'
  · rw [if_neg hc]; have h' := h s.toks (s.toks + 1) (Nat.le_succ _) (.inr rfl); rw [if_neg hc] at h' hz; exact ⟨hz, h'⟩
theorem gen_toks {α : Type} {M : Model} {A : Around} {t : Sem α} {Q : α → Shared → Prop} {E : Value → Shared → Prop} {h : Heap} {g : _} {d : _} {o : _} {X : Nat} (hp : 0 < X) (k : ∀ tk : Nat, 0 < tk → wpAny M A t Q E ⟨h, g, d, tk, o⟩) : wpAny M A t Q E ⟨h, g, d, X, o⟩ := k X hp
section
variable {prog : Program} {w : World} {A : Around} {E : Value → Shared → Prop} {s : Shared} {value slice : Expr} {x : Str} {t u v : Tok} {h₀ : Heap} {L : Addr} {m : Str → Option Value} {news : List (Addr × Obj)} {Q : Value → Shared → Prop}
theorem slice_nsT {j : Int} {uj : Tok} (hF : Fr h₀ L s.heap m) (hN : News h₀ L s.heap news) (h : ∀ h' (t' k : Nat), s.toks ≤ k → (t' = t ∨ t' = s.toks) → Fr h₀ L h' m → News h₀ L h' news → Q (.str (Txt.slice x none (some j)) t') { s with heap := h', toks := k })
    (hsz : x.length ≤ sizeLine) (hs : subscripted slice false (.str x t) (.ref s.heap.objs.size) = operate [.ref s.heap.objs.size, .str x t] (getItem (.str x t) (.ref s.heap.objs.size)) := by with_unfolding_all rfl)
    (ht : ∀ r, letTemporaryGo value (.str x t) r = pure () := by intro _; with_unfolding_all rfl) :
    wpAny (model prog w) A (subscriptTail value slice (.str x t) (.ref s.heap.objs.size)) Q E { s with heap := s.heap.push { cls := .type "slice", data := .fields #[.none, .int j uj, .none] } } :=
  tail_of_ItemOn ⟨"str", _, PySem.F.slot_str_getitem.lookup, typeIs_str _ _ _, wpAny_getItem_str_slice (l := none) (u := some (j, uj)) (st := none) ⟨_, Heap.get?_push_size _ rfl, rfl, rfl⟩ rfl
    (post_vs (Nat.le_trans (Txt.slice_le x none (some j)) hsz) fun t' k a b => h _ t' k a b (keptFrN _ _ ⟨hF, hN⟩).1 (keptFrN _ _ ⟨hF, hN⟩).2)⟩ hs ht
theorem slice_snT {i : Int} {ui : Tok} (hF : Fr h₀ L s.heap m) (hN : News h₀ L s.heap news) (h : ∀ h' (t' k : Nat), s.toks ≤ k → (t' = t ∨ t' = s.toks) → Fr h₀ L h' m → News h₀ L h' news → Q (.str (Txt.slice x (some i) none) t') { s with heap := h', toks := k })
    (hsz : x.length ≤ sizeLine) (hs : subscripted slice false (.str x t) (.ref s.heap.objs.size) = operate [.ref s.heap.objs.size, .str x t] (getItem (.str x t) (.ref s.heap.objs.size)) := by with_unfolding_all rfl)
    (ht : ∀ r, letTemporaryGo value (.str x t) r = pure () := by intro _; with_unfolding_all rfl) :
    wpAny (model prog w) A (subscriptTail value slice (.str x t) (.ref s.heap.objs.size)) Q E { s with heap := s.heap.push { cls := .type "slice", data := .fields #[.int i ui, .none, .none] } } :=
  tail_of_ItemOn ⟨"str", _, PySem.F.slot_str_getitem.lookup, typeIs_str _ _ _, wpAny_getItem_str_slice (l := some (i, ui)) (u := none) (st := none) ⟨_, Heap.get?_push_size _ rfl, rfl, rfl⟩ rfl
    (post_vs (Nat.le_trans (Txt.slice_le x (some i) none) hsz) fun t' k a b => h _ t' k a b (keptFrN _ _ ⟨hF, hN⟩).1 (keptFrN _ _ ⟨hF, hN⟩).2)⟩ hs ht
theorem mulT {n : Int} (hok : MulOk x n) (hz : (Txt.mul x n).length ≤ sizeLine) (h : ∀ (t' k : Nat), s.toks ≤ k → Q (.str (Txt.mul x n) t') { s with toks := k }) : wpAny (model prog w) A (binaryOp .Mult (.str x t) (.int n u)) Q E s := by
  refine P.mul_str hok.1 hok.2.1 hok.2.2 ?_
  unfold Txt.mul at h hz
  by_cases h1 : n < 1
  · rw [if_pos h1]; have h' := h s.toks (s.toks + 1) (Nat.le_succ _); rw [if_pos h1] at h'; exact ⟨by decide, h'⟩
  · rw [if_neg h1]
    rw [if_neg h1] at hz
    refine post_vs hz fun t' k a _ => ?_
    have h' := h t' k a; rw [if_neg h1] at h'; exact h'
theorem repT {l y z : List Nat} {Y Z : Str} {c c' N : Nat} (hY : LitZ Y y c') (hZ : LitZ Z z c) (hx : l.length ≤ N) (hy : 0 < y.length) (hu : @LT.lt Nat _ 0 u) (hv : @LT.lt Nat _ 0 v) (huv : @Ne Nat u v) (hyz : (Y == Z) = false) (hN : N ≤ 1000000) (hc : c ≤ 14)
    (h : ∀ (t' k : Nat), s.toks ≤ k → (rep y z l).length ≤ c * N → Q (.str (tx (rep y z l)) t') { s with toks := k }) : wpAny (model prog w) A (call (.builtin "str.replace") [.str (tx l) t, .str Y u, .str Z v]) Q E s := by
  obtain ⟨rfl, h1, h2⟩ := hY
  obtain ⟨rfl, h3, h4⟩ := hZ
  have hyn : y ≠ [] := fun e => by rw [e] at hy; exact absurd hy (by decide)
  have hb := Nat.le_trans (rep_len (Y := y) h3 h4 l) (Nat.mul_le_mul_left _ hx)
  have hcn : c * N ≤ 14 * 1000000 := Nat.mul_le_mul hc hN
  have hr := replace_tx l y z hyn
  have hfit : (Txt.replace (tx l) (tx y) (tx z)).length ≤ sizeLine := by rw [hr, tx_len, PySem.sizeLine_eq]; (first | lia | omega)
  have hl : Builtin.Str.tooLong ((tx l).length + (Builtin.Str.occurrences (tx l) (tx y) 0 (tx l).length ((tx l).length + 1)).length * (tx z).length) = false := by
    have h5 := StrLaws.occ_length_le_len (tx l) (tx y) 0 (tx l).length ((tx l).length + 1)
    have h6 : (Builtin.Str.occurrences (tx l) (tx y) 0 (tx l).length ((tx l).length + 1)).length * (tx z).length ≤ ((tx l).length + 1) * 14 := Nat.mul_le_mul (by (first | lia | omega)) (by rw [tx_len]; (first | lia | omega))
    rw [tx_len] at h6 ⊢
    unfold Builtin.Str.tooLong
    refine decide_eq_false ?_
    rw [PySem.sizeLine_eq]
    (first | lia | omega)
  refine call_gives PySem.F.slot_str_replace (typeIs_str _ _ _) PySem.F.entry_str_replace (PySem.F.args_str_replace_3 _ _ _)
    (gives_str_replace (tx l) (tx y) (tx z) t u v fun _ => ⟨by
      have e1 : (u == 0) = false := beq_eq_false_iff_ne.mpr (Nat.ne_of_gt hu)
      have e2 : (v == 0) = false := beq_eq_false_iff_ne.mpr (Nat.ne_of_gt hv)
      rw [e1, e2]; rfl, beq_eq_false_iff_ne.mpr huv, hyz, hl⟩) ?_
  unfold Txt.replace at hfit hr
  refine post_vs hfit fun t' k a _ => ?_
  rw [hr]
  exact h t' k a hb
end
theorem mul_B {n : Int} (h0 : 0 ≤ n) (h1 : n ≤ 1) : Txt.mul (Str.ofString "B") n = tx (List.replicate n.toNat 66) := by
  have : n = 0 ∨ n = 1 := by (first | lia | omega)
  rcases this with rfl | rfl <;> decide +kernel
section
variable {prog : Program} {w : World} {A : Around} {E : Value → Shared → Prop} {s : Shared} {t u : Tok} {Q : Value → Shared → Prop}
theorem mulBT {n : Int} (h0 : 0 ≤ n) (h1 : n ≤ 1) (h : ∀ (t' k : Nat), s.toks ≤ k → n.toNat ≤ 1 → Q (.str (tx (List.replicate n.toNat 66)) t') { s with toks := k }) : wpAny (model prog w) A (binaryOp .Mult (.str (Str.ofString "B") t) (.int n u)) Q E s := by
  refine mulT (mulOk_of 16 1048576 (by decide) (by (first | lia | omega)) (by (first | lia | omega)) (by decide) (by decide)) ?_ fun t' k a => ?_
  · rw [mul_B h0 h1, tx_len, List.length_replicate, PySem.sizeLine_eq]; (first | lia | omega)
  · rw [mul_B h0 h1]; exact h t' k a (by (first | lia | omega))
end
theorem add_is (a b : List Nat) : tx a ++ tx b = tx (a ++ b) := by
  show (⟨a.toArray ++ b.toArray⟩ : Str) = ⟨(a ++ b).toArray⟩
  simp
section
variable {prog : Program} {w : World} {A : Around} {E : Value → Shared → Prop} {s : Shared} {t u : Tok} {Q : Value → Shared → Prop}
theorem addTT {a b : List Nat} (hz : a.length + b.length ≤ 16000000) (h : ∀ t' k, Q (.str (tx (a ++ b)) t') { s with toks := k }) : wpAny (model prog w) A (binaryOp .Add (.str (tx a) t) (.str (tx b) u)) Q E s :=
  SB.add (fun t' k => by rw [add_is]; exact h t' k) (by rw [tx_len, tx_len, PySem.sizeLine_eq]; (first | lia | omega))
theorem addAT {b : List Nat} (hz : b.length ≤ 15000000) (h : ∀ t' k, Q (.str (tx (65 :: b)) t') { s with toks := k }) : wpAny (model prog w) A (binaryOp .Add (.str (Str.ofString "A") t) (.str (tx b) u)) Q E s := by
  rw [lit_A.e]
  exact addTT (a := [65]) (b := b) (by show 1 + b.length ≤ _; (first | lia | omega)) h
theorem addTA {a : List Nat} (hz : a.length ≤ 15000000) (h : ∀ t' k, Q (.str (tx (a ++ [65])) t') { s with toks := k }) : wpAny (model prog w) A (binaryOp .Add (.str (tx a) t) (.str (Str.ofString "A") u)) Q E s := by
  rw [lit_A.e]
  exact addTT (a := a) (b := [65]) (by show a.length + 1 ≤ _; (first | lia | omega)) h
end

end
section
theorem startItems : True := by
  w_top off
  trivial
section
variable {prog : Program} {w : World} {A : Around} {E : Value → Shared → Prop} {s : Shared} {h₀ : Heap} {L D : Addr} {news : List (Addr × Obj)} {vs : List Value} {n : Nat}
theorem item_txs {value slice : Expr} {ys : List Str} {k : Int} {u : Tok} {Q : Value → Shared → Prop} (ls : List (List Nat)) (N : News h₀ L s.heap news) (hm : (D, W.listOf vs.toArray n) ∈ news) (hi : StrsAre vs ys) (hy : ys = ls.map tx)
    (h0 : 0 ≤ k) (hk : k < ls.length) (hl : ls.length ≤ 1000) (h : ∀ t, Q (.str (tx (ls.getD k.toNat [])) t) s)
    (hs : subscripted slice false (.ref D) (.int k u) = operate [.ref D, .int k u] (getItem (.ref D) (.int k u)) := by with_unfolding_all rfl) :
    wpAny (model prog w) A (subscriptTail value slice (.ref D) (.int k u)) Q E s := by
  subst hy
  refine item_strsR ⟨_, (N _ hm).1, rfl, n, rfl⟩ hi h0 (by rw [List.length_map]; exact hk) (by (first | lia | omega)) (fun t => ?_) hs
  have : (ls.map tx).getD k.toNat Str.empty = tx (ls.getD k.toNat []) := by
    have hlt : k.toNat < ls.length := by (first | lia | omega)
    simp [List.getD, hlt]
  rw [this]; exact h t
end
theorem fmod_lt (a : Int) {b : Int} (h : 0 < b) : 0 ≤ a.fmod b ∧ a.fmod b < b := ⟨Int.fmod_nonneg_of_pos a h, Int.fmod_lt_of_pos a h⟩

theorem fold34 : ∀ (k : Nat) (acc : Array Nat), (List.replicate k (sgn 34).cps).foldl (· ++ ·) acc = acc ++ (List.replicate k 34).toArray
  | 0, acc => by simp
  | k + 1, acc => by
    rw [List.replicate_succ, List.foldl_cons, fold34 k, List.replicate_succ]
    apply Array.toList_inj.mp
    simp only [Array.toList_append, List.append_assoc]
    rfl
theorem mul34 {n : Int} : Txt.mul (sgn 34) n = tx (List.replicate n.toNat 34) := by
  unfold Txt.mul
  by_cases h1 : n < 1
  · rw [if_pos h1]
    have : n.toNat = 0 := by (first | lia | omega)
    rw [this]; rfl
  · rw [if_neg h1]
    by_cases h2 : n = 1
    · subst h2; rfl
    · have h3 : (n == 1 || (sgn 34).length == 0) = false := by
        rw [beq_eq_false_iff_ne.mpr h2]; rfl
      rw [h3]
      simp only [Bool.false_eq_true, if_false]
      rw [fold34]
      simp
section
variable {prog : Program} {w : World} {A : Around} {E : Value → Shared → Prop} {s : Shared}
theorem add_tx {a b : List Nat} {t u : Tok} {Q : Value → Shared → Prop} (hsz : a.length + b.length ≤ 10000) (h : ∀ t' k, Q (.str (tx (a ++ b)) t') { s with toks := k }) : wpAny (model prog w) A (binaryOp .Add (.str (tx a) t) (.str (tx b) u)) Q E s :=
  SB.add (fun t' k => by
    have e : tx a ++ tx b = tx (a ++ b) := by
      show (⟨a.toArray ++ b.toArray⟩ : Str) = ⟨(a ++ b).toArray⟩
      simp
    rw [e]; exact h t' k) (by rw [tx_len, tx_len, PySem.sizeLine_eq]; (first | lia | omega))
theorem mul_q {n : Int} {t u : Tok} {Q : Value → Shared → Prop} (h0 : 0 ≤ n) (h1 : n ≤ 1000) (h : ∀ t' k, Q (.str (tx (List.replicate n.toNat 34)) t') { s with toks := k }) : wpAny (model prog w) A (binaryOp .Mult (.str (Str.ofString "\"") t) (.int n u)) Q E s := by
  rw [show Str.ofString "\"" = sgn 34 by decide +kernel]
  refine SB.mul (mulOk_of 16 1048576 (by decide) (by (first | lia | omega)) (by (first | lia | omega)) (by decide) (by decide)) fun t' k => ?_
  rw [mul34]; exact h t' k
end

end
section
theorem startInts : True := by
  w_top off
  trivial
local macro_rules | `(tactic| walk_at "zz none") => `(tactic| fail "zz none")
section
variable {prog : Program} {w : World} {A : Around} {E : Value → Shared → Prop} {s : Shared} {h₀ : Heap} {L D b : Addr} {m : Str → Option Value} {news news' : List (Addr × Obj)} {n n2 : Nat} {vs ws : List Value} {ns ms : List Int} {k : Int} {t : Tok}
theorem ints_kf {vs : List Value} {ns : List Int} (h : IntsAre vs ns) : W.kf_ints vs = true := by
  induction h with
  | nil => rfl
  | cons n t _ ih => exact ih
theorem ints_any {vs : List Value} {ns : List Int} (h : IntsAre vs ns) : vs.any (isInt k) = decide (k ∈ ns) := by
  induction h with
  | nil => rfl
  | @cons n t vs ns _ ih =>
    rw [List.any_cons, ih]
    have : isInt k (.int n t) = decide (n = k) := by
      unfold isInt
      rfl
    rw [this]
    by_cases h1 : n = k
    · simp [h1]
    · have h2 : k ≠ n := fun e => h1 e.symm
      simp [h1, h2]
theorem ints_del {vs : List Value} {ns : List Int} (h : IntsAre vs ns) : k ∈ ns → ∃ j q, W.kf_at k vs = some j ∧ W.ki_delL vs j = some q ∧ IntsAre q (ns.erase k) := by
  induction h with
  | nil => intro h; cases h
  | @cons n t vs ns hv ih =>
    intro hk
    have hi : isInt k (.int n t) = decide (n = k) := by
      unfold isInt
      rfl
    by_cases h1 : n = k
    · refine ⟨0, vs, ?_, rfl, ?_⟩
      · unfold W.kf_at; rw [hi, decide_eq_true h1]; rfl
      · subst h1; rw [List.erase_cons_head]; exact hv
    · obtain ⟨j, q, e1, e2, e3⟩ := ih (by rcases List.mem_cons.mp hk with h | h; exact absurd h.symm h1; exact h)
      refine ⟨j + 1, .int n t :: q, ?_, ?_, ?_⟩
      · unfold W.kf_at; rw [hi, decide_eq_false h1, e1]; rfl
      · show (match W.ki_delL vs j with | some q => some (Value.int n t :: q) | none => none) = _
        rw [e2]
      · rw [List.erase_cons_tail (by simpa using h1)]; exact .cons _ _ e3
theorem in_ints {Q : Value → Shared → Prop} (N : News h₀ L s.heap news) (hm : (D, listOf vs.toArray n) ∈ news) (hI : IntsAre vs ns) (h : Q (.bool (decide (k ∈ ns))) s) :
    wpAny (model prog w) A (compareOp .In (.int k t) (.ref D)) Q E s :=
  W.kf_in N hm (by simpa using ints_kf hI) (by simpa using ints_any hI) h
theorem extend_ints {Q : Value → Shared → Prop} (F : Fr h₀ L s.heap m) (N : News h₀ L s.heap news) (hb : (b, listOf ws.toArray n2) ∈ news) (hne : ws.length ≠ 0)
    (U : Upd D (listOf vs.toArray n) (listOf (vs ++ ws).toArray (n + 1)) news news') (hz : vs.length + ws.length ≤ 10000)
    (h : ∀ h', Fr h₀ L h' m → News h₀ L h' news' → Q .none { s with heap := h' }) : wpAny (model prog w) A (call (.builtin "list.extend") [.ref D, .ref b]) Q E s := by
  refine W.kl_extend F N hb (l := vs ++ ws) (by simp) (by simpa using hne) U ?_ (by simp [PySem.sizeLine_eq]; (first | lia | omega)) (by simp [PySem.sizeLine_eq]; (first | lia | omega)) h
  have : Builtin.List.listTooLong (vs.toArray.size + ws.toArray.size) = false := by
    unfold Builtin.List.listTooLong
    simp only [List.size_toArray]
    rw [PySem.sizeLine_eq]
    exact decide_eq_false (by (first | lia | omega))
  rw [this, Bool.and_false]
  exact Bool.false_ne_true
theorem remove_ints {Q : Value → Shared → Prop} (F : Fr h₀ L s.heap m) (N : News h₀ L s.heap news) (hI : IntsAre vs ns) (hk : k ∈ ns) (hz : vs.length ≤ 10000)
    (h : ∀ q, IntsAre q (ns.erase k) → q.length ≤ vs.length → ∃ news', Upd D (listOf vs.toArray n) (listOf q.toArray (n + 1)) news news' ∧ ∀ h', Fr h₀ L h' m → News h₀ L h' news' → Q .none { s with heap := h' }) : wpAny (model prog w) A (call (.builtin "list.remove") [.ref D, .int k t]) Q E s := by
  obtain ⟨j, q, e1, e2, e3⟩ := ints_del hI hk
  have hql : q.length ≤ vs.length := by
    rw [e3.length, hI.length]
    exact List.length_erase_le
  obtain ⟨news', U, hQ⟩ := h q e3 hql
  exact W.kf_remove F N (by simpa using ints_kf hI) (by simpa using e1) (by simpa using e2) U (by simp [PySem.sizeLine_eq]; (first | lia | omega)) hQ
end

theorem ints_at {vs : List Value} {ns : List Int} (h : IntsAre vs ns) : ∀ {i : Nat} {v : Value}, vs[i]? = some v → ∃ p u, ns[i]? = some p ∧ v = .int p u := by
  induction h with
  | nil => intro i v e; cases e
  | @cons n t vs ns _ ih =>
    intro i v e
    cases i with
    | zero => exact ⟨n, t, rfl, by simpa using e.symm⟩
    | succ i => exact ih (by simpa using e)
theorem ints_app {vs ws : List Value} {ns ms : List Int} (h : IntsAre vs ns) (h2 : IntsAre ws ms) : IntsAre (vs ++ ws) (ns ++ ms) := by
  induction h with
  | nil => exact h2
  | cons n t _ ih => exact .cons n t ih

end
section
theorem startCompQ : True := by
  w_top off
  trivial
open LCg
section
variable {prog : Program} {w : World} {A : Around} {E : Value → Shared → Prop} {s : Shared} {h₀ : Heap} {L : Addr} {m : Str → Option Value} {env : Env}
/-- a list of the ledger that a comprehension walks whose turns make nothing: the tokens never fall -/
noncomputable def QSrc (prog : Program) (w : World) (A : Around) (h₀ : Heap) (L : Addr) (m : Str → Option Value) (env : Env) (ifs : List Expr) (elt : Expr) (x : Str) (scope : Scope) (cl : List (Str × Addr)) (p : Value → Bool) (V : Value → Value → Prop) (Q : Value → Shared → Prop) (xv : Value) (s₁ : Shared) : Prop :=
  ∃ (ax : Addr) (its : Array Value) (k : Nat) (news : List (Addr × Obj)), xv = .ref ax ∧ A.handled = none ∧ Fr h₀ L s₁.heap m ∧ News h₀ L s₁.heap news ∧ (ax, W.listOf its k) ∈ news ∧ its.size ≤ sizeLine ∧
    (∀ (C : Addr) (i : Nat) (v : Value) (oC : Obj) (m₂ : Str → Option Value) (s₃ : Shared) (E' : Value → Shared → Prop), its[i]? = some v → NsObj oC m₂ → m₂ x = some v → Fr h₀ L s₃.heap m → News h₀ L s₃.heap ((C, oC) :: news) → s₁.toks ≤ s₃.toks →
      wpAny (model prog w) A (forIn ifs true fun c r => if r = true then do let ok ← isTrue c (compEnvC scope cl C env) (eval c (compEnvC scope cl C env)); pure (ForInStep.yield ok) else pure (ForInStep.yield r)) (fun ok s₄ => Hold (ok = p v ∧ Keeps s₃ s₄)) E' s₃) ∧
    (∀ (C : Addr) (i : Nat) (v : Value) (oC : Obj) (m₂ : Str → Option Value) (s₃ : Shared) (E' : Value → Shared → Prop), its[i]? = some v → p v = true → NsObj oC m₂ → m₂ x = some v → Fr h₀ L s₃.heap m → News h₀ L s₃.heap ((C, oC) :: news) → s₁.toks ≤ s₃.toks →
      wpAny (model prog w) A (eval elt (compEnvC scope cl C env)) (fun y s₄ => Hold (V v y ∧ Keeps s₃ s₄)) E' s₃) ∧
    (∀ (D : Addr) (ys : List Value) (n : Nat) (h : Heap) (tk : Nat), Fr h₀ L h m → News h₀ L h ((D, W.listOf ys.toArray n) :: news) → Off1 D news → Paired V (its.toList.filter p) ys → Q (.ref D) { s₁ with heap := h, toks := tk })
theorem list_ext? {α : Type} : ∀ {a b : List α}, a.length = b.length → (∀ (j : Nat) (v : α), a[j]? = some v → b[j]? = some v) → a = b
  | [], [], _, _ => rfl
  | [], _ :: _, h, _ => nomatch h
  | _ :: _, [], h, _ => nomatch h
  | x :: a, y :: b, h, k => by
    have h0 := k 0 x rfl
    simp only [List.getElem?_cons_zero, Option.some.injEq] at h0
    rw [h0, list_ext? (a := a) (b := b) (by simpa using h) fun j v e => by simpa using k (j + 1) v (by simpa using e)]
theorem compQ {elt iter : Expr} {x : Str} {px : Pos} {ifs : List Expr} {scope : Scope} {cl : List (Str × Addr)} {pos : Pos} {Q : Value → Shared → Prop} (p : Value → Bool) (V : Value → Value → Prop) (F₀ : Fr h₀ L s.heap m)
    (hclos : closureFor scope env = pure cl) (hcell : ∀ y ∈ scope.names, y.2 ≠ .cell) (hkind : scope.kind = .function)
    (hnames : ∀ y ∈ scope.names, y.2 = .local → scope.names.lookup y.1 = some .local) (hx : scope.names.lookup x = some .local)
    (h : wpAny (model prog w) A (eval iter env) (fun xv s₁ => Hold (QSrc prog w A h₀ L m env ifs elt x scope cl p V Q xv s₁)) E s)
    (hs : ∀ x, foldedSetIterable iter env x = pure x := by intro _; rfl) :
    wpAny (model prog w) A (eval (.ListComp elt [⟨.Name x px, iter, ifs, 0⟩] scope pos) env) Q E s := by
  refine wpAny_ListComp_free p V hclos hcell hkind hnames hx (wpAny_mono h (fun xv s₁ h₁ => ?_) fun _ _ e => e) hs
  obtain ⟨ax, its, k, news, rfl, hh, F, N, hm, hz, ht, he, hf⟩ := h₁
  have hl : s₁.heap.IsList ax its := ⟨_, (N _ hm).1, rfl, k, rfl⟩
  have hax : ax < s₁.heap.objs.size := Heap.lt_size (N _ hm).1
  refine wpAny_pyIter_list hl ?_
  have hLI : L ≠ s₁.heap.objs.size := Nat.ne_of_lt F.ns.lt
  have hI₀ : h₀.get? s₁.heap.objs.size = none := next_is_new F
  have off : ∀ q ∈ news, q.1 ≠ s₁.heap.objs.size := fun q hq => Nat.ne_of_lt (Heap.lt_size (N q hq).1)
  have hC0 : ∀ C, s₁.heap.objs.size + 1 ≤ C → h₀.get? C = none ∧ C ≠ L := fun C hC => by
    refine ⟨?_, fun e => ?_⟩
    · cases q : h₀.get? C with
      | none => rfl
      | some o => exact absurd (Heap.lt_size (F.keep _ _ q)) (by (first | lia | omega))
    · have := F.ns.lt
      rw [← e] at this
      exact absurd this (by (first | lia | omega))
  have hN₃ : ∀ (oI : Obj) (C : Addr) (s₃ : Shared) (m₃ : Str → Option Value) (oC : Obj), s₁.heap.objs.size + 1 ≤ C → s₃.heap.get? C = some oC →
      (∀ b o, b ∉ [s₁.heap.objs.size] → (s₁.heap.push oI).get? b = some o → s₃.heap.get? b = some o) → Fr h₀ L s₃.heap m ∧ News h₀ L s₃.heap ((C, oC) :: news) := fun oI C s₃ m₃ oC hC e hk =>
    ⟨fr_but (F.push _) hk hLI hI₀, fun q hq => by
      rcases List.mem_cons.mp hq with rfl | hq
      · exact ⟨e, (hC0 C hC).2, (hC0 C hC).1⟩
      · exact (news_but (N.grown fun _ _ e => Heap.get?_push_of_some _ e) hk off) q hq⟩
  refine ⟨_, _, _, _, _, _, rfl, Walks.list hh _ ax (Nat.ne_of_lt hax) its, hz, ⟨⟨_, Heap.get?_push_size _ rfl, rfl, rfl⟩, hl.push _⟩, fun b hb => ?_, ⟨?_, ?_⟩, ?_⟩
  · show b < (Heap.push _ _).objs.size
    rw [Heap.size_push]
    rcases List.mem_cons.mp hb with rfl | hb
    · exact Nat.lt_succ_self _
    · rw [List.mem_singleton.mp hb]; exact Nat.lt_succ_of_lt hax
  · intro C i v s₃ m₃ E' hC hP hn hmx hk htk
    have hC' : s₁.heap.objs.size + 1 ≤ C := by rw [← Heap.size_push]; exact hC
    obtain ⟨oC, e, hO⟩ := ns_obj hn
    obtain ⟨F₃, N₃⟩ := hN₃ _ C s₃ m₃ oC hC' e hk
    exact ht C i v oC m₃ s₃ E' hP hO hmx F₃ N₃ htk
  · intro C i v s₃ m₃ E' hC hP hp hn hmx hk htk
    have hC' : s₁.heap.objs.size + 1 ≤ C := by rw [← Heap.size_push]; exact hC
    obtain ⟨oC, e, hO⟩ := ns_obj hn
    obtain ⟨F₃, N₃⟩ := hN₃ _ C s₃ m₃ oC hC' e hk
    exact he C i v oC m₃ s₃ E' hP hp hO hmx F₃ N₃ htk
  · intro D h' tk ys vs hD hl' hpl hlen hP hF hk
    have evs : vs = its.toList := list_ext? (by rw [hlen]; simp) fun j v e => by simpa using hP j v e
    subst evs
    obtain ⟨n, eD⟩ := hpl
    have hD1 : s₁.heap.get? D = none := by
      cases q : s₁.heap.get? D with
      | none => rfl
      | some o => rw [show _ = some o from Heap.get?_push_of_some _ q] at hD; cases hD
    have hDn : ∀ q ∈ news, q.1 ≠ D := fun q hq e => by
      have := (N q hq).1
      rw [e, hD1] at this; cases this
    have hDL : D ≠ L := fun e => by
      obtain ⟨o, _, _, ho, _⟩ := F.ns
      rw [← e, hD1] at ho; cases ho
    have hD₀ : h₀.get? D = none := by
      cases q : h₀.get? D with
      | none => rfl
      | some o => have := F.keep _ _ q; rw [hD1] at this; cases this
    have ha : Off1 D news := by
      clear hf ht he hN₃ N hm off
      induction news with
      | nil => trivial
      | cons q r ih => exact ⟨hDn q (.head _), ih fun q hq => hDn q (.tail _ hq)⟩
    have := hf D ys.toList n h' tk (fr_but (F.push _) hk hLI hI₀) (fun q hq => by
      rcases List.mem_cons.mp hq with rfl | hq
      · refine ⟨?_, hDL, hD₀⟩
        rw [Array.toArray_toList]; exact eD
      · exact (news_but (N.grown fun _ _ e => Heap.get?_push_of_some _ e) hk off) q hq) ha hF
    exact this
end

end
end
section
local macro_rules | `(tactic| walk_at "execs cons") => `(tactic| (k_extra "hd 0"; intro tk9))
local macro_rules | `(tactic| walk_at "execs nil") => `(tactic| (k_extra "hd 1"; intro tk9))
local macro_rules | `(tactic| kpt_signs) => `(tactic| k_extra "hd 2")
local macro_rules | `(tactic| kde_deep) => `(tactic| first | exact neG (by kpt_signs) | exact neL (by kpt_signs) | (rename _ ∧ _ => c9; clear c9; kde_deep))
local macro_rules | `(tactic| k_ne) => `(tactic| k_extra "hd 3")
local macro_rules | `(tactic| k_all) => `(tactic| first | exact all_nil | (refine' all_cons ?a ?b; (case a => k_ne); (case b => k_all)))
local macro_rules | `(tactic| k_lt $h:ident) => `(tactic| (replace $h := allLt_of $h; dsimp only [AllLt] at $h:ident))
local macro_rules | `(tactic| k_steps) => `(tactic| k_extra "hd 4")
local macro_rules | `(tactic| lcg_lit) => `(tactic| ((with_reducible show wpAny _ _ _ _ _ _); k_fold))
local macro_rules | `(tactic| walk_at "m enter") => `(tactic| (k_extra "hd 5"; intro g' L' h' FG' F' N' B' X' T' l1 l0; (replace l0 := eqN l0); (try dsimp only); (try k_lt l1); (try lcg_lit)))
local macro_rules | `(tactic| walk_at "m enter cells") => `(tactic| (k_extra "hd 6"; intro g' L' h' tk' cells' FG' F' N' Y' B' X' T' l1 l0; (replace l0 := eqN l0); (try k_lt l1); k_cells Y'; (try simp only [List.cons_append, List.nil_append] at N'); (try dsimp only); (try lcg_lit)))
local macro_rules | `(tactic| walk_at "m inline") => `(tactic| (k_extra "hd 7"; intro g' L' h' FG' F' N' B' X' T'; (try dsimp only); (try lcg_lit)))
local macro_rules | `(tactic| walk_at "call ref") => `(tactic| (k_here; k_dflt (first
  | (refine wpAny_call ?_; walk_at "m inline")
  | (refine' call_cls ?k1 ?k2 ?k3 ?k4 ?k5 ?k6 ?_; (case k1 => k_asm); (case k2 => k_asm); (case k3 => k_asm); (case k4 => k_is); (case k5 => k_is); (case k6 => k_is); k_whole; intro x' d' h' F' N' l1 l2; (try k_lt l1); (try k_lt2 l2); (try k_sweep); walk_at "m inline"))))
local macro_rules | `(tactic| size_fits) => `(tactic| k_extra "hd 9")
local macro_rules | `(tactic| walk_at "call type:list") => `(tactic| (k_extra "hd 10"; intro D' n' ys' h' tk' F' N' sa' l1; (try k_lt l1); (try k_sweep)))
local macro_rules | `(tactic| walk_at "m codes") => `(tactic| k_extra "hd 11")
local macro_rules | `(tactic| walk_at "setAttr ref") => `(tactic| (k_extra "hd 12"; intro d' h' F' N' l1; (try dsimp only at N'); (try k_lt l1); (try k_sweep)))
local macro_rules | `(tactic| walk_at "m enter made") => `(tactic| (k_extra "hd 13"; intro g' L' h' FG' F' N' B' st' l1 l0; (replace l0 := eqN l0); (have X' := Frag.In.keeps (by assumption) st'); (have T' := Top.keeps (by assumption) st'); (try dsimp only); (try k_lt l1); (try lcg_lit)))
local macro_rules | `(tactic| walk_at "call builtin:list.pop") => `(tactic| (k_extra "hd 14"; intro h' F' N'; (try k_sweep)))
local macro_rules | `(tactic| walk_at "truthy ref") => `(tactic| (k_extra "hd 15"; intro tk))
local macro_rules | `(tactic| walk_at "eval Name") => `(tactic| k_extra "hd 16")
local macro_rules | `(tactic| walk_at "getMethod ref") => `(tactic| k_extra "hd 17")
local macro_rules | `(tactic| walk_at "callWith ref") => `(tactic| k_extra "hd 18")
local macro_rules | `(tactic| kxw_bool) => `(tactic| first | ((repeat (first | exact sub_nil | (with_reducible exact fun _ h => h) | ((with_reducible refine' sub_bothA ?e ?_); (case e => rfl)) | (with_reducible refine sub_skip ?_))); done) | exact sub_nil | (refine' sub_cons ?a ?b; (case a => k_mem); (case b => kxw_bool)))
local macro_rules | `(tactic| kxw_int) => `(tactic| first | exact off_nil _ | (refine' off_cons ?a ?b; (case a => k_ne); (case b => kxw_int)))
local macro_rules | `(tactic| kxw_text) => `(tactic| first | exact in_head | (refine' in_tail ?a; (case a => kxw_text)))
local macro_rules | `(tactic| kin_val) => `(tactic| first | exact Rest.nil | (refine' Rest.drop2 ?a ?b; (case a => kxw_text); (case b => kin_val)) | (refine' Rest.keep ?a ?b; (case a => kxw_int); (case b => kin_val)))
local macro_rules | `(tactic| walk_at "m args") => `(tactic| k_extra "hd 19")
theorem startHead : True := by
  k_with "hd 0" => (k_here; (with_reducible show wpAny _ _ _ _ _ (Shared.mk _ _ _ (_ + _) _)); (with_reducible refine gen9 ?_))
  k_with "hd 1" => (k_here; (with_reducible show wpAny _ _ _ _ _ (Shared.mk _ _ _ (_ + _) _)); (with_reducible refine gen9 ?_))
  k_with "hd 2" => (rename _ ∧ _ => c9; with_reducible first | exact c9.1 | exact c9.2.1 | exact c9.2.2.1 | exact c9.2.2.2.1 | exact c9.2.2.2.2.1 | exact c9.2.2.2.2.2.1 | exact c9.2.2.2.2.2.2.1 | exact c9.2.2.2.2.2.2.2.1 | exact c9.2.2.2.2.2.2.2.2.1 | exact c9.2.2.2.2.2.2.2.2.2.1 | exact c9.2.2.2.2.2.2.2.2.2.2.1 | exact c9.2.2.2.2.2.2.2.2.2.2.2.1 | exact c9.2.2.2.2.2.2.2.2.2.2.2.2.1)
  k_with "hd 3" => ((try dsimp only); first | (with_reducible assumption) | (exact Ne.symm (by with_reducible assumption)) | (refine neN ?_; first | (with_reducible exact neL (by with_reducible assumption)) | (with_reducible exact neG (by with_reducible assumption)) | kde_deep | omega))
  k_with "hd 4" => repeat' (first | (k_unfold; (try dsimp only)) | (k_end; wrow_close) | walk1 | (dsimp only; walk1) | (leave1; walk_say "STEP leave1"; try dsimp only) | (dsimp only; k_unfold; (try dsimp only)) | fail "no step")
  k_with "hd 5" => (refine' enter ?z9k1 ?z9k2 ?z9k3 ?z9k4 ?z9k5 ?z9kA ?z9kF ?z9kK ?z9k6 ?z9k7 ?z9k8 ?z9k9 ?z9kB ?z9kk ?_ ?z9c2 ?z9c3 ?z9c4 ?z9c5; (case z9kA => exact rfl); (case z9kF => exact rfl); (case z9kK => assumption); (case z9k1 => k_asm); (case z9k2 => k_asm); (case z9k3 => k_asm); (case z9k4 => k_asm); (case z9k5 => k_asm); (case z9k6 => k_is); (case z9k7 => k_is); (case z9k8 => ktr_room); (case z9k9 => exact BindsTo.of_eq rfl); (case z9c5 => decide); (case z9kB => exact locs rfl); (case z9c2 => exact rfl); (case z9c3 => exact rfl); (case z9c4 => exact rfl); (case z9kk => assumption); k_whole)
  k_with "hd 6" => (refine' enterK ?z9k1 ?z9k2 ?z9k3 ?z9k4 ?z9k5 ?z9kA ?z9kF ?z9kK ?z9k6 ?z9k7 ?z9k8 ?z9k9 ?z9kB ?z9kN ?z9kk ?_ ?z9c2 ?z9c3 ?z9c4; (case z9kA => exact rfl); (case z9kF => exact rfl); (case z9kK => assumption); (case z9k1 => k_asm); (case z9k2 => k_asm); (case z9k3 => k_asm); (case z9k4 => k_asm); (case z9k5 => k_asm); (case z9k6 => k_is); (case z9k7 => k_is); (case z9k8 => ktr_room); (case z9k9 => exact BindsTo.of_eq rfl); (case z9kB => exact rfl); (case z9kN => decide); (case z9c2 => exact rfl); (case z9c3 => exact rfl); (case z9c4 => exact rfl); (case z9kk => assumption); k_whole)
  k_with "hd 7" => (refine' code_def ?z9k1 ?z9k2 ?z9k3 ?z9k4 ?z9k5 ?z9kA ?z9kF ?z9kK ?z9k6 ?z9k7 ?z9k8 ?z9k9 ?z9kB ?_ ?z9c2 ?z9c3 ?z9c4 ?z9c5; (case z9kA => exact rfl); (case z9kF => exact rfl); (case z9kK => first | exact rfl | assumption); (case z9k1 => k_asm); (case z9k2 => k_asm); (case z9k3 => k_asm); (case z9k4 => k_asm); (case z9k5 => k_asm); (case z9k6 => k_is); (case z9k7 => k_is); (case z9k8 => ktr_room); (case z9k9 => exact BindsTo.of_eq rfl); (case z9c5 => decide); (case z9kB => exact locs rfl); (case z9c2 => exact rfl); (case z9c3 => exact rfl); (case z9c4 => exact rfl); k_whole)
  k_with "hd 9" => (simp only [PySem.sizeLine_eq, List.size_toArray, Array.size_push, List.length_append, List.length_cons, List.length_nil]; (first | lia | omega))
  k_with "hd 10" => (k_here; (with_reducible show wpAny _ _ (call (Value.type _) [Value.str _ _]) _ _ _); k_dflt (refine' list_strK ?z9hh ?z9F ?z9N ?z9z ?_; (case z9hh => exact rfl); (case z9F => k_asm); (case z9N => k_asm); (case z9z => size_fits); k_whole))
  k_with "hd 11" => (rename Frag.In _ _ => X9; have C9 := codeHd_of_K (c := 111) (P := 107) X9 (by kernel_rfl))
  k_with "hd 12" => (k_here; (with_reducible show wpAny _ _ (setAttr _ (Str.ofString "read") _) _ _ _); k_dflt (refine' setAttr_fnK ?z9F ?z9N ?z9U ?z9n ?_; (case z9F => k_asm); (case z9N => k_asm); (case z9U => k_updF); (case z9n => exact fn_no_read); k_whole))
  k_with "hd 13" => (refine' enterX ?z9k1 ?z9k2 ?z9k4 ?z9k5 ?z9kA ?z9kF ?z9kK ?z9k6 ?z9kd ?z9k7 ?z9k8 ?z9k9 ?z9kB ?z9kk ?_ ?z9c5 ?z9c2 ?z9c3 ?z9c4; (case z9kA => exact rfl); (case z9kF => exact rfl); (case z9kK => assumption); (case z9k1 => k_asm); (case z9k2 => k_asm); (case z9k4 => k_asm); (case z9k5 => exact Top.nolimit (by k_asm)); (case z9k6 => exact News.get (by k_asm) (by k_mem)); (case z9kd => exact rfl); (case z9k7 => exact codeRec_news (by k_asm) (by k_mem) (by assumption) (by assumption)); (case z9k8 => ktr_room); (case z9k9 => exact BindsTo.of_eq rfl); (case z9c5 => decide); (case z9kB => exact locs rfl); (case z9c2 => exact rfl); (case z9c3 => exact rfl); (case z9c4 => exact rfl); (case z9kk => assumption); k_whole)
  k_with "hd 14" => (k_here; (with_reducible show wpAny _ _ (call (Value.builtin _) [Value.ref _, Value.int _ _]) _ _ _); k_dflt (refine' pop0 ?z9F ?z9N ?z9U ?z9z ?_; (case z9F => k_asm); (case z9N => k_asm); (case z9U => k_upd); (case z9z => size_fits); k_whole))
  k_with "hd 15" => (k_here; k_dflt (first | (refine' truthyNil ?z9N ?z9m ?_; (case z9N => k_asm); (case z9m => k_mem); k_whole) | (refine' truthyCons ?z9N ?z9m ?z9z ?_; (case z9N => k_asm); (case z9m => k_mem); (case z9z => size_fits); k_whole)))
  k_with "hd 16" => (k_here; k_dflt (first
  | (refine' nameX_L ?z9F ?z9v ?_ ?z9a ?z9b; (case z9F => k_asm); (case z9a => rfl); (case z9b => rfl); (case z9v => first | assumption | rfl); k_whole)
  | (refine' nameX_F ?z9N ?z9c ?z9m ?z9d ?_ ?z9a ?z9b; (case z9a => rfl); (case z9b => rfl); (case z9N => k_asm); (case z9c => rfl); (case z9m => k_mem); (case z9d => k_asm); k_whole)
  | (refine' nameX_C ?z9N ?z9c ?z9m ?z9d ?_ ?z9a ?z9b; (case z9a => rfl); (case z9b => rfl); (case z9N => k_asm); (case z9c => rfl); (case z9m => k_mem); (case z9d => k_asm); k_whole)
  | (refine' nameX_K ?z9F ?z9X ?z9T ?z9e ?_ ?z9a ?z9b; (case z9F => k_asm); (case z9X => k_asm); (case z9T => k_asm); (case z9a => rfl); (case z9b => rfl); (case z9e => k_is); k_whole)
  | (refine' nameX_B ?z9F ?z9X ?z9T ?z9e ?z9v ?z9n ?_ ?z9a ?z9b; (case z9F => k_asm); (case z9X => k_asm); (case z9T => k_asm); (case z9a => rfl); (case z9b => rfl); (case z9e => k_is); (case z9v => boot_fast); (case z9n => decide); k_whole)))
  k_with "hd 17" => (k_here; (with_reducible show wpAny _ _ (getMethod (Value.ref _) (Str.ofString "read") _) _ _ _); k_dflt (refine' getMethod_fn ?z9N ?z9f ?z9d ?z9n ?z9l ?z9v ?_; (case z9N => k_asm); (case z9f => k_mem); (case z9d => k_mem); (case z9n => exact fn_no_read); (case z9l => k_get); (case z9v => k_handed); k_whole))
  k_with "hd 18" => (k_here; k_dflt (first
  | (refine' callWith_F ?z9k1 ?_; (case z9k1 => exact FnAt.of (by k_asm) (by k_mem)); k_whole)
  | (refine' callWith_F0 ?z9k1 ?_; (case z9k1 => exact FnAt.of (by k_asm) (by k_mem)); k_whole; try dsimp only [List.nil_append, List.cons_append])))
  k_with "hd 19" => ((case B => k_asm); (case F => k_asm); (case X => k_asm); (case N => k_asm); (case T => k_asm); (case hk => first | exact rfl | assumption); (case hd => ktr_room); (case hu => ktr_units); (case hp => kxw_bool); (case hr => kin_val))
  trivial
section
theorem startDefs2 : True := by
  w_top off
  trivial
local macro_rules | `(tactic| walk_at "zz none") => `(tactic| fail "zz none")
noncomputable abbrev row := PySem.Challenge.rw_xe0009_02
noncomputable abbrev ent (P : Params) (x : Str) (t : Tok) (v : Value) : DictEntry := ⟨PyData.keyHash P x, .str x t, v⟩
noncomputable abbrev rdDict (P : Params) (t : Nat → Tok) (tl : Tok) (ln : Int) (st pb : Addr) : Obj :=
  dictOf [ent P "lineno" (t 0) (.int ln tl), ent P "instream" (t 2) (.ref st), ent P "whitespace" (t 3) (.str "\n\t\r " (t 4)), ent P "pushback" (t 5) (.ref pb)] 4
/-- the def at a place within the text's own def at a place of its top -/
noncomputable def inner (p : Program) (i j : Nat) : Option (Arguments × List Stmt × Scope) :=
  match p.main.body[i]? with
  | some (.FunctionDef _ _ b _ _ _ _ _ _ _) => match b[j]? with
    | some (.FunctionDef _ ps b' _ _ _ sc _ _ _) => some (ps, b', sc)
    | _ => none
  | _ => none
noncomputable def readParts : Arguments × List Stmt × Scope := match inner PySem.Challenge.rw_xe0009_02.prog 11 1 with | some x => x | none => ({ posonlyargs := [], args := [], vararg := none, kwonlyargs := [], kw_defaults := [], kwarg := none, defaults := [] }, [], { kind := .function, names := [], isGenerator := false, isCoroutine := false })
/-- a reader's addresses, and what of its parts is never looked at -/
structure RdA where
  x : Nat
  d : Nat
  pb : Nat
  st : Nat
  sd : Nat
  rf : Nat
  rc : Nat
  sg : Nat
  cl : Nat
  t : Nat → Tok
  fd : FuncData
  q : Str
  dc : Value
  pm : Value
  ct : Value
  oc : Obj
  ob : Obj
  vs : Array Value
structure RdA.Ok (R : RdA) : Prop where
  oc : R.oc.data = .fields R.vs
  q : R.vs[1]? = some (.str R.q (R.t 7))
  ob : R.ob.data = .cell (some (.ref R.sg))
  lt : R.cl < R.sg ∧ R.sg < R.rf ∧ R.rf < R.st ∧ R.st < R.sd ∧ R.sd < R.d ∧ R.d < R.x ∧ R.x < R.pb ∧ (R.rc < R.cl ∨ (R.sg < R.rc ∧ R.rc < R.rf))
noncomputable abbrev readFn (R : RdA) : Obj := fnMade "read" R.q readParts.1 readParts.2.1 readParts.2.2 [("signs", R.cl)] R.dc R.pm R.rc R.ct
noncomputable abbrev streamFn (R : RdA) : Obj := { cls := .type "function", dict := some R.sd, data := .func R.fd }
noncomputable abbrev streamDict (P : Params) (R : RdA) : Obj := dictOf [ent P "read" (R.t 6) (.ref R.rf)] 1
/-- the part that reads a sign -/
noncomputable abbrev rdIn (P : Params) (R : RdA) (vs : List Value) (n : Nat) : List (Addr × Obj) :=
  [(R.st, streamFn R), (R.sd, streamDict P R), (R.rf, readFn R), (R.rc, R.oc), (R.cl, R.ob), (R.sg, listOf vs.toArray n)]
noncomputable abbrev rdAll (P : Params) (R : RdA) (ln : Int) (tl : Tok) (ps : List Value) (k : Nat) (vs : List Value) (n : Nat) : List (Addr × Obj) :=
  (R.x, instObj 52 R.d) :: (R.d, rdDict P R.t tl ln R.st R.pb) :: (R.pb, listOf ps.toArray k) :: rdIn P R vs n
/-- the parts lie apart -/
noncomputable abbrev RdA.Apart (R : RdA) : Prop := R.cl < R.sg ∧ R.sg < R.rf ∧ R.rf < R.st ∧ R.st < R.sd ∧ R.sd < R.d ∧ R.d < R.x ∧ R.x < R.pb ∧ (R.rc < R.cl ∨ (R.sg < R.rc ∧ R.rc < R.rf))
theorem RdA.n01 {R : RdA} (h : R.Apart) : @Ne Addr R.cl R.sg := fun (e : (_ : Nat) = _) => by (first | lia | omega)
theorem RdA.n02 {R : RdA} (h : R.Apart) : @Ne Addr R.cl R.rc := fun (e : (_ : Nat) = _) => by (first | lia | omega)
theorem RdA.n03 {R : RdA} (h : R.Apart) : @Ne Addr R.cl R.rf := fun (e : (_ : Nat) = _) => by (first | lia | omega)
theorem RdA.n04 {R : RdA} (h : R.Apart) : @Ne Addr R.cl R.st := fun (e : (_ : Nat) = _) => by (first | lia | omega)
theorem RdA.n05 {R : RdA} (h : R.Apart) : @Ne Addr R.cl R.sd := fun (e : (_ : Nat) = _) => by (first | lia | omega)
theorem RdA.n06 {R : RdA} (h : R.Apart) : @Ne Addr R.cl R.d := fun (e : (_ : Nat) = _) => by (first | lia | omega)
theorem RdA.n07 {R : RdA} (h : R.Apart) : @Ne Addr R.cl R.x := fun (e : (_ : Nat) = _) => by (first | lia | omega)
theorem RdA.n08 {R : RdA} (h : R.Apart) : @Ne Addr R.cl R.pb := fun (e : (_ : Nat) = _) => by (first | lia | omega)
theorem RdA.n12 {R : RdA} (h : R.Apart) : @Ne Addr R.sg R.rc := fun (e : (_ : Nat) = _) => by (first | lia | omega)
theorem RdA.n13 {R : RdA} (h : R.Apart) : @Ne Addr R.sg R.rf := fun (e : (_ : Nat) = _) => by (first | lia | omega)
theorem RdA.n14 {R : RdA} (h : R.Apart) : @Ne Addr R.sg R.st := fun (e : (_ : Nat) = _) => by (first | lia | omega)
theorem RdA.n15 {R : RdA} (h : R.Apart) : @Ne Addr R.sg R.sd := fun (e : (_ : Nat) = _) => by (first | lia | omega)
theorem RdA.n16 {R : RdA} (h : R.Apart) : @Ne Addr R.sg R.d := fun (e : (_ : Nat) = _) => by (first | lia | omega)
theorem RdA.n17 {R : RdA} (h : R.Apart) : @Ne Addr R.sg R.x := fun (e : (_ : Nat) = _) => by (first | lia | omega)
theorem RdA.n18 {R : RdA} (h : R.Apart) : @Ne Addr R.sg R.pb := fun (e : (_ : Nat) = _) => by (first | lia | omega)
theorem RdA.n23 {R : RdA} (h : R.Apart) : @Ne Addr R.rc R.rf := fun (e : (_ : Nat) = _) => by (first | lia | omega)
theorem RdA.n24 {R : RdA} (h : R.Apart) : @Ne Addr R.rc R.st := fun (e : (_ : Nat) = _) => by (first | lia | omega)
theorem RdA.n25 {R : RdA} (h : R.Apart) : @Ne Addr R.rc R.sd := fun (e : (_ : Nat) = _) => by (first | lia | omega)
theorem RdA.n26 {R : RdA} (h : R.Apart) : @Ne Addr R.rc R.d := fun (e : (_ : Nat) = _) => by (first | lia | omega)
theorem RdA.n27 {R : RdA} (h : R.Apart) : @Ne Addr R.rc R.x := fun (e : (_ : Nat) = _) => by (first | lia | omega)
theorem RdA.n28 {R : RdA} (h : R.Apart) : @Ne Addr R.rc R.pb := fun (e : (_ : Nat) = _) => by (first | lia | omega)
theorem RdA.n34 {R : RdA} (h : R.Apart) : @Ne Addr R.rf R.st := fun (e : (_ : Nat) = _) => by (first | lia | omega)
theorem RdA.n35 {R : RdA} (h : R.Apart) : @Ne Addr R.rf R.sd := fun (e : (_ : Nat) = _) => by (first | lia | omega)
theorem RdA.n36 {R : RdA} (h : R.Apart) : @Ne Addr R.rf R.d := fun (e : (_ : Nat) = _) => by (first | lia | omega)
theorem RdA.n37 {R : RdA} (h : R.Apart) : @Ne Addr R.rf R.x := fun (e : (_ : Nat) = _) => by (first | lia | omega)
theorem RdA.n38 {R : RdA} (h : R.Apart) : @Ne Addr R.rf R.pb := fun (e : (_ : Nat) = _) => by (first | lia | omega)
theorem RdA.n45 {R : RdA} (h : R.Apart) : @Ne Addr R.st R.sd := fun (e : (_ : Nat) = _) => by (first | lia | omega)
theorem RdA.n46 {R : RdA} (h : R.Apart) : @Ne Addr R.st R.d := fun (e : (_ : Nat) = _) => by (first | lia | omega)
theorem RdA.n47 {R : RdA} (h : R.Apart) : @Ne Addr R.st R.x := fun (e : (_ : Nat) = _) => by (first | lia | omega)
theorem RdA.n48 {R : RdA} (h : R.Apart) : @Ne Addr R.st R.pb := fun (e : (_ : Nat) = _) => by (first | lia | omega)
theorem RdA.n56 {R : RdA} (h : R.Apart) : @Ne Addr R.sd R.d := fun (e : (_ : Nat) = _) => by (first | lia | omega)
theorem RdA.n57 {R : RdA} (h : R.Apart) : @Ne Addr R.sd R.x := fun (e : (_ : Nat) = _) => by (first | lia | omega)
theorem RdA.n58 {R : RdA} (h : R.Apart) : @Ne Addr R.sd R.pb := fun (e : (_ : Nat) = _) => by (first | lia | omega)
theorem RdA.n67 {R : RdA} (h : R.Apart) : @Ne Addr R.d R.x := fun (e : (_ : Nat) = _) => by (first | lia | omega)
theorem RdA.n68 {R : RdA} (h : R.Apart) : @Ne Addr R.d R.pb := fun (e : (_ : Nat) = _) => by (first | lia | omega)
theorem RdA.n78 {R : RdA} (h : R.Apart) : @Ne Addr R.x R.pb := fun (e : (_ : Nat) = _) => by (first | lia | omega)

end
section
theorem startLawD2 : True := by
  w_top off
  trivial
noncomputable def bodyOf (p : Program) (i k : Nat) : List Stmt := match p.main.body[i]? with
  | some (.FunctionDef _ _ b _ _ _ _ _ _ _) => b.drop k
  | _ => []
noncomputable def scopeOf (p : Program) (i : Nat) : Scope := match p.main.body[i]? with
  | some (.FunctionDef _ _ _ _ _ _ sc _ _ _) => sc
  | _ => { kind := .function, names := [], isGenerator := false, isCoroutine := false }
noncomputable def lawBody (k : Nat) : List Stmt := bodyOf PySem.Challenge.rw_xe0009_02.prog 16 k
noncomputable def lawScope : Scope := scopeOf PySem.Challenge.rw_xe0009_02.prog 16
noncomputable abbrev lawEnv (L fa : Addr) (cd : Value) : Env := envOfC (Str.ofString "law") lawScope L fa cd
noncomputable abbrev lawErr (w : World) (L fa : Addr) (cd : Value) (R1 : Value → Shared → Prop) : Value → Shared → Prop := fun e s' =>
  wpAny (model row.prog w) (callerA.deeper (lawEnv L fa cd)) (leaving (lawEnv L fa cd) e) (fun _ s'' => R1 e s'') (fun e' s'' => R1 e' s'') s'

end
section
theorem startLawG2 : True := by
  w_top off
  trivial
local macro_rules | `(tactic| walk_at "zz none") => `(tactic| fail "zz none")
/-- the law's frame from its names on -/
noncomputable abbrev frmLaw (l : List Nat) (Dn : Nat) (u1 u2 u3 u4 u5 : Tok) (m : Str → Option Value) : Str → Option Value := fun y =>
  if y = Str.ofString "names" then some (.ref Dn) else if y = Str.ofString "behind" then some (.str (tx ((behR (beh (hk l))).map sig)) u5) else if y = Str.ofString "back" then some (.str (tx ((backR (fro (hk l))).map sig)) u4) else if y = Str.ofString "bare" then some (.str (tx ((bareR l).map sig)) u3)
  else if y = Str.ofString "marked" then some (.str (tx ((markedR l).map sig)) u2) else if y = Str.ofString "plain" then some (.str (tx (l.map sig)) u1) else m y
noncomputable abbrev LawQ (g : Heap) (L : Addr) (Q : Flow → Shared → Prop) (s : Shared) : Prop := ∀ h' tk m' nw qs, Fr g L h' m' → News g L h' nw → (107, tabObj qs) ∈ nw → Q (.ret (.bool true)) { s with heap := h', toks := tk }
theorem News.ne_cell {h₀ h : Heap} {L a b : Addr} {nw : List (Addr × Obj)} {vs : Array Value} {k : Nat} {o : Obj} {v : Option Value} (N : News h₀ L h nw) (h1 : (a, listOf vs k) ∈ nw) (h2 : (b, o) ∈ nw) (d : o.data = .cell v) : @Ne Addr a b := fun e => by
  subst e
  have := (N _ h1).1.symm.trans (N _ h2).1
  cases this
  cases d
theorem News.ne_tab {h₀ h : Heap} {L a b : Addr} {nw : List (Addr × Obj)} {vs qs : Array Value} {k : Nat} (N : News h₀ L h nw) (h1 : (a, listOf vs k) ∈ nw) (h2 : (b, tabObj qs) ∈ nw) : @Ne Addr a b := fun e => by
  subst e
  have := (N _ h1).1.symm.trans (N _ h2).1
  cases this

end
section
theorem startRead2 : True := by
  w_top off
  trivial
theorem read_nil (w : World) (R : RdA) (h : R.Ok) (n : Nat) (u : Tok) :
   Does row.prog w (hd.heap_39 w.params) 4 40 R.rf [.int 1 u] [(R.rf, readFn R), (R.rc, R.oc), (R.cl, R.ob), (R.sg, listOf ([] : List Value).toArray n)]
     (fun v post => (∃ t, v = .str "" t) ∧ post = [(R.rf, readFn R), (R.rc, R.oc), (R.cl, R.ob), (R.sg, listOf ([] : List Value).toArray n)]) := by
  have h9 : RdA.Apart _ := RdA.Ok.lt (by assumption); have n01 := RdA.n01 h9; have n02 := RdA.n02 h9; have n03 := RdA.n03 h9; have n04 := RdA.n04 h9; have n05 := RdA.n05 h9; have n06 := RdA.n06 h9; have n07 := RdA.n07 h9; have n08 := RdA.n08 h9; have n12 := RdA.n12 h9; have n13 := RdA.n13 h9; have n14 := RdA.n14 h9; have n15 := RdA.n15 h9; have n16 := RdA.n16 h9; have n17 := RdA.n17 h9; have n18 := RdA.n18 h9; have n23 := RdA.n23 h9; have n24 := RdA.n24 h9; have n25 := RdA.n25 h9; have n26 := RdA.n26 h9; have n27 := RdA.n27 h9; have n28 := RdA.n28 h9; have n34 := RdA.n34 h9; have n35 := RdA.n35 h9; have n36 := RdA.n36 h9; have n37 := RdA.n37 h9; have n38 := RdA.n38 h9; have n45 := RdA.n45 h9; have n46 := RdA.n46 h9; have n47 := RdA.n47 h9; have n48 := RdA.n48 h9; have n56 := RdA.n56 h9; have n57 := RdA.n57 h9; have n58 := RdA.n58 h9; have n67 := RdA.n67 h9; have n68 := RdA.n68 h9; have n78 := RdA.n78 h9
  obtain ⟨h1, h2, h3, h4⟩ := h
  unfold Does
  k_fill
  intro p loose mean mg mb dp un gd cn cs a ccd cl outer A₀ base h₀ L m s RR B F X N T hk hd' hu hret
  k_dflt walk_at "m enter made"
  generalize hsc : readParts.2.2 = sc
  generalize hb : readParts.2.1 = b
  conv at hsc => lhs; whnf
  conv at hb => lhs; whnf
  subst hsc
  subst hb
  k_steps
  exact Left.intro (by k_asm) (by k_asm) (fun p h => h) ⟨⟨_, rfl⟩, rfl⟩

theorem read_cons (w : World) (R : RdA) (h : R.Ok) (y : Value) (q : List Value) (hz : q.length ≤ 10000) (n : Nat) (u : Tok) :
   Does row.prog w (hd.heap_39 w.params) 4 40 R.rf [.int 1 u] [(R.rf, readFn R), (R.rc, R.oc), (R.cl, R.ob), (R.sg, listOf (y :: q).toArray n)]
     (fun v post => v = y ∧ post = [(R.rf, readFn R), (R.rc, R.oc), (R.cl, R.ob), (R.sg, listOf q.toArray (n + 1))]) := by
  have h9 : RdA.Apart _ := RdA.Ok.lt (by assumption); have n01 := RdA.n01 h9; have n02 := RdA.n02 h9; have n03 := RdA.n03 h9; have n04 := RdA.n04 h9; have n05 := RdA.n05 h9; have n06 := RdA.n06 h9; have n07 := RdA.n07 h9; have n08 := RdA.n08 h9; have n12 := RdA.n12 h9; have n13 := RdA.n13 h9; have n14 := RdA.n14 h9; have n15 := RdA.n15 h9; have n16 := RdA.n16 h9; have n17 := RdA.n17 h9; have n18 := RdA.n18 h9; have n23 := RdA.n23 h9; have n24 := RdA.n24 h9; have n25 := RdA.n25 h9; have n26 := RdA.n26 h9; have n27 := RdA.n27 h9; have n28 := RdA.n28 h9; have n34 := RdA.n34 h9; have n35 := RdA.n35 h9; have n36 := RdA.n36 h9; have n37 := RdA.n37 h9; have n38 := RdA.n38 h9; have n45 := RdA.n45 h9; have n46 := RdA.n46 h9; have n47 := RdA.n47 h9; have n48 := RdA.n48 h9; have n56 := RdA.n56 h9; have n57 := RdA.n57 h9; have n58 := RdA.n58 h9; have n67 := RdA.n67 h9; have n68 := RdA.n68 h9; have n78 := RdA.n78 h9
  obtain ⟨h1, h2, h3, h4⟩ := h
  unfold Does
  k_fill
  intro p loose mean mg mb dp un gd cn cs a ccd cl outer A₀ base h₀ L m s RR B F X N T hk hd' hu hret
  k_dflt walk_at "m enter made"
  generalize hsc : readParts.2.2 = sc
  generalize hb : readParts.2.1 = b
  conv at hsc => lhs; whnf
  conv at hb => lhs; whnf
  subst hsc
  subst hb
  k_steps
  exact Left.intro (by k_asm) (by k_asm) (fun p h => h) ⟨rfl, rfl⟩

end
section
theorem startChar2 : True := by
  w_top off
  trivial
local macro_rules | `(tactic| walk_at "zz none") => `(tactic| fail "zz none")
local macro_rules | `(tactic| walk_at "call ref") => `(tactic| (k_here; rename RdA.Ok _ => ok9; k_dflt (
   (refine' Does.use (read_nil _ _ ok9 _ _) ?B ?F ?X ?N ?T ?hk ?hd ?hu ?hp ?hr ?_; walk_at "m args"; intro n0 v post h' tk' l0 hP F' N'; obtain ⟨⟨t9, e9⟩, e8⟩ := hP; subst e9; subst e8; clear l0; (try dsimp only [List.cons_append, List.nil_append] at N'); (try k_sweep)))))
theorem char_nil (w : World) (R : RdA) (h : R.Ok) (ln : Int) (tl : Tok) (ps : List Value) (k n : Nat) :
   Does row.prog w (hd.heap_39 w.params) 8 80 35 [.ref R.x] (rdAll w.params R ln tl ps k [] n)
     (fun v post => (∃ t, v = .str "" t) ∧ post = rdAll w.params R ln tl ps k [] n) := by
  have h0 := h
  have h9 : RdA.Apart _ := RdA.Ok.lt (by assumption); have n01 := RdA.n01 h9; have n02 := RdA.n02 h9; have n03 := RdA.n03 h9; have n04 := RdA.n04 h9; have n05 := RdA.n05 h9; have n06 := RdA.n06 h9; have n07 := RdA.n07 h9; have n08 := RdA.n08 h9; have n12 := RdA.n12 h9; have n13 := RdA.n13 h9; have n14 := RdA.n14 h9; have n15 := RdA.n15 h9; have n16 := RdA.n16 h9; have n17 := RdA.n17 h9; have n18 := RdA.n18 h9; have n23 := RdA.n23 h9; have n24 := RdA.n24 h9; have n25 := RdA.n25 h9; have n26 := RdA.n26 h9; have n27 := RdA.n27 h9; have n28 := RdA.n28 h9; have n34 := RdA.n34 h9; have n35 := RdA.n35 h9; have n36 := RdA.n36 h9; have n37 := RdA.n37 h9; have n38 := RdA.n38 h9; have n45 := RdA.n45 h9; have n46 := RdA.n46 h9; have n47 := RdA.n47 h9; have n48 := RdA.n48 h9; have n56 := RdA.n56 h9; have n57 := RdA.n57 h9; have n58 := RdA.n58 h9; have n67 := RdA.n67 h9; have n68 := RdA.n68 h9; have n78 := RdA.n78 h9
  obtain ⟨h1, h2, h3, h4⟩ := h
  unfold Does
  k_fill
  intro p loose mean mg mb dp un gd cn cs a ccd cl outer A₀ base h₀ L m s RR B F X N T hk hd' hu hret
  k_dflt walk_at "m enter"
  k_steps
  exact Left.intro (by k_asm) (by k_asm) (by kxw_bool) ⟨⟨_, rfl⟩, rfl⟩



local macro_rules | `(tactic| walk_at "call ref") => `(tactic| (k_here; rename RdA.Ok _ => ok9; k_dflt (
   (refine' Does.use (read_cons _ _ ok9 _ _ ?z _ _) ?B ?F ?X ?N ?T ?hk ?hd ?hu ?hp ?hr ?_; walk_at "m args"; (case z => assumption); intro n0 v post h' tk' l0 hP F' N'; obtain ⟨e9, e8⟩ := hP; subst e9; subst e8; clear l0; (try dsimp only [List.cons_append, List.nil_append] at N'); (try k_sweep)))))
theorem char_cons (w : World) (R : RdA) (h : R.Ok) (ln : Int) (tl : Tok) (ps : List Value) (k n : Nat) (c : Nat) (tc : Tok) (q : List Value) (hz : q.length ≤ 10000) (hl : 0 ≤ ln ∧ ln ≤ 10000) :
   Does row.prog w (hd.heap_39 w.params) 8 80 35 [.ref R.x] (rdAll w.params R ln tl ps k (.str (sgn c) tc :: q) n)
     (fun v post => v = .str (sgn c) tc ∧ ∃ tl', post = rdAll w.params R (nl c ln) tl' ps k q (n + 1)) := by
  have h0 := h
  have h9 : RdA.Apart _ := RdA.Ok.lt (by assumption); have n01 := RdA.n01 h9; have n02 := RdA.n02 h9; have n03 := RdA.n03 h9; have n04 := RdA.n04 h9; have n05 := RdA.n05 h9; have n06 := RdA.n06 h9; have n07 := RdA.n07 h9; have n08 := RdA.n08 h9; have n12 := RdA.n12 h9; have n13 := RdA.n13 h9; have n14 := RdA.n14 h9; have n15 := RdA.n15 h9; have n16 := RdA.n16 h9; have n17 := RdA.n17 h9; have n18 := RdA.n18 h9; have n23 := RdA.n23 h9; have n24 := RdA.n24 h9; have n25 := RdA.n25 h9; have n26 := RdA.n26 h9; have n27 := RdA.n27 h9; have n28 := RdA.n28 h9; have n34 := RdA.n34 h9; have n35 := RdA.n35 h9; have n36 := RdA.n36 h9; have n37 := RdA.n37 h9; have n38 := RdA.n38 h9; have n45 := RdA.n45 h9; have n46 := RdA.n46 h9; have n47 := RdA.n47 h9; have n48 := RdA.n48 h9; have n56 := RdA.n56 h9; have n57 := RdA.n57 h9; have n58 := RdA.n58 h9; have n67 := RdA.n67 h9; have n68 := RdA.n68 h9; have n78 := RdA.n78 h9
  obtain ⟨h1, h2, h3, h4⟩ := h
  unfold Does
  k_fill
  intro p loose mean mg mb dp un gd cn cs a ccd cl outer A₀ base h₀ L m s RR B F X N T hk hd' hu hret
  k_dflt walk_at "m enter"
  k_steps
  · rw [nl_yes (by assumption)]
    exact Left.intro (by k_asm) (by k_asm) (by kxw_bool) ⟨rfl, _, rfl⟩
  · rw [nl_no (by assumption)]
    exact Left.intro (by k_asm) (by k_asm) (by kxw_bool) ⟨rfl, _, rfl⟩

end
section
theorem startNext2 : True := by
  w_top off
  trivial
noncomputable abbrev lexLed (P : Params) (R : RdA) (it q : Nat) (io : Obj) (ln : Int) (tl : Tok) (k : Nat) (vs : List Value) (n : Nat) : List (Addr × Obj) :=
  (it, io) :: (q, methodObj (.ref 35) (.ref R.x)) :: rdAll P R ln tl [] k vs n
theorem one_ne (c : Nat) : sgn c ≠ Str.ofString "" := fun e => by
  have := congrArg (fun x : Str => x.cps.size) e
  revert this
  show ¬ (1 = (Str.ofString "").cps.size)
  decide +kernel
section
variable {w : World} {R : RdA} {it q : Nat} {t : Tok} {ln : Int} {tl : Tok} {k n : Nat} {vs : List Value}
  {p : Program} {loose : List Str} {mean : ExcName → Option Value} {mg mb : Str → Option Value} {dp un : Nat} {gd : Option (List Code)} {cn : Str} {cs : Scope} {a : Addr} {ccd : Value} {cl : List (Str × Addr)} {outer : List Env} {A₀ : Around} {base h₀ : Heap} {L : Addr} {m : Str → Option Value} {s : Shared} {E : Value → Shared → Prop} {Q : Option Value → Shared → Prop}
theorem next_cons (h : R.Ok) {c : Nat} {tc : Tok} {ws : List Value} (hz : ws.length ≤ 10000) (hl : 0 ≤ ln ∧ ln ≤ 10000) (lt : R.pb < q ∧ q < it)
    (B : Below A₀ base outer h₀) (F : Fr h₀ L s.heap m) (X : (hd.heap_39 w.params).In h₀) (N : News h₀ L s.heap (lexLed w.params R it q (citer (.ref q) (.str "" t)) ln tl k (.str (sgn c) tc :: ws) n)) (T : Top p loose mean mg mb h₀) (hk : cs.kind = .function) (hd : dp + 8 < recursionLimit) (hu : un + 100 < cLine)
    (ret : ∀ h' tk' tl', Fr h₀ L h' m → News h₀ L h' (lexLed w.params R it q (citer (.ref q) (.str "" t)) (nl c ln) tl' k ws (n + 1)) → Q (some (.str (sgn c) tc)) { s with heap := h', toks := tk' }) :
    wpAny (model row.prog w) (ktrTop dp un gd cn cs L a ccd cl outer) (pyNext (.ref it)) Q E s := by
  have h9 : RdA.Apart _ := RdA.Ok.lt (by assumption); have n01 := RdA.n01 h9; have n02 := RdA.n02 h9; have n03 := RdA.n03 h9; have n04 := RdA.n04 h9; have n05 := RdA.n05 h9; have n06 := RdA.n06 h9; have n07 := RdA.n07 h9; have n08 := RdA.n08 h9; have n12 := RdA.n12 h9; have n13 := RdA.n13 h9; have n14 := RdA.n14 h9; have n15 := RdA.n15 h9; have n16 := RdA.n16 h9; have n17 := RdA.n17 h9; have n18 := RdA.n18 h9; have n23 := RdA.n23 h9; have n24 := RdA.n24 h9; have n25 := RdA.n25 h9; have n26 := RdA.n26 h9; have n27 := RdA.n27 h9; have n28 := RdA.n28 h9; have n34 := RdA.n34 h9; have n35 := RdA.n35 h9; have n36 := RdA.n36 h9; have n37 := RdA.n37 h9; have n38 := RdA.n38 h9; have n45 := RdA.n45 h9; have n46 := RdA.n46 h9; have n47 := RdA.n47 h9; have n48 := RdA.n48 h9; have n56 := RdA.n56 h9; have n57 := RdA.n57 h9; have n58 := RdA.n58 h9; have n67 := RdA.n67 h9; have n68 := RdA.n68 h9; have n78 := RdA.n78 h9
  obtain ⟨h1, h2, h3, h4⟩ := id h
  have X9 := X.keeps F.keep
  refine pyNext_citer rfl (News.get N (by k_mem)) (News.get N (by k_mem)) (X9 35 _ (by with_unfolding_all rfl)) ?_
  refine' Does.code (char_cons w R h ln tl [] k n c tc ws hz hl) B F X N T hk ?hd ?hu ?hp ?hr ?_
  case hd => ktr_room
  case hu => ktr_units
  case hp => kxw_bool
  case hr => kin_val
  intro n0 v post h' tk' _ hP F' N'
  obtain ⟨rfl, tl', rfl⟩ := hP
  have N'' : News h₀ L h' (lexLed w.params R it q (citer (.ref q) (.str "" t)) (nl c ln) tl' k ws (n + 1)) := fun p hp => N' p (by revert p hp; kxw_bool)
  exact ⟨sgn c, tc, rfl, News.get N'' (by k_mem), News.get N'' (by k_mem), X.keeps F'.keep 35 _ (by with_unfolding_all rfl), fun _ => ret _ _ _ F' N'', fun e => absurd e (one_ne c)⟩
theorem next_nil (h : R.Ok) (lt : R.pb < q ∧ q < it)
    (B : Below A₀ base outer h₀) (F : Fr h₀ L s.heap m) (X : (hd.heap_39 w.params).In h₀) (N : News h₀ L s.heap (lexLed w.params R it q (citer (.ref q) (.str "" t)) ln tl k [] n)) (T : Top p loose mean mg mb h₀) (hk : cs.kind = .function) (hd : dp + 8 < recursionLimit) (hu : un + 100 < cLine)
    (ret : ∀ h' tk', Fr h₀ L h' m → News h₀ L h' (lexLed w.params R it q cended ln tl k [] n) → Q none { s with heap := h', toks := tk' }) :
    wpAny (model row.prog w) (ktrTop dp un gd cn cs L a ccd cl outer) (pyNext (.ref it)) Q E s := by
  have h9 : RdA.Apart _ := RdA.Ok.lt (by assumption); have n01 := RdA.n01 h9; have n02 := RdA.n02 h9; have n03 := RdA.n03 h9; have n04 := RdA.n04 h9; have n05 := RdA.n05 h9; have n06 := RdA.n06 h9; have n07 := RdA.n07 h9; have n08 := RdA.n08 h9; have n12 := RdA.n12 h9; have n13 := RdA.n13 h9; have n14 := RdA.n14 h9; have n15 := RdA.n15 h9; have n16 := RdA.n16 h9; have n17 := RdA.n17 h9; have n18 := RdA.n18 h9; have n23 := RdA.n23 h9; have n24 := RdA.n24 h9; have n25 := RdA.n25 h9; have n26 := RdA.n26 h9; have n27 := RdA.n27 h9; have n28 := RdA.n28 h9; have n34 := RdA.n34 h9; have n35 := RdA.n35 h9; have n36 := RdA.n36 h9; have n37 := RdA.n37 h9; have n38 := RdA.n38 h9; have n45 := RdA.n45 h9; have n46 := RdA.n46 h9; have n47 := RdA.n47 h9; have n48 := RdA.n48 h9; have n56 := RdA.n56 h9; have n57 := RdA.n57 h9; have n58 := RdA.n58 h9; have n67 := RdA.n67 h9; have n68 := RdA.n68 h9; have n78 := RdA.n78 h9
  obtain ⟨h1, h2, h3, h4⟩ := id h
  have X9 := X.keeps F.keep
  refine pyNext_citer rfl (News.get N (by k_mem)) (News.get N (by k_mem)) (X9 35 _ (by with_unfolding_all rfl)) ?_
  refine' Does.code (char_nil w R h ln tl [] k n) B F X N T hk ?hd ?hu ?hp ?hr ?_
  case hd => ktr_room
  case hu => ktr_units
  case hp => kxw_bool
  case hr => kin_val
  intro n0 v post h' tk' _ hP F' N'
  obtain ⟨⟨t', rfl⟩, rfl⟩ := hP
  have N'' : News h₀ L h' (lexLed w.params R it q (citer (.ref q) (.str "" t)) ln tl k [] n) := fun p hp => N' p (by revert p hp; kxw_bool)
  refine ⟨Str.ofString "", t', rfl, News.get N'' (by k_mem), News.get N'' (by k_mem), X.keeps F'.keep 35 _ (by with_unfolding_all rfl), fun e => absurd rfl e, fun _ h9 hi hk9 => ?_⟩
  have hit := N'' _ (.head _)
  refine ret h9 _ ⟨?_, fun b o e => hk9 b o (fun z => ?_) (F'.keep b o e), F'.above⟩ fun p hp => ?_
  · obtain ⟨oL, es, ep, hL, r⟩ := F'.ns
    exact ⟨oL, es, ep, hk9 _ _ (Ne.symm hit.2.1) hL, r⟩
  · have := hit.2.2
    rw [← z, e] at this; cases this
  · rcases List.mem_cons.mp hp with rfl | hp
    · exact ⟨hi, hit.2⟩
    · have := N'' p (.tail _ hp)
      refine ⟨hk9 _ _ (fun z => ?_) this.1, this.2⟩
      have hq : ∀ r ∈ ((q, methodObj (.ref 35) (.ref R.x)) :: rdAll w.params R ln tl [] k [] n : List (Addr × Obj)), @Ne Nat r.1 it := by
        k_all
      exact hq p hp z
theorem next_ended (F : Fr h₀ L s.heap m) (N : News h₀ L s.heap (lexLed w.params R it q cended ln tl k vs n))
    (ret : ∀ h', Fr h₀ L h' m → News h₀ L h' (lexLed w.params R it q cended ln tl k vs n) → Q none { s with heap := h' }) :
    wpAny (model row.prog w) (ktrTop dp un gd cn cs L a ccd cl outer) (pyNext (.ref it)) Q E s :=
  pyNext_cended rfl (N _ (.head _)).1 fun h' k => ret h' (F.keeps k) fun p hp => ⟨k _ _ (N p hp).1, (N p hp).2⟩
end

end
section
theorem startLexi2 : True := by
  w_top off
  k_with "Lexi2 0" => (simp only [PySem.sizeLine_eq, Str.length_append, tx_len, sgn_len, len_empty, List.length_append, List.length_cons, List.length_nil, List.length_take]; (first | lia | omega))
  trivial
local macro_rules | `(tactic| walk_at "zz none") => `(tactic| fail "zz none")
theorem strs_open {vs : List Value} {c : Nat} {cs : List Nat} (h : StrsAre vs ((c :: cs).map sgn)) : ∃ t ws, vs = .str (sgn c) t :: ws ∧ StrsAre ws (cs.map sgn) := by
  cases h with
  | cons _ t h => exact ⟨t, _, rfl, h⟩
theorem strs_none {vs : List Value} (h : StrsAre vs (([] : List Nat).map sgn)) : vs = [] := by
  cases h
  rfl
theorem tx_tx (a b : List Nat) : tx a ++ tx b = tx (a ++ b) := by
  show (⟨a.toArray ++ b.toArray⟩ : Str) = ⟨(a ++ b).toArray⟩
  simp
theorem Fr.of_eq {h₀ h : Heap} {L : Addr} {m m' : Str → Option Value} (F : Fr h₀ L h m) (e : m = m') : Fr h₀ L h m' := e ▸ F
noncomputable abbrev frm (x : Nat) (ch : Option Value) (it : Nat) (tok : Str) (tt : Tok) : Str → Option Value := fun y =>
  if y = Str.ofString "ch" then ch else if y = Str.ofString "fiter" then some (.ref it) else if y = Str.ofString "token" then some (.str tok tt) else if y = Str.ofString "self" then some (.ref x) else none
theorem frm_ch {x it : Nat} {ch v : Option Value} {tok : Str} {tt : Tok} : (fun y => if y = Str.ofString "ch" then v else frm x ch it tok tt y) = frm x v it tok tt := by
  funext y
  unfold frm
  by_cases h : y = Str.ofString "ch" <;> simp [h]
theorem frm_tok {x it : Nat} {ch : Option Value} {tok t2 : Str} {tt u2 : Tok} : (fun y => if y = Str.ofString "token" then some (.str t2 u2) else frm x ch it tok tt y) = frm x ch it t2 u2 := by
  funext y
  unfold frm
  by_cases h : y = Str.ofString "token"
  · subst h
    rw [if_pos rfl, if_neg (by decide), if_neg (by decide), if_pos rfl]
  · rw [if_neg h, if_neg h]
    by_cases h2 : y = Str.ofString "ch"
    · rw [if_pos h2, if_pos h2]
    · rw [if_neg h2, if_neg h2, if_neg h]
theorem frm_tc {x it : Nat} {ch v : Option Value} {tok t2 : Str} {tt u2 : Tok} : (fun y => if y = Str.ofString "token" then some (.str t2 u2) else if y = Str.ofString "ch" then v else frm x ch it tok tt y) = frm x v it t2 u2 :=
  (congrArg (fun m : Str → Option Value => fun y => if y = Str.ofString "token" then some (.str t2 u2) else m y) frm_ch).trans frm_tok
theorem frm_tcc {x it : Nat} {ch v v2 : Option Value} {tok t2 : Str} {tt u2 : Tok} : (fun y => if y = Str.ofString "token" then some (.str t2 u2) else if y = Str.ofString "ch" then v2 else if y = Str.ofString "ch" then v else frm x ch it tok tt y) = frm x v2 it t2 u2 :=
  (congrArg (fun m : Str → Option Value => fun y => if y = Str.ofString "token" then some (.str t2 u2) else if y = Str.ofString "ch" then v2 else m y) frm_ch).trans frm_tc
noncomputable def nlo : List Nat → Int → Int
  | [], ln => ln
  | c :: _, ln => nl c ln
theorem nl_le (c : Nat) (ln : Int) : ln ≤ nl c ln ∧ nl c ln ≤ ln + 1 := by
  unfold nl; split <;> (first | lia | omega)
theorem nlo_le : ∀ (cs : List Nat) (ln : Int), ln ≤ nlo cs ln ∧ nlo cs ln + (cs.drop 1).length ≤ ln + cs.length
  | [], ln => by simp [nlo]
  | c :: cs, ln => by
    have := nl_le c ln
    simp only [nlo, List.drop_succ_cons, List.drop_zero, List.length_cons]
    (first | lia | omega)
theorem quo_step (acc : List Nat) (cs : List Nat) (ln : Int) : quoted acc (92 :: cs) ln = quoted (acc ++ cs.take 1) (cs.drop 1) (nlo cs ln) := by
  cases cs with
  | nil => rw [quoted_cons, if_neg (by decide), if_pos rfl]; simp only [nlo, List.take_nil, List.append_nil, List.drop_nil]; unfold quoted; rfl
  | cons d ds => rw [quoted_cons, if_neg (by decide), if_pos rfl]; rfl
theorem bar_step (acc : List Nat) (cs : List Nat) (ln : Int) : bare acc (92 :: cs) ln = bare (acc ++ cs.take 1) (cs.drop 1) (nlo cs ln) := by
  cases cs with
  | nil => rw [bare_cons, if_neg (by decide), if_pos rfl]; simp only [nlo, List.take_nil, List.append_nil, List.drop_nil]; unfold bare; rfl
  | cons d ds => rw [bare_cons, if_neg (by decide), if_pos rfl]; rfl
theorem tok_step (cs : List Nat) (ln : Int) : tok0 (92 :: cs) ln = bare (cs.take 1) (cs.drop 1) (nlo cs ln) := by
  cases cs with
  | nil => rw [tok0_cons, if_neg (by decide), if_neg (by decide), if_pos rfl]; unfold bare; rfl
  | cons d ds => rw [tok0_cons, if_neg (by decide), if_neg (by decide), if_pos rfl]; rfl
theorem quo_one {c : Nat} (acc cs : List Nat) (ln : Int) (h1 : c ≠ 34) (h2 : c ≠ 92) : quoted acc (c :: cs) ln = quoted (acc ++ [c]) cs (nl c ln) := by rw [quoted_cons, if_neg h1, if_neg h2]
theorem quo_fin (acc cs : List Nat) (ln : Int) : quoted acc (34 :: cs) ln = (acc, cs, nl 34 ln) := by rw [quoted_cons, if_pos rfl]
theorem bar_one {c : Nat} (acc cs : List Nat) (ln : Int) (h1 : isWs c = false) (h2 : c ≠ 92) : bare acc (c :: cs) ln = bare (acc ++ [c]) cs (nl c ln) := by rw [bare_cons, if_neg (by simpa using h1), if_neg h2]
theorem bar_fin {c : Nat} (acc cs : List Nat) (ln : Int) (h1 : isWs c = true) : bare acc (c :: cs) ln = (acc, cs, nl c ln) := by rw [bare_cons, if_pos h1]
theorem quo_none (acc : List Nat) (ln : Int) : quoted acc [] ln = (acc, [], ln) := by unfold quoted; rfl
theorem bar_none (acc : List Nat) (ln : Int) : bare acc [] ln = (acc, [], ln) := by unfold bare; rfl
theorem tok_q (cs : List Nat) (ln : Int) : tok0 (34 :: cs) ln = quoted [] cs (nl 34 ln) := by rw [tok0_cons, if_neg (by decide), if_pos rfl]
theorem tok_lit1 {c : Nat} (cs : List Nat) (ln : Int) (h1 : isWs c = false) (h2 : c ≠ 34) (h3 : c ≠ 92) : tok0 (c :: cs) ln = bare [c] cs (nl c ln) := by rw [tok0_cons, if_neg (by simpa using h1), if_neg h2, if_neg h3]
theorem tok_sp {c : Nat} (cs : List Nat) (ln : Int) (h1 : isWs c = true) : tok0 (c :: cs) ln = tok0 cs (nl c ln) := by rw [tok0_cons, if_pos h1]
theorem tok_none (ln : Int) : tok0 [] ln = ([], [], ln) := by unfold tok0; rfl
noncomputable def methIn (p : Program) (i j : Nat) : List Stmt × Scope := match p.main.body[i]? with
  | some (.ClassDef _ _ _ b _ _ _ _ _ _ _) => match b[j]? with
    | some (.FunctionDef _ _ b' _ _ _ sc _ _ _) => (b', sc)
    | _ => ([], { kind := .function, names := [], isGenerator := false, isCoroutine := false })
  | _ => ([], { kind := .function, names := [], isGenerator := false, isCoroutine := false })
noncomputable def forBody : Option Stmt → List Stmt
  | some (.For _ _ b _ _) => b
  | _ => []
noncomputable def thenOf : Option Stmt → List Stmt
  | some (.If _ b _ _) => b
  | _ => []
noncomputable def elseOf : Option Stmt → List Stmt
  | some (.If _ _ b _) => b
  | _ => []
noncomputable def gtIn : List Stmt × Scope := methIn PySem.Challenge.rw_xe0009_02.prog 1 2
noncomputable def gtScope : Scope := gtIn.2
noncomputable def stmtAt (l : List Stmt) (i : Nat) : Stmt := match l[i]? with
  | some s => s
  | none => .Pass ⟨0, 0, 0, 0⟩
noncomputable def gtQ : Stmt := stmtAt (thenOf ((forBody gtIn.1[3]?)[1]?)) 0
noncomputable def gtB : Stmt := stmtAt (elseOf ((forBody gtIn.1[3]?)[1]?)) 2
noncomputable abbrev gtEnv (L : Addr) : Env := envOf (Str.ofString "_netrclex.get_token") gtScope L 42 (.ref 41)
section
variable {w : World} {R : RdA} {it q : Nat} {t : Tok} {ln : Int} {tl : Tok} {k n : Nat} {vs : List Value}
  {p : Program} {loose : List Str} {mean : ExcName → Option Value} {mg mb : Str → Option Value} {dp un : Nat} {gd : Option (List Code)} {cn : Str} {cs : Scope} {a : Addr} {ccd : Value} {cl : List (Str × Addr)} {outer : List Env} {A₀ : Around} {base h₀ : Heap} {L : Addr} {m : Str → Option Value} {s : Shared} {E : Value → Shared → Prop}
theorem next_any {Q : Option Value → Shared → Prop} {xs : List Nat} (h : R.Ok) (hv : StrsAre vs (xs.map sgn)) (hl : 0 ≤ ln ∧ ln + xs.length ≤ 10000) (lt : R.pb < q ∧ q < it)
    (B : Below A₀ base outer h₀) (F : Fr h₀ L s.heap m) (X : (hd.heap_39 w.params).In h₀) (N : News h₀ L s.heap (lexLed w.params R it q (citer (.ref q) (.str "" t)) ln tl k vs n)) (T : Top p loose mean mg mb h₀) (hk : cs.kind = .function) (hd : dp + 8 < recursionLimit) (hu : un + 100 < cLine)
    (nil : xs = [] → ∀ h' tk', Fr h₀ L h' m → News h₀ L h' (lexLed w.params R it q cended ln tl k [] n) → Q none { s with heap := h', toks := tk' })
    (cons : ∀ c ds, xs = c :: ds → ∀ h' tk' tl' tc ws, Fr h₀ L h' m → News h₀ L h' (lexLed w.params R it q (citer (.ref q) (.str "" t)) (nl c ln) tl' k ws (n + 1)) → StrsAre ws (ds.map sgn) → Q (some (.str (sgn c) tc)) { s with heap := h', toks := tk' }) :
    wpAny (model row.prog w) (ktrTop dp un gd cn cs L a ccd cl outer) (pyNext (.ref it)) Q E s := by
  cases xs with
  | nil =>
    obtain rfl := strs_none hv
    exact next_nil h lt B F X N T hk hd hu (nil rfl)
  | cons c ds =>
    obtain ⟨tc, ws, rfl, hw⟩ := strs_open hv
    have hw' : ws.length = ds.length := by rw [hw.length, List.length_map]
    simp only [List.length_cons] at hl
    exact next_cons h (by (first | lia | omega)) (by (first | lia | omega)) lt B F X N T hk hd hu fun h' tk' tl' F' N' => cons c ds rfl h' tk' tl' tc ws F' N' hw
theorem char_lex {Q : Value → Shared → Prop} {xs : List Nat} (h : R.Ok) (hv : StrsAre vs (xs.map sgn)) (hl : 0 ≤ ln ∧ ln + xs.length ≤ 10000) (lt : R.pb < q ∧ q < it)
    (B : Below A₀ base outer h₀) (F : Fr h₀ L s.heap m) (X : (hd.heap_39 w.params).In h₀) (N : News h₀ L s.heap (lexLed w.params R it q (citer (.ref q) (.str "" t)) ln tl k vs n)) (T : Top p loose mean mg mb h₀) (hk : cs.kind = .function) (hd : dp + 8 < recursionLimit) (hu : un + 100 < cLine)
    (ret : ∀ h' tk' tl' tc ws n', Fr h₀ L h' m → News h₀ L h' (lexLed w.params R it q (citer (.ref q) (.str "" t)) (nlo xs ln) tl' k ws n') → StrsAre ws ((xs.drop 1).map sgn) → Q (.str (tx (xs.take 1)) tc) { s with heap := h', toks := tk' }) :
    wpAny (model row.prog w) (ktrTop dp un gd cn cs L a ccd cl outer) (call (.ref 35) [.ref R.x]) Q E s := by
  have h9 : RdA.Apart _ := RdA.Ok.lt (by assumption); have n01 := RdA.n01 h9; have n02 := RdA.n02 h9; have n03 := RdA.n03 h9; have n04 := RdA.n04 h9; have n05 := RdA.n05 h9; have n06 := RdA.n06 h9; have n07 := RdA.n07 h9; have n08 := RdA.n08 h9; have n12 := RdA.n12 h9; have n13 := RdA.n13 h9; have n14 := RdA.n14 h9; have n15 := RdA.n15 h9; have n16 := RdA.n16 h9; have n17 := RdA.n17 h9; have n18 := RdA.n18 h9; have n23 := RdA.n23 h9; have n24 := RdA.n24 h9; have n25 := RdA.n25 h9; have n26 := RdA.n26 h9; have n27 := RdA.n27 h9; have n28 := RdA.n28 h9; have n34 := RdA.n34 h9; have n35 := RdA.n35 h9; have n36 := RdA.n36 h9; have n37 := RdA.n37 h9; have n38 := RdA.n38 h9; have n45 := RdA.n45 h9; have n46 := RdA.n46 h9; have n47 := RdA.n47 h9; have n48 := RdA.n48 h9; have n56 := RdA.n56 h9; have n57 := RdA.n57 h9; have n58 := RdA.n58 h9; have n67 := RdA.n67 h9; have n68 := RdA.n68 h9; have n78 := RdA.n78 h9
  have h4 := h.lt
  cases xs with
  | nil =>
    obtain rfl := strs_none hv
    refine' Does.use (char_nil w R h ln tl [] k n) B F X N T hk ?hd ?hu ?hp ?hr ?_
    case hd => ktr_room
    case hu => ktr_units
    case hp => kxw_bool
    case hr => kin_val
    intro n0 v post h' tk' _ hP F' N'
    obtain ⟨⟨t', rfl⟩, rfl⟩ := hP
    have N'' : News h₀ L h' (lexLed w.params R it q (citer (.ref q) (.str "" t)) ln tl k [] n) := fun p hp => N' p (by revert p hp; kxw_bool)
    have := ret h' tk' tl t' [] n F' N'' .nil
    rw [List.take_nil, ← tx_nil] at this
    exact this
  | cons c ds =>
    obtain ⟨tc, ws, rfl, hw⟩ := strs_open hv
    have hw' : ws.length = ds.length := by rw [hw.length, List.length_map]
    simp only [List.length_cons] at hl
    refine' Does.use (char_cons w R h ln tl [] k n c tc ws (by (first | lia | omega)) (by (first | lia | omega))) B F X N T hk ?hd ?hu ?hp ?hr ?_
    case hd => ktr_room
    case hu => ktr_units
    case hp => kxw_bool
    case hr => kin_val
    intro n0 v post h' tk' _ hP F' N'
    obtain ⟨rfl, tl', rfl⟩ := hP
    exact ret h' tk' tl' tc ws (n + 1) F' (fun p hp => N' p (by revert p hp; kxw_bool)) hw
end
/-- between the turns of an inner loop -/
inductive InnI (w : World) (g : Heap) (L : Addr) (s0 : Shared) (R : RdA) (it q : Nat) (t : Tok) (k : Nat) (f : List Nat → List Nat → Int → List Nat × List Nat × Int) (G : List Nat × List Nat × Int) (n : Nat) (iv : Value) (s : Shared) : Prop
  | act {xs acc ch tt ln tl vs nn h tk} : iv = .ref it → s = { s0 with heap := h, toks := tk } → Fr g L h (frm R.x ch it (tx acc) tt) → News g L h (lexLed w.params R it q (citer (.ref q) (.str "" t)) ln tl k vs nn) → StrsAre vs (xs.map sgn) → xs.length ≤ n →
      (0 ≤ ln ∧ ln + xs.length ≤ 10000) → acc.length + xs.length ≤ 10000 → f acc xs ln = G → InnI w g L s0 R it q t k f G n iv s
section
variable {w : World} {R : RdA} {it q : Nat} {t : Tok} {ln : Int} {tl : Tok} {k n : Nat} {vs : List Value} {xs acc : List Nat} {ch : Option Value} {tt : Tok} {G : List Nat × List Nat × Int}
  {p : Program} {loose : List Str} {mean : ExcName → Option Value} {mg mb : Str → Option Value} {dp un : Nat} {gd : Option (List Code)} {cn : Str} {cs : Scope} {a : Addr} {ccd : Value} {cl : List (Str × Addr)} {outer : List Env} {base g : Heap} {L Lc : Addr} {s : Shared} {Q : Flow → Shared → Prop} {E : Value → Shared → Prop}
local macro_rules | `(tactic| size_fits) => `(tactic| k_extra "Lexi2 0")
local macro_rules | `(tactic| walk_at "call ref") => `(tactic| refine hold ?_)
theorem inner_q (h : R.Ok) (lt : R.pb < q ∧ q < it) (B : Below (ktrTop dp un gd cn cs Lc a ccd cl outer) base (envX cn cs Lc a ccd cl :: outer) g) (X : (hd.heap_39 w.params).In g) (T : Top p loose mean mg mb g) (hd : dp + 16 < recursionLimit) (hu : un + 160 < cLine)
   (hE : PassesOwn (model row.prog w) ((ktrTop dp un gd cn cs Lc a ccd cl outer).deeper (gtEnv L)) (gtEnv L) E)
   (hv : StrsAre vs (xs.map sgn)) (hl : 0 ≤ ln ∧ ln + xs.length ≤ 10000) (ha : acc.length + xs.length ≤ 10000)
   (F : Fr g L s.heap (frm R.x ch it (tx acc) tt)) (N : News g L s.heap (lexLed w.params R it q (citer (.ref q) (.str "" t)) ln tl k vs n)) (hG : quoted acc xs ln = G)
   (ret : ∀ h' tk' m' tk2 tl' vs' n', Fr g L h' m' → News g L h' (lexLed w.params R it q (citer (.ref q) (.str "" t)) G.2.2 tl' k vs' n') → StrsAre vs' (G.2.1.map sgn) → Q (.ret (.str (tx G.1) tk2)) { s with heap := h', toks := tk' })
   (fin : ∀ h' tk' ch' tk2 tl' n', G.2.1 = [] → Fr g L h' (frm R.x ch' it (tx G.1) tk2) → News g L h' (lexLed w.params R it q cended G.2.2 tl' k [] n') → Q .next { s with heap := h', toks := tk' }) :
   wpAny (model row.prog w) ((ktrTop dp un gd cn cs Lc a ccd cl outer).deeper (gtEnv L)) (exec gtQ (gtEnv L)) Q E s := by
  revert X
  k_fill
  intro X
  have h4 := h.lt
  unfold gtEnv at *
  generalize hsc : gtScope = sc at *
  generalize hb : gtQ = b
  conv at hsc => lhs; whnf
  conv at hb => lhs; whnf
  subst hsc
  subst hb
  refine For_rule (InnI w g L s R it q t k quoted G) xs.length ?_ ?_ (hE := hE)
  · walk1
    refine pyIter_citer N (.head _) ?_
    exact .act rfl rfl F N hv (Nat.le_refl _) hl ha hG
  · intro n6 it6 s6 hI6
    clear F N hv hl ha hG
    obtain ⟨e1, e2, F6, N6, hv6, hn6, hl6, ha6, hG6⟩ := hI6
    rename_i xs6 acc6 ch6 tt6 ln6 tl6 vs6 nn6 h6 tk6
    subst e1
    subst e2
    refine next_any h hv6 hl6 lt B F6 X N6 T rfl (by ktr_room) (by ktr_units) (fun e h7 tk7 F7 N7 => ?_) (fun c ds e h7 tk7 tl7 tc ws F7 N7 hw => ?_)
    · dsimp only
      subst e
      rw [quo_none] at hG6
      subst hG6
      exact fin _ _ _ _ _ _ rfl F7 N7
    · dsimp only
      subst e
      clear F6 N6 hv6
      simp only [List.length_cons] at hn6 hl6 ha6
      have hnl := nl_le c ln6
      walk1
      try dsimp only
      lcg_lit
      k_steps
      · exact (by
          rename (sgn c == Str.ofString "\"") = true => hq
          obtain rfl := quo_yes hq
          rw [quo_fin] at hG6
          subst hG6
          exact ret _ _ _ _ _ _ _ (by k_asm) (by k_asm) hw)
      · refine unhold ?_
        rename (sgn c == Str.ofString "\\") = true => hb
        obtain rfl := bsl_yes hb
        rw [quo_step] at hG6
        have hno := nlo_le ds (nl 92 ln6)
        show wpAny _ _ (call (.ref 35) [.ref R.x]) _ _ _
        refine' char_lex h hw ?l lt ?B ?F X ?N T ?hk ?hd ?hu ?_
        case B => k_asm
        case F => k_asm
        case N => k_asm
        case l => (first | lia | omega)
        case hk => rfl
        case hd => ktr_room
        case hu => ktr_units
        intro h8 tk8 tl8 tc8 ws8 n8 F8 N8 hw8
        k_steps
        rename Fr _ _ _ _ => F9
        rename News _ _ _ _ => N9
        rw [tx_tx] at F9
        refine unhold ⟨(ds.drop 1).length, by rw [List.length_drop]; (first | lia | omega), .act rfl rfl (Fr.of_eq F9 frm_tcc) N9 hw8 (Nat.le_refl _) ⟨by (first | lia | omega), by (first | lia | omega)⟩ ?_ hG6⟩
        rw [List.length_append, List.length_take, List.length_drop]; (first | lia | omega)
      · rename (sgn c == Str.ofString "\"") = false => hq
        rename (sgn c == Str.ofString "\\") = false => hb
        rw [quo_one _ _ _ (quo_no hq) (bsl_no hb)] at hG6
        rename Fr _ _ _ _ => F9
        rename News _ _ _ _ => N9
        rw [tx_app] at F9
        refine unhold ⟨ds.length, by (first | lia | omega), .act rfl rfl (Fr.of_eq F9 frm_tc) N9 hw (Nat.le_refl _) ⟨by (first | lia | omega), by (first | lia | omega)⟩ ?_ hG6⟩
        rw [List.length_append, List.length_singleton]; (first | lia | omega)
theorem inner_b (h : R.Ok) (lt : R.pb < q ∧ q < it) (B : Below (ktrTop dp un gd cn cs Lc a ccd cl outer) base (envX cn cs Lc a ccd cl :: outer) g) (X : (hd.heap_39 w.params).In g) (T : Top p loose mean mg mb g) (hd : dp + 16 < recursionLimit) (hu : un + 160 < cLine)
   (hE : PassesOwn (model row.prog w) ((ktrTop dp un gd cn cs Lc a ccd cl outer).deeper (gtEnv L)) (gtEnv L) E)
   (hv : StrsAre vs (xs.map sgn)) (hl : 0 ≤ ln ∧ ln + xs.length ≤ 10000) (ha : acc.length + xs.length ≤ 10000)
   (F : Fr g L s.heap (frm R.x ch it (tx acc) tt)) (N : News g L s.heap (lexLed w.params R it q (citer (.ref q) (.str "" t)) ln tl k vs n)) (hG : bare acc xs ln = G)
   (ret : ∀ h' tk' m' tk2 tl' vs' n', Fr g L h' m' → News g L h' (lexLed w.params R it q (citer (.ref q) (.str "" t)) G.2.2 tl' k vs' n') → StrsAre vs' (G.2.1.map sgn) → Q (.ret (.str (tx G.1) tk2)) { s with heap := h', toks := tk' })
   (fin : ∀ h' tk' ch' tk2 tl' n', G.2.1 = [] → Fr g L h' (frm R.x ch' it (tx G.1) tk2) → News g L h' (lexLed w.params R it q cended G.2.2 tl' k [] n') → Q .next { s with heap := h', toks := tk' }) :
   wpAny (model row.prog w) ((ktrTop dp un gd cn cs Lc a ccd cl outer).deeper (gtEnv L)) (exec gtB (gtEnv L)) Q E s := by
  revert X
  k_fill
  intro X
  have h4 := h.lt
  unfold gtEnv at *
  generalize hsc : gtScope = sc at *
  generalize hb : gtB = b
  conv at hsc => lhs; whnf
  conv at hb => lhs; whnf
  subst hsc
  subst hb
  refine For_rule (InnI w g L s R it q t k bare G) xs.length ?_ ?_ (hE := hE)
  · walk1
    refine pyIter_citer N (.head _) ?_
    exact .act rfl rfl F N hv (Nat.le_refl _) hl ha hG
  · intro n6 it6 s6 hI6
    clear F N hv hl ha hG
    obtain ⟨e1, e2, F6, N6, hv6, hn6, hl6, ha6, hG6⟩ := hI6
    rename_i xs6 acc6 ch6 tt6 ln6 tl6 vs6 nn6 h6 tk6
    subst e1
    subst e2
    refine next_any h hv6 hl6 lt B F6 X N6 T rfl (by ktr_room) (by ktr_units) (fun e h7 tk7 F7 N7 => ?_) (fun c ds e h7 tk7 tl7 tc ws F7 N7 hw => ?_)
    · dsimp only
      subst e
      rw [bar_none] at hG6
      subst hG6
      exact fin _ _ _ _ _ _ rfl F7 N7
    · dsimp only
      subst e
      clear F6 N6 hv6
      simp only [List.length_cons] at hn6 hl6 ha6
      have hnl := nl_le c ln6
      walk1
      try dsimp only
      lcg_lit
      k_steps
      · refine unhold ?_
        rename (sgn c == Str.ofString "\\") = true => hb
        obtain rfl := bsl_yes hb
        rw [bar_step] at hG6
        have hno := nlo_le ds (nl 92 ln6)
        show wpAny _ _ (call (.ref 35) [.ref R.x]) _ _ _
        refine' char_lex h hw ?l lt ?B ?F X ?N T ?hk ?hd ?hu ?_
        case B => k_asm
        case F => k_asm
        case N => k_asm
        case l => (first | lia | omega)
        case hk => rfl
        case hd => ktr_room
        case hu => ktr_units
        intro h8 tk8 tl8 tc8 ws8 n8 F8 N8 hw8
        k_steps
        rename Fr _ _ _ _ => F9
        rename News _ _ _ _ => N9
        rw [tx_tx] at F9
        refine unhold ⟨(ds.drop 1).length, by rw [List.length_drop]; (first | lia | omega), .act rfl rfl (Fr.of_eq F9 frm_tcc) N9 hw8 (Nat.le_refl _) ⟨by (first | lia | omega), by (first | lia | omega)⟩ ?_ hG6⟩
        rw [List.length_append, List.length_take, List.length_drop]; (first | lia | omega)
      · rename List.isEmpty _ = true => hq
        rename (sgn c == Str.ofString "\\") = false => hb
        rw [ws_is] at hq
        rw [bar_one _ _ _ (by simpa using hq) (bsl_no hb)] at hG6
        rename Fr _ _ _ _ => F9
        rename News _ _ _ _ => N9
        rw [tx_app] at F9
        refine unhold ⟨ds.length, by (first | lia | omega), .act rfl rfl (Fr.of_eq F9 frm_tc) N9 hw (Nat.le_refl _) ⟨by (first | lia | omega), by (first | lia | omega)⟩ ?_ hG6⟩
        rw [List.length_append, List.length_singleton]; (first | lia | omega)
      · exact (by
          rename List.isEmpty _ = false => hq
          rw [ws_is] at hq
          rw [bar_fin _ _ _ (by simpa using hq)] at hG6
          subst hG6
          exact ret _ _ _ _ _ _ _ (by k_asm) (by k_asm) hw)
end

end
section
theorem startTok2 : True := by
  w_top off
  k_with "Tok2 0" => (simp only [PySem.sizeLine_eq, Str.length_append, tx_len, sgn_len, len_empty, List.length_append, List.length_cons, List.length_nil, List.length_take]; (first | lia | omega))
  trivial
local macro_rules | `(tactic| walk_at "zz none") => `(tactic| fail "zz none")
local macro_rules | `(tactic| walk_at "zz none") => `(tactic| fail "zz none")
local macro_rules | `(tactic| walk_at "zz none") => `(tactic| fail "zz none")
theorem tok_push (w : World) (R : RdA) (h : R.Ok) (ln : Int) (tl : Tok) (y : Value) (ps : List Value) (hp : ps.length ≤ 10000) (k : Nat) (vs : List Value) (n : Nat) :
   Does row.prog w (hd.heap_39 w.params) 8 80 42 [.ref R.x] (rdAll w.params R ln tl (y :: ps) k vs n)
     (fun v post => v = y ∧ post = rdAll w.params R ln tl ps (k + 1) vs n) := by
  have h0 := h
  have h9 : RdA.Apart _ := RdA.Ok.lt (by assumption); have n01 := RdA.n01 h9; have n02 := RdA.n02 h9; have n03 := RdA.n03 h9; have n04 := RdA.n04 h9; have n05 := RdA.n05 h9; have n06 := RdA.n06 h9; have n07 := RdA.n07 h9; have n08 := RdA.n08 h9; have n12 := RdA.n12 h9; have n13 := RdA.n13 h9; have n14 := RdA.n14 h9; have n15 := RdA.n15 h9; have n16 := RdA.n16 h9; have n17 := RdA.n17 h9; have n18 := RdA.n18 h9; have n23 := RdA.n23 h9; have n24 := RdA.n24 h9; have n25 := RdA.n25 h9; have n26 := RdA.n26 h9; have n27 := RdA.n27 h9; have n28 := RdA.n28 h9; have n34 := RdA.n34 h9; have n35 := RdA.n35 h9; have n36 := RdA.n36 h9; have n37 := RdA.n37 h9; have n38 := RdA.n38 h9; have n45 := RdA.n45 h9; have n46 := RdA.n46 h9; have n47 := RdA.n47 h9; have n48 := RdA.n48 h9; have n56 := RdA.n56 h9; have n57 := RdA.n57 h9; have n58 := RdA.n58 h9; have n67 := RdA.n67 h9; have n68 := RdA.n68 h9; have n78 := RdA.n78 h9
  obtain ⟨h1, h2, h3, h4⟩ := h
  unfold Does
  k_fill
  intro p loose mean mg mb dp un gd cn cs a ccd cl outer A₀ base h₀ L m s RR B F X N T hk hd' hu hret
  k_dflt walk_at "m enter"
  k_steps
  exact Left.intro (by k_asm) (by k_asm) (by kxw_bool) ⟨rfl, rfl⟩
/-- between the turns of the outer loop -/
inductive OutI (w : World) (g : Heap) (L : Addr) (s0 : Shared) (R : RdA) (it q : Nat) (t : Tok) (k : Nat) (G : List Nat × List Nat × Int) (n : Nat) (iv : Value) (s : Shared) : Prop
  | act {xs ch tt ln tl vs nn h tk} : iv = .ref it → s = { s0 with heap := h, toks := tk } → Fr g L h (frm R.x ch it (tx []) tt) → News g L h (lexLed w.params R it q (citer (.ref q) (.str "" t)) ln tl k vs nn) → StrsAre vs (xs.map sgn) → xs.length + 1 ≤ n →
      (0 ≤ ln ∧ ln + xs.length ≤ 10000) → tok0 xs ln = G → OutI w g L s0 R it q t k G n iv s
  | fin {ch tt tl nn h tk} : iv = .ref it → s = { s0 with heap := h, toks := tk } → Fr g L h (frm R.x ch it (tx G.1) tt) → News g L h (lexLed w.params R it q cended G.2.2 tl k [] nn) → G.2.1 = [] → OutI w g L s0 R it q t k G n iv s
local macro_rules | `(tactic| walk_at "exec For Name Name cons nil") => `(tactic| refine hold ?_)
local macro_rules | `(tactic| walk_at "call ref") => `(tactic| refine hold ?_)
local macro_rules | `(tactic| size_fits) => `(tactic| k_extra "Tok2 0")
theorem tok_lex (w : World) (R : RdA) (h : R.Ok) (ln : Int) (tl : Tok) (k : Nat) (xs : List Nat) (hz : 0 ≤ ln ∧ ln + xs.length ≤ 10000) (vs : List Value) (hv : StrsAre vs (xs.map sgn)) (n : Nat) :
   Does row.prog w (hd.heap_39 w.params) 24 240 42 [.ref R.x] (rdAll w.params R ln tl [] k vs n)
     (fun v post => ∃ tk tl' vs' n', v = .str (tx (tok0 xs ln).1) tk ∧ post = rdAll w.params R (tok0 xs ln).2.2 tl' [] k vs' n' ∧ StrsAre vs' ((tok0 xs ln).2.1.map sgn)) := by
  have h0 := h
  have h9 : RdA.Apart _ := RdA.Ok.lt (by assumption); have n01 := RdA.n01 h9; have n02 := RdA.n02 h9; have n03 := RdA.n03 h9; have n04 := RdA.n04 h9; have n05 := RdA.n05 h9; have n06 := RdA.n06 h9; have n07 := RdA.n07 h9; have n08 := RdA.n08 h9; have n12 := RdA.n12 h9; have n13 := RdA.n13 h9; have n14 := RdA.n14 h9; have n15 := RdA.n15 h9; have n16 := RdA.n16 h9; have n17 := RdA.n17 h9; have n18 := RdA.n18 h9; have n23 := RdA.n23 h9; have n24 := RdA.n24 h9; have n25 := RdA.n25 h9; have n26 := RdA.n26 h9; have n27 := RdA.n27 h9; have n28 := RdA.n28 h9; have n34 := RdA.n34 h9; have n35 := RdA.n35 h9; have n36 := RdA.n36 h9; have n37 := RdA.n37 h9; have n38 := RdA.n38 h9; have n45 := RdA.n45 h9; have n46 := RdA.n46 h9; have n47 := RdA.n47 h9; have n48 := RdA.n48 h9; have n56 := RdA.n56 h9; have n57 := RdA.n57 h9; have n58 := RdA.n58 h9; have n67 := RdA.n67 h9; have n68 := RdA.n68 h9; have n78 := RdA.n78 h9
  obtain ⟨h1, h2, h3, h4⟩ := h
  generalize hG : tok0 xs ln = G
  unfold Does
  k_fill
  intro p loose mean mg mb dp un gd cn cs a ccd cl outer A₀ base h₀ L m s RR B F X N T hk hd' hu hret
  k_dflt walk_at "m enter"
  k_steps
  k_dflt (refine' iter_call ?F ?N ?q ?_; (case F => k_asm); (case N => k_asm); (case q => k_mem))
  intro it hI FI NI lI
  k_lt lI
  k_steps
  refine unhold ?_
  rename Fr _ _ _ _ => F1
  rename News _ _ _ _ => N1
  rename_i g' L' hh0 FG B' X' T' lq lz tk00 tk0 hh1 tq9 q hh2 lq2 hh3 _
  have lt9 : R.pb < q ∧ @LT.lt Nat _ q it := ⟨by (first | lia | omega), by (first | lia | omega)⟩
  have F2 : Fr g' L' hh3 (frm R.x none it (tx []) _) := Fr.congr F1 (by
    intro y
    by_cases h1 : y = Str.ofString "ch"; · subst h1; rfl
    by_cases h2 : y = Str.ofString "fiter"; · subst h2; rfl
    by_cases h3 : y = Str.ofString "token"; · subst h3; exact congrArg (fun z => some (Value.str z _)) tx_nil
    by_cases h4 : y = Str.ofString "self"; · subst h4; rfl
    simp only [frm, if_neg h1, if_neg h2, if_neg h3, if_neg h4]; show List.lookup y [(Str.ofString "self", _)] = none; rw [List.lookup_cons, beq_eq_false_iff_ne.mpr h4]; rfl)
  clear F1
  refine For_rule (OutI w g' L' s R it q (tq9 + 1) k G) (xs.length + 1) ?_ ?_
  · walk1
    refine pyIter_citer N1 (.head _) ?_
    exact .act rfl rfl F2 N1 hv (Nat.le_refl _) hz hG
  · intro n6 it6 s6 hI6
    clear F2 N1 hv hG hz
    lcg_lit
    rcases hI6 with ⟨e1, e2, F6, N6, hv6, hn6, hl6, hG6⟩ | ⟨e1, e2, F6, N6, hG6⟩
    · rename_i xs6 ch6 tt6 ln6 tl6 vs6 nn6 h6 tk6
      subst e1
      subst e2
      refine next_any h0 hv6 hl6 lt9 B' F6 X' N6 T' rfl (by ktr_room) (by ktr_units) ?nil ?cons
      · intro e h7 tk7 F7 N7
        subst e
        rw [tok_none] at hG6
        subst hG6
        clear F6 N6 hv6
        k_unfold
        dsimp only
        k_steps
        exact Left.intro (by k_asm) (by k_asm) (by kxw_bool) ⟨_, _, _, _, rfl, rfl, .nil⟩
      · intro c ds e h7 tk7 tl7 tc ws F7 N7 hw
        subst e
        clear F6 N6 hv6
        simp only [List.length_cons] at hn6 hl6
        k_unfold
        dsimp only
        have hnl := nl_le c ln6
        walk1
        try dsimp only
        lcg_lit
        k_steps
        · refine unhold ?_
          lcg_lit
          rename List.isEmpty _ = true => hws
          rename (sgn c == Str.ofString "\"") = true => hq
          rename Fr _ _ _ _ => F9
          rename News _ _ _ _ => N9
          obtain rfl := quo_yes hq
          rw [tok_q] at hG6
          refine inner_q h0 lt9 B' X' T' ?hd ?hu ?hE hw ?hl ?ha (Fr.of_eq F9 frm_ch) N9 hG6 ?ret ?fin
          case hd => (first | lia | omega)
          case hu => (first | lia | omega)
          case hE => passes_own
          case hl => exact ⟨by (first | lia | omega), by (first | lia | omega)⟩
          case ha => simp only [List.length_nil, List.length_cons, List.length_take, List.length_drop]; (first | lia | omega)
          case ret =>
            intro h8 tk8 m8 t8 tl8 vs8 n8 F8 N8 sa8
            clear F9 N9
            k_steps
            exact Left.intro F8 N8 (by kxw_bool) ⟨_, _, _, _, rfl, rfl, sa8⟩
          case fin =>
            intro h8 tk8 ch8 t8 tl8 n8 e8 F8 N8
            clear F9 N9
            k_steps
            exact unhold ⟨0, by (first | lia | omega), .fin rfl rfl F8 N8 e8⟩
        · refine unhold ?_
          rename List.isEmpty _ = true => hws
          rename (sgn c == Str.ofString "\\") = true => hb
          rename Fr _ _ _ _ => F5
          rename News _ _ _ _ => N5
          obtain rfl := bsl_yes hb
          rw [tok_step] at hG6
          have hno := nlo_le ds (nl 92 ln6)
          show wpAny _ _ (call (.ref 35) [.ref R.x]) _ _ _
          lcg_lit
          refine' char_lex h0 hw ⟨by (first | lia | omega), by (first | lia | omega)⟩ lt9 ?B F5 X' N5 T' ?hk ?hd ?hu ?_
          case B => k_asm
          case hk => rfl
          case hd => ktr_room
          case hu => ktr_units
          intro h8 tk8 tl8 tc8 ws8 n8 F8 N8 hw8
          clear F5 N5 hw
          k_steps
          refine unhold ?_
          rename Fr _ _ _ _ => F9
          rename News _ _ _ _ => N9
          rw [tx_tx, List.nil_append] at F9
          lcg_lit
          refine inner_b h0 lt9 B' X' T' ?hd ?hu ?hE hw8 ?hl ?ha (Fr.of_eq F9 frm_tcc) N9 hG6 ?ret ?fin
          case hd => (first | lia | omega)
          case hu => (first | lia | omega)
          case hE => passes_own
          case hl => exact ⟨by (first | lia | omega), by (first | lia | omega)⟩
          case ha => simp only [List.length_nil, List.length_cons, List.length_take, List.length_drop]; (first | lia | omega)
          case ret =>
            intro ha tka ma ta tla vsa na Fa Na saa
            clear F9 N9
            k_steps
            exact Left.intro Fa Na (by kxw_bool) ⟨_, _, _, _, rfl, rfl, saa⟩
          case fin =>
            intro ha tka cha ta tla na ea Fa Na
            clear F9 N9
            k_steps
            exact unhold ⟨0, by (first | lia | omega), .fin rfl rfl Fa Na ea⟩
        · refine unhold ?_
          rename List.isEmpty _ = true => hws
          rename (sgn c == Str.ofString "\"") = false => hq
          rename (sgn c == Str.ofString "\\") = false => hb
          rename Fr _ _ _ _ => F9
          rename News _ _ _ _ => N9
          rw [ws_is] at hws
          rw [tok_lit1 _ _ (by simpa using hws) (quo_no hq) (bsl_no hb)] at hG6
          rw [tx_app, List.nil_append] at F9
          lcg_lit
          refine inner_b h0 lt9 B' X' T' ?hd ?hu ?hE hw ?hl ?ha (Fr.of_eq F9 frm_tc) N9 hG6 ?ret ?fin
          case hd => (first | lia | omega)
          case hu => (first | lia | omega)
          case hE => passes_own
          case hl => exact ⟨by (first | lia | omega), by (first | lia | omega)⟩
          case ha => simp only [List.length_nil, List.length_cons, List.length_take, List.length_drop]; (first | lia | omega)
          case ret =>
            intro h8 tk8 m8 t8 tl8 vs8 n8 F8 N8 sa8
            clear F9 N9
            k_steps
            exact Left.intro F8 N8 (by kxw_bool) ⟨_, _, _, _, rfl, rfl, sa8⟩
          case fin =>
            intro h8 tk8 ch8 t8 tl8 n8 e8 F8 N8
            clear F9 N9
            k_steps
            exact unhold ⟨0, by (first | lia | omega), .fin rfl rfl F8 N8 e8⟩
        · rename List.isEmpty _ = false => hws
          rename Fr _ _ _ _ => F9
          rename News _ _ _ _ => N9
          rw [ws_is] at hws
          rw [tok_sp _ _ (by simpa using hws)] at hG6
          exact unhold ⟨ds.length + 1, by (first | lia | omega), .act rfl rfl (Fr.of_eq F9 frm_ch) N9 hw (Nat.le_refl _) ⟨by (first | lia | omega), by (first | lia | omega)⟩ hG6⟩
    · subst e1
      subst e2
      refine next_ended F6 N6 ?_
      intro h5 F5 N5
      clear F6 N6
      k_unfold
      dsimp only
      k_steps
      exact Left.intro (by k_asm) (by k_asm) (by kxw_bool) ⟨_, _, _, _, rfl, rfl, by rw [hG6]; exact .nil⟩

end
section
theorem startAny2 : True := by
  w_top off
  trivial
theorem strs_of_nil {v : List Value} (h : StrsAre v []) : v = [] := by cases h; rfl
theorem strs_of_cons {v : List Value} {x : Str} {l : List Str} (h : StrsAre v (x :: l)) : ∃ t r, v = .str x t :: r ∧ StrsAre r l := by cases h with | cons _ t h => exact ⟨t, _, rfl, h⟩
inductive TokE (P : Params) (R : RdA) (q : List Nat × List (List Nat) × List Nat × Int) (v : Value) (post : List (Addr × Obj)) : Prop
  | mk (tk tl : Tok) (pv vs : List Value) (k n : Nat) : v = .str (tx q.1) tk → post = rdAll P R q.2.2.2 tl pv k vs n → StrsAre pv (q.2.1.map tx) → StrsAre vs (q.2.2.1.map sgn) → TokE P R q v post
theorem tok_any (w : World) (R : RdA) (h : R.Ok) (ln : Int) (tl : Tok) (k : Nat) (ps : List (List Nat)) (xs : List Nat) (hp : ps.length ≤ 10000) (hz : 0 ≤ ln ∧ ln + xs.length ≤ 10000) (pv vs : List Value) (hpv : StrsAre pv (ps.map tx)) (hv : StrsAre vs (xs.map sgn)) (n : Nat) :
   Does row.prog w (hd.heap_39 w.params) 24 240 42 [.ref R.x] (rdAll w.params R ln tl pv k vs n) (TokE w.params R (stepP ps xs ln)) := by
  intro p loose mean mg mb dp un gd cn cs a ccd cl outer A₀ base h₀ L m s RR B F X N T hk hd hu hret
  cases ps with
  | nil =>
    have e := strs_of_nil hpv
    subst e
    refine tok_lex w R h ln tl k xs hz vs hv n _ _ _ _ _ _ _ _ _ _ _ _ _ _ _ _ _ _ _ _ _ B F X N T hk hd hu ?_
    intro n0 v post s' en hP kk
    obtain ⟨tk, tl', vs', n', e1, e2, hv'⟩ := hP
    exact hret n0 v post s' en (.mk tk tl' [] vs' k n' e1 e2 .nil hv') kk
  | cons y r =>
    obtain ⟨t, pv', e, hpv'⟩ := strs_of_cons hpv
    subst e
    refine tok_push w R h ln tl (.str (tx y) t) pv' ?z k vs n _ _ _ _ _ _ _ _ _ _ _ _ _ _ _ _ _ _ _ _ _ B F X N T hk ?d ?u ?_
    case z =>
      have := hpv'.length
      rw [List.length_map] at this
      simp only [List.length_cons] at hp
      (first | lia | omega)
    case d => exact Nat.lt_of_le_of_lt (Nat.add_le_add_left (by decide) _) hd
    case u => exact Nat.lt_of_le_of_lt (Nat.add_le_add_left (by decide) _) hu
    intro n0 v post s' en hP kk
    exact hret n0 v post s' en (.mk t tl pv' vs (k + 1) n hP.1 hP.2 hpv' hv) kk

end
section
theorem startPar2 : True := by
  w_top off
  k_with "Par2 0" => (simp only [PySem.sizeLine_eq, Str.length_append, tx_len, sgn_len, len_empty, List.length_append, List.length_cons, List.length_nil]; (first | lia | omega))
  k_with "Par2 1" => (
    intro y
    by_cases h1 : y = Str.ofString "c"; · subst h1; rfl
    by_cases h2 : y = Str.ofString "i"; · subst h2; first | rfl | (refine congrArg some (congrArg (fun z => Value.int z _) ?_); first | assumption | (first | lia | omega))
    by_cases h3 : y = Str.ofString "dirname"; · subst h3; first | rfl | (refine congrArg some (congrArg (fun z => Value.str z _) ?_); first | exact tx_app _ _ | exact tx_empty _ | exact tx_nil | assumption)
    by_cases h4 : y = Str.ofString "resp"; · subst h4; rfl
    by_cases h5 : y = Str.ofString "n"; · subst h5; first | rfl | (refine congrArg some (congrArg (fun z => Value.int z _) ?_); first | assumption | (first | lia | omega))
    first | (simp only [frmP, if_neg h1, if_neg h2, if_neg h3, if_neg h4, if_neg h5]; done) | (simp only [frmP, if_neg h1, if_neg h2, if_neg h3, if_neg h4, if_neg h5]; show List.lookup y [(Str.ofString "resp", _)] = none; rw [List.lookup_cons, beq_eq_false_iff_ne.mpr h4]; rfl))
  trivial
local macro_rules | `(tactic| walk_at "zz none") => `(tactic| fail "zz none")
noncomputable abbrev frmP (cv : Option Value) (i : Int) (ti : Tok) (d : Str) (td : Tok) (x : Str) (t : Tok) (n : Int) (tn : Tok) : Str → Option Value := fun y =>
  if y = Str.ofString "c" then cv else if y = Str.ofString "i" then some (.int i ti) else if y = Str.ofString "dirname" then some (.str d td) else if y = Str.ofString "resp" then some (.str x t) else if y = Str.ofString "n" then some (.int n tn) else none
inductive PaI (g : Heap) (L' : Addr) (s0 : Shared) (l : List Nat) (t : Tok) (goal : List Nat) : Nat → Shared → Prop
  | go {k i : Nat} {h tk cv ti td tn D} : i + k = l.length → D.length ≤ i → Fr g L' h (frmP cv (i : Int) ti (tx D) td (tx l) t (l.length : Int) tn) → News g L' h [] → D ++ unq (l.drop i) = goal → PaI g L' s0 l t goal k { s0 with heap := h, toks := tk }
local macro_rules | `(tactic| walk_at "exec While Compare cons nil") => `(tactic| refine hold ?_)
local macro_rules | `(tactic| size_fits) => `(tactic| k_extra "Par2 0")
local macro_rules | `(tactic| walk_at "m frm") => `(tactic| k_extra "Par2 1")
theorem pars (w : World) (l : List Nat) (t : Tok) (hz : l.length ≤ 10000) (h3 : l.take 3 = [50, 53, 55]) (h5 : 5 ≤ l.length) :
   Does row.prog w (hd.heap_39 w.params) 8 80 88 [.str (tx l) t] [] (fun v post => ∃ t, v = .str (tx (p257 l)) t ∧ post = []) := by
  have e1 : (Txt.slice (tx l) none (some 3) == Str.ofString "257") = true := by
    rw [show (3 : Int) = ((3 : Nat) : Int) from rfl, sl_to, h3]; decide +kernel
  have hlen : (tx l).length = l.length := tx_len l
  k_fill
  intro p loose mean mg mb dp un gd cn cs a ccd cl outer A₀ base h₀ L m s RR B F X N T hk hd' hu hret
  k_dflt walk_at "m enter"
  rename_i g' L' hh0 FG FF NN B' X' T' l0 l1
  have e2 : Txt.slice (tx l) (some 3) (some 5) = tx ((l.drop 3).take 2) := sl_ij l 3 5 (by decide) h5
  have e3 : Str.ofString " \"" = tx [32, 34] := by decide +kernel
  k_steps
  · rename (_ != _) = true => hb
    rw [bne, e1] at hb
    cases hb
  · rename (Txt.slice (tx l) (some 3) (some 5) != _) = true => hb
    rw [e2, e3, bne, tx_inj] at hb
    exact Left.intro (by k_asm) (by k_asm) (by kxw_bool) ⟨_, by rw [p257, if_neg (by simpa using hb)]; rfl, rfl⟩
  refine unhold ?_
  rename (Txt.slice (tx l) (some 3) (some 5) != _) = false => hb
  rw [e2, e3, bne, tx_inj] at hb
  have hP : p257 l = unq (l.drop 5) := by rw [p257, if_pos (by simpa using hb)]
  generalize hG : unq (l.drop 5) = G at hP
  clear hb
  rename Fr _ _ _ _ => F1
  rename News _ _ _ _ => N1
  have F2 := Fr.congr (m' := frmP none ((5 : Nat) : Int) _ (tx []) _ (tx l) t (l.length : Int) _) F1 (by walk_at "m frm")
  clear F1
  refine While_rule (PaI g' L' s l t G) (l.length - 5) (.go (by (first | lia | omega)) (by simp) F2 N1 (by rw [List.nil_append]; exact hG)) ?_
  clear F2 N1 hG
  intro n s1 hI
  cases hI with
  | go hik hD F3 N3 e3 =>
    rename_i i _ _ _ _ _ _ D
    cases n with
    | zero =>
      have hd : l.drop i = [] := List.drop_eq_nil_of_le (by (first | lia | omega))
      rw [hd, unq_nil, List.append_nil] at e3
      subst e3
      k_steps
      exact Left.intro (by k_asm) (by k_asm) (by kxw_bool) ⟨_, by rw [hP], rfl⟩
    | succ n =>
      obtain ⟨c, hc⟩ : ∃ c, l[i]? = some c := ⟨_, List.getElem?_eq_getElem (by (first | lia | omega))⟩
      have hic := it_at hc
      have hdc := drop_at hc
      rw [hdc] at e3
      k_steps
      all_goals first | (exfalso; (first | lia | omega); done) | skip
      · rename (_ == _) = true => hb
        rw [hic, is34] at hb
        have hb' := of_decide_eq_true hb
        subst hb'
        have hd : l.drop (i + 1) = [] := List.drop_eq_nil_of_le (by (first | lia | omega))
        rw [hd, unq_end, List.append_nil] at e3
        subst e3
        exact Left.intro (by k_asm) (by k_asm) (by kxw_bool) ⟨_, by rw [hP], rfl⟩
      · rename (Txt.item (tx l) (i : Int) == _) = true => hb
        rw [hic, is34] at hb
        have hb' := of_decide_eq_true hb
        subst hb'
        obtain ⟨d, hd⟩ : ∃ d, l[i + 1]? = some d := ⟨_, List.getElem?_eq_getElem (by (first | lia | omega))⟩
        have hid := it_at hd
        rename (_ != _) = true => hb2
        rw [show ((i : Int) + 1) = ((i + 1 : Nat) : Int) by (first | lia | omega), hid, bne, is34] at hb2
        rw [drop_at hd, unq_stop _ (by simpa using hb2), List.append_nil] at e3
        subst e3
        exact Left.intro (by k_asm) (by k_asm) (by kxw_bool) ⟨_, by rw [hP], rfl⟩
      · rename (Txt.item (tx l) (i : Int) == _) = true => hb
        rw [hic, is34] at hb
        have hb' := of_decide_eq_true hb
        subst hb'
        obtain ⟨d, hd⟩ : ∃ d, l[i + 1]? = some d := ⟨_, List.getElem?_eq_getElem (by (first | lia | omega))⟩
        have hid := it_at hd
        rename (_ != _) = false => hb2
        rw [show ((i : Int) + 1) = ((i + 1 : Nat) : Int) by (first | lia | omega), hid, bne, is34] at hb2
        have hb3 : d = 34 := by simpa using hb2
        subst hb3
        rw [drop_at hd, unq_two] at e3
        rename Fr _ _ _ _ => F9
        rw [hic] at F9
        have F8 := Fr.congr (m' := frmP (some (.str (sgn 34) _)) ((i + 1 + 1 : Nat) : Int) _ (tx (D ++ [34])) _ (tx l) t (l.length : Int) _) F9 (by walk_at "m frm")
        refine unhold ⟨n - 1, by (first | lia | omega), .go (i := i + 1 + 1) (by (first | lia | omega)) (by rw [List.length_append, List.length_singleton]; (first | lia | omega)) F8 (fun _ h => nomatch h) (by rw [List.append_assoc]; exact e3)⟩
      · rename (Txt.item (tx l) (i : Int) == _) = false => hb
        rw [hic, is34] at hb
        rw [unq_cons _ (of_decide_eq_false hb)] at e3
        rename Fr _ _ _ _ => F9
        rw [hic] at F9
        have F8 := Fr.congr (m' := frmP (some (.str (sgn c) _)) ((i + 1 : Nat) : Int) _ (tx (D ++ [c])) _ (tx l) t (l.length : Int) _) F9 (by walk_at "m frm")
        refine unhold ⟨n, by (first | lia | omega), .go (i := i + 1) (by (first | lia | omega)) (by rw [List.length_append, List.length_singleton]; (first | lia | omega)) F8 (fun _ h => nomatch h) (by rw [List.append_assoc]; exact e3)⟩

end
section
theorem startAp2 : True := by
  w_top off
  k_with "Ap2 0" => (
    intro y
    by_cases h1 : y = Str.ofString "mod"; · subst h1; rfl
    by_cases h2 : y = Str.ofString "num"; · subst h2; first | rfl | (refine congrArg some (congrArg (fun z => Value.int z _) ?_); first | assumption | (first | lia | omega))
    by_cases h3 : y = Str.ofString "val"; · subst h3; first | rfl | (refine congrArg some (congrArg (fun z => Value.bytes z _) ?_); assumption)
    by_cases h4 : y = Str.ofString "AP"; · subst h4; rfl
    first | (simp only [frmA, if_neg h1, if_neg h2, if_neg h3, if_neg h4]; done) | (simp only [frmA, if_neg h1, if_neg h2, if_neg h3, if_neg h4]; show List.lookup y [(Str.ofString "num", _)] = none; rw [List.lookup_cons, beq_eq_false_iff_ne.mpr h2]; rfl))
  k_with "Ap2 1" => (k_here; (with_reducible show wpAny _ _ (subscriptTail _ (Expr.Slice _ _ none _) (Value.bytes _ _) (Value.ref _)) _ _ _); (with_reducible rename Fr _ _ _ _ => F'); (with_reducible rename News _ _ _ _ => N'); (refine KBc.slice_K (s := ⟨_, _, _, _, _⟩) F' N' rfl (by constructor) (by constructor) (by decide) ?_))
  k_with "Ap2 2" => (k_here; (refine KBy.add_bytes (by simp only [by8_size, List.length_cons, List.length_nil]; (first | lia | omega)) ?_))
  trivial
local macro_rules | `(tactic| walk_at "zz none") => `(tactic| fail "zz none")
local macro_rules | `(tactic| walk_at "zz none") => `(tactic| fail "zz none")
local macro_rules | `(tactic| walk_at "zz none") => `(tactic| fail "zz none")
local macro_rules | `(tactic| walk_at "zz none") => `(tactic| fail "zz none")
noncomputable abbrev frmA (md : Option Value) (z : Int) (tz : Tok) (a : Array UInt8) (ta tA : Tok) : Str → Option Value := fun y =>
  if y = Str.ofString "mod" then md else if y = Str.ofString "num" then some (.int z tz) else if y = Str.ofString "val" then some (.bytes a ta)
  else if y = Str.ofString "AP" then some (.bytes #[65, 66, 67, 68, 69, 70, 71, 72, 73, 74, 75, 76, 77, 78, 79, 80] tA) else none
inductive ApI (g : Heap) (L' : Addr) (s0 : Shared) (goal : List Nat) : Nat → Shared → Prop
  | go {n : Nat} {h tk md tz ta tA S} : S.length ≤ 1000 → Fr g L' h (frmA md (n : Int) tz (by8 S) ta tA) → News g L' h [] → ap n ++ S = goal → ApI g L' s0 goal n { s0 with heap := h, toks := tk }
local macro_rules | `(tactic| walk_at "exec While Name cons nil") => `(tactic| refine hold ?_)
local macro_rules | `(tactic| walk_at "m frm") => `(tactic| k_extra "Ap2 0")
local macro_rules | `(tactic| walk_at "subscriptTail") => `(tactic| (k_extra "Ap2 1"; intro h' t' k' F' N' kbc; clear kbc; (try simp only [pick16]); (try k_sweep)))
local macro_rules | `(tactic| walk_at "binaryOp Add bytes bytes") => `(tactic| (k_extra "Ap2 2"; intro _ _))
theorem int2ap (w : World) (z : Int) (t : Tok) (hz : (ap z.natAbs).length ≤ 1000) :
   Does row.prog w (hd.heap_39 w.params) 4 40 95 [.int z t] [] (fun v post => ∃ t, v = .bytes (by8 (ap z.natAbs)) t ∧ post = []) := by
  generalize hG : ap z.natAbs = G at hz ⊢
  k_fill
  intro p loose mean mg mb dp un gd cn cs a ccd cl outer A₀ base h₀ L m s RR B F X N T hk hd' hu hret
  k_dflt walk_at "m enter"
  k_steps
  refine unhold ?_
  rename Fr _ _ _ _ => F1
  rename News _ _ _ _ => N1
  rename_i g' L' hh0 FG B' X' T' l0 l1 tk2 hh1 _ hh2 _ u3 tk3 hh3 _
  have F2 := Fr.congr (m' := frmA none (z.natAbs : Int) u3 (by8 []) _ _) F1 (by walk_at "m frm")
  clear F1
  refine While_rule (ApI g' L' s G) z.natAbs (.go (by simp) F2 N1 (by rw [List.append_nil]; exact hG)) ?_
  clear F2 N1
  intro n s1 hI
  cases hI with
  | go hS F3 N3 e3 =>
    rename_i S
    have hl := congrArg List.length e3
    rw [List.length_append] at hl
    k_steps
    · rename Fr _ _ _ _ => F9
      rename News _ _ _ _ => N9
      rename_i hn0 _ _ _ _ _ _ _ _ _ _
      have hn : n ≠ 0 := by (first | lia | omega)
      have e1 := fdiv16 n
      have e2 : by8 [65 + n % 16] ++ by8 S = by8 ((65 + n % 16) :: S) := by8_app _ _
      have F8 := Fr.congr (m' := frmA (some (.int ((n : Int).fmod 16) _)) ((n / 16 : Nat) : Int) _ (by8 ((65 + n % 16) :: S)) _ _) F9 (by walk_at "m frm")
      exact ⟨n / 16, by (first | lia | omega), .go (by simp only [List.length_cons]; rw [ap_pos hn, List.length_append] at hl; simp only [List.length_cons, List.length_nil] at hl; (first | lia | omega)) F8 (fun _ h => nomatch h) (by rw [← e3, ap_pos hn, List.append_assoc]; rfl)⟩
    · have hn : n = 0 := by (first | lia | omega)
      subst hn
      rw [ap_zero, List.nil_append] at e3
      subst e3
      exact Left.intro (by k_asm) (by k_asm) (by kxw_bool) ⟨_, rfl, rfl⟩

end
section
theorem startWritten2 : True := by
  w_top off
  k_with "Written2 1" => (simp only [PySem.sizeLine_eq, Str.length_append, tx_len, sgn_len, len_empty, List.length_append, List.length_cons, List.length_nil, show (Str.ofString "P").length = 1 from by decide +kernel]; (first | lia | omega))
  trivial
noncomputable abbrev frmN (lt : Option Value) (n : Int) (tn : Tok) (x : Str) (tx : Tok) (b : Int) (tb : Tok) : Str → Option Value := fun y =>
  if y = Str.ofString "letter" then lt else if y = Str.ofString "number" then some (.int n tn) else if y = Str.ofString "row" then some (.str x tx) else if y = Str.ofString "minus" then some (.int b tb) else none
theorem frmN_step {lt v : Option Value} {n n2 : Int} {tn u : Tok} {x : Str} {tx : Tok} {b : Int} {tb : Tok} : (fun y => if y = Str.ofString "number" then some (.int n2 u) else if y = Str.ofString "letter" then v else frmN lt n tn x tx b tb y) = frmN v n2 u x tx b tb := by
  funext y
  unfold frmN
  by_cases h : y = Str.ofString "number"
  · subst h
    rw [if_pos rfl, if_neg (by decide), if_pos rfl]
  · rw [if_neg h, if_neg h]
    by_cases h2 : y = Str.ofString "letter"
    · rw [if_pos h2, if_pos h2]
    · rw [if_neg h2, if_neg h2, if_neg h2, if_neg h]
theorem Fr.of_eq2 {h₀ h : Heap} {L : Addr} {m m' : Str → Option Value} (F : Fr h₀ L h m) (e : m = m') : Fr h₀ L h m' := e ▸ F
local macro_rules | `(tactic| walk_at "exec For Name BinOp cons nil") => `(tactic| refine hold ?_)
local macro_rules | `(tactic| walk_at "pyIter str") => `(tactic| refine hold ?_)
local macro_rules | `(tactic| walk_at "call ref") => `(tactic| refine hold ?_)
local macro_rules | `(tactic| walk_at "eval ListComp") => `(tactic| (refine hold ?_))
local macro_rules | `(tactic| walk_at "pyIter bytes") => `(tactic| (refine hold ?_))
local macro_rules | `(tactic| walk_at "call builtin:str.join") => `(tactic| (k_here; k_dflt (refine' join_list ?h ?sa ?z ?_; (case h => exact News.isList (by k_asm) (by k_mem)); (case sa => assumption); (case z => assumption); k_whole; intro t9 tk9)))
local macro_rules | `(tactic| size_fits) => `(tactic| k_extra "Written2 1")
theorem news_nil {h₀ h : Heap} {L : Addr} {news : List (Addr × Obj)} (_ : News h₀ L h news) : News h₀ L h [] := fun _ h => nomatch h
theorem pm_abs (z : Int) {b : Nat} (h : b < 2) : ([z, -z].getD ((b : Int)).toNat 0).natAbs = z.natAbs := by
  have : b = 0 ∨ b = 1 := by (first | lia | omega)
  rcases this with rfl | rfl
  · rfl
  · exact Int.natAbs_neg z
theorem ex_and {P : Tok → Prop} {R : Prop} (h : ∃ t, P t ∧ R) : (∃ t, P t) ∧ R := let ⟨t, a, b⟩ := h; ⟨⟨t, a⟩, b⟩
theorem written (w : World) (l : List Nat) (t : Tok) (b : Nat) (u : Tok) (hz : l.length ≤ 400) (hl : ∀ c ∈ l, Lt c) (hb : b < 2) :
   Does row.prog w (hd.heap_39 w.params) 16 160 100 [.str (tx l) t, .int (b : Int) u] [] (fun v post => (∃ t, v = .str (tx (80 :: l)) t) ∧ post = []) := by
  have hap := ap_val16 hl
  have hl2 := lt_P hl
  have hlen : (80 :: l).length ≤ 401 := by simp only [List.length_cons]; (first | lia | omega)
  generalize hL : 80 :: l = l2 at hap hl2 hlen ⊢
  k_fill
  intro p loose mean mg mb dp un gd cn cs a ccd cl outer A₀ base h₀ L m s RR B F X N T hk hd' hu hret
  k_dflt walk_at "m enter"
  k_steps
  refine unhold ?_
  refine For_walk (by k_asm) rfl rfl rfl ?_
  k_steps
  refine unhold ?_
  rw [txP, hL]
  refine' for_str (fun i m nw => nw = [] ∧ ∃ lt tn, m = frmN lt (val16 (l2.take i)) tn (tx l) t b u) rfl (by k_asm) (by k_asm) ⟨rfl, none, ?tn, ?j0⟩ ?turn ?fin
  case j0 =>
    funext y
    by_cases h1 : y = Str.ofString "letter"; · subst h1; rfl
    by_cases h2 : y = Str.ofString "number"; · subst h2; rfl
    by_cases h3 : y = Str.ofString "row"; · subst h3; rfl
    by_cases h4 : y = Str.ofString "minus"; · subst h4; rfl
    simp only [frmN, if_neg h1, if_neg h2, if_neg h3, if_neg h4]; show List.lookup y [(Str.ofString "minus", _), (Str.ofString "row", _)] = none; rw [List.lookup_cons, beq_eq_false_iff_ne.mpr h4]; show List.lookup y [(Str.ofString "row", _)] = none; rw [List.lookup_cons, beq_eq_false_iff_ne.mpr h3]; rfl
  case turn =>
    intro g I i m nw v h tk oI hi hJ hP F N off
    obtain ⟨e, lt, tn, em⟩ := hJ
    subst e
    subst em
    obtain ⟨c, u2, hc, e⟩ := hP
    subst e
    have hc' : l2[i]? = some c := by simpa using hc
    have hcb := hl2 c (List.mem_of_getElem? hc')
    have hcb1 := hcb.1
    have hcb2 := hcb.2
    have hf := find16' hcb
    have hv := val_succ hc'
    clear hc hi hlen hl hl2 hap
    lcg_lit
    k_steps
    · rename Txt.find _ _ = -1 => hn
      have hn2 : Txt.find (Str.ofString "ABCDEFGHIJKLMNOP") (sgn c) = -1 := hn
      rw [hf] at hn2
      exfalso; (first | lia | omega)
    · rename Fr _ _ _ _ => F9
      rename News _ _ _ _ => N9
      rw [hf, ← hv] at F9
      exact unhold ⟨_, _, _, _, rfl, Fr.of_eq2 F9 frmN_step, N9, off, rfl, _, _, rfl⟩
  case fin =>
    intro m nw h tk hJ F N
    obtain ⟨e, lt, tn, em⟩ := hJ
    subst e
    subst em
    have hT : l2.take (tx l2).cps.size = l2 := by simp
    rw [hT] at F
    try lcg_lit
    k_steps
    refine unhold ?_
    k_dflt refine ListComp_X (F₀ := by k_asm) (by rfl) (by decide) (by rfl) (by decide) (by rfl) ?_
    try lcg_lit
    k_steps
    refine unhold ?_
    rename Fr _ _ _ _ => F9
    rename News _ _ _ _ => N7
    have N9 := news_nil N7
    clear N7
    have hpm := pm_abs (val16 l2) hb
    refine' Does.use (int2ap _ _ _ ?z) ?B F9 ?X N9 ?T ?hk ?hd ?hu ?hp ?hr ?_
    case z => rw [hpm, hap]; (first | lia | omega)
    case B => k_asm
    case X => k_asm
    case T => k_asm
    case hk => rfl
    case hd => ktr_room
    case hu => ktr_units
    case hp => exact sub_nil
    case hr => kin_val
    intro n0 v post h' tk' _ hP F' N'
    obtain ⟨⟨t9, e9⟩, e8⟩ := ex_and hP
    subst e9
    subst e8
    rw [hpm, hap]
    clear F9 N9 hP F N
    k_steps
    refine unhold ?_
    refine WalkSrc.bytes rfl (by k_asm) (by k_asm) ?sz ?_
    case sz => rw [by8_size]; simp only [PySem.sizeLine_eq]; (first | lia | omega)
    intro g
    refine compRest (fun i ys news => news = [] ∧ StrsAre ys ((l2.take i).map sgn)) ?turn ?fin _ 0 [] [] (Nat.zero_add _) ⟨rfl, .nil⟩
    case turn =>
      intro i ys news hi hJ v I oI C oC D m₂ h tk E' hP hC hx F N off ne
      obtain ⟨e, hys⟩ := hJ
      subst e
      obtain ⟨c, u, hc, e⟩ := hP
      subst e
      have hb : c.toNat < 256 := c.toNat_lt
      have hl := by8_at (fun c h => Nat.lt_trans (hl2 c h).2 (by decide)) hc
      k_steps
      refine hold ⟨rfl, ?_⟩
      rw [List.take_add_one, hl, List.map_append]
      exact strsAre_append hys (.cons _ _ .nil)
    case fin =>
      intro ys news hJ
      obtain ⟨e, hys⟩ := hJ
      subst e
      rw [by8_size, List.take_length] at hys
      intro D h tk F N hm
      have hj := join_sz l2 (by (first | lia | omega))
      k_steps
      exact Left.intro (by k_asm) (by k_asm) (by kxw_bool) ⟨⟨_, by rw [join_signs]⟩, rfl⟩

end
section
theorem startSigns2 : True := by
  w_top off
  k_with "Signs2 1" => (simp only [PySem.sizeLine_eq, Str.length_append, tx_len, sgn_len, len_empty, List.length_append, List.length_cons, List.length_nil]; (first | lia | omega))
  trivial
local macro_rules | `(tactic| walk_at "eval ListComp") => `(tactic| (refine hold ?_))
local macro_rules | `(tactic| walk_at "pyIter str") => `(tactic| (refine hold ?_))
local macro_rules | `(tactic| walk_at "call builtin:str.join") => `(tactic| (k_here; k_dflt (refine' join_list ?h ?sa ?z ?_; (case h => exact News.isList (by k_asm) (by k_mem)); (case sa => assumption); (case z => assumption); k_whole; intro t9 tk9)))
local macro_rules | `(tactic| size_fits) => `(tactic| k_extra "Signs2 1")
theorem sl_one (c : Nat) (l : List Nat) : Txt.slice (tx (c :: l)) (some 1) none = tx l := sl_from (c :: l) 1
theorem signed (w : World) (l : List Nat) (t : Tok) (hz : l.length ≤ 400) (hl : ∀ c ∈ l, Lt c) :
   Does row.prog w (hd.heap_39 w.params) 16 160 105 [.str (tx (80 :: l)) t] [] (fun v post => (∃ t, v = .str (tx (l.map sig)) t) ∧ post = []) := by
  k_fill
  intro p loose mean mg mb dp un gd cn cs a ccd cl outer A₀ base h₀ L m s RR B F X N T hk hd' hu hret
  have hlen : (tx (80 :: l)).length = l.length + 1 := by rw [tx_len]; rfl
  k_dflt walk_at "m enter"
  k_steps
  refine unhold ?_
  k_dflt refine ListComp_X (F₀ := by k_asm) (by rfl) (by decide) (by rfl) (by decide) (by rfl) ?_
  k_steps
  refine unhold ?_
  rw [sl_one]
  refine WalkSrc.str rfl (by k_asm) (by k_asm) ?sz ?_
  case sz => size_fits
  intro g
  refine compRest (fun i ys news => news = [] ∧ StrsAre ys (((l.take i).map sig).map sgn)) ?turn ?fin _ 0 [] [] (Nat.zero_add _) ⟨rfl, .nil⟩
  case turn =>
    intro i ys news hi hJ v I oI C oC D m₂ h tk E' hP hC hx F N off ne
    obtain ⟨e, hys⟩ := hJ
    subst e
    obtain ⟨c, u, hc, e⟩ := hP
    subst e
    have hc' : l[i]? = some c := by simpa using hc
    have hcl := hl c (List.mem_of_getElem? hc')
    have hc1 := hcl.1
    have hc2 := hcl.2
    k_steps
    refine unhold ⟨rfl, ?_⟩
    rw [List.take_add_one, hc', List.map_append, List.map_append, item_sig' hcl]
    exact strsAre_append hys (.cons _ _ .nil)
  case fin =>
    intro ys news hJ
    obtain ⟨e, hys⟩ := hJ
    subst e
    rw [show (tx l).cps.size = l.length by simp, List.take_length] at hys
    intro D h tk F N hm
    have hj := join_sz (l.map sig) (by rw [List.length_map]; (first | lia | omega))
    k_steps
    exact Left.intro (by k_asm) (by k_asm) (by kxw_bool) ⟨⟨_, by rw [join_signs]⟩, rfl⟩

end
section
theorem startNames2 : True := by
  w_top off
  k_with "Names2 0" => (simp only [PySem.sizeLine_eq, Str.length_append, tx_len, sgn_len, len_empty, List.size_toArray, Array.size_push, List.length_append, List.length_cons, List.length_nil, show (Str.ofString "257 \"").length = 5 from by decide +kernel]; (first | lia | omega))
  trivial
noncomputable abbrev frmW (nv : Option Value) (x : Str) (tx : Tok) (D : Nat) : Str → Option Value := fun y =>
  if y = Str.ofString "name" then nv else if y = Str.ofString "text" then some (.str x tx) else if y = Str.ofString "names" then some (.ref D) else none
theorem frmW_step {nv v : Option Value} {x x2 : Str} {tx u : Tok} {D : Nat} : (fun y => if y = Str.ofString "text" then some (.str x2 u) else if y = Str.ofString "name" then v else frmW nv x tx D y) = frmW v x2 u D := by
  funext y
  unfold frmW
  by_cases h : y = Str.ofString "text"
  · subst h
    rw [if_pos rfl, if_neg (by decide), if_pos rfl]
  · rw [if_neg h, if_neg h]
    by_cases h2 : y = Str.ofString "name"
    · rw [if_pos h2, if_pos h2]
    · rw [if_neg h2, if_neg h2, if_neg h2, if_neg h]
theorem Fr.of_eq3 {h₀ h : Heap} {L : Addr} {m m' : Str → Option Value} (F : Fr h₀ L h m) (e : m = m') : Fr h₀ L h m' := e ▸ F
theorem open257 (r : List Nat) : Str.ofString "257 \"" ++ tx r = tx (50 :: 53 :: 55 :: 32 :: 34 :: r) := by
  rw [show Str.ofString "257 \"" = tx [50, 53, 55, 32, 34] by decide +kernel]
  show (⟨_ ++ r.toArray⟩ : Str) = ⟨_⟩
  simp
theorem p257_open (r : List Nat) : p257 (50 :: 53 :: 55 :: 32 :: 34 :: r) = unq r := by
  have e : ((50 :: 53 :: 55 :: 32 :: 34 :: r).drop 3).take 2 = [32, 34] := rfl
  unfold p257
  rw [if_pos e]; rfl
theorem unq_le : ∀ (n : Nat) (l : List Nat), l.length ≤ n → (unq l).length ≤ l.length
  | _, [], _ => by rw [unq_nil]; exact Nat.le_refl _
  | 0, _ :: _, h => by simp at h
  | n + 1, c :: l, h => by
    by_cases hc : c = 34
    · subst hc
      cases l with
      | nil => rw [unq_end]; exact Nat.zero_le _
      | cons d l =>
        by_cases hd : d = 34
        · subst hd
          rw [unq_two]
          have := unq_le n l (by simp only [List.length_cons] at h; (first | lia | omega))
          simp only [List.length_cons]; (first | lia | omega)
        · rw [unq_stop _ hd]; exact Nat.zero_le _
    · rw [unq_cons _ hc]
      have := unq_le n l (by simp only [List.length_cons] at h; (first | lia | omega))
      simp only [List.length_cons]; (first | lia | omega)
inductive NmI (g : Heap) (L : Addr) (s0 : Shared) (D : Nat) (goal : List (List Nat)) (n : Nat) (s : Shared) : Prop
  | go {r ns ys nn h tk nv tt} : s = { s0 with heap := h, toks := tk } → r.length ≤ n → Fr g L h (frmW nv (tx r) tt D) → News g L h [(D, listOf (List.toArray ys) nn)] → StrsAre ys (ns.map tx) → ns ++ names r = goal → ns.length + r.length ≤ 1000 → NmI g L s0 D goal n s
local macro_rules | `(tactic| walk_at "exec While Compare cons nil") => `(tactic| refine hold ?_)
local macro_rules | `(tactic| walk_at "call ref") => `(tactic| refine hold ?_)
local macro_rules | `(tactic| size_fits) => `(tactic| k_extra "Names2 0")
theorem named (w : World) (l : List Nat) (t : Tok) (hz : l.length ≤ 400) :
   Does row.prog w (hd.heap_39 w.params) 16 160 119 [.str (tx l) t] [] (fun v post => ∃ D ys nn, StrsAre ys ((names l).map tx) ∧ v = .ref D ∧ post = [(D, listOf (List.toArray ys) nn)]) := by
  generalize hG : names l = G
  k_fill
  intro p loose mean mg mb dp un gd cn cs a ccd cl outer A₀ base h₀ L m s RR B F X N T hk hd' hu hret
  k_dflt walk_at "m enter"
  k_steps
  refine unhold ?_
  rename Fr _ _ _ _ => F1
  rename News _ _ _ _ => N1
  rename_i g' L' h0 FG B' X' T' e0 lz tk0 D h1 ld h2 _
  have F2 : Fr g' L' h2 (frmW none (tx l) t D) := Fr.congr F1 (by
    intro y
    by_cases h1 : y = Str.ofString "name"; · subst h1; rfl
    by_cases h2 : y = Str.ofString "text"; · subst h2; rfl
    by_cases h3 : y = Str.ofString "names"; · subst h3; rfl
    simp only [frmW, if_neg h1, if_neg h2, if_neg h3]; show List.lookup y [(Str.ofString "text", _)] = none; rw [List.lookup_cons, beq_eq_false_iff_ne.mpr h2]; rfl)
  clear F1
  refine While_rule (NmI g' L' s D G) l.length (.go (ns := []) rfl (Nat.le_refl _) F2 N1 .nil hG (by simp only [List.length_nil]; (first | lia | omega))) ?_
  clear F2 N1 hG
  intro n s1 hI
  obtain ⟨e1, hn, F3, N3, hs3, hg3, hb3⟩ := hI
  rename_i r ns ys nn h4 tk4 nv tt
  subst e1
  lcg_lit
  have hr := unq_le _ r (Nat.le_refl _)
  have hys : ys.length = ns.length := by rw [hs3.length, List.length_map]
  k_steps
  · rename (_ != _) = true => hne
    have hr0 : r ≠ [] := by
      intro e
      rw [e, show Str.ofString "" = tx [] from tx_nil, bne, tx_inj] at hne
      simp at hne
    refine unhold ?_
    rw [open257]
    refine' Does.use (pars w _ _ ?z rfl ?z5) ?B F3 X' N3 T' ?hk ?hd ?hu ?hp ?hr ?_
    case z => simp only [List.length_cons]; (first | lia | omega)
    case z5 => simp only [List.length_cons]; (first | lia | omega)
    case B => k_asm
    case hk => rfl
    case hd => ktr_room
    case hu => ktr_units
    case hp => exact sub_nil
    case hr => kin_val
    intro n0 v post h' tk' _ hP F' N'
    obtain ⟨t9, e9, e8⟩ := hP
    subst e9
    subst e8
    rw [p257_open]
    clear F3 N3
    have hc34 := count34 (unq r)
    have hul : (tx (unq r)).length = (unq r).length := tx_len _
    have hcl : (unq r).count 34 ≤ (unq r).length := List.count_le_length
    k_steps
    rename Fr _ _ _ _ => F9
    rename News _ _ _ _ => N9
    rw [hul, hc34, show ((unq r).length : Int) + (((unq r).count 34 : Nat) : Int) + 1 = (((unq r).length + (unq r).count 34 + 1 : Nat) : Int) by (first | lia | omega), sl_from] at F9
    rw [List.push_toArray] at N9
    have hrl : 0 < r.length := List.length_pos_iff.mpr hr0
    refine unhold ⟨(r.drop ((unq r).length + (unq r).count 34 + 1)).length, ?_, .go (ns := ns ++ [unq r]) rfl (Nat.le_refl _) (Fr.of_eq3 F9 frmW_step) N9 ?_ ?_ ?_⟩
    · rw [List.length_drop]; (first | lia | omega)
    · rw [List.map_append]; exact strsAre_append hs3 (.cons _ _ .nil)
    · rw [← hg3, names_cons hr0, List.append_assoc]; rfl
    · rw [List.length_append, List.length_drop]; simp only [List.length_cons, List.length_nil]; (first | lia | omega)
  · rename (_ != _) = false => hne
    have hr0 : r = [] := by
      rw [show Str.ofString "" = tx [] from tx_nil, bne, tx_inj] at hne
      simpa using hne
    subst hr0
    rw [names_nil, List.append_nil] at hg3
    subst hg3
    exact Left.intro (by k_asm) (by k_asm) (by kxw_bool) ⟨_, _, _, hs3, rfl, rfl⟩

end
section
theorem startExchd2 : True := by
  w_top off
  k_with "Exchd2 0" => first | (with_reducible first | exact lit_B | exact lit_BB | exact lit_AA | exact lit_Q | exact lit_A | exact lit_ACA | exact lit_BA | exact lit_C | exact lit_BC | exact lit_D | exact lit_BD | exact lit_E | exact lit_BE | exact lit_F | exact lit_BF | exact lit_J | exact lit_BJ | exact lit_QBD | exact lit_BABD | exact lit_X | exact lit_Y | exact lit_e) | exact lit_sep _
  k_with "Exchd2 1" => first | (first | lia | omega) | (k_dflt exact Nat.succ_pos _) | (simp only [List.length_cons, List.length_nil]; (first | lia | omega))
  k_with "Exchd2 3" => (k_here; k_dflt (first | (refine' slice_nsT ?z9F ?z9N ?_ ?z9z; (case z9F => k_asm); (case z9N => k_asm); (case z9z => first | size_fits | exact Nat.le_of_ble_eq_true (by decide +kernel) | exact Nat.le_trans (Txt.slice_le _ _ _) (Nat.le_of_ble_eq_true (by decide +kernel)))) | (refine' slice_snT ?z9F ?z9N ?_ ?z9z; (case z9F => k_asm); (case z9N => k_asm); (case z9z => first | size_fits | exact Nat.le_of_ble_eq_true (by decide +kernel) | exact Nat.le_trans (Txt.slice_le _ _ _) (Nat.le_of_ble_eq_true (by decide +kernel))))))
  k_with "Exchd2 4" => (simp only [PySem.sizeLine_eq, Str.length_append, tx_len, sgn_len, len_empty, List.length_append, List.length_cons, List.length_nil]; (first | lia | omega))
  k_with "Exchd2 5" => (k_here; (first | (with_reducible refine' addAT ?z9z ?_) | (with_reducible refine' addTA ?z9z ?_) | (with_reducible refine' addTT ?z9z ?_)); (case z9z => ((try simp only [List.length_replicate, List.length_append, List.length_cons, List.length_nil]); (first | lia | omega))))
  k_with "Exchd2 6" => (k_here; (with_reducible refine' mulBT ?z9za ?z9zb ?_); (case z9za => first | (first | lia | omega) | exact fmod2_ge _ | exact int01 _); (case z9zb => first | (first | lia | omega) | exact fmod2_le _ | exact int01' _))
  k_with "Exchd2 7" => ((with_reducible show wpAny _ _ (execs (Stmt.Return _ _ :: _) _) _ _ _); refine hold ?_)
  trivial
local macro_rules | `(tactic| walk_at "zz none") => `(tactic| fail "zz none")
local macro_rules | `(tactic| walk_at "zz none") => `(tactic| fail "zz none")
local macro_rules | `(tactic| walk_at "zz none") => `(tactic| fail "zz none")
theorem fmod4 (n : Nat) : Int.fmod (n : Int) 4 = ((n % 4 : Nat) : Int) := by rw [Int.fmod_eq_emod_of_nonneg _ (by decide)]; (first | lia | omega)
theorem fmod2 (n : Nat) : Int.fmod (n : Int) 2 = ((n % 2 : Nat) : Int) := by rw [Int.fmod_eq_emod_of_nonneg _ (by decide)]; (first | lia | omega)
theorem fmod2_ge (n : Nat) : 0 ≤ Int.fmod ((n : Nat) : Int) 2 := by rw [fmod2]; (first | lia | omega)
theorem fmod2_le (n : Nat) : Int.fmod ((n : Nat) : Int) 2 ≤ 1 := by rw [fmod2]; (first | lia | omega)
theorem int01 (b : Bool) : (0 : Int) ≤ if b = true then 1 else 0 := by cases b <;> decide
theorem int01' (b : Bool) : (if b = true then 1 else 0 : Int) ≤ 1 := by cases b <;> decide
theorem bare_form (l : List Nat) : List.replicate (if (Txt.slice (tx (endedR l)) none (some 1) == Str.ofString "Q") = true then (1 : Int) else 0).toNat 66 ++ rep [81] [65] (endedR l) ++ List.replicate (Int.fmod ((tx l).length : Int) 2).toNat 66 = bareR l := by
  have e1 : (Txt.slice (tx (endedR l)) none (some 1) == Str.ofString "Q") = decide ((endedR l).take 1 = [81]) := by
    rw [show Str.ofString "Q" = tx [81] by decide +kernel]
    have := sl_to (endedR l) 1
    rw [show ((1 : Nat) : Int) = 1 from rfl] at this
    rw [this, tx_inj]
  rw [e1, tx_len, fmod2, Int.toNat_natCast]
  unfold bareR
  by_cases h : (endedR l).take 1 = [81]
  · rw [if_pos h, decide_eq_true h, if_pos rfl]; rfl
  · rw [if_neg h, decide_eq_false h, if_neg (by decide)]; rfl
theorem lit_sep (l : List Nat) : LitZ (Txt.slice (Txt.slice (Str.ofString "CDEFCDE") (some (Int.fmod ((tx l).length : Int) 4)) none) none (some 4)) (sepk (l.length % 4)) 4 := by
  refine ⟨?_, by unfold sepk; rw [List.length_take]; (first | lia | omega), by decide⟩
  rw [tx_len, fmod4, sep_is]
theorem sep_ne (l : List Nat) : (Str.ofString "A" == Txt.slice (Txt.slice (Str.ofString "CDEFCDE") (some (Int.fmod ((tx l).length : Int) 4)) none) none (some 4)) = false := by
  rw [(lit_sep l).e, lit_A.e, tx_inj]
  obtain ⟨a, b, d, e, hs, h1, _⟩ := sep_mem (j := l.length % 4) (by (first | lia | omega))
  rw [hs]; simp
local macro_rules | `(tactic| walk_at "m lit") => `(tactic| k_extra "Exchd2 0")
local macro_rules | `(tactic| walk_at "m pos") => `(tactic| k_extra "Exchd2 1")
local macro_rules | `(tactic| walk_at "call builtin:str.replace") => `(tactic| (k_here; k_dflt (refine' repT ?hY ?hZ ?hx ?hy ?hu ?hv ?huv ?hyz ?hN ?hc ?_; (case hY => walk_at "m lit"); (case hZ => walk_at "m lit"); (case hx => with_reducible assumption); (case hy => decide); (case hu => walk_at "m pos"); (case hv => walk_at "m pos"); (case huv => walk_at "m pos"); (case hyz => first | decide +kernel | exact sep_ne _); (case hN => decide); (case hc => decide); k_whole; intro t9 tk9 hk9 hb9; dsimp only at hk9)))
local macro_rules | `(tactic| walk_at "m slice") => `(tactic| (k_extra "Exchd2 3"; intro h9 t9 tk9 hk9 ht9 F9 N9; dsimp only at hk9 ht9; (try k_sweep)))
local macro_rules | `(tactic| walk_at "subscriptTail Name Slice str ref") => `(tactic| walk_at "m slice")
local macro_rules | `(tactic| walk_at "subscriptTail Constant Slice str ref") => `(tactic| walk_at "m slice")
local macro_rules | `(tactic| walk_at "subscriptTail Subscript Slice str ref") => `(tactic| walk_at "m slice")
local macro_rules | `(tactic| walk_at "subscriptTail") => `(tactic| walk_at "m slice")
local macro_rules | `(tactic| size_fits) => `(tactic| k_extra "Exchd2 4")
local macro_rules | `(tactic| walk_at "binaryOp Add str str") => `(tactic| (k_extra "Exchd2 5"; intro t9 tk9))
local macro_rules | `(tactic| walk_at "binaryOp Mult str int") => `(tactic| (k_extra "Exchd2 6"; intro t9 tk9 hk9 hn9; dsimp only at hk9))
local macro_rules | `(tactic| walk_at "execs cons") => `(tactic| k_extra "Exchd2 7")
local macro_rules | `(tactic| walk_at "execs cons Assign cons") => `(tactic| refine hold ?_)
local macro_rules | `(tactic| walk_at "m stmt") => `(tactic| (refine unhold ?_; refine gen_toks (by walk_at "m pos") ?_; intro tk9 hp9; (with_reducible refine wpAny_execs_cons ?_); (try dsimp only); k_steps))
set_option maxHeartbeats 8000000 in
theorem exchd (w : World) (l : List Nat) (t : Tok) (hz : l.length ≤ 27) (hl : ∀ c ∈ l, Lt c) (hm : 65 ∈ hk l) :
   Does row.prog w (hd.heap_39 w.params) 16 160 131 [.str (tx l) t] [] (fun v post => ∃ D ys nn, StrsAre ys ((exch l).map tx) ∧ v = .ref D ∧ post = [(D, listOf (List.toArray ys) nn)]) := by
  have hfnd : Txt.find (tx (rep [66, 65] [89] (rep [66, 66] [88] l) ++ [65])) (Str.ofString "A") = ((fro (hk l)).length : Int) := by rw [lit_A.e]; exact hid_find hm
  have hfro : Txt.slice (tx (rep [66, 65] [89] (rep [66, 66] [88] l) ++ [65])) none (some ((fro (hk l)).length : Int)) = tx (fro (hk l)) := hid_front hm
  have hbeh : Txt.slice (tx (rep [66, 65] [89] (rep [66, 66] [88] l) ++ [65])) (some ((fro (hk l)).length + 1 : Int)) (some (-1)) = tx (beh (hk l)) := hid_behind hm
  have hfb := fro_le (hk l)
  have hhl := hk_len l
  have hfl : (fro (hk l)).length ≤ 27 := by (first | lia | omega)
  have hbl : (beh (hk l)).length ≤ 27 := by (first | lia | omega)
  clear hfb hhl
  have hlen : (tx l).length = l.length := tx_len l
  k_fill
  intro p loose mean mg mb dp un gd cn cs a ccd cl outer A₀ base h₀ L m s RR B F X N T hk hd' hu hret
  k_dflt walk_at "m enter"
  k_steps
  refine unhold ?_
  refine gen_toks (by walk_at "m pos") ?_
  intro tk9 hp9
  (with_reducible refine wpAny_execs_cons ?_)
  (try dsimp only)
  k_steps
  refine unhold ?_
  refine gen_toks (by walk_at "m pos") ?_
  intro tk9 hp9
  (with_reducible refine wpAny_execs_cons ?_)
  (try dsimp only)
  k_steps
  refine unhold ?_
  refine gen_toks (by walk_at "m pos") ?_
  intro tk9 hp9
  (with_reducible refine wpAny_execs_cons ?_)
  (try dsimp only)
  k_steps
  refine unhold ?_
  refine gen_toks (by walk_at "m pos") ?_
  intro tk9 hp9
  (with_reducible refine wpAny_execs_cons ?_)
  (try dsimp only)
  k_steps
  refine unhold ?_
  refine gen_toks (by walk_at "m pos") ?_
  intro tk9 hp9
  (with_reducible refine wpAny_execs_cons ?_)
  (try dsimp only)
  k_steps
  refine unhold ?_
  refine gen_toks (by walk_at "m pos") ?_
  intro tk9 hp9
  (with_reducible refine wpAny_execs_cons ?_)
  (try dsimp only)
  k_steps
  refine unhold ?_
  refine gen_toks (by walk_at "m pos") ?_
  intro tk9 hp9
  (with_reducible refine wpAny_execs_cons ?_)
  (try dsimp only)
  k_steps
  · rename Txt.find _ _ = -1 => hn
    rw [hfnd] at hn
    exfalso; (first | lia | omega)
  · rename Fr _ _ _ _ => F9
    rw [hfnd, hfro] at F9
    refine unhold ?_
    refine gen_toks (by walk_at "m pos") ?_
    intro tk9 hp9
    (with_reducible refine wpAny_execs_cons ?_)
    (try dsimp only)
    k_steps
    · rename Txt.find _ _ = -1 => hn
      rw [hfnd] at hn
      exfalso; (first | lia | omega)
    · rename Fr _ _ _ _ => F9
      rw [hfnd, hbeh] at F9
      refine unhold ?_
      refine gen_toks (by walk_at "m pos") ?_
      intro tk9 hp9
      (with_reducible refine wpAny_execs_cons ?_)
      (try dsimp only)
      k_steps
      refine unhold ?_
      refine gen_toks (by walk_at "m pos") ?_
      intro tk9 hp9
      (with_reducible refine wpAny_execs_cons ?_)
      (try dsimp only)
      k_steps
      rename News _ _ _ _ => N9
      have hbf := bare_form l
      unfold endedR guarded paired0 at hbf
      rw [hbf] at N9
      exact Left.intro (by k_asm) N9 (fun p h => h) ⟨_, _, _, .cons _ _ (.cons _ _ (.cons _ _ (.cons _ _ (.cons _ _ .nil)))), rfl, rfl⟩

end
section
theorem startReader2 : True := by
  w_top off
  trivial
/-- the code table of _law_reader once it has run -/
noncomputable abbrev lawTab (rc lc : Nat) : Array Value := #[rawInt 87, rawInt 4, .ref rc, rawInt 89, rawInt 13, .ref lc]
noncomputable abbrev readQ : Str := Str.ofString "_law_reader.<locals>.read"
theorem reader (w : World) (x : Str) (u : Tok) (hx : x.length ≤ 1000) :
   DoesN row.prog w (hd.heap_39 w.params) 8 80 112 [.str x u] [(107, tabObj #[])]
     (fun n0 v post => ∃ R tl vs n k lc, RdA.Ok R ∧ 107 < R.cl ∧ n0 < R.cl ∧ 107 < R.rc ∧ n0 < R.rc ∧ R.q = readQ ∧ StrsAre vs (signs x) ∧ v = .ref R.x ∧ post = rdAll w.params R 1 tl [] k vs n ++ [(107, tabObj (lawTab R.rc lc))]) := by
  unfold DoesN
  k_fill
  intro p loose mean mg mb dp un gd cn cs a ccd cl outer A₀ base h₀ L m s RR B F X N T hk hd' hu hret
  k_dflt walk_at "m enter cells"
  walk_at "m codes"
  k_steps
  refine' Left.intro (by k_asm) (by k_asm) ?sub ⟨⟨?x, ?d, ?pb, ?st, ?sd, ?rf, ?rc, ?sg, ?cl, fun i => [?t0, 0, ?t2, ?t3, ?t4, ?t5, ?t6, ?t7].getD i 0, ?fd, ?q, ?dc, ?pm, ?ct, ?oc, ?ob, ?vs⟩, ?tl, ?vl, ?n, ?k, ?lc, ⟨?h1, ?h2, ?h3, ?h4⟩, ?h5, ?h6, ?h7, ?h8, ?h9, ?sa, rfl, rfl⟩
  case h3 => assumption
  case sub => kxw_bool
  case h1 => assumption
  case h2 => assumption
  case sa => assumption
  case h4 => dsimp only; (first | lia | omega)
  case h5 => dsimp only; (first | lia | omega)
  case h6 => dsimp only; (first | lia | omega)
  case h7 => dsimp only; (first | lia | omega)
  case h8 => dsimp only; (first | lia | omega)
  case h9 => dsimp only; with_unfolding_all rfl
/-- the same once the table is filled -/
theorem reader1 (w : World) (x : Str) (u : Tok) (hx : x.length ≤ 1000) (rc lc : Nat) (oc : Obj) (cvs : Array Value) (tq : Tok) (hoc : oc.data = .fields cvs) (hq : cvs[1]? = some (.str readQ tq)) (hrc : 107 < rc) :
   DoesN row.prog w (hd.heap_39 w.params) 8 80 112 [.str x u] [(rc, oc), (107, tabObj (lawTab rc lc))]
     (fun n0 v post => ∃ R tl vs n k, RdA.Ok R ∧ 107 < R.cl ∧ n0 < R.cl ∧ R.rc = rc ∧ R.oc = oc ∧ R.q = readQ ∧ R.vs = cvs ∧ R.t 7 = tq ∧ StrsAre vs (signs x) ∧ v = .ref R.x ∧ post = rdAll w.params R 1 tl [] k vs n ++ [(107, tabObj (lawTab rc lc))]) := by
  unfold DoesN
  k_fill
  intro p loose mean mg mb dp un gd cn cs a ccd cl outer A₀ base h₀ L m s RR B F X N T hk hd' hu hret
  k_dflt walk_at "m enter cells"
  walk_at "m codes"
  k_steps
  refine' Left.intro (by k_asm) (by k_asm) ?sub ⟨⟨?x, ?d, ?pb, ?st, ?sd, ?rf, rc, ?sg, ?cl, fun i => [?t0, 0, ?t2, ?t3, ?t4, ?t5, ?t6, tq].getD i 0, ?fd, ?q, ?dc, ?pm, ?ct, oc, ?ob, cvs⟩, ?tl9, ?vl9, ?n9, ?k9, ⟨hoc, ?h2, ?h3, ?h4⟩, ?h5, ?h6, rfl, rfl, ?h9, rfl, rfl, ?sa, rfl, rfl⟩
  case h3 => assumption
  case sa => assumption
  case sub => kxw_bool
  case h2 =>
    dsimp only
    have e : ∀ z : Str, z = readQ → cvs[1]? = some (.str z tq) := fun z h => h ▸ hq
    exact e _ (by with_unfolding_all rfl)
  case h4 => dsimp only; (first | lia | omega)
  case h5 => dsimp only; (first | lia | omega)
  case h6 => dsimp only; (first | lia | omega)
  case h9 => dsimp only; with_unfolding_all rfl

end
section
theorem startPlain2 : True := by
  w_top off
  trivial
local macro_rules | `(tactic| walk_at "zz none") => `(tactic| fail "zz none")
theorem joinQ_tx : ∀ ns : List (List Nat), Txt.join (Str.ofString "\"") (ns.map tx) = tx (joinQ ns) := by
  intro ns
  rw [show Txt.join (Str.ofString "\"") (ns.map tx) = Str.join (Str.ofString "\"") (ns.map tx) from StrLaws.glued_eq_join _ _]
  have e34 : Str.ofString "\"" = tx [34] := by decide +kernel
  induction ns with
  | nil => rfl
  | cons a r ih =>
    cases r with
    | nil => rfl
    | cons b r =>
      show tx a ++ Str.ofString "\"" ++ Str.join (Str.ofString "\"") ((b :: r).map tx) = tx (a ++ 34 :: joinQ (b :: r))
      rw [ih, e34, tx_tx2, tx_tx2, List.append_assoc]; rfl
theorem plain_joined (l : List Nat) (h : ∀ c ∈ l, Lt c) : l.map sig = joinQ ((names (l.map sig)).map esc) ∨ l.map sig = joinQ ((names (l.map sig)).map esc) ++ [34] := by
  have ho := tk_ok l h
  have ht : l.map sig = txt (tk l) := by rw [txt, tk_un l fun c hc e => by have := (h c hc).2; (first | lia | omega)]
  rw [ht, names_txt _ _ (Nat.le_refl _) ho]
  exact joined _ _ (Nat.le_refl _) ho
theorem unq_mem : ∀ (n : Nat) (l : List Nat), l.length ≤ n → ∀ c ∈ unq l, c ∈ l
  | _, [], _, c, h => by rw [unq_nil] at h; exact h
  | 0, _ :: _, h, _, _ => by simp at h
  | n + 1, a :: l, h, c, hc => by
    simp only [List.length_cons] at h
    by_cases ha : a = 34
    · subst ha
      cases l with
      | nil => rw [unq_end] at hc; cases hc
      | cons d l =>
        simp only [List.length_cons] at h
        by_cases hd : d = 34
        · subst hd
          rw [unq_two] at hc
          rcases List.mem_cons.mp hc with rfl | hc
          · exact .head _
          · exact .tail _ (.tail _ (unq_mem n l (by (first | lia | omega)) c hc))
        · rw [unq_stop _ hd] at hc; cases hc
    · rw [unq_cons _ ha] at hc
      rcases List.mem_cons.mp hc with rfl | hc
      · exact .head _
      · exact .tail _ (unq_mem n l (by (first | lia | omega)) c hc)
theorem names_in : ∀ (n : Nat) (t : List Nat), t.length ≤ n → (names t).length ≤ t.length ∧ ∀ z ∈ names t, z.length ≤ t.length ∧ ∀ c ∈ z, c ∈ t
  | n, [], _ => by rw [names_nil]; exact ⟨Nat.le_refl _, fun _ h => nomatch h⟩
  | 0, _ :: _, h => by simp at h
  | n + 1, a :: l, h => by
    rw [names_cons (by simp : a :: l ≠ [])]
    have hd : ((a :: l).drop ((unq (a :: l)).length + (unq (a :: l)).count 34 + 1)).length ≤ l.length := by rw [List.length_drop]; simp only [List.length_cons]; (first | lia | omega)
    have hs : ∀ c ∈ (a :: l).drop ((unq (a :: l)).length + (unq (a :: l)).count 34 + 1), c ∈ a :: l := fun c hc => List.mem_of_mem_drop hc
    have hu := unq_le _ (a :: l) (Nat.le_refl _)
    have hm := unq_mem _ (a :: l) (Nat.le_refl _)
    generalize (a :: l).drop ((unq (a :: l)).length + (unq (a :: l)).count 34 + 1) = r at hd hs
    simp only [List.length_cons] at h
    obtain ⟨h1, h2⟩ := names_in n r (by (first | lia | omega))
    refine ⟨by simp only [List.length_cons]; (first | lia | omega), fun z hz => ?_⟩
    rcases List.mem_cons.mp hz with rfl | hz
    · exact ⟨hu, hm⟩
    · exact ⟨by have := (h2 z hz).1; simp only [List.length_cons]; (first | lia | omega), fun c hc => hs c ((h2 z hz).2 c hc)⟩
theorem sum_le {b : Nat} : ∀ {ns : List (List Nat)}, (∀ x ∈ ns, x.length ≤ b) → ((ns.map tx).map (·.length)).sum ≤ ns.length * b
  | [], _ => Nat.zero_le _
  | x :: r, h => by
    rw [List.map_cons, List.map_cons, List.sum_cons, List.length_cons, Nat.succ_mul, tx_len]
    have := h x (.head _)
    have := sum_le (ns := r) fun x hx => h x (.tail _ hx)
    (first | lia | omega)
theorem joinQ_sz {ns : List (List Nat)} {sep : Str} (h1 : ns.length ≤ 400) (h2 : ∀ x ∈ ns, x.length ≤ 800) (h3 : sep.length = 1) : ((ns.map tx).map (·.length)).sum + (ns.map tx).length * sep.length ≤ 16777216 := by
  have := sum_le h2
  rw [h3, List.length_map]
  (first | lia | omega)
theorem paired_strs {f : List Nat → List Nat} {p : Value → Bool} {q : List Nat → Bool} {V : Value → Value → Prop} {nv : List Value} {ns : List (List Nat)} (h : StrsAre nv (ns.map tx)) :
    ∀ {ys : List Value}, (∀ x ∈ ns, ∀ t, p (.str (tx x) t) = q x) → Paired V (nv.filter p) ys → (∀ x t y, V (.str (tx x) t) y → ∃ u, y = .str (tx (f x)) u) → StrsAre ys (((ns.filter q).map f).map tx) := by
  generalize hn : ns.map tx = ms at h
  induction h generalizing ns with
  | nil =>
    intro ys _ hP _
    cases ns with
    | nil => cases hP; exact .nil
    | cons _ _ => cases hn
  | @cons n t vs ms h ih =>
    intro ys hp hP hV
    cases ns with
    | nil => cases hn
    | cons x xs =>
      simp only [List.map_cons, List.cons.injEq] at hn
      obtain ⟨e1, e2⟩ := hn
      subst e1
      have hx := hp x (.head _) t
      rw [List.filter_cons, hx] at hP
      rw [List.filter_cons]
      by_cases hq : q x = true
      · rw [if_pos hq] at hP ⊢
        cases hP with
        | cons a b =>
          obtain ⟨u, rfl⟩ := hV _ _ _ a
          exact .cons _ _ (ih e2 (fun x hx => hp x (.tail _ hx)) b hV)
      · rw [if_neg hq] at hP ⊢
        exact ih e2 (fun x hx => hp x (.tail _ hx)) hP hV
/-- the turn's own word: of the text's name and what it gives -/
noncomputable abbrev VF (f : List Nat → List Nat) (v y : Value) : Prop := ∀ x t, v = .str (tx x) t → ∃ u, y = .str (tx (f x)) u
noncomputable abbrev pNe (v : Value) : Bool := match v with | .str x _ => x != Str.ofString "" | _ => true
theorem escaped {nv ys : List Value} {ns : List (List Nat)} (h : StrsAre nv (ns.map tx)) (hP : Paired (VF esc) (nv.filter fun _ => true) ys) : StrsAre ys ((ns.map esc).map tx) := by
  have := paired_strs (f := esc) (q := fun _ => true) h (fun _ _ _ => rfl) hP (fun x t y hv => hv x t rfl)
  rwa [List.filter_eq_self.mpr fun _ _ => rfl] at this
theorem nonempty {nv ys : List Value} {ns : List (List Nat)} (h : StrsAre nv (ns.map tx)) (hP : Paired (VF id) (nv.filter pNe) ys) : StrsAre ys ((ns.filter fun x => x ≠ []).map tx) := by
  have := paired_strs (f := id) (q := fun x => x ≠ []) h (fun x _ t => by
    show (tx x != Str.ofString "") = _
    rw [tx_nil, bne, tx_inj]; simp) hP (fun x t y hv => hv x t rfl)
  rwa [List.map_id] at this
theorem in_joined (l : List Nat) (h : ∀ c ∈ l, Lt c) : ([tx (joinQ ((names (l.map sig)).map esc)), tx (joinQ ((names (l.map sig)).map esc)) ++ Str.ofString "\""].any (· == tx (l.map sig))) = true := by
  have e34 : Str.ofString "\"" = tx [34] := by decide +kernel
  rw [e34, tx_tx2, List.any_cons, List.any_cons, tx_inj, tx_inj]
  rcases plain_joined l h with e | e
  · rw [← e]; simp
  · rw [← e]; simp
theorem esc_len (x : List Nat) : (esc x).length ≤ 2 * x.length := rep_len (k := 2) (by decide) (by decide) x
theorem esc_join_sz {t : List Nat} (hz : t.length ≤ 27) {sep : Str} (h3 : sep.length = 1) : ((((names t).map esc).map tx).map (·.length)).sum + (((names t).map esc).map tx).length * sep.length ≤ 16777216 := by
  obtain ⟨h1, h2⟩ := names_in _ t (Nat.le_refl _)
  refine joinQ_sz (by rw [List.length_map]; (first | lia | omega)) (fun x hx => ?_) h3
  obtain ⟨y, hy, rfl⟩ := List.mem_map.mp hx
  have := esc_len y
  have := (h2 y hy).1
  (first | lia | omega)
theorem txs_at {vs : List Value} {xs : List (List Nat)} (h : StrsAre vs (xs.map tx)) {i : Nat} {v : Value} (e : vs[i]? = some v) : ∃ u, i < xs.length ∧ v = .str (tx (xs.getD i [])) u := by
  generalize hn : xs.map tx = ns at h
  induction h generalizing xs i with
  | nil => cases e
  | @cons n t vs ns h ih =>
    cases xs with
    | nil => cases hn
    | cons x xs =>
      simp only [List.map_cons, List.cons.injEq] at hn
      cases i with
      | zero => exact ⟨t, Nat.zero_lt_succ _, by simp only [List.getElem?_cons_zero, Option.some.injEq] at e; rw [← e, ← hn.1]; rfl⟩
      | succ i =>
        obtain ⟨u, h1, h2⟩ := ih (by simpa using e) hn.2
        exact ⟨u, Nat.succ_lt_succ h1, by rw [h2]; simp [List.getD]⟩
theorem rest_nil (n : List (Addr × Obj)) : Rest [] n n := by
  induction n with
  | nil => exact .nil
  | cons p n ih => exact .keep (fun h => nomatch h) ih
theorem getD_mem {xs : List (List Nat)} {i : Nat} (h : i < xs.length) : xs.getD i [] ∈ xs := by
  have : xs.getD i [] = xs[i] := by simp [List.getD, h]
  rw [this]; exact List.getElem_mem _
theorem take_tx {xs : List (List Nat)} {i : Nat} (h : i < xs.length) : xs.take (i + 1) = xs.take i ++ [xs.getD i []] := by
  rw [List.take_add_one, List.getElem?_eq_getElem h]
  simp [List.getD, h]
theorem tx_of_eq {x y : List Nat} {t u : Tok} (h : Value.str (tx x) t = Value.str (tx y) u) : y = x := by
  simp only [Value.str.injEq] at h
  have := congrArg (fun z : Str => z.cps.toList) h.1
  simpa using this.symm

end
section
theorem startTells2 : True := by
  w_top off
  k_with "Tells2 0" => ((first | (with_reducible show wpAny _ _ (call (Value.ref 112) _) _ _ _) | (with_reducible show wpAny _ _ (call (Value.ref 42) _) _ _ _) | (with_reducible show wpAny _ _ (call (Value.ref (RdA.rf _)) _) _ _ _)); refine hold ?_)
  k_with "Tells2 1" => ((with_reducible show wpAny _ _ (pyIter _) (fun it s₂ => WalkSrc _ _ _ _ _ _ _ _ _ _ _ _ it s₂) _ _); refine hold ?_)
  k_with "Tells2 2" => (k_here; (with_reducible show wpAny _ _ (call (Value.builtin "len") [Value.ref _]) _ _ _); (refine' len_N ?z9N ?z9m ?z9z ?_; (case z9N => k_asm); (case z9m => k_dflt k_mem); (case z9z => (first | lia | omega)); k_whole))
  trivial
local macro_rules | `(tactic| walk_at "zz none") => `(tactic| fail "zz none")
local macro_rules | `(tactic| walk_at "zz none") => `(tactic| fail "zz none")
local macro_rules | `(tactic| walk_at "call ref") => `(tactic| k_extra "Tells2 0")
local macro_rules | `(tactic| walk_at "exec Assign cons ListComp") => `(tactic| refine hold ?_)
local macro_rules | `(tactic| walk_at "binaryOp Add ref ref") => `(tactic| refine hold ?_)
local macro_rules | `(tactic| walk_at "compareOp Eq ref ref") => `(tactic| refine hold ?_)
local macro_rules | `(tactic| walk_at "eval ListComp") => `(tactic| refine hold ?_)
local macro_rules | `(tactic| walk_at "pyIter ref") => `(tactic| k_extra "Tells2 1")
noncomputable def TabE (P : Params) (x : List Nat) (pre0 : List (Addr × Obj)) (Good : RdA → Array Value → Prop) (n0 : Nat) (v : Value) (post : List (Addr × Obj)) : Prop :=
  ∃ R tl vs n k q9, RdA.Ok R ∧ 107 < R.cl ∧ n0 < R.cl ∧ 107 < R.rc ∧ (n0 < R.rc ∨ R.rc ∈ pre0.map (·.1)) ∧ StrsAre vs (x.map sgn) ∧ v = .ref R.x ∧ post = rdAll P R 1 tl [] k vs n ++ [(107, tabObj q9)] ∧ Good R q9
theorem rest_self {pre : List (Addr × Obj)} : ∀ q : List (Addr × Obj), (∀ p ∈ q, p ∈ pre) → Rest pre q []
  | [], _ => .nil
  | _ :: r, h => .drop (rest_self r fun p hp => h p (.tail _ hp))
theorem len_N {prog : Program} {w : World} {A : Around} {E : Value → Shared → Prop} {s : Shared} {h₀ : Heap} {L D : Addr} {news : List (Addr × Obj)} {vs : List Value} {n : Nat} {Q : Value → Shared → Prop} (N : News h₀ L s.heap news) (hm : (D, listOf vs.toArray n) ∈ news) (hz : vs.length ≤ 10000) (h : ∀ t k, Q (.int (vs.length : Int) t) { s with toks := k }) :
    wpAny (model prog w) A (call (.builtin "len") [.ref D]) Q E s :=
  call_len_list ⟨_, N.get hm, rfl, n, rfl⟩ (by rw [List.size_toArray]; (first | lia | omega)) (by rw [List.size_toArray]; exact h _ _)
theorem range_small {n : Nat} (h : n ≤ 10000) : Builtin.Range.small 0 (n : Int) 1 = true := by
  have h0 : 0 ≤ (n : Int) ∧ (n : Int) ≤ 10000 := by (first | lia | omega)
  generalize (n : Int) = z at h0
  have h2 : (-(2 ^ 63) ≤ z ∧ z < 2 ^ 63) ∧ z * 1 < 2 ^ 63 := by (first | lia | omega)
  simp [Builtin.Range.small, Builtin.Range.rangeFitsLong, Builtin.Range.rangeSize]
  (first | lia | omega)
theorem range_size (n : Nat) : Builtin.Range.rangeSize 0 (n : Int) 1 = (n : Int) := by
  unfold Builtin.Range.rangeSize
  rw [if_pos (by decide)]
  split
  · rw [Int.ediv_one]; (first | lia | omega)
  · (first | lia | omega)
local macro_rules | `(tactic| walk_at "call builtin:len") => `(tactic| (k_extra "Tells2 2"; intro t9 tk9))
theorem strs_app {vs ws : List Value} {ns ms : List Str} (h : StrsAre vs ns) (h2 : StrsAre ws ms) : StrsAre (vs ++ ws) (ns ++ ms) := strsAre_append h h2
theorem addL {prog : Program} {w : World} {A : Around} {E : Value → Shared → Prop} {s : Shared} {h₀ : Heap} {L a b : Addr} {m : Str → Option Value} {news : List (Addr × Obj)} {us vs : List Value} {n k : Nat} {Q : Value → Shared → Prop} (F : Fr h₀ L s.heap m) (N : News h₀ L s.heap news) (ma : (a, listOf us.toArray n) ∈ news) (mb : (b, listOf vs.toArray k) ∈ news) (hz : us.length + vs.length ≤ 100000)
    (h : ∀ D h', Fr h₀ L h' m → News h₀ L h' ((D, listOf (us ++ vs).toArray 0) :: news) → (∀ p ∈ news, p.1 < D) → Q (.ref D) { s with heap := h' }) : wpAny (model prog w) A (binaryOp .Add (.ref a) (.ref b)) Q E s :=
  add_lists (hsz := Nat.le_trans hz (by rw [PySem.sizeLine_eq]; decide)) F N (News.isList N ma) (News.isList N mb) fun h' F' N' => h _ h' F' N' fun p hp => Heap.lt_size (N p hp).1
theorem count10 (l : List Nat) : Txt.count (tx l) (Str.ofString "\n") = ((l.count 10 : Nat) : Int) := by
  rw [show Str.ofString "\n" = (⟨#[10]⟩ : Str) by decide +kernel, count_cnt, cnt_is]
theorem told_strs {x : List Nat} {ws : List (List Nat)} {wv : List Value} {t1 u t2 t3 : Tok} (h : StrsAre wv (ws.map tx)) : StrsAre ([.str (Str.ofString "") t1, .str (tx x) u] ++ wv ++ [.str (Str.ofString "") t2, .str (Str.ofString "") t3]) (([] :: x :: (ws ++ [[], []])).map tx) := by
  rw [tx_nil, List.map_cons, List.map_cons, List.map_append]
  exact .cons _ _ (.cons _ _ (strs_app h (.cons _ _ (.cons _ _ .nil))))
theorem told_ok {x : List Nat} {ws : List (List Nat)} (hx : ∀ c ∈ x, c < 0x110000) (h : ∀ z ∈ ws, ∀ c ∈ z, c < 0x110000) : ∀ z ∈ ([] :: x :: (ws ++ [[], []])).map tx, PyData.strOk z = true := by
  intro z hz
  obtain ⟨y, hy, rfl⟩ := List.mem_map.mp hz
  refine ok_tx fun c hc => ?_
  rcases List.mem_cons.mp hy with rfl | hy
  · cases hc
  rcases List.mem_cons.mp hy with rfl | hy
  · exact hx c hc
  rcases List.mem_append.mp hy with hy | hy
  · exact h y hy c hc
  · rcases List.mem_cons.mp hy with rfl | hy
    · cases hc
    · rw [List.mem_singleton.mp hy] at hc; cases hc
theorem RdA.off {R : RdA} (h : R.Apart) {c : Nat} (hc : c < R.cl) : (@Ne Addr c R.cl) ∧ (@Ne Addr c R.sg) ∧ (@Ne Addr c R.rf) ∧ (@Ne Addr c R.st) ∧ (@Ne Addr c R.sd) ∧ (@Ne Addr c R.d) ∧ (@Ne Addr c R.x) ∧ (@Ne Addr c R.pb) := by
  obtain ⟨h1, h2, h3, h4, h5, h6, h7, _⟩ := h
  have k (d : Nat) (e : c < d) : @Ne Addr c d := Nat.ne_of_lt e
  exact ⟨k _ hc, k _ (by (first | lia | omega)), k _ (by (first | lia | omega)), k _ (by (first | lia | omega)), k _ (by (first | lia | omega)), k _ (by (first | lia | omega)), k _ (by (first | lia | omega)), k _ (by (first | lia | omega))⟩
theorem rest3 {I C D : Addr} {oI oC oD : Obj} {pre news rest : List (Addr × Obj)} (off : LCg.Off3 I C D news) (hp : ∀ p ∈ pre, p ∈ news) (h : Rest pre news rest) : Rest pre ((I, oI) :: (C, oC) :: (D, oD) :: news) ((I, oI) :: (C, oC) :: (D, oD) :: rest) := by
  have k : ∀ a, (∀ p ∈ news, p.1 ≠ a) → a ∉ pre.map (·.1) := fun a ha hm => by
    obtain ⟨p, h1, h2⟩ := List.mem_map.mp hm
    exact ha p (hp p h1) h2
  exact .keep (k _ fun p hp => (off.mem p hp).1) (.keep (k _ fun p hp => (off.mem p hp).2.1) (.keep (k _ fun p hp => (off.mem p hp).2.2) h))
noncomputable abbrev telLed (P : Params) (R : RdA) (ln : Int) (tl : Tok) (ps : List Value) (k : Nat) (vs : List Value) (n : Nat) (q9 : Array Value) (c : Nat) (oC : Obj) (D : Nat) (wv : List Value) (nn : Nat) : List (Addr × Obj) :=
  rdAll P R ln tl ps k vs n ++ [(107, tabObj q9), (c, oC), (D, listOf wv.toArray nn)]
inductive TelJ (P : Params) (R : RdA) (c : Nat) (oC : Obj) (D : Nat) (wv : List Value) (nn : Nat) (q9 : Array Value) (ps0 : List (List Nat)) (xs0 : List Nat) (i : Nat) (ys : List Value) (nw : List (Addr × Obj)) : Prop
  | mk (ts ps : List (List Nat)) (xs : List Nat) (ln : Int) (tl : Tok) (pv vs : List Value) (k n : Nat) : ts.length = i → StrsAre ys (ts.map tx) → (∀ m, lexP (i + m) ps0 xs0 1 = (ts ++ (lexP m ps xs ln).1, (lexP m ps xs ln).2)) → ps.length ≤ 10000 → (0 ≤ ln ∧ ln + xs.length ≤ 1100) →
    StrsAre pv (ps.map tx) → StrsAre vs (xs.map sgn) → nw = telLed P R ln tl pv k vs n q9 c oC D wv nn → TelJ P R c oC D wv nn q9 ps0 xs0 i ys nw
set_option maxHeartbeats 4000000 in
theorem tells (w : World) (x : List Nat) (u : Tok) (hx : x.length ≤ 1000) (pre0 : List (Addr × Obj)) (Good : RdA → Array Value → Prop) (C : DoesN row.prog w (hd.heap_39 w.params) 8 80 112 [.str (tx x) u] pre0 (TabE w.params x pre0 Good))
    (ws : List (List Nat)) (wv : List Value) (D nn : Nat) (hD : ∀ q ∈ pre0, q.1 ≠ D) (h107 : ∃ o, (107, o) ∈ pre0) (hwv : StrsAre wv (ws.map tx)) (hwl : ws.length ≤ 1000) (hlex : lexAll (ws.length + 2) x 1 = (ws ++ [[], []], [], (1 : Int) + ((x.count 10 : Nat) : Int))) (hokx : ∀ c ∈ x, c < 0x110000) (hok : ∀ z ∈ ws, ∀ c ∈ z, c < 0x110000) :
   Does row.prog w (hd.heap_39 w.params) 36 340 124 [.str (tx x) u, .ref D] ((D, listOf wv.toArray nn) :: pre0)
     (fun v post => v = .bool true ∧ ∃ R q9, Good R q9 ∧ 107 < R.rc ∧ post = [(D, listOf wv.toArray nn), (R.rc, R.oc), (107, tabObj q9)]) := by
  unfold Does DoesN
  have hwvl : wv.length = ws.length := by rw [hwv.length, List.length_map]
  k_fill
  intro p loose mean mg mb dp un gd cn cs a ccd cl outer A₀ base h₀ L m s RR B F X N T hk hd' hu hret
  k_dflt walk_at "m enter cells"
  k_steps
  refine unhold ?_
  lcg_lit
  rename_i g' L' h1 tk1 FG F1 B' X' T' e0 l1 o1 d1 N1 _ _
  have lp := ktn_ltOf l1.2
  have hc : L' + 1 ∉ pre0.map (·.1) := fun hm => by
    obtain ⟨q, hq, e⟩ := List.mem_map.mp hm
    have := lp q hq
    rw [e] at this
    exact absurd (Nat.lt_of_succ_lt this) (Nat.lt_irrefl _)
  have hDm : D ∉ pre0.map (·.1) := fun hm => by
    obtain ⟨q, hq, e⟩ := List.mem_map.mp hm
    exact hD q hq e
  refine' Does.use C ?B F1 ?X N1 ?T ?hk ?hd ?hu ?hp ?hr ?_
  case B => k_asm
  case X => k_asm
  case T => k_asm
  case hk => exact rfl
  case hd => ktr_room
  case hu => ktr_units
  case hp => exact fun p hp => .tail _ (.tail _ hp)
  case hr => exact .keep hc (.keep hDm (rest_self _ fun q hq => hq))
  intro n0 v post h2 tk2 l0 hP F2 N2
  obtain ⟨R, tl, vs, n, k, q9, hR, hR1, hR2, hR3, hR4, hvs, ev, ep, hG⟩ := hP
  subst ev
  subst ep
  k_unfold
  dsimp only
  have m6 : @LT.lt Nat _ 107 L' := h107.elim fun o ho => lp _ ho
  have m7 : @Ne Addr D 107 := fun e => h107.elim fun o ho => hD _ ho e.symm
  have m1 : @LT.lt Nat _ (L' + 1) R.cl := Nat.lt_trans (l0 _ (.head _)) hR2
  have m2 : @LT.lt Nat _ D R.cl := Nat.lt_trans (l0 _ (.tail _ (.head _))) hR2
  have m3 : @Ne Addr (L' + 1) R.rc := fun e => by
    rcases hR4 with h | h
    · exact Nat.lt_irrefl _ (Nat.lt_trans (l0 _ (.head _)) (e ▸ h))
    · exact hc (e ▸ h)
  have m4 : @Ne Addr D R.rc := fun e => by
    rcases hR4 with h | h
    · exact Nat.lt_irrefl _ (Nat.lt_trans (l0 _ (.tail _ (.head _))) (e ▸ h))
    · exact hDm (e ▸ h)
  have m5 : @LT.lt Nat _ D L' := l1.1
  dsimp only [rdAll, rdIn, List.cons_append, List.nil_append] at N2
  clear l0 lp N1 F1 C hD
  have h9 : RdA.Apart _ := RdA.Ok.lt (by assumption); have n01 := RdA.n01 h9; have n02 := RdA.n02 h9; have n03 := RdA.n03 h9; have n04 := RdA.n04 h9; have n05 := RdA.n05 h9; have n06 := RdA.n06 h9; have n07 := RdA.n07 h9; have n08 := RdA.n08 h9; have n12 := RdA.n12 h9; have n13 := RdA.n13 h9; have n14 := RdA.n14 h9; have n15 := RdA.n15 h9; have n16 := RdA.n16 h9; have n17 := RdA.n17 h9; have n18 := RdA.n18 h9; have n23 := RdA.n23 h9; have n24 := RdA.n24 h9; have n25 := RdA.n25 h9; have n26 := RdA.n26 h9; have n27 := RdA.n27 h9; have n28 := RdA.n28 h9; have n34 := RdA.n34 h9; have n35 := RdA.n35 h9; have n36 := RdA.n36 h9; have n37 := RdA.n37 h9; have n38 := RdA.n38 h9; have n45 := RdA.n45 h9; have n46 := RdA.n46 h9; have n47 := RdA.n47 h9; have n48 := RdA.n48 h9; have n56 := RdA.n56 h9; have n57 := RdA.n57 h9; have n58 := RdA.n58 h9; have n67 := RdA.n67 h9; have n68 := RdA.n68 h9; have n78 := RdA.n78 h9
  obtain ⟨b1, b2, b3, b4, b5, b6, b7, b8⟩ := RdA.off h9 m1
  obtain ⟨c1, c2, c3, c4, c5, c6, c7, c8⟩ := RdA.off h9 m2
  obtain ⟨d1, d2, d3, d4, d5, d6, d7, d8⟩ := RdA.off h9 hR1
  have m8 : @Ne Addr 107 R.rc := Nat.ne_of_lt hR3
  have m9 : @Ne Addr (L' + 1) D := fun (e : (_ : Nat) = _) => by (first | lia | omega)
  have m10 : @Ne Addr (L' + 1) 107 := fun (e : (_ : Nat) = _) => by (first | lia | omega)
  have ha := hR.lt
  k_steps
  refine unhold ?_
  lcg_lit
  k_dflt refine Assign_X (F₀ := by k_asm) (by rfl) (by rfl) (by rfl) (by decide) (by rfl) (by decide) (by rfl) (by rfl) (by rfl) ?_
  k_steps
  refine unhold ?_
  rename IsRange _ _ _ _ _ _ _ _ => R9
  rename Fr _ _ _ _ => F5
  rename News _ _ _ _ => N5
  have N6 : News g' L' _ (telLed w.params R 1 tl [.str (Str.ofString "") _, .str (tx x) u] _ vs n q9 (L' + 1) _ D wv nn) := fun p hp => N5 p (by revert p hp; kxw_bool)
  clear N5
  have hb : (wv.length : Int) + 4 = ((ws.length + 4 : Nat) : Int) := by rw [hwvl]; rfl
  rw [hb] at R9
  refine' WalkSrc.range (n := ws.length + 4) rfl F5 N6 R9 (range_small (by (first | lia | omega))) (range_size _) ?sz ?kk
  case sz => simp only [PySem.sizeLine_eq]; (first | lia | omega)
  case kk =>
    clear R9 hb N6 F5
    intro g2
    refine compRest (n := ws.length + 4) (TelJ w.params R (L' + 1) _ D wv nn q9 [[], x] x) ?turn ?fin _ 0 [] _ (Nat.zero_add _) (.mk [] [[], x] x 1 tl _ vs _ n rfl .nil (fun m => by rw [Nat.zero_add]; rfl) (by show 2 ≤ 10000; decide) ⟨by decide, by (first | lia | omega)⟩ (.cons _ _ (.cons _ _ .nil)) hvs rfl)
    case turn =>
      intro i6 ys6 nw6 hi6 hJ6 v6 I6 oI6 C6 oC6 D6 m₆ h7 tk7 E6 hP6 hC6 hx6 F6 N6 off6 ne6
      obtain ⟨ts, ps, xs, ln6, tl6, pv6, vs6, k6, n6, e1, hys, hlx, hps, hln, hpv6, hvs6, e⟩ := hJ6
      subst e
      have hst := stepP_room (ps := ps) (xs := xs) hln
      dsimp only [telLed, rdAll, rdIn, List.cons_append, List.nil_append] at N6 off6
      k_steps
      refine unhold ?_
      try dsimp only [List.append_nil]
      refine' Does.use (tok_any w R hR ln6 tl6 k6 ps xs hps ⟨hln.1, by (first | lia | omega)⟩ pv6 vs6 hpv6 hvs6 n6) ?B ?F ?X ?N ?T ?hk ?hd ?hu ?hp ?hr ?_
      case B => k_asm
      case F => k_asm
      case X => k_asm
      case N => exact N6
      case T => k_asm
      case hk => exact rfl
      case hd => ktr_room
      case hu => ktr_units
      case hp => kxw_bool
      case hr => exact rest3 off6 (by kxw_bool) (by kin_val)
      intro n0 v post h' tk' l0 hP F' N'
      obtain ⟨tk8, tl8, pv8, vs8, k8, n8, e, e2, hpv8, hvs8⟩ := hP
      subst e
      subst e2
      clear l0
      have off8 : LCg.Off3 I6 C6 D6 (telLed w.params R (stepP ps xs ln6).2.2.2 tl8 pv8 k8 vs8 n8 q9 (L' + 1) _ D wv nn) := off6
      dsimp only [telLed, rdAll, rdIn, List.cons_append, List.nil_append] at off8
      dsimp only [rdAll, rdIn, List.cons_append, List.nil_append] at N'
      refine LCg.CompEnd.intro F' N' _ (by kxw_bool) off8 trivial (unhold (.mk (ts ++ [(stepP ps xs ln6).1]) _ _ _ tl8 pv8 vs8 k8 n8 ?_ ?_ ?_ ?_ hst hpv8 hvs8 rfl))
      · rw [List.length_append, e1]; rfl
      · rw [List.map_append]; exact strs_app hys (.cons _ _ .nil)
      · intro m
        rw [show i6 + 1 + m = i6 + (m + 1) by (first | lia | omega), hlx (m + 1), List.append_assoc]
        rfl
      · cases ps with
        | nil => exact Nat.zero_le _
        | cons _ r => exact Nat.le_of_succ_le hps
    case fin =>
      rintro ys6 nw6 ⟨ts, ps, xs, ln6, tl6, pv6, vs6, k6, n6, e1, hys, hlx, hps, hln, hpv6, hvs6, e⟩
      subst e
      have hl2 := hlx 0
      rw [Nat.add_zero, show ws.length + 4 = (ws.length + 2) + 2 from rfl, lexP_two, hlex] at hl2
      obtain ⟨f1, f2⟩ := Prod.mk.inj hl2
      obtain ⟨f3, f4⟩ := Prod.mk.inj f2
      obtain ⟨f5, f6⟩ := Prod.mk.inj f4
      have f7 : ts = [] :: x :: (ws ++ [[], []]) := (f1.trans (List.append_nil ts)).symm
      have f8 : ps = [] := f3.symm
      have f9 : xs = [] := f5.symm
      have f10 : ln6 = 1 + ((x.count 10 : Nat) : Int) := f6.symm
      clear hl2 f1 f2 f3 f4 f5 f6 hlx
      subst f7
      subst f8
      subst f9
      subst f10
      have f11 := strs_of_nil hpv6
      have f12 := strs_of_nil hvs6
      subst f11
      subst f12
      intro Dt h6 tk6 F6 N6 hm6
      dsimp only [telLed, rdAll, rdIn, List.cons_append, List.nil_append] at N6 hm6
      simp only [LCg.Off1, and_true] at hm6
      obtain ⟨a1, a2, a3, a4, a5, a6, a7, a8, a9, a10, a11, a12⟩ := hm6
      k_steps
      refine unhold ?_
      lcg_lit
      refine' Does.use (read_nil w R hR n6 _) ?B ?F ?X ?N ?T ?hk ?hd ?hu ?hp ?hr ?_
      walk_at "m args"
      intro n0 v post h' tk' l0 hP F' N'
      obtain ⟨⟨t9, e9⟩, e8⟩ := hP
      subst e9
      subst e8
      k_unfold
      dsimp only [List.cons_append, List.nil_append] at N' ⊢
      clear l0 N6 F6
      k_steps
      refine unhold ?_
      rename Fr _ _ _ _ => F7
      rename News _ _ _ _ => N7
      refine' addL (us := [_, _]) (vs := wv) F7 N7 ?ma ?mb ?z ?_
      case ma => k_mem
      case mb => k_mem
      case z => simp only [List.length_cons, List.length_nil]; (first | lia | omega)
      intro D2 h7 F8 N8 l2
      k_lt l2
      clear F7 N7
      k_steps
      refine unhold ?_
      rename Fr _ _ _ _ => F7
      rename News _ _ _ _ => N7
      refine' addL (us := [_, _] ++ wv) (vs := [_, _]) F7 N7 ?ma ?mb ?z ?_
      case ma => k_mem
      case mb => k_mem
      case z => simp only [List.length_append, List.length_cons, List.length_nil]; (first | lia | omega)
      intro D3 h8 F8 N8 l3
      k_lt l3
      clear F7 N7
      k_steps
      refine unhold ?_
      lcg_lit
      refine' eq_strs (xs := ys6) (ys := [_, _] ++ wv ++ [_, _]) N8 ?ma ?mb hys (told_strs hwv) (told_ok hokx hok) (told_ok hokx hok) ?hu ?_
      case ma => k_dflt k_mem
      case mb => k_dflt k_mem
      case hu => ktr_units
      rw [decide_eq_true rfl]
      k_unfold
      dsimp only
      k_steps
      refine' Left.intro F8 N8 ?sub ⟨?_, R, q9, hG, hR3, rfl⟩
      case sub => kxw_bool
      rw [count10]
      exact congrArg Value.bool (beq_self_eq_true _)

end
section
theorem startLawF2 : True := by
  w_top off
  trivial
noncomputable abbrev frmU (P B b : List Nat) (u1 u4 u5 : Tok) (m : Str → Option Value) : Str → Option Value := fun y =>
  if y = Str.ofString "behind" then some (.str (tx B) u5) else if y = Str.ofString "back" then some (.str (tx b) u4) else if y = Str.ofString "plain" then some (.str (tx P) u1) else m y
theorem frmLaw_U {l : List Nat} {Dn : Nat} {u1 u2 u3 u4 u5 : Tok} {m : Str → Option Value} : ∃ m', frmLaw l Dn u1 u2 u3 u4 u5 m = frmU (l.map sig) ((behR (beh (hk l))).map sig) ((backR (fro (hk l))).map sig) u1 u4 u5 m' := by
  refine ⟨frmLaw l Dn u1 u2 u3 u4 u5 m, ?_⟩
  funext y
  by_cases h1 : y = Str.ofString "behind"
  · subst h1; rfl
  by_cases h2 : y = Str.ofString "back"
  · subst h2; rfl
  by_cases h3 : y = Str.ofString "plain"
  · subst h3; rfl
  simp only [frmU, if_neg h1, if_neg h2, if_neg h3]
noncomputable abbrev frmV (P A B T : List Nat) (v1 v2 v3 v4 : Tok) (m : Str → Option Value) : Str → Option Value := fun y =>
  if y = Str.ofString "ahead" then some (.str (tx A) v2) else if y = Str.ofString "told" then some (.str (tx T) v4) else if y = Str.ofString "behind" then some (.str (tx B) v3) else if y = Str.ofString "plain" then some (.str (tx P) v1) else m y
theorem frmU_V {P A B T b : List Nat} {u1 u4 u5 v2 v4 : Tok} {m : Str → Option Value} : ∃ m', (fun y => if y = Str.ofString "ahead" then some (.str (tx A) v2) else if y = Str.ofString "told" then some (.str (tx T) v4) else frmU P B b u1 u4 u5 m y) = frmV P A B T u1 v2 u5 v4 m' := by
  refine ⟨fun y => frmU P B b u1 u4 u5 m y, ?_⟩
  funext y
  by_cases h1 : y = Str.ofString "ahead"
  · subst h1; rfl
  by_cases h2 : y = Str.ofString "told"
  · subst h2; rfl
  by_cases h3 : y = Str.ofString "behind"
  · subst h3; rfl
  by_cases h4 : y = Str.ofString "plain"
  · subst h4; rfl
  simp only [frmU, frmV, if_neg h1, if_neg h2, if_neg h3, if_neg h4]
/-- what the end's readers give -/
structure BackOk (P A B T b : List Nat) : Prop where
  cut : P = A ++ 34 :: B
  told : T = unq (b ++ [34])
  one : ∃ l2, tok0 (34 :: P) 1 = (T, B, l2)
  two : ∃ l2, tok0 (34 :: (A ++ [92])) 1 = (T, [], l2)
  lines : (tok0 (34 :: P) 1).2.2 = (1 : Int) + ((A.count 10 : Nat) : Int)
  size : P.length ≤ 400 ∧ b.length ≤ 400
theorem back_is (l : List Nat) (hz : l.length ≤ 400) (hb : (backR (fro (hk l))).length ≤ 400) (hl : ∀ c ∈ l, Lt c) (hm : 65 ∈ hk l) : BackOk (l.map sig) (((fro (hk l)).flatMap unH).map sig) ((behR (beh (hk l))).map sig) (unq ((backR (fro (hk l))).map sig ++ [34])) ((backR (fro (hk l))).map sig) := by
  obtain ⟨h1, h2, h3⟩ := back_ok l hl hm
  exact ⟨h1, rfl, h2, h3, back_lines l hl hm, by rw [List.length_map]; exact hz, by rw [List.length_map]; exact hb⟩
noncomputable abbrev Good9 (rc lc : Nat) (oc : Obj) (cvs : Array Value) (tq : Tok) : Prop := oc.data = .fields cvs ∧ cvs[1]? = some (.str readQ tq) ∧ 107 < rc
theorem DoesN.mono {prog : Program} {w : World} {K : Frag} {D U : Nat} {f : Addr} {vs : List Value} {pre : List (Addr × Obj)} {Post Post' : Nat → Value → List (Addr × Obj) → Prop} (C : DoesN prog w K D U f vs pre Post) (h : ∀ n0 v post, Post n0 v post → Post' n0 v post) : DoesN prog w K D U f vs pre Post' := by
  unfold DoesN at C ⊢
  intro p loose mean mg mb dp un gd cn cs a ccd cl outer A₀ base h₀ L m s RR B F X N T hk hd' hu hret
  exact C p loose mean mg mb dp un gd cn cs a ccd cl outer A₀ base h₀ L m s RR B F X N T hk hd' hu fun n0 v post s' e hP => hret n0 v post s' e (h _ _ _ hP)
theorem signs_tx (x : List Nat) : signs (tx x) = x.map sgn := by simp [signs]
noncomputable abbrev Good0 (R : RdA) (q9 : Array Value) : Prop := R.oc.data = .fields R.vs ∧ R.vs[1]? = some (.str readQ (R.t 7)) ∧ ∃ lc, q9 = lawTab R.rc lc
theorem reader_T (w : World) (x : List Nat) (u : Tok) (hx : x.length ≤ 1000) : DoesN row.prog w (hd.heap_39 w.params) 8 80 112 [.str (tx x) u] [(107, tabObj #[])] (TabE w.params x [(107, tabObj #[])] Good0) :=
  (reader w (tx x) u (by rw [tx_len]; exact hx)).mono fun n0 v post hP => by
    obtain ⟨R, tl, vs, n, k, lc, hR, h1, h2, h3, h4, h5, hs, e1, e2⟩ := hP
    rw [signs_tx] at hs
    exact ⟨R, tl, vs, n, k, _, hR, h1, h2, h3, .inl h4, hs, e1, e2, hR.oc, h5 ▸ hR.q, lc, rfl⟩
noncomputable abbrev Good1 (rc lc : Nat) (oc : Obj) (R : RdA) (q9 : Array Value) : Prop := R.rc = rc ∧ R.oc = oc ∧ q9 = lawTab rc lc
theorem reader_T1 (w : World) (x : List Nat) (u : Tok) (hx : x.length ≤ 1000) (rc lc : Nat) (oc : Obj) (cvs : Array Value) (tq : Tok) (hoc : oc.data = .fields cvs) (hq : cvs[1]? = some (.str readQ tq)) (hrc : 107 < rc) :
    DoesN row.prog w (hd.heap_39 w.params) 8 80 112 [.str (tx x) u] [(rc, oc), (107, tabObj (lawTab rc lc))] (TabE w.params x [(rc, oc), (107, tabObj (lawTab rc lc))] (Good1 rc lc oc)) :=
  (reader1 w (tx x) u (by rw [tx_len]; exact hx) rc lc oc cvs tq hoc hq hrc).mono fun n0 v post hP => by
    obtain ⟨R, tl, vs, n, k, hR, h1, h2, h3, h4, h5, h6, h7, hs, e1, e2⟩ := hP
    rw [signs_tx] at hs
    refine ⟨R, tl, vs, n, k, _, hR, h1, h2, h3 ▸ hrc, .inr ?_, hs, e1, e2, h3, h4, rfl⟩
    rw [h3]; exact .head _

end
section
theorem startReadA2 : True := by
  w_top off
  trivial
local macro_rules | `(tactic| walk_at "zz none") => `(tactic| fail "zz none")
/-- a sign read, or none -/
theorem read_any (w : World) (R : RdA) (h : R.Ok) (xs : List Nat) (vs : List Value) (hv : StrsAre vs (xs.map sgn)) (hz : xs.length ≤ 10000) (n : Nat) (u : Tok) :
   Does row.prog w (hd.heap_39 w.params) 4 40 R.rf [.int 1 u] [(R.rf, readFn R), (R.rc, R.oc), (R.cl, R.ob), (R.sg, listOf vs.toArray n)]
     (fun v post => ∃ t vs' n', v = .str (tx (xs.take 1)) t ∧ StrsAre vs' ((xs.drop 1).map sgn) ∧ post = [(R.rf, readFn R), (R.rc, R.oc), (R.cl, R.ob), (R.sg, listOf vs'.toArray n')]) := by
  intro p loose mean mg mb dp un gd cn cs a ccd cl outer A₀ base h₀ L m s RR B F X N T hk hd hu hret
  cases xs with
  | nil =>
    have e := strs_of_nil hv
    subst e
    refine read_nil w R h n u _ _ _ _ _ _ _ _ _ _ _ _ _ _ _ _ _ _ _ _ _ B F X N T hk hd hu ?_
    intro n0 v post s' en hP kk
    obtain ⟨⟨t, e1⟩, e2⟩ := hP
    exact hret n0 v post s' en ⟨t, [], n, e1.trans (by rw [show (tx (([] : List Nat).take 1)) = Str.ofString "" from tx_nil.symm]), .nil, e2⟩ kk
  | cons c xs =>
    obtain ⟨t, r, e, hr⟩ := strs_of_cons hv
    subst e
    have hl := hr.length
    rw [List.length_map] at hl
    refine read_cons w R h (.str (sgn c) t) r ?z n u _ _ _ _ _ _ _ _ _ _ _ _ _ _ _ _ _ _ _ _ _ B F X N T hk hd hu ?_
    case z => simp only [List.length_cons] at hz; (first | lia | omega)
    intro n0 v post s' en hP kk
    exact hret n0 v post s' en ⟨t, r, n + 1, hP.1, hr, hP.2⟩ kk
noncomputable abbrev reads (B : List Nat) (i : Nat) : List (List Nat) := (List.range i).map fun j => (B.drop j).take 1
theorem reads_succ (B : List Nat) (i : Nat) : reads B (i + 1) = reads B i ++ [(B.drop i).take 1] := by
  unfold reads
  rw [List.range_succ, List.map_append]; rfl
theorem reads_flat (B : List Nat) : ∀ i, (reads B i).flatten = B.take i
  | 0 => by simp [reads]
  | i + 1 => by rw [reads_succ, List.flatten_append, reads_flat B i, List.take_add]; simp
theorem join_none : ∀ ns : List (List Nat), Txt.join (Str.ofString "") (ns.map tx) = tx ns.flatten := by
  intro ns
  rw [show Txt.join (Str.ofString "") (ns.map tx) = Str.join (Str.ofString "") (ns.map tx) from StrLaws.glued_eq_join _ _]
  induction ns with
  | nil => rfl
  | cons a r ih =>
    cases r with
    | nil => simp [Str.join]
    | cons b r =>
      show tx a ++ Str.ofString "" ++ Str.join (Str.ofString "") ((b :: r).map tx) = _
      rw [ih, tx_empty, tx_tx2]; rfl
theorem reads_join {B : List Nat} {n : Nat} (h : B.length ≤ n) : Txt.join (Str.ofString "") ((reads B n).map tx) = tx B := by
  rw [join_none, reads_flat, List.take_of_length_le h]
theorem reads_sz {B : List Nat} {n : Nat} (h : n ≤ 1000) : (((reads B n).map tx).map (·.length)).sum + ((reads B n).map tx).length * (Str.ofString "").length ≤ 16777216 := by
  have h1 : ∀ x ∈ reads B n, x.length ≤ 1 := fun x hx => by
    obtain ⟨j, _, rfl⟩ := List.mem_map.mp hx
    rw [List.length_take]; (first | lia | omega)
  have h2 := sum_le h1
  rw [len_empty]
  have : (reads B n).length = n := by simp [reads]
  (first | lia | omega)

end
section
theorem startLawW2 : True := by
  w_top off
  k_with "LawW2 0" => (simp only [PySem.sizeLine_eq, Str.length_append, tx_len, List.size_toArray, List.length_append, List.length_cons, List.length_nil]; (first | lia | omega))
  trivial
local macro_rules | `(tactic| walk_at "zz none") => `(tactic| fail "zz none")
local macro_rules | `(tactic| walk_at "zz none") => `(tactic| fail "zz none")
local macro_rules | `(tactic| walk_at "call ref") => `(tactic| refine hold ?_)
local macro_rules | `(tactic| walk_at "eval ListComp") => `(tactic| refine hold ?_)
local macro_rules | `(tactic| walk_at "pyIter str") => `(tactic| (refine hold ?_))
local macro_rules | `(tactic| walk_at "call builtin:str.join") => `(tactic| refine hold ?_)
local macro_rules | `(tactic| size_fits) => `(tactic| k_extra "LawW2 0")
noncomputable abbrev wLed (P : Params) (R : RdA) (ln : Int) (tl : Tok) (k : Nat) (vs : List Value) (n : Nat) (lc : Nat) (L : Nat) (oC : Obj) : List (Addr × Obj) :=
  rdAll P R ln tl [] k vs n ++ [(107, tabObj (lawTab R.rc lc)), (L + 1 + 1, oC)]
inductive RdJ (P : Params) (R : RdA) (ln : Int) (tl : Tok) (k : Nat) (lc L : Nat) (oC : Obj) (B : List Nat) (i : Nat) (ys : List Value) (nw : List (Addr × Obj)) : Prop
  | mk (vs : List Value) (n : Nat) : StrsAre ys ((reads B i).map tx) → StrsAre vs ((B.drop i).map sgn) → nw = wLed P R ln tl k vs n lc L oC → RdJ P R ln tl k lc L oC B i ys nw
set_option maxHeartbeats 4000000 in
theorem lawW (w : World) (L fa : Addr) (cd : Value) (P A B Tt : List Nat) (hBP : B.length ≤ P.length) (hP4 : P.length ≤ 400) (hAP : A.length ≤ 400) (v1 v2 v3 v4 : Tok)
    (hL : 107 < L) (R : RdA) (hR : R.Ok) (hR1 : 107 < R.cl) (hR3 : 107 < R.rc) (hcl : L + 1 + 1 < R.cl) (n1 : @Ne Addr R.rc (L + 1 + 1)) (oC : Obj) (dC : oC.data = .cell (some (.ref R.x)))
    (ln : Int) (hln : ln = (1 : Int) + ((A.count 10 : Nat) : Int)) (tl : Tok) (k n lc : Nat) (vs : List Value) (hvs : StrsAre vs (B.map sgn)) :
    ∀ {p : Program} {loose : List Str} {mean : ExcName → Option Value} {mg mb : Str → Option Value} {g : Heap} {m : Str → Option Value} {s : Shared} {R1 : Value → Shared → Prop} {Q : Flow → Shared → Prop}
   (_ : Below callerA g [] g) (_ : (hd.heap_39 w.params).In g) (_ : Top p loose mean mg mb g) (_ : Fr g L s.heap (frmV P A B Tt v1 v2 v3 v4 m))
   (_ : News g L s.heap (wLed w.params R ln tl k vs n lc L oC)) (_ : LawQ g L Q s),
   wpAny (model row.prog w) (callerA.deeper (lawEnv L fa cd)) (execs (lawBody 12) (lawEnv L fa cd)) Q (lawErr w L fa cd R1) s := by
  k_fill
  intro p loose mean mg mb g m s R1 Q B9 X9 T9 F N hQ
  unfold lawErr
  unfold lawEnv
  generalize hsc : lawScope = sc
  generalize hb : lawBody 12 = b
  conv at hsc => lhs; whnf
  conv at hb => lhs; whnf
  subst hsc
  subst hb
  have h9 : RdA.Apart _ := RdA.Ok.lt (by assumption); have n01 := RdA.n01 h9; have n02 := RdA.n02 h9; have n03 := RdA.n03 h9; have n04 := RdA.n04 h9; have n05 := RdA.n05 h9; have n06 := RdA.n06 h9; have n07 := RdA.n07 h9; have n08 := RdA.n08 h9; have n12 := RdA.n12 h9; have n13 := RdA.n13 h9; have n14 := RdA.n14 h9; have n15 := RdA.n15 h9; have n16 := RdA.n16 h9; have n17 := RdA.n17 h9; have n18 := RdA.n18 h9; have n23 := RdA.n23 h9; have n24 := RdA.n24 h9; have n25 := RdA.n25 h9; have n26 := RdA.n26 h9; have n27 := RdA.n27 h9; have n28 := RdA.n28 h9; have n34 := RdA.n34 h9; have n35 := RdA.n35 h9; have n36 := RdA.n36 h9; have n37 := RdA.n37 h9; have n38 := RdA.n38 h9; have n45 := RdA.n45 h9; have n46 := RdA.n46 h9; have n47 := RdA.n47 h9; have n48 := RdA.n48 h9; have n56 := RdA.n56 h9; have n57 := RdA.n57 h9; have n58 := RdA.n58 h9; have n67 := RdA.n67 h9; have n68 := RdA.n68 h9; have n78 := RdA.n78 h9
  obtain ⟨b1, b2, b3, b4, b5, b6, b7, b8⟩ := RdA.off h9 hcl
  obtain ⟨d1, d2, d3, d4, d5, d6, d7, d8⟩ := RdA.off h9 hR1
  have m8 : @Ne Addr 107 R.rc := Nat.ne_of_lt hR3
  have nL : @Ne Addr (L + 1 + 1) 107 := fun (e : (_ : Nat) = _) => by (first | lia | omega)
  k_steps
  refine unhold ?_
  k_dflt refine ListComp_X (F₀ := by k_asm) (by rfl) (by decide) (by rfl) (by decide) (by rfl) ?_
  k_steps
  refine unhold ?_
  refine WalkSrc.str rfl (by k_asm) N ?sz ?_
  case sz => show (tx P).length ≤ _; size_fits
  intro g2
  refine compRest (RdJ w.params R ln tl k lc L oC B) ?turn ?fin _ 0 [] _ (Nat.zero_add _) (.mk vs n .nil hvs rfl)
  case turn =>
    intro i6 ys6 nw6 hi6 hJ6 v6 I6 oI6 C6 oC6 D6 m₆ h7 tk7 E6 hP6 hC6 hx6 F6 N6 off6 ne6
    obtain ⟨vs6, n6, hys, hvs6, e⟩ := hJ6
    subst e
    dsimp only [wLed, rdAll, rdIn, List.cons_append, List.nil_append] at N6 off6
    k_steps
    refine unhold ?_
    refine' Does.use (read_any w R hR (B.drop i6) vs6 hvs6 ?z n6 _) ?B ?F ?X ?N ?T ?hk ?hd ?hu ?hp ?hr ?_
    case z => rw [List.length_drop]; (first | lia | omega)
    case B => k_asm
    case F => k_asm
    case X => k_asm
    case N => exact N6
    case T => k_asm
    case hk => exact rfl
    case hd => ktr_room
    case hu => ktr_units
    case hp => kxw_bool
    case hr => exact rest3 off6 (by kxw_bool) (by kin_val)
    intro n0 v post h' tk' l0 hP F' N'
    obtain ⟨t8, vs8, n8, e, hvs8, e2⟩ := hP
    subst e
    subst e2
    clear l0
    rw [List.drop_drop] at hvs8
    have off8 : LCg.Off3 I6 C6 D6 (wLed w.params R ln tl k vs8 n8 lc L oC) := off6
    dsimp only [wLed, rdAll, rdIn, List.cons_append, List.nil_append] at off8
    dsimp only [List.cons_append, List.nil_append] at N'
    refine LCg.CompEnd.intro F' N' _ (by kxw_bool) off8 trivial (unhold (.mk vs8 n8 ?_ ?_ rfl))
    · rw [reads_succ, List.map_append]; exact strs_app hys (.cons _ _ .nil)
    · exact hvs8
  case fin =>
    rintro ys6 nw6 ⟨vs6, n6, hys, hvs6, e⟩
    subst e
    intro D h6 tk6 F6 N6 hm6
    dsimp only [wLed, rdAll, rdIn, List.cons_append, List.nil_append] at N6 hm6
    k_steps
    refine unhold ?_
    have ez : (tx P).cps.size = P.length := by simp
    rw [ez] at hys
    refine' join_list (items := ys6.toArray) (ys := (reads B P.length).map tx) (News.isList N6 (.head _)) ?sa ?z ?_
    case sa => simpa using hys
    case z => exact reads_sz (by (first | lia | omega))
    intro t9 tk9
    rw [reads_join hBP]
    k_steps
    · rename Fr _ _ _ _ => F9
      rename News _ _ _ _ => N9
      rw [count10, ← hln, beq_self_eq_true]
      exact hQ _ _ _ _ _ F9 N9 (by k_mem)
    · rename (tx B == tx B) = false => hf
      rw [beq_self_eq_true] at hf
      cases hf

end
section
theorem startLawV2 : True := by
  w_top off
  k_with "LawV2 0" => ((with_reducible show wpAny _ _ (execs (Stmt.Assign [Expr.Name (Str.ofString "unread") _] _ _ :: _) _) _ _ _); refine hold ?_)
  k_with "LawV2 1" => (simp only [PySem.sizeLine_eq, Str.length_append, tx_len, List.size_toArray, List.length_append, List.length_cons, List.length_nil, show (Str.ofString "\\").length = 1 from by decide +kernel, show (Str.ofString "\"").length = 1 from by decide +kernel]; (first | lia | omega))
  trivial
local macro_rules | `(tactic| walk_at "call ref") => `(tactic| refine hold ?_)
local macro_rules | `(tactic| walk_at "execs cons Assign cons") => `(tactic| k_extra "LawV2 0")
local macro_rules | `(tactic| size_fits) => `(tactic| k_extra "LawV2 1")
theorem mark_ahead (A : List Nat) : Str.ofString "\"" ++ tx A ++ Str.ofString "\\" = tx (34 :: (A ++ [92])) := by
  rw [show Str.ofString "\"" = tx [34] by decide +kernel, show Str.ofString "\\" = tx [92] by decide +kernel, tx_tx2, tx_tx2]; rfl
theorem rest_far {pre : List (Addr × Obj)} {c r : Nat} (hp : ∀ q ∈ pre, c ≤ q.1 ∨ q.1 = r) : ∀ {nw : List (Addr × Obj)}, (∀ q ∈ nw, @LT.lt Nat _ q.1 c ∧ @Ne Nat q.1 r) → Rest pre nw nw
  | [], _ => .nil
  | q :: nw, h => .keep (fun hm => by
      obtain ⟨p, h1, h2⟩ := List.mem_map.mp hm
      have := h q (.head _)
      rcases hp p h1 with h3 | h3
      · rw [h2] at h3; exact absurd this.1 (Nat.not_lt.mpr h3)
      · rw [h2] at h3; exact this.2 h3) (rest_far hp fun q hq => h q (.tail _ hq))
inductive Alls {α : Type} (p : α → Prop) : List α → Prop
  | nil : Alls p []
  | cons {a l} : p a → Alls p l → Alls p (a :: l)
theorem sub_alls {α : Type} {p : α → Prop} {l : List α} (h : Alls p l) : ∀ q ∈ l, p q := by
  induction h with
  | nil => exact fun _ h => nomatch h
  | cons a _ ih =>
    intro q hq
    rcases List.mem_cons.mp hq with rfl | hq
    · exact a
    · exact ih q hq
theorem rd_far {P : Params} {R : RdA} {ln : Int} {tl : Tok} {ps : List Value} {k : Nat} {vs : List Value} {n : Nat} (h : R.Apart) : ∀ q ∈ rdAll P R ln tl ps k vs n, R.cl ≤ q.1 ∨ q.1 = R.rc := by
  obtain ⟨h1, h2, h3, h4, h5, h6, h7, _⟩ := h
  have hx : ∀ d : Nat, R.cl ≤ d → R.cl ≤ d ∨ d = R.rc := fun _ => .inl
  exact sub_alls (.cons (hx _ (by (first | lia | omega))) (.cons (hx _ (by (first | lia | omega))) (.cons (hx _ (by (first | lia | omega))) (.cons (hx _ (by (first | lia | omega))) (.cons (hx _ (by (first | lia | omega))) (.cons (hx _ (by (first | lia | omega))) (.cons (.inr rfl) (.cons (hx _ (by (first | lia | omega))) (.cons (hx _ (by (first | lia | omega))) .nil)))))))))
set_option maxHeartbeats 4000000 in
theorem lawV (w : World) (L fa : Addr) (cd : Value) (P A B Tt b : List Nat) (hB : BackOk P A B Tt b) (v1 v2 v3 v4 : Tok)
    (hL : 107 < L) (R : RdA) (hR : R.Ok) (hR1 : 107 < R.cl) (hR3 : 107 < R.rc) (hcl : L + 1 + 1 < R.cl) (n1 : @Ne Addr R.rc (L + 1 + 1)) (oC : Obj) (dC : oC.data = .cell (some (.ref R.x)))
    (cvs : Array Value) (tq : Tok) (hoc : R.oc.data = .fields cvs) (hq : cvs[1]? = some (.str readQ tq)) (tl : Tok) (k n lc : Nat) (vs : List Value) (hvs : StrsAre vs ((34 :: P).map sgn)) :
    ∀ {p : Program} {loose : List Str} {mean : ExcName → Option Value} {mg mb : Str → Option Value} {g : Heap} {m : Str → Option Value} {s : Shared} {R1 : Value → Shared → Prop} {Q : Flow → Shared → Prop}
   (_ : Below callerA g [] g) (_ : (hd.heap_39 w.params).In g) (_ : Top p loose mean mg mb g) (_ : Fr g L s.heap (frmV P A B Tt v1 v2 v3 v4 m))
   (_ : News g L s.heap (wLed w.params R 1 tl k vs n lc L oC)) (_ : LawQ g L Q s),
   wpAny (model row.prog w) (callerA.deeper (lawEnv L fa cd)) (execs (lawBody 11) (lawEnv L fa cd)) Q (lawErr w L fa cd R1) s := by
  have hz1 := hB.size.1
  have hPB : P.length = A.length + 1 + B.length := by rw [hB.cut, List.length_append, List.length_cons]; (first | lia | omega)
  k_fill
  intro p loose mean mg mb g m s R1 Q B9 X9 T9 F N hQ
  unfold lawErr
  unfold lawEnv
  generalize hsc : lawScope = sc
  generalize hb : lawBody 11 = b
  conv at hsc => lhs; whnf
  conv at hb => lhs; whnf
  subst hsc
  subst hb
  have h9 : RdA.Apart _ := RdA.Ok.lt (by assumption); have n01 := RdA.n01 h9; have n02 := RdA.n02 h9; have n03 := RdA.n03 h9; have n04 := RdA.n04 h9; have n05 := RdA.n05 h9; have n06 := RdA.n06 h9; have n07 := RdA.n07 h9; have n08 := RdA.n08 h9; have n12 := RdA.n12 h9; have n13 := RdA.n13 h9; have n14 := RdA.n14 h9; have n15 := RdA.n15 h9; have n16 := RdA.n16 h9; have n17 := RdA.n17 h9; have n18 := RdA.n18 h9; have n23 := RdA.n23 h9; have n24 := RdA.n24 h9; have n25 := RdA.n25 h9; have n26 := RdA.n26 h9; have n27 := RdA.n27 h9; have n28 := RdA.n28 h9; have n34 := RdA.n34 h9; have n35 := RdA.n35 h9; have n36 := RdA.n36 h9; have n37 := RdA.n37 h9; have n38 := RdA.n38 h9; have n45 := RdA.n45 h9; have n46 := RdA.n46 h9; have n47 := RdA.n47 h9; have n48 := RdA.n48 h9; have n56 := RdA.n56 h9; have n57 := RdA.n57 h9; have n58 := RdA.n58 h9; have n67 := RdA.n67 h9; have n68 := RdA.n68 h9; have n78 := RdA.n78 h9
  obtain ⟨b1, b2, b3, b4, b5, b6, b7, b8⟩ := RdA.off h9 hcl
  obtain ⟨d1, d2, d3, d4, d5, d6, d7, d8⟩ := RdA.off h9 hR1
  have m8 : @Ne Addr 107 R.rc := Nat.ne_of_lt hR3
  have nL : @Ne Addr (L + 1 + 1) 107 := fun (e : (_ : Nat) = _) => by (first | lia | omega)
  dsimp only [wLed, rdAll, rdIn, List.cons_append, List.nil_append] at N
  k_steps
  refine unhold ?_
  refine' Does.use (tok_any w R hR 1 tl k [] (34 :: P) (by decide) ⟨by decide, by simp only [List.length_cons]; (first | lia | omega)⟩ [] vs .nil hvs n) ?B ?F ?X ?N ?T ?hk ?hd ?hu ?hp ?hr ?_
  walk_at "m args"
  intro n0 v post h' tk' l0 hP F' N'
  obtain ⟨tk8, tl8, pv8, vs8, k8, n8, e, e2, hpv8, hvs8⟩ := hP
  subst e
  subst e2
  clear l0
  have hst : stepP [] (34 :: P) 1 = (Tt, [], B, (1 : Int) + ((A.count 10 : Nat) : Int)) := by
    obtain ⟨l2, e⟩ := hB.one
    have := hB.lines
    show ((tok0 (34 :: P) 1).1, _, (tok0 (34 :: P) 1).2.1, (tok0 (34 :: P) 1).2.2) = _
    rw [this, e]
  rw [hst] at hpv8 hvs8 N' ⊢
  dsimp only at hpv8 hvs8 ⊢
  have e := strs_of_nil hpv8
  subst e
  dsimp only [rdAll, rdIn, List.cons_append, List.nil_append] at N'
  clear N F hst
  k_steps
  · rename (tx Tt != tx Tt) = true => hf
    rw [bne, beq_self_eq_true] at hf
    cases hf
  refine unhold ?_
  rw [mark_ahead]
  rename Fr _ _ _ _ => F9
  rename News _ _ _ _ => N9
  have N5 : News g L _ ((R.rc, R.oc) :: (107, tabObj (lawTab R.rc lc)) :: (L + 1 + 1, oC) :: (R.x, instObj 52 R.d) :: (R.d, rdDict w.params R.t tl8 ((1 : Int) + ((A.count 10 : Nat) : Int)) R.st R.pb) :: (R.pb, listOf #[] k8) :: (R.st, streamFn R) :: (R.sd, streamDict w.params R) :: (R.rf, readFn R) :: (R.cl, R.ob) :: (R.sg, listOf vs8.toArray n8) :: []) := fun p hp => N9 p (by revert p hp; kxw_bool)
  clear N9
  refine' Does.use (reader_T1 w (34 :: (A ++ [92])) _ ?z R.rc lc R.oc cvs tq hoc hq hR3) ?B F9 ?X N5 ?T ?hk ?hd ?hu ?hp ?hr ?_
  case z => simp only [List.length_cons, List.length_append, List.length_nil]; (first | lia | omega)
  case B => k_asm
  case X => k_asm
  case T => k_asm
  case hk => exact rfl
  case hd => ktr_room
  case hu => ktr_units
  case hp => kxw_bool
  case hr => kin_val
  intro n0 v post h' tk' l0 hP F' N'
  obtain ⟨R2, tl2, vs2, n2, k2, q9, hR2, hS1, hS2, hS3, _, hvs2, ev, ep, e3, e4, e5⟩ := hP
  subst ev
  subst ep
  subst e5
  have hfar : ∀ q ∈ (107, tabObj (lawTab R.rc lc)) :: (L + 1 + 1, oC) :: (R.x, instObj 52 R.d) :: (R.d, rdDict w.params R.t tl8 ((1 : Int) + ((A.count 10 : Nat) : Int)) R.st R.pb) :: (R.pb, listOf #[] k8) :: (R.st, streamFn R) :: (R.sd, streamDict w.params R) :: (R.rf, readFn R) :: (R.cl, R.ob) :: (R.sg, listOf vs8.toArray n8) :: ([] : List (Addr × Obj)), @LT.lt Nat _ q.1 R2.cl ∧ @Ne Nat q.1 R.rc := by
    intro q hq
    refine ⟨Nat.lt_trans (l0 q (.tail _ hq)) hS2, ?_⟩
    revert q hq
    k_all
  clear l0
  dsimp only [rdAll, rdIn, List.cons_append, List.nil_append] at N'
  k_steps
  refine unhold ?_
  try dsimp only [List.append_nil]
  refine' Does.use (tok_any w R2 hR2 1 tl2 k2 [] (34 :: (A ++ [92])) (by decide) ⟨by decide, by simp only [List.length_cons, List.length_append, List.length_nil]; (first | lia | omega)⟩ [] vs2 .nil hvs2 n2) ?B ?F ?X ?N ?T ?hk ?hd ?hu ?hp ?hr ?_
  case B => k_asm
  case F => k_asm
  case X => k_asm
  case N => exact N'
  case T => k_asm
  case hk => exact rfl
  case hd => ktr_room
  case hu => ktr_units
  case hp => kxw_bool
  case hr => exact .drop (.drop (.drop (.drop (.drop (.drop (.drop (.drop (.drop (rest_far (e3 ▸ rd_far hR2.lt) hfar)))))))))
  intro n0 v post h' tk' l0 hP F' N'
  obtain ⟨tk9, tl9, pv9, vs9, k9, n9, e, e2, hpv9, hvs9⟩ := hP
  subst e
  subst e2
  clear l0
  have hst : ∃ l2, stepP [] (34 :: (A ++ [92])) 1 = (Tt, [], [], l2) := by
    obtain ⟨l2, e⟩ := hB.two
    refine ⟨l2, ?_⟩
    show ((tok0 (34 :: (A ++ [92])) 1).1, _, (tok0 (34 :: (A ++ [92])) 1).2.1, (tok0 (34 :: (A ++ [92])) 1).2.2) = _
    rw [e]
  obtain ⟨l2, hst⟩ := hst
  rw [hst] at hpv9 hvs9 N' ⊢
  dsimp only at hpv9 hvs9 ⊢
  dsimp only [rdAll, rdIn, List.cons_append, List.nil_append] at N'
  rw [e3, e4] at N'
  clear N5 F9 hst hfar
  k_steps
  refine unhold ?_
  rename Fr _ _ _ _ => F9
  rename News _ _ _ _ => N9
  refine' lawW w L fa cd P A B Tt (by (first | lia | omega)) hz1 (by (first | lia | omega)) v1 v2 v3 v4 hL R hR hR1 hR3 hcl n1 oC dC _ rfl tl8 k8 n8 lc vs8 hvs8 ?B ?X ?T F9 ?N ?Q
  case B => k_asm
  case X => k_asm
  case T => k_asm
  case N => exact fun p hp => N9 p (by revert p hp; kxw_bool)
  case Q => exact hQ

end
section
theorem startLawU2 : True := by
  w_top off
  k_with "LawU2 0" => ((with_reducible show wpAny _ _ (execs (Stmt.If (Expr.BoolOp _ _ _) _ _ _ :: _) _) _ _ _); refine hold ?_)
  k_with "LawU2 1" => (simp only [PySem.sizeLine_eq, Str.length_append, tx_len, List.size_toArray, List.length_append, List.length_cons, List.length_nil, show (Str.ofString "257 \"").length = 5 from by decide +kernel, show (Str.ofString "\"").length = 1 from by decide +kernel]; (first | lia | omega))
  trivial
local macro_rules | `(tactic| walk_at "zz none") => `(tactic| fail "zz none")
local macro_rules | `(tactic| walk_at "zz none") => `(tactic| fail "zz none")
local macro_rules | `(tactic| walk_at "zz none") => `(tactic| fail "zz none")
local macro_rules | `(tactic| walk_at "call ref") => `(tactic| refine hold ?_)
local macro_rules | `(tactic| walk_at "subscriptTail") => `(tactic| refine hold ?_)
local macro_rules | `(tactic| walk_at "execs cons") => `(tactic| k_extra "LawU2 0")
local macro_rules | `(tactic| size_fits) => `(tactic| k_extra "LawU2 1")
theorem quoted_in (b : List Nat) : Str.ofString "257 \"" ++ tx b ++ Str.ofString "\"" = tx (50 :: 53 :: 55 :: 32 :: 34 :: (b ++ [34])) := by
  rw [open257, show Str.ofString "\"" = tx [34] by decide +kernel, tx_tx2]; rfl
theorem mark_in (P : List Nat) : Str.ofString "\"" ++ tx P = tx (34 :: P) := by
  rw [show Str.ofString "\"" = tx [34] by decide +kernel, tx_tx2]; rfl
theorem Fr.of_eq5 {h₀ h : Heap} {L : Addr} {m m' : Str → Option Value} (F : Fr h₀ L h m) (e : m = m') : Fr h₀ L h m' := e ▸ F
set_option maxHeartbeats 4000000 in
theorem lawU (w : World) (L fa : Addr) (cd : Value) (P A B Tt b : List Nat) (hB : BackOk P A B Tt b) (u1 u4 u5 : Tok)
    (hL : 107 < L) (oR : Obj) (vR : Option Value) (dR : oR.data = .cell vR) (rc lc : Nat) (oc : Obj) (cvs : Array Value) (tq : Tok) (hoc : oc.data = .fields cvs) (hq : cvs[1]? = some (.str readQ tq)) (hrc : 107 < rc) (n1 : @Ne Addr rc (L + 1 + 1)) :
    ∀ {p : Program} {loose : List Str} {mean : ExcName → Option Value} {mg mb : Str → Option Value} {g : Heap} {m : Str → Option Value} {s : Shared} {R1 : Value → Shared → Prop} {Q : Flow → Shared → Prop}
   (_ : Below callerA g [] g) (_ : (hd.heap_39 w.params).In g) (_ : Top p loose mean mg mb g) (_ : Fr g L s.heap (frmU P B b u1 u4 u5 m))
   (_ : News g L s.heap [(L + 1 + 1, oR), (rc, oc), (107, tabObj (lawTab rc lc))]) (_ : LawQ g L Q s),
   wpAny (model row.prog w) (callerA.deeper (lawEnv L fa cd)) (execs (lawBody 8) (lawEnv L fa cd)) Q (lawErr w L fa cd R1) s := by
  k_fill
  intro p loose mean mg mb g m s R1 Q B9 X9 T9 F N hQ
  unfold lawErr
  unfold lawEnv
  generalize hsc : lawScope = sc
  generalize hb : lawBody 8 = b
  conv at hsc => lhs; whnf
  conv at hb => lhs; whnf
  subst hsc
  subst hb
  have hz1 := hB.size.1
  have hz2 := hB.size.2
  have hPl : (tx P).length = P.length := tx_len P
  have hBl : (tx B).length = B.length := tx_len B
  have hPB : P.length = A.length + 1 + B.length := by rw [hB.cut, List.length_append, List.length_cons]; (first | lia | omega)
  k_steps
  refine unhold ?_
  rw [quoted_in]
  refine' Does.use (pars w _ _ ?z rfl ?z5) ?B ?F ?X ?N ?T ?hk ?hd ?hu ?hp ?hr ?_
  case z => simp only [List.length_cons, List.length_append, List.length_nil]; (first | lia | omega)
  case z5 => simp only [List.length_cons]; (first | lia | omega)
  walk_at "m args"
  intro n0 v post h' tk' l0 hP F' N'
  obtain ⟨t9, e9, e8⟩ := hP
  subst e9
  subst e8
  rw [p257_open, ← hB.told]
  dsimp only [List.nil_append] at N'
  clear l0 F N
  k_steps
  refine unhold ?_
  rename Fr _ _ _ _ => F9
  rename News _ _ _ _ => N9
  have hsl : Txt.slice (tx P) none (some (((tx P).length : Int) - ((tx B).length : Int) - 1)) = tx A := by
    rw [hPl, hBl, show ((P.length : Int) - (B.length : Int) - 1) = (A.length : Int) by (first | lia | omega), sl_to, hB.cut, List.take_left]
  rw [hsl] at F9
  obtain ⟨m', em⟩ := frmU_V (P := P) (A := A) (B := B) (T := Tt) (b := b) (u1 := u1) (u4 := u4) (u5 := u5) (v2 := _) (v4 := t9) (m := m)
  have F8 := Fr.of_eq5 F9 em
  clear F9 em hsl
  rw [mark_in]
  have nL : @Ne Addr (L + 1 + 1) 107 := fun (e : (_ : Nat) = _) => by (first | lia | omega)
  refine' Does.use (reader_T1 w (34 :: P) _ ?z rc lc oc cvs tq hoc hq hrc) ?B F8 ?X N9 ?T ?hk ?hd ?hu ?hp ?hr ?_
  case z => simp only [List.length_cons]; (first | lia | omega)
  case B => k_asm
  case X => k_asm
  case T => k_asm
  case hk => exact rfl
  case hd => ktr_room
  case hu => ktr_units
  case hp => kxw_bool
  case hr => kin_val
  intro n0 v post h' tk' l0 hP F' N'
  obtain ⟨R, tl, vs, n, k, q9, hR, hR1, hR2, hR3, _, hvs, ev, ep, e3, e4, e5⟩ := hP
  subst ev
  subst ep
  subst e5
  have hcl : @LT.lt Nat _ (L + 1 + 1) R.cl := Nat.lt_trans (l0 _ (.head _)) hR2
  clear l0 F8 N9
  dsimp only [rdAll, rdIn, List.cons_append, List.nil_append] at N'
  subst e3
  subst e4
  have h9 : RdA.Apart _ := RdA.Ok.lt (by assumption); have n01 := RdA.n01 h9; have n02 := RdA.n02 h9; have n03 := RdA.n03 h9; have n04 := RdA.n04 h9; have n05 := RdA.n05 h9; have n06 := RdA.n06 h9; have n07 := RdA.n07 h9; have n08 := RdA.n08 h9; have n12 := RdA.n12 h9; have n13 := RdA.n13 h9; have n14 := RdA.n14 h9; have n15 := RdA.n15 h9; have n16 := RdA.n16 h9; have n17 := RdA.n17 h9; have n18 := RdA.n18 h9; have n23 := RdA.n23 h9; have n24 := RdA.n24 h9; have n25 := RdA.n25 h9; have n26 := RdA.n26 h9; have n27 := RdA.n27 h9; have n28 := RdA.n28 h9; have n34 := RdA.n34 h9; have n35 := RdA.n35 h9; have n36 := RdA.n36 h9; have n37 := RdA.n37 h9; have n38 := RdA.n38 h9; have n45 := RdA.n45 h9; have n46 := RdA.n46 h9; have n47 := RdA.n47 h9; have n48 := RdA.n48 h9; have n56 := RdA.n56 h9; have n57 := RdA.n57 h9; have n58 := RdA.n58 h9; have n67 := RdA.n67 h9; have n68 := RdA.n68 h9; have n78 := RdA.n78 h9
  obtain ⟨b1, b2, b3, b4, b5, b6, b7, b8⟩ := RdA.off h9 hcl
  obtain ⟨d1, d2, d3, d4, d5, d6, d7, d8⟩ := RdA.off h9 hR1
  have m8 : @Ne Addr 107 R.rc := Nat.ne_of_lt hR3
  k_steps
  refine unhold ?_
  rename Fr _ _ _ _ => F9
  rename News _ _ _ _ => N9
  refine' lawV w L fa cd P A B Tt b hB u1 _ u5 t9 hL R hR hR1 hR3 hcl n1 _ (by assumption) cvs tq hoc hq tl k n lc vs hvs ?B ?X ?T (m := m') F9 ?N ?Q
  case B => k_asm
  case X => k_asm
  case T => k_asm
  case N => exact N9
  case Q => exact hQ

end
section
theorem startLawT2 : True := by
  w_top off
  k_with "LawT2 0" => ((with_reducible show wpAny _ _ (execs (Stmt.Assign [Expr.Name (Str.ofString "told") _] _ _ :: _) _) _ _ _); refine hold ?_)
  k_with "LawT2 1" => (simp only [PySem.sizeLine_eq, Str.length_append, tx_len, List.size_toArray, List.length_append, List.length_cons, List.length_nil]; (first | lia | omega))
  trivial
local macro_rules | `(tactic| walk_at "call ref") => `(tactic| refine hold ?_)
local macro_rules | `(tactic| walk_at "eval ListComp") => `(tactic| refine hold ?_)
local macro_rules | `(tactic| walk_at "execs cons Assign cons") => `(tactic| k_extra "LawT2 0")
local macro_rules | `(tactic| size_fits) => `(tactic| k_extra "LawT2 1")
theorem names_ok (l : List Nat) : ∀ z ∈ names (l.map sig), ∀ c ∈ z, c < 0x110000 := fun z hz c hc => by
  obtain ⟨y, _, rfl⟩ := List.mem_map.mp (((names_in _ (l.map sig) (Nat.le_refl _)).2 z hz).2 c hc)
  exact Nat.lt_trans sig_lt (by decide)
theorem sig_ok (x : List Nat) : ∀ c ∈ x.map sig, c < 0x110000 := fun c hc => by
  obtain ⟨y, _, rfl⟩ := List.mem_map.mp hc
  exact Nat.lt_trans sig_lt (by decide)
theorem News.ne_fields {h₀ h : Heap} {L a b : Addr} {nw : List (Addr × Obj)} {o q : Obj} {v : Option Value} {vs : Array Value} (N : News h₀ L h nw) (h1 : (a, q) ∈ nw) (h2 : (b, o) ∈ nw) (e : q.data = .fields vs) (d : o.data = .cell v) : @Ne Addr a b := fun e2 => by
  subst e2
  have := (N _ h1).1.symm.trans (N _ h2).1
  cases this
  rw [e] at d
  cases d
theorem News.ne_list {h₀ h : Heap} {L a b : Addr} {nw : List (Addr × Obj)} {o : Obj} {us vs : Array Value} {k : Nat} (N : News h₀ L h nw) (h1 : (a, listOf us k) ∈ nw) (h2 : (b, o) ∈ nw) (d : o.data = .fields vs) : @Ne Addr a b := fun e2 => by
  subst e2
  have := (N _ h1).1.symm.trans (N _ h2).1
  cases this
  cases d
set_option maxHeartbeats 4000000 in
theorem lawT (w : World) (L fa : Addr) (cd : Value) (l : List Nat) (hz : l.length ≤ 27) (hl : ∀ c ∈ l, Lt c) (hm : 65 ∈ hk l) (Dn nk : Nat) (nv : List Value) (hnv : StrsAre nv ((names (l.map sig)).map tx)) (u1 u2 u3 u4 u5 : Tok)
    (hL : 107 < L) (oR : Obj) (vR : Option Value) (dR : oR.data = .cell vR) (n1 : @Ne Addr Dn (L + 1 + 1)) (n2 : @Ne Addr Dn 107) :
    ∀ {p : Program} {loose : List Str} {mean : ExcName → Option Value} {mg mb : Str → Option Value} {g : Heap} {m : Str → Option Value} {s : Shared} {R1 : Value → Shared → Prop} {Q : Flow → Shared → Prop}
   (_ : Below callerA g [] g) (_ : (hd.heap_39 w.params).In g) (_ : Top p loose mean mg mb g) (_ : Fr g L s.heap (frmLaw l Dn u1 u2 u3 u4 u5 m))
   (_ : News g L s.heap [(Dn, listOf nv.toArray nk), (L + 1 + 1, oR), (107, tabObj #[])]) (_ : LawQ g L Q s),
   wpAny (model row.prog w) (callerA.deeper (lawEnv L fa cd)) (execs (lawBody 7) (lawEnv L fa cd)) Q (lawErr w L fa cd R1) s := by
  k_fill
  intro p loose mean mg mb g m s R1 Q B X T F N hQ
  unfold lawErr
  unfold lawEnv
  generalize hsc : lawScope = sc
  generalize hb : lawBody 7 = b
  conv at hsc => lhs; whnf
  conv at hb => lhs; whnf
  subst hsc
  subst hb
  have hnl := hnv.length
  obtain ⟨hna, hnb⟩ := names_in _ (l.map sig) (Nat.le_refl _)
  rw [List.length_map] at hna hnb
  rw [List.length_map] at hnl
  have hx1 : ((markedR l).map sig).length ≤ 400 := by rw [List.length_map]; exact exch_len hz _ (.tail _ (.head _))
  have hx2 : ((bareR l).map sig).length ≤ 400 := by rw [List.length_map]; exact exch_len hz _ (.tail _ (.tail _ (.head _)))
  have nL : @Ne Addr (L + 1 + 1) 107 := fun (e : (_ : Nat) = _) => by (first | lia | omega)
  k_steps
  refine unhold ?_
  refine' Does.use (tells w ((markedR l).map sig) _ (by (first | lia | omega)) [(107, tabObj #[])] Good0 (reader_T w _ _ (by (first | lia | omega))) (names (l.map sig)) nv Dn nk ?hD ?h107 hnv (by (first | lia | omega)) (marked_ok l hl) (sig_ok _) (names_ok l)) ?B ?F ?X ?N ?T ?hk ?hd ?hu ?hp ?hr ?_
  case hD => intro q hq; rw [List.mem_singleton.mp hq]; exact Ne.symm n2
  case h107 => exact ⟨_, .head _⟩
  walk_at "m args"
  intro n0 v post h' tk' l0 hP F' N'
  obtain ⟨e, R, q9, hG, hR1, e2⟩ := hP
  subst e
  subst e2
  obtain ⟨hoc, hq, lc, e⟩ := hG
  subst e
  clear l0
  dsimp only [List.cons_append, List.nil_append] at N'
  generalize R.oc = oc at hoc N'
  generalize R.rc = rc at hR1 N'
  generalize R.t 7 = tq at hq
  generalize R.vs = cvs at hoc hq
  have n4 : @Ne Addr rc (L + 1 + 1) := News.ne_fields N' (by k_mem) (by k_mem) hoc dR
  have n5 : @Ne Addr Dn rc := News.ne_list N' (by k_mem) (by k_mem) hoc
  k_steps
  refine unhold ?_
  k_dflt refine compQ pNe (VF id) (F₀ := by k_asm) (by rfl) (by decide) (by rfl) (by decide) (by rfl) ?_
  k_steps
  refine unhold ⟨Dn, nv.toArray, nk, _, rfl, rfl, F', N', by k_mem, ?sz, ?ts, ?tn, ?fin⟩
  case sz => size_fits
  case ts =>
    intro C i v oC m₂ s₃ E' hP hO hx F3 N3 hk3
    obtain ⟨u, hi, e⟩ := txs_at hnv (by simpa using hP)
    subst e
    obtain ⟨h3, g3, d3, tk3, o3⟩ := s₃
    generalize (names (l.map sig)).getD i [] = x at hx
    dsimp only at F3 N3 hk3
    refine wpAny_tests_one ?_
    clear F N F' N' hP
    k_steps
    exact unhold ⟨rfl, _, _, rfl, fun _ _ e => e⟩
  case tn =>
    intro C i v oC m₂ s₃ E' hP _ hO hx F3 N3 hk3
    obtain ⟨u, hi, e⟩ := txs_at hnv (by simpa using hP)
    subst e
    obtain ⟨h3, g3, d3, tk3, o3⟩ := s₃
    generalize (names (l.map sig)).getD i [] = x at hx
    dsimp only at F3 N3 hk3
    clear F N F' N' hP
    k_steps
    refine unhold ⟨fun y t e => ?_, _, _, rfl, fun _ _ e => e⟩
    cases tx_of_eq e
    exact ⟨_, rfl⟩
  case fin =>
    intro D ys n h tk F5 N5 o5 hP
    have hys := nonempty hnv hP
    simp only [LCg.Off1, and_true] at o5
    obtain ⟨a1, a2, a3, a4⟩ := o5
    have hyl := hys.length
    have hfl := List.length_filter_le (fun x : List Nat => decide (x ≠ [])) (names (l.map sig))
    rw [List.length_map] at hyl
    clear F N F' N' hP
    k_steps
    refine unhold ?_
    refine' Does.use (tells w ((bareR l).map sig) _ (by (first | lia | omega)) [(rc, oc), (107, tabObj (lawTab rc lc))] (Good1 rc lc oc) (reader_T1 w _ _ (by (first | lia | omega)) rc lc oc cvs tq hoc hq hR1) ((names (l.map sig)).filter fun x => x ≠ []) ys D n ?hD ?h107 hys (by (first | lia | omega)) (bare_ok l hl) (sig_ok _) ?ok) ?B ?F ?X ?N ?T ?hk ?hd ?hu ?hp ?hr ?_
    case hD =>
      intro q hq
      rcases List.mem_cons.mp hq with rfl | hq
      · exact a2
      · rw [List.mem_singleton.mp hq]; exact a3
    case h107 => exact ⟨_, .tail _ (.head _)⟩
    case ok => exact fun z hz => names_ok l z (List.mem_filter.mp hz).1
    walk_at "m args"
    intro n0 v post h' tk' l0 hP F' N'
    obtain ⟨e, R, q9, ⟨e3, e4, e5⟩, hR2, e2⟩ := hP
    subst e
    subst e2
    subst e5
    rw [e3, e4] at N'
    clear l0
    dsimp only [List.cons_append, List.nil_append] at N'
    k_steps
    refine unhold ?_
    rename Fr _ _ _ _ => F8
    rename News _ _ _ _ => N8
    obtain ⟨mU, eU⟩ := frmLaw_U (l := l) (Dn := Dn) (u1 := u1) (u2 := u2) (u3 := u3) (u4 := u4) (u5 := u5) (m := m)
    rw [eU] at F8
    refine' lawU w L fa cd _ _ _ _ _ (back_is l (by (first | lia | omega)) ?bz hl hm) u1 u4 u5 hL oR vR dR rc lc oc cvs tq hoc hq hR1 n4 ?B ?X ?T (m := mU) F8 ?N ?Q
    case B => k_asm
    case X => k_asm
    case T => k_asm
    case bz => exact exch_len hz _ (.tail _ (.tail _ (.tail _ (.head _))))
    case N => exact fun p hp => N8 p (by revert p hp; kxw_bool)
    case Q => exact hQ

end
section
theorem startLawJ2 : True := by
  w_top off
  k_with "LawJ2 0" => ((with_reducible show wpAny _ _ (execs (Stmt.If (Expr.BoolOp _ _ _) _ _ _ :: _) _) _ _ _); refine hold ?_)
  k_with "LawJ2 1" => (simp only [PySem.sizeLine_eq, Str.length_append, tx_len, List.size_toArray, List.length_append, List.length_cons, List.length_nil, show (Str.ofString "\"").length = 1 from by decide +kernel]; (first | lia | omega))
  trivial
local macro_rules | `(tactic| walk_at "zz none") => `(tactic| fail "zz none")
local macro_rules | `(tactic| walk_at "zz none") => `(tactic| fail "zz none")
local macro_rules | `(tactic| walk_at "zz none") => `(tactic| fail "zz none")
local macro_rules | `(tactic| walk_at "zz none") => `(tactic| fail "zz none")
local macro_rules | `(tactic| walk_at "call ref") => `(tactic| refine hold ?_)
local macro_rules | `(tactic| walk_at "eval ListComp") => `(tactic| refine hold ?_)
local macro_rules | `(tactic| walk_at "call builtin:str.join") => `(tactic| refine hold ?_)
local macro_rules | `(tactic| walk_at "call builtin:str.replace") => `(tactic| refine hold ?_)
local macro_rules | `(tactic| walk_at "compareOp NotIn str ref") => `(tactic| refine hold ?_)
local macro_rules | `(tactic| walk_at "execs cons") => `(tactic| k_extra "LawJ2 0")
local macro_rules | `(tactic| size_fits) => `(tactic| k_extra "LawJ2 1")
theorem Fr.of_eq4 {h₀ h : Heap} {L : Addr} {m m' : Str → Option Value} (F : Fr h₀ L h m) (e : m = m') : Fr h₀ L h m' := e ▸ F
theorem frmLaw_joined {l : List Nat} {Dn : Nat} {u1 u2 u3 u4 u5 : Tok} {m : Str → Option Value} {v : Value} : (fun y => if y = Str.ofString "joined" then some v else frmLaw l Dn u1 u2 u3 u4 u5 m y) = frmLaw l Dn u1 u2 u3 u4 u5 (fun y => if y = Str.ofString "joined" then some v else m y) := by
  funext y
  by_cases h : y = Str.ofString "joined"
  · subst h; rfl
  · simp only [frmLaw, if_neg h]
theorem lit_q : LitZ (Str.ofString "\"") ([34] : List Nat) 1 := ⟨by decide +kernel, by decide, by decide⟩
theorem lit_qq : LitZ (Str.ofString "\"\"") ([34, 34] : List Nat) 2 := ⟨by decide +kernel, by decide, by decide⟩
set_option maxHeartbeats 4000000 in
theorem lawJ (w : World) (L fa : Addr) (cd : Value) (l : List Nat) (hz : l.length ≤ 27) (hl : ∀ c ∈ l, Lt c) (hm : 65 ∈ hk l) (Dn nk : Nat) (nv : List Value) (hnv : StrsAre nv ((names (l.map sig)).map tx)) (u1 u2 u3 u4 u5 : Tok)
    (hL : 107 < L) (oR : Obj) (vR : Option Value) (dR : oR.data = .cell vR) (n1 : @Ne Addr Dn (L + 1 + 1)) (n2 : @Ne Addr Dn 107) :
    ∀ {p : Program} {loose : List Str} {mean : ExcName → Option Value} {mg mb : Str → Option Value} {g : Heap} {m : Str → Option Value} {s : Shared} {R1 : Value → Shared → Prop} {Q : Flow → Shared → Prop}
   (_ : Below callerA g [] g) (_ : (hd.heap_39 w.params).In g) (_ : Top p loose mean mg mb g) (_ : Fr g L s.heap (frmLaw l Dn u1 u2 u3 u4 u5 m))
   (_ : News g L s.heap [(Dn, listOf nv.toArray nk), (L + 1 + 1, oR), (107, tabObj #[])]) (_ : LawQ g L Q s),
   wpAny (model row.prog w) (callerA.deeper (lawEnv L fa cd)) (execs (lawBody 5) (lawEnv L fa cd)) Q (lawErr w L fa cd R1) s := by
  k_fill
  intro p loose mean mg mb g m s R1 Q B X T F N hQ
  unfold lawErr
  unfold lawEnv
  generalize hsc : lawScope = sc
  generalize hb : lawBody 5 = b
  conv at hsc => lhs; whnf
  conv at hb => lhs; whnf
  subst hsc
  subst hb
  k_steps
  refine unhold ?_
  k_dflt refine compQ (fun _ => true) (VF esc) (F₀ := by k_asm) (by rfl) (by decide) (by rfl) (by decide) (by rfl) ?_
  k_steps
  have hnl := hnv.length
  obtain ⟨hna, hnb⟩ := names_in _ (l.map sig) (Nat.le_refl _)
  rw [List.length_map] at hna hnb
  rw [List.length_map] at hnl
  refine unhold ⟨Dn, nv.toArray, nk, _, rfl, rfl, F, N, by k_mem, ?sz, ?ts, ?tn, ?fin⟩
  case sz => size_fits
  case ts =>
    intro C i v oC m₂ s₃ E' hP hO hx F3 N3 hk3
    exact wpAny_tests_nil (unhold ⟨rfl, _, _, rfl, fun _ _ e => e⟩)
  case tn =>
    intro C i v oC m₂ s₃ E' hP _ hO hx F3 N3 hk3
    obtain ⟨u, hi, e⟩ := txs_at hnv (by simpa using hP)
    subst e
    obtain ⟨h3, g3, d3, tk3, o3⟩ := s₃
    have hxl := (hnb _ (getD_mem hi)).1
    generalize (names (l.map sig)).getD i [] = x at hx hxl
    dsimp only at F3 N3 hk3
    k_steps
    refine unhold ?_
    refine' repT lit_q lit_qq (N := 27) ?hx1 (by decide) ?hu ?hv ?huv ?hyz (by decide) (by decide) ?_
    case hx1 => (first | lia | omega)
    case hu => (first | lia | omega)
    case hv => (first | lia | omega)
    case huv => (first | lia | omega)
    case hyz => decide +kernel
    intro t9 tk9 _ _
    refine unhold ⟨fun y t e => ?_, _, _, rfl, fun _ _ e => e⟩
    cases tx_of_eq e
    exact ⟨_, rfl⟩
  case fin =>
    intro D ys n h tk F5 N5 o5 hP
    have hys := escaped hnv hP
    k_steps
    refine unhold ?_
    refine' join_list (items := ys.toArray) (ys := ((names (l.map sig)).map esc).map tx) (News.isList N5 (.head _)) ?sa ?z ?_
    case sa => simpa using hys
    case z => exact esc_join_sz (by rw [List.length_map]; exact hz) (by decide +kernel)
    intro t9 tk9
    rw [joinQ_tx]
    have hjn := in_joined l hl
    have hJ : (joinQ ((names (l.map sig)).map esc)).length ≤ 400 := by
      rcases plain_joined l hl with e | e
      · have := congrArg List.length e
        rw [List.length_map] at this; (first | lia | omega)
      · have := congrArg List.length e
        rw [List.length_map, List.length_append] at this; (first | lia | omega)
    generalize joinQ ((names (l.map sig)).map esc) = J at hjn hJ
    clear hP hys
    k_steps
    refine unhold ?_
    rename News _ _ _ _ => N7
    refine' notin_list_strs (vs := [_, _]) (News.isList N7 (.head _)) (.cons _ _ (.cons _ _ .nil)) ?_
    rw [hjn]
    k_steps
    refine unhold ?_
    rename Fr _ _ _ _ => F8
    refine' lawT w L fa cd l hz hl hm Dn nk nv hnv u1 u2 u3 u4 u5 hL oR vR dR n1 n2 ?B ?X ?T (m := _) (Fr.of_eq4 F8 (frmLaw_joined (v := _))) ?N ?Q
    case B => k_asm
    case X => k_asm
    case T => k_asm
    case N => exact fun p hp => N7 p (.tail _ (.tail _ hp))
    case Q => exact hQ

end
section
theorem startLawB2 : True := by
  w_top off
  k_with "LawB2 0" => ((with_reducible show wpAny _ _ (pyIter _) (fun it s₂ => WalkSrc _ _ _ _ _ _ _ _ _ _ _ _ it s₂) _ _); refine hold ?_)
  k_with "LawB2 1" => (simp only [PySem.sizeLine_eq, Str.length_append, tx_len, show (Str.ofString "P").length = 1 from by decide +kernel, List.length_append, List.length_cons, List.length_nil]; (first | lia | omega))
  k_with "LawB2 2" => ((with_reducible show wpAny _ _ (subscriptTail _ _ (Value.ref _) (Value.int _ _)) _ _ _); refine hold ?_)
  k_with "LawB2 3" => ((with_reducible show wpAny _ _ (execs (Stmt.Assign [Expr.Name (Str.ofString "joined") _] _ _ :: _) _) _ _ _); refine hold ?_)
  trivial
local macro_rules | `(tactic| walk_at "call ref") => `(tactic| refine hold ?_)
local macro_rules | `(tactic| walk_at "exec Assign cons ListComp") => `(tactic| refine hold ?_)
local macro_rules | `(tactic| walk_at "eval ListComp") => `(tactic| refine hold ?_)
local macro_rules | `(tactic| walk_at "compareOp NotEq ref ref") => `(tactic| refine hold ?_)
local macro_rules | `(tactic| walk_at "pyIter ref") => `(tactic| k_extra "LawB2 0")
local macro_rules | `(tactic| walk_at "call builtin:str.join") => `(tactic| refine hold ?_)
local macro_rules | `(tactic| size_fits) => `(tactic| k_extra "LawB2 1")
local macro_rules | `(tactic| walk_at "subscriptTail") => `(tactic| k_extra "LawB2 2")
local macro_rules | `(tactic| walk_at "execs cons Assign cons") => `(tactic| k_extra "LawB2 3")
set_option maxHeartbeats 4000000 in
theorem lawB (w : World) (fa : Addr) (cd : Value) (l : List Nat) (hz : l.length ≤ 27) (hl : ∀ c ∈ l, Lt c) (hm : 65 ∈ hk l) (ys : List Value) (hys : StrsAre ys ((exch l).map tx))
    (D nn L : Nat) (hL : 107 < L) (oW oR : Obj) (dW : oW.data = .cell (some (.ref D))) (vR : Option Value) (dR : oR.data = .cell vR) (n1 : D ≠ L + 1 + 1) (n2 : D ≠ L + 1) (n3 : D ≠ 107) :
    ∀ {p : Program} {loose : List Str} {mean : ExcName → Option Value} {mg mb : Str → Option Value} {g : Heap} {m : Str → Option Value} {s : Shared} {R1 : Value → Shared → Prop} {Q : Flow → Shared → Prop}
   (_ : Below callerA g [] g) (_ : (hd.heap_39 w.params).In g) (_ : Top p loose mean mg mb g) (_ : Fr g L s.heap m)
   (_ : News g L s.heap [(D, listOf ys.toArray nn), (L + 1 + 1, oR), (L + 1, oW), (107, tabObj #[])])
   (_ : ∀ h' tk m' nw qs, Fr g L h' m' → News g L h' nw → (107, tabObj qs) ∈ nw → Q (.ret (.bool true)) { s with heap := h', toks := tk }),
   wpAny (model row.prog w) (callerA.deeper (lawEnv L fa cd)) (execs (lawBody 1) (lawEnv L fa cd)) Q (lawErr w L fa cd R1) s := by
  k_fill
  intro p loose mean mg mb g m s R1 Q B X T F N hQ
  unfold lawErr
  unfold lawEnv
  generalize hsc : lawScope = sc
  generalize hb : lawBody 1 = b
  conv at hsc => lhs; whnf
  conv at hb => lhs; whnf
  subst hsc
  subst hb
  k_steps
  refine unhold ?_
  k_dflt refine Assign_X (F₀ := by k_asm) (by rfl) (by rfl) (by rfl) (by decide) (by rfl) (by decide) (by rfl) (by rfl) (by rfl) ?_
  k_steps
  refine unhold ?_
  rename IsRange _ _ _ _ _ _ _ _ => R9
  refine' WalkSrc.range (n := 5) rfl ?F ?N R9 (by decide) (by decide) ?sz ?kk
  case F => k_asm
  case N => k_asm
  case sz => simp only [PySem.sizeLine_eq]; (first | lia | omega)
  case kk =>
    intro g4
    clear R9
    refine compRestC (fun i ys2 => StrsAre ys2 (((exch l).take i).map fun x => tx (80 :: x))) ?j2 ?turn2 ?fin2
    case j2 => exact .nil
    case turn2 =>
      intro i4 ys4 hi4 hJ4 v4 I4 oI4 C4 oC4 D4 m₄ h4 tk4 E4 hP4 hC4 hx4 F4 N4 off4 ne4
      obtain ⟨t, e⟩ := hP4
      subst e
      rw [Int.zero_add] at hx4
      have hi5 : i4 < (exch l).length := hi4
      have hx : (exch l).getD i4 [] ∈ exch l := getD_mem hi5
      have hx1 := exch_len hz _ hx
      have hx2 := exch_lt hl _ hx
      k_steps
      refine unhold ?_
      refine' item_txs (exch l) ?N ?m hys rfl (Int.natCast_nonneg i4) (Int.ofNat_lt.mpr hi5) (by decide : 5 ≤ 1000) ?_
      case N => k_asm
      case m => k_mem
      intro t9
      rw [show (i4 : Int).toNat = i4 from rfl]
      have htk := take_tx (xs := exch l) hi5
      generalize (exch l).getD i4 [] = x at hx hx1 hx2 htk
      k_steps
      refine unhold ?_
      rw [fmod2]
      refine' Does.use (written w x _ (i4 % 2) _ hx1 hx2 (Nat.mod_lt _ (by decide))) ?B ?F ?X ?N ?T ?hk ?hd ?hu ?hp ?hr ?_
      walk_at "m args"
      intro n0 v post h' tk' l0 hP F' N'
      obtain ⟨⟨t8, e⟩, e2⟩ := hP
      subst e
      subst e2
      clear l0
      dsimp only [List.nil_append] at N'
      refine LCg.CompEnd.intro F' N' _ (by kxw_bool) off4 trivial (unhold ⟨rfl, ?_⟩)
      rw [htk, List.map_append]
      exact strsAre_append hJ4 (.cons _ _ .nil)
    case fin2 =>
      intro wv hwv
      rw [List.take_of_length_le (Nat.le_refl 5)] at hwv
      intro dw h5 tk5 F5 N5 hm5
      k_steps
      refine unhold ?_
      k_dflt refine ListComp_X (F₀ := by k_asm) (by rfl) (by decide) (by rfl) (by decide) (by rfl) ?_
      k_steps
      refine unhold ?_
      have hysl : ys.length = 5 := by rw [hys.length]; rfl
      refine' WalkSrc.list (its := ys.toArray) (k := nn) rfl ?F ?N ?hm ?hz ?R
      case F => k_asm
      case N => k_asm
      case hm => k_mem
      case hz => simp only [PySem.sizeLine_eq, List.size_toArray]; (first | lia | omega)
      case R =>
        intro g5
        rw [List.size_toArray, hysl]
        refine compRestC (fun i ys2 => StrsAre ys2 (((exch l).take i).map fun x => tx (80 :: x))) ?j3 ?turn3 ?fin3
        case j3 => exact .nil
        case turn3 =>
          intro i4 ys4 hi4 hJ4 v4 I4 oI4 C4 oC4 D4 m₄ h4 tk4 E4 hP4 hC4 hx4 F4 N4 off4 ne4
          obtain ⟨u, hi5, e⟩ := txs_at hys (by simpa using hP4)
          subst e
          have hx := exch_len hz _ (getD_mem hi5)
          have htk := take_tx (xs := exch l) hi5
          generalize (exch l).getD i4 [] = x at hx htk hx4
          clear hP4
          k_steps
          refine LCg.CompEnd.intro F4 N4 _ (fun p h => h) off4 ⟨_, by k_mem⟩ (unhold ⟨rfl, ?_⟩)
          rw [htk, List.map_append, txP]
          exact strsAre_append hJ4 (.cons _ _ .nil)
        case fin3 =>
          intro wv2 hwv2
          rw [List.take_of_length_le (Nat.le_refl 5)] at hwv2
          intro dx h6 tk6 F6 N6 hm6
          k_steps
          refine unhold ?_
          refine' ne_strs (xs := wv) (ys := wv2) ?N ?ma ?mb (ns := (exch l).map fun x => tx (80 :: x)) (ms := (exch l).map fun x => tx (80 :: x)) hwv hwv2 ?o1 ?o1 ?hu ?_
          case N => k_asm
          case ma => k_dflt k_mem
          case mb => k_dflt k_mem
          case o1 =>
            intro z hz2
            obtain ⟨y, hy, rfl⟩ := List.mem_map.mp hz2
            refine ok_tx fun c hc => ?_
            rcases List.mem_cons.mp hc with rfl | hc
            · decide
            · have := (exch_lt hl y hy c hc).2; (first | lia | omega)
          case hu => ktr_units
          rw [decide_eq_true rfl]
          k_steps
          refine unhold ?_
          k_dflt walk_at "exec Assign"
          k_steps
          refine unhold ?_
          k_dflt refine ListComp_X (F₀ := by k_asm) (by rfl) (by decide) (by rfl) (by decide) (by rfl) ?_
          k_steps
          refine unhold ?_
          have hwvl : wv.length = 5 := by rw [hwv.length]; rfl
          refine' WalkSrc.list (its := wv.toArray) (k := _) rfl ?F ?N ?hm ?hz ?R
          case F => k_asm
          case N => k_asm
          case hm => k_mem
          case hz => simp only [PySem.sizeLine_eq, List.size_toArray]; (first | lia | omega)
          case R =>
            intro g7
            rw [List.size_toArray, hwvl]
            refine compRestC (fun i ys2 => StrsAre ys2 (((exch l).take i).map fun x => tx (x.map sig))) ?j4 ?turn4 ?fin4
            case j4 => exact .nil
            case turn4 =>
              intro i4 ys4 hi4 hJ4 v4 I4 oI4 C4 oC4 D4 m₄ h4 tk4 E4 hP4 hC4 hx4 F4 N4 off4 ne4
              obtain ⟨u, _, e⟩ := txs_at (xs := (exch l).map fun x => 80 :: x) (by rw [List.map_map]; exact hwv) (by simpa using hP4)
              have hi5 : i4 < (exch l).length := hi4
              have hg : ((exch l).map fun x => 80 :: x).getD i4 [] = 80 :: (exch l).getD i4 [] := by simp [List.getD, hi5]
              rw [hg] at e
              subst e
              have hxm := getD_mem hi5
              have hx1 := exch_len hz _ hxm
              have hx2 := exch_lt hl _ hxm
              have htk := take_tx (xs := exch l) hi5
              generalize (exch l).getD i4 [] = x at hx1 hx2 htk hx4
              clear hP4 hg hxm
              k_steps
              refine unhold ?_
              refine' Does.use (signed w x _ hx1 hx2) ?B ?F ?X ?N ?T ?hk ?hd ?hu ?hp ?hr ?_
              walk_at "m args"
              intro n0 v post h' tk' l0 hP F' N'
              obtain ⟨⟨t8, e⟩, e2⟩ := hP
              subst e
              subst e2
              clear l0
              dsimp only [List.nil_append] at N'
              refine LCg.CompEnd.intro F' N' _ (by kxw_bool) off4 ⟨_, by k_mem⟩ (unhold ⟨rfl, ?_⟩)
              rw [htk, List.map_append]
              exact strsAre_append hJ4 (.cons _ _ .nil)
            case fin4 =>
              intro sv hsv
              rw [List.take_of_length_le (Nat.le_refl 5)] at hsv
              obtain ⟨u1, r1, e1, hs1⟩ := strs_of_cons hsv
              obtain ⟨u2, r2, e2, hs2⟩ := strs_of_cons hs1
              obtain ⟨u3, r3, e3, hs3⟩ := strs_of_cons hs2
              obtain ⟨u4, r4, e4, hs4⟩ := strs_of_cons hs3
              obtain ⟨u5, r5, e5, hs5⟩ := strs_of_cons hs4
              have e6 := strs_of_nil hs5
              subst e6
              subst e5
              subst e4
              subst e3
              subst e2
              subst e1
              intro ds h6 tk6 F6 N6 hm6
              k_steps
              refine unhold ?_
              have hll : (l.map sig).length ≤ 400 := by rw [List.length_map]; (first | lia | omega)
              refine' Does.use (named w (l.map sig) _ hll) ?B ?F ?X ?N ?T ?hk ?hd ?hu ?hp ?hr ?_
              walk_at "m args"
              intro n0 v post h' tk' l0 hP F' N'
              obtain ⟨Dn, nv, nk, hnv, e, e2⟩ := hP
              subst e
              subst e2
              dsimp only [List.cons_append, List.nil_append] at N'
              k_steps
              refine unhold ?_
              rename Fr _ _ _ _ => F9
              rename News _ _ _ _ => N9
              refine' lawJ w L fa cd l hz hl hm Dn nk nv hnv u1 u2 u3 u4 u5 hL oR vR dR ?n1 ?n2 ?B ?X ?T (m := _) F9 ?N ?Q
              case B => k_asm
              case X => k_asm
              case T => k_asm
              case n1 => exact News.ne_cell N9 (by k_mem) (by k_mem) dR
              case n2 => exact News.ne_tab N9 (by k_mem) (by k_mem)
              case N => exact fun p hp => N9 p (by revert p hp; kxw_bool)
              case Q => exact hQ

end
section
theorem startLaw2 : True := by
  w_top off
  k_with "Law2 0" => ((with_reducible show wpAny _ _ (call (Value.ref 136) _) _ _ _); k_dflt (refine wpAny_call ?_; k_enter))
  k_with "Law2 1" => ((with_reducible show wpAny _ _ (execs (Stmt.Assign [Expr.Name (Str.ofString "words") _] _ _ :: _) _) _ _ _); refine hold ?_)
  k_with "Law2 2" => ((with_reducible show wpAny _ _ (pyIter _) (fun it s₂ => WalkSrc _ _ _ _ _ _ _ _ _ _ _ _ it s₂) _ _); refine hold ?_)
  k_with "Law2 3" => (simp only [PySem.sizeLine_eq, Str.length_append, tx_len, sgn_len, len_empty, List.length_append, List.length_cons, List.length_nil, List.length_take, List.length_drop, show (Str.ofString "JBAIBBAACAADBAA").length = 15 from by decide +kernel]; (first | lia | omega))
  trivial
local macro_rules | `(tactic| walk_at "call ref") => `(tactic| refine hold ?_)
local macro_rules | `(tactic| walk_at "call ref") => `(tactic| k_extra "Law2 0")
local macro_rules | `(tactic| walk_at "exec Assign cons ListComp") => `(tactic| refine hold ?_)
local macro_rules | `(tactic| walk_at "execs cons Assign cons") => `(tactic| k_extra "Law2 1")
local macro_rules | `(tactic| walk_at "eval ListComp") => `(tactic| refine hold ?_)
local macro_rules | `(tactic| walk_at "pyIter ref") => `(tactic| k_extra "Law2 2")
local macro_rules | `(tactic| walk_at "call builtin:str.join") => `(tactic| refine hold ?_)
theorem pick_int {vs : List Value} {ns : List Int} (h : IntsAre vs ns) {lo hi st : Option Int} {j : Nat} {v : Value} (e : (slicePick vs.toArray lo hi st)[j]? = some v) : ∃ z u, v = .int z u := by
  have hm := Array.mem_of_getElem? e
  unfold slicePick at hm
  simp only [List.mem_toArray, List.mem_filterMap] at hm
  obtain ⟨a, _, ha⟩ := hm
  have ha' : vs[a]? = some v := by simpa using ha
  obtain ⟨z, u, _, e⟩ := ints_at h ha'
  exact ⟨z, u, e⟩
theorem item_row : ∀ m : Nat, m < 16 → Lt ([65, 65, 65, 65, 65, 66, 66, 66, 67, 68, 69, 70, 71, 72, 73, 80].getD m 0) ∧ Txt.item (Str.ofString "AAAAABBBCDEFGHIP") (m : Int) = sgn ([65, 65, 65, 65, 65, 66, 66, 66, 67, 68, 69, 70, 71, 72, 73, 80].getD m 0) := by
  unfold Lt
  decide +kernel
theorem item_row' {z : Int} (h : 0 ≤ z ∧ z < 16) : ∃ c, Lt c ∧ Txt.item (Str.ofString "AAAAABBBCDEFGHIP") z = sgn c := by
  have e : ((z.toNat : Nat) : Int) = z := Int.toNat_of_nonneg h.1
  have := item_row z.toNat (by (first | lia | omega))
  rw [e] at this
  exact ⟨_, this⟩
theorem midR_lt : ∀ c ∈ midR, Lt c := by
  unfold Lt
  decide
theorem strs_take {vs : List Value} {ns : List Str} (h : StrsAre vs ns) : ∀ k, StrsAre (vs.take k) (ns.take k) := by
  induction h with
  | nil => intro k; rw [List.take_nil, List.take_nil]; exact .nil
  | cons y t _ ih => intro k; cases k with
    | zero => exact .nil
    | succ k => exact .cons y t (ih k)
theorem strs_drop {vs : List Value} {ns : List Str} (h : StrsAre vs ns) : ∀ k, StrsAre (vs.drop k) (ns.drop k) := by
  induction h with
  | nil => intro k; rw [List.drop_nil, List.drop_nil]; exact .nil
  | cons y t h ih => intro k; cases k with
    | zero => exact .cons y t h
    | succ k => exact ih k
local macro_rules | `(tactic| size_fits) => `(tactic| k_extra "Law2 3")
set_option maxHeartbeats 8000000
theorem lawtop : PySem.Challenge.rw_xe0009_02.Holds := hd (by
  k_go0
  all_goals try k_fold
  k_steps
  refine unhold ?_
  rename IntsAre _ _ => hscr
  k_dflt refine Assign_X (F₀ := by k_asm) (by rfl) (by rfl) (by rfl) (by decide) (by rfl) (by decide) (by rfl) (by rfl) (by rfl) ?_
  k_steps
  refine unhold ?_
  rename IntsAre _ (List.take 12 _) => hI9
  have hI8 := hI9.length
  rename (List.take 12 _).length = _ => hC9
  refine' WalkSrc.list (its := List.toArray _) (k := 0) rfl ?F ?N ?hm ?hz ?R
  case F => k_asm
  case N => k_asm
  case hm => k_mem
  case hz =>
    simp only [PySem.sizeLine_eq, List.size_toArray]
    (first | lia | omega)
  case R =>
    intro g3
    refine compRestC (fun i ys => ∃ l : List Nat, StrsAre ys (l.map sgn) ∧ l.length = i ∧ ∀ c ∈ l, Lt c) ?j1 ?turn1 ?fin1
    case j1 => exact ⟨[], .nil, rfl, fun _ h => by cases h⟩
    case turn1 =>
      intro i2 ys2 hi2 hJ2 v2 I2 oI2 C2 oC2 D2 m₃ h3 tk3 E3 hP2 hC2 hx2 F2 N2 off2 ne2
      obtain ⟨l, hl, hll, hlt⟩ := hJ2
      obtain ⟨z, u, _, e⟩ := ints_at hI9 (by simpa using hP2)
      subst e
      have hf := fmod_lt z (b := 16) (by decide)
      obtain ⟨c, hc, ec⟩ := item_row' hf
      k_steps
      refine LCg.CompEnd.intro F2 N2 _ (fun p h => h) off2 ⟨_, by k_mem⟩ (unhold ⟨rfl, l ++ [c], ?_, ?_, ?_⟩)
      · rw [List.map_append, ec]
        exact strs_app hl (.cons _ _ .nil)
      · rw [List.length_append, hll]; rfl
      · intro y hy
        rcases List.mem_append.mp hy with h | h
        · exact hlt y h
        · rw [List.mem_singleton.mp h]; exact hc
    case fin1 =>
      intro ys2 hJ2
      obtain ⟨l, hl, hll, hlt⟩ := hJ2
      intro D2 h3 tk3 F3 N3 hm3
      have hlen : l.length ≤ 12 := by rw [hll]; simp only [List.size_toArray]; (first | lia | omega)
      k_steps
      refine unhold ?_
      rename News _ _ _ _ => N6
      have e6 : slicePick ys2.toArray none (some 6) none = (ys2.take 6).toArray := by simpa using slicePick_upto' ys2.toArray 6
      rw [e6] at N6
      refine' join_list (items := (ys2.take 6).toArray) (ys := (l.take 6).map sgn) (News.isList N6 (.head _)) ?sa ?z ?_
      case sa => simpa using strs_take hl 6
      case z => exact join_sz _ (by rw [List.length_take]; (first | lia | omega))
      intro t9 tk9
      rw [join_signs]
      k_steps
      refine unhold ?_
      clear N6
      rename News _ _ _ _ => N6
      have e7 : slicePick ys2.toArray (some 6) none none = (ys2.drop 6).toArray := by simpa using slicePick_from' ys2.toArray 6
      rw [e7] at N6
      refine' join_list (items := (ys2.drop 6).toArray) (ys := (l.drop 6).map sgn) (News.isList N6 (.head _)) ?sa ?z ?_
      case sa => simpa using strs_drop hl 6
      case z => exact join_sz _ (by rw [List.length_drop]; (first | lia | omega))
      intro t8 tk8
      rw [join_signs]
      k_steps
      refine unhold ?_
      clear N6
      have erow : tx (l.take 6) ++ Str.ofString "JBAIBBAACAADBAA" ++ tx (l.drop 6) = tx (l.take 6 ++ midR ++ l.drop 6) := by
        rw [show Str.ofString "JBAIBBAACAADBAA" = tx midR by decide +kernel, tx_tx2, tx_tx2]
      rw [erow]
      have hrl : (l.take 6 ++ midR ++ l.drop 6).length ≤ 27 := by
        simp only [List.length_append, List.length_take, List.length_drop, show midR.length = 15 from rfl]
        (first | lia | omega)
      have hrt : ∀ c ∈ l.take 6 ++ midR ++ l.drop 6, Lt c := fun c hc => by
        rcases List.mem_append.mp hc with h | h
        · rcases List.mem_append.mp h with h | h
          · exact hlt c (List.mem_of_mem_take h)
          · exact midR_lt c h
        · exact hlt c (List.mem_of_mem_drop h)
      have hrm := hk_mid (l.take 6) (l.drop 6)
      generalize l.take 6 ++ midR ++ l.drop 6 = rw9 at hrl hrt hrm
      refine' Does.use (exchd _ rw9 _ hrl hrt hrm) ?B ?F ?X ?N ?T ?hk ?hd ?hu ?hp ?hr ?_
      walk_at "m args"
      intro n0 v post h' tk' l0 hP F' N'
      obtain ⟨D, ys, nn, hys, e, e2⟩ := hP
      subst e
      subst e2
      dsimp only [List.cons_append, List.nil_append] at N'
      have N9 : News _ _ _ [(D, listOf ys.toArray nn), (_, _), (_, _), (107, tabObj #[])] := fun p hp => N' p (by revert p hp; exact sub_cons (.head _) (sub_cons (.tail _ (.tail _ (.tail _ (.tail _ (.tail _ (.head _)))))) (sub_cons (.tail _ (.tail _ (.tail _ (.tail _ (.tail _ (.tail _ (.head _))))))) (sub_cons (.tail _ (.tail _ (.tail _ (.tail _ (.tail _ (.tail _ (.tail _ (.head _)))))))) sub_nil))))
      clear N' l0
      rename Obj.data _ = Data.cell _ => dW
      have n1 := News.ne_cell N9 (.head _) (.tail _ (.head _)) (by assumption)
      have n2 := News.ne_cell N9 (.head _) (.tail _ (.tail _ (.head _))) (by assumption)
      have n3 : @Ne Addr D 107 := News.ne_tab N9 (.head _) (.tail _ (.tail _ (.tail _ (.head _))))
      k_steps
      refine unhold ?_
      rename Fr _ _ _ _ => F9
      rename News _ _ _ _ => N9
      rename Obj.data _ = Data.cell (some (Value.ref D)) => dW9
      rename Below _ _ _ _ => B9
      rename Frag.In _ _ => X9
      rename ∀ P : Addr, P ∈ _ → Heap.get? _ P = some _ => hT8
      have hL := Heap.lt_size (hT8 107 (.head _))
      refine' lawB _ _ _ rw9 hrl hrt hrm ys hys D nn _ hL _ _ dW9 _ ?dR n1 n2 n3 ?B ?X ?T F9 N9 ?hQ
      case dR => assumption
      case B => k_asm
      case X => k_asm
      case T => k_asm
      case hQ =>
        intro h9 tk9 m9 nw9 qs F N hq
        clear F9 N9
        k_steps)

end
end
end Mine
theorem PySem.Challenge.cw_xe0009_02_holds : PySem.Challenge.rw_xe0009_02.Holds :=
  Mine.lawtop
