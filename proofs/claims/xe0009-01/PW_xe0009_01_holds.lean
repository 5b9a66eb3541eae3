import PyProof.Rows.All
import Wide.All
import OpenK.AllK
import Wide.FinOn
import PySem.Challenge.RW_xe0009_01
set_option Elab.async false
set_option maxRecDepth 100000
set_option compiler.extract_closed false
section
open PySem PySem.W PyProof.Rows
set_option maxHeartbeats 8000000

namespace Mine
/-- the text without the statements that bind no name of the law's -/
noncomputable def viewOf (p : Program) (ks : List Nat) : Program := { p with main := { p.main with body := ks.filterMap fun i => p.main.body[i]? } }
noncomputable abbrev view : Program := viewOf PySem.Challenge.pw_xe0009_01 [1, 2, 3, 5, 7, 9, 10, 11, 12, 13, 14, 15, 16, 17]
end Mine
local macro_rules | `(tactic| o_head $H) => `(tactic| (refine holds_open (q := Mine.view) (loose := []) (Xt := fun s => xlAt Mine.view [] s && recOk (RowW.records (OpenRow.toRowW (OpenLaw.row PySem.Challenge.rw_xe0009_01))) s) (XP := XL Mine.view []) (Yf := Hook.obs $H) (Ya := Hook.val $H) (YP := Hook.says $H) (N := 2344) ?hl (Hook.of $H) (Hook.keeps $H) (fun s e => xl_of s (Bool.and_eq_true_iff.mp e).1) XL.keeps (by rfl) (by rfl) (by rfl) (fun s e => recFacts_of (Bool.and_eq_true_iff.mp e).2) (by rfl) (by first | assumption | decide +kernel) (by decide +kernel) ⟨rfl, rfl, rfl, rfl, rfl, by decide +kernel⟩ ?hw ?hc; (case hl => (intro w; kernel_rfl))))
namespace Mine
open_top hd for PySem.Challenge.rw_xe0009_01
end Mine

end
open PySem PySem.W PyProof.Rows PySem.Calls PySem.Spec
namespace Mine
section


theorem eqN {a b : Nat} (h : a = b) : a = b := h
/-- what a call leaves: all but the entries of `pre` stands as it stood, and `post` is there -/
structure Kept (s s' : Shared) (pre post : List (Addr × Obj)) : Prop where
  form : ∃ tk, s' = { s with heap := s'.heap, toks := tk }
  keep : ∀ b o, s.heap.get? b = some o → b ∉ pre.map (·.1) → s'.heap.get? b = some o
  there : ∀ p ∈ post, s'.heap.get? p.1 = some p.2 ∧ (p.1 ∈ pre.map (·.1) ∨ s.heap.get? p.1 = none)

/-- the end of a def's body -/
noncomputable def Left (s : Shared) (g : Heap) (Post : Value → List (Addr × Obj) → Prop) (v : Value) (s' : Shared) : Prop :=
  ∃ L' m' news' post tk, s' = { s with heap := s'.heap, toks := tk } ∧ Fr g L' s'.heap m' ∧ News g L' s'.heap news' ∧ (∀ p ∈ post, p ∈ news') ∧ Post v post

theorem Left.intro {s : Shared} {g h' : Heap} {Post : Value → List (Addr × Obj) → Prop} {v : Value} {L' : Addr} {m' : Str → Option Value} {news' post : List (Addr × Obj)} {tk : Nat}
    (F : Fr g L' h' m') (N : News g L' h' news') (hp : ∀ p ∈ post, p ∈ news') (h : Post v post) : Left s g Post v { s with heap := h', toks := tk } :=
  ⟨L', m', news', post, tk, rfl, F, N, hp, h⟩

section
variable {prog : Program} {w : World} {A₀ A : Around} {s : Shared} {base h₀ : Heap} {outer : List Env} {L : Addr} {m : Str → Option Value} {env : Env} {pre : List (Addr × Obj)} {K : Frag}
  {R : Result → Shared → Prop} {name qual : Str} {params : Arguments} {body : List Stmt} {scope : Scope} {cl : List (Str × Addr)} {dV kV doc pm cdv ct : Value} {an : Option Addr} {fo : Obj} {f : Addr} {args : Args} {binds : List (Str × Value)}
  {Post : Nat → Value → List (Addr × Obj) → Prop}

theorem leftKept {Post : Value → List (Addr × Obj) → Prop} {g s' : _} {v : Value} (hg : g = hideAll s.heap (pre.map (·.1))) (hl : Left s g Post v s') : ∃ post, Post v post ∧ Kept s s' pre post := by
  obtain ⟨L', m', news', post, tk, e, F', N', hp, h⟩ := hl
  refine ⟨post, h, ⟨tk, e⟩, fun b o eb nb => F'.keep b o (hg ▸ hideAll_get _ eb nb), fun p hpp => ⟨(N' p (hp p hpp)).1, ?_⟩⟩
  by_cases hm : p.1 ∈ pre.map (·.1)
  · exact .inl hm
  · refine .inr ?_
    cases q : s.heap.get? p.1 with
    | none => rfl
    | some o =>
      have := (N' p (hp p hpp)).2.2
      rw [hg, hideAll_get _ q hm] at this
      cases this

theorem enterX (B : Below A₀ base outer h₀) (F : Fr h₀ L s.heap m) (N : News h₀ L s.heap pre) (hlim : h₀.NoLimit) (hA : A.frames = some (env :: outer)) (hf : env.frame = some L) (hke : env.scope.kind = .function)
    (ho : s.heap.get? f = some fo) (hd : fo.data = .func (fnX name qual params body scope cl dV kV doc pm an cdv ct)) (hcd : s.heap.CodeRec cdv qual) (hroom : A.depth < recursionLimit)
    (hbind : BindsTo s (fnX name qual params body scope cl dV kV doc pm an cdv ct) args binds) (hloc : ∀ y ∈ binds, scope.names.lookup y.1 = some .local)
    (k : ∀ n0 v post s', n0 = s.heap.objs.size → Post n0 v post → Kept s s' pre post → R (.ok (.ret v)) s')
    (h : ∀ g L' h₁, Fr h₀ L g m → Fr g L' h₁ (fun y => binds.reverse.lookup y) → News g L' h₁ pre → Below A base (env :: outer) g → h₀.StaysIn g → (∀ p ∈ pre, p.1 < L') → L' = s.heap.objs.size →
      wpAny (model prog w) (A.deeper (envX qual scope L' f cdv cl)) (execs body (envX qual scope L' f cdv cl))
        (fun fl s' => Left s g (Post s.heap.objs.size) (match fl with | .ret v => v | _ => .none) s')
        (fun e s' => wpAny (model prog w) (A.deeper (envX qual scope L' f cdv cl)) (leaving (envX qual scope L' f cdv cl) e) (fun _ s'' => R (.error e) s'') (fun e' s'' => R (.error e') s'') s')
        { s with heap := h₁, toks := s.toks + binds.length })
    (hcell : ∀ x ∈ scope.names, x.2 ≠ .cell) (hco : scope.isCoroutine = false := by rfl) (hgen : scope.isGenerator = false := by rfl) (hk : scope.kind = .function := by rfl) : codeAny (model prog w) A (.call (.ref f) args) R s := by
  obtain ⟨FG, BG, st, _⟩ := groundX (R := fun _ _ => True) B F N hA hf hke
  refine codeAny_call_def (fd := fnX name qual params body scope cl dV kV doc pm an cdv ct) (body := body) (binds := binds) hroom ho hd (hlim.keeps F.keep) hcd rfl hbind hcell hloc (fun h₁ hns hk₁ => ?_) hco hgen hk
  refine wpAny_mono (h _ s.heap.objs.size h₁ FG ⟨hns, fun b o e => hk₁ b o (of_hideAll _ e), Nat.le_of_eq (hideAll_size _ _)⟩
    (fun p hp => ⟨hk₁ _ _ (N p hp).1, Nat.ne_of_lt (Heap.lt_size (N p hp).1), hideAll_none _ (List.mem_map_of_mem hp)⟩) BG st (fun p hp => Heap.lt_size (N p hp).1) rfl) (fun fl s' hl => ?_) fun _ _ y => y
  obtain ⟨post, hP, hK⟩ := leftKept rfl hl
  exact k _ _ post s' rfl hP hK

theorem enterC (B : Below A₀ base outer h₀) (F : Fr h₀ L s.heap m) (N : News h₀ L s.heap pre) (hlim : h₀.NoLimit) (hA : A.frames = some (env :: outer)) (hf : env.frame = some L) (hke : env.scope.kind = .function)
    (ho : s.heap.get? f = some fo) (hd : fo.data = .func (fnX name qual params body scope [] dV kV doc pm an cdv ct)) (hcd : s.heap.CodeRec cdv qual) (hroom : A.depth < recursionLimit)
    (hbind : BindsTo s (fnX name qual params body scope [] dV kV doc pm an cdv ct) args binds)
    (hkind : ∀ n, ∀ x ∈ binds, scope.names.lookup x.1 = some .local ∨ (scope.names.lookup x.1 = some .cell ∧ ((cellsFrom n scope.names []).lookup x.1).isSome = true))
    (hnd : ((cellsFrom 0 scope.names []).map (·.1)).Nodup)
    (k : ∀ n0 v post s', n0 = s.heap.objs.size → Post n0 v post → Kept s s' pre post → R (.ok (.ret v)) s')
    (h : ∀ g L' h₁ tk cells, Fr h₀ L g m → Fr g L' h₁ (bindL (envOfC qual scope L' f cdv).kindOf binds fun _ => none) → News g L' h₁ (cells ++ pre) →
      CellsAre (bindC (envOfC qual scope L' f cdv).kindOf binds fun _ => none) (cellsFrom (L' + 1) scope.names []) cells → Below A base (env :: outer) g → h₀.StaysIn g → (∀ p ∈ pre, p.1 < L') → L' = s.heap.objs.size →
      wpAny (model prog w) (A.deeper (envOfC qual scope L' f cdv)) (execs body (envOfC qual scope L' f cdv))
        (fun fl s' => Left s g (Post s.heap.objs.size) (match fl with | .ret v => v | _ => .none) s')
        (fun e s' => wpAny (model prog w) (A.deeper (envOfC qual scope L' f cdv)) (leaving (envOfC qual scope L' f cdv) e) (fun _ s'' => R (.error e) s'') (fun e' s'' => R (.error e') s'') s')
        { s with heap := h₁, toks := tk })
    (hco : scope.isCoroutine = false := by rfl) (hgen : scope.isGenerator = false := by rfl) (hk : scope.kind = .function := by rfl) : codeAny (model prog w) A (.call (.ref f) args) R s := by
  obtain ⟨FG, BG, st, _⟩ := groundX (R := fun _ _ => True) B F N hA hf hke
  refine codeAny_call_function hroom ho hd hco hgen rfl hcd (hbind _ _ _ _ ?_)
  refine wpAny_newFunctionEnv_cells hk (hkind _) fun env' he s' x => ?_
  subst he
  refine ⟨(hlim.keeps F.keep).keeps x.toInCall.keep, codeAny_func ?_⟩
  obtain ⟨h₁, tk, rfl, _⟩ := x.done
  have hk₁ := x.toInCall.keep
  obtain ⟨cells, NC, Y⟩ := Cl.news (h₀ := s.heap) (Nat.le_refl _) fun n c hm => ⟨x.cell n c (lookup_of_mem_nodup (cellsFrom_names scope.names 0 (s.heap.objs.size + 1) [] [] rfl ▸ hnd) hm), x.above n c hm⟩
  refine wpAny_mono (h _ s.heap.objs.size h₁ tk cells FG ⟨x.toInCall.ns, fun b o e => hk₁ b o (of_hideAll _ e), Nat.le_of_eq (hideAll_size _ _)⟩ (fun p hp => ?_) Y BG st (fun p hp => Heap.lt_size (N p hp).1) rfl) (fun fl s' hl => ?_) fun _ _ y => y
  · rcases List.mem_append.mp hp with hp | hp
    · refine ⟨(NC p hp).1, (NC p hp).2.1, ?_⟩
      cases q : (hideAll s.heap (pre.map (·.1))).get? p.1 with
      | none => rfl
      | some o => have := of_hideAll _ q; rw [(NC p hp).2.2] at this; cases this
    · exact ⟨hk₁ _ _ (N p hp).1, Nat.ne_of_lt (Heap.lt_size (N p hp).1), hideAll_none _ (List.mem_map_of_mem hp)⟩
  · obtain ⟨post, hP, hK⟩ := leftKept rfl hl
    exact k _ _ post s' rfl hP hK
end

section
variable {prog : Program} {w : World} {A₀ A : Around} {s : Shared} {base h₀ : Heap} {outer : List Env} {L : Addr} {m mg mb : Str → Option Value} {env : Env} {pre : List (Addr × Obj)} {K : Frag} {p : Program} {loose : List Str} {mean : ExcName → Option Value}
  {R : Result → Shared → Prop} {name qual : Str} {params : Arguments} {body : List Stmt} {scope : Scope} {dV kV doc pm cdv ct oc : Value} {an od : Option Addr} {osl : Array (Option Value)} {f : Addr} {args : Args} {binds : List (Str × Value)}
  {Post : Nat → Value → List (Addr × Obj) → Prop}
theorem enter (B : Below A₀ base outer h₀) (F : Fr h₀ L s.heap m) (X₀ : K.In h₀) (N : News h₀ L s.heap pre) (T : Top p loose mean mg mb h₀) (hA : A.frames = some (env :: outer)) (hf : env.frame = some L) (hke : env.scope.kind = .function)
    (ho : K.lookup f = some ⟨oc, od, .func (fnOf name qual params body scope dV kV doc pm an cdv ct), osl⟩) (hcd : codeIn K cdv qual = true) (hroom : A.depth < recursionLimit)
    (hbind : BindsTo s (fnOf name qual params body scope dV kV doc pm an cdv ct) args binds) (hloc : ∀ y ∈ binds, scope.names.lookup y.1 = some .local)
    (k : ∀ n0 v post s', n0 = s.heap.objs.size → Post n0 v post → Kept s s' pre post → R (.ok (.ret v)) s')
    (h : ∀ g L' h₁, Fr h₀ L g m → Fr g L' h₁ (fun y => binds.reverse.lookup y) → News g L' h₁ pre → Below A base (env :: outer) g → K.In g → Top p loose mean mg mb g → (∀ p ∈ pre, p.1 < L') → L' = s.heap.objs.size →
      wpAny (model prog w) (A.deeper (envOf qual scope L' f cdv)) (execs body (envOf qual scope L' f cdv))
        (fun fl s' => Left s g (Post s.heap.objs.size) (match fl with | .ret v => v | _ => .none) s')
        (fun e s' => wpAny (model prog w) (A.deeper (envOf qual scope L' f cdv)) (leaving (envOf qual scope L' f cdv) e) (fun _ s'' => R (.error e) s'') (fun e' s'' => R (.error e') s'') s')
        { s with heap := h₁, toks := s.toks + binds.length })
    (hco : scope.isCoroutine = false) (hgen : scope.isGenerator = false) (hk : scope.kind = .function)
    (hcell : ∀ x ∈ scope.names, x.2 ≠ .cell) : codeAny (model prog w) A (.call (.ref f) args) R s :=
  enterX (cl := []) B F N T.nolimit hA hf hke ((X₀.keeps F.keep) _ _ ho) rfl (codeRec_of (X₀.keeps F.keep) hcd) hroom hbind hloc k (fun g L' h₁ FG F' N' B' st l e => h g L' h₁ FG F' N' B' (X₀.keeps st) (T.keeps st) l e) hcell hco hgen hk
theorem enterK (B : Below A₀ base outer h₀) (F : Fr h₀ L s.heap m) (X₀ : K.In h₀) (N : News h₀ L s.heap pre) (T : Top p loose mean mg mb h₀) (hA : A.frames = some (env :: outer)) (hf : env.frame = some L) (hke : env.scope.kind = .function)
    (ho : K.lookup f = some ⟨oc, od, .func (fnOf name qual params body scope dV kV doc pm an cdv ct), osl⟩) (hcd : codeIn K cdv qual = true) (hroom : A.depth < recursionLimit)
    (hbind : BindsTo s (fnOf name qual params body scope dV kV doc pm an cdv ct) args binds) (hkind : (binds.all fun y => scope.names.lookup y.1 == some .local || scope.names.lookup y.1 == some .cell) = true)
    (hnd : ((cellsFrom 0 scope.names []).map (·.1)).Nodup)
    (k : ∀ n0 v post s', n0 = s.heap.objs.size → Post n0 v post → Kept s s' pre post → R (.ok (.ret v)) s')
    (h : ∀ g L' h₁ tk cells, Fr h₀ L g m → Fr g L' h₁ (bindL (envOfC qual scope L' f cdv).kindOf binds fun _ => none) → News g L' h₁ (cells ++ pre) →
      CellsAre (bindC (envOfC qual scope L' f cdv).kindOf binds fun _ => none) (cellsFrom (L' + 1) scope.names []) cells → Below A base (env :: outer) g → K.In g → Top p loose mean mg mb g → (∀ p ∈ pre, p.1 < L') → L' = s.heap.objs.size →
      wpAny (model prog w) (A.deeper (envOfC qual scope L' f cdv)) (execs body (envOfC qual scope L' f cdv))
        (fun fl s' => Left s g (Post s.heap.objs.size) (match fl with | .ret v => v | _ => .none) s')
        (fun e s' => wpAny (model prog w) (A.deeper (envOfC qual scope L' f cdv)) (leaving (envOfC qual scope L' f cdv) e) (fun _ s'' => R (.error e) s'') (fun e' s'' => R (.error e') s'') s')
        { s with heap := h₁, toks := tk })
    (hco : scope.isCoroutine = false) (hgen : scope.isGenerator = false) (hk : scope.kind = .function) : codeAny (model prog w) A (.call (.ref f) args) R s :=
  enterC B F N T.nolimit hA hf hke ((X₀.keeps F.keep) _ _ ho) rfl (codeRec_of (X₀.keeps F.keep) hcd) hroom hbind (kindsX hkind) hnd k (fun g L' h₁ tk cells FG F' N' Y B' st l e => h g L' h₁ tk cells FG F' N' Y B' (X₀.keeps st) (T.keeps st) l e) hco hgen hk
end

/-- what a call of the text's own def at f gives, upon a ledger; the number is the first address that is free at the call -/
noncomputable def DoesN (prog : Program) (w : World) (K : Frag) (D U : Nat) (f : Addr) (vs : List Value) (pre : List (Addr × Obj)) (Post : Nat → Value → List (Addr × Obj) → Prop) : Prop :=
  ∀ (p : Program) (loose : List Str) (mean : ExcName → Option Value) (mg mb : Str → Option Value) (dp un : Nat) (gd : Option (List Code)) (cn : Str) (cs : Scope) (a : Addr) (ccd : Value) (cl : List (Str × Addr)) (outer : List Env) (A₀ : Around) (base h₀ : Heap) (L : Addr) (m : Str → Option Value) (s : Shared) (R : Result → Shared → Prop),
    Below A₀ base outer h₀ → Fr h₀ L s.heap m → K.In h₀ → News h₀ L s.heap pre → Top p loose mean mg mb h₀ → cs.kind = .function → dp + D < recursionLimit → un + U < cLine →
    (∀ n0 v post s', n0 = s.heap.objs.size → Post n0 v post → Kept s s' pre post → R (.ok (.ret v)) s') →
    codeAny (model prog w) (ktrTop dp un gd cn cs L a ccd cl outer) (.call (.ref f) ⟨vs, []⟩) R s

noncomputable abbrev Does (prog : Program) (w : World) (K : Frag) (D U : Nat) (f : Addr) (vs : List Value) (pre : List (Addr × Obj)) (Post : Value → List (Addr × Obj) → Prop) : Prop := DoesN prog w K D U f vs pre fun _ => Post

inductive Rest (pre : List (Addr × Obj)) : List (Addr × Obj) → List (Addr × Obj) → Prop
  | nil : Rest pre [] []
  | drop {p n r} : Rest pre n r → Rest pre (p :: n) r
  | keep {p n r} : p.1 ∉ pre.map (·.1) → Rest pre n r → Rest pre (p :: n) (p :: r)
theorem Rest.mem {pre : List (Addr × Obj)} : ∀ {n r : List (Addr × Obj)}, Rest pre n r → ∀ p ∈ r, p ∈ n ∧ p.1 ∉ pre.map (·.1)
  | _, _, .nil, _, h => nomatch h
  | _, _, .drop h, p, hp => ⟨.tail _ (h.mem p hp).1, (h.mem p hp).2⟩
  | _, _, .keep h0 h, p, hp => by
    rcases List.mem_cons.mp hp with rfl | hp
    · exact ⟨.head _, h0⟩
    · exact ⟨.tail _ (h.mem p hp).1, (h.mem p hp).2⟩
theorem off_nil (a : Addr) : a ∉ ([] : List (Addr × Obj)).map (·.1) := fun h => nomatch h
theorem off_cons {a : Addr} {q : Addr × Obj} {l : List (Addr × Obj)} (h : a ≠ q.1) (t : a ∉ l.map (·.1)) : a ∉ (q :: l).map (·.1) := fun e => by
  rcases List.mem_cons.mp e with e | e
  · exact h e
  · exact t e

theorem Kept.caller {s s' : Shared} {pre post news rest : List (Addr × Obj)} {h₀ : Heap} {L : Addr} {m : Str → Option Value} (k : Kept s s' pre post) (F : Fr h₀ L s.heap m) (N : News h₀ L s.heap news) (hp : ∀ p ∈ pre, p ∈ news) (hr : Rest pre news rest) :
    Fr h₀ L s'.heap m ∧ News h₀ L s'.heap (post ++ rest) ∧ ∀ p ∈ post, p.1 ∈ pre.map (·.1) ∨ ∀ q ∈ news, q.1 ≠ p.1 := by
  have hoff : ∀ b, b ∈ pre.map (·.1) → ∃ o, (b, o) ∈ news := fun b hb => by
    obtain ⟨p, hpp, rfl⟩ := List.mem_map.mp hb
    exact ⟨p.2, hp p hpp⟩
  have hL : L ∉ pre.map (·.1) := fun h => by
    obtain ⟨o, ho⟩ := hoff L h
    exact (N _ ho).2.1 rfl
  have hz : ∀ b o, h₀.get? b = some o → b ∉ pre.map (·.1) := fun b o e h => by
    obtain ⟨o', ho⟩ := hoff b h
    have := (N _ ho).2.2
    rw [e] at this; cases this
  obtain ⟨oL, es, ep, hLo, hLd, hLk, hLf⟩ := F.ns
  have old : ∀ p ∈ post, p.1 ∈ pre.map (·.1) ∨ ∀ q ∈ news, q.1 ≠ p.1 := fun p hp => by
    rcases (k.there p hp).2 with h | h
    · exact .inl h
    · exact .inr fun q hq e => by
        have := (N q hq).1
        rw [e, h] at this; cases this
  refine ⟨⟨⟨oL, es, ep, k.keep L oL hLo hL, hLd, hLk, hLf⟩, fun b o e => k.keep b o (F.keep b o e) (hz b o e), F.above⟩, fun p hpp => ?_, old⟩
  rcases List.mem_append.mp hpp with hpp | hpp
  · refine ⟨(k.there p hpp).1, ?_⟩
    rcases (k.there p hpp).2 with h | h
    · obtain ⟨o, ho⟩ := hoff _ h
      exact (N _ ho).2
    · refine ⟨fun e => ?_, ?_⟩
      · rw [e, hLo] at h; cases h
      · cases q : h₀.get? p.1 with
        | none => rfl
        | some o => rw [F.keep _ _ q] at h; cases h
  · obtain ⟨hn, ho⟩ := hr.mem p hpp
    exact ⟨k.keep _ _ (N p hn).1 ho, (N p hn).2⟩

theorem Does.use {prog : Program} {w : World} {K : Frag} {D U : Nat} {f : Addr} {vs : List Value} {pre : List (Addr × Obj)} {Post : Nat → Value → List (Addr × Obj) → Prop}
    {p : Program} {loose : List Str} {mean : ExcName → Option Value} {mg mb : Str → Option Value} {dp un : Nat} {gd : Option (List Code)} {cn : Str} {cs : Scope} {a : Addr} {ccd : Value} {cl : List (Str × Addr)} {outer : List Env} {A₀ : Around} {base h₀ : Heap} {L : Addr} {m : Str → Option Value} {s : Shared} {Q E : Value → Shared → Prop} {news rest : List (Addr × Obj)}
    (C : DoesN prog w K D U f vs pre Post) (B : Below A₀ base outer h₀) (F : Fr h₀ L s.heap m) (X : K.In h₀) (N : News h₀ L s.heap news) (T : Top p loose mean mg mb h₀) (hk : cs.kind = .function) (hd : dp + D < recursionLimit) (hu : un + U < cLine)
    (hp : ∀ p ∈ pre, p ∈ news) (hr : Rest pre news rest)
    (ret : ∀ n0 v post h' tk', (∀ q ∈ news, q.1 < n0) → Post n0 v post → Fr h₀ L h' m → News h₀ L h' (post ++ rest) → Q v { s with heap := h', toks := tk' }) :
    wpAny (model prog w) (ktrTop dp un gd cn cs L a ccd cl outer) (call (.ref f) vs) Q E s :=
  wpAny_call (C _ _ _ _ _ _ _ _ _ _ _ _ _ _ _ _ _ _ _ _ _ B F X (fun p h => N p (hp p h)) T hk hd hu fun n0 v post s' en hP k => by
    obtain ⟨F', N', _⟩ := k.caller F N hp hr
    obtain ⟨tk, e⟩ := k.form
    rw [e] at F' N' ⊢
    exact ret n0 v post _ tk (fun q hq => en ▸ Heap.lt_size (N q hq).1) hP F' N')
theorem Does.code {prog : Program} {w : World} {K : Frag} {D U : Nat} {f : Addr} {vs : List Value} {pre : List (Addr × Obj)} {Post : Nat → Value → List (Addr × Obj) → Prop}
    {p : Program} {loose : List Str} {mean : ExcName → Option Value} {mg mb : Str → Option Value} {dp un : Nat} {gd : Option (List Code)} {cn : Str} {cs : Scope} {a : Addr} {ccd : Value} {cl : List (Str × Addr)} {outer : List Env} {A₀ : Around} {base h₀ : Heap} {L : Addr} {m : Str → Option Value} {s : Shared} {R : Result → Shared → Prop} {news rest : List (Addr × Obj)}
    (C : DoesN prog w K D U f vs pre Post) (B : Below A₀ base outer h₀) (F : Fr h₀ L s.heap m) (X : K.In h₀) (N : News h₀ L s.heap news) (T : Top p loose mean mg mb h₀) (hk : cs.kind = .function) (hd : dp + D < recursionLimit) (hu : un + U < cLine)
    (hp : ∀ p ∈ pre, p ∈ news) (hr : Rest pre news rest)
    (ret : ∀ n0 v post h' tk', (∀ q ∈ news, q.1 < n0) → Post n0 v post → Fr h₀ L h' m → News h₀ L h' (post ++ rest) → R (.ok (.ret v)) { s with heap := h', toks := tk' }) :
    codeAny (model prog w) (ktrTop dp un gd cn cs L a ccd cl outer) (.call (.ref f) ⟨vs, []⟩) R s :=
  C _ _ _ _ _ _ _ _ _ _ _ _ _ _ _ _ _ _ _ _ _ B F X (fun p h => N p (hp p h)) T hk hd hu fun n0 v post s' en hP k => by
    obtain ⟨F', N', _⟩ := k.caller F N hp hr
    obtain ⟨tk, e⟩ := k.form
    rw [e] at F' N' ⊢
    exact ret n0 v post _ tk (fun q hq => en ▸ Heap.lt_size (N q hq).1) hP F' N'

theorem sub_nil {m : List (Addr × Obj)} : ∀ p ∈ ([] : List (Addr × Obj)), p ∈ m := fun _ h => nomatch h
theorem sub_both {a : Addr × Obj} {l m : List (Addr × Obj)} (h : ∀ p ∈ l, p ∈ m) : ∀ p ∈ a :: l, p ∈ a :: m := fun p hp => by
  rcases List.mem_cons.mp hp with rfl | hp
  · exact .head _
  · exact .tail _ (h p hp)
theorem sub_bothA {a : Addr} {o o' : Obj} {l m : List (Addr × Obj)} (e : o = o') (h : ∀ p ∈ l, p ∈ m) : ∀ p ∈ (a, o) :: l, p ∈ (a, o') :: m := e ▸ sub_both h
theorem sub_skip {a : Addr × Obj} {l m : List (Addr × Obj)} (h : ∀ p ∈ l, p ∈ m) : ∀ p ∈ l, p ∈ a :: m := fun p hp => .tail _ (h p hp)
theorem sub_cons {a : Addr × Obj} {l m : List (Addr × Obj)} (ha : a ∈ m) (h : ∀ p ∈ l, p ∈ m) : ∀ p ∈ a :: l, p ∈ m := fun p hp => by
  rcases List.mem_cons.mp hp with rfl | hp
  · exact ha
  · exact h p hp
theorem all_nil {d : Addr} : ∀ p ∈ ([] : List (Addr × Obj)), p.1 ≠ d := fun _ h => nomatch h
theorem all_cons {d : Addr} {q : Addr × Obj} {l : List (Addr × Obj)} (h : q.1 ≠ d) (t : ∀ p ∈ l, p.1 ≠ d) : ∀ p ∈ q :: l, p.1 ≠ d := fun p hp => by
  rcases List.mem_cons.mp hp with rfl | hp
  · exact h
  · exact t p hp
theorem neL {a b : Nat} (h : a < b) : a ≠ b := Nat.ne_of_lt h
theorem neG {a b : Nat} (h : b < a) : a ≠ b := Nat.ne_of_gt h

section
variable {prog : Program} {w : World} {A : Around} {E : Value → Shared → Prop} {s : Shared} {h₀ : Heap} {L : Addr} {m : Str → Option Value} {Q : Value → Shared → Prop} {news : List (Addr × Obj)}
theorem list_strK {x : Str} {t : Tok} (hh : A.handled = none) (F : Fr h₀ L s.heap m) (N : News h₀ L s.heap news) (hsz : x.length ≤ sizeLine)
    (h : ∀ D n ys h' tk, Fr h₀ L h' m → News h₀ L h' ((D, listOf (List.toArray ys) n) :: news) → StrsAre ys (signs x) → (∀ p ∈ news, p.1 < D) → Q (.ref D) { s with heap := h', toks := tk }) :
    wpAny (model prog w) A (call (.type "list") [.str x t]) Q E s :=
  list_strD hh F N (fun h' tk ys F' N' _ hf _ np hc => by
    obtain ⟨n, NX⟩ := made_enters np F' N' hf
    exact h _ n ys h' tk F' NX (StrsAre.of_carried hc) fun p hp => Heap.lt_size (N p hp).1) hsz
end
/-- the tokens are forgotten: in place of a search through the whole goal -/
theorem gen9 {α : Type} {M : Model} {A : Around} {t : Sem α} {Q : α → Shared → Prop} {E : Value → Shared → Prop} {h : Heap} {g : Array GenState} {d : Drawn} {o : OsState} {X : Nat} (k : ∀ tk : Nat, wpAny M A t Q E ⟨h, g, d, tk, o⟩) : wpAny M A t Q E ⟨h, g, d, X, o⟩ := k X

end
set_option maxHeartbeats 1000000
section
section
theorem startFnAttr : True := by
  w_top off
  trivial
local macro_rules | `(tactic| walk_at "zz none") => `(tactic| fail "zz none")
open PySem.Builtin PySem.Builtin.ObjectAttr
theorem slot_fn_setattr : Slot "function" "__setattr__" "object.__setattr__" :=
  .of (owner := "object") (n := "__setattr__") (by rw [typeLookup_type, builtinLookup_eq_fast]; kernel_rfl) (by decide +kernel) (by decide +kernel) (by decide +kernel)
    (by first | exact .inl (by decide +kernel) | exact .inr (by decide +kernel)) (by rw [isSubtype_type]; kernel_rfl)
theorem refuse_fn (self : Value) : refuseLoop self "__setattr__" [.type "function", .type "object"] = pure () := by kernel_rfl
theorem mro_fn : mroOf (.type "function") = pure [.type "function", .type "object"] := by kernel_rfl
theorem fn_no_read : typeLookup (.type "function") "read" = pure none := by rw [typeLookup_type, builtinLookup_eq_fast]; kernel_rfl
theorem hasDict_fn : typeHasDict (.type "function") = true := by decide +kernel
theorem fin_fn : finalisedInACycleAlone "function" = false := by decide +kernel

section
variable {prog : Program} {w : World} {A : Around} {E : Value → Shared → Prop} {s : Shared} {h₀ : Heap} {L f : Addr} {m : Str → Option Value} {news : List (Addr × Obj)} {pre post : List (Addr × Obj)} {fd : FuncData} {sl : Array (Option Value)} {name : Str} {v : Value} {Q : Unit → Shared → Prop}

theorem setAttr_fn (F : Fr h₀ L s.heap m) (N : News h₀ L s.heap (pre ++ (f, ⟨.type "function", none, .func fd, sl⟩) :: post)) (h1 : ∀ p ∈ pre, p.1 ≠ f) (h2 : ∀ p ∈ post, p.1 ≠ f)
    (hname : typeLookup (.type "function") name = pure none)
    (h : ∀ d h', Fr h₀ L h' m → News h₀ L h' ((d, dictOf [⟨PyData.keyHash w.params name, .str name (s.toks + 1), v⟩] 1) :: (pre ++ (f, ⟨.type "function", some d, .func fd, sl⟩) :: post)) → (∀ p ∈ pre ++ (f, (⟨.type "function", some d, .func fd, sl⟩ : Obj)) :: post, p.1 < d) → Q () { s with heap := h', toks := s.toks + 2 }) :
    wpAny (model prog w) A (setAttr (.ref f) name v) Q E s := by
  have hf := N (f, ⟨.type "function", none, .func fd, sl⟩) (by simp)
  have hT : s.TypeIs (.ref f) "function" := ⟨_, hf.1, rfl⟩
  refine wpAny_bind (wpAny_mkText (wpAny_bind (wpAny_callSpecial?_slot (s := { s with toks := s.toks + 1 }) hT slot_fn_setattr (wpAny_call ?_))))
  refine codeAny_call_builtin slot_fn_setattr.plain PySem.F.entry_object_sa (slot_fn_setattr.check _ _ _ _ _ _ _ _ hT (PySem.F.store_object.args _ _ _) ?_)
  rw [osa_eq, refuse_eq]
  refine wpAny_bind (wpAny_bind (wpAny_typeOf (T := "function") hT (wpAny_bind (wpAny_of_eq mro_fn ?_))))
  rw [refuse_fn]
  refine wpAny_pure (wpAny_bind (wpAny_typeOf (T := "function") hT (wpAny_bind (wpAny_of_eq hname ?_))))
  refine wpAny_bind (wpAny_pure ?_)
  show wpAny _ _ (storeInOwnDict _ _ _ _ _ _) _ _ _
  unfold storeInOwnDict
  refine wpAny_bind (wpAny_of_eq (show ownStreamTells (.ref f) (.type "function") = pure () from rfl) ?_)
  rw [if_neg (by decide)]
  refine wpAny_bind ?_
  show wpAny _ _ (instanceDict f true) _ _ _
  unfold instanceDict
  refine wpAny_bind (wpAny_loadPart hf.1 ?_)
  dsimp only
  rw [hasDict_fn]
  rw [if_neg (by decide)]
  refine wpAny_bind (wpAny_alloc ?_)
  have F1 := F.push { cls := .type "dict", data := .dict #[] }
  have N1 := N.push F { cls := .type "dict", data := .dict #[] }
  have lt : ∀ p ∈ pre ++ (f, (⟨.type "function", none, .func fd, sl⟩ : Obj)) :: post, p.1 < s.heap.objs.size := fun p hp => Heap.lt_size (N p hp).1
  generalize hD : s.heap.objs.size = D at N1 lt ⊢
  generalize hH : s.heap.push { cls := .type "dict", data := .dict #[] } = H1 at F1 N1 ⊢
  have U := news_upd (pre := (D, { cls := .type "dict", data := .dict #[] }) :: pre) (post := post) (d := f) (f := fun o => { o with dict := some D }) F1 N1 (fun p hp => by
    rcases List.mem_cons.mp hp with rfl | hp
    · exact Nat.ne_of_gt (lt (f, ⟨.type "function", none, .func fd, sl⟩) (by simp))
    · exact h1 p hp) h2 rfl rfl
  refine wpAny_bind (wpAny_update (N1 (f, ⟨.type "function", none, .func fd, sl⟩) (by simp)).1 ?_)
  generalize hH2 : H1.update f (fun o => { o with dict := some D }) = H2 at U ⊢
  unfold dictMade
  dsimp only
  rw [fin_fn, if_neg (by decide)]
  refine wpAny_bind (wpAny_pure (wpAny_pure ?_))
  dsimp only
  unfold storeInDict newKeyGuard
  refine wpAny_bind (wpAny_pure (wpAny_bind ?_))
  have Dd := (U.2 (D, { cls := .type "dict", data := .dict #[] }) (by simp)).1
  unfold nsSet
  refine wpAny_bind (wpAny_bind (wpAny_askSetting (wpAny_pure (wpAny_bind (wpAny_mkText (wpAny_bind (wpAny_loadPart Dd ?_)))))))
  dsimp only
  rw [show aRefKeyMayBeTheName name #[] = false from rfl, if_neg (by decide)]
  refine wpAny_bind (wpAny_pure (wpAny_updatePart Dd ?_))
  have V := news_upd (pre := []) (post := pre ++ (f, ⟨.type "function", some D, .func fd, sl⟩) :: post) (d := D) (f := Obj.putName name (PyData.keyHash w.params name) (.str name (s.toks + 1)) v) (o' := dictOf [⟨PyData.keyHash w.params name, .str name (s.toks + 1), v⟩] 1) U.1 (by simpa using U.2) (fun _ h => nomatch h) (fun p hp => by
    rcases List.mem_append.mp hp with hp | hp
    · exact Nat.ne_of_lt (lt p (List.mem_append_left _ hp))
    · rcases List.mem_cons.mp hp with rfl | hp
      · exact Nat.ne_of_lt (lt (f, ⟨.type "function", none, .func fd, sl⟩) (by simp))
      · exact Nat.ne_of_lt (lt p (List.mem_append_right _ (.tail _ hp)))) (putName_dict name _ _ v [] 0) rfl
  refine wpAny_bind (wpAny_lookBehind (V.2 (D, _) (.head _)).1 (pastItsLine_dict (by rw [sizeLine_eq]; show 1 ≤ _; (first | lia | omega))) ?_)
  refine wpAny_pure ?_
  refine wpAny_pure (h D _ V.1 V.2 fun p hp => ?_)
  rcases List.mem_append.mp hp with hp | hp
  · exact lt p (List.mem_append_left _ hp)
  · rcases List.mem_cons.mp hp with rfl | hp
    · exact lt (f, ⟨.type "function", none, .func fd, sl⟩) (by simp)
    · exact lt p (List.mem_append_right _ (.tail _ hp))
theorem setAttr_fnK {g : Obj → List (Addr × Obj)} (F : Fr h₀ L s.heap m) (N : News h₀ L s.heap news) (U : UpdF f ⟨.type "function", none, .func fd, sl⟩ news g)
    (hname : typeLookup (.type "function") name = pure none)
    (h : ∀ d h', Fr h₀ L h' m → News h₀ L h' ((d, dictOf [⟨PyData.keyHash w.params name, .str name (s.toks + 1), v⟩] 1) :: g ⟨.type "function", some d, .func fd, sl⟩) → (∀ p ∈ news, p.1 < d) → Q () { s with heap := h', toks := s.toks + 2 }) :
    wpAny (model prog w) A (setAttr (.ref f) name v) Q E s := by
  obtain ⟨own, rest, rfl, hg, h1, h2⟩ := U.split
  refine setAttr_fn F N h1 h2 hname fun d h' F' N' lt => h d h' F' (by rw [hg]; exact N') fun p hp => ?_
  rcases List.mem_append.mp hp with hp | hp
  · exact lt p (List.mem_append_left _ hp)
  · rcases List.mem_cons.mp hp with rfl | hp
    · exact lt (f, ⟨.type "function", some d, .func fd, sl⟩) (by simp)
    · exact lt p (List.mem_append_right _ (.tail _ hp))
end

end
section
theorem startListOps : True := by
  w_top off
  trivial
section
variable {prog : Program} {w : World} {A : Around} {E : Value → Shared → Prop} {s : Shared} {h₀ : Heap} {L D : Addr} {m : Str → Option Value} {news news' : List (Addr × Obj)} {n : Nat} {y : Value} {q : List Value}
theorem pop0 {u : Tok} {Q : Value → Shared → Prop} (F : Fr h₀ L s.heap m) (N : News h₀ L s.heap news) (U : Upd D (listOf (y :: q).toArray n) (listOf q.toArray (n + 1)) news news')
    (hz : (y :: q).length ≤ sizeLine) (h : ∀ h', Fr h₀ L h' m → News h₀ L h' news' → Q y { s with heap := h' }) : wpAny (model prog w) A (call (.builtin "list.pop") [.ref D, .int 0 u]) Q E s :=
  kl_popAt (i := 0) (k := 0) (p := []) (q := q) (y := y) F N rfl (by
    show seqIndex? 0 (y :: q).toArray.size = some 0
    unfold seqIndex?
    rw [List.size_toArray, List.length_cons]
    simp) rfl U hz h
theorem truthyNil {Q : Bool → Shared → Prop} (N : News h₀ L s.heap news) (hm : (D, listOf ([] : List Value).toArray n) ∈ news) (h : ∀ tk, Q false { s with toks := tk }) : wpAny (model prog w) A (truthy (.ref D)) Q E s :=
  wpAny_truthy_list ⟨_, N.get hm, rfl, _, rfl⟩ (by decide) (h _)
theorem truthyCons {Q : Bool → Shared → Prop} (N : News h₀ L s.heap news) (hm : (D, listOf (y :: q).toArray n) ∈ news) (hz : (y :: q).length ≤ sizeLine) (h : ∀ tk, Q true { s with toks := tk }) : wpAny (model prog w) A (truthy (.ref D)) Q E s :=
  wpAny_truthy_list ⟨_, N.get hm, rfl, _, rfl⟩ (by rw [sizeLine_eq] at hz; rw [List.size_toArray]; (first | lia | omega)) (by
    have : (!(y :: q).toArray.isEmpty) = true := by simp
    rw [this]; exact h _)
end

theorem in_head {a : Addr} {o : Obj} {l : List (Addr × Obj)} : a ∈ ((a, o) :: l).map (·.1) := .head _
theorem in_tail {a : Addr} {q : Addr × Obj} {l : List (Addr × Obj)} (h : a ∈ l.map (·.1)) : a ∈ (q :: l).map (·.1) := .tail _ h
theorem Rest.drop2 {pre n r : List (Addr × Obj)} {a : Addr} {o : Obj} (_h : a ∈ pre.map (·.1)) (t : Rest pre n r) : Rest pre ((a, o) :: n) r := .drop t

end
section
theorem startFnGet : True := by
  w_top off
  trivial
local macro_rules | `(tactic| walk_at "zz none") => `(tactic| fail "zz none")
open PySem.Builtin PySem.Builtin.ObjectAttr
theorem slot_fn_ga : Slot "function" "__getattribute__" "object.__getattribute__" :=
  .of (owner := "object") (n := "__getattribute__") (by rw [typeLookup_type, builtinLookup_eq_fast]; kernel_rfl) (by decide +kernel) (by decide +kernel) (by decide +kernel)
    (by first | exact .inl (by decide +kernel) | exact .inr (by decide +kernel)) (by rw [isSubtype_type]; kernel_rfl)
theorem fn_no_getattr : typeLookup (.type "function") "__getattr__" = pure none := by rw [typeLookup_type, builtinLookup_eq_fast]; kernel_rfl
theorem canon_oga : (Manifest.canonical "object.__getattribute__" != "object.__getattribute__") = false := by decide +kernel
section
variable {prog : Program} {w : World} {A : Around} {E : Value → Shared → Prop} {s : Shared} {h₀ : Heap} {L f d : Addr} {m : Str → Option Value} {news : List (Addr × Obj)} {fd : FuncData} {sl : Array (Option Value)} {name : Str} {v : Value} {es : List DictEntry} {n : Nat}

theorem getAttr_fn {Q : Value → Shared → Prop} (N : News h₀ L s.heap news) (hf : (f, (⟨.type "function", some d, .func fd, sl⟩ : Obj)) ∈ news) (hd : (d, dictOf es n) ∈ news)
    (hname : typeLookup (.type "function") name = pure none) (hl : getL name es = some (some v)) (hv : handedIn v = true)
    (h : Q v { s with toks := s.toks + 1 }) : wpAny (model prog w) A (getAttr (.ref f) name) Q E s := by
  have hT : s.TypeIs (.ref f) "function" := ⟨_, N.get hf, rfl⟩
  have hT' : ({ s with toks := s.toks + 1 } : Shared).TypeIs (.ref f) "function" := ⟨_, N.get hf, rfl⟩
  refine wpAny_bind (wpAny_mkText ?_)
  show wpAny _ _ (holding _ _) _ _ _
  refine wpAny_holding (wpAny_bind (wpAny_typeOf (T := "function") hT' (wpAny_bind (wpAny_of_eq slot_fn_ga.lookup ?_))))
  show wpAny _ _ (getAttrByItsOwn _ _ _ _ _ _) _ _ _
  refine wpAny_bind (wpAny_pure (wpAny_bind (wpAny_attempt (wpAny_holding ?_))))
  show wpAny _ _ (boundAndCalled _ _ _) _ _ _
  unfold boundAndCalled
  rw [slot_fn_ga.bind]
  refine wpAny_bind (wpAny_pure (wpAny_call_entry slot_fn_ga hT' PySem.F.entry_object_getattribute ?_ (PySem.F.args_object_getattribute_2 _ _)))
  have e : ∀ (self : Value) (tk : Tok), Builtin.«object.__getattribute__» ⟨[self, .str name tk], []⟩ = (typeOf self >>= fun tp => find self tp name >>= fun r => match r with
    | .value v => ret v
    | .bind g a => bindTo g a self tp
    | .missing => do
      if tp == .type "module" then
        if ← isOpaqueModuleObj self then
          let byTheModulesOwnEntry := match (← stack).drop 1 with
            | (.builtin "module.__getattribute__" ⟨m :: _, _⟩, _) :: _ => m == self
            | _ => false
          if !byTheModulesOwnEntry then unsupported "thirdparty:object.__getattribute__:a-miss-on-an-opaque-module"
      if tp == .type "type" then
        if let some key ← opaqueClassAbove self then unsupported s!"thirdparty:{key.toString}.{name.toString}:object.__getattribute__-misses-on-an-opaque-class"
      noSuchAttribute self name) := fun self tk => by kernel_rfl
  show wpAny _ _ (Builtin.«object.__getattribute__» ⟨[.ref f, .str name s.toks], []⟩) _ _ _
  rw [e]
  refine wpAny_bind (wpAny_typeOf (T := "function") hT' (wpAny_bind ?_))
  unfold find
  refine wpAny_bind (wpAny_of_eq hname (wpAny_bind (wpAny_pure (wpAny_bind (wpAny_pure ?_)))))
  show wpAny _ _ (ownThenClass _ _ _ _) _ _ _
  unfold ownThenClass
  refine wpAny_bind ?_
  show wpAny _ _ (do inDict name (← ObjectAttr.ownDict f)) _ _ _
  refine wpAny_bind ?_
  unfold ObjectAttr.ownDict
  refine wpAny_bind (wpAny_loadPart (N.get hf) ?_)
  dsimp only
  unfold instanceDict
  refine wpAny_bind (wpAny_loadPart (N.get hf) ?_)
  dsimp only
  refine wpAny_pure ?_
  show wpAny _ _ (nsGet d name) _ _ _
  unfold nsGet
  refine wpAny_bind (wpAny_loadPart (N.get hd) ?_)
  rw [nsLook_of (r := some v) (by rw [lookIn_dict]; exact hl)]
  refine wpAny_pure (wpAny_bind (wpAny_rule (wpAny_pure ?_)))
  refine wpAny_pure ⟨v, rfl, ?_⟩
  show wpAny _ _ (handedOut v) _ _ _
  rw [handedOut_of hv]
  exact wpAny_pure h

theorem getMethod_fn {pl : Sem Bool} {Q : Value × List Value → Shared → Prop} (N : News h₀ L s.heap news) (hf : (f, (⟨.type "function", some d, .func fd, sl⟩ : Obj)) ∈ news) (hd : (d, dictOf es n) ∈ news)
    (hname : typeLookup (.type "function") name = pure none) (hl : getL name es = some (some v)) (hv : handedIn v = true)
    (h : Q (v, []) { s with toks := s.toks + 1 }) : wpAny (model prog w) A (getMethod (.ref f) name pl) Q E s := by
  have hT : s.TypeIs (.ref f) "function" := ⟨_, N.get hf, rfl⟩
  unfold getMethod
  refine wpAny_bind (wpAny_specialOf hT slot_fn_ga.lookup ?_)
  show wpAny _ _ (if (Manifest.canonical "object.__getattribute__" != "object.__getattribute__") = true then _ else _) Q E s
  rw [canon_oga, if_neg Bool.false_ne_true]
  refine wpAny_bind (wpAny_specialOf hT fn_no_getattr ?_)
  refine wpAny_bind (wpAny_specialOf hT hname ?_)
  refine wpAny_bind (getAttr_fn N hf hd hname hl hv ?_)
  exact wpAny_pure h
end

end
section
theorem startCallIter : True := by
  w_top off
  trivial
open PySem.Builtin
noncomputable abbrev citer (f sv : Value) : Obj := { cls := .type "callable_iterator", data := .fields #[f, sv, .bool false] }
noncomputable abbrev cended : Obj := { cls := .type "callable_iterator", data := .fields #[.none, .none, .bool true] }
theorem slot_citer_iter : Slot "callable_iterator" "__iter__" "callable_iterator.__iter__" :=
  .of (owner := "callable_iterator") (n := "__iter__") (by rw [typeLookup_type, builtinLookup_eq_fast]; kernel_rfl) (by decide +kernel) (by decide +kernel) (by decide +kernel)
    (by first | exact .inl (by decide +kernel) | exact .inr (by decide +kernel)) (by rw [isSubtype_type]; kernel_rfl)
theorem slot_citer_next : Slot "callable_iterator" "__next__" "callable_iterator.__next__" :=
  .of (owner := "callable_iterator") (n := "__next__") (by rw [typeLookup_type, builtinLookup_eq_fast]; kernel_rfl) (by decide +kernel) (by decide +kernel) (by decide +kernel)
    (by first | exact .inl (by decide +kernel) | exact .inr (by decide +kernel)) (by rw [isSubtype_type]; kernel_rfl)
theorem entry_citer_iter : entryFor table "callable_iterator.__iter__" = some Builtin.«dict_keyiterator.__iter__» :=
  entryFor_alias (id' := "dict_keyiterator.__iter__") (by kernel_rfl) rfl (by decide +kernel) (by kernel_rfl)
theorem entry_citer_next : entryFor table "callable_iterator.__next__" = some Builtin.«callable_iterator.__next__» := entryFor_of_tree (by kernel_rfl)
theorem args_citer_iter (a : Value) : argsOk "callable_iterator.__iter__" ⟨[a], []⟩ := by unfold argsOk; kernel_rfl
theorem args_citer_next (a : Value) : argsOk "callable_iterator.__next__" ⟨[a], []⟩ := by unfold argsOk; kernel_rfl
theorem entry_iter : entryFor table "iter" = some Builtin.«iter» := entryFor_of_tree (by kernel_rfl)
theorem kind_iter : builtinKind "iter" = none := by decide +kernel
theorem plain_iter : plainId "iter" = true := by decide +kernel
theorem args_iter2 (a b : Value) : argsOk "iter" ⟨[a, b], []⟩ := by unfold argsOk; kernel_rfl
theorem method_call_slot : typeLookup (.type "method") "__call__" = pure (some (.builtin "method.__call__")) := by rw [typeLookup_type, builtinLookup_eq_fast]; kernel_rfl
section
variable {prog : Program} {w : World} {A : Around} {E : Value → Shared → Prop} {s : Shared} {h₀ : Heap} {L q it : Addr} {m : Str → Option Value} {news : List (Addr × Obj)} {g self v : Value} {Q : Value → Shared → Prop}

theorem iter_call (F : Fr h₀ L s.heap m) (N : News h₀ L s.heap news) (hq : (q, methodObj g self) ∈ news)
    (h : ∀ it h', Fr h₀ L h' m → News h₀ L h' ((it, citer (.ref q) v) :: news) → (∀ p ∈ news, p.1 < it) → Q (.ref it) { s with heap := h' }) :
    wpAny (model prog w) A (call (.builtin "iter") [.ref q, v]) Q E s := by
  refine Calls.call_function_entry kind_iter plain_iter entry_iter (args_iter2 _ _) ?_
  have hT : s.TypeIs (.ref q) "method" := ⟨_, N.get hq, rfl⟩
  show wpAny _ _ (do
    if (← specialOf (.ref q) "__call__").isNone then rule "iter.not-callable"; raiseError "TypeError" "iter(v, w): v must be callable"
    rule "iter.sentinel"; ret (← newFields "callable_iterator" [.ref q, v, .bool false])) _ _ _
  refine wpAny_bind (wpAny_specialOf hT method_call_slot ?_)
  rw [if_neg (by decide)]
  refine wpAny_bind (wpAny_rule (wpAny_bind ?_))
  unfold newFields
  refine wpAny_newObj_type (wpAny_pure ⟨_, rfl, h _ _ (F.push _) (N.push F _) fun p hp => Heap.lt_size (N p hp).1⟩) (by size_fits)

theorem pyIter_citer {vs : Array Value} (N : News h₀ L s.heap news) (hi : (it, (⟨.type "callable_iterator", none, .fields vs, #[]⟩ : Obj)) ∈ news) (h : Q (.ref it) s) : wpAny (model prog w) A (pyIter (.ref it)) Q E s := by
  have hT : s.TypeIs (.ref it) "callable_iterator" := ⟨_, N.get hi, rfl⟩
  refine wpAny_pyIter_slot hT slot_citer_iter (wpAny_call_entry slot_citer_iter hT entry_citer_iter ?_ (args_citer_iter _))
  show wpAny _ _ (do ret (Value.ref it)) _ _ s
  exact wpAny_pure ⟨_, rfl, "callable_iterator", _, hT, slot_citer_next.lookup, h⟩

theorem borrows_method {f : Addr} {fd : FuncData} {dd : Option Addr} {sl : Array (Option Value)} {E : Value → Shared → Prop} {Q : Bool → Shared → Prop} (hq : s.heap.get? q = some (methodObj (.ref f) self)) (hf : s.heap.get? f = some ⟨.type "function", dd, .func fd, sl⟩) (h : Q true s) :
    wpAny (model prog w) A (borrowsExactly (.ref q)) Q E s := by
  unfold borrowsExactly
  refine wpAny_bind (wpAny_load hq ?_)
  dsimp only
  rw [if_pos (by decide)]
  refine wpAny_bind (wpAny_load hf ?_)
  exact wpAny_pure h
theorem wpAny_callBorrowed {f : Value} {pos : List Value} (hc : codeAny (model prog w) A (.call f ⟨pos, []⟩) (fun r s' => match r with | .ok (.ret v) => Q v s' | .ok _ => False | .error e => E e s') s) :
    wpAny (model prog w) A (callBorrowed f pos) Q E s := fun Γ p hΓ => by
  unfold callBorrowed
  rw [Sem.wp]
  refine wpCode_mono (fun r s' h => ?_) (hc _ p rfl (hΓ.enter _ none p (by intro x; cases x)))
  rcases r with e | (v | _ | _ | _) <;> first | exact h | exact h.elim

/-- the next of a sign's iterator: the call gives a text; the empty text ends -/
theorem pyNext_citer {f : Addr} {fd : FuncData} {dd : Option Addr} {sl : Array (Option Value)} {t : Tok} {Q : Option Value → Shared → Prop}
    (hh : A.handled = none)
    (hi : s.heap.get? it = some (citer (.ref q) (.str "" t))) (hq : s.heap.get? q = some (methodObj (.ref f) self)) (hf : s.heap.get? f = some ⟨.type "function", dd, .func fd, sl⟩)
    (hc : codeAny (model prog w) A.in1 (.call (.ref f) ⟨[self], []⟩) (fun r s' => ∃ x u, r = .ok (.ret (.str x u)) ∧
      s'.heap.get? it = some (citer (.ref q) (.str "" t)) ∧ s'.heap.get? q = some (methodObj (.ref f) self) ∧ s'.heap.get? f = some ⟨.type "function", dd, .func fd, sl⟩ ∧
      (x ≠ Str.ofString "" → Q (some (.str x u)) s') ∧
      (x = Str.ofString "" → ∀ h', h'.get? it = some cended → (∀ b o, b ≠ it → s'.heap.get? b = some o → h'.get? b = some o) → Q none { s' with heap := h' })) s) :
    wpAny (model prog w) A (pyNext (.ref it)) Q E s := by
  have hT : s.TypeIs (.ref it) "callable_iterator" := ⟨_, hi, rfl⟩
  unfold pyNext
  refine wpAny_bind (wpAny_attempt (wpAny_callSpecial?_slot (name := Str.ofString "__next__") hT slot_citer_next
    (wpAny_call (codeAny_call_builtin slot_citer_next.plain entry_citer_next (slot_citer_next.check _ _ _ _ _ _ _ _ hT (args_citer_next _) ?_)))))
  show wpAny _ _ (field (.ref it) 2 >>= _) _ _ _
  refine wpAny_bind (wpAny_field hi rfl (x := .bool false) rfl ?_)
  show wpAny _ _ (if (Value.bool false == Value.bool true) = true then _ else _) _ _ _
  rw [if_neg (by decide)]
  refine wpAny_bind (wpAny_field hi rfl (x := .ref q) rfl ?_)
  refine wpAny_bind (wpAny_attempt ?_)
  unfold callOutOfASlot
  refine wpAny_bind (borrows_method hq hf ?_)
  rw [if_pos rfl]
  refine wpAny_callBorrowed (method_call hq (codeAny_mono hc fun r s' h => ?_))
  obtain ⟨x, u, rfl, hi', hq', hf', h1, h2⟩ := h
  dsimp only
  refine wpAny_bind (wpAny_field hi' rfl (x := .bool false) rfl ?_)
  show wpAny _ _ (if (Value.bool false == Value.bool true) = true then _ else _) _ _ _
  rw [if_neg (by decide)]
  refine wpAny_bind (wpAny_field hi' rfl (x := .str "" t) rfl (wpAny_bind (wpAny_holding (eqBool_str ?_))))
  by_cases hx : x = Str.ofString ""
  · have e : ((Str.ofString "" : Str) == x) = true := by rw [hx]; simp
    rw [e]
    rw [if_neg (by decide)]
    refine wpAny_bind (wpAny_rule (wpAny_bind ?_))
    show wpAny _ _ (field (.ref it) 0 >>= _) _ _ _
    refine wpAny_bind (wpAny_field hi' rfl (x := .ref q) rfl (wpAny_bind ?_))
    unfold slotLetsGo
    refine wpAny_bind (borrows_method hq' hf' ?_)
    rw [if_pos rfl]
    refine wpAny_pure ?_
    refine wpAny_bind (wpAny_setField_rec hi' (by simp) fun H1 g1 k1 => ?_)
    refine wpAny_bind (wpAny_setField_rec (s := { s' with heap := H1 }) g1 (by simp) fun H2 g2 k2 => ?_)
    refine wpAny_setField_rec (s := { s' with heap := H2 }) g2 (by simp) fun H3 g3 k3 => ?_
    show wpAny _ _ (newExc (.type "StopIteration") [] >>= _) _ _ _
    refine wpAny_bind ?_
    simp only [newExc, newTuple]
    refine wpAny_bind (wpAny_newObj_type ?_ (by size_fits))
    refine wpAny_bind (m := firstArgMember _ _) (wpAny_of_eq (a := Value.none) (by first | rfl | (simp only [firstArgMember]; rfl)) ?_)
    refine wpAny_newObj_type ?_ (by size_fits)
    simp only [raiseNew]
    refine wpAny_bind (wpAny_handled ?_)
    rw [show A.in1.handled = none from hh]
    refine wpAny_bind (wpAny_pure (wpAny_throw ?_))
    refine wpAny_bind (wpAny_isInstance (T := "StopIteration") (b := true) ⟨_, Heap.get?_push_size _ rfl, rfl⟩ isSubtype_stop ?_)
    refine wpAny_pure (h2 hx _ (Heap.get?_push_of_some _ (Heap.get?_push_of_some _ g3)) fun b o hb eb => Heap.get?_push_of_some _ (Heap.get?_push_of_some _ ?_))
    exact (k3.2 b hb).trans ((k2.2 b hb).trans ((k1.2 b hb).trans eb))
  · have e : ((Str.ofString "" : Str) == x) = false := beq_eq_false_iff_ne.mpr fun q => hx q.symm
    rw [e]
    rw [if_pos (by decide)]
    refine wpAny_bind (wpAny_pure (wpAny_pure ?_))
    exact wpAny_pure (h1 hx)

theorem pyNext_cended {Q : Option Value → Shared → Prop} (hh : A.handled = none) (hi : s.heap.get? it = some cended)
    (h : ∀ h', (∀ b o, s.heap.get? b = some o → h'.get? b = some o) → Q none { s with heap := h' }) : wpAny (model prog w) A (pyNext (.ref it)) Q E s := by
  have hT : s.TypeIs (.ref it) "callable_iterator" := ⟨_, hi, rfl⟩
  unfold pyNext
  refine wpAny_bind (wpAny_attempt (wpAny_callSpecial?_slot (name := Str.ofString "__next__") hT slot_citer_next
    (wpAny_call (codeAny_call_builtin slot_citer_next.plain entry_citer_next (slot_citer_next.check _ _ _ _ _ _ _ _ hT (args_citer_next _) ?_)))))
  show wpAny _ _ (field (.ref it) 2 >>= _) _ _ _
  refine wpAny_bind (wpAny_field hi rfl (x := .bool true) rfl ?_)
  show wpAny _ _ (if (Value.bool true == Value.bool true) = true then _ else _) _ _ _
  rw [if_pos (by decide)]
  refine wpAny_bind (wpAny_rule (wpAny_bind ?_))
  show wpAny _ _ (newExc (.type "StopIteration") [] >>= _) _ _ _
  refine wpAny_bind ?_
  simp only [newExc, newTuple]
  refine wpAny_bind (wpAny_newObj_type ?_ (by size_fits))
  refine wpAny_bind (m := firstArgMember _ _) (wpAny_of_eq (a := Value.none) (by first | rfl | (simp only [firstArgMember]; rfl)) ?_)
  refine wpAny_newObj_type ?_ (by size_fits)
  simp only [raiseNew]
  refine wpAny_bind (wpAny_handled ?_)
  rw [show A.in1.handled = none from hh]
  refine wpAny_bind (wpAny_pure (wpAny_throw ?_))
  refine wpAny_bind (wpAny_isInstance (T := "StopIteration") (b := true) ⟨_, Heap.get?_push_size _ rfl, rfl⟩ isSubtype_stop ?_)
  exact wpAny_pure (h _ fun b o eb => Heap.get?_push_of_some _ (Heap.get?_push_of_some _ eb))
end

end
section
theorem startLoops : True := by
  w_top off
  trivial
local macro_rules | `(tactic| walk_at "zz none") => `(tactic| fail "zz none")
/-- a goal that the walk is to leave alone -/
noncomputable def Hold (P : Prop) : Prop := P
theorem hold {P : Prop} (h : Hold P) : P := h
theorem unhold {P : Prop} (h : P) : Hold P := h
section
variable {prog : Program} {w : World} {A : Around} {E : Value → Shared → Prop} {s : Shared} {env : Env} {Q : Flow → Shared → Prop} {x : Str} {px pos : Pos} {iter test : Expr} {body : List Stmt}
theorem For_rule (I : Nat → Value → Shared → Prop) (n : Nat)
    (h : wpAny (model prog w) A (eval iter env) (fun xv s₁ => wpAny (model prog w) A (pyIter xv) (fun it s₂ => I n it s₂) E s₁) E s)
    (turn : ∀ n it s, I n it s → wpAny (model prog w) A (pyNext it) (fun r s₁ => match r with
      | none => Q .next s₁
      | some v => wpAny (model prog w) A (storeName env x v) (fun _ s₂ => wpAny (model prog w) A (execs body env) (fun f s₃ => match f with
          | .next | .cont => Hold (∃ m, m < n ∧ I m it s₃)
          | .brk => Q .next s₃
          | .ret v => Q (.ret v) s₃) E s₂) E s₁) E s)
    (hs : ∀ x, foldedSetIterable iter env x = pure x := by intro _; rfl)
    (hE : PassesOwn (model prog w) A env E := by passes_own) :
    wpAny (model prog w) A (exec (.For (.Name x px) iter body [] pos) env) Q E s := by
  refine wpAny_For (wpAny_mono h (fun xv s₁ h₁ => wpAny_mono h₁ (fun it s₂ h₂ => ?_) fun _ _ e => e) fun _ _ e => e) hs
  refine codeAny_forLoop (fun n s => I n it s) (fun n s hI => ?_) n h₂
  refine wpAny_mono (turn n it s hI) (fun r s₁ hr => ?_) hE
  cases r with
  | none => exact wpAny_execs_nil hr
  | some v =>
    refine wpAny_mono (wpAny_assign_Name hr) (fun _ s₂ h₂ => wpAny_mono h₂ (fun f s₃ h₃ => ?_) hE) hE
    cases f <;> exact h₃
theorem While_rule (I : Nat → Shared → Prop) (n : Nat) (h : I n s)
    (turn : ∀ n s, I n s → wpAny (model prog w) A (isTrue test env (eval test env)) (fun b s₂ =>
        if b = true then wpAny (model prog w) A (execs body env) (fun f s₃ => match f with
            | .next | .cont => Hold (∃ m, m < n ∧ I m s₃)
            | .brk => Q .next s₃
            | .ret v => Q (.ret v) s₃) E s₂
        else Q .next s₂) E s)
    (hE : PassesOwn (model prog w) A env E := by passes_own) :
    wpAny (model prog w) A (exec (.While test body [] pos) env) Q E s := by
  refine wpAny_While (codeAny_whileLoop I (fun n s hI => ?_) n h)
  refine wpAny_mono (turn n s hI) (fun b s₂ h₂ => ?_) hE
  cases b with
  | false =>
    simp only [Bool.false_eq_true, if_false] at h₂ ⊢
    exact wpAny_execs_nil h₂
  | true =>
    simp only [if_true] at h₂ ⊢
    refine wpAny_mono h₂ (fun f s₃ h₃ => ?_) hE
    cases f <;> exact h₃
end
theorem Fr.congr {h₀ h : Heap} {L : Addr} {m m' : Str → Option Value} (F : Fr h₀ L h m) (e : ∀ y, m y = m' y) : Fr h₀ L h m' := (funext e : m = m') ▸ F

end
section
theorem startComp : True := by
  w_top off
  trivial
open LCg
section
variable {prog : Program} {w : World} {A : Around} {E : Value → Shared → Prop} {s : Shared} {h₀ : Heap} {L : Addr} {m : Str → Option Value} {env : Env}
/-- a comprehension's source that is walked -/
structure CSrc (prog : Program) (w : World) (A : Around) (h₀ : Heap) (L : Addr) (m : Str → Option Value) (env : Env) (elt : Expr) (x : Str) (scope : Scope) (cl : List (Str × Addr)) (Fin : List Value → List (Addr × Obj) → Prop) (s₂ : Shared) (I : Addr) (fp : List Addr) (n : Nat) (P : Nat → Value → Prop) (St : Nat → Heap → Prop) (S : List (Addr × Obj) → Prop) (news : List (Addr × Obj)) : Prop where
  W : Walks prog w A I fp [I] n P St
  hsz : n ≤ sizeLine
  hIo : ∀ i h, St i h → ∃ o, h.get? I = some o
  hSt : ∀ i h h' o nw, St i h → h.get? I = some o → h'.get? I = some o → (∀ b o, h₀.get? b = some o → h'.get? b = some o) → News h₀ L h' nw → S nw → St i h'
  hst : St 0 s₂.heap
  hfp : ∀ b ∈ fp, b < s₂.heap.objs.size
  F : Fr h₀ L s₂.heap m
  N : News h₀ L s₂.heap news
  hLI : L ≠ I
  hI₀ : h₀.get? I = none
  off : ∀ p ∈ news, p.1 ≠ I
  hS : S news
  R : CompRest prog w A h₀ L m env elt x scope cl s₂ S P Fin n 0 [] news
noncomputable def WalkSrc (prog : Program) (w : World) (A : Around) (h₀ : Heap) (L : Addr) (m : Str → Option Value) (env : Env) (elt : Expr) (x : Str) (scope : Scope) (cl : List (Str × Addr)) (Fin : List Value → List (Addr × Obj) → Prop) (it : Value) (s₂ : Shared) : Prop :=
  ∃ I fp n P St S news, it = .ref I ∧ CSrc prog w A h₀ L m env elt x scope cl Fin s₂ I fp n P St S news
theorem ListComp_X {elt iter : Expr} {x : Str} {px : Pos} {scope : Scope} {cl : List (Str × Addr)} {pos : Pos} {Q : Value → Shared → Prop} (F₀ : Fr h₀ L s.heap m)
    (hclos : closureFor scope env = pure cl) (hcell : ∀ y ∈ scope.names, y.2 ≠ .cell) (hkind : scope.kind = .function)
    (hnames : ∀ y ∈ scope.names, y.2 = .local → scope.names.lookup y.1 = some .local) (hx : scope.names.lookup x = some .local)
    (h : wpAny (model prog w) A (eval iter env) (fun xv s₁ => wpAny (model prog w) A (pyIter xv) (fun it s₂ => WalkSrc prog w A h₀ L m env elt x scope cl (FinE h₀ L m s₂ Q) it s₂) E s₁) E s)
    (hs : ∀ x, foldedSetIterable iter env x = pure x := by intro _; rfl) :
    wpAny (model prog w) A (eval (.ListComp elt [⟨.Name x px, iter, [], 0⟩] scope pos) env) Q E s := by
  rw [eval_ListComp]
  refine wpAny_comprehension_free (use := none) rfl hs hclos hkind hnames (wpAny_mono h (fun xv s₁ h₁ => wpAny_mono h₁ (fun it s₂ h₂ => ?_) fun _ _ e => e) fun _ _ e => e)
  obtain ⟨I, fp, n, P, St, S, news, rfl, C⟩ := h₂
  refine block_U C.W C.hsz C.hIo C.hSt hcell hkind hx C.hst C.hfp C.F C.N C.hLI C.hI₀ C.off C.hS C.R ?_
  intro D C h' tk m' ys news' F' N' o1 hn hC₀ hD₀ hCL hDL hCD offC fin
  refine ⟨m', hn, fun h'' hs'' => fin D h'' tk (F'.change hs'' hCL hC₀) (fun p hp => ?_) o1⟩
  refine ⟨hs''.extBut _ _ ?_ (N' p hp).1, (N' p hp).2⟩
  rcases List.mem_cons.mp hp with rfl | hp
  · exact Ne.symm hCD
  · exact offC p hp
theorem Assign_X {elt iter : Expr} {x y : Str} {px py : Pos} {scope : Scope} {cl : List (Str × Addr)} {pos spos : Pos} {Q : Flow → Shared → Prop} (F₀ : Fr h₀ L s.heap m) (hLe : env.locals = L)
    (hsw : swapsWith (.ListComp elt [⟨.Name x px, iter, [], 0⟩] scope pos) (some (.Name y py)) spos.line env = pure true)
    (hclos : closureFor scope env = pure cl) (hcell : ∀ z ∈ scope.names, z.2 ≠ .cell) (hkind : scope.kind = .function)
    (hnames : ∀ z ∈ scope.names, z.2 = .local → scope.names.lookup z.1 = some .local) (hx : scope.names.lookup x = some .local)
    (hy : env.kindOf y = some .local) (hp : (env.scope.kind == .class || (env.scope.kind == .module && env.locals != env.globals)) = false)
    (h : wpAny (model prog w) A (eval iter env) (fun xv s₁ => wpAny (model prog w) A (pyIter xv) (fun it s₂ => WalkSrc prog w A h₀ L m env elt x scope cl (FinA h₀ L m s₂ y Q) it s₂) E s₁) E s)
    (hs : ∀ x, foldedSetIterable iter env x = pure x := by intro _; rfl) :
    wpAny (model prog w) A (exec (.Assign [.Name y py] (.ListComp elt [⟨.Name x px, iter, [], 0⟩] scope pos) spos) env) Q E s := by
  subst hLe
  rw [exec_Assign_Name_used _ _ _ _ hsw]
  refine wpAny_bind (wpAny_standAt (wpAny_bind ?_))
  show wpAny _ A (do let _ ← comprehension (.ListComp elt [⟨.Name x px, iter, [], 0⟩] scope pos) scope env _ (newList []) false (eval iter env) (some (assign (.Name y py) env))) _ _ s
  refine wpAny_bind (wpAny_mono (wpAny_comprehension_free (use := some (assign (.Name y py) env)) (Q := fun _ s' => Q .next s') rfl hs hclos hkind hnames
    (wpAny_mono h (fun xv s₁ h₁ => wpAny_mono h₁ (fun it s₂ h₂ => ?_) fun _ _ e => e) fun _ _ e => e)) (fun _ s' hq => wpAny_pure (wpAny_pure hq)) fun _ _ e => e)
  obtain ⟨I, fp, n, P, St, S, news, rfl, C⟩ := h₂
  refine block_U C.W C.hsz C.hIo C.hSt hcell hkind hx C.hst C.hfp C.F C.N C.hLI C.hI₀ C.off C.hS C.R ?_
  intro D C h' tk m' ys news' F' N' o1 hn hC₀ hD₀ hCL hDL hCD offC fin
  show wpAny _ A (assign (.Name y py) env (.ref D)) _ _ _
  refine wpAny_assign_Name (wpAny_storeName_local hy F'.ns (fun h₂ hn₂ hs₂ => ?_) hp)
  have F₂ := F'.set hn₂ hs₂
  refine ⟨m', hn.sameBut hs₂ hCL, fun h'' hs'' => fin D h'' _ (F₂.change hs'' hCL hC₀) (fun p hp => ?_) o1⟩
  have z : h₂.get? p.1 = some p.2 := hs₂.extBut _ _ (N' p hp).2.1 (N' p hp).1
  refine ⟨hs''.extBut _ _ ?_ z, (N' p hp).2⟩
  rcases List.mem_cons.mp hp with rfl | hp
  · exact Ne.symm hCD
  · exact offC p hp
theorem st1 {I : Addr} {St : Nat → Heap → Prop} (W : ∀ i h h', St i h → (∀ b ∈ [I], ∀ o, h.get? b = some o → h'.get? b = some o) → St i h') : ∀ i (h h' : Heap) (o : Obj) (nw : List (Addr × Obj)), St i h → h.get? I = some o → h'.get? I = some o → (∀ b o, h₀.get? b = some o → h'.get? b = some o) → News h₀ L h' nw → True → St i h' :=
  fun i h h' o nw st e e' _ _ _ => W i h h' st fun b hb o' eb => by
    rw [List.mem_singleton.mp hb] at eb ⊢
    rw [e] at eb; cases eb; exact e'
theorem WalkSrc.bytes {elt : Expr} {x : Str} {scope : Scope} {cl : List (Str × Addr)} {Fin : Shared → List Value → List (Addr × Obj) → Prop} {b : Array UInt8} {t : Tok} {news : List (Addr × Obj)}
    (hh : A.handled = none) (F : Fr h₀ L s.heap m) (N : News h₀ L s.heap news) (hz : b.size ≤ sizeLine)
    (R : ∀ g, CompRest prog w A h₀ L m env elt x scope cl { s with heap := g } (fun _ => True) (fun i v => ∃ c u, b[i]? = some c ∧ v = .int (c.toNat : Int) u) (Fin { s with heap := g }) b.size 0 [] news) :
    wpAny (model prog w) A (pyIter (.bytes b t)) (fun it s₂ => WalkSrc prog w A h₀ L m env elt x scope cl (Fin s₂) it s₂) E s := by
  refine KBw.pyIter_bytes ?_
  exact ⟨_, _, _, _, _, _, news, rfl, KBw.walks hh _ b t, hz, fun i h st => by obtain ⟨o, e, _⟩ := st; exact ⟨o, e⟩, st1 (KBw.walks (prog := prog) (w := w) hh _ b t).frame, ⟨_, Heap.get?_push_size _ rfl, rfl, rfl⟩, fun b hb => by rw [List.mem_singleton.mp hb]; show _ < (Heap.push _ _).objs.size; rw [Heap.size_push]; exact Nat.lt_succ_self _, F.push _, N.grown fun _ _ e => Heap.get?_push_of_some _ e, Nat.ne_of_lt F.ns.lt, next_is_new F, fun p hp => Nat.ne_of_lt (Heap.lt_size (N p hp).1), trivial, R _⟩
theorem WalkSrc.str {elt : Expr} {x : Str} {scope : Scope} {cl : List (Str × Addr)} {Fin : Shared → List Value → List (Addr × Obj) → Prop} {b : Str} {t : Tok} {news : List (Addr × Obj)}
    (hh : A.handled = none) (F : Fr h₀ L s.heap m) (N : News h₀ L s.heap news) (hz : b.cps.size ≤ sizeLine)
    (R : ∀ g, CompRest prog w A h₀ L m env elt x scope cl { s with heap := g } (fun _ => True) (SignAt b) (Fin { s with heap := g }) b.cps.size 0 [] news) :
    wpAny (model prog w) A (pyIter (.str b t)) (fun it s₂ => WalkSrc prog w A h₀ L m env elt x scope cl (Fin s₂) it s₂) E s := by
  cases ha : b.cps.all (· < 128)
  · refine wpAny_pyIter_wide ha ?_
    exact ⟨_, _, _, _, _, _, news, rfl, Walks.strWide hh _ b t, hz, fun i h st => by obtain ⟨o, e, _⟩ := st; exact ⟨o, e⟩, st1 (Walks.strWide (prog := prog) (w := w) hh _ b t).frame, ⟨_, Heap.get?_push_size _ rfl, rfl, rfl⟩, fun b hb => by rw [List.mem_singleton.mp hb]; show _ < (Heap.push _ _).objs.size; rw [Heap.size_push]; exact Nat.lt_succ_self _, F.push _, N.grown fun _ _ e => Heap.get?_push_of_some _ e, Nat.ne_of_lt F.ns.lt, next_is_new F, fun p hp => Nat.ne_of_lt (Heap.lt_size (N p hp).1), trivial, R _⟩
  · refine wpAny_pyIter_ascii ha ?_
    exact ⟨_, _, _, _, _, _, news, rfl, Walks.strAscii hh _ b t, hz, fun i h st => by obtain ⟨o, e, _⟩ := st; exact ⟨o, e⟩, st1 (Walks.strAscii (prog := prog) (w := w) hh _ b t).frame, ⟨_, Heap.get?_push_size _ rfl, rfl, rfl⟩, fun b hb => by rw [List.mem_singleton.mp hb]; show _ < (Heap.push _ _).objs.size; rw [Heap.size_push]; exact Nat.lt_succ_self _, F.push _, N.grown fun _ _ e => Heap.get?_push_of_some _ e, Nat.ne_of_lt F.ns.lt, next_is_new F, fun p hp => Nat.ne_of_lt (Heap.lt_size (N p hp).1), trivial, R _⟩
theorem WalkSrc.range {elt : Expr} {x : Str} {scope : Scope} {cl : List (Str × Addr)} {Fin : Shared → List Value → List (Addr × Obj) → Prop} {r : Addr} {a b : Int} {t u v : Tok} {n : Nat} {news : List (Addr × Obj)}
    (hh : A.handled = none) (F : Fr h₀ L s.heap m) (N : News h₀ L s.heap news) (hr : IsRange s.heap r a b 1 t u v) (hsm : Builtin.Range.small a b 1 = true) (hn : Builtin.Range.rangeSize a b 1 = ((n : Nat) : Int)) (hz : n ≤ sizeLine)
    (R : ∀ g, CompRest prog w A h₀ L m env elt x scope cl { s with heap := g } (fun _ => True) (fun i v => ∃ t, v = .int (a + (i : Int)) t) (Fin { s with heap := g }) n 0 [] news) :
    wpAny (model prog w) A (pyIter (.ref r)) (fun it s₂ => WalkSrc prog w A h₀ L m env elt x scope cl (Fin s₂) it s₂) E s := by
  refine wpAny_pyIter_range hr hsm ?_
  exact ⟨_, _, _, _, _, _, news, rfl, range_walks hh a n, hz, fun i h st => ⟨_, st⟩, range_st, by show IsRangeIter _ _ _ _ _; rw [hn]; simpa using Heap.get?_push_size _ rfl, fun b hb => by rw [List.mem_singleton.mp hb]; show _ < (Heap.push _ _).objs.size; rw [Heap.size_push]; exact Nat.lt_succ_self _, F.push _, N.grown fun _ _ e => Heap.get?_push_of_some _ e, Nat.ne_of_lt F.ns.lt, next_is_new F, fun p hp => Nat.ne_of_lt (Heap.lt_size (N p hp).1), trivial, R _⟩
theorem WalkSrc.list {elt : Expr} {x : Str} {scope : Scope} {cl : List (Str × Addr)} {Fin : Shared → List Value → List (Addr × Obj) → Prop} {ax : Addr} {its : Array Value} {k : Nat} {news : List (Addr × Obj)}
    (hh : A.handled = none) (F : Fr h₀ L s.heap m) (N : News h₀ L s.heap news) (hm : (ax, W.listOf its k) ∈ news) (hz : its.size ≤ sizeLine)
    (R : ∀ g, CompRest prog w A h₀ L m env elt x scope cl { s with heap := g } (fun nw => ∃ k, (ax, W.listOf its k) ∈ nw) (fun i v => its[i]? = some v) (Fin { s with heap := g }) its.size 0 [] news) :
    wpAny (model prog w) A (pyIter (.ref ax)) (fun it s₂ => WalkSrc prog w A h₀ L m env elt x scope cl (Fin s₂) it s₂) E s := by
  have hl : s.heap.IsList ax its := ⟨_, (N _ hm).1, rfl, k, rfl⟩
  have hax : ax < s.heap.objs.size := Heap.lt_size (N _ hm).1
  refine wpAny_pyIter_list hl ?_
  exact ⟨_, _, _, _, _, _, news, rfl, Walks.list hh _ ax (Nat.ne_of_lt hax) its, hz, fun i h st => by obtain ⟨o, e, _⟩ := st.1; exact ⟨o, e⟩, fun i h h' o nw st e e' _ N' S' => by
    obtain ⟨o', q, r⟩ := st.1; rw [e] at q; cases q; obtain ⟨k, hk⟩ := S'; exact ⟨⟨o, e', r⟩, ⟨_, (N' _ hk).1, rfl, k, rfl⟩⟩, ⟨⟨_, Heap.get?_push_size _ rfl, rfl, rfl⟩, hl.push _⟩, fun b hb => by
      show b < (Heap.push _ _).objs.size
      rw [Heap.size_push]
      rcases List.mem_cons.mp hb with rfl | hb
      · exact Nat.lt_succ_self _
      · rw [List.mem_singleton.mp hb]; exact Nat.lt_succ_of_lt hax, F.push _, N.grown fun _ _ e => Heap.get?_push_of_some _ e, Nat.ne_of_lt F.ns.lt, next_is_new F, fun p hp => Nat.ne_of_lt (Heap.lt_size (N p hp).1), ⟨k, hm⟩, R _⟩
/-- a comprehension of any length by what holds between the turns -/
theorem compRest {elt : Expr} {x : Str} {scope : Scope} {cl : List (Str × Addr)} {S : List (Addr × Obj) → Prop} {P : Nat → Value → Prop} {Fin : List Value → List (Addr × Obj) → Prop} {n : Nat} (J : Nat → List Value → List (Addr × Obj) → Prop)
    (turn : ∀ i ys news, i < n → J i ys news → ∀ v I oI C oC D m₂ h tk (E' : Value → Shared → Prop), P i v → NsObj oC m₂ → m₂ x = some v → Fr h₀ L h m → News h₀ L h ((I, oI) :: (C, oC) :: (D, lst ys) :: news) → Off3 I C D news → ((@Ne Nat I C) ∧ (@Ne Nat I D) ∧ (@Ne Nat C D)) →
      wpAny (model prog w) A (eval elt (compEnvC scope cl C env)) (CompEnd h₀ L m { s with heap := h, toks := tk } I oI C oC D (lst ys) S (fun y news' => Hold (J (i + 1) (ys ++ [y]) news'))) E' { s with heap := h, toks := tk })
    (fin : ∀ ys news, J n ys news → Fin ys news) :
    ∀ k i ys news, i + k = n → J i ys news → CompRest prog w A h₀ L m env elt x scope cl s S P Fin k i ys news
  | 0, i, ys, news, e, h => by
    have : i = n := by (first | lia | omega)
    subst this
    exact fin ys news h
  | k + 1, i, ys, news, e, h => CompRest.succ fun v I oI C oC D m₂ hp tk E' hP hC hx F N off ne =>
      wpAny_mono (turn i ys news (by (first | lia | omega)) h v I oI C oC D m₂ hp tk E' hP hC hx F N off ne) (fun y s₂ h₂ => by
        obtain ⟨h', tk', news', e2, F', N', off', hS, hJ⟩ := h₂
        exact ⟨h', tk', news', e2, F', N', off', hS, compRest J turn fin k (i + 1) _ _ (by (first | lia | omega)) hJ⟩) fun _ _ e => e
end
section
variable {prog : Program} {w : World} {A : Around} {s : Shared} {h₀ : Heap} {L : Addr} {m : Str → Option Value} {env : Env}
/-- the same where the ledger stays -/
theorem compRestC {elt : Expr} {x : Str} {scope : Scope} {cl : List (Str × Addr)} {S : List (Addr × Obj) → Prop} {P : Nat → Value → Prop} {Fin : List Value → List (Addr × Obj) → Prop} {n : Nat} {news : List (Addr × Obj)} (J : Nat → List Value → Prop)
    (j0 : J 0 [])
    (turn : ∀ i ys, i < n → J i ys → ∀ v I oI C oC D m₂ h tk (E' : Value → Shared → Prop), P i v → NsObj oC m₂ → m₂ x = some v → Fr h₀ L h m → News h₀ L h ((I, oI) :: (C, oC) :: (D, lst ys) :: news) → Off3 I C D news → ((@Ne Nat I C) ∧ (@Ne Nat I D) ∧ (@Ne Nat C D)) →
      wpAny (model prog w) A (eval elt (compEnvC scope cl C env)) (CompEnd h₀ L m { s with heap := h, toks := tk } I oI C oC D (lst ys) S (fun y news' => Hold (news' = news ∧ J (i + 1) (ys ++ [y])))) E' { s with heap := h, toks := tk })
    (fin : ∀ ys, J n ys → Fin ys news) :
    CompRest prog w A h₀ L m env elt x scope cl s S P Fin n 0 [] news :=
  compRest (fun i ys nw => nw = news ∧ J i ys) (fun i ys nw hi hJ => by
    obtain ⟨e, j⟩ := hJ
    subst e
    exact turn i ys hi j) (fun ys nw hJ => by
    obtain ⟨e, j⟩ := hJ
    subst e
    exact fin ys j) n 0 [] news (Nat.zero_add _) ⟨rfl, j0⟩
end

end
section
theorem startForW : True := by
  w_top off
  trivial
local macro_rules | `(tactic| walk_at "zz none") => `(tactic| fail "zz none")
open LCg
section
variable {prog : Program} {w : World} {A : Around} {E : Value → Shared → Prop} {s : Shared} {h₀ : Heap} {L : Addr} {env : Env} {Q : Flow → Shared → Prop} {x : Str} {px pos : Pos} {iter : Expr} {body : List Stmt}
/-- what a turn of a for loop leaves -/
noncomputable def TurnEnd (h₀ : Heap) (L : Addr) (s₁ : Shared) (I : Addr) (oI : Obj) (J : (Str → Option Value) → List (Addr × Obj) → Prop) (s' : Shared) : Prop :=
  ∃ h' tk m' news', s' = { s₁ with heap := h', toks := tk } ∧ Fr h₀ L h' m' ∧ News h₀ L h' ((I, oI) :: news') ∧ (∀ p ∈ news', p.1 ≠ I) ∧ J m' news'
theorem TurnEnd.intro {s₁ : Shared} {I : Addr} {oI : Obj} {J : (Str → Option Value) → List (Addr × Obj) → Prop} {h' : Heap} {tk : Nat} {m' : Str → Option Value} {all news' : List (Addr × Obj)}
    (F : Fr h₀ L h' m') (N : News h₀ L h' all) (sub : ∀ p ∈ (I, oI) :: news', p ∈ all) (off : ∀ p ∈ news', p.1 ≠ I) (j : J m' news') : TurnEnd h₀ L s₁ I oI J { s₁ with heap := h', toks := tk } :=
  ⟨h', tk, m', news', rfl, F, fun p hp => N p (sub p hp), off, j⟩
structure ForSrc (prog : Program) (w : World) (A : Around) (h₀ : Heap) (L : Addr) (env : Env) (x : Str) (body : List Stmt) (Q : Flow → Shared → Prop) (E : Value → Shared → Prop) (s₂ : Shared) (I : Addr) (fp : List Addr) (n : Nat) (P : Nat → Value → Prop) (St : Nat → Heap → Prop) (S : List (Addr × Obj) → Prop) (m0 : Str → Option Value) (news : List (Addr × Obj)) : Prop where
  W : Walks prog w A I fp [I] n P St
  hIo : ∀ i h, St i h → ∃ o, h.get? I = some o
  hSt : ∀ i h h' o nw, St i h → h.get? I = some o → h'.get? I = some o → (∀ b o, h₀.get? b = some o → h'.get? b = some o) → News h₀ L h' nw → S nw → St i h'
  hst : St 0 s₂.heap
  F : Fr h₀ L s₂.heap m0
  N : News h₀ L s₂.heap news
  hLI : L ≠ I
  hLf : L ∉ fp
  hI₀ : h₀.get? I = none
  off : ∀ p ∈ news, p.1 ≠ I
  R : ∃ J : Nat → (Str → Option Value) → List (Addr × Obj) → Prop, J 0 m0 news ∧ (∀ i m nw, J i m nw → S nw) ∧
    (∀ i m nw v h tk oI, i < n → J i m nw → P i v → Fr h₀ L h (fun y => if y = x then some v else m y) → News h₀ L h ((I, oI) :: nw) → (∀ p ∈ nw, p.1 ≠ I) →
      wpAny (model prog w) A (execs body env) (fun f s₃ => match f with
        | .next | .cont => Hold (TurnEnd h₀ L s₂ I oI (J (i + 1)) s₃)
        | .brk => Q .next s₃
        | .ret v => Q (.ret v) s₃) E { s₂ with heap := h, toks := tk }) ∧
    (∀ m nw h tk, J n m nw → Fr h₀ L h m → News h₀ L h nw → Q .next { s₂ with heap := h, toks := tk })
theorem For_walk {m₀ : Str → Option Value} (F₀ : Fr h₀ L s.heap m₀) (hkind : env.scope.kind = .function) (hx : env.kindOf x = some .local) (hL : env.locals = L)
    (h : wpAny (model prog w) A (eval iter env) (fun xv s₁ => wpAny (model prog w) A (pyIter xv) (fun it s₂ => ∃ I fp n P St S m0 news, it = .ref I ∧ ForSrc prog w A h₀ L env x body Q E s₂ I fp n P St S m0 news) E s₁) E s)
    (hs : ∀ x, foldedSetIterable iter env x = pure x := by intro _; rfl)
    (hE : PassesOwn (model prog w) A env E := by passes_own) :
    wpAny (model prog w) A (exec (.For (.Name x px) iter body [] pos) env) Q E s := by
  subst hL
  clear F₀
  refine wpAny_For (wpAny_mono h (fun xv s₁ h₁ => wpAny_mono h₁ (fun it s₂ h₂ => ?_) fun _ _ e => e) fun _ _ e => e) hs
  obtain ⟨I, fp, n, P, St, S, m0, news, rfl, C⟩ := h₂
  obtain ⟨J, j0, jS, turn, fin⟩ := C.R
  refine codeAny_forLoop (fun k s' => ∃ h' tk i m nw, s' = { s₂ with heap := h', toks := tk } ∧ i ≤ n ∧ k = n + 1 - i ∧ St i h' ∧ Fr h₀ env.locals h' m ∧ News h₀ env.locals h' nw ∧ (∀ p ∈ nw, p.1 ≠ I) ∧ J i m nw) ?_ (n + 1)
    ⟨_, _, 0, m0, news, rfl, Nat.zero_le _, rfl, C.hst, C.F, C.N, C.off, j0⟩
  rintro k s' ⟨h', tk, i, m, nw, rfl, hi, rfl, hst, F, N, off, j⟩
  by_cases hlt : i < n
  · refine C.W.item i _ _ _ hlt hst fun v h₂ tk₂ hPv hst₂ hk₂ => ?_
    have F₂ := fr_but F hk₂ C.hLI C.hI₀
    have N₂ : News h₀ env.locals h₂ nw := news_but N hk₂ off
    refine wpAny_assign_Name (wpAny_storeName_local hx F₂.ns (fun h₃ hn₃ hs₃ => ?_) (by rw [hkind]; rfl))
    have F₃ := F₂.set hn₃ hs₃
    have hst₃ : St (i + 1) h₃ := C.W.frame _ _ _ hst₂ fun b hb o e => hs₃.extBut b o (fun q => C.hLf (q ▸ hb)) e
    obtain ⟨oI, heI⟩ := C.hIo _ _ hst₃
    have N₃ : News h₀ env.locals h₃ ((I, oI) :: nw) := fun p hp => by
      rcases List.mem_cons.mp hp with rfl | hp
      · exact ⟨heI, Ne.symm C.hLI, C.hI₀⟩
      · exact ⟨hs₃.extBut _ _ (N₂ p hp).2.1 (N₂ p hp).1, (N₂ p hp).2⟩
    refine wpAny_mono (turn i m nw v h₃ _ oI hlt j hPv (Fr.congr F₃ fun y => rfl) N₃ off) (fun f s₃ h₃' => ?_) hE
    have next : TurnEnd h₀ env.locals s₂ I oI (J (i + 1)) s₃ → ∃ m, m < n + 1 - i ∧ ∃ h' tk i m_1 nw, s₃ = { s₂ with heap := h', toks := tk } ∧ i ≤ n ∧ m = n + 1 - i ∧ St i h' ∧ Fr h₀ env.locals h' m_1 ∧ News h₀ env.locals h' nw ∧ (∀ p ∈ nw, p.1 ≠ I) ∧ J i m_1 nw := by
      rintro ⟨h₄, tk₄, m₄, nw₄, rfl, F₄, N₄, off₄, j₄⟩
      have N₄' : News h₀ env.locals h₄ nw₄ := fun p hp => N₄ p (List.mem_cons_of_mem _ hp)
      exact ⟨n + 1 - (i + 1), by (first | lia | omega), h₄, tk₄, i + 1, m₄, nw₄, rfl, hlt, rfl, C.hSt _ _ _ _ _ hst₃ heI (N₄ _ List.mem_cons_self).1 F₄.keep N₄' (jS _ _ _ j₄), F₄, N₄', off₄, j₄⟩
    cases f with
    | next => exact next h₃'
    | cont => exact next h₃'
    | brk => exact h₃'
    | ret v => exact h₃'
  · obtain rfl : i = n := Nat.le_antisymm hi (Nat.not_lt.mp hlt)
    refine C.W.done _ _ _ hst fun h₂ tk₂ hk₂ => ?_
    exact wpAny_execs_nil (fin _ _ _ _ j (fr_but F hk₂ C.hLI C.hI₀) (news_but N hk₂ off))

theorem for_str {b : Str} {t : Tok} {m : Str → Option Value} {news : List (Addr × Obj)} (J : Nat → (Str → Option Value) → List (Addr × Obj) → Prop)
    (hh : A.handled = none) (F : Fr h₀ L s.heap m) (N : News h₀ L s.heap news) (j0 : J 0 m news)
    (turn : ∀ g I i m nw v h tk oI, i < b.cps.size → J i m nw → SignAt b i v → Fr h₀ L h (fun y => if y = x then some v else m y) → News h₀ L h ((I, oI) :: nw) → (∀ p ∈ nw, p.1 ≠ I) →
      wpAny (model prog w) A (execs body env) (fun f s₃ => match f with
        | .next | .cont => Hold (TurnEnd h₀ L { s with heap := g } I oI (J (i + 1)) s₃)
        | .brk => Q .next s₃
        | .ret v => Q (.ret v) s₃) E { s with heap := h, toks := tk })
    (fin : ∀ m nw h tk, J b.cps.size m nw → Fr h₀ L h m → News h₀ L h nw → Q .next { s with heap := h, toks := tk }) :
    wpAny (model prog w) A (pyIter (.str b t)) (fun it s₂ => ∃ I fp n P St S m0 news, it = .ref I ∧ ForSrc prog w A h₀ L env x body Q E s₂ I fp n P St S m0 news) E s := by
  have hLlt : L < s.heap.objs.size := F.ns.lt
  have off : ∀ p ∈ news, p.1 ≠ s.heap.objs.size := fun p hp => Nat.ne_of_lt (Heap.lt_size (N p hp).1)
  cases ha : b.cps.all (· < 128)
  · refine wpAny_pyIter_wide ha ?_
    exact ⟨_, _, _, _, _, fun _ => True, _, _, rfl, Walks.strWide hh _ b t, fun i h st => by obtain ⟨o, e, _⟩ := st; exact ⟨o, e⟩, fun i h h' o nw st e e' _ _ _ => by obtain ⟨o', q, r⟩ := st; rw [e] at q; cases q; exact ⟨o, e', r⟩, ⟨_, Heap.get?_push_size _ rfl, rfl, rfl⟩, F.push _, N.grown fun _ _ e => Heap.get?_push_of_some _ e, Nat.ne_of_lt hLlt, fun h => Nat.ne_of_lt hLlt (List.mem_singleton.mp h), next_is_new F, off, J, j0, fun _ _ _ _ => trivial, turn _ _, fin⟩
  · refine wpAny_pyIter_ascii ha ?_
    exact ⟨_, _, _, _, _, fun _ => True, _, _, rfl, Walks.strAscii hh _ b t, fun i h st => by obtain ⟨o, e, _⟩ := st; exact ⟨o, e⟩, fun i h h' o nw st e e' _ _ _ => by obtain ⟨o', q, r⟩ := st; rw [e] at q; cases q; exact ⟨o, e', r⟩, ⟨_, Heap.get?_push_size _ rfl, rfl, rfl⟩, F.push _, N.grown fun _ _ e => Heap.get?_push_of_some _ e, Nat.ne_of_lt hLlt, fun h => Nat.ne_of_lt hLlt (List.mem_singleton.mp h), next_is_new F, off, J, j0, fun _ _ _ _ => trivial, turn _ _, fin⟩
theorem for_list {ax : Addr} {its : Array Value} {m : Str → Option Value} {news : List (Addr × Obj)} (J : Nat → (Str → Option Value) → List (Addr × Obj) → Prop)
    (hh : A.handled = none) (F : Fr h₀ L s.heap m) (N : News h₀ L s.heap news) (j0 : J 0 m news) (jS : ∀ i m nw, J i m nw → ∃ k, (ax, listOf its k) ∈ nw)
    (turn : ∀ g I, (∀ p ∈ news, p.1 < I) → ∀ i m nw v h tk oI, i < its.size → J i m nw → its[i]? = some v → Fr h₀ L h (fun y => if y = x then some v else m y) → News h₀ L h ((I, oI) :: nw) → (∀ p ∈ nw, p.1 ≠ I) →
      wpAny (model prog w) A (execs body env) (fun f s₃ => match f with
        | .next | .cont => Hold (TurnEnd h₀ L { s with heap := g } I oI (J (i + 1)) s₃)
        | .brk => Q .next s₃
        | .ret v => Q (.ret v) s₃) E { s with heap := h, toks := tk })
    (fin : ∀ m nw h tk, J its.size m nw → Fr h₀ L h m → News h₀ L h nw → Q .next { s with heap := h, toks := tk }) :
    wpAny (model prog w) A (pyIter (.ref ax)) (fun it s₂ => ∃ I fp n P St S m0 news, it = .ref I ∧ ForSrc prog w A h₀ L env x body Q E s₂ I fp n P St S m0 news) E s := by
  have hLlt : L < s.heap.objs.size := F.ns.lt
  have off : ∀ p ∈ news, p.1 ≠ s.heap.objs.size := fun p hp => Nat.ne_of_lt (Heap.lt_size (N p hp).1)
  obtain ⟨k, hm⟩ := jS _ _ _ j0
  have hl : s.heap.IsList ax its := ⟨_, (N _ hm).1, rfl, k, rfl⟩
  have hax : ax < s.heap.objs.size := Heap.lt_size (N _ hm).1
  refine wpAny_pyIter_list hl ?_
  exact ⟨_, _, _, _, _, fun nw => ∃ k, (ax, listOf its k) ∈ nw, _, _, rfl, Walks.list hh _ ax (Nat.ne_of_lt hax) its, fun i h st => by obtain ⟨o, e, _⟩ := st.1; exact ⟨o, e⟩, fun i h h' o nw st e e' _ N' S' => by
    obtain ⟨o', q, r⟩ := st.1; rw [e] at q; cases q; obtain ⟨k, hk⟩ := S'; exact ⟨⟨o, e', r⟩, ⟨_, (N' _ hk).1, rfl, k, rfl⟩⟩, ⟨⟨_, Heap.get?_push_size _ rfl, rfl, rfl⟩, hl.push _⟩, F.push _, N.grown fun _ _ e => Heap.get?_push_of_some _ e, Nat.ne_of_lt hLlt, fun h => by
      rcases List.mem_cons.mp h with h | h
      · exact Nat.ne_of_lt hLlt h
      · exact (N _ hm).2.1 (List.mem_singleton.mp h).symm, next_is_new F, off, J, j0, jS, turn _ _ fun p hp => Heap.lt_size (N p hp).1, fin⟩
end

end
section
theorem startLex : True := by
  w_top off
  trivial
noncomputable abbrev sgn (c : Nat) : Str := ⟨#[c]⟩
noncomputable def nl (c : Nat) (ln : Int) : Int := if c = 10 then ln + 1 else ln
noncomputable def isWs (c : Nat) : Bool := c == 10 || c == 9 || c == 13 || c == 32
noncomputable def bare (acc : List Nat) : List Nat → Int → List Nat × List Nat × Int
  | [], ln => (acc, [], ln)
  | c :: cs, ln => if isWs c then (acc, cs, nl c ln) else if c = 92 then (match cs with
      | [] => (acc, [], nl c ln)
      | d :: ds => bare (acc ++ [d]) ds (nl d (nl c ln)))
    else bare (acc ++ [c]) cs (nl c ln)
noncomputable def quoted (acc : List Nat) : List Nat → Int → List Nat × List Nat × Int
  | [], ln => (acc, [], ln)
  | c :: cs, ln => if c = 34 then (acc, cs, nl c ln) else if c = 92 then (match cs with
      | [] => (acc, [], nl c ln)
      | d :: ds => quoted (acc ++ [d]) ds (nl d (nl c ln)))
    else quoted (acc ++ [c]) cs (nl c ln)
noncomputable def tok0 : List Nat → Int → List Nat × List Nat × Int
  | [], ln => ([], [], ln)
  | c :: cs, ln => if isWs c then tok0 cs (nl c ln) else if c = 34 then quoted [] cs (nl c ln) else if c = 92 then (match cs with
      | [] => ([], [], nl c ln)
      | d :: ds => bare [d] ds (nl d (nl c ln)))
    else bare [c] cs (nl c ln)
noncomputable abbrev tx (l : List Nat) : Str := ⟨l.toArray⟩
theorem tx_nil : Str.ofString "" = tx [] := by decide +kernel
theorem tx_app (l : List Nat) (c : Nat) : tx l ++ sgn c = tx (l ++ [c]) := by
  show (⟨l.toArray ++ #[c]⟩ : Str) = ⟨(l ++ [c]).toArray⟩
  simp
theorem tx_empty (l : List Nat) : tx l ++ Str.ofString "" = tx l := by
  rw [tx_nil]
  show (⟨l.toArray ++ #[]⟩ : Str) = ⟨l.toArray⟩
  simp
theorem tx_len (l : List Nat) : (tx l).length = l.length := by
  show l.toArray.size = _
  simp
theorem sgn_len (c : Nat) : (sgn c).length = 1 := rfl
theorem nl_eq : Str.ofString "\n" = sgn 10 := by decide +kernel
theorem sgn_eq {a b : Nat} : (sgn a == sgn b) = decide (a = b) := by
  by_cases h : a = b
  · subst h; simp
  · rw [decide_eq_false h]
    exact beq_eq_false_iff_ne.mpr fun e => h (by
      have := congrArg (fun x : Str => x.cps) e
      simpa using this)
theorem nl_yes {c : Nat} {ln : Int} (h : (sgn c == Str.ofString "\n") = true) : nl c ln = ln + 1 := by
  rw [nl_eq, sgn_eq] at h
  exact if_pos (of_decide_eq_true h)
theorem nl_no {c : Nat} {ln : Int} (h : (sgn c == Str.ofString "\n") = false) : nl c ln = ln := by
  rw [nl_eq, sgn_eq] at h
  exact if_neg (of_decide_eq_false h)
theorem quo_yes {c : Nat} (h : (sgn c == Str.ofString "\"") = true) : c = 34 := by
  rw [show Str.ofString "\"" = sgn 34 from by decide +kernel, sgn_eq] at h; exact of_decide_eq_true h
theorem quo_no {c : Nat} (h : (sgn c == Str.ofString "\"") = false) : c ≠ 34 := by
  rw [show Str.ofString "\"" = sgn 34 from by decide +kernel, sgn_eq] at h; exact of_decide_eq_false h
theorem bsl_yes {c : Nat} (h : (sgn c == Str.ofString "\\") = true) : c = 92 := by
  rw [show Str.ofString "\\" = sgn 92 from by decide +kernel, sgn_eq] at h; exact of_decide_eq_true h
theorem bsl_no {c : Nat} (h : (sgn c == Str.ofString "\\") = false) : c ≠ 92 := by
  rw [show Str.ofString "\\" = sgn 92 from by decide +kernel, sgn_eq] at h; exact of_decide_eq_false h
theorem ws_is (c : Nat) : (Builtin.Str.occurrences (Str.ofString "\n\t\r ") (sgn c) 0 (Str.ofString "\n\t\r ").length 1).isEmpty = !isWs c := by
  have e : Str.ofString "\n\t\r " = tx [10, 9, 13, 32] := by decide +kernel
  have h := StrLaws.found_one (Str.ofString "\n\t\r ") c
  have d : decide (c ∈ (Str.ofString "\n\t\r ").cps.toList) = isWs c := by
    rw [e]
    simp [isWs, Bool.beq_eq_decide_eq, Bool.decide_or]
    simp only [Bool.or_assoc]
  rw [d] at h
  rw [← h, Bool.not_not]
theorem tok0_cons (c : Nat) (cs : List Nat) (ln : Int) : tok0 (c :: cs) ln = if isWs c then tok0 cs (nl c ln) else if c = 34 then quoted [] cs (nl c ln) else if c = 92 then (match cs with
      | [] => ([], [], nl c ln)
      | d :: ds => bare [d] ds (nl d (nl c ln)))
    else bare [c] cs (nl c ln) := by cases cs <;> rfl
theorem bare_cons (acc : List Nat) (c : Nat) (cs : List Nat) (ln : Int) : bare acc (c :: cs) ln = if isWs c then (acc, cs, nl c ln) else if c = 92 then (match cs with
      | [] => (acc, [], nl c ln)
      | d :: ds => bare (acc ++ [d]) ds (nl d (nl c ln)))
    else bare (acc ++ [c]) cs (nl c ln) := by cases cs <;> rfl
theorem quoted_cons (acc : List Nat) (c : Nat) (cs : List Nat) (ln : Int) : quoted acc (c :: cs) ln = if c = 34 then (acc, cs, nl c ln) else if c = 92 then (match cs with
      | [] => (acc, [], nl c ln)
      | d :: ds => quoted (acc ++ [d]) ds (nl d (nl c ln)))
    else quoted (acc ++ [c]) cs (nl c ln) := by cases cs <;> rfl
theorem len_empty : (Str.ofString "").length = 0 := by decide +kernel
theorem join_sz (l : List Nat) (h : l.length ≤ 100000) : ((l.map sgn).map (·.length)).sum + (l.map sgn).length * (Str.ofString "").length ≤ 16777216 := by
  have e : (Str.ofString "").length = 0 := by decide +kernel
  have e2 : ((l.map sgn).map (·.length)).sum = l.length := by
    clear h
    induction l with
    | nil => rfl
    | cons c l ih => simp only [List.map_cons, List.sum_cons, ih, sgn_len, List.length_cons]; (first | lia | omega)
  rw [e, e2]; (first | lia | omega)
theorem join_signs (l : List Nat) : Txt.join (Str.ofString "") (l.map sgn) = tx l := by
  have h := join_nil_signs (tx l)
  have e : signs (tx l) = l.map sgn := by simp [signs]
  rw [e] at h
  rw [show Txt.join (Str.ofString "") (l.map sgn) = Str.join (Str.ofString "") (l.map sgn) from StrLaws.glued_eq_join _ _]
  exact h

end
section
theorem startAp : True := by
  w_top off
  trivial
local macro_rules | `(tactic| walk_at "zz none") => `(tactic| fail "zz none")
noncomputable def ap (n : Nat) : List Nat := if n = 0 then [] else ap (n / 16) ++ [65 + n % 16]
decreasing_by (first | lia | omega)
theorem ap_zero : ap 0 = [] := by unfold ap; rfl
theorem ap_pos {n : Nat} (h : n ≠ 0) : ap n = ap (n / 16) ++ [65 + n % 16] := by rw [ap]; exact if_neg h
theorem ap_len (n k : Nat) (h : n < 16 ^ k) : (ap n).length ≤ k := by
  induction k generalizing n with
  | zero =>
    have : n = 0 := by simpa using h
    subst this; rw [ap_zero]; exact Nat.le_refl _
  | succ k ih =>
    by_cases h0 : n = 0
    · subst h0; rw [ap_zero]; exact Nat.zero_le _
    · rw [ap_pos h0, List.length_append]
      have := ih (n / 16) (by rw [Nat.pow_succ] at h; (first | lia | omega))
      simp only [List.length_cons, List.length_nil]
      (first | lia | omega)
noncomputable def by8 (l : List Nat) : Array UInt8 := (l.map UInt8.ofNat).toArray
theorem by8_nil : (#[] : Array UInt8) = by8 [] := rfl
theorem by8_app (a b : List Nat) : by8 a ++ by8 b = by8 (a ++ b) := by simp [by8]
theorem by8_size (l : List Nat) : (by8 l).size = l.length := by simp [by8]
theorem pick16 (n : Nat) : KBy.picked #[65, 66, 67, 68, 69, 70, 71, 72, 73, 74, 75, 76, 77, 78, 79, 80] (some (Int.fmod n 16)) (some (Int.fmod n 16 + 1)) = by8 [65 + n % 16] := by
  have e : Int.fmod (n : Int) 16 = ((n % 16 : Nat) : Int) := by
    rw [Int.fmod_eq_emod_of_nonneg _ (by decide)]; (first | lia | omega)
  rw [e]
  have h : n % 16 < 16 := Nat.mod_lt _ (by decide)
  generalize n % 16 = m at h
  revert h
  revert m
  decide +kernel
theorem fdiv16 (n : Nat) : Int.fdiv (n : Int) 16 = ((n / 16 : Nat) : Int) := by
  rw [Int.fdiv_eq_ediv_of_nonneg _ (by decide)]; (first | lia | omega)
theorem ap_mem (n : Nat) : ∀ c ∈ ap n, 65 ≤ c ∧ c < 81 := by
  induction n using Nat.strongRecOn with
  | _ n ih =>
    intro c hc
    by_cases h0 : n = 0
    · subst h0; rw [ap_zero] at hc; cases hc
    · rw [ap_pos h0] at hc
      rcases List.mem_append.mp hc with h | h
      · exact ih (n / 16) (by (first | lia | omega)) c h
      · rw [List.mem_singleton.mp h]; (first | lia | omega)
theorem by8_at {l : List Nat} {i : Nat} {c : UInt8} (hl : ∀ c ∈ l, c < 256) (h : (by8 l)[i]? = some c) : l[i]? = some c.toNat := by
  have : (by8 l)[i]? = (l.map UInt8.ofNat)[i]? := by simp [by8]
  rw [this, List.getElem?_map] at h
  cases e : l[i]? with
  | none => rw [e] at h; cases h
  | some y =>
    rw [e] at h
    have hy : y < 256 := hl y (List.mem_of_getElem? e)
    have : UInt8.ofNat y = c := by simpa using h
    rw [← this]
    simp [UInt8.toNat_ofNat, Nat.mod_eq_of_lt hy]

end
section
theorem startSlice : True := by
  w_top off
  trivial
theorem tx_list (l : List Nat) : (tx l).cps.toList = l := by simp
theorem tx_len' (l : List Nat) : (tx l).length = l.length := tx_len l
theorem sl_to (l : List Nat) (j : Nat) : Txt.slice (tx l) none (some (j : Int)) = tx (l.take j) := by
  have key : ∀ j : Nat, j ≤ l.length → Txt.slice (tx l) none (some (j : Int)) = tx (l.take j) := fun j hj => by
    have h := eq_of_beq (slice_closes_to (x := tx l) (j := (j : Int)) ⟨by (first | lia | omega), by rw [tx_list]; (first | lia | omega)⟩)
    rw [h, tx_list]
    simp
  by_cases hj : j ≤ l.length
  · exact key j hj
  · rw [slice_to_beyond (by rw [tx_len]; (first | lia | omega)), tx_len, key _ (Nat.le_refl _), List.take_of_length_le (Nat.le_refl _), List.take_of_length_le (by (first | lia | omega))]
theorem sl_from (l : List Nat) (i : Nat) : Txt.slice (tx l) (some (i : Int)) none = tx (l.drop i) := by
  by_cases hi : i ≤ l.length
  · rw [slice_from_eq (b := (tx l).length) (by (first | lia | omega)) (by rw [tx_len]; (first | lia | omega)) rfl, tx_list, tx_len]
    rw [List.take_of_length_le (by rw [List.length_drop]; (first | lia | omega))]
    simp
  · rw [slice_from_beyond (by rw [tx_len]; (first | lia | omega)), List.drop_eq_nil_of_le (by (first | lia | omega))]
theorem sl_ij (l : List Nat) (i j : Nat) (h : i ≤ j) (hj : j ≤ l.length) : Txt.slice (tx l) (some (i : Int)) (some (j : Int)) = tx ((l.drop i).take (j - i)) := by
  have e := eq_of_beq (slice_closesL (x := tx l) (i := (i : Int)) (j := (j : Int)) (by (first | lia | omega)) (by (first | lia | omega)) (by rw [tx_len]; (first | lia | omega)))
  rw [e, tx_list]
  have : ((j : Int) - (i : Int)).toNat = j - i := by (first | lia | omega)
  rw [this]
  simp
theorem tx_inj {a b : List Nat} : (tx a == tx b) = decide (a = b) := by
  by_cases h : a = b
  · subst h; simp
  · rw [decide_eq_false h]
    exact beq_eq_false_iff_ne.mpr fun e => h (by
      have := congrArg (fun x : Str => x.cps.toList) e
      simpa using this)
theorem it_at {l : List Nat} {i c : Nat} (h : l[i]? = some c) : Txt.item (tx l) (i : Int) = sgn c := by
  exact item_meets (Int.natCast_nonneg i) (by simpa using h)
theorem is34 (c : Nat) : (sgn c == Str.ofString "\"") = decide (c = 34) := by
  rw [show Str.ofString "\"" = sgn 34 from by decide +kernel, sgn_eq]
theorem drop_at {l : List Nat} {i c : Nat} (h : l[i]? = some c) : l.drop i = c :: l.drop (i + 1) := by
  obtain ⟨hi, e⟩ := List.getElem?_eq_some_iff.mp h
  rw [← e]; exact List.drop_eq_getElem_cons hi

end
section
theorem startUnq : True := by
  w_top off
  trivial
local macro_rules | `(tactic| walk_at "zz none") => `(tactic| fail "zz none")
noncomputable def unq : List Nat → List Nat
  | [] => []
  | c :: cs => if c = 34 then (match cs with
      | [] => []
      | d :: ds => if d = 34 then 34 :: unq ds else []) else c :: unq cs
theorem unq_nil : unq [] = [] := by rw [unq]
theorem unq_end : unq [34] = [] := by rw [unq, if_pos rfl]
theorem unq_two (ds : List Nat) : unq (34 :: 34 :: ds) = 34 :: unq ds := by simp [unq]
theorem unq_stop {d : Nat} (ds : List Nat) (h : d ≠ 34) : unq (34 :: d :: ds) = [] := by simp [unq, h]
theorem unq_cons {c : Nat} (cs : List Nat) (h : c ≠ 34) : unq (c :: cs) = c :: unq cs := by rw [unq.eq_def]; simp only; rw [if_neg h]
noncomputable def p257 (l : List Nat) : List Nat := if (l.drop 3).take 2 = [32, 34] then unq (l.drop 5) else []

end
section
theorem startPs : True := by
  w_top off
  trivial
noncomputable def wd (o p : Int) : List Nat := ap (o + p).toNat
noncomputable def qadd (ws : List Int) (p : Int) : List Int := if p ∈ ws then ws else ws ++ [p]
noncomputable def fireL (ms : List Int) (p s h : Int) : List Int :=
  let m1 := ms.set p.toNat (ms.getD p.toNat 0 % 2)
  let m2 := m1.set (p + s).toNat (m1.getD (p + s).toNat 0 + h)
  m2.set (p - s).toNat (m2.getD (p - s).toNat 0 + h)
/-- what the settling asks of a state: the turn, the marks, the line -/
structure PInv (Inv : Nat → List Int → List Int → Prop) : Prop where
  len : ∀ {t ms ws}, Inv t ms ws → ms.length = 32 ∧ ws.length ≤ 100 ∧ (∀ p ∈ ws, 1 ≤ p ∧ p ≤ 30) ∧ (∀ m ∈ ms, 0 ≤ m ∧ m ≤ 100) ∧ t ≤ 89
  deed : ∀ {t ms p ws}, Inv t ms (p :: ws) → t < 7 → Inv (t + 1) ms (qadd ws p)
  rest : ∀ {t ms p ws}, Inv t ms (p :: ws) → ms.getD p.toNat 0 / 2 = 0 → Inv (t + 1) (ms.set p.toNat (ms.getD p.toNat 0 % 2)) ws
  fire : ∀ {t ms p ws s}, Inv t ms (p :: ws) → s = 1 ∨ s = -1 → 0 < ms.getD p.toNat 0 / 2 → Inv (t + 1) (fireL ms p s (ms.getD p.toNat 0 / 2)) (qadd (qadd ws (p + s)) (p - s))
theorem ap_inj {a b : Nat} (h : ap a = ap b) : a = b := by
  induction a using Nat.strongRecOn generalizing b with
  | _ a ih =>
    by_cases ha : a = 0
    · subst ha
      by_cases hb : b = 0
      · exact hb.symm
      · rw [ap_zero, ap_pos hb] at h
        exact absurd (congrArg List.length h) (by simp)
    · by_cases hb : b = 0
      · subst hb
        rw [ap_zero, ap_pos ha] at h
        exact absurd (congrArg List.length h) (by simp)
      · rw [ap_pos ha, ap_pos hb] at h
        have h1 := List.append_inj' h rfl
        have e1 := ih (a / 16) (by (first | lia | omega)) h1.1
        have e2 : 65 + a % 16 = 65 + b % 16 := by simpa using h1.2
        (first | lia | omega)
theorem wd_inj {o p q : Int} (ho : 0 ≤ o) (hp : 0 ≤ p) (hq : 0 ≤ q) (h : wd o p = wd o q) : p = q := by
  have := ap_inj h; (first | lia | omega)
theorem wd_mem {o p : Int} {c : Nat} (h : c ∈ wd o p) : 65 ≤ c ∧ c < 81 := ap_mem _ c h
theorem wd_ne {o p : Int} (h : 0 < o + p) : wd o p ≠ [] := by
  unfold wd
  rw [ap_pos (by (first | lia | omega))]
  simp
theorem wd_len {o p : Int} (ho : 0 ≤ o ∧ o < 3000) (hp : 0 ≤ p ∧ p ≤ 31) : (wd o p).length ≤ 3 := ap_len _ 3 (by (first | lia | omega))

end
section
theorem startInts : True := by
  w_top off
  trivial
local macro_rules | `(tactic| walk_at "zz none") => `(tactic| fail "zz none")
section
variable {prog : Program} {w : World} {A : Around} {E : Value → Shared → Prop} {s : Shared} {h₀ : Heap} {L D b : Addr} {m : Str → Option Value} {news news' : List (Addr × Obj)} {n n2 : Nat} {vs ws : List Value} {ns ms : List Int} {k : Int} {t : Tok}
theorem ints_kf {vs : List Value} {ns : List Int} (h : IntsAre vs ns) : W.kf_ints vs = true := by
  induction h with
  | nil => rfl
  | cons n t _ ih => exact ih
theorem ints_any {vs : List Value} {ns : List Int} (h : IntsAre vs ns) : vs.any (isInt k) = decide (k ∈ ns) := by
  induction h with
  | nil => rfl
  | @cons n t vs ns _ ih =>
    rw [List.any_cons, ih]
    have : isInt k (.int n t) = decide (n = k) := by
      unfold isInt
      rfl
    rw [this]
    by_cases h1 : n = k
    · simp [h1]
    · have h2 : k ≠ n := fun e => h1 e.symm
      simp [h1, h2]
theorem ints_del {vs : List Value} {ns : List Int} (h : IntsAre vs ns) : k ∈ ns → ∃ j q, W.kf_at k vs = some j ∧ W.ki_delL vs j = some q ∧ IntsAre q (ns.erase k) := by
  induction h with
  | nil => intro h; cases h
  | @cons n t vs ns hv ih =>
    intro hk
    have hi : isInt k (.int n t) = decide (n = k) := by
      unfold isInt
      rfl
    by_cases h1 : n = k
    · refine ⟨0, vs, ?_, rfl, ?_⟩
      · unfold W.kf_at; rw [hi, decide_eq_true h1]; rfl
      · subst h1; rw [List.erase_cons_head]; exact hv
    · obtain ⟨j, q, e1, e2, e3⟩ := ih (by rcases List.mem_cons.mp hk with h | h; exact absurd h.symm h1; exact h)
      refine ⟨j + 1, .int n t :: q, ?_, ?_, ?_⟩
      · unfold W.kf_at; rw [hi, decide_eq_false h1, e1]; rfl
      · show (match W.ki_delL vs j with | some q => some (Value.int n t :: q) | none => none) = _
        rw [e2]
      · rw [List.erase_cons_tail (by simpa using h1)]; exact .cons _ _ e3
theorem in_ints {Q : Value → Shared → Prop} (N : News h₀ L s.heap news) (hm : (D, listOf vs.toArray n) ∈ news) (hI : IntsAre vs ns) (h : Q (.bool (decide (k ∈ ns))) s) :
    wpAny (model prog w) A (compareOp .In (.int k t) (.ref D)) Q E s :=
  W.kf_in N hm (by simpa using ints_kf hI) (by simpa using ints_any hI) h
theorem extend_ints {Q : Value → Shared → Prop} (F : Fr h₀ L s.heap m) (N : News h₀ L s.heap news) (hb : (b, listOf ws.toArray n2) ∈ news) (hne : ws.length ≠ 0)
    (U : Upd D (listOf vs.toArray n) (listOf (vs ++ ws).toArray (n + 1)) news news') (hz : vs.length + ws.length ≤ 10000)
    (h : ∀ h', Fr h₀ L h' m → News h₀ L h' news' → Q .none { s with heap := h' }) : wpAny (model prog w) A (call (.builtin "list.extend") [.ref D, .ref b]) Q E s := by
  refine W.kl_extend F N hb (l := vs ++ ws) (by simp) (by simpa using hne) U ?_ (by simp [PySem.sizeLine_eq]; (first | lia | omega)) (by simp [PySem.sizeLine_eq]; (first | lia | omega)) h
  have : Builtin.List.listTooLong (vs.toArray.size + ws.toArray.size) = false := by
    unfold Builtin.List.listTooLong
    simp only [List.size_toArray]
    rw [PySem.sizeLine_eq]
    exact decide_eq_false (by (first | lia | omega))
  rw [this, Bool.and_false]
  exact Bool.false_ne_true
theorem remove_ints {Q : Value → Shared → Prop} (F : Fr h₀ L s.heap m) (N : News h₀ L s.heap news) (hI : IntsAre vs ns) (hk : k ∈ ns) (hz : vs.length ≤ 10000)
    (h : ∀ q, IntsAre q (ns.erase k) → q.length ≤ vs.length → ∃ news', Upd D (listOf vs.toArray n) (listOf q.toArray (n + 1)) news news' ∧ ∀ h', Fr h₀ L h' m → News h₀ L h' news' → Q .none { s with heap := h' }) : wpAny (model prog w) A (call (.builtin "list.remove") [.ref D, .int k t]) Q E s := by
  obtain ⟨j, q, e1, e2, e3⟩ := ints_del hI hk
  have hql : q.length ≤ vs.length := by
    rw [e3.length, hI.length]
    exact List.length_erase_le
  obtain ⟨news', U, hQ⟩ := h q e3 hql
  exact W.kf_remove F N (by simpa using ints_kf hI) (by simpa using e1) (by simpa using e2) U (by simp [PySem.sizeLine_eq]; (first | lia | omega)) hQ
end

theorem ints_at {vs : List Value} {ns : List Int} (h : IntsAre vs ns) : ∀ {i : Nat} {v : Value}, vs[i]? = some v → ∃ p u, ns[i]? = some p ∧ v = .int p u := by
  induction h with
  | nil => intro i v e; cases e
  | @cons n t vs ns _ ih =>
    intro i v e
    cases i with
    | zero => exact ⟨n, t, rfl, by simpa using e.symm⟩
    | succ i => exact ih (by simpa using e)
theorem ints_app {vs ws : List Value} {ns ms : List Int} (h : IntsAre vs ns) (h2 : IntsAre ws ms) : IntsAre (vs ++ ws) (ns ++ ms) := by
  induction h with
  | nil => exact h2
  | cons n t _ ih => exact .cons n t ih

end
section
theorem startMirr : True := by
  w_top off
  trivial
theorem flt_lt (full : List Int) (q : Int) (h : q ∈ full) : (full.filter (fun x => decide (x ≤ q - 1))).length < (full.filter (fun x => decide (x ≤ q))).length := by
  induction full with
  | nil => cases h
  | cons c l ih =>
    have mono : (l.filter (fun x => decide (x ≤ q - 1))).length ≤ (l.filter (fun x => decide (x ≤ q))).length := by
      clear ih h
      induction l with
      | nil => exact Nat.le_refl _
      | cons d l ih =>
        simp only [List.filter_cons, decide_eq_true_eq]
        split <;> split <;> (try simp only [List.length_cons]) <;> (first | lia | omega)
    simp only [List.filter_cons, decide_eq_true_eq]
    by_cases hc : c = q
    · subst hc
      rw [if_neg (by (first | lia | omega)), if_pos (by (first | lia | omega)), List.length_cons]; (first | lia | omega)
    · have := ih (by rcases List.mem_cons.mp h with h | h; exact absurd h.symm hc; exact h)
      split <;> split <;> (try simp only [List.length_cons]) <;> (first | lia | omega)
theorem flt_gt (full : List Int) (q : Int) (h : q ∈ full) : (full.filter (fun x => decide (q + 1 ≤ x))).length < (full.filter (fun x => decide (q ≤ x))).length := by
  induction full with
  | nil => cases h
  | cons c l ih =>
    have mono : (l.filter (fun x => decide (q + 1 ≤ x))).length ≤ (l.filter (fun x => decide (q ≤ x))).length := by
      clear ih h
      induction l with
      | nil => exact Nat.le_refl _
      | cons d l ih =>
        simp only [List.filter_cons, decide_eq_true_eq]
        split <;> split <;> (try simp only [List.length_cons]) <;> (first | lia | omega)
    simp only [List.filter_cons, decide_eq_true_eq]
    by_cases hc : c = q
    · subst hc
      rw [if_neg (by (first | lia | omega)), if_pos (by (first | lia | omega)), List.length_cons]; (first | lia | omega)
    · have := ih (by rcases List.mem_cons.mp h with h | h; exact absurd h.symm hc; exact h)
      split <;> split <;> (try simp only [List.length_cons]) <;> (first | lia | omega)
noncomputable def lowOf (full : List Int) (q : Int) : Int := if q ∈ full then lowOf full (q - 1) else q
termination_by (full.filter (fun x => decide (x ≤ q))).length
decreasing_by exact flt_lt full q ‹_›
noncomputable def highOf (full : List Int) (q : Int) : Int := if q ∈ full then highOf full (q + 1) else q
termination_by (full.filter (fun x => decide (q ≤ x))).length
decreasing_by exact flt_gt full q ‹_›
theorem lowOf_in {full : List Int} {q : Int} (h : q ∈ full) : lowOf full q = lowOf full (q - 1) := by rw [lowOf]; exact if_pos h
theorem lowOf_out {full : List Int} {q : Int} (h : q ∉ full) : lowOf full q = q := by rw [lowOf]; exact if_neg h
theorem highOf_in {full : List Int} {q : Int} (h : q ∈ full) : highOf full q = highOf full (q + 1) := by rw [highOf]; exact if_pos h
theorem highOf_out {full : List Int} {q : Int} (h : q ∉ full) : highOf full q = q := by rw [highOf]; exact if_neg h
/-- between the start and the end the run is full; the ends are not -/
theorem lowOf_spec (full : List Int) (q : Int) : lowOf full q ∉ full ∧ lowOf full q ≤ q ∧ ∀ x, lowOf full q < x → x ≤ q → x ∈ full := by
  induction hn : (full.filter (fun x => decide (x ≤ q))).length using Nat.strongRecOn generalizing q with
  | _ n ih =>
    by_cases h : q ∈ full
    · rw [lowOf_in h]
      obtain ⟨a, b, c⟩ := ih _ (hn ▸ flt_lt full q h) (q - 1) rfl
      refine ⟨a, by (first | lia | omega), fun x h1 h2 => ?_⟩
      by_cases e : x = q
      · subst e; exact h
      · exact c x h1 (by (first | lia | omega))
    · rw [lowOf_out h]
      exact ⟨h, Int.le_refl _, fun x h1 h2 => by (first | lia | omega)⟩
theorem highOf_spec (full : List Int) (q : Int) : highOf full q ∉ full ∧ q ≤ highOf full q ∧ ∀ x, q ≤ x → x < highOf full q → x ∈ full := by
  induction hn : (full.filter (fun x => decide (q ≤ x))).length using Nat.strongRecOn generalizing q with
  | _ n ih =>
    by_cases h : q ∈ full
    · rw [highOf_in h]
      obtain ⟨a, b, c⟩ := ih _ (hn ▸ flt_gt full q h) (q + 1) rfl
      refine ⟨a, by (first | lia | omega), fun x h1 h2 => ?_⟩
      by_cases e : x = q
      · subst e; exact h
      · exact c x (by (first | lia | omega)) h2
    · rw [highOf_out h]
      exact ⟨h, Int.le_refl _, fun x h1 h2 => by (first | lia | omega)⟩
/-- one mark more -/
noncomputable def mstep (full : List Int) (p : Int) : List Int := (full ++ [lowOf full p, highOf full p]).erase (lowOf full p + highOf full p - p)
noncomputable def mall (ps : List Int) : List Int := ps.foldl mstep []
theorem mstep_in (full : List Int) (p : Int) : lowOf full p + highOf full p - p ∈ full ++ [lowOf full p, highOf full p] := by
  obtain ⟨a1, a2, a3⟩ := lowOf_spec full p
  obtain ⟨b1, b2, b3⟩ := highOf_spec full p
  by_cases h : p ∈ full
  · have h1 : lowOf full p ≠ p := fun e => a1 (by rw [e]; exact h)
    have h2 : highOf full p ≠ p := fun e => b1 (by rw [e]; exact h)
    refine List.mem_append.mpr (.inl ?_)
    by_cases hx : lowOf full p + highOf full p - p ≤ p
    · exact a3 _ (by (first | lia | omega)) hx
    · exact b3 _ (by (first | lia | omega)) (by (first | lia | omega))
  · rw [lowOf_out h, highOf_out h]
    refine List.mem_append.mpr (.inr ?_)
    have : p + p - p = p := by (first | lia | omega)
    rw [this]; exact .head _
theorem mstep_len (full : List Int) (p : Int) : (mstep full p).length = full.length + 1 := by
  unfold mstep
  rw [List.length_erase_of_mem (mstep_in full p), List.length_append]
  simp
theorem mall_succ {ps : List Int} {i : Nat} {p : Int} (h : ps[i]? = some p) : mall (ps.take (i + 1)) = mstep (mall (ps.take i)) p := by
  rw [List.take_add_one, h]
  simp only [mall, Option.toList, List.foldl_append, List.foldl_cons, List.foldl_nil]
theorem mall_len (ps : List Int) : (mall ps).length = ps.length := by
  have : ∀ (ps full : List Int), (ps.foldl mstep full).length = full.length + ps.length := by
    intro ps
    induction ps with
    | nil => intro full; rfl
    | cons p ps ih => intro full; rw [List.foldl_cons, ih, mstep_len, List.length_cons]; (first | lia | omega)
  rw [mall, this]; simp

end
section
theorem startItems : True := by
  w_top off
  trivial
local macro_rules | `(tactic| walk_at "zz none") => `(tactic| fail "zz none")
section
variable {prog : Program} {w : World} {A : Around} {E : Value → Shared → Prop} {s : Shared} {h₀ : Heap} {L D : Addr} {news : List (Addr × Obj)} {vs : List Value} {n : Nat}
theorem item_txs {value slice : Expr} {ys : List Str} {k : Int} {u : Tok} {Q : Value → Shared → Prop} (ls : List (List Nat)) (N : News h₀ L s.heap news) (hm : (D, W.listOf vs.toArray n) ∈ news) (hi : StrsAre vs ys) (hy : ys = ls.map tx)
    (h0 : 0 ≤ k) (hk : k < ls.length) (hl : ls.length ≤ 1000) (h : ∀ t, Q (.str (tx (ls.getD k.toNat [])) t) s)
    (hs : subscripted slice false (.ref D) (.int k u) = operate [.ref D, .int k u] (getItem (.ref D) (.int k u)) := by with_unfolding_all rfl) :
    wpAny (model prog w) A (subscriptTail value slice (.ref D) (.int k u)) Q E s := by
  subst hy
  refine item_strsR ⟨_, (N _ hm).1, rfl, n, rfl⟩ hi h0 (by rw [List.length_map]; exact hk) (by (first | lia | omega)) (fun t => ?_) hs
  have : (ls.map tx).getD k.toNat Str.empty = tx (ls.getD k.toNat []) := by
    have hlt : k.toNat < ls.length := by (first | lia | omega)
    simp [List.getD, hlt]
  rw [this]; exact h t
end
theorem fmod_lt (a : Int) {b : Int} (h : 0 < b) : 0 ≤ a.fmod b ∧ a.fmod b < b := ⟨Int.fmod_nonneg_of_pos a h, Int.fmod_lt_of_pos a h⟩

theorem fold34 : ∀ (k : Nat) (acc : Array Nat), (List.replicate k (sgn 34).cps).foldl (· ++ ·) acc = acc ++ (List.replicate k 34).toArray
  | 0, acc => by simp
  | k + 1, acc => by
    rw [List.replicate_succ, List.foldl_cons, fold34 k, List.replicate_succ]
    apply Array.toList_inj.mp
    simp only [Array.toList_append, List.append_assoc]
    rfl
theorem mul34 {n : Int} : Txt.mul (sgn 34) n = tx (List.replicate n.toNat 34) := by
  unfold Txt.mul
  by_cases h1 : n < 1
  · rw [if_pos h1]
    have : n.toNat = 0 := by (first | lia | omega)
    rw [this]; rfl
  · rw [if_neg h1]
    by_cases h2 : n = 1
    · subst h2; rfl
    · have h3 : (n == 1 || (sgn 34).length == 0) = false := by
        rw [beq_eq_false_iff_ne.mpr h2]; rfl
      rw [h3]
      simp only [Bool.false_eq_true, if_false]
      rw [fold34]
      simp
section
variable {prog : Program} {w : World} {A : Around} {E : Value → Shared → Prop} {s : Shared}
theorem add_tx {a b : List Nat} {t u : Tok} {Q : Value → Shared → Prop} (hsz : a.length + b.length ≤ 10000) (h : ∀ t' k, Q (.str (tx (a ++ b)) t') { s with toks := k }) : wpAny (model prog w) A (binaryOp .Add (.str (tx a) t) (.str (tx b) u)) Q E s :=
  SB.add (fun t' k => by
    have e : tx a ++ tx b = tx (a ++ b) := by
      show (⟨a.toArray ++ b.toArray⟩ : Str) = ⟨(a ++ b).toArray⟩
      simp
    rw [e]; exact h t' k) (by rw [tx_len, tx_len, PySem.sizeLine_eq]; (first | lia | omega))
theorem mul_q {n : Int} {t u : Tok} {Q : Value → Shared → Prop} (h0 : 0 ≤ n) (h1 : n ≤ 1000) (h : ∀ t' k, Q (.str (tx (List.replicate n.toNat 34)) t') { s with toks := k }) : wpAny (model prog w) A (binaryOp .Mult (.str (Str.ofString "\"") t) (.int n u)) Q E s := by
  rw [show Str.ofString "\"" = sgn 34 by decide +kernel]
  refine SB.mul (mulOk_of 16 1048576 (by decide) (by (first | lia | omega)) (by (first | lia | omega)) (by decide) (by decide)) fun t' k => ?_
  rw [mul34]; exact h t' k
end

end
section
theorem startExcStr : True := by
  w_top off
  trivial
open PySem.Builtin PySem.Builtin.Str PySem.Builtin.BaseException PySem.Builtin.Exceptions
section
variable {prog : Program} {w : World} {A : Around} {E : Value → Shared → Prop} {s : Shared} {e t0 C : Addr} {K : Frag} {oe ot : Obj} {ws : Array Value} {nt : Nat} {msg : Str} {tk : Tok}
theorem bexcArgsX {M : Model} {items : List Value} {Q : Value × List Value → Shared → Prop} (he : s.heap.get? e = some oe) (hd : oe.data = .fields ws) (h0 : ws[0]? = some (.ref t0)) (ht : s.heap.get? t0 = some ot) (htd : ot.data = .seq items.toArray nt) (hq : Q (.ref t0, items) s) :
    wpAny M A (bexcArgs (.ref e)) Q E s := by
  unfold bexcArgs
  refine wpAny_bind (wpAny_field he hd h0 (wpAny_bind (wpAny_seqItems ht htd ?_)))
  have : items.toArray.toList = items := by simp
  show wpAny M A (pure (Value.ref t0, items.toArray.toList)) Q E s
  rw [this]; exact wpAny_pure hq
theorem bexcStrX {Q : Fin → Shared → Prop} (he : s.heap.get? e = some oe) (hd : oe.data = .fields ws) (h0 : ws[0]? = some (.ref t0)) (ht : s.heap.get? t0 = some ot) (htd : ot.data = .seq [Value.str msg tk].toArray nt) (hq : Q (.done (.ret (.str msg tk))) s) :
    wpAny (model prog w) A (Builtin.«BaseException.__str__» ⟨[.ref e], []⟩) Q E s := by
  unfold Builtin.«BaseException.__str__»
  repeat (first | with_reducible refine bexcArgsX he hd h0 ht htd ?_ | wp_step)
  exact hq
theorem excType {M : Model} {h : Heap} (he : h.get? e = some oe) (hc : oe.cls = .ref C) : Looks M h (typeOf (.ref e)) (.ref C) := hc ▸ (Looks.ld he).andThen .now
theorem bexcCheck {M : Model} {Q : Unit → Shared → Prop} (X : K.In s.heap) (he : s.heap.get? e = some oe) (hc : oe.cls = .ref C) (hm : mroIn K C (.type "BaseException") = some true) (hQ : Q () s) :
    wpAny M A (checkBuiltinCall "BaseException.__str__" ⟨[.ref e], []⟩) Q E s := by
  have hsplit : splitId "BaseException.__str__" = some ("BaseException", "__str__") := by decide +kernel
  have h : builtinKind "BaseException.__str__" = some .slot := by decide +kernel
  have hi : Looks M s.heap (isInstance (.ref e) (.type "BaseException")) true := by
    unfold isInstance
    exact (excType he hc).andThen (looks_mroIn X hm)
  simp only [checkBuiltinCall, h, hsplit]
  refine wpAny_bind (hi.here ?_)
  simp only [Bool.not_true, Bool.false_eq_true, if_false]
  have ha := F.args_bexc_str (.ref e)
  cases hsig : Manifest.signature? "BaseException.__str__" with
  | none => exact wpAny_pure hQ
  | some sig =>
    simp only [argsOk, hsig] at ha
    have h2 : Bind.checkArgs "BaseException.__str__" sig ⟨[.ref e], []⟩ = pure () := ha
    show wpAny M A (Bind.checkArgs _ sig ⟨[.ref e], []⟩) Q E s
    rw [h2]; exact wpAny_pure hQ
theorem callBexc {Q : Value → Shared → Prop} (X : K.In s.heap) (he : s.heap.get? e = some oe) (hc : oe.cls = .ref C) (hm : mroIn K C (.type "BaseException") = some true) (hd : oe.data = .fields ws) (h0 : ws[0]? = some (.ref t0)) (ht : s.heap.get? t0 = some ot) (htd : ot.data = .seq [Value.str msg tk].toArray nt) (hq : Q (.str msg tk) s) :
    wpAny (model prog w) A (call (.builtin "BaseException.__str__") [.ref e]) Q E s :=
  wpAny_call (codeAny_call_builtin F.excStr_Exception.str.plain F.entry_bexc_str (bexcCheck X he hc hm (bexcStrX he hd h0 ht htd hq)))
theorem strOfX {Q : Value → Shared → Prop} (hu : A.units < cLine) (X : K.In s.heap) (hs : findIn K (.ref C) "__str__" = some (some (.builtin "BaseException.__str__"))) (he : s.heap.get? e = some oe) (hc : oe.cls = .ref C) (hm : mroIn K C (.type "BaseException") = some true) (hd : oe.data = .fields ws) (h0 : ws[0]? = some (.ref t0)) (ht : s.heap.get? t0 = some ot) (htd : ot.data = .seq [Value.str msg tk].toArray nt) (hq : Q (.str msg tk) s) :
    wpAny (model prog w) A (PySem.Builtin.Str.strOf (.ref e)) Q E s := by
  unfold PySem.Builtin.Str.strOf
  rw [show isExactStr (.ref e) = false from rfl]
  refine wpAny_bind (m := cRoomFor _ _) (wpAny_cRoomFor hu ?_)
  refine wpAny_bind (m := callSpecial? (.ref e) (Str.ofString "__str__")) ?_
  unfold callSpecial?
  refine wpAny_bind (wpAny_bind ((excType he hc).here ((looks_findIn X hs).here ?_)))
  dsimp only
  refine wpAny_holding ?_
  rw [F.excStr_Exception.str.bind]
  refine wpAny_bind (wpAny_pure ?_)
  refine wpAny_bind (wpAny_mono (callBexc X he hc hm hd h0 ht htd (Q := fun v s' => v = .str msg tk ∧ s' = s) ⟨rfl, rfl⟩) (fun v s' hv => ?_) fun _ _ y => y)
  obtain ⟨rfl, rfl⟩ := hv
  refine wpAny_pure ?_
  exact wpAny_pure hq
theorem strCallX {Q : Value → Shared → Prop} (hu : A.in1.in1.units < cLine) (X : K.In s.heap) (hs : findIn K (.ref C) "__str__" = some (some (.builtin "BaseException.__str__"))) (he : s.heap.get? e = some oe) (hc : oe.cls = .ref C) (hm : mroIn K C (.type "BaseException") = some true) (hd : oe.data = .fields ws) (h0 : ws[0]? = some (.ref t0)) (ht : s.heap.get? t0 = some ot) (htd : ot.data = .seq [Value.str msg tk].toArray nt) (hq : Q (.str msg tk) s) :
    wpAny (model prog w) A (call (.type "str") [.ref e]) Q E s := by
  refine callType_codes (T := "str") (Bi := Builtin.«object.__init__») (Q₁ := fun r s₁ => ∃ y u, r = .str y u ∧ Q r s₁) PySem.F.called_str (PySem.F.typeCall_str_1 _) PySem.F.entry_object_init ?_ ?_
  · refine codeAny_of_tree ?_
    show wpAny _ A.in1.in1 (do checkBuiltinCall "str.__new__" ⟨[.type "str", .ref e], []⟩; again (.builtin "str.__new__" ⟨[.type "str", .ref e], []⟩)) _ _ s
    refine wpAny_bind (wpAny_of_eq (PySem.F.newCall_str_1 _) (wpAny_pure ⟨plainId_quiet (by decide +kernel) _, codeAny_builtin PySem.F.entry_str_new ?_⟩))
    rw [Around.under_plainId (by decide +kernel) _]
    rw [str_new_tree]
    refine wpAny_bind (wpAny_pure ?_)
    refine wpAny_bind (wpAny_of_eq isSubtype_str_str ?_)
    exact wpAny_bind (strOfX hu X hs he hc hm hd h0 ht htd (wpAny_pure ⟨_, _, rfl, hq⟩))
  · rintro obj s₁ ⟨y, u, rfl, hq⟩
    exact ⟨typeIs_str _ _ _, PySem.F.args_object_init_2 _ _, object_init_meets PySem.F.called_str.init.lookup PySem.F.called_str.made (by decide) prog w A.in1 _ s₁ ⟨typeIs_str _ _ _, rfl, hq⟩⟩
theorem strGot {h₀ h : Heap} {L : Addr} {news : List (Addr × Obj)} {g : Array GenState} {d : Drawn} {tk' : Nat} {os : OsState} {Q : Value → Shared → Prop} (X₀ : K.In h₀) {m : Str → Option Value} (F : Fr h₀ L h m) (N : News h₀ L h news) (G : Got news e t0 (.ref C) [.str msg tk]) (hu : A.in1.in1.units < cLine) (hs : findIn K (.ref C) "__str__" = some (some (.builtin "BaseException.__str__"))) (hm : mroIn K C (.type "BaseException") = some true) (hq : Q (.str msg tk) ⟨h, g, d, tk', os⟩) :
    wpAny (model prog w) A (call (.type "str") [.ref e]) Q E ⟨h, g, d, tk', os⟩ := by
  obtain ⟨oe, ot, ws, nt, h1, h2, hc, hd, h0, htc, htd⟩ := G
  exact strCallX hu (X₀.keeps F.keep) hs (N _ h1).1 hc hm hd h0 (N _ h2).1 htd hq
end

end
section
theorem startCount : True := by
  w_top off
  trivial
local macro_rules | `(tactic| walk_at "zz none") => `(tactic| fail "zz none")
theorem cnt_is (c : Nat) (l : List Nat) : cnt c l = ((l.count c : Nat) : Int) := by
  induction l with
  | nil => rfl
  | cons d l ih =>
    rw [List.count_cons, cnt_cons, ih]
    by_cases h : d = c
    · subst h; simp; (first | lia | omega)
    · simp [h]
theorem count34 (l : List Nat) : Txt.count (tx l) (Str.ofString "\"") = ((l.count 34 : Nat) : Int) := by
  rw [show Str.ofString "\"" = (⟨#[34]⟩ : Str) by decide +kernel, count_cnt, cnt_is]
theorem count_marks (h : Nat) (e : List Nat) (he : ∀ c ∈ e, c ≠ 34) : (List.replicate h 34 ++ e).count 34 = h := by
  rw [List.count_append, List.count_replicate_self, List.count_eq_zero.mpr fun hm => he 34 hm rfl]
  rfl

end
section
theorem startForG : True := by
  w_top off
  trivial
open LCg
section
variable {prog : Program} {w : World} {A : Around} {E : Value → Shared → Prop} {s : Shared} {L : Addr} {env : Env} {Q : Flow → Shared → Prop} {x : Str} {px pos : Pos} {iter : Expr} {body : List Stmt}
noncomputable def TurnEndG (L : Addr) (s₁ : Shared) (I : Addr) (oI : Obj) (J : Heap → (Str → Option Value) → List (Addr × Obj) → Prop) (s' : Shared) : Prop :=
  ∃ g' h' tk m' news', s' = { s₁ with heap := h', toks := tk } ∧ Fr g' L h' m' ∧ News g' L h' ((I, oI) :: news') ∧ (∀ p ∈ news', p.1 ≠ I) ∧ J g' m' news'
theorem TurnEndG.intro {s₁ : Shared} {I : Addr} {oI : Obj} {J : Heap → (Str → Option Value) → List (Addr × Obj) → Prop} {g' h' : Heap} {tk : Nat} {m' : Str → Option Value} {all news' : List (Addr × Obj)}
    (F : Fr g' L h' m') (N : News g' L h' all) (sub : ∀ p ∈ (I, oI) :: news', p ∈ all) (off : ∀ p ∈ news', p.1 ≠ I) (j : J g' m' news') : TurnEndG L s₁ I oI J { s₁ with heap := h', toks := tk } :=
  ⟨g', h', tk, m', news', rfl, F, fun p hp => N p (sub p hp), off, j⟩
structure ForSrcG (prog : Program) (w : World) (A : Around) (g₀ : Heap) (L : Addr) (env : Env) (x : Str) (body : List Stmt) (Q : Flow → Shared → Prop) (E : Value → Shared → Prop) (s₂ : Shared) (I : Addr) (n : Nat) (P : Nat → Value → Prop) (St : Nat → Heap → Prop) (m0 : Str → Option Value) (news : List (Addr × Obj)) : Prop where
  W : Walks prog w A I [I] [I] n P St
  hIo : ∀ i h, St i h → ∃ o, h.get? I = some o
  hst : St 0 s₂.heap
  F : Fr g₀ L s₂.heap m0
  N : News g₀ L s₂.heap news
  hLI : L ≠ I
  hI₀ : g₀.get? I = none
  off : ∀ p ∈ news, p.1 ≠ I
  R : ∃ J : Nat → Heap → (Str → Option Value) → List (Addr × Obj) → Prop, J 0 g₀ m0 news ∧
    (∀ i g m nw v h tk oI, i < n → J i g m nw → P i v → Fr g L h (fun y => if y = x then some v else m y) → News g L h ((I, oI) :: nw) → (∀ p ∈ nw, p.1 ≠ I) →
      wpAny (model prog w) A (execs body env) (fun f s₃ => match f with
        | .next | .cont => Hold (TurnEndG L s₂ I oI (J (i + 1)) s₃)
        | .brk => Q .next s₃
        | .ret v => Q (.ret v) s₃) E { s₂ with heap := h, toks := tk }) ∧
    (∀ g m nw h tk, J n g m nw → Fr g L h m → News g L h nw → Q .next { s₂ with heap := h, toks := tk })
theorem For_walkG {g₀ : Heap} {m₀ : Str → Option Value} (_F₀ : Fr g₀ L s.heap m₀) (hkind : env.scope.kind = .function) (hx : env.kindOf x = some .local) (hL : env.locals = L)
    (h : wpAny (model prog w) A (eval iter env) (fun xv s₁ => wpAny (model prog w) A (pyIter xv) (fun it s₂ => ∃ I n P St m0 news, it = .ref I ∧ ForSrcG prog w A g₀ L env x body Q E s₂ I n P St m0 news) E s₁) E s)
    (hs : ∀ x, foldedSetIterable iter env x = pure x := by intro _; rfl)
    (hE : PassesOwn (model prog w) A env E := by passes_own) :
    wpAny (model prog w) A (exec (.For (.Name x px) iter body [] pos) env) Q E s := by
  subst hL
  refine wpAny_For (wpAny_mono h (fun xv s₁ h₁ => wpAny_mono h₁ (fun it s₂ h₂ => ?_) fun _ _ e => e) fun _ _ e => e) hs
  obtain ⟨I, n, P, St, m0, news, rfl, C⟩ := h₂
  obtain ⟨J, j0, turn, fin⟩ := C.R
  refine codeAny_forLoop (fun k s' => ∃ h' tk i g m nw, s' = { s₂ with heap := h', toks := tk } ∧ i ≤ n ∧ k = n + 1 - i ∧ St i h' ∧ Fr g env.locals h' m ∧ News g env.locals h' nw ∧ g.get? I = none ∧ (∀ p ∈ nw, p.1 ≠ I) ∧ J i g m nw) ?_ (n + 1)
    ⟨_, _, 0, g₀, m0, news, rfl, Nat.zero_le _, rfl, C.hst, C.F, C.N, C.hI₀, C.off, j0⟩
  rintro k s' ⟨h', tk, i, g, m, nw, rfl, hi, rfl, hst, F, N, hI₀, off, j⟩
  by_cases hlt : i < n
  · refine C.W.item i _ _ _ hlt hst fun v h₂ tk₂ hPv hst₂ hk₂ => ?_
    have F₂ := fr_but F hk₂ C.hLI hI₀
    have N₂ : News g env.locals h₂ nw := news_but N hk₂ off
    refine wpAny_assign_Name (wpAny_storeName_local hx F₂.ns (fun h₃ hn₃ hs₃ => ?_) (by rw [hkind]; rfl))
    have F₃ := F₂.set hn₃ hs₃
    have hst₃ : St (i + 1) h₃ := C.W.frame _ _ _ hst₂ fun b hb o e => hs₃.extBut b o (fun q => C.hLI (by rw [List.mem_singleton.mp hb] at q; exact q.symm)) e
    obtain ⟨oI, heI⟩ := C.hIo _ _ hst₃
    have N₃ : News g env.locals h₃ ((I, oI) :: nw) := fun p hp => by
      rcases List.mem_cons.mp hp with rfl | hp
      · exact ⟨heI, Ne.symm C.hLI, hI₀⟩
      · exact ⟨hs₃.extBut _ _ (N₂ p hp).2.1 (N₂ p hp).1, (N₂ p hp).2⟩
    refine wpAny_mono (turn i g m nw v h₃ _ oI hlt j hPv (Fr.congr F₃ fun y => rfl) N₃ off) (fun f s₃ h₃' => ?_) hE
    have next : TurnEndG env.locals s₂ I oI (J (i + 1)) s₃ → ∃ m, m < n + 1 - i ∧ ∃ h' tk i g m_1 nw, s₃ = { s₂ with heap := h', toks := tk } ∧ i ≤ n ∧ m = n + 1 - i ∧ St i h' ∧ Fr g env.locals h' m_1 ∧ News g env.locals h' nw ∧ g.get? I = none ∧ (∀ p ∈ nw, p.1 ≠ I) ∧ J i g m_1 nw := by
      rintro ⟨g₄, h₄, tk₄, m₄, nw₄, rfl, F₄, N₄, off₄, j₄⟩
      have N₄' : News g₄ env.locals h₄ nw₄ := fun p hp => N₄ p (List.mem_cons_of_mem _ hp)
      have zI := N₄ _ List.mem_cons_self
      exact ⟨n + 1 - (i + 1), by (first | lia | omega), h₄, tk₄, i + 1, g₄, m₄, nw₄, rfl, hlt, rfl, C.W.frame _ _ _ hst₃ fun b hb o e => by
        rw [List.mem_singleton.mp hb] at e ⊢
        rw [heI] at e; cases e; exact zI.1, F₄, N₄', zI.2.2, off₄, j₄⟩
    cases f with
    | next => exact next h₃'
    | cont => exact next h₃'
    | brk => exact h₃'
    | ret v => exact h₃'
  · obtain rfl : i = n := Nat.le_antisymm hi (Nat.not_lt.mp hlt)
    refine C.W.done _ _ _ hst fun h₂ tk₂ hk₂ => ?_
    exact wpAny_execs_nil (fin _ _ _ _ _ j (fr_but F hk₂ C.hLI hI₀) (news_but N hk₂ off))
theorem for_rangeG {g₀ : Heap} {r : Addr} {a b : Int} {t u v : Tok} {n : Nat} {m : Str → Option Value} {news : List (Addr × Obj)} (J : Nat → Heap → (Str → Option Value) → List (Addr × Obj) → Prop)
    (hh : A.handled = none) (F : Fr g₀ L s.heap m) (N : News g₀ L s.heap news) (hr : IsRange s.heap r a b 1 t u v) (hsm : Builtin.Range.small a b 1 = true) (hn : Builtin.Range.rangeSize a b 1 = ((n : Nat) : Int)) (j0 : J 0 g₀ m news)
    (turn : ∀ g₁ I, (∀ p ∈ news, p.1 < I) → ∀ i g m nw v h tk oI, i < n → J i g m nw → (∃ t, v = .int (a + (i : Int)) t) → Fr g L h (fun y => if y = x then some v else m y) → News g L h ((I, oI) :: nw) → (∀ p ∈ nw, p.1 ≠ I) →
      wpAny (model prog w) A (execs body env) (fun f s₃ => match f with
        | .next | .cont => Hold (TurnEndG L { s with heap := g₁ } I oI (J (i + 1)) s₃)
        | .brk => Q .next s₃
        | .ret v => Q (.ret v) s₃) E { s with heap := h, toks := tk })
    (fin : ∀ g m nw h tk, J n g m nw → Fr g L h m → News g L h nw → Q .next { s with heap := h, toks := tk }) :
    wpAny (model prog w) A (pyIter (.ref r)) (fun it s₂ => ∃ I n P St m0 news, it = .ref I ∧ ForSrcG prog w A g₀ L env x body Q E s₂ I n P St m0 news) E s := by
  have hLlt : L < s.heap.objs.size := F.ns.lt
  refine wpAny_pyIter_range hr hsm ?_
  exact ⟨_, _, _, _, _, _, rfl, range_walks hh a n, fun i h st => ⟨_, st⟩, by show IsRangeIter _ _ _ _ _; rw [hn]; simpa using Heap.get?_push_size _ rfl, F.push _, N.grown fun _ _ e => Heap.get?_push_of_some _ e, Nat.ne_of_lt hLlt, next_is_new F, fun p hp => Nat.ne_of_lt (Heap.lt_size (N p hp).1), J, j0, turn _ _ fun p hp => Heap.lt_size (N p hp).1, fin⟩
end

end
section
theorem startEnterS : True := by
  w_top off
  trivial
local macro_rules | `(tactic| walk_at "zz none") => `(tactic| fail "zz none")
/-- what a call leaves that has caught an error: the caller's frame may have been looked at -/
structure KeptL (L : Addr) (s s' : Shared) (pre post : List (Addr × Obj)) : Prop where
  form : ∃ tk, s' = { s with heap := s'.heap, toks := tk }
  keep : ∀ b o, s.heap.get? b = some o → b ∉ pre.map (·.1) → b ≠ L → s'.heap.get? b = some o
  frame : ∀ o, s.heap.get? L = some o → ∃ sl, s'.heap.get? L = some { o with slots := sl }
  there : ∀ p ∈ post, s'.heap.get? p.1 = some p.2 ∧ (p.1 ∈ pre.map (·.1) ∨ s.heap.get? p.1 = none)
noncomputable def LeftS (s : Shared) (L : Addr) (g : Heap) (Post : Value → List (Addr × Obj) → Prop) (v : Value) (s' : Shared) : Prop :=
  ∃ g' L' m' news' post tk, s' = { s with heap := s'.heap, toks := tk } ∧ W.KtsTurn [L] g g' ∧ Fr g' L' s'.heap m' ∧ News g' L' s'.heap news' ∧ (∀ p ∈ post, p ∈ news') ∧ Post v post
theorem LeftS.intro {s : Shared} {L : Addr} {g g' h' : Heap} {Post : Value → List (Addr × Obj) → Prop} {v : Value} {L' : Addr} {m' : Str → Option Value} {news' post : List (Addr × Obj)} {tk : Nat}
    (T : W.KtsTurn [L] g g') (F : Fr g' L' h' m') (N : News g' L' h' news') (hp : ∀ p ∈ post, p ∈ news') (h : Post v post) : LeftS s L g Post v { s with heap := h', toks := tk } :=
  ⟨g', L', m', news', post, tk, rfl, T, F, N, hp, h⟩
section
variable {prog : Program} {w : World} {A₀ A : Around} {s : Shared} {base h₀ : Heap} {L : Addr} {m mg mb : Str → Option Value} {env : Env} {pre : List (Addr × Obj)} {K : Frag} {p : Program} {loose : List Str} {mean : ExcName → Option Value}
  {R : Result → Shared → Prop} {name qual : Str} {params : Arguments} {body : List Stmt} {scope : Scope} {dV kV doc pm cdv ct oc : Value} {an od : Option Addr} {osl : Array (Option Value)} {f : Addr} {args : Args} {binds : List (Str × Value)}
  {Post : Value → List (Addr × Obj) → Prop}
theorem leftKeptL {g s' : _} {v : Value} (hg : g = hideAll s.heap (pre.map (·.1))) (hL : ∃ o, s.heap.get? L = some o) (hLp : L ∉ pre.map (·.1)) (hl : LeftS s L g Post v s') : ∃ post, Post v post ∧ KeptL L s s' pre post := by
  obtain ⟨g', L', m', news', post, tk, e, T, F', N', hp, h⟩ := hl
  refine ⟨post, h, ⟨tk, e⟩, fun b o eb nb nL => F'.keep b o (T.other b o (hg ▸ hideAll_get _ eb nb) (fun q => nL (List.mem_singleton.mp q))), fun o e => ?_, fun p hpp => ⟨(N' p (hp p hpp)).1, ?_⟩⟩
  · obtain ⟨sl, e2⟩ := T.frame L o (hg ▸ hideAll_get _ e hLp) (.head _)
    exact ⟨sl, F'.keep _ _ e2⟩
  · by_cases hm : p.1 ∈ pre.map (·.1)
    · exact .inl hm
    · refine .inr ?_
      cases q : s.heap.get? p.1 with
      | none => rfl
      | some o =>
        have e3 := (N' p (hp p hpp)).2.2
        obtain ⟨sl, e2⟩ := T.up (hg ▸ hideAll_get _ q hm : g.get? p.1 = some o)
        rw [e2] at e3
        cases e3
theorem enterS (B : Below A₀ base [] h₀) (F : Fr h₀ L s.heap m) (X₀ : K.In h₀) (N : News h₀ L s.heap pre) (T : Top p loose mean mg mb h₀) (hA : A.frames = some [env]) (hf : env.frame = some L) (hke : env.scope.kind = .function)
    (ho : K.lookup f = some ⟨oc, od, .func (fnOf name qual params body scope dV kV doc pm an cdv ct), osl⟩) (hcd : codeIn K cdv qual = true) (hroom : A.depth < recursionLimit)
    (hbind : BindsTo s (fnOf name qual params body scope dV kV doc pm an cdv ct) args binds) (hloc : ∀ y ∈ binds, scope.names.lookup y.1 = some .local)
    (k : ∀ v post s', Post v post → KeptL L s s' pre post → R (.ok (.ret v)) s')
    (h : ∀ g L' h₁, Fr g L' h₁ (fun y => binds.reverse.lookup y) → News g L' h₁ pre → Below A base [env] g → K.In g → Top p loose mean mg mb g → W.KtsDicts ([env].filterMap (·.frame)) g → (∀ p ∈ pre, p.1 < L') → L' = s.heap.objs.size →
      wpAny (model prog w) (A.deeper (envOf qual scope L' f cdv)) (execs body (envOf qual scope L' f cdv))
        (fun fl s' => LeftS s L g Post (match fl with | .ret v => v | _ => .none) s')
        (fun e s' => wpAny (model prog w) (A.deeper (envOf qual scope L' f cdv)) (leaving (envOf qual scope L' f cdv) e) (fun _ s'' => R (.error e) s'') (fun e' s'' => R (.error e') s'') s')
        { s with heap := h₁, toks := s.toks + binds.length })
    (hco : scope.isCoroutine = false) (hgen : scope.isGenerator = false) (hk : scope.kind = .function)
    (hcell : ∀ x ∈ scope.names, x.2 ≠ .cell) : codeAny (model prog w) A (.call (.ref f) args) R s := by
  obtain ⟨FG, BG, st, _⟩ := groundX (R := fun _ _ => True) B F N hA hf hke
  have hlim := T.nolimit
  have hcd' := codeRec_of (X₀.keeps F.keep) hcd
  have ho' := (X₀.keeps F.keep) _ _ ho
  obtain ⟨oL, es, ep, hLg, hLd, _, _⟩ := FG.ns
  have hLs : s.heap.get? L = some oL := of_hideAll _ hLg
  have hLp : L ∉ pre.map (·.1) := fun h => by
    obtain ⟨q, hq, e⟩ := List.mem_map.mp h
    exact (N q hq).2.1 e
  refine codeAny_call_def (fd := fnOf name qual params body scope dV kV doc pm an cdv ct) (body := body) (binds := binds) hroom ho' rfl (hlim.keeps F.keep) hcd' rfl hbind hcell hloc (fun h₁ hns hk₁ => ?_) hco hgen hk
  refine wpAny_mono (h _ s.heap.objs.size h₁ ⟨hns, fun b o e => hk₁ b o (of_hideAll _ e), Nat.le_of_eq (hideAll_size _ _)⟩
    (fun p hp => ⟨hk₁ _ _ (N p hp).1, Nat.ne_of_lt (Heap.lt_size (N p hp).1), hideAll_none _ (List.mem_map_of_mem hp)⟩) BG (X₀.keeps st) (T.keeps st) (fun b hb => ?_) (fun p hp => Heap.lt_size (N p hp).1) rfl) (fun fl s' hl => ?_) fun _ _ y => y
  · rw [List.filterMap_cons, hf] at hb
    rcases List.mem_cons.mp hb with rfl | hb
    · exact ⟨oL, es, ep, hLg, hLd⟩
    · cases hb
  · obtain ⟨post, hP, hK⟩ := leftKeptL rfl ⟨oL, hLs⟩ hLp hl
    exact k _ post s' hP hK
theorem KeptL.caller {s s' : Shared} {pre post news rest : List (Addr × Obj)} {h₀ : Heap} {L : Addr} {m : Str → Option Value} (k : KeptL L s s' pre post) (F : Fr h₀ L s.heap m) (N : News h₀ L s.heap news) (hp : ∀ p ∈ pre, p ∈ news) (hr : Rest pre news rest) :
    Fr h₀ L s'.heap m ∧ News h₀ L s'.heap (post ++ rest) := by
  have hoff : ∀ b, b ∈ pre.map (·.1) → ∃ o, (b, o) ∈ news := fun b hb => by
    obtain ⟨p, hpp, rfl⟩ := List.mem_map.mp hb
    exact ⟨p.2, hp p hpp⟩
  have hz : ∀ b o, h₀.get? b = some o → b ∉ pre.map (·.1) := fun b o e h => by
    obtain ⟨o', ho⟩ := hoff b h
    have := (N _ ho).2.2
    rw [e] at this; cases this
  have hL0 : ∀ b o, h₀.get? b = some o → b ≠ L := fun b o e h => Nat.lt_irrefl _ (Nat.lt_of_lt_of_le (Heap.lt_size (h ▸ e)) F.above)
  obtain ⟨oL, es, ep, hLo, hLd, hLk, hLf⟩ := F.ns
  obtain ⟨sl, hL2⟩ := k.frame oL hLo
  refine ⟨⟨⟨_, es, ep, hL2, hLd, hLk, hLf⟩, fun b o e => k.keep b o (F.keep b o e) (hz b o e) (hL0 b o e), F.above⟩, fun p hpp => ?_⟩
  rcases List.mem_append.mp hpp with hpp | hpp
  · refine ⟨(k.there p hpp).1, ?_⟩
    rcases (k.there p hpp).2 with h | h
    · obtain ⟨o, ho⟩ := hoff _ h
      exact (N _ ho).2
    · refine ⟨fun e => ?_, ?_⟩
      · rw [e, hLo] at h; cases h
      · cases q : h₀.get? p.1 with
        | none => rfl
        | some o => rw [F.keep _ _ q] at h; cases h
  · obtain ⟨hn, ho⟩ := hr.mem p hpp
    exact ⟨k.keep _ _ (N p hn).1 ho (N p hn).2.1, (N p hn).2⟩
end

end
section
theorem startEqStrs : True := by
  w_top off
  trivial
theorem ok_tx {l : List Nat} (h : ∀ c ∈ l, c < 0x110000) : PyData.strOk (tx l) = true := by
  unfold PyData.strOk
  rw [Array.all_eq_true']
  intro c hc
  exact decide_eq_true (h c (by simpa using hc))
theorem es_depth : ∀ ns : List Str, PyData.depthAll (ns.map PyData.str) = 0
  | [] => rfl
  | _ :: r => by simp [PyData.depthAll, PyData.depth, es_depth r]
theorem es_shaped {ns : List Str} (h : ∀ x ∈ ns, PyData.strOk x = true) : SeqAt.shaped (.list (ns.map PyData.str)) = true := by
  have h1 : ns.all PyData.strOk = true := List.all_eq_true.mpr h
  simp [SeqAt.shaped, PyData.canLay0, PyData.depth, canLayAll_strs', es_depth]
  exact h
theorem es_sameAll : ∀ ns ms : List Str, PySem.Spec.sameAll (ns.map PyData.str) (ms.map PyData.str) = decide (ns = ms)
  | [], [] => by simp [PySem.Spec.sameAll]
  | [], _ :: _ => by simp [PySem.Spec.sameAll]
  | _ :: _, [] => by simp [PySem.Spec.sameAll]
  | a :: r, b :: t => by
    simp only [List.map_cons, PySem.Spec.sameAll, PySem.Spec.same, es_sameAll r t]
    by_cases h : a = b <;> by_cases h' : r = t <;> simp [h, h']
theorem es_same (ns ms : List Str) : PySem.Spec.same (.list (ns.map PyData.str)) (.list (ms.map PyData.str)) = decide (ns = ms) := by
  simp only [PySem.Spec.same]; exact es_sameAll ns ms
theorem es_carried {vs : List Value} {ns : List Str} (h : StrsAre vs ns) : CarriedAll vs (ns.map PyData.str) := by
  induction h with
  | nil => exact .nil
  | cons y t _ ih => exact .cons (.str y t) ih
section
variable {prog : Program} {w : World} {A : Around} {E : Value → Shared → Prop} {s : Shared} {h₀ : Heap} {L a b : Addr} {news : List (Addr × Obj)} {xs ys : List Value} {n k : Nat} {ns ms : List Str} {Q : Value → Shared → Prop}
theorem eq_strs (N : News h₀ L s.heap news) (ha : (a, W.listOf xs.toArray n) ∈ news) (hb : (b, W.listOf ys.toArray k) ∈ news) (hi : StrsAre xs ns) (hj : StrsAre ys ms) (o1 : ∀ x ∈ ns, PyData.strOk x = true) (o2 : ∀ x ∈ ms, PyData.strOk x = true) (hu : A.units + 64 < cLine) (h : Q (.bool (decide (ns = ms))) s) :
    wpAny (model prog w) A (compareOp .Eq (.ref a) (.ref b)) Q E s :=
  eq_dataH_same (reads_newData ⟨_, (N _ ha).1, rfl, n, rfl⟩ (es_carried hi)) (reads_newData ⟨_, (N _ hb).1, rfl, k, rfl⟩ (es_carried hj)) (es_shaped o1) (es_shaped o2) hu (SeqAt.noMix_of_shape (.list .str) rfl _ _ (list_map_has fun _ => rfl) (list_map_has fun _ => rfl)) (by rw [es_same]; exact h)
theorem ne_strs (N : News h₀ L s.heap news) (ha : (a, W.listOf xs.toArray n) ∈ news) (hb : (b, W.listOf ys.toArray k) ∈ news) (hi : StrsAre xs ns) (hj : StrsAre ys ms) (o1 : ∀ x ∈ ns, PyData.strOk x = true) (o2 : ∀ x ∈ ms, PyData.strOk x = true) (hu : A.units + 64 < cLine) (h : Q (.bool (!decide (ns = ms))) s) :
    wpAny (model prog w) A (compareOp .NotEq (.ref a) (.ref b)) Q E s :=
  ne_dataH_same (reads_newData ⟨_, (N _ ha).1, rfl, n, rfl⟩ (es_carried hi)) (reads_newData ⟨_, (N _ hb).1, rfl, k, rfl⟩ (es_carried hj)) (es_shaped o1) (es_shaped o2) hu (SeqAt.noMix_of_shape (.list .str) rfl _ _ (list_map_has fun _ => rfl) (list_map_has fun _ => rfl)) (by rw [es_same]; exact h)
theorem ne_one {x y : Str} {t u : Tok} (N : News h₀ L s.heap news) (ha : (a, W.listOf #[.str x t] n) ∈ news) (hb : (b, W.listOf #[.str y u] k) ∈ news) (ok : PyData.strOk x = true) (hu : A.units + 64 < cLine) (e : x = y) (h : Q (.bool false) s) :
    wpAny (model prog w) A (compareOp .NotEq (.ref a) (.ref b)) Q E s :=
  ne_strs (xs := [.str x t]) (ys := [.str y u]) N ha hb (.cons _ _ .nil) (.cons _ _ .nil) (fun z hz => by rw [List.mem_singleton.mp hz]; exact ok) (fun z hz => by rw [List.mem_singleton.mp hz, ← e]; exact ok) hu (by subst e; simpa using h)
end

end
section
theorem startReply : True := by
  w_top off
  trivial
local macro_rules | `(tactic| walk_at "zz none") => `(tactic| fail "zz none")
/-- the reply's marks, word and end, read by parse257 -/
theorem unq_word (w t : List Nat) (hw : ∀ c ∈ w, c ≠ 34) : unq (w ++ t) = w ++ unq t := by
  induction w with
  | nil => rfl
  | cons c w ih =>
    rw [List.cons_append, unq_cons _ (hw c (.head _)), ih fun x hx => hw x (.tail _ hx)]
    rfl
theorem unq_marks (w t : List Nat) (hw : ∀ c ∈ w, c ≠ 34) (hne : w ≠ []) (ht : unq t = []) : ∀ m : Nat, unq (List.replicate m 34 ++ w ++ t) = List.replicate (m / 2) 34 ++ (if m % 2 = 0 then w else [])
  | 0 => by
    rw [show List.replicate 0 34 = [] from rfl, List.nil_append, unq_word w t hw, ht]
    simp
  | 1 => by
    cases w with
    | nil => exact absurd rfl hne
    | cons c w =>
      show unq (34 :: c :: (w ++ t)) = _
      rw [unq_stop _ (hw c (.head _))]; rfl
  | m + 2 => by
    have e : List.replicate (m + 2) 34 ++ w ++ t = 34 :: 34 :: (List.replicate m 34 ++ w ++ t) := by
      rw [List.replicate_succ, List.replicate_succ]; rfl
    rw [e, unq_two, unq_marks w t hw hne ht m]
    have h1 : (m + 2) / 2 = m / 2 + 1 := by (first | lia | omega)
    have h2 : (m + 2) % 2 = m % 2 := by (first | lia | omega)
    rw [h1, h2, List.replicate_succ]; rfl
noncomputable abbrev ends : List (List Nat) := [[34, 32, 34, 109, 97, 100, 101, 34], [34], []]
theorem unq_ends (i : Nat) : unq (ends.getD i []) = [] := by
  match i with
  | 0 => show unq (34 :: 32 :: [34, 109, 97, 100, 101, 34]) = []; exact unq_stop _ (by decide)
  | 1 => exact unq_end
  | 2 => exact unq_nil
  | n + 3 => exact unq_nil
noncomputable abbrev others : List (List Nat) := [[50, 53, 48, 32, 34], [32, 50, 53, 55, 32, 34], [50, 53], [50, 50, 55, 32, 34], [53, 53, 55, 32, 34]]
noncomputable abbrev openings : List (List Nat) := [[50, 53, 55, 45, 34], [50, 53, 55, 34], [50, 53, 55, 32, 32, 34], [50, 53, 55, 48, 34]]
theorem bad_take {i m : Nat} {w t : List Nat} (hi : i < 5) (hw : ∀ c ∈ w, 65 ≤ c) (hne : w ≠ []) : (others.getD i [] ++ List.replicate m 34 ++ w ++ t).take 3 ≠ [50, 53, 55] := by
  match i, hi with
  | 0, _ => simp
  | 1, _ => simp
  | 3, _ => simp
  | 4, _ => simp
  | 2, _ =>
    cases m with
    | zero =>
      cases w with
      | nil => exact absurd rfl hne
      | cons c w =>
        have := hw c (.head _)
        intro h
        have h' : [50, 53, c] = [50, 53, 55] := by simpa using h
        have : c = 55 := by simpa using h'
        (first | lia | omega)
    | succ m =>
      intro h
      rw [List.replicate_succ] at h
      have h' : [50, 53, 34] = [50, 53, 55] := by simpa using h
      exact absurd h' (by decide)
theorem good_take {i m : Nat} {w t : List Nat} (hi : i < 4) (hne : w ≠ []) : (openings.getD i [] ++ List.replicate m 34 ++ w ++ t).take 3 = [50, 53, 55] ∧ 5 ≤ (openings.getD i [] ++ List.replicate m 34 ++ w ++ t).length ∧ p257 (openings.getD i [] ++ List.replicate m 34 ++ w ++ t) = [] := by
  have hl : 1 ≤ w.length := by
    cases w with
    | nil => exact absurd rfl hne
    | cons c w => simp
  match i, hi with
  | 0, _ => exact ⟨by simp, by simp only [List.length_append, List.length_replicate, List.getD_cons_zero, List.getD_cons_succ, List.length_cons, List.length_nil]; (first | lia | omega), by simp [p257]⟩
  | 1, _ => exact ⟨by simp, by simp only [List.length_append, List.length_replicate, List.getD_cons_zero, List.getD_cons_succ, List.length_cons, List.length_nil]; (first | lia | omega), by
      rw [p257, if_neg]
      show ¬ (34 :: (List.replicate m 34 ++ w ++ t)).take 2 = [32, 34]
      rw [List.take_succ_cons]
      intro h
      exact absurd (List.cons.inj h).1 (by decide)⟩
  | 2, _ => exact ⟨by simp, by simp only [List.length_append, List.length_replicate, List.getD_cons_zero, List.getD_cons_succ, List.length_cons, List.length_nil]; (first | lia | omega), by simp [p257]⟩
  | 3, _ => exact ⟨by simp, by simp only [List.length_append, List.length_replicate, List.getD_cons_zero, List.getD_cons_succ, List.length_cons, List.length_nil]; (first | lia | omega), by simp [p257]⟩
theorem plain_take {m : Nat} {w t : List Nat} (hw : ∀ c ∈ w, c ≠ 34) (hne : w ≠ []) (ht : unq t = []) : ([50, 53, 55, 32, 34] ++ List.replicate m 34 ++ w ++ t).take 3 = [50, 53, 55] ∧ 5 ≤ ([50, 53, 55, 32, 34] ++ List.replicate m 34 ++ w ++ t).length ∧
    p257 ([50, 53, 55, 32, 34] ++ List.replicate m 34 ++ w ++ t) = List.replicate (m / 2) 34 ++ (if m % 2 = 0 then w else []) := by
  refine ⟨by simp, by simp, ?_⟩
  rw [p257, if_pos (by simp)]
  show unq (List.replicate m 34 ++ w ++ t) = _
  exact unq_marks w t hw hne ht m

end
section
theorem startChip : True := by
  w_top off
  trivial
noncomputable abbrev Cfg := Int → Int
noncomputable def at1 (p : Int) : Cfg := fun x => if x = p then 1 else 0
theorem at1_self (p : Int) : at1 p p = 1 := if_pos rfl
theorem at1_ne {p x : Int} (h : x ≠ p) : at1 p x = 0 := if_neg h
theorem at1_pos (p x : Int) : 0 ≤ at1 p x := by unfold at1; split <;> decide
theorem at1_le (p x : Int) : at1 p x ≤ 1 := by unfold at1; split <;> decide
noncomputable def fire (f : Cfg) (x : Int) : Cfg := fun y => f y + at1 (x - 1) y + at1 (x + 1) y - 2 * at1 x y
/-- n single firings, each of a place with two marks within 8..22 -/
inductive Steps : Cfg → Nat → Cfg → Prop
  | nil {f} : Steps f 0 f
  | step {f x n g} : 8 ≤ x → x ≤ 22 → 2 ≤ f x → Steps (fire f x) n g → Steps f (n + 1) g
theorem fire_swap (f : Cfg) (x y : Int) : fire (fire f x) y = fire (fire f y) x := by
  funext z; unfold fire; (first | lia | omega)
theorem fire_ge {f : Cfg} {x y : Int} (h : x ≠ y) : f y ≤ fire f x y := by
  have a := at1_pos (x - 1) y
  have b := at1_pos (x + 1) y
  unfold fire; rw [at1_ne (Ne.symm h)]; clear h; (first | lia | omega)
theorem fire_self (f : Cfg) (x : Int) : fire f x x = f x - 2 := by
  unfold fire; rw [at1_self, at1_ne (by (first | lia | omega)), at1_ne (by (first | lia | omega))]; (first | lia | omega)
theorem fire_le (f : Cfg) (x y : Int) : f y ≤ fire f x y + 2 := by
  have a := at1_pos (x - 1) y
  have b := at1_pos (x + 1) y
  have c := at1_le x y
  unfold fire; (first | lia | omega)
theorem Steps.exch {f g : Cfg} {n : Nat} (h : Steps f n g) (hg : ∀ x, g x ≤ 1) : ∀ x, 2 ≤ f x → 8 ≤ x ∧ x ≤ 22 ∧ ∃ m, n = m + 1 ∧ Steps (fire f x) m g := by
  induction h with
  | nil => intro x h; have := hg x; (first | lia | omega)
  | @step f y n g h1 h2 h3 hs ih =>
    intro x hx
    by_cases e : y = x
    · subst e; exact ⟨h1, h2, n, rfl, hs⟩
    · obtain ⟨a, b, m, e2, k⟩ := ih hg x (Int.le_trans hx (fire_ge e))
      refine ⟨a, b, n, rfl, ?_⟩
      subst e2
      rw [fire_swap] at k
      exact .step h1 h2 (Int.le_trans h3 (fire_ge (Ne.symm e))) k
theorem Steps.le {f g : Cfg} {n : Nat} (h : Steps f n g) : ∀ x, f x ≤ g x + 2 * n := by
  induction h with
  | nil => intro x; (first | lia | omega)
  | @step f y n g h1 h2 h3 hs ih =>
    intro x
    have a := ih x
    have b := fire_le f y x
    clear ih hs h1 h2 h3
    (first | lia | omega)
theorem Steps.trans {f g k : Cfg} {n m : Nat} (h : Steps f n g) (h2 : Steps g m k) : Steps f (n + m) k := by
  induction h with
  | nil => rw [Nat.zero_add]; exact h2
  | @step f y n g a b c hs ih => rw [show n + 1 + m = n + m + 1 by (first | lia | omega)]; exact .step a b c (ih h2)
theorem Steps.more {f g : Cfg} {n : Nat} (h : Steps f n g) (p : Int) : Steps (fun x => f x + at1 p x) n (fun x => g x + at1 p x) := by
  induction h with
  | nil => exact .nil
  | @step f y n g a b c hs ih =>
    refine .step a b ?_ ?_ (x := y)
    · have d := at1_pos p y
      show 2 ≤ f y + at1 p y; clear ih hs a b; (first | lia | omega)
    · have : fire (fun x => f x + at1 p x) y = fun x => fire f y x + at1 p x := by
        funext z; dsimp only [fire]; (first | lia | omega)
      rw [this]; exact ih
/-- h firings of one place -/
noncomputable def fireN (f : Cfg) (x : Int) : Nat → Cfg
  | 0 => f
  | h + 1 => fireN (fire f x) x h
theorem fireN_ev (f : Cfg) (x : Int) (h : Nat) (y : Int) : fireN f x h y = f y + (h : Int) * (at1 (x - 1) y + at1 (x + 1) y - 2 * at1 x y) := by
  have fe : ∀ g : Cfg, fire g x y = g y + (at1 (x - 1) y + at1 (x + 1) y - 2 * at1 x y) := fun g => by unfold fire; (first | lia | omega)
  generalize at1 (x - 1) y + at1 (x + 1) y - 2 * at1 x y = D at fe
  induction h generalizing f with
  | zero => show f y = _; rw [Int.natCast_zero, Int.zero_mul, Int.add_zero]
  | succ h ih => rw [fireN, ih, fe, Int.natCast_succ, Int.add_mul, Int.one_mul, Int.add_assoc, Int.add_comm D]
theorem fireN_is (f : Cfg) (x : Int) (h : Nat) : fireN f x h = fun y => f y + (if y = x - 1 then (h : Int) else 0) + (if y = x + 1 then (h : Int) else 0) - (if y = x then 2 * (h : Int) else 0) := by
  funext y
  rw [fireN_ev]
  by_cases a : y = x
  · subst a
    rw [at1_self, at1_ne (by (first | lia | omega)), at1_ne (by (first | lia | omega)), if_neg (by (first | lia | omega)), if_neg (by (first | lia | omega)), if_pos rfl]; (first | lia | omega)
  · rw [at1_ne a, if_neg a]
    by_cases b : y = x - 1
    · subst b
      rw [at1_self, at1_ne (by (first | lia | omega)), if_pos rfl, if_neg (by (first | lia | omega))]; (first | lia | omega)
    · rw [at1_ne b, if_neg b]
      by_cases c : y = x + 1
      · subst c
        rw [at1_self, if_pos rfl]; clear a b; (first | lia | omega)
      · rw [at1_ne c, if_neg c]; clear a b c; (first | lia | omega)
theorem Steps.fires {f g : Cfg} {n : Nat} (hg : ∀ x, g x ≤ 1) {x : Int} (h : Nat) (hs : Steps f n g) (hx : 2 * (h : Int) ≤ f x) : ∃ m, n = m + h ∧ Steps (fireN f x h) m g := by
  induction h generalizing f n with
  | zero => exact ⟨n, rfl, hs⟩
  | succ h ih =>
    obtain ⟨_, _, m, e, k⟩ := hs.exch hg x (by (first | lia | omega))
    obtain ⟨m2, e2, k2⟩ := ih k (by have := fire_self f x; clear ih k hs; (first | lia | omega))
    exact ⟨m2, by (first | lia | omega), k2⟩
/-- i..j have been fired -/
noncomputable def wave (f : Cfg) (i j : Int) : Cfg := fun x => f x + at1 (i - 1) x - at1 i x - at1 j x + at1 (j + 1) x
theorem wave_right (f : Cfg) {i : Int} (hi : 8 ≤ i) : ∀ (n : Nat) (j : Int), i ≤ j → j + n ≤ 22 → (∀ x, j < x → x ≤ j + n → 1 ≤ f x) → Steps (wave f i j) n (wave f i (j + n))
  | 0, j, _, _, _ => by rw [show j + ((0 : Nat) : Int) = j by (first | lia | omega)]; exact .nil
  | n + 1, j, h1, h2, h3 => by
    have e : fire (wave f i j) (j + 1) = wave f i (j + 1) := by
      funext x; unfold fire wave
      rw [show j + 1 - 1 = j by (first | lia | omega)]; clear h1 h2 h3; (first | lia | omega)
    have h4 := h3 (j + 1) (by (first | lia | omega)) (by (first | lia | omega))
    refine .step (x := j + 1) (by (first | lia | omega)) (by (first | lia | omega)) ?_ ?_
    · unfold wave; rw [at1_self, at1_ne (p := i) (by (first | lia | omega)), at1_ne (p := j) (by (first | lia | omega))]
      have := at1_pos (i - 1) (j + 1)
      clear h1 h2 h3 e; (first | lia | omega)
    · rw [e, show j + ((n + 1 : Nat) : Int) = j + 1 + n by (first | lia | omega)]
      exact wave_right f hi n (j + 1) (by (first | lia | omega)) (by (first | lia | omega)) fun x a b => h3 x (by (first | lia | omega)) (by (first | lia | omega))
theorem wave_left (f : Cfg) {j : Int} (hj : j ≤ 22) : ∀ (n : Nat) (i : Int), i ≤ j → 8 ≤ i - n → (∀ x, i - n ≤ x → x < i → 1 ≤ f x) → Steps (wave f i j) n (wave f (i - n) j)
  | 0, i, _, _, _ => by rw [show i - ((0 : Nat) : Int) = i by (first | lia | omega)]; exact .nil
  | n + 1, i, h1, h2, h3 => by
    have e : fire (wave f i j) (i - 1) = wave f (i - 1) j := by
      funext x; unfold fire wave
      rw [show i - 1 + 1 = i by (first | lia | omega)]; clear h1 h2 h3; (first | lia | omega)
    have h4 := h3 (i - 1) (by (first | lia | omega)) (by (first | lia | omega))
    refine .step (x := i - 1) (by (first | lia | omega)) (by (first | lia | omega)) ?_ ?_
    · unfold wave; rw [at1_self, at1_ne (p := i) (by (first | lia | omega)), at1_ne (p := j) (by (first | lia | omega))]
      have := at1_pos (j + 1) (i - 1)
      clear h1 h2 h3 e; (first | lia | omega)
    · rw [e, show i - ((n + 1 : Nat) : Int) = i - 1 - n by (first | lia | omega)]
      exact wave_left f hj n (i - 1) (by (first | lia | omega)) (by (first | lia | omega)) fun x a b => h3 x (by (first | lia | omega)) (by (first | lia | omega))
theorem wave_all (f : Cfg) {a b p : Int} (ha : 8 ≤ a) (hb : b ≤ 22) (h1 : a ≤ p) (h2 : p ≤ b) (hf : ∀ x, a ≤ x → x ≤ b → 1 ≤ f x) (hp : 2 ≤ f p) : Steps f (b - a + 1).toNat (wave f a b) := by
  have e : fire f p = wave f p p := by
    funext x; unfold fire wave
    clear hf ha hb h1 h2 hp; (first | lia | omega)
  have r := wave_right f (i := p) (by (first | lia | omega)) (b - p).toNat p (by (first | lia | omega)) (by (first | lia | omega)) fun x c d => hf x (by (first | lia | omega)) (by (first | lia | omega))
  have l := wave_left f (j := b) hb (p - a).toNat p h2 (by (first | lia | omega)) fun x c d => hf x (by (first | lia | omega)) (by (first | lia | omega))
  rw [show p + ((b - p).toNat : Int) = b by (first | lia | omega)] at r
  rw [show p - ((p - a).toNat : Int) = a by (first | lia | omega)] at l
  have := Steps.step (f := f) (x := p) (by (first | lia | omega)) (by (first | lia | omega)) hp (by rw [e]; exact r.trans l)
  rwa [show (b - p).toNat + (p - a).toNat + 1 = (b - a + 1).toNat by (first | lia | omega)] at this
/-- the run a..b with one mark more at p comes to rest -/
theorem run_rest (k : Nat) : ∀ (f : Cfg) (a b p : Int), (b - a).toNat ≤ k → 8 ≤ a → b ≤ 22 → a ≤ p → p ≤ b → (∀ x, a ≤ x → x ≤ b → x ≠ p → f x = 1) → f p = 2 →
    ∃ n, 4 * n ≤ (b - a + 2).toNat * (b - a + 2).toNat ∧ Steps f n (fun x => f x - at1 p x - at1 (a + b - p) x + at1 (a - 1) x + at1 (b + 1) x) := by
  induction k using Nat.strongRecOn with
  | _ k ih =>
    intro f a b p hk ha hb h1 h2 hf hp
    have w := wave_all f ha hb h1 h2 (fun x c d => by
      by_cases e : x = p
      · subst e; (first | lia | omega)
      · rw [hf x c d e]; (first | lia | omega)) (by (first | lia | omega))
    by_cases he : p = a ∨ p = b
    · refine ⟨(b - a + 1).toNat, ?_, ?_⟩
      · generalize hr : (b - a).toNat = r
        rw [show (b - a + 1).toNat = r + 1 by (first | lia | omega), show (b - a + 2).toNat = r + 2 by (first | lia | omega)]
        have : (r + 2) * (r + 2) = r * r + 4 * r + 4 := by
          rw [Nat.add_mul, Nat.mul_add]; (first | lia | omega)
        (first | lia | omega)
      · have e : wave f a b = (fun x => f x - at1 p x - at1 (a + b - p) x + at1 (a - 1) x + at1 (b + 1) x) := by
          funext x
          unfold wave
          rcases he with e | e
          · subst e; rw [show p + b - p = b by (first | lia | omega)]; clear w ih hf hp; (first | lia | omega)
          · subst e; rw [show a + p - p = a by (first | lia | omega)]; clear w ih hf hp; (first | lia | omega)
        rw [← e]; exact w
    · have hap : a < p := by (first | lia | omega)
      have hpb : p < b := by (first | lia | omega)
      have hw : ∀ x, a + 1 ≤ x → x ≤ b - 1 → wave f a b x = f x := by
        intro x c d
        unfold wave
        rw [at1_ne (by (first | lia | omega)), at1_ne (by (first | lia | omega)), at1_ne (by (first | lia | omega)), at1_ne (by (first | lia | omega))]; clear w ih hf hp hk; (first | lia | omega)
      obtain ⟨n, hn, s⟩ := ih (b - 1 - (a + 1)).toNat (by (first | lia | omega)) (wave f a b) (a + 1) (b - 1) p (Nat.le_refl _) (by (first | lia | omega)) (by (first | lia | omega)) (by (first | lia | omega)) (by (first | lia | omega)) (fun x c d e => by rw [hw x c d]; exact hf x (by (first | lia | omega)) (by (first | lia | omega)) e) (by rw [hw p (by (first | lia | omega)) (by (first | lia | omega))]; exact hp)
      refine ⟨(b - a + 1).toNat + n, ?_, ?_⟩
      · generalize hr : (b - a).toNat = r at *
        rw [show (b - 1 - (a + 1) + 2).toNat = r by (first | lia | omega)] at hn
        rw [show (b - a + 1).toNat = r + 1 by (first | lia | omega), show (b - a + 2).toNat = r + 2 by (first | lia | omega)]
        have : (r + 2) * (r + 2) = r * r + 4 * r + 4 := by
          rw [Nat.add_mul, Nat.mul_add]; (first | lia | omega)
        (first | lia | omega)
      · have e : (fun x => f x - at1 p x - at1 (a + b - p) x + at1 (a - 1) x + at1 (b + 1) x) = (fun x => wave f a b x - at1 p x - at1 (a + 1 + (b - 1) - p) x + at1 (a + 1 - 1) x + at1 (b - 1 + 1) x) := by
          funext x
          unfold wave
          rw [show a + 1 + (b - 1) - p = a + b - p by (first | lia | omega), show a + 1 - 1 = a by (first | lia | omega), show b - 1 + 1 = b by (first | lia | omega)]
          clear w ih hf hp hk hw s hn; (first | lia | omega)
        rw [e]; exact w.trans s

end
section
theorem startChip2 : True := by
  w_top off
  trivial
local macro_rules | `(tactic| walk_at "zz none") => `(tactic| fail "zz none")
noncomputable def cfg (ms : List Int) : Cfg := fun x => if x < 0 then 0 else ms.getD x.toNat 0
noncomputable def indF (full : List Int) : Cfg := fun x => if x ∈ full then 1 else 0
theorem cfg_set (ms : List Int) {p : Int} (v : Int) (h0 : 0 ≤ p) (h : p.toNat < ms.length) : cfg (ms.set p.toNat v) = fun y => if y = p then v else cfg ms y := by
  funext y
  unfold cfg
  by_cases hy : y < 0
  · rw [if_pos hy, if_neg (by (first | lia | omega)), if_pos hy]
  · rw [if_neg hy, if_neg hy]
    by_cases e : y = p
    · subst e
      rw [if_pos rfl]
      simp [List.getD, h]
    · rw [if_neg e]
      have : p.toNat ≠ y.toNat := by (first | lia | omega)
      simp [List.getD, List.getElem?_set, this]
theorem getD_cfg (ms : List Int) {p : Int} (h0 : 0 ≤ p) : ms.getD p.toNat 0 = cfg ms p := by
  unfold cfg; rw [if_neg (by (first | lia | omega))]
theorem cfg_fire {ms : List Int} (hl : ms.length = 32) {p s : Int} (h1 : 1 ≤ p) (h2 : p ≤ 30) (hs : s = 1 ∨ s = -1) (h : Int) : cfg (fireL ms p s h) = fun y => if y = p then cfg ms p % 2 else cfg ms y + (if y = p - 1 then h else 0) + (if y = p + 1 then h else 0) := by
  unfold fireL
  try dsimp only
  rw [cfg_set _ _ (by (first | lia | omega)) (by simp only [List.length_set]; (first | lia | omega)), getD_cfg _ (by (first | lia | omega)), cfg_set _ _ (by (first | lia | omega)) (by simp only [List.length_set]; (first | lia | omega)), getD_cfg _ (by (first | lia | omega)), cfg_set _ _ (by (first | lia | omega)) (by (first | lia | omega)), getD_cfg _ (by (first | lia | omega))]
  funext y
  try dsimp only
  rcases hs with e | e
  · subst e
    by_cases a : y = p - 1
    · subst a; rw [if_pos rfl, if_neg (by (first | lia | omega)), if_neg (by (first | lia | omega)), if_neg (by (first | lia | omega)), if_pos rfl, if_neg (by (first | lia | omega))]; (first | lia | omega)
    · by_cases b : y = p + 1
      · subst b; rw [if_neg a, if_pos rfl, if_neg (by (first | lia | omega)), if_neg (by (first | lia | omega)), if_neg (by (first | lia | omega)), if_pos rfl]; (first | lia | omega)
      · rw [if_neg a, if_neg b]
        by_cases c : y = p
        · subst c; rw [if_pos rfl, if_pos rfl]
        · rw [if_neg c, if_neg c, if_neg a, if_neg b]; (first | lia | omega)
  · subst e
    by_cases a : y = p + 1
    · subst a; rw [if_pos (by (first | lia | omega)), if_neg (by (first | lia | omega)), if_neg (by (first | lia | omega)), if_neg (by (first | lia | omega)), if_neg (by (first | lia | omega)), if_pos rfl]
      rw [show p - -1 = p + 1 by (first | lia | omega)]; (first | lia | omega)
    · by_cases b : y = p - 1
      · subst b; rw [if_neg (by (first | lia | omega)), if_pos (by (first | lia | omega)), if_neg (by (first | lia | omega)), if_neg (by (first | lia | omega)), if_pos rfl, if_neg (by (first | lia | omega))]
        rw [show p + -1 = p - 1 by (first | lia | omega)]; (first | lia | omega)
      · rw [if_neg (by (first | lia | omega)), if_neg (by (first | lia | omega))]
        by_cases c : y = p
        · subst c; rw [if_pos rfl, if_pos rfl]
        · rw [if_neg c, if_neg c, if_neg a, if_neg b]; (first | lia | omega)
theorem cqadd_len (ws : List Int) (p : Int) : (qadd ws p).length ≤ ws.length + 1 := by
  unfold qadd; split <;> simp
theorem mem_qadd {ws : List Int} {p x : Int} : x ∈ qadd ws p ↔ x ∈ ws ∨ x = p := by
  unfold qadd; split
  · constructor
    · exact .inl
    · rintro (h | h)
      · exact h
      · subst h; assumption
  · simp
structure ChipInv (F : Cfg) (t : Nat) (ms ws : List Int) : Prop where
  len : ms.length = 32
  pos : ∀ x, 0 ≤ cfg ms x
  inn : ∀ p ∈ ws, 7 ≤ p ∧ p ≤ 23
  wts : ∀ x, 2 ≤ cfg ms x → x ∈ ws
  fin : ∀ x, F x ≤ 1
  stp : ∃ n, Steps (cfg ms) n F ∧ t + ws.length + 2 * n + (7 - t) ≤ 82
theorem chipPInv (F : Cfg) : PInv (ChipInv F) where
  len := by
    intro t ms ws h
    obtain ⟨n, s, b⟩ := h.stp
    refine ⟨h.len, by (first | lia | omega), fun p hp => by have := h.inn p hp; (first | lia | omega), fun m hm => ?_, by (first | lia | omega)⟩
    obtain ⟨i, hi, e⟩ := List.getElem_of_mem hm
    have e2 : cfg ms (i : Int) = m := by
      unfold cfg; rw [if_neg (by (first | lia | omega))]; simp [List.getD, hi, e]
    have := h.pos i
    have := s.le i
    have := h.fin i
    (first | lia | omega)
  deed := by
    intro t ms p ws h ht
    obtain ⟨n, s, b⟩ := h.stp
    refine ⟨h.len, h.pos, fun x hx => ?_, fun x hx => ?_, h.fin, n, s, ?_⟩
    · rcases mem_qadd.mp hx with hx | hx
      · exact h.inn x (.tail _ hx)
      · subst hx; exact h.inn x (.head _)
    · rcases List.mem_cons.mp (h.wts x hx) with e | e
      · exact mem_qadd.mpr (.inr e)
      · exact mem_qadd.mpr (.inl e)
    · have := cqadd_len ws p
      rw [List.length_cons] at b
      (first | lia | omega)
  rest := by
    intro t ms p ws h hm
    obtain ⟨n, s, b⟩ := h.stp
    have hp := h.inn p (.head _)
    have h0 := h.pos p
    rw [getD_cfg _ (by (first | lia | omega))] at hm ⊢
    have e : ms.set p.toNat (cfg ms p % 2) = ms := by
      rw [show cfg ms p % 2 = cfg ms p by (first | lia | omega), ← getD_cfg _ (by (first | lia | omega))]
      have hl := h.len
      refine List.ext_getElem (by simp) fun i h1 h2 => ?_
      rw [List.getElem_set]
      split
      · subst_vars; simp [List.getD, show p.toNat < ms.length by (first | lia | omega)]
      · rfl
    rw [e]
    refine ⟨h.len, h.pos, fun x hx => h.inn x (.tail _ hx), fun x hx => ?_, h.fin, n, s, ?_⟩
    · rcases List.mem_cons.mp (h.wts x hx) with e | e
      · subst e; (first | lia | omega)
      · exact e
    · rw [List.length_cons] at b; (first | lia | omega)
  fire := by
    intro t ms p ws s h hs hm
    obtain ⟨n, st, b⟩ := h.stp
    have hp := h.inn p (.head _)
    rw [getD_cfg _ (by (first | lia | omega))] at hm ⊢
    obtain ⟨g1, g2, _⟩ := st.exch h.fin p (by (first | lia | omega))
    obtain ⟨m, e, st2⟩ := st.fires h.fin (x := p) (cfg ms p / 2).toNat (by (first | lia | omega))
    have ec := cfg_fire h.len (p := p) (s := s) (by (first | lia | omega)) (by (first | lia | omega)) hs (cfg ms p / 2)
    have ef : fireN (cfg ms) p (cfg ms p / 2).toNat = cfg (fireL ms p s (cfg ms p / 2)) := by
      rw [fireN_is, ec]
      funext y
      try dsimp only
      by_cases c : y = p
      · subst c; rw [if_pos rfl, if_pos rfl, if_neg (by (first | lia | omega)), if_neg (by (first | lia | omega))]; (first | lia | omega)
      · rw [if_neg c, if_neg c, Int.sub_zero, show ((cfg ms p / 2).toNat : Int) = cfg ms p / 2 by (first | lia | omega)]
    rw [ef] at st2
    refine ⟨by unfold fireL; simp only [List.length_set]; exact h.len, fun x => ?_, fun x hx => ?_, fun x hx => ?_, h.fin, m, st2, ?_⟩
    · rw [ec]
      have h9 := h.pos x
      have h8 : 0 ≤ cfg ms p / 2 := by clear ef st2 st ec; (first | lia | omega)
      try dsimp only
      clear ef st2 st ec hs g1 g2 e b
      split
      · (first | lia | omega)
      · split <;> split <;> (first | lia | omega)
    · rcases mem_qadd.mp hx with hx | hx
      · rcases mem_qadd.mp hx with hx | hx
        · exact h.inn x (.tail _ hx)
        · (first | lia | omega)
      · (first | lia | omega)
    · rw [ec] at hx
      try dsimp only at hx
      by_cases c : x = p
      · rw [if_pos c] at hx; (first | lia | omega)
      · rw [if_neg c] at hx
        by_cases d : x = p - 1 ∨ x = p + 1
        · rcases hs with e | e <;> rcases d with d | d
          · exact mem_qadd.mpr (.inr (by (first | lia | omega)))
          · exact mem_qadd.mpr (.inl (mem_qadd.mpr (.inr (by (first | lia | omega)))))
          · exact mem_qadd.mpr (.inl (mem_qadd.mpr (.inr (by (first | lia | omega)))))
          · exact mem_qadd.mpr (.inr (by (first | lia | omega)))
        · rw [if_neg (by (first | lia | omega)), if_neg (by (first | lia | omega))] at hx
          rcases List.mem_cons.mp (h.wts x (by (first | lia | omega))) with e | e
          · exact absurd e c
          · exact mem_qadd.mpr (.inl (mem_qadd.mpr (.inl e)))
    · have h3 := cqadd_len ws (p + s)
      have h4 := cqadd_len (qadd ws (p + s)) (p - s)
      rw [List.length_cons] at b
      (first | lia | omega)
theorem chip_end {F : Cfg} {t : Nat} {ms : List Int} (h : ChipInv F t ms []) : cfg ms = F := by
  obtain ⟨n, s, _⟩ := h.stp
  cases s with
  | nil => rfl
  | step _ _ c _ => exact absurd (h.wts _ c) (by simp)
theorem many (full : List Int) (low : Int) (k : Nat) (h : ∀ x, low < x → x ≤ low + k → x ∈ full) : k ≤ full.length := by
  induction k generalizing full with
  | zero => (first | lia | omega)
  | succ k ih =>
    have hm := h (low + (k + 1 : Nat)) (by (first | lia | omega)) (by (first | lia | omega))
    have := ih (full.erase (low + (k + 1 : Nat))) fun x h1 h2 => (List.mem_erase_of_ne (by (first | lia | omega))).mpr (h x h1 (by (first | lia | omega)))
    rw [List.length_erase_of_mem hm] at this
    have : 0 < full.length := List.length_pos_of_mem hm
    (first | lia | omega)
theorem at1_is {p x : Int} (h : x = p) : at1 p x = 1 := if_pos h
theorem lin1 (a : Int) : 1 + a - a - 1 + 0 + 0 = 0 := by (first | lia | omega)
theorem lin2 (a : Int) : 0 + a - a - 0 + 1 + 0 = 1 := by (first | lia | omega)
theorem lin3 (a : Int) : 0 + a - a - 0 + 0 + 1 = 1 := by (first | lia | omega)
theorem lin4 (a b : Int) : b + a - a - 0 + 0 + 0 = b := by (first | lia | omega)
/-- one mark more -/
theorem one_more {full : List Int} (hn : full.Nodup) {i : Nat} (hl : full.length = i) (hi : i ≤ 6) (hb : ∀ x ∈ full, 14 ≤ x + i ∧ x ≤ 16 + i) {p : Int} (hp : 13 ≤ p ∧ p ≤ 17) :
    (mstep full p).Nodup ∧ (∀ x ∈ mstep full p, 14 ≤ x + (i + 1 : Nat) ∧ x ≤ 16 + (i + 1 : Nat)) ∧ ∃ n, n ≤ (i + 1) * (i + 1) / 4 ∧ Steps (fun x => indF full x + at1 p x) n (indF (mstep full p)) := by
  obtain ⟨a1, a2, a3⟩ := lowOf_spec full p
  obtain ⟨b1, b2, b3⟩ := highOf_spec full p
  by_cases h : p ∈ full
  · unfold mstep
    have hlp : lowOf full p ≠ p := fun e => a1 (by rw [e]; exact h)
    have hhp : highOf full p ≠ p := fun e => b1 (by rw [e]; exact h)
    have hlh : lowOf full p ≠ highOf full p := by clear a1 a3 b1 b3 hb; (first | lia | omega)
    have hin : ∀ x, lowOf full p < x → x < highOf full p → x ∈ full := fun x h1 h2 => by
      by_cases hx : x ≤ p
      · exact a3 x h1 hx
      · exact b3 x (by (first | lia | omega)) h2
    generalize lowOf full p = lo at *
    generalize highOf full p = hi at *
    have hnd : (full ++ [lo, hi]).Nodup := by
      rw [List.nodup_append]
      refine ⟨hn, by simp; (first | lia | omega), ?_⟩
      intro x hx y hy e
      subst e
      rcases List.mem_cons.mp hy with e | hy
      · subst e; exact a1 hx
      · rw [List.mem_singleton] at hy; subst hy; exact b1 hx
    have hmem : ∀ x, x ∈ (full ++ [lo, hi]).erase (lo + hi - p) ↔ x ≠ lo + hi - p ∧ (x ∈ full ∨ x = lo ∨ x = hi) := fun x => by
      rw [hnd.mem_erase_iff]; simp
    have hlo := hb (lo + 1) (hin _ (by (first | lia | omega)) (by (first | lia | omega)))
    have hhi := hb (hi - 1) (hin _ (by (first | lia | omega)) (by (first | lia | omega)))
    have hcnt := many full lo (hi - lo - 1).toNat fun x h1 h2 => hin x h1 (by (first | lia | omega))
    refine ⟨hnd.erase _, fun x hx => ?_, ?_⟩
    · rcases ((hmem x).mp hx).2 with e | e | e
      · have := hb x e; (first | lia | omega)
      · (first | lia | omega)
      · (first | lia | omega)
    · obtain ⟨n, h4, st⟩ := run_rest _ (fun x => indF full x + at1 p x) (lo + 1) (hi - 1) p (Nat.le_refl _) (by (first | lia | omega)) (by (first | lia | omega)) (by (first | lia | omega)) (by (first | lia | omega)) (fun x c d e => by
        unfold indF at1; rw [if_pos (hin x (by (first | lia | omega)) (by (first | lia | omega))), if_neg e]; rfl) (by unfold indF at1; rw [if_pos h, if_pos rfl]; rfl)
      refine ⟨n, ?_, ?_⟩
      · have h5 : (hi - 1 - (lo + 1) + 2).toNat ≤ i + 1 := by (first | lia | omega)
        have := Nat.mul_le_mul h5 h5
        (first | lia | omega)
      · have e : (fun x => (fun x => indF full x + at1 p x) x - at1 p x - at1 (lo + 1 + (hi - 1) - p) x + at1 (lo + 1 - 1) x + at1 (hi - 1 + 1) x) = indF ((full ++ [lo, hi]).erase (lo + hi - p)) := by
          funext x
          try dsimp only
          rw [show lo + 1 + (hi - 1) - p = lo + hi - p by (first | lia | omega), show lo + 1 - 1 = lo by (first | lia | omega), show hi - 1 + 1 = hi by (first | lia | omega)]
          have hq := hin (lo + hi - p) (by (first | lia | omega)) (by (first | lia | omega))
          have in1 : ∀ {l : List Int}, x ∈ l → indF l x = 1 := fun h => if_pos h
          have in0 : ∀ {l : List Int}, ¬ x ∈ l → indF l x = 0 := fun h => if_neg h
          by_cases c1 : x = lo + hi - p
          · rw [in0 (l := (full ++ [lo, hi]).erase (lo + hi - p)) (fun hh => ((hmem x).mp hh).1 c1), in1 (l := full) (by rw [c1]; exact hq)]
            unfold at1; (first | lia | omega)
          · by_cases c2 : x = lo
            · rw [in1 (l := (full ++ [lo, hi]).erase (lo + hi - p)) ((hmem x).mpr ⟨c1, .inr (.inl c2)⟩), in0 (l := full) (by rw [c2]; exact a1)]
              unfold at1; (first | lia | omega)
            · by_cases c3 : x = hi
              · rw [in1 (l := (full ++ [lo, hi]).erase (lo + hi - p)) ((hmem x).mpr ⟨c1, .inr (.inr c3)⟩), in0 (l := full) (by rw [c3]; exact b1)]
                unfold at1; (first | lia | omega)
              · by_cases c4 : x ∈ full
                · rw [in1 (l := (full ++ [lo, hi]).erase (lo + hi - p)) ((hmem x).mpr ⟨c1, .inl c4⟩), in1 c4, at1_ne c1, at1_ne c2, at1_ne c3]
                  exact lin4 _ _
                · rw [in0 (l := (full ++ [lo, hi]).erase (lo + hi - p)) (fun hh => by
                    rcases ((hmem x).mp hh).2 with e | e | e
                    · exact c4 e
                    · exact c2 e
                    · exact c3 e), in0 c4, at1_ne c1, at1_ne c2, at1_ne c3]
                  exact lin4 _ _
        rw [e] at st
        exact st
  · have e : mstep full p = full ++ [p] := by
      unfold mstep
      rw [lowOf_out h, highOf_out h, show p + p - p = p by (first | lia | omega), List.erase_append_right _ h]
      simp
    rw [e]
    refine ⟨?_, fun x hx => ?_, 0, Nat.zero_le _, ?_⟩
    · rw [List.nodup_append]
      refine ⟨hn, by simp, fun x hx y hy e => ?_⟩
      rw [List.mem_singleton] at hy
      exact h (by rw [← hy, ← e]; exact hx)
    · rcases List.mem_append.mp hx with hx | hx
      · have := hb x hx; (first | lia | omega)
      · rw [List.mem_singleton] at hx; (first | lia | omega)
    · have e2 : (fun x => indF full x + at1 p x) = indF (full ++ [p]) := by
        funext x
        unfold indF at1
        by_cases c : x = p
        · subst c; rw [if_neg h, if_pos rfl, if_pos (by simp)]; rfl
        · rw [if_neg c]
          by_cases d : x ∈ full
          · rw [if_pos d, if_pos (by simp [d])]; rfl
          · rw [if_neg d, if_neg (by simp [c, d])]; rfl
      rw [e2]; exact .nil
noncomputable def cntF (ps : List Int) : Cfg := fun x => (ps.count x : Nat)
noncomputable def firings : Nat → Nat
  | 0 => 0
  | i + 1 => firings i + (i + 1) * (i + 1) / 4
theorem all_rest {ps : List Int} (hl : ps.length = 7) (hp : ∀ p ∈ ps, 13 ≤ p ∧ p ≤ 17) : ∀ i, i ≤ 7 →
    (mall (ps.take i)).Nodup ∧ (∀ x ∈ mall (ps.take i), 14 ≤ x + i ∧ x ≤ 16 + i) ∧ ∃ n, n ≤ firings i ∧ Steps (cntF (ps.take i)) n (indF (mall (ps.take i)))
  | 0, _ => by
    have e : mall (ps.take 0) = [] := rfl
    rw [e]
    refine ⟨List.nodup_nil, fun x hx => (by cases hx), 0, Nat.le_refl _, ?_⟩
    have : cntF (ps.take 0) = indF [] := by
      funext x; unfold cntF indF; simp
    rw [this]; exact .nil
  | i + 1, hi => by
    obtain ⟨h1, h2, n, h3, h4⟩ := all_rest hl hp i (by (first | lia | omega))
    have hil : i < ps.length := by (first | lia | omega)
    have hpi := hp ps[i] (List.getElem_mem hil)
    have e := mall_succ (ps := ps) (i := i) (p := ps[i]) (by simp [hil])
    obtain ⟨g1, g2, m, g3, g4⟩ := one_more h1 (i := i) (by rw [mall_len, List.length_take]; (first | lia | omega)) (by (first | lia | omega)) h2 hpi
    rw [e]
    refine ⟨g1, g2, n + m, ?_, ?_⟩
    · show n + m ≤ firings i + (i + 1) * (i + 1) / 4
      (first | lia | omega)
    · have ec : cntF (ps.take (i + 1)) = fun x => cntF (ps.take i) x + at1 ps[i] x := by
        funext x
        unfold cntF at1
        rw [List.take_add_one, List.getElem?_eq_getElem hil]
        simp only [Option.toList, List.count_append, List.count_cons, List.count_nil]
        by_cases c : x = ps[i]
        · rw [if_pos c, if_pos (by simp [c])]; (first | lia | omega)
        · rw [if_neg c, if_neg (by simp; exact fun h => c h.symm)]; (first | lia | omega)
      rw [ec]
      exact (h4.more ps[i]).trans g4
/-- the beginning -/
noncomputable def marks0 (ps : List Int) : List Int := (List.range 32).map fun (i : Nat) => ((ps.count (i : Int) : Nat) : Int)
noncomputable def wait0 (ps : List Int) : List Int := ps.foldl qadd []
theorem cfg_marks0 {ps : List Int} (hp : ∀ p ∈ ps, 13 ≤ p ∧ p ≤ 17) : cfg (marks0 ps) = cntF ps := by
  funext x
  unfold cfg cntF marks0
  by_cases h : x < 0
  · rw [if_pos h, List.count_eq_zero.mpr fun hm => by have := hp x hm; (first | lia | omega)]; rfl
  · rw [if_neg h]
    by_cases h2 : x < 32
    · have : x.toNat < 32 := by (first | lia | omega)
      simp only [List.getD, List.getElem?_map, List.getElem?_range this, Option.map_some, Option.getD_some]
      rw [show ((x.toNat : Nat) : Int) = x by (first | lia | omega)]
    · rw [List.count_eq_zero.mpr fun hm => by have := hp x hm; (first | lia | omega)]
      have : ¬ x.toNat < 32 := by (first | lia | omega)
      simp [List.getD, this]
theorem wait_fold (ps : List Int) : ∀ ws : List Int, (∀ x, x ∈ ps.foldl qadd ws ↔ x ∈ ws ∨ x ∈ ps) ∧ (ps.foldl qadd ws).length ≤ ws.length + ps.length := by
  induction ps with
  | nil => intro ws; simp
  | cons p ps ih =>
    intro ws
    obtain ⟨h1, h2⟩ := ih (qadd ws p)
    refine ⟨fun x => ?_, ?_⟩
    · rw [List.foldl_cons, h1, mem_qadd, List.mem_cons, or_assoc]
    · rw [List.foldl_cons, List.length_cons]
      have := cqadd_len ws p
      (first | lia | omega)
theorem chip_start {ps : List Int} (hl : ps.length = 7) (hp : ∀ p ∈ ps, 13 ≤ p ∧ p ≤ 17) : ChipInv (indF (mall ps)) 0 (marks0 ps) (wait0 ps) := by
  obtain ⟨h1, h2⟩ := wait_fold ps []
  obtain ⟨_, _, n, h3, h4⟩ := all_rest hl hp 7 (Nat.le_refl _)
  rw [List.take_of_length_le (by (first | lia | omega))] at h4
  have hf : firings 7 = 34 := by decide
  refine ⟨by simp [marks0], fun x => ?_, fun x hx => ?_, fun x hx => ?_, fun x => ?_, n, ?_, ?_⟩
  · rw [cfg_marks0 hp]; unfold cntF; (first | lia | omega)
  · rcases (h1 x).mp hx with e | e
    · cases e
    · have := hp x e; (first | lia | omega)
  · rw [cfg_marks0 hp] at hx
    refine (h1 x).mpr (.inr ?_)
    unfold cntF at hx
    by_cases c : x ∈ ps
    · exact c
    · rw [List.count_eq_zero.mpr c] at hx; (first | lia | omega)
  · unfold indF; split <;> decide
  · rw [cfg_marks0 hp]; exact h4
  · have : (wait0 ps).length ≤ 7 := by rw [hl] at h2; exact Nat.le_trans h2 (by simp)
    (first | lia | omega)
theorem chip_marked {ps : List Int} {t : Nat} {ms : List Int} (h : ChipInv (indF (mall ps)) t ms []) : ms = (List.range 32).map fun (i : Nat) => if (i : Int) ∈ mall ps then (1 : Int) else 0 := by
  have e := chip_end h
  refine List.ext_getElem (by simp [h.len]) fun i h1 h2 => ?_
  have := congrFun e (i : Int)
  unfold cfg indF at this
  rw [if_neg (by (first | lia | omega))] at this
  simpa [List.getD, h1] using this

end
section
theorem startCut : True := by
  w_top off
  trivial
/-- an expression's end, whatever way it took: an int with a property; the ledger back to what it was -/
inductive IntOut (g : Heap) (L : Addr) (m : Str → Option Value) (nw : List (Addr × Obj)) (P : Int → Prop) (s : Shared) : Value → Shared → Prop
  | mk {d : Int} {t : Tok} {h : Heap} {tk : Nat} : P d → Fr g L h m → News g L h nw → IntOut g L m nw P s (.int d t) { s with heap := h, toks := tk }
/-- the same, an object made -/
inductive RefOut (g : Heap) (L : Addr) (m : Str → Option Value) (nw : List (Addr × Obj)) (P : Nat → Obj → Prop) (s : Shared) : Value → Shared → Prop
  | mk {a : Nat} {o : Obj} {h : Heap} {tk : Nat} : P a o → Fr g L h m → News g L h ((a, o) :: nw) → RefOut g L m nw P s (.ref a) { s with heap := h, toks := tk }
section
variable {prog : Program} {w : World} {A : Around} {Q : Value → Shared → Prop} {E : Value → Shared → Prop} {s : Shared} {g h : Heap} {L : Addr} {m : Str → Option Value} {nw all : List (Addr × Obj)} {c : Sem Value}
theorem IntOut.intro {P : Int → Prop} {d : Int} {t : Tok} {tk : Nat} (F : Fr g L h m) (N : News g L h all) (sub : ∀ p ∈ nw, p ∈ all) (hP : P d) : IntOut g L m nw P s (.int d t) { s with heap := h, toks := tk } :=
  .mk hP F fun p hp => N p (sub p hp)
theorem RefOut.intro {P : Nat → Obj → Prop} {a : Nat} {o : Obj} {tk : Nat} (F : Fr g L h m) (N : News g L h all) (sub : ∀ p ∈ (a, o) :: nw, p ∈ all) (hP : P a o) : RefOut g L m nw P s (.ref a) { s with heap := h, toks := tk } :=
  .mk hP F fun p hp => N p (sub p hp)
theorem cutI (P : Int → Prop) (_ : Fr g L s.heap m) (_ : News g L s.heap all) (_ : ∀ p ∈ nw, p ∈ all) (h : wpAny (model prog w) A c (IntOut g L m nw P s) E s)
    (k : ∀ d t h tk, P d → Fr g L h m → News g L h nw → Q (.int d t) { s with heap := h, toks := tk }) : wpAny (model prog w) A c Q E s :=
  wpAny_mono h (fun _ _ x => by cases x with | mk p F N => exact k _ _ _ _ p F N) fun _ _ e => e
theorem cutR (P : Nat → Obj → Prop) (_ : Fr g L s.heap m) (_ : News g L s.heap all) (_ : ∀ p ∈ nw, p ∈ all) (h : wpAny (model prog w) A c (RefOut g L m nw P s) E s)
    (k : ∀ a o h tk, P a o → Fr g L h m → News g L h ((a, o) :: nw) → Q (.ref a) { s with heap := h, toks := tk }) : wpAny (model prog w) A c Q E s :=
  wpAny_mono h (fun _ _ x => by cases x with | mk p F N => exact k _ _ _ _ p F N) fun _ _ e => e
end

end
end
section
local macro_rules | `(tactic| walk_at "execs cons") => `(tactic| (k_extra "hd 0"; intro tk9))
local macro_rules | `(tactic| walk_at "execs nil") => `(tactic| (k_extra "hd 1"; intro tk9))
local macro_rules | `(tactic| kpt_signs) => `(tactic| k_extra "hd 2")
local macro_rules | `(tactic| kde_deep) => `(tactic| first | exact neG (by kpt_signs) | exact neL (by kpt_signs) | (rename _ ∧ _ => c9; clear c9; kde_deep))
local macro_rules | `(tactic| k_ne) => `(tactic| k_extra "hd 3")
local macro_rules | `(tactic| k_all) => `(tactic| first | exact all_nil | (refine' all_cons ?a ?b; (case a => k_ne); (case b => k_all)))
local macro_rules | `(tactic| k_lt $h:ident) => `(tactic| (replace $h := allLt_of $h; dsimp only [AllLt] at $h:ident))
local macro_rules | `(tactic| k_steps) => `(tactic| k_extra "hd 4")
local macro_rules | `(tactic| lcg_lit) => `(tactic| ((with_reducible show wpAny _ _ _ _ _ _); k_fold))
local macro_rules | `(tactic| walk_at "m enter") => `(tactic| (k_extra "hd 5"; intro g' L' h' FG' F' N' B' X' T' l1 l0; (replace l0 := eqN l0); (try dsimp only); (try k_lt l1); (try lcg_lit)))
local macro_rules | `(tactic| walk_at "m enter cells") => `(tactic| (k_extra "hd 6"; intro g' L' h' tk' cells' FG' F' N' Y' B' X' T' l1 l0; (replace l0 := eqN l0); (try k_lt l1); k_cells Y'; (try simp only [List.cons_append, List.nil_append] at N'); (try dsimp only); (try lcg_lit)))
local macro_rules | `(tactic| walk_at "m inline") => `(tactic| (k_extra "hd 7"; intro g' L' h' FG' F' N' B' X' T'; (try dsimp only); (try lcg_lit)))
local macro_rules | `(tactic| walk_at "call ref") => `(tactic| (k_here; k_dflt (first
  | (refine wpAny_call ?_; walk_at "m inline")
  | (refine' call_cls ?k1 ?k2 ?k3 ?k4 ?k5 ?k6 ?_; (case k1 => k_asm); (case k2 => k_asm); (case k3 => k_asm); (case k4 => k_is); (case k5 => k_is); (case k6 => k_is); k_whole; intro x' d' h' F' N' l1 l2; (try k_lt l1); (try k_lt2 l2); (try k_sweep); walk_at "m inline"))))
local macro_rules | `(tactic| size_fits) => `(tactic| k_extra "hd 9")
local macro_rules | `(tactic| walk_at "call type:list") => `(tactic| (k_extra "hd 10"; intro D' n' ys' h' tk' F' N' sa' l1; (try k_lt l1); (try k_sweep)))
local macro_rules | `(tactic| walk_at "m codes") => `(tactic| k_extra "hd 11")
local macro_rules | `(tactic| walk_at "setAttr ref") => `(tactic| (k_extra "hd 12"; intro d' h' F' N' l1; (try dsimp only at N'); (try k_lt l1); (try k_sweep)))
local macro_rules | `(tactic| walk_at "m enter made") => `(tactic| (k_extra "hd 13"; intro g' L' h' FG' F' N' B' st' l1 l0; (replace l0 := eqN l0); (have X' := Frag.In.keeps (by assumption) st'); (have T' := Top.keeps (by assumption) st'); (try dsimp only); (try k_lt l1); (try lcg_lit)))
local macro_rules | `(tactic| walk_at "call builtin:list.pop") => `(tactic| (k_extra "hd 14"; intro h' F' N'; (try k_sweep)))
local macro_rules | `(tactic| walk_at "truthy ref") => `(tactic| (k_extra "hd 15"; intro tk))
local macro_rules | `(tactic| walk_at "eval Name") => `(tactic| k_extra "hd 16")
local macro_rules | `(tactic| walk_at "getMethod ref") => `(tactic| k_extra "hd 17")
local macro_rules | `(tactic| walk_at "callWith ref") => `(tactic| k_extra "hd 18")
local macro_rules | `(tactic| kxw_bool) => `(tactic| first | ((repeat (first | exact sub_nil | (with_reducible exact fun _ h => h) | ((with_reducible refine' sub_bothA ?e ?_); (case e => rfl)) | (with_reducible refine sub_skip ?_))); done) | exact sub_nil | (refine' sub_cons ?a ?b; (case a => k_mem); (case b => kxw_bool)))
local macro_rules | `(tactic| kxw_int) => `(tactic| first | exact off_nil _ | (refine' off_cons ?a ?b; (case a => k_ne); (case b => kxw_int)))
local macro_rules | `(tactic| kxw_text) => `(tactic| first | exact in_head | (refine' in_tail ?a; (case a => kxw_text)))
local macro_rules | `(tactic| kin_val) => `(tactic| first | exact Rest.nil | (refine' Rest.drop2 ?a ?b; (case a => kxw_text); (case b => kin_val)) | (refine' Rest.keep ?a ?b; (case a => kxw_int); (case b => kin_val)))
local macro_rules | `(tactic| walk_at "m args") => `(tactic| k_extra "hd 19")
theorem startHead : True := by
  k_with "hd 0" => (k_here; (with_reducible show wpAny _ _ _ _ _ (Shared.mk _ _ _ (_ + _) _)); (with_reducible refine gen9 ?_))
  k_with "hd 1" => (k_here; (with_reducible show wpAny _ _ _ _ _ (Shared.mk _ _ _ (_ + _) _)); (with_reducible refine gen9 ?_))
  k_with "hd 2" => (rename _ ∧ _ => c9; with_reducible first | exact c9.1 | exact c9.2.1 | exact c9.2.2.1 | exact c9.2.2.2.1 | exact c9.2.2.2.2.1 | exact c9.2.2.2.2.2.1 | exact c9.2.2.2.2.2.2.1 | exact c9.2.2.2.2.2.2.2.1 | exact c9.2.2.2.2.2.2.2.2.1 | exact c9.2.2.2.2.2.2.2.2.2.1 | exact c9.2.2.2.2.2.2.2.2.2.2.1 | exact c9.2.2.2.2.2.2.2.2.2.2.2.1 | exact c9.2.2.2.2.2.2.2.2.2.2.2.2.1)
  k_with "hd 3" => ((try dsimp only); first | (with_reducible assumption) | (exact Ne.symm (by with_reducible assumption)) | (refine neN ?_; first | (with_reducible exact neL (by with_reducible assumption)) | (with_reducible exact neG (by with_reducible assumption)) | kde_deep | omega))
  k_with "hd 4" => repeat' (first | (k_unfold; (try dsimp only)) | (k_end; wrow_close) | walk1 | (dsimp only; walk1) | (leave1; walk_say "STEP leave1"; try dsimp only) | (dsimp only; k_unfold; (try dsimp only)) | fail "no step")
  k_with "hd 5" => (refine' enter ?z9k1 ?z9k2 ?z9k3 ?z9k4 ?z9k5 ?z9kA ?z9kF ?z9kK ?z9k6 ?z9k7 ?z9k8 ?z9k9 ?z9kB ?z9kk ?_ ?z9c2 ?z9c3 ?z9c4 ?z9c5; (case z9kA => exact rfl); (case z9kF => exact rfl); (case z9kK => assumption); (case z9k1 => k_asm); (case z9k2 => k_asm); (case z9k3 => k_asm); (case z9k4 => k_asm); (case z9k5 => k_asm); (case z9k6 => k_is); (case z9k7 => k_is); (case z9k8 => ktr_room); (case z9k9 => exact BindsTo.of_eq rfl); (case z9c5 => decide); (case z9kB => exact locs rfl); (case z9c2 => exact rfl); (case z9c3 => exact rfl); (case z9c4 => exact rfl); (case z9kk => assumption); k_whole)
  k_with "hd 6" => (refine' enterK ?z9k1 ?z9k2 ?z9k3 ?z9k4 ?z9k5 ?z9kA ?z9kF ?z9kK ?z9k6 ?z9k7 ?z9k8 ?z9k9 ?z9kB ?z9kN ?z9kk ?_ ?z9c2 ?z9c3 ?z9c4; (case z9kA => exact rfl); (case z9kF => exact rfl); (case z9kK => assumption); (case z9k1 => k_asm); (case z9k2 => k_asm); (case z9k3 => k_asm); (case z9k4 => k_asm); (case z9k5 => k_asm); (case z9k6 => k_is); (case z9k7 => k_is); (case z9k8 => ktr_room); (case z9k9 => exact BindsTo.of_eq rfl); (case z9kB => exact rfl); (case z9kN => decide); (case z9c2 => exact rfl); (case z9c3 => exact rfl); (case z9c4 => exact rfl); (case z9kk => assumption); k_whole)
  k_with "hd 7" => (refine' code_def ?z9k1 ?z9k2 ?z9k3 ?z9k4 ?z9k5 ?z9kA ?z9kF ?z9kK ?z9k6 ?z9k7 ?z9k8 ?z9k9 ?z9kB ?_ ?z9c2 ?z9c3 ?z9c4 ?z9c5; (case z9kA => exact rfl); (case z9kF => exact rfl); (case z9kK => first | exact rfl | assumption); (case z9k1 => k_asm); (case z9k2 => k_asm); (case z9k3 => k_asm); (case z9k4 => k_asm); (case z9k5 => k_asm); (case z9k6 => k_is); (case z9k7 => k_is); (case z9k8 => ktr_room); (case z9k9 => exact BindsTo.of_eq rfl); (case z9c5 => decide); (case z9kB => exact locs rfl); (case z9c2 => exact rfl); (case z9c3 => exact rfl); (case z9c4 => exact rfl); k_whole)
  k_with "hd 9" => (simp only [PySem.sizeLine_eq, List.size_toArray, Array.size_push, List.length_append, List.length_cons, List.length_nil]; (first | lia | omega))
  k_with "hd 10" => (k_here; (with_reducible show wpAny _ _ (call (Value.type _) [Value.str _ _]) _ _ _); k_dflt (refine' list_strK ?z9hh ?z9F ?z9N ?z9z ?_; (case z9hh => exact rfl); (case z9F => k_asm); (case z9N => k_asm); (case z9z => size_fits); k_whole))
  k_with "hd 11" => (rename Frag.In _ _ => X9; have C9 := codeHd_of_K (c := 113) (P := 109) X9 (by kernel_rfl))
  k_with "hd 12" => (k_here; (with_reducible show wpAny _ _ (setAttr _ (Str.ofString "read") _) _ _ _); k_dflt (refine' setAttr_fnK ?z9F ?z9N ?z9U ?z9n ?_; (case z9F => k_asm); (case z9N => k_asm); (case z9U => k_updF); (case z9n => exact fn_no_read); k_whole))
  k_with "hd 13" => (refine' enterX ?z9k1 ?z9k2 ?z9k4 ?z9k5 ?z9kA ?z9kF ?z9kK ?z9k6 ?z9kd ?z9k7 ?z9k8 ?z9k9 ?z9kB ?z9kk ?_ ?z9c5 ?z9c2 ?z9c3 ?z9c4; (case z9kA => exact rfl); (case z9kF => exact rfl); (case z9kK => assumption); (case z9k1 => k_asm); (case z9k2 => k_asm); (case z9k4 => k_asm); (case z9k5 => exact Top.nolimit (by k_asm)); (case z9k6 => exact News.get (by k_asm) (by k_mem)); (case z9kd => exact rfl); (case z9k7 => exact codeRec_news (by k_asm) (by k_mem) (by assumption) (by assumption)); (case z9k8 => ktr_room); (case z9k9 => exact BindsTo.of_eq rfl); (case z9c5 => decide); (case z9kB => exact locs rfl); (case z9c2 => exact rfl); (case z9c3 => exact rfl); (case z9c4 => exact rfl); (case z9kk => assumption); k_whole)
  k_with "hd 14" => (k_here; (with_reducible show wpAny _ _ (call (Value.builtin _) [Value.ref _, Value.int _ _]) _ _ _); k_dflt (refine' pop0 ?z9F ?z9N ?z9U ?z9z ?_; (case z9F => k_asm); (case z9N => k_asm); (case z9U => k_upd); (case z9z => size_fits); k_whole))
  k_with "hd 15" => (k_here; k_dflt (first | (refine' truthyNil ?z9N ?z9m ?_; (case z9N => k_asm); (case z9m => k_mem); k_whole) | (refine' truthyCons ?z9N ?z9m ?z9z ?_; (case z9N => k_asm); (case z9m => k_mem); (case z9z => size_fits); k_whole)))
  k_with "hd 16" => (k_here; k_dflt (first
  | (refine' nameX_L ?z9F ?z9v ?_ ?z9a ?z9b; (case z9F => k_asm); (case z9a => rfl); (case z9b => rfl); (case z9v => first | assumption | rfl); k_whole)
  | (refine' nameX_F ?z9N ?z9c ?z9m ?z9d ?_ ?z9a ?z9b; (case z9a => rfl); (case z9b => rfl); (case z9N => k_asm); (case z9c => rfl); (case z9m => k_mem); (case z9d => k_asm); k_whole)
  | (refine' nameX_C ?z9N ?z9c ?z9m ?z9d ?_ ?z9a ?z9b; (case z9a => rfl); (case z9b => rfl); (case z9N => k_asm); (case z9c => rfl); (case z9m => k_mem); (case z9d => k_asm); k_whole)
  | (refine' nameX_K ?z9F ?z9X ?z9T ?z9e ?_ ?z9a ?z9b; (case z9F => k_asm); (case z9X => k_asm); (case z9T => k_asm); (case z9a => rfl); (case z9b => rfl); (case z9e => k_is); k_whole)
  | (refine' nameX_B ?z9F ?z9X ?z9T ?z9e ?z9v ?z9n ?_ ?z9a ?z9b; (case z9F => k_asm); (case z9X => k_asm); (case z9T => k_asm); (case z9a => rfl); (case z9b => rfl); (case z9e => k_is); (case z9v => boot_fast); (case z9n => decide); k_whole)))
  k_with "hd 17" => (k_here; (with_reducible show wpAny _ _ (getMethod (Value.ref _) (Str.ofString "read") _) _ _ _); k_dflt (refine' getMethod_fn ?z9N ?z9f ?z9d ?z9n ?z9l ?z9v ?_; (case z9N => k_asm); (case z9f => k_mem); (case z9d => k_mem); (case z9n => exact fn_no_read); (case z9l => k_get); (case z9v => k_handed); k_whole))
  k_with "hd 18" => (k_here; k_dflt (first
  | (refine' callWith_F ?z9k1 ?_; (case z9k1 => exact FnAt.of (by k_asm) (by k_mem)); k_whole)
  | (refine' callWith_F0 ?z9k1 ?_; (case z9k1 => exact FnAt.of (by k_asm) (by k_mem)); k_whole; try dsimp only [List.nil_append, List.cons_append])))
  k_with "hd 19" => ((case B => k_asm); (case F => k_asm); (case X => k_asm); (case N => k_asm); (case T => k_asm); (case hk => first | exact rfl | assumption); (case hd => ktr_room); (case hu => ktr_units); (case hp => kxw_bool); (case hr => kin_val))
  trivial
section
theorem startDefs1 : True := by
  w_top off
  trivial
local macro_rules | `(tactic| walk_at "zz none") => `(tactic| fail "zz none")
noncomputable abbrev row := PySem.Challenge.rw_xe0009_01
noncomputable abbrev ent (P : Params) (x : Str) (t : Tok) (v : Value) : DictEntry := ⟨PyData.keyHash P x, .str x t, v⟩
noncomputable abbrev rdDict (P : Params) (t : Nat → Tok) (tl : Tok) (ln : Int) (st pb : Addr) : Obj :=
  dictOf [ent P "lineno" (t 0) (.int ln tl), ent P "instream" (t 2) (.ref st), ent P "whitespace" (t 3) (.str "\n\t\r " (t 4)), ent P "pushback" (t 5) (.ref pb)] 4
/-- the def at a place within the text's own def at a place of its top -/
noncomputable def inner (p : Program) (i j : Nat) : Option (Arguments × List Stmt × Scope) :=
  match p.main.body[i]? with
  | some (.FunctionDef _ _ b _ _ _ _ _ _ _) => match b[j]? with
    | some (.FunctionDef _ ps b' _ _ _ sc _ _ _) => some (ps, b', sc)
    | _ => none
  | _ => none
noncomputable def readParts : Arguments × List Stmt × Scope := match inner PySem.Challenge.rw_xe0009_01.prog 11 1 with | some x => x | none => ({ posonlyargs := [], args := [], vararg := none, kwonlyargs := [], kw_defaults := [], kwarg := none, defaults := [] }, [], { kind := .function, names := [], isGenerator := false, isCoroutine := false })
/-- a reader's addresses, and what of its parts is never looked at -/
structure RdA where
  x : Nat
  d : Nat
  pb : Nat
  st : Nat
  sd : Nat
  rf : Nat
  rc : Nat
  sg : Nat
  cl : Nat
  t : Nat → Tok
  fd : FuncData
  q : Str
  dc : Value
  pm : Value
  ct : Value
  oc : Obj
  ob : Obj
  vs : Array Value
structure RdA.Ok (R : RdA) : Prop where
  oc : R.oc.data = .fields R.vs
  q : R.vs[1]? = some (.str R.q (R.t 7))
  ob : R.ob.data = .cell (some (.ref R.sg))
  lt : R.cl < R.sg ∧ R.sg < R.rc ∧ R.rc < R.rf ∧ R.rf < R.st ∧ R.st < R.sd ∧ R.sd < R.d ∧ R.d < R.x ∧ R.x < R.pb
noncomputable abbrev readFn (R : RdA) : Obj := fnMade "read" R.q readParts.1 readParts.2.1 readParts.2.2 [("signs", R.cl)] R.dc R.pm R.rc R.ct
noncomputable abbrev streamFn (R : RdA) : Obj := { cls := .type "function", dict := some R.sd, data := .func R.fd }
noncomputable abbrev streamDict (P : Params) (R : RdA) : Obj := dictOf [ent P "read" (R.t 6) (.ref R.rf)] 1
/-- the part that reads a sign -/
noncomputable abbrev rdIn (P : Params) (R : RdA) (vs : List Value) (n : Nat) : List (Addr × Obj) :=
  [(R.st, streamFn R), (R.sd, streamDict P R), (R.rf, readFn R), (R.rc, R.oc), (R.cl, R.ob), (R.sg, listOf vs.toArray n)]
noncomputable abbrev rdAll (P : Params) (R : RdA) (ln : Int) (tl : Tok) (ps : List Value) (k : Nat) (vs : List Value) (n : Nat) : List (Addr × Obj) :=
  (R.x, instObj 91 R.d) :: (R.d, rdDict P R.t tl ln R.st R.pb) :: (R.pb, listOf ps.toArray k) :: rdIn P R vs n
/-- the parts lie apart -/
noncomputable abbrev RdA.Apart (R : RdA) : Prop := R.cl < R.sg ∧ R.sg < R.rc ∧ R.rc < R.rf ∧ R.rf < R.st ∧ R.st < R.sd ∧ R.sd < R.d ∧ R.d < R.x ∧ R.x < R.pb
theorem RdA.n01 {R : RdA} (h : R.Apart) : @Ne Addr R.cl R.sg := Nat.ne_of_lt (by (first | lia | omega))
theorem RdA.n02 {R : RdA} (h : R.Apart) : @Ne Addr R.cl R.rc := Nat.ne_of_lt (by (first | lia | omega))
theorem RdA.n03 {R : RdA} (h : R.Apart) : @Ne Addr R.cl R.rf := Nat.ne_of_lt (by (first | lia | omega))
theorem RdA.n04 {R : RdA} (h : R.Apart) : @Ne Addr R.cl R.st := Nat.ne_of_lt (by (first | lia | omega))
theorem RdA.n05 {R : RdA} (h : R.Apart) : @Ne Addr R.cl R.sd := Nat.ne_of_lt (by (first | lia | omega))
theorem RdA.n06 {R : RdA} (h : R.Apart) : @Ne Addr R.cl R.d := Nat.ne_of_lt (by (first | lia | omega))
theorem RdA.n07 {R : RdA} (h : R.Apart) : @Ne Addr R.cl R.x := Nat.ne_of_lt (by (first | lia | omega))
theorem RdA.n08 {R : RdA} (h : R.Apart) : @Ne Addr R.cl R.pb := Nat.ne_of_lt (by (first | lia | omega))
theorem RdA.n12 {R : RdA} (h : R.Apart) : @Ne Addr R.sg R.rc := Nat.ne_of_lt (by (first | lia | omega))
theorem RdA.n13 {R : RdA} (h : R.Apart) : @Ne Addr R.sg R.rf := Nat.ne_of_lt (by (first | lia | omega))
theorem RdA.n14 {R : RdA} (h : R.Apart) : @Ne Addr R.sg R.st := Nat.ne_of_lt (by (first | lia | omega))
theorem RdA.n15 {R : RdA} (h : R.Apart) : @Ne Addr R.sg R.sd := Nat.ne_of_lt (by (first | lia | omega))
theorem RdA.n16 {R : RdA} (h : R.Apart) : @Ne Addr R.sg R.d := Nat.ne_of_lt (by (first | lia | omega))
theorem RdA.n17 {R : RdA} (h : R.Apart) : @Ne Addr R.sg R.x := Nat.ne_of_lt (by (first | lia | omega))
theorem RdA.n18 {R : RdA} (h : R.Apart) : @Ne Addr R.sg R.pb := Nat.ne_of_lt (by (first | lia | omega))
theorem RdA.n23 {R : RdA} (h : R.Apart) : @Ne Addr R.rc R.rf := Nat.ne_of_lt (by (first | lia | omega))
theorem RdA.n24 {R : RdA} (h : R.Apart) : @Ne Addr R.rc R.st := Nat.ne_of_lt (by (first | lia | omega))
theorem RdA.n25 {R : RdA} (h : R.Apart) : @Ne Addr R.rc R.sd := Nat.ne_of_lt (by (first | lia | omega))
theorem RdA.n26 {R : RdA} (h : R.Apart) : @Ne Addr R.rc R.d := Nat.ne_of_lt (by (first | lia | omega))
theorem RdA.n27 {R : RdA} (h : R.Apart) : @Ne Addr R.rc R.x := Nat.ne_of_lt (by (first | lia | omega))
theorem RdA.n28 {R : RdA} (h : R.Apart) : @Ne Addr R.rc R.pb := Nat.ne_of_lt (by (first | lia | omega))
theorem RdA.n34 {R : RdA} (h : R.Apart) : @Ne Addr R.rf R.st := Nat.ne_of_lt (by (first | lia | omega))
theorem RdA.n35 {R : RdA} (h : R.Apart) : @Ne Addr R.rf R.sd := Nat.ne_of_lt (by (first | lia | omega))
theorem RdA.n36 {R : RdA} (h : R.Apart) : @Ne Addr R.rf R.d := Nat.ne_of_lt (by (first | lia | omega))
theorem RdA.n37 {R : RdA} (h : R.Apart) : @Ne Addr R.rf R.x := Nat.ne_of_lt (by (first | lia | omega))
theorem RdA.n38 {R : RdA} (h : R.Apart) : @Ne Addr R.rf R.pb := Nat.ne_of_lt (by (first | lia | omega))
theorem RdA.n45 {R : RdA} (h : R.Apart) : @Ne Addr R.st R.sd := Nat.ne_of_lt (by (first | lia | omega))
theorem RdA.n46 {R : RdA} (h : R.Apart) : @Ne Addr R.st R.d := Nat.ne_of_lt (by (first | lia | omega))
theorem RdA.n47 {R : RdA} (h : R.Apart) : @Ne Addr R.st R.x := Nat.ne_of_lt (by (first | lia | omega))
theorem RdA.n48 {R : RdA} (h : R.Apart) : @Ne Addr R.st R.pb := Nat.ne_of_lt (by (first | lia | omega))
theorem RdA.n56 {R : RdA} (h : R.Apart) : @Ne Addr R.sd R.d := Nat.ne_of_lt (by (first | lia | omega))
theorem RdA.n57 {R : RdA} (h : R.Apart) : @Ne Addr R.sd R.x := Nat.ne_of_lt (by (first | lia | omega))
theorem RdA.n58 {R : RdA} (h : R.Apart) : @Ne Addr R.sd R.pb := Nat.ne_of_lt (by (first | lia | omega))
theorem RdA.n67 {R : RdA} (h : R.Apart) : @Ne Addr R.d R.x := Nat.ne_of_lt (by (first | lia | omega))
theorem RdA.n68 {R : RdA} (h : R.Apart) : @Ne Addr R.d R.pb := Nat.ne_of_lt (by (first | lia | omega))
theorem RdA.n78 {R : RdA} (h : R.Apart) : @Ne Addr R.x R.pb := Nat.ne_of_lt (by (first | lia | omega))

end
section
theorem startSetD1 : True := by
  w_top off
  trivial
noncomputable abbrev frmS (o : Str → Option Value) (x wt mk dr : Nat) (og : Int) (tg : Tok) : Str → Option Value := fun y =>
  if y = Str.ofString "reader" then some (.ref x) else if y = Str.ofString "waiting" then some (.ref wt) else if y = Str.ofString "marks" then some (.ref mk) else if y = Str.ofString "draws" then some (.ref dr) else if y = Str.ofString "origin" then some (.int og tg) else o y
noncomputable abbrev setLed (P : Params) (R : RdA) (ln : Int) (tl : Tok) (pv : List Value) (k : Nat) (vs : List Value) (n : Nat) (wt mk dr : Nat) (wv mv dv : List Value) (kw km kd : Nat) : List (Addr × Obj) :=
  rdAll P R ln tl pv k vs n ++ [(mk, W.listOf mv.toArray km), (wt, W.listOf wv.toArray kw), (dr, W.listOf dv.toArray kd)]
noncomputable abbrev frmT (o : Str → Option Value) (x wt mk dr : Nat) (og : Int) (tg : Tok) (tn : Int) (tt : Tok) (wo : Str) (tw : Tok) (q : Int) (tq : Tok) (d : Int) (td : Tok) (dd : Int) (tdd : Tok) (re : Str) (tr : Tok) : Str → Option Value := fun y =>
  if y = Str.ofString "reader" then some (.ref x) else if y = Str.ofString "waiting" then some (.ref wt) else if y = Str.ofString "marks" then some (.ref mk) else if y = Str.ofString "draws" then some (.ref dr) else if y = Str.ofString "origin" then some (.int og tg)
  else if y = Str.ofString "turn" then some (.int tn tt) else if y = Str.ofString "word" then some (.str wo tw) else if y = Str.ofString "place" then some (.int q tq) else if y = Str.ofString "draw" then some (.int d td) else if y = Str.ofString "deed" then some (.int dd tdd) else if y = Str.ofString "reply" then some (.str re tr) else o y
noncomputable abbrev frmU (o : Str → Option Value) (x wt mk dr : Nat) (og : Int) (tg : Tok) (q : Int) (tq : Tok) (d : Int) (td : Tok) (hv : Int) (th : Tok) : Str → Option Value := fun y =>
  if y = Str.ofString "reader" then some (.ref x) else if y = Str.ofString "waiting" then some (.ref wt) else if y = Str.ofString "marks" then some (.ref mk) else if y = Str.ofString "draws" then some (.ref dr) else if y = Str.ofString "origin" then some (.int og tg)
  else if y = Str.ofString "place" then some (.int q tq) else if y = Str.ofString "draw" then some (.int d td) else if y = Str.ofString "half" then some (.int hv th) else o y
noncomputable def tailOf (p : Program) (i k : Nat) : List Stmt := match p.main.body[i]? with
  | some (.FunctionDef _ _ b _ _ _ _ _ _ _) => (match b[(0 : Nat)]? with
    | some (.For _ _ b' _ _) => b'.drop k
    | _ => [])
  | _ => []
noncomputable def scopeOf (p : Program) (i : Nat) : Scope := match p.main.body[i]? with
  | some (.FunctionDef _ _ _ _ _ _ sc _ _ _) => sc
  | _ => { kind := .function, names := [], isGenerator := false, isCoroutine := false }
noncomputable def setTail : List Stmt := tailOf PySem.Challenge.rw_xe0009_01.prog 14 10
noncomputable def setScope : Scope := scopeOf PySem.Challenge.rw_xe0009_01.prog 14
noncomputable def setFor : List Stmt := tailOf PySem.Challenge.rw_xe0009_01.prog 14 14
noncomputable def setEnv (L : Addr) : Env := envOf (Str.ofString "_law_settled") setScope L 135 (.ref 134)
/-- where the four lists of the settling lie: apart from each other and from the reader -/
noncomputable abbrev OrdS (R : RdA) (wt mk dr : Nat) : Prop := dr < R.cl ∧ R.pb < wt ∧ mk < wt ∧ mk ≠ dr ∧ mk ≠ R.cl ∧ mk ≠ R.sg ∧ mk ≠ R.rc ∧ mk ≠ R.rf ∧ mk ≠ R.st ∧ mk ≠ R.sd ∧ mk ≠ R.d ∧ mk ≠ R.x ∧ mk ≠ R.pb
theorem OrdS.w0 {R : RdA} {wt mk dr : Nat} (h : R.Apart) (o : OrdS R wt mk dr) : @Ne Addr R.cl wt := Nat.ne_of_lt (by (first | lia | omega))
theorem OrdS.m0 {R : RdA} {wt mk dr : Nat} (o : OrdS R wt mk dr) : @Ne Addr R.cl mk := Ne.symm o.2.2.2.2.1
theorem OrdS.d0 {R : RdA} {wt mk dr : Nat} (h : R.Apart) (o : OrdS R wt mk dr) : @Ne Addr R.cl dr := Nat.ne_of_gt (by (first | lia | omega))
theorem OrdS.w1 {R : RdA} {wt mk dr : Nat} (h : R.Apart) (o : OrdS R wt mk dr) : @Ne Addr R.sg wt := Nat.ne_of_lt (by (first | lia | omega))
theorem OrdS.m1 {R : RdA} {wt mk dr : Nat} (o : OrdS R wt mk dr) : @Ne Addr R.sg mk := Ne.symm o.2.2.2.2.2.1
theorem OrdS.d1 {R : RdA} {wt mk dr : Nat} (h : R.Apart) (o : OrdS R wt mk dr) : @Ne Addr R.sg dr := Nat.ne_of_gt (by (first | lia | omega))
theorem OrdS.w2 {R : RdA} {wt mk dr : Nat} (h : R.Apart) (o : OrdS R wt mk dr) : @Ne Addr R.rc wt := Nat.ne_of_lt (by (first | lia | omega))
theorem OrdS.m2 {R : RdA} {wt mk dr : Nat} (o : OrdS R wt mk dr) : @Ne Addr R.rc mk := Ne.symm o.2.2.2.2.2.2.1
theorem OrdS.d2 {R : RdA} {wt mk dr : Nat} (h : R.Apart) (o : OrdS R wt mk dr) : @Ne Addr R.rc dr := Nat.ne_of_gt (by (first | lia | omega))
theorem OrdS.w3 {R : RdA} {wt mk dr : Nat} (h : R.Apart) (o : OrdS R wt mk dr) : @Ne Addr R.rf wt := Nat.ne_of_lt (by (first | lia | omega))
theorem OrdS.m3 {R : RdA} {wt mk dr : Nat} (o : OrdS R wt mk dr) : @Ne Addr R.rf mk := Ne.symm o.2.2.2.2.2.2.2.1
theorem OrdS.d3 {R : RdA} {wt mk dr : Nat} (h : R.Apart) (o : OrdS R wt mk dr) : @Ne Addr R.rf dr := Nat.ne_of_gt (by (first | lia | omega))
theorem OrdS.w4 {R : RdA} {wt mk dr : Nat} (h : R.Apart) (o : OrdS R wt mk dr) : @Ne Addr R.st wt := Nat.ne_of_lt (by (first | lia | omega))
theorem OrdS.m4 {R : RdA} {wt mk dr : Nat} (o : OrdS R wt mk dr) : @Ne Addr R.st mk := Ne.symm o.2.2.2.2.2.2.2.2.1
theorem OrdS.d4 {R : RdA} {wt mk dr : Nat} (h : R.Apart) (o : OrdS R wt mk dr) : @Ne Addr R.st dr := Nat.ne_of_gt (by (first | lia | omega))
theorem OrdS.w5 {R : RdA} {wt mk dr : Nat} (h : R.Apart) (o : OrdS R wt mk dr) : @Ne Addr R.sd wt := Nat.ne_of_lt (by (first | lia | omega))
theorem OrdS.m5 {R : RdA} {wt mk dr : Nat} (o : OrdS R wt mk dr) : @Ne Addr R.sd mk := Ne.symm o.2.2.2.2.2.2.2.2.2.1
theorem OrdS.d5 {R : RdA} {wt mk dr : Nat} (h : R.Apart) (o : OrdS R wt mk dr) : @Ne Addr R.sd dr := Nat.ne_of_gt (by (first | lia | omega))
theorem OrdS.w6 {R : RdA} {wt mk dr : Nat} (h : R.Apart) (o : OrdS R wt mk dr) : @Ne Addr R.d wt := Nat.ne_of_lt (by (first | lia | omega))
theorem OrdS.m6 {R : RdA} {wt mk dr : Nat} (o : OrdS R wt mk dr) : @Ne Addr R.d mk := Ne.symm o.2.2.2.2.2.2.2.2.2.2.1
theorem OrdS.d6 {R : RdA} {wt mk dr : Nat} (h : R.Apart) (o : OrdS R wt mk dr) : @Ne Addr R.d dr := Nat.ne_of_gt (by (first | lia | omega))
theorem OrdS.w7 {R : RdA} {wt mk dr : Nat} (h : R.Apart) (o : OrdS R wt mk dr) : @Ne Addr R.x wt := Nat.ne_of_lt (by (first | lia | omega))
theorem OrdS.m7 {R : RdA} {wt mk dr : Nat} (o : OrdS R wt mk dr) : @Ne Addr R.x mk := Ne.symm o.2.2.2.2.2.2.2.2.2.2.2.1
theorem OrdS.d7 {R : RdA} {wt mk dr : Nat} (h : R.Apart) (o : OrdS R wt mk dr) : @Ne Addr R.x dr := Nat.ne_of_gt (by (first | lia | omega))
theorem OrdS.w8 {R : RdA} {wt mk dr : Nat} (h : R.Apart) (o : OrdS R wt mk dr) : @Ne Addr R.pb wt := Nat.ne_of_lt (by (first | lia | omega))
theorem OrdS.m8 {R : RdA} {wt mk dr : Nat} (o : OrdS R wt mk dr) : @Ne Addr R.pb mk := Ne.symm o.2.2.2.2.2.2.2.2.2.2.2.2
theorem OrdS.d8 {R : RdA} {wt mk dr : Nat} (h : R.Apart) (o : OrdS R wt mk dr) : @Ne Addr R.pb dr := Nat.ne_of_gt (by (first | lia | omega))
theorem OrdS.mw {R : RdA} {wt mk dr : Nat} (o : OrdS R wt mk dr) : @Ne Addr mk wt := Nat.ne_of_lt o.2.2.1
theorem OrdS.md {R : RdA} {wt mk dr : Nat} (o : OrdS R wt mk dr) : @Ne Addr mk dr := o.2.2.2.1
theorem OrdS.dw {R : RdA} {wt mk dr : Nat} (h : R.Apart) (o : OrdS R wt mk dr) : @Ne Addr dr wt := Nat.ne_of_lt (by (first | lia | omega))
theorem off_same {nw nw' : List (Addr × Obj)} {I : Addr} (h : ∀ p ∈ nw, p.1 ≠ I) (e : nw'.map (·.1) = nw.map (·.1)) : ∀ p ∈ nw', p.1 ≠ I := by
  intro p hp
  have : p.1 ∈ nw'.map (·.1) := List.mem_map_of_mem hp
  rw [e] at this
  obtain ⟨q, hq, e2⟩ := List.mem_map.mp this
  rw [← e2]; exact h q hq
section
variable {g h : Heap} {L : Addr} {m : Str → Option Value} {x wt mk dr : Nat} {og q d hv tn dd : Int} {tg tq td th tt tw tdd tr : Tok} {wo re : Str}
theorem Fr.toS (F : Fr g L h m) (e1 : m (Str.ofString "reader") = some (.ref x)) (e2 : m (Str.ofString "waiting") = some (.ref wt)) (e3 : m (Str.ofString "marks") = some (.ref mk)) (e4 : m (Str.ofString "draws") = some (.ref dr)) (e5 : m (Str.ofString "origin") = some (.int og tg)) : Fr g L h (frmS m x wt mk dr og tg) :=
  Fr.congr F (by
    intro y
    by_cases h1 : y = Str.ofString "reader"; · subst h1; exact e1
    by_cases h2 : y = Str.ofString "waiting"; · subst h2; exact e2
    by_cases h3 : y = Str.ofString "marks"; · subst h3; exact e3
    by_cases h4 : y = Str.ofString "draws"; · subst h4; exact e4
    by_cases h5 : y = Str.ofString "origin"; · subst h5; exact e5
    simp only [frmS, if_neg h1, if_neg h2, if_neg h3, if_neg h4, if_neg h5])
theorem Fr.toU (F : Fr g L h m) (e1 : m (Str.ofString "reader") = some (.ref x)) (e2 : m (Str.ofString "waiting") = some (.ref wt)) (e3 : m (Str.ofString "marks") = some (.ref mk)) (e4 : m (Str.ofString "draws") = some (.ref dr)) (e5 : m (Str.ofString "origin") = some (.int og tg))
    (e6 : m (Str.ofString "place") = some (.int q tq)) (e7 : m (Str.ofString "draw") = some (.int d td)) (e8 : m (Str.ofString "half") = some (.int hv th)) : Fr g L h (frmU m x wt mk dr og tg q tq d td hv th) :=
  Fr.congr F (by
    intro y
    by_cases h1 : y = Str.ofString "reader"; · subst h1; exact e1
    by_cases h2 : y = Str.ofString "waiting"; · subst h2; exact e2
    by_cases h3 : y = Str.ofString "marks"; · subst h3; exact e3
    by_cases h4 : y = Str.ofString "draws"; · subst h4; exact e4
    by_cases h5 : y = Str.ofString "origin"; · subst h5; exact e5
    by_cases h6 : y = Str.ofString "place"; · subst h6; exact e6
    by_cases h7 : y = Str.ofString "draw"; · subst h7; exact e7
    by_cases h8 : y = Str.ofString "half"; · subst h8; exact e8
    simp only [frmU, if_neg h1, if_neg h2, if_neg h3, if_neg h4, if_neg h5, if_neg h6, if_neg h7, if_neg h8])
theorem Fr.toT (F : Fr g L h m) (e1 : m (Str.ofString "reader") = some (.ref x)) (e2 : m (Str.ofString "waiting") = some (.ref wt)) (e3 : m (Str.ofString "marks") = some (.ref mk)) (e4 : m (Str.ofString "draws") = some (.ref dr)) (e5 : m (Str.ofString "origin") = some (.int og tg))
    (e6 : m (Str.ofString "turn") = some (.int tn tt)) (e7 : m (Str.ofString "word") = some (.str wo tw)) (e8 : m (Str.ofString "place") = some (.int q tq)) (e9 : m (Str.ofString "draw") = some (.int d td)) (e10 : m (Str.ofString "deed") = some (.int dd tdd)) (e11 : m (Str.ofString "reply") = some (.str re tr)) : Fr g L h (frmT m x wt mk dr og tg tn tt wo tw q tq d td dd tdd re tr) :=
  Fr.congr F (by
    intro y
    by_cases h1 : y = Str.ofString "reader"; · subst h1; exact e1
    by_cases h2 : y = Str.ofString "waiting"; · subst h2; exact e2
    by_cases h3 : y = Str.ofString "marks"; · subst h3; exact e3
    by_cases h4 : y = Str.ofString "draws"; · subst h4; exact e4
    by_cases h5 : y = Str.ofString "origin"; · subst h5; exact e5
    by_cases h6 : y = Str.ofString "turn"; · subst h6; exact e6
    by_cases h7 : y = Str.ofString "word"; · subst h7; exact e7
    by_cases h8 : y = Str.ofString "place"; · subst h8; exact e8
    by_cases h9 : y = Str.ofString "draw"; · subst h9; exact e9
    by_cases ha : y = Str.ofString "deed"; · subst ha; exact e10
    by_cases hb : y = Str.ofString "reply"; · subst hb; exact e11
    simp only [frmT, if_neg h1, if_neg h2, if_neg h3, if_neg h4, if_neg h5, if_neg h6, if_neg h7, if_neg h8, if_neg h9, if_neg ha, if_neg hb])
end
theorem getD_mem {l : List Int} {i : Nat} {d : Int} (h : i < l.length) : l.getD i d ∈ l := by
  have : l.getD i d = l[i] := by simp [List.getD, h]
  rw [this]; exact List.getElem_mem h
theorem getD_all {ls : List (List Nat)} {P : List Nat → Prop} (h : ∀ x ∈ ls, P x) (h0 : P []) (i : Nat) : P (ls.getD i []) := by
  by_cases hi : i < ls.length
  · have : ls.getD i [] = ls[i] := by simp [List.getD, hi]
    rw [this]; exact h _ (List.getElem_mem hi)
  · have : ls.getD i [] = [] := by simp [List.getD, Nat.not_lt.mp hi]
    rw [this]; exact h0
theorem oth_len (i : Nat) : (List.getD [[50, 53, 48, 32, 34], [32, 50, 53, 55, 32, 34], [50, 53], [50, 50, 55, 32, 34], [53, 53, 55, 32, 34]] i []).length ≤ 10 := getD_all (P := fun x => x.length ≤ 10) (by decide) (by decide) i
theorem opn_len (i : Nat) : (List.getD [[50, 53, 55, 45, 34], [50, 53, 55, 34], [50, 53, 55, 32, 32, 34], [50, 53, 55, 48, 34]] i []).length ≤ 10 := getD_all (P := fun x => x.length ≤ 10) (by decide) (by decide) i
theorem tail_len (i : Nat) : (List.getD [[34, 32, 34, 109, 97, 100, 101, 34], [34], []] i []).length ≤ 10 := getD_all (P := fun x => x.length ≤ 10) (by decide) (by decide) i
theorem beg_len {a b : List Nat} (ha : a.length ≤ 10) (hb : b.length ≤ 10) (i : Nat) : (List.getD [[50, 53, 55, 32, 34], a, b] i []).length ≤ 10 := getD_all (P := fun x => x.length ≤ 10) (fun x hx => by
  rcases List.mem_cons.mp hx with rfl | hx
  · decide
  rcases List.mem_cons.mp hx with rfl | hx
  · exact ha
  rcases List.mem_cons.mp hx with rfl | hx
  · exact hb
  · cases hx) (by decide) i

end
section
theorem startQueue1 : True := by
  w_top off
  trivial
local macro_rules | `(tactic| walk_at "zz none") => `(tactic| fail "zz none")
theorem queue (w : World) (rx dx pb wt st : Nat) (t : Nat → Tok) (tl : Tok) (ln : Int) (vs ws : List Value) (n1 n2 : Nat) (ys : List Str) (x : Str) (u : Tok)
   (hne : dx < rx ∧ rx < pb ∧ pb < wt) (hs : StrsAre ws ys) (hv : vs.length ≤ 10000) (hw : ws.length ≤ 10000) :
   Does row.prog w (hd.heap_39 w.params) 4 40 128 [.ref rx, .ref wt, .str x u]
     [(rx, instObj 91 dx), (dx, rdDict w.params t tl ln st pb), (pb, listOf vs.toArray n1), (wt, listOf ws.toArray n2)]
     (fun v post => v = .none ∧ if ys.any (· == x) then post = [(rx, instObj 91 dx), (dx, rdDict w.params t tl ln st pb), (pb, listOf vs.toArray n1), (wt, listOf ws.toArray n2)] else post = [(rx, instObj 91 dx), (dx, rdDict w.params t tl ln st pb), (pb, listOf (vs ++ [Value.str x u]).toArray (n1 + 1)), (wt, listOf (ws ++ [Value.str x u]).toArray (n2 + 1))]) := by
  unfold Does
  k_fill
  intro p loose mean mg mb dp un gd cn cs a ccd cl outer A₀ base h₀ L m s RR B F X N T hk hd' hu hret
  k_dflt walk_at "m enter"
  k_steps
  · exact Left.intro (by k_asm) (by k_asm) (fun p h => h) ⟨rfl, by rw [if_pos (by assumption)]⟩
  · exact Left.intro (by k_asm) (by k_asm) (fun p h => h) ⟨rfl, by rw [if_neg (by rw [Bool.not_eq_true]; assumption)]; simp⟩

end
section
theorem startQueueP1 : True := by
  w_top off
  trivial
theorem Does.mono {prog : Program} {w : World} {K : Frag} {D U : Nat} {f : Addr} {vs : List Value} {pre : List (Addr × Obj)} {P P' : Nat → Value → List (Addr × Obj) → Prop} (C : DoesN prog w K D U f vs pre P) (h : ∀ n v post, P n v post → P' n v post) : DoesN prog w K D U f vs pre P' := by
  intro p loose mean mg mb dp un gd cn cs a ccd cl outer A₀ base h₀ L m s RR B F X N T hk hd hu hret
  exact C p loose mean mg mb dp un gd cn cs a ccd cl outer A₀ base h₀ L m s RR B F X N T hk hd hu fun n0 v post s' e hP k => hret n0 v post s' e (h _ _ _ hP) k
noncomputable def wds (o : Int) (ws : List Int) : List Str := ws.map fun p => tx (wd o p)
theorem wds_any {o : Int} (ho : 0 ≤ o) {ws : List Int} (hw : ∀ p ∈ ws, 0 ≤ p) {p : Int} (hp : 0 ≤ p) : (wds o ws).any (· == tx (wd o p)) = decide (p ∈ ws) := by
  induction ws with
  | nil => rfl
  | cons q ws ih =>
    have ih' := ih fun x hx => hw x (.tail _ hx)
    have hq := hw q (.head _)
    show ((tx (wd o q) == tx (wd o p)) || (wds o ws).any (· == tx (wd o p))) = _
    rw [ih', tx_inj]
    by_cases h : q = p
    · subst h; simp
    · have h1 : wd o q ≠ wd o p := fun e => h (wd_inj ho hq hp e)
      have h2 : p ≠ q := fun e => h e.symm
      simp [h1, h2]
theorem strs_app {vs ws : List Value} {ns ms : List Str} (h : StrsAre vs ns) (h2 : StrsAre ws ms) : StrsAre (vs ++ ws) (ns ++ ms) := strsAre_append h h2
theorem wds_add {o p : Int} {ws : List Int} {vs : List Value} {u : Tok} (h : StrsAre vs (wds o ws)) (hp : p ∉ ws) : StrsAre (vs ++ [.str (tx (wd o p)) u]) (wds o (qadd ws p)) := by
  rw [qadd, if_neg hp, wds, List.map_append]
  exact strs_app h (.cons _ _ .nil)
theorem queueP (w : World) (rx dx pb wt st : Nat) (t : Nat → Tok) (tl : Tok) (ln : Int) (o : Int) (ho : 0 ≤ o) (ws : List Int) (hws : ∀ p ∈ ws, 0 ≤ p) (hl : ws.length ≤ 10000) (p : Int) (hp : 0 ≤ p) (pv wv : List Value) (hpv : StrsAre pv (wds o ws)) (hwv : StrsAre wv (wds o ws)) (n1 n2 : Nat) (u : Tok)
   (hne : dx < rx ∧ rx < pb ∧ pb < wt) :
   Does row.prog w (hd.heap_39 w.params) 4 40 128 [.ref rx, .ref wt, .str (tx (wd o p)) u]
     [(rx, instObj 91 dx), (dx, rdDict w.params t tl ln st pb), (pb, listOf pv.toArray n1), (wt, listOf wv.toArray n2)]
     (fun v post => v = .none ∧ ∃ pv' wv' n1' n2', StrsAre pv' (wds o (qadd ws p)) ∧ StrsAre wv' (wds o (qadd ws p)) ∧ post = [(rx, instObj 91 dx), (dx, rdDict w.params t tl ln st pb), (pb, listOf pv'.toArray n1'), (wt, listOf wv'.toArray n2')]) := by
  have l1 : pv.length ≤ 10000 := by rw [hpv.length, wds, List.length_map]; exact hl
  have l2 : wv.length ≤ 10000 := by rw [hwv.length, wds, List.length_map]; exact hl
  refine Does.mono (queue w rx dx pb wt st t tl ln pv wv n1 n2 (wds o ws) (tx (wd o p)) u hne hwv l1 l2) fun n v post h => ?_
  obtain ⟨hv, hp2⟩ := h
  refine ⟨hv, ?_⟩
  rw [wds_any ho hws hp] at hp2
  by_cases hm : p ∈ ws
  · rw [decide_eq_true hm, if_pos rfl] at hp2
    have e : qadd ws p = ws := by rw [qadd, if_pos hm]
    rw [e]
    exact ⟨pv, wv, n1, n2, hpv, hwv, hp2⟩
  · rw [decide_eq_false hm, if_neg Bool.false_ne_true] at hp2
    exact ⟨_, _, _, _, wds_add hpv hm, wds_add hwv hm, hp2⟩

end
section
theorem startPiece1 : True := by
  w_top off
  k_with "Piece1 0" => (simp only [PySem.sizeLine_eq, Str.length_append, tx_len, sgn_len, len_empty, List.length_append, List.length_cons, List.length_nil]; (first | lia | omega))
  trivial
local macro_rules | `(tactic| walk_at "zz none") => `(tactic| fail "zz none")
noncomputable def pieceOf (l : List Nat) (f : Nat) : List Nat := if f = 0 then l ++ [32] else if f = 1 then [34] ++ l ++ [34] else if f = 2 then [92] ++ l ++ [10] else [34, 92] ++ l ++ [34, 9]
theorem tx_txP (a b : List Nat) : tx a ++ tx b = tx (a ++ b) := by
  show (⟨a.toArray ++ b.toArray⟩ : Str) = ⟨(a ++ b).toArray⟩
  simp
local macro_rules | `(tactic| size_fits) => `(tactic| k_extra "Piece1 0")
theorem piece (w : World) (l : List Nat) (t : Tok) (f : Nat) (u : Tok) (hz : l.length ≤ 10000) (hf : f < 4) :
   Does row.prog w (hd.heap_39 w.params) 8 80 147 [.str (tx l) t, .int (f : Int) u] [] (fun v post => ∃ t, v = .str (tx (pieceOf l f)) t ∧ post = []) := by
  have hlen : (tx l).length = l.length := tx_len l
  k_fill
  intro p loose mean mg mb dp un gd cn cs a ccd cl outer A₀ base h₀ L m s RR B F X N T hk hd' hu hret
  k_dflt walk_at "m enter"
  k_steps
  · obtain rfl : f = 0 := by (first | lia | omega)
    exact Left.intro (by k_asm) (by k_asm) (by kxw_bool) ⟨_, by rw [show Str.ofString " " = tx [32] by decide +kernel, tx_txP]; rfl, rfl⟩
  · obtain rfl : f = 1 := by (first | lia | omega)
    exact Left.intro (by k_asm) (by k_asm) (by kxw_bool) ⟨_, by rw [show Str.ofString "\"" = tx [34] by decide +kernel, tx_txP, tx_txP]; rfl, rfl⟩
  · obtain rfl : f = 2 := by (first | lia | omega)
    exact Left.intro (by k_asm) (by k_asm) (by kxw_bool) ⟨_, by rw [show Str.ofString "\\" = tx [92] by decide +kernel, show Str.ofString "\n" = tx [10] by decide +kernel, tx_txP, tx_txP]; rfl, rfl⟩
  · obtain rfl : f = 3 := by (first | lia | omega)
    exact Left.intro (by k_asm) (by k_asm) (by kxw_bool) ⟨_, by rw [show Str.ofString "\"\\" = tx [34, 92] by decide +kernel, show Str.ofString "\"\t" = tx [34, 9] by decide +kernel, tx_txP, tx_txP]; rfl, rfl⟩

end
section
theorem startLawD1 : True := by
  w_top off
  trivial
noncomputable def bodyOf (p : Program) (i k : Nat) : List Stmt := match p.main.body[i]? with
  | some (.FunctionDef _ _ b _ _ _ _ _ _ _) => b.drop k
  | _ => []
noncomputable def lawBody (k : Nat) : List Stmt := bodyOf PySem.Challenge.rw_xe0009_01.prog 17 k
noncomputable def lawScope : Scope := scopeOf PySem.Challenge.rw_xe0009_01.prog 17
noncomputable abbrev lawEnv (L fa : Addr) (cd : Value) : Env := envOfC (Str.ofString "law") lawScope L fa cd
noncomputable abbrev lawErr (w : World) (L fa : Addr) (cd : Value) (R1 : Value → Shared → Prop) : Value → Shared → Prop := fun e s' =>
  wpAny (model row.prog w) (callerA.deeper (lawEnv L fa cd)) (leaving (lawEnv L fa cd) e) (fun _ s'' => R1 e s'') (fun e' s'' => R1 e' s'') s'
theorem wds_take {o : Int} {ps : List Int} {i : Nat} (h : i < ps.length) : wds o (ps.take (i + 1)) = wds o (ps.take i) ++ [tx (wd o (ps.getD i 0))] := by
  rw [List.take_add_one, List.getElem?_eq_getElem h]
  unfold wds
  rw [List.map_append]
  simp [List.getD, h]
/-- the pieces of the text -/
noncomputable def formOf (d : Int) : Nat := (Int.fmod (Int.fdiv d 30) 4).toNat
noncomputable def pcs (o : Int) (ps ds : List Int) : List (List Nat) := (ps.zip ds).map fun z => pieceOf (wd o z.1) (formOf z.2)

section
variable {prog : Program} {w : World} {A : Around} {E : Value → Shared → Prop} {s : Shared} {h₀ : Heap} {L D : Addr} {news : List (Addr × Obj)} {vs : List Value} {n : Nat}
theorem item_is {value slice : Expr} {k : Int} {u : Tok} {Q : Value → Shared → Prop} {ns : List Int} (N : News h₀ L s.heap news) (hm : (D, W.listOf vs.toArray n) ∈ news) (hi : IntsAre vs ns)
    (h0 : 0 ≤ k) (hk : k < ns.length) (hl : ns.length ≤ 1000) (h : ∀ t, Q (.int (ns.getD k.toNat 0) t) s)
    (hs : subscripted slice false (.ref D) (.int k u) = operate [.ref D, .int k u] (getItem (.ref D) (.int k u)) := by with_unfolding_all rfl) :
    wpAny (model prog w) A (subscriptTail value slice (.ref D) (.int k u)) Q E s :=
  item_list_intsR ⟨_, (N _ hm).1, rfl, n, rfl⟩ hi h0 hk (by (first | lia | omega)) h hs
end
theorem join_txs : ∀ ls : List (List Nat), Txt.join (Str.ofString "") (ls.map tx) = tx ls.flatten := by
  have e0 : Str.ofString "" = tx [] := by decide +kernel
  have cat : ∀ a b : List Nat, tx a ++ tx b = tx (a ++ b) := tx_txP
  intro ls
  rw [show Txt.join (Str.ofString "") (ls.map tx) = Str.join (Str.ofString "") (ls.map tx) from StrLaws.glued_eq_join _ _, e0]
  induction ls with
  | nil => rfl
  | cons x ls ih =>
    cases ls with
    | nil => simp [Str.join]
    | cons y ls =>
      show tx x ++ tx [] ++ Str.join (tx []) (List.map tx (y :: ls)) = _
      rw [ih, cat, cat]
      simp
theorem pcs_at {o : Int} {ps ds : List Int} {i : Nat} (h1 : i < ps.length) (h2 : i < ds.length) : (pcs o ps ds)[i]? = some (pieceOf (wd o (ps.getD i 0)) (formOf (ds.getD i 0))) := by
  unfold pcs
  have e : (ps.zip ds)[i]? = some (ps[i], ds[i]) := by
    rw [List.getElem?_zip_eq_some]
    exact ⟨List.getElem?_eq_getElem h1, List.getElem?_eq_getElem h2⟩
  rw [List.getElem?_map, e]
  simp [List.getD, h1, h2]
theorem pcs_len {o : Int} {ps ds : List Int} (h : ps.length = 7) (h2 : ds.length = 7) : (pcs o ps ds).length = 7 := by simp [pcs, h, h2]
theorem piece_len {l : List Nat} {f : Nat} : (pieceOf l f).length ≤ l.length + 4 := by
  unfold pieceOf
  split
  · simp
  · split
    · simp
    · split <;> simp
theorem sum_le {ls : List Nat} {b : Nat} (h : ∀ x ∈ ls, x ≤ b) : ls.sum ≤ ls.length * b := by
  induction ls with
  | nil => simp
  | cons x ls ih =>
    rw [List.sum_cons, List.length_cons, Nat.add_mul, Nat.one_mul]
    have := ih fun y hy => h y (.tail _ hy)
    have := h x (.head _)
    (first | lia | omega)
theorem pcs_le {o : Int} {ps ds : List Int} (ho : 0 ≤ o ∧ o < 3000) (hp : ∀ p ∈ ps, 13 ≤ p ∧ p ≤ 17) : ∀ x ∈ pcs o ps ds, x.length ≤ 7 := by
  intro x hx
  obtain ⟨z, hz, e⟩ := List.mem_map.mp hx
  subst e
  have h1 := hp z.1 (List.of_mem_zip hz).1
  have h2 := wd_len ho (p := z.1) ⟨by (first | lia | omega), by (first | lia | omega)⟩
  have := piece_len (l := wd o z.1) (f := formOf z.2)
  (first | lia | omega)
noncomputable abbrev lawLed (P : Params) (R : RdA) (ln : Int) (tl : Tok) (pv' : List Value) (k : Nat) (vs : List Value) (n : Nat) (tps : Array Value) (dw pl dr L : Nat) (wv pv dv : List Value) (oR oW oP oO oD oS : Obj) : List (Addr × Obj) :=
  rdAll P R ln tl pv' k vs n ++ [(109, tabObj tps), (dw, LCg.lst wv), (pl, LCg.lst pv), (dr, LCg.lst dv), (L + 1 + 1 + 1 + 1 + 1 + 1, oR), (L + 1 + 1 + 1 + 1 + 1, oW), (L + 1 + 1 + 1 + 1, oP), (L + 1 + 1 + 1, oO), (L + 1 + 1, oD), (L + 1, oS)]
theorem strs_at {vs : List Value} {ns : List Str} (h : StrsAre vs ns) : ∀ {i : Nat} {v : Value}, vs[i]? = some v → ∃ u, ns[i]? = some (ns.getD i Str.empty) ∧ v = .str (ns.getD i Str.empty) u := by
  induction h with
  | nil => intro i v e; cases e
  | @cons n t vs ns _ ih =>
    intro i v e
    cases i with
    | zero => exact ⟨t, rfl, (Option.some.inj e).symm⟩
    | succ i => exact ih e
theorem rest3 {I C D : Addr} {oI oC oD : Obj} {pre news rest : List (Addr × Obj)} (off : LCg.Off3 I C D news) (hp : ∀ p ∈ pre, p ∈ news) (h : Rest pre news rest) : Rest pre ((I, oI) :: (C, oC) :: (D, oD) :: news) ((I, oI) :: (C, oC) :: (D, oD) :: rest) := by
  have k : ∀ a, (∀ p ∈ news, p.1 ≠ a) → a ∉ pre.map (·.1) := fun a ha hm => by
    obtain ⟨p, h1, h2⟩ := List.mem_map.mp hm
    exact ha p (hp p h1) h2
  exact .keep (k _ fun p hp => (off.mem p hp).1) (.keep (k _ fun p hp => (off.mem p hp).2.1) (.keep (k _ fun p hp => (off.mem p hp).2.2) h))
theorem rest1 {D : Addr} {oD : Obj} {pre news rest : List (Addr × Obj)} (off : LCg.Off1 D news) (hp : ∀ p ∈ pre, p ∈ news) (h : Rest pre news rest) : Rest pre ((D, oD) :: news) ((D, oD) :: rest) := by
  have m : ∀ {l : List (Addr × Obj)}, LCg.Off1 D l → ∀ p ∈ l, p.1 ≠ D := by
    intro l
    induction l with
    | nil => intro _ p hp; cases hp
    | cons q l ih =>
      intro o p hp
      rcases List.mem_cons.mp hp with rfl | hp
      · exact o.1
      · exact ih o.2 p hp
  refine .keep (fun hm => ?_) h
  obtain ⟨p, h1, h2⟩ := List.mem_map.mp hm
  exact m off p (hp p h1) h2
/-- apart from the six cells of the frame -/
noncomputable abbrev Cells6 (L a : Nat) : Prop := L + 1 + 1 + 1 + 1 + 1 + 1 ≠ a ∧ L + 1 + 1 + 1 + 1 + 1 ≠ a ∧ L + 1 + 1 + 1 + 1 ≠ a ∧ L + 1 + 1 + 1 ≠ a ∧ L + 1 + 1 ≠ a ∧ L + 1 ≠ a

end
section
theorem startReader1 : True := by
  w_top off
  trivial
local macro_rules | `(tactic| walk_at "zz none") => `(tactic| fail "zz none")
theorem reader (w : World) (x : Str) (u : Tok) (hx : x.length ≤ 1000) :
   DoesN row.prog w (hd.heap_39 w.params) 8 80 114 [.str x u] [(109, tabObj #[])]
     (fun n0 v post => ∃ R tl vs n k ps, RdA.Ok R ∧ 109 < R.cl ∧ n0 < R.cl ∧ StrsAre vs (signs x) ∧ v = .ref R.x ∧ post = rdAll w.params R 1 tl [] k vs n ++ [(109, tabObj ps)]) := by
  unfold DoesN
  k_fill
  intro p loose mean mg mb dp un gd cn cs a ccd cl outer A₀ base h₀ L m s RR B F X N T hk hd' hu hret
  k_dflt walk_at "m enter cells"
  walk_at "m codes"
  k_steps
  refine' Left.intro (by k_asm) (by k_asm) ?sub ⟨⟨?x, ?d, ?pb, ?st, ?sd, ?rf, ?rc, ?sg, ?cl, fun i => [?t0, 0, ?t2, ?t3, ?t4, ?t5, ?t6, ?t7].getD i 0, ?fd, ?q, ?dc, ?pm, ?ct, ?oc, ?ob, ?vs⟩, ?tl, ?vl, ?n, ?k, ?ps, ⟨?h1, ?h2, ?h3, ?h4⟩, ?h5, ?h6, ?sa, rfl, rfl⟩
  case h3 => assumption
  case sub => kxw_bool
  case h1 => assumption
  case h2 => assumption
  case sa => assumption
  case h4 => dsimp only; (first | lia | omega)
  case h5 => dsimp only; (first | lia | omega)
  case h6 => dsimp only; (first | lia | omega)

end
section
theorem startAp1 : True := by
  w_top off
  k_with "Ap1 0" => (
    intro y
    by_cases h1 : y = Str.ofString "mod"; · subst h1; rfl
    by_cases h2 : y = Str.ofString "num"; · subst h2; first | rfl | (refine congrArg some (congrArg (fun z => Value.int z _) ?_); first | assumption | (first | lia | omega))
    by_cases h3 : y = Str.ofString "val"; · subst h3; first | rfl | (refine congrArg some (congrArg (fun z => Value.bytes z _) ?_); assumption)
    by_cases h4 : y = Str.ofString "AP"; · subst h4; rfl
    first | (simp only [frmA, if_neg h1, if_neg h2, if_neg h3, if_neg h4]; done) | (simp only [frmA, if_neg h1, if_neg h2, if_neg h3, if_neg h4]; show List.lookup y [(Str.ofString "num", _)] = none; rw [List.lookup_cons, beq_eq_false_iff_ne.mpr h2]; rfl))
  k_with "Ap1 1" => (k_here; (with_reducible show wpAny _ _ (subscriptTail _ (Expr.Slice _ _ none _) (Value.bytes _ _) (Value.ref _)) _ _ _); (with_reducible rename Fr _ _ _ _ => F'); (with_reducible rename News _ _ _ _ => N'); (refine KBc.slice_K (s := ⟨_, _, _, _, _⟩) F' N' rfl (by constructor) (by constructor) (by decide) ?_))
  k_with "Ap1 2" => (k_here; (refine KBy.add_bytes (by simp only [by8_size, List.length_cons, List.length_nil]; (first | lia | omega)) ?_))
  trivial
local macro_rules | `(tactic| walk_at "zz none") => `(tactic| fail "zz none")
local macro_rules | `(tactic| walk_at "zz none") => `(tactic| fail "zz none")
noncomputable abbrev frmA (md : Option Value) (z : Int) (tz : Tok) (a : Array UInt8) (ta tA : Tok) : Str → Option Value := fun y =>
  if y = Str.ofString "mod" then md else if y = Str.ofString "num" then some (.int z tz) else if y = Str.ofString "val" then some (.bytes a ta)
  else if y = Str.ofString "AP" then some (.bytes #[65, 66, 67, 68, 69, 70, 71, 72, 73, 74, 75, 76, 77, 78, 79, 80] tA) else none
inductive ApI (g : Heap) (L' : Addr) (s0 : Shared) (goal : List Nat) : Nat → Shared → Prop
  | go {n : Nat} {h tk md tz ta tA S} : S.length ≤ 1000 → Fr g L' h (frmA md (n : Int) tz (by8 S) ta tA) → News g L' h [] → ap n ++ S = goal → ApI g L' s0 goal n { s0 with heap := h, toks := tk }
local macro_rules | `(tactic| walk_at "exec While Name cons nil") => `(tactic| refine hold ?_)
local macro_rules | `(tactic| walk_at "m frm") => `(tactic| k_extra "Ap1 0")
local macro_rules | `(tactic| walk_at "subscriptTail") => `(tactic| (k_extra "Ap1 1"; intro h' t' k' F' N' kbc; clear kbc; (try simp only [pick16]); (try k_sweep)))
local macro_rules | `(tactic| walk_at "binaryOp Add bytes bytes") => `(tactic| (k_extra "Ap1 2"; intro _ _))
theorem int2ap (w : World) (z : Int) (t : Tok) (hz : (ap z.natAbs).length ≤ 1000) :
   Does row.prog w (hd.heap_39 w.params) 4 40 53 [.int z t] [] (fun v post => ∃ t, v = .bytes (by8 (ap z.natAbs)) t ∧ post = []) := by
  generalize hG : ap z.natAbs = G at hz ⊢
  k_fill
  intro p loose mean mg mb dp un gd cn cs a ccd cl outer A₀ base h₀ L m s RR B F X N T hk hd' hu hret
  k_dflt walk_at "m enter"
  k_steps
  refine unhold ?_
  rename Fr _ _ _ _ => F1
  rename News _ _ _ _ => N1
  rename_i g' L' hh0 FG B' X' T' l0 l1 tk2 hh1 _ hh2 _ u3 tk3 hh3 _
  have F2 := Fr.congr (m' := frmA none (z.natAbs : Int) u3 (by8 []) _ _) F1 (by walk_at "m frm")
  clear F1
  refine While_rule (ApI g' L' s G) z.natAbs (.go (by simp) F2 N1 (by rw [List.append_nil]; exact hG)) ?_
  clear F2 N1
  intro n s1 hI
  cases hI with
  | go hS F3 N3 e3 =>
    rename_i S
    have hl := congrArg List.length e3
    rw [List.length_append] at hl
    k_steps
    · rename Fr _ _ _ _ => F9
      rename News _ _ _ _ => N9
      rename_i hn0 _ _ _ _ _ _ _ _ _ _
      have hn : n ≠ 0 := by (first | lia | omega)
      have e1 := fdiv16 n
      have e2 : by8 [65 + n % 16] ++ by8 S = by8 ((65 + n % 16) :: S) := by8_app _ _
      have F8 := Fr.congr (m' := frmA (some (.int ((n : Int).fmod 16) _)) ((n / 16 : Nat) : Int) _ (by8 ((65 + n % 16) :: S)) _ _) F9 (by walk_at "m frm")
      exact ⟨n / 16, by (first | lia | omega), .go (by simp only [List.length_cons]; rw [ap_pos hn, List.length_append] at hl; simp only [List.length_cons, List.length_nil] at hl; (first | lia | omega)) F8 (fun _ h => nomatch h) (by rw [← e3, ap_pos hn, List.append_assoc]; rfl)⟩
    · have hn : n = 0 := by (first | lia | omega)
      subst hn
      rw [ap_zero, List.nil_append] at e3
      subst e3
      exact Left.intro (by k_asm) (by k_asm) (by kxw_bool) ⟨_, rfl, rfl⟩

end
section
theorem startWord1 : True := by
  w_top off
  trivial
local macro_rules | `(tactic| walk_at "call ref") => `(tactic| (k_here; k_dflt (
   (refine' Does.use (int2ap _ _ _ ?z) ?B ?F ?X ?N ?T ?hk ?hd ?hu ?hp ?hr ?_; walk_at "m args"; (case z => assumption); intro n0 v post h' tk' l0 hP F' N'; obtain ⟨t9, e9, e8⟩ := hP; subst e9; subst e8; clear l0; (try dsimp only [List.cons_append, List.nil_append] at N'); (try k_sweep)))))
local macro_rules | `(tactic| walk_at "eval ListComp") => `(tactic| (refine hold ?_))
local macro_rules | `(tactic| walk_at "pyIter bytes") => `(tactic| (refine hold ?_))
local macro_rules | `(tactic| walk_at "call builtin:str.join") => `(tactic| (k_here; k_dflt (refine' join_list ?h ?sa ?z ?_; (case h => exact News.isList (by k_asm) (by k_mem)); (case sa => assumption); (case z => assumption); k_whole; intro t9 tk9)))
theorem lword (w : World) (z : Int) (t : Tok) (hz : (ap z.natAbs).length ≤ 1000) :
   Does row.prog w (hd.heap_39 w.params) 8 80 100 [.int z t] [] (fun v post => ∃ t, v = .str (tx (ap z.natAbs)) t ∧ post = []) := by
  k_fill
  intro p loose mean mg mb dp un gd cn cs a ccd cl outer A₀ base h₀ L m s RR B F X N T hk hd' hu hret
  k_dflt walk_at "m enter"
  k_steps
  refine unhold ?_
  k_dflt refine ListComp_X (F₀ := by k_asm) (by rfl) (by decide) (by rfl) (by decide) (by rfl) ?_
  k_steps
  refine unhold ?_
  refine WalkSrc.bytes rfl (by k_asm) (by k_asm) ?sz ?_
  case sz => rw [by8_size]; simp only [PySem.sizeLine_eq]; (first | lia | omega)
  intro g
  refine compRest (fun i ys news => news = [] ∧ StrsAre ys ((ap z.natAbs).take i |>.map sgn)) ?turn ?fin _ 0 [] [] (Nat.zero_add _) ⟨rfl, .nil⟩
  case turn =>
    intro i ys news hi hJ v I oI C oC D m₂ h tk E' hP hC hx F N off ne
    obtain ⟨e, hys⟩ := hJ
    subst e
    obtain ⟨c, u, hc, e⟩ := hP
    subst e
    have hb : c.toNat < 256 := c.toNat_lt
    have hl := by8_at (fun c h => Nat.lt_trans (ap_mem _ c h).2 (by decide)) hc
    k_steps
    refine hold ⟨rfl, ?_⟩
    rw [List.take_succ, hl]
    rw [List.map_append]
    exact strsAre_append hys (.cons _ _ .nil)
  case fin =>
    intro ys news hJ
    obtain ⟨e, hys⟩ := hJ
    subst e
    rw [by8_size, List.take_length] at hys
    intro D h tk F N hm
    have hj := join_sz (ap z.natAbs) (by (first | lia | omega))
    k_steps
    exact Left.intro (by k_asm) (by k_asm) (by kxw_bool) ⟨_, by rw [join_signs], rfl⟩

end
section
theorem startNum1 : True := by
  w_top off
  k_with "Num1 0" => (
    intro y
    by_cases h1 : y = Str.ofString "letter"; · subst h1; rfl
    by_cases h2 : y = Str.ofString "number"; · subst h2; first | rfl | (refine congrArg some (congrArg (fun z => Value.int z _) ?_); first | assumption | (first | lia | omega))
    by_cases h3 : y = Str.ofString "word"; · subst h3; rfl
    first | (simp only [frmN, if_neg h1, if_neg h2, if_neg h3]; done) | (simp only [frmN, if_neg h1, if_neg h2, if_neg h3]; show List.lookup y [(Str.ofString "word", _)] = none; rw [List.lookup_cons, beq_eq_false_iff_ne.mpr h3]; rfl))
  trivial
noncomputable abbrev frmN (lt : Option Value) (n : Int) (tn : Tok) (x : Str) (tx : Tok) : Str → Option Value := fun y =>
  if y = Str.ofString "letter" then lt else if y = Str.ofString "number" then some (.int n tn) else if y = Str.ofString "word" then some (.str x tx) else none
local macro_rules | `(tactic| walk_at "exec For Name Name cons nil") => `(tactic| refine hold ?_)
local macro_rules | `(tactic| walk_at "pyIter str") => `(tactic| refine hold ?_)
local macro_rules | `(tactic| walk_at "m frm") => `(tactic| k_extra "Num1 0")
noncomputable def val16 (l : List Nat) : Int := l.foldl (fun (a : Int) (c : Nat) => a * 16 + ((c : Int) - 65)) (0 : Int)
noncomputable def num1 (l : List Nat) : Int := if l.head? = some 65 then -1 else val16 l
theorem find16 : ∀ m : Nat, m < 16 → Txt.find (Str.ofString "ABCDEFGHIJKLMNOP") (sgn (65 + m)) = (m : Int) := by decide +kernel
theorem find16' {c : Nat} (h : 65 ≤ c ∧ c < 81) : Txt.find (Str.ofString "ABCDEFGHIJKLMNOP") (sgn c) = (c : Int) - 65 := by
  have e := find16 (c - 65) (by (first | lia | omega))
  rw [show 65 + (c - 65) = c by (first | lia | omega)] at e
  rw [e]; (first | lia | omega)
theorem val_succ {l : List Nat} {i c : Nat} (h : l[i]? = some c) : val16 (l.take (i + 1)) = val16 (l.take i) * 16 + ((c : Int) - 65) := by
  rw [List.take_succ, h]
  simp only [val16, Option.toList, List.foldl_append, List.foldl_cons, List.foldl_nil]
theorem isA (l : List Nat) : (Txt.slice (tx l) none (some 1) == Str.ofString "A") = decide (l.head? = some 65) := by
  have e : Str.ofString "A" = tx [65] := by decide +kernel
  have := sl_to l 1
  rw [show ((1 : Nat) : Int) = 1 from rfl] at this
  rw [this, e, tx_inj]
  cases l with
  | nil => rfl
  | cons c l => simp
theorem lnumber (w : World) (l : List Nat) (t : Tok) (hz : l.length ≤ 1000) (hl : ∀ c ∈ l, 65 ≤ c ∧ c < 81) :
   Does row.prog w (hd.heap_39 w.params) 8 80 107 [.str (tx l) t] [] (fun v post => ∃ t, v = .int (num1 l) t ∧ post = []) := by
  k_fill
  intro p loose mean mg mb dp un gd cn cs a ccd cl outer A₀ base h₀ L m s RR B F X N T hk hd' hu hret
  k_dflt walk_at "m enter"
  k_steps
  refine unhold ?_
  refine For_walk (by k_asm) rfl rfl rfl ?_
  k_steps
  refine unhold ?_
  refine' for_str (fun i m nw => nw = [] ∧ ∃ lt tn, m = frmN lt (val16 (l.take i)) tn (tx l) t) rfl (by k_asm) (by k_asm) ⟨rfl, none, ?tn, ?j0⟩ ?turn ?fin
  case j0 => exact funext (by walk_at "m frm")
  case turn =>
    intro g I i m nw v h tk oI hi hJ hP F N off
    obtain ⟨e, lt, tn, em⟩ := hJ
    subst e
    subst em
    obtain ⟨c, u, hc, e⟩ := hP
    subst e
    rename Fr _ _ _ _ => F2
    have F3 := Fr.congr (m' := frmN (some (.str (sgn c) u)) (val16 (l.take i)) tn (tx l) t) F2 (by walk_at "m frm")
    clear F2
    have hc' : l[i]? = some c := by simpa using hc
    have hcb := hl c (List.mem_of_getElem? hc')
    have hf := find16' (hl c (List.mem_of_getElem? hc'))
    have hv := val_succ hc'
    k_steps
    · exfalso; (first | lia | omega)
    · rename Fr _ _ _ _ => F9
      rw [hf] at F9
      have F8 := Fr.congr (m' := frmN (some (.str (sgn c) u)) (val16 (l.take (i + 1))) _ (tx l) t) F9 (by walk_at "m frm")
      exact unhold ⟨_, _, _, _, rfl, F8, by k_asm, off, rfl, _, _, rfl⟩
  case fin =>
    intro m nw h tk hJ F N
    obtain ⟨e, lt, tn, em⟩ := hJ
    subst e
    subst em
    have hT : l.take (tx l).cps.size = l := by simp
    rw [hT] at F
    have hA := isA l
    k_steps
    · rename (_ == _) = true => hb
      rw [hA] at hb
      exact Left.intro (by k_asm) (by k_asm) (by kxw_bool) ⟨_, by rw [num1, if_pos (of_decide_eq_true hb)], rfl⟩
    · rename (_ == _) = false => hb
      rw [hA] at hb
      exact Left.intro (by k_asm) (by k_asm) (by kxw_bool) ⟨_, by rw [num1, if_neg (of_decide_eq_false hb)], rfl⟩

end
section
theorem startWd1 : True := by
  w_top off
  trivial
theorem val_app (l : List Nat) (c : Nat) : val16 (l ++ [c]) = val16 l * 16 + ((c : Int) - 65) := by
  simp only [val16, List.foldl_append, List.foldl_cons, List.foldl_nil]
theorem val_ap (n : Nat) : val16 (ap n) = (n : Int) := by
  induction n using Nat.strongRecOn with
  | _ n ih =>
    by_cases h0 : n = 0
    · subst h0; rw [ap_zero]; rfl
    · rw [ap_pos h0, val_app, ih (n / 16) (by (first | lia | omega))]
      (first | lia | omega)
theorem head_ap (n : Nat) : (ap n).head? ≠ some 65 := by
  induction n using Nat.strongRecOn with
  | _ n ih =>
    by_cases h0 : n = 0
    · subst h0; rw [ap_zero]; intro h; cases h
    · rw [ap_pos h0]
      by_cases h1 : n / 16 = 0
      · rw [h1, ap_zero, List.nil_append]
        intro h
        have : 65 + n % 16 = 65 := by simpa using h
        (first | lia | omega)
      · have := ih (n / 16) (by (first | lia | omega))
        have hne : ap (n / 16) ≠ [] := by rw [ap_pos h1]; simp
        revert this hne
        cases ap (n / 16) with
        | nil => intro _ hne; exact absurd rfl hne
        | cons c l => intro this _; simpa using this
theorem num_wd {o p : Int} (h : 0 ≤ o + p) : num1 (wd o p) = o + p := by
  unfold num1 wd
  rw [if_neg (head_ap _), val_ap]
  (first | lia | omega)
theorem wd_abs {o p s : Int} (h : 0 ≤ o + p) (hs : s = 1 ∨ s = -1) : ap (s * (o + p)).natAbs = wd o p := by
  unfold wd
  rcases hs with rfl | rfl
  · congr 1; (first | lia | omega)
  · congr 1; (first | lia | omega)

end
section
theorem startRead1 : True := by
  w_top off
  trivial
local macro_rules | `(tactic| walk_at "zz none") => `(tactic| fail "zz none")
theorem read_nil (w : World) (R : RdA) (h : R.Ok) (n : Nat) (u : Tok) :
   Does row.prog w (hd.heap_39 w.params) 4 40 R.rf [.int 1 u] [(R.rf, readFn R), (R.rc, R.oc), (R.cl, R.ob), (R.sg, listOf ([] : List Value).toArray n)]
     (fun v post => (∃ t, v = .str "" t) ∧ post = [(R.rf, readFn R), (R.rc, R.oc), (R.cl, R.ob), (R.sg, listOf ([] : List Value).toArray n)]) := by
  have h9 : RdA.Apart _ := RdA.Ok.lt (by assumption); have n01 := RdA.n01 h9; have n02 := RdA.n02 h9; have n03 := RdA.n03 h9; have n04 := RdA.n04 h9; have n05 := RdA.n05 h9; have n06 := RdA.n06 h9; have n07 := RdA.n07 h9; have n08 := RdA.n08 h9; have n12 := RdA.n12 h9; have n13 := RdA.n13 h9; have n14 := RdA.n14 h9; have n15 := RdA.n15 h9; have n16 := RdA.n16 h9; have n17 := RdA.n17 h9; have n18 := RdA.n18 h9; have n23 := RdA.n23 h9; have n24 := RdA.n24 h9; have n25 := RdA.n25 h9; have n26 := RdA.n26 h9; have n27 := RdA.n27 h9; have n28 := RdA.n28 h9; have n34 := RdA.n34 h9; have n35 := RdA.n35 h9; have n36 := RdA.n36 h9; have n37 := RdA.n37 h9; have n38 := RdA.n38 h9; have n45 := RdA.n45 h9; have n46 := RdA.n46 h9; have n47 := RdA.n47 h9; have n48 := RdA.n48 h9; have n56 := RdA.n56 h9; have n57 := RdA.n57 h9; have n58 := RdA.n58 h9; have n67 := RdA.n67 h9; have n68 := RdA.n68 h9; have n78 := RdA.n78 h9
  obtain ⟨h1, h2, h3, h4⟩ := h
  unfold Does
  k_fill
  intro p loose mean mg mb dp un gd cn cs a ccd cl outer A₀ base h₀ L m s RR B F X N T hk hd' hu hret
  k_dflt walk_at "m enter made"
  generalize hsc : readParts.2.2 = sc
  generalize hb : readParts.2.1 = b
  conv at hsc => lhs; whnf
  conv at hb => lhs; whnf
  subst hsc
  subst hb
  k_steps
  exact Left.intro (by k_asm) (by k_asm) (fun p h => h) ⟨⟨_, rfl⟩, rfl⟩

theorem read_cons (w : World) (R : RdA) (h : R.Ok) (y : Value) (q : List Value) (hz : q.length ≤ 10000) (n : Nat) (u : Tok) :
   Does row.prog w (hd.heap_39 w.params) 4 40 R.rf [.int 1 u] [(R.rf, readFn R), (R.rc, R.oc), (R.cl, R.ob), (R.sg, listOf (y :: q).toArray n)]
     (fun v post => v = y ∧ post = [(R.rf, readFn R), (R.rc, R.oc), (R.cl, R.ob), (R.sg, listOf q.toArray (n + 1))]) := by
  have h9 : RdA.Apart _ := RdA.Ok.lt (by assumption); have n01 := RdA.n01 h9; have n02 := RdA.n02 h9; have n03 := RdA.n03 h9; have n04 := RdA.n04 h9; have n05 := RdA.n05 h9; have n06 := RdA.n06 h9; have n07 := RdA.n07 h9; have n08 := RdA.n08 h9; have n12 := RdA.n12 h9; have n13 := RdA.n13 h9; have n14 := RdA.n14 h9; have n15 := RdA.n15 h9; have n16 := RdA.n16 h9; have n17 := RdA.n17 h9; have n18 := RdA.n18 h9; have n23 := RdA.n23 h9; have n24 := RdA.n24 h9; have n25 := RdA.n25 h9; have n26 := RdA.n26 h9; have n27 := RdA.n27 h9; have n28 := RdA.n28 h9; have n34 := RdA.n34 h9; have n35 := RdA.n35 h9; have n36 := RdA.n36 h9; have n37 := RdA.n37 h9; have n38 := RdA.n38 h9; have n45 := RdA.n45 h9; have n46 := RdA.n46 h9; have n47 := RdA.n47 h9; have n48 := RdA.n48 h9; have n56 := RdA.n56 h9; have n57 := RdA.n57 h9; have n58 := RdA.n58 h9; have n67 := RdA.n67 h9; have n68 := RdA.n68 h9; have n78 := RdA.n78 h9
  obtain ⟨h1, h2, h3, h4⟩ := h
  unfold Does
  k_fill
  intro p loose mean mg mb dp un gd cn cs a ccd cl outer A₀ base h₀ L m s RR B F X N T hk hd' hu hret
  k_dflt walk_at "m enter made"
  generalize hsc : readParts.2.2 = sc
  generalize hb : readParts.2.1 = b
  conv at hsc => lhs; whnf
  conv at hb => lhs; whnf
  subst hsc
  subst hb
  k_steps
  exact Left.intro (by k_asm) (by k_asm) (fun p h => h) ⟨rfl, rfl⟩

end
section
theorem startChar1 : True := by
  w_top off
  trivial
local macro_rules | `(tactic| walk_at "zz none") => `(tactic| fail "zz none")
local macro_rules | `(tactic| walk_at "zz none") => `(tactic| fail "zz none")
local macro_rules | `(tactic| walk_at "call ref") => `(tactic| (k_here; rename RdA.Ok _ => ok9; k_dflt (
   (refine' Does.use (read_nil _ _ ok9 _ _) ?B ?F ?X ?N ?T ?hk ?hd ?hu ?hp ?hr ?_; walk_at "m args"; intro n0 v post h' tk' l0 hP F' N'; obtain ⟨⟨t9, e9⟩, e8⟩ := hP; subst e9; subst e8; clear l0; (try dsimp only [List.cons_append, List.nil_append] at N'); (try k_sweep)))))
theorem char_nil (w : World) (R : RdA) (h : R.Ok) (ln : Int) (tl : Tok) (ps : List Value) (k n : Nat) :
   Does row.prog w (hd.heap_39 w.params) 8 80 74 [.ref R.x] (rdAll w.params R ln tl ps k [] n)
     (fun v post => (∃ t, v = .str "" t) ∧ post = rdAll w.params R ln tl ps k [] n) := by
  have h0 := h
  have h9 : RdA.Apart _ := RdA.Ok.lt (by assumption); have n01 := RdA.n01 h9; have n02 := RdA.n02 h9; have n03 := RdA.n03 h9; have n04 := RdA.n04 h9; have n05 := RdA.n05 h9; have n06 := RdA.n06 h9; have n07 := RdA.n07 h9; have n08 := RdA.n08 h9; have n12 := RdA.n12 h9; have n13 := RdA.n13 h9; have n14 := RdA.n14 h9; have n15 := RdA.n15 h9; have n16 := RdA.n16 h9; have n17 := RdA.n17 h9; have n18 := RdA.n18 h9; have n23 := RdA.n23 h9; have n24 := RdA.n24 h9; have n25 := RdA.n25 h9; have n26 := RdA.n26 h9; have n27 := RdA.n27 h9; have n28 := RdA.n28 h9; have n34 := RdA.n34 h9; have n35 := RdA.n35 h9; have n36 := RdA.n36 h9; have n37 := RdA.n37 h9; have n38 := RdA.n38 h9; have n45 := RdA.n45 h9; have n46 := RdA.n46 h9; have n47 := RdA.n47 h9; have n48 := RdA.n48 h9; have n56 := RdA.n56 h9; have n57 := RdA.n57 h9; have n58 := RdA.n58 h9; have n67 := RdA.n67 h9; have n68 := RdA.n68 h9; have n78 := RdA.n78 h9
  obtain ⟨h1, h2, h3, h4⟩ := h
  unfold Does
  k_fill
  intro p loose mean mg mb dp un gd cn cs a ccd cl outer A₀ base h₀ L m s RR B F X N T hk hd' hu hret
  k_dflt walk_at "m enter"
  k_steps
  exact Left.intro (by k_asm) (by k_asm) (by kxw_bool) ⟨⟨_, rfl⟩, rfl⟩



local macro_rules | `(tactic| walk_at "call ref") => `(tactic| (k_here; rename RdA.Ok _ => ok9; k_dflt (
   (refine' Does.use (read_cons _ _ ok9 _ _ ?z _ _) ?B ?F ?X ?N ?T ?hk ?hd ?hu ?hp ?hr ?_; walk_at "m args"; (case z => assumption); intro n0 v post h' tk' l0 hP F' N'; obtain ⟨e9, e8⟩ := hP; subst e9; subst e8; clear l0; (try dsimp only [List.cons_append, List.nil_append] at N'); (try k_sweep)))))
theorem char_cons (w : World) (R : RdA) (h : R.Ok) (ln : Int) (tl : Tok) (ps : List Value) (k n : Nat) (c : Nat) (tc : Tok) (q : List Value) (hz : q.length ≤ 10000) (hl : 0 ≤ ln ∧ ln ≤ 10000) :
   Does row.prog w (hd.heap_39 w.params) 8 80 74 [.ref R.x] (rdAll w.params R ln tl ps k (.str (sgn c) tc :: q) n)
     (fun v post => v = .str (sgn c) tc ∧ ∃ tl', post = rdAll w.params R (nl c ln) tl' ps k q (n + 1)) := by
  have h0 := h
  have h9 : RdA.Apart _ := RdA.Ok.lt (by assumption); have n01 := RdA.n01 h9; have n02 := RdA.n02 h9; have n03 := RdA.n03 h9; have n04 := RdA.n04 h9; have n05 := RdA.n05 h9; have n06 := RdA.n06 h9; have n07 := RdA.n07 h9; have n08 := RdA.n08 h9; have n12 := RdA.n12 h9; have n13 := RdA.n13 h9; have n14 := RdA.n14 h9; have n15 := RdA.n15 h9; have n16 := RdA.n16 h9; have n17 := RdA.n17 h9; have n18 := RdA.n18 h9; have n23 := RdA.n23 h9; have n24 := RdA.n24 h9; have n25 := RdA.n25 h9; have n26 := RdA.n26 h9; have n27 := RdA.n27 h9; have n28 := RdA.n28 h9; have n34 := RdA.n34 h9; have n35 := RdA.n35 h9; have n36 := RdA.n36 h9; have n37 := RdA.n37 h9; have n38 := RdA.n38 h9; have n45 := RdA.n45 h9; have n46 := RdA.n46 h9; have n47 := RdA.n47 h9; have n48 := RdA.n48 h9; have n56 := RdA.n56 h9; have n57 := RdA.n57 h9; have n58 := RdA.n58 h9; have n67 := RdA.n67 h9; have n68 := RdA.n68 h9; have n78 := RdA.n78 h9
  obtain ⟨h1, h2, h3, h4⟩ := h
  unfold Does
  k_fill
  intro p loose mean mg mb dp un gd cn cs a ccd cl outer A₀ base h₀ L m s RR B F X N T hk hd' hu hret
  k_dflt walk_at "m enter"
  k_steps
  · rw [nl_yes (by assumption)]
    exact Left.intro (by k_asm) (by k_asm) (by kxw_bool) ⟨rfl, _, rfl⟩
  · rw [nl_no (by assumption)]
    exact Left.intro (by k_asm) (by k_asm) (by kxw_bool) ⟨rfl, _, rfl⟩

end
section
theorem startNext1 : True := by
  w_top off
  trivial
noncomputable abbrev lexLed (P : Params) (R : RdA) (it q : Nat) (io : Obj) (ln : Int) (tl : Tok) (k : Nat) (vs : List Value) (n : Nat) : List (Addr × Obj) :=
  (it, io) :: (q, methodObj (.ref 74) (.ref R.x)) :: rdAll P R ln tl [] k vs n
theorem one_ne (c : Nat) : sgn c ≠ Str.ofString "" := fun e => by
  have := congrArg (fun x : Str => x.cps.size) e
  revert this
  show ¬ (1 = (Str.ofString "").cps.size)
  decide +kernel
section
variable {w : World} {R : RdA} {it q : Nat} {t : Tok} {ln : Int} {tl : Tok} {k n : Nat} {vs : List Value}
  {p : Program} {loose : List Str} {mean : ExcName → Option Value} {mg mb : Str → Option Value} {dp un : Nat} {gd : Option (List Code)} {cn : Str} {cs : Scope} {a : Addr} {ccd : Value} {cl : List (Str × Addr)} {outer : List Env} {A₀ : Around} {base h₀ : Heap} {L : Addr} {m : Str → Option Value} {s : Shared} {E : Value → Shared → Prop} {Q : Option Value → Shared → Prop}
theorem next_cons (h : R.Ok) {c : Nat} {tc : Tok} {ws : List Value} (hz : ws.length ≤ 10000) (hl : 0 ≤ ln ∧ ln ≤ 10000) (lt : R.pb < q ∧ q < it)
    (B : Below A₀ base outer h₀) (F : Fr h₀ L s.heap m) (X : (hd.heap_39 w.params).In h₀) (N : News h₀ L s.heap (lexLed w.params R it q (citer (.ref q) (.str "" t)) ln tl k (.str (sgn c) tc :: ws) n)) (T : Top p loose mean mg mb h₀) (hk : cs.kind = .function) (hd : dp + 8 < recursionLimit) (hu : un + 100 < cLine)
    (ret : ∀ h' tk' tl', Fr h₀ L h' m → News h₀ L h' (lexLed w.params R it q (citer (.ref q) (.str "" t)) (nl c ln) tl' k ws (n + 1)) → Q (some (.str (sgn c) tc)) { s with heap := h', toks := tk' }) :
    wpAny (model row.prog w) (ktrTop dp un gd cn cs L a ccd cl outer) (pyNext (.ref it)) Q E s := by
  have h9 : RdA.Apart _ := RdA.Ok.lt (by assumption); have n01 := RdA.n01 h9; have n02 := RdA.n02 h9; have n03 := RdA.n03 h9; have n04 := RdA.n04 h9; have n05 := RdA.n05 h9; have n06 := RdA.n06 h9; have n07 := RdA.n07 h9; have n08 := RdA.n08 h9; have n12 := RdA.n12 h9; have n13 := RdA.n13 h9; have n14 := RdA.n14 h9; have n15 := RdA.n15 h9; have n16 := RdA.n16 h9; have n17 := RdA.n17 h9; have n18 := RdA.n18 h9; have n23 := RdA.n23 h9; have n24 := RdA.n24 h9; have n25 := RdA.n25 h9; have n26 := RdA.n26 h9; have n27 := RdA.n27 h9; have n28 := RdA.n28 h9; have n34 := RdA.n34 h9; have n35 := RdA.n35 h9; have n36 := RdA.n36 h9; have n37 := RdA.n37 h9; have n38 := RdA.n38 h9; have n45 := RdA.n45 h9; have n46 := RdA.n46 h9; have n47 := RdA.n47 h9; have n48 := RdA.n48 h9; have n56 := RdA.n56 h9; have n57 := RdA.n57 h9; have n58 := RdA.n58 h9; have n67 := RdA.n67 h9; have n68 := RdA.n68 h9; have n78 := RdA.n78 h9
  obtain ⟨h1, h2, h3, h4⟩ := id h
  have X9 := X.keeps F.keep
  refine pyNext_citer rfl (News.get N (by k_mem)) (News.get N (by k_mem)) (X9 74 _ (by with_unfolding_all rfl)) ?_
  refine' Does.code (char_cons w R h ln tl [] k n c tc ws hz hl) B F X N T hk ?hd ?hu ?hp ?hr ?_
  case hd => ktr_room
  case hu => ktr_units
  case hp => kxw_bool
  case hr => kin_val
  intro n0 v post h' tk' _ hP F' N'
  obtain ⟨rfl, tl', rfl⟩ := hP
  have N'' : News h₀ L h' (lexLed w.params R it q (citer (.ref q) (.str "" t)) (nl c ln) tl' k ws (n + 1)) := fun p hp => N' p (by revert p hp; kxw_bool)
  exact ⟨sgn c, tc, rfl, News.get N'' (by k_mem), News.get N'' (by k_mem), X.keeps F'.keep 74 _ (by with_unfolding_all rfl), fun _ => ret _ _ _ F' N'', fun e => absurd e (one_ne c)⟩
theorem next_nil (h : R.Ok) (lt : R.pb < q ∧ q < it)
    (B : Below A₀ base outer h₀) (F : Fr h₀ L s.heap m) (X : (hd.heap_39 w.params).In h₀) (N : News h₀ L s.heap (lexLed w.params R it q (citer (.ref q) (.str "" t)) ln tl k [] n)) (T : Top p loose mean mg mb h₀) (hk : cs.kind = .function) (hd : dp + 8 < recursionLimit) (hu : un + 100 < cLine)
    (ret : ∀ h' tk', Fr h₀ L h' m → News h₀ L h' (lexLed w.params R it q cended ln tl k [] n) → Q none { s with heap := h', toks := tk' }) :
    wpAny (model row.prog w) (ktrTop dp un gd cn cs L a ccd cl outer) (pyNext (.ref it)) Q E s := by
  have h9 : RdA.Apart _ := RdA.Ok.lt (by assumption); have n01 := RdA.n01 h9; have n02 := RdA.n02 h9; have n03 := RdA.n03 h9; have n04 := RdA.n04 h9; have n05 := RdA.n05 h9; have n06 := RdA.n06 h9; have n07 := RdA.n07 h9; have n08 := RdA.n08 h9; have n12 := RdA.n12 h9; have n13 := RdA.n13 h9; have n14 := RdA.n14 h9; have n15 := RdA.n15 h9; have n16 := RdA.n16 h9; have n17 := RdA.n17 h9; have n18 := RdA.n18 h9; have n23 := RdA.n23 h9; have n24 := RdA.n24 h9; have n25 := RdA.n25 h9; have n26 := RdA.n26 h9; have n27 := RdA.n27 h9; have n28 := RdA.n28 h9; have n34 := RdA.n34 h9; have n35 := RdA.n35 h9; have n36 := RdA.n36 h9; have n37 := RdA.n37 h9; have n38 := RdA.n38 h9; have n45 := RdA.n45 h9; have n46 := RdA.n46 h9; have n47 := RdA.n47 h9; have n48 := RdA.n48 h9; have n56 := RdA.n56 h9; have n57 := RdA.n57 h9; have n58 := RdA.n58 h9; have n67 := RdA.n67 h9; have n68 := RdA.n68 h9; have n78 := RdA.n78 h9
  obtain ⟨h1, h2, h3, h4⟩ := id h
  have X9 := X.keeps F.keep
  refine pyNext_citer rfl (News.get N (by k_mem)) (News.get N (by k_mem)) (X9 74 _ (by with_unfolding_all rfl)) ?_
  refine' Does.code (char_nil w R h ln tl [] k n) B F X N T hk ?hd ?hu ?hp ?hr ?_
  case hd => ktr_room
  case hu => ktr_units
  case hp => kxw_bool
  case hr => kin_val
  intro n0 v post h' tk' _ hP F' N'
  obtain ⟨⟨t', rfl⟩, rfl⟩ := hP
  have N'' : News h₀ L h' (lexLed w.params R it q (citer (.ref q) (.str "" t)) ln tl k [] n) := fun p hp => N' p (by revert p hp; kxw_bool)
  refine ⟨Str.ofString "", t', rfl, News.get N'' (by k_mem), News.get N'' (by k_mem), X.keeps F'.keep 74 _ (by with_unfolding_all rfl), fun e => absurd rfl e, fun _ h9 hi hk9 => ?_⟩
  have hit := N'' _ (.head _)
  refine ret h9 _ ⟨?_, fun b o e => hk9 b o (fun z => ?_) (F'.keep b o e), F'.above⟩ fun p hp => ?_
  · obtain ⟨oL, es, ep, hL, r⟩ := F'.ns
    exact ⟨oL, es, ep, hk9 _ _ (Ne.symm hit.2.1) hL, r⟩
  · have := hit.2.2
    rw [← z, e] at this; cases this
  · rcases List.mem_cons.mp hp with rfl | hp
    · exact ⟨hi, hit.2⟩
    · have := N'' p (.tail _ hp)
      refine ⟨hk9 _ _ (fun z => ?_) this.1, this.2⟩
      have hq : ∀ r ∈ ((q, methodObj (.ref 74) (.ref R.x)) :: rdAll w.params R ln tl [] k [] n : List (Addr × Obj)), @Ne Nat r.1 it := by
        k_all
      exact hq p hp z
theorem next_ended (F : Fr h₀ L s.heap m) (N : News h₀ L s.heap (lexLed w.params R it q cended ln tl k vs n))
    (ret : ∀ h', Fr h₀ L h' m → News h₀ L h' (lexLed w.params R it q cended ln tl k vs n) → Q none { s with heap := h' }) :
    wpAny (model row.prog w) (ktrTop dp un gd cn cs L a ccd cl outer) (pyNext (.ref it)) Q E s :=
  pyNext_cended rfl (N _ (.head _)).1 fun h' k => ret h' (F.keeps k) fun p hp => ⟨k _ _ (N p hp).1, (N p hp).2⟩
end

end
section
theorem startLexi1 : True := by
  w_top off
  k_with "Lexi1 0" => (simp only [PySem.sizeLine_eq, Str.length_append, tx_len, sgn_len, len_empty, List.length_append, List.length_cons, List.length_nil, List.length_take]; (first | lia | omega))
  trivial
local macro_rules | `(tactic| walk_at "zz none") => `(tactic| fail "zz none")
theorem strs_open {vs : List Value} {c : Nat} {cs : List Nat} (h : StrsAre vs ((c :: cs).map sgn)) : ∃ t ws, vs = .str (sgn c) t :: ws ∧ StrsAre ws (cs.map sgn) := by
  cases h with
  | cons _ t h => exact ⟨t, _, rfl, h⟩
theorem strs_none {vs : List Value} (h : StrsAre vs (([] : List Nat).map sgn)) : vs = [] := by
  cases h
  rfl
theorem tx_tx (a b : List Nat) : tx a ++ tx b = tx (a ++ b) := by
  show (⟨a.toArray ++ b.toArray⟩ : Str) = ⟨(a ++ b).toArray⟩
  simp
theorem Fr.of_eq {h₀ h : Heap} {L : Addr} {m m' : Str → Option Value} (F : Fr h₀ L h m) (e : m = m') : Fr h₀ L h m' := e ▸ F
noncomputable abbrev frm (x : Nat) (ch : Option Value) (it : Nat) (tok : Str) (tt : Tok) : Str → Option Value := fun y =>
  if y = Str.ofString "ch" then ch else if y = Str.ofString "fiter" then some (.ref it) else if y = Str.ofString "token" then some (.str tok tt) else if y = Str.ofString "self" then some (.ref x) else none
theorem frm_ch {x it : Nat} {ch v : Option Value} {tok : Str} {tt : Tok} : (fun y => if y = Str.ofString "ch" then v else frm x ch it tok tt y) = frm x v it tok tt := by
  funext y
  unfold frm
  by_cases h : y = Str.ofString "ch" <;> simp [h]
theorem frm_tok {x it : Nat} {ch : Option Value} {tok t2 : Str} {tt u2 : Tok} : (fun y => if y = Str.ofString "token" then some (.str t2 u2) else frm x ch it tok tt y) = frm x ch it t2 u2 := by
  funext y
  unfold frm
  by_cases h : y = Str.ofString "token"
  · subst h
    rw [if_pos rfl, if_neg (by decide), if_neg (by decide), if_pos rfl]
  · rw [if_neg h, if_neg h]
    by_cases h2 : y = Str.ofString "ch"
    · rw [if_pos h2, if_pos h2]
    · rw [if_neg h2, if_neg h2, if_neg h]
theorem frm_tc {x it : Nat} {ch v : Option Value} {tok t2 : Str} {tt u2 : Tok} : (fun y => if y = Str.ofString "token" then some (.str t2 u2) else if y = Str.ofString "ch" then v else frm x ch it tok tt y) = frm x v it t2 u2 :=
  (congrArg (fun m : Str → Option Value => fun y => if y = Str.ofString "token" then some (.str t2 u2) else m y) frm_ch).trans frm_tok
theorem frm_tcc {x it : Nat} {ch v v2 : Option Value} {tok t2 : Str} {tt u2 : Tok} : (fun y => if y = Str.ofString "token" then some (.str t2 u2) else if y = Str.ofString "ch" then v2 else if y = Str.ofString "ch" then v else frm x ch it tok tt y) = frm x v2 it t2 u2 :=
  (congrArg (fun m : Str → Option Value => fun y => if y = Str.ofString "token" then some (.str t2 u2) else if y = Str.ofString "ch" then v2 else m y) frm_ch).trans frm_tc
noncomputable def nlo : List Nat → Int → Int
  | [], ln => ln
  | c :: _, ln => nl c ln
theorem nl_le (c : Nat) (ln : Int) : ln ≤ nl c ln ∧ nl c ln ≤ ln + 1 := by
  unfold nl; split <;> (first | lia | omega)
theorem nlo_le : ∀ (cs : List Nat) (ln : Int), ln ≤ nlo cs ln ∧ nlo cs ln + (cs.drop 1).length ≤ ln + cs.length
  | [], ln => by simp [nlo]
  | c :: cs, ln => by
    have := nl_le c ln
    simp only [nlo, List.drop_succ_cons, List.drop_zero, List.length_cons]
    (first | lia | omega)
theorem quo_step (acc : List Nat) (cs : List Nat) (ln : Int) : quoted acc (92 :: cs) ln = quoted (acc ++ cs.take 1) (cs.drop 1) (nlo cs ln) := by
  cases cs with
  | nil => rw [quoted_cons, if_neg (by decide), if_pos rfl]; simp only [nlo, List.take_nil, List.append_nil, List.drop_nil]; unfold quoted; rfl
  | cons d ds => rw [quoted_cons, if_neg (by decide), if_pos rfl]; rfl
theorem bar_step (acc : List Nat) (cs : List Nat) (ln : Int) : bare acc (92 :: cs) ln = bare (acc ++ cs.take 1) (cs.drop 1) (nlo cs ln) := by
  cases cs with
  | nil => rw [bare_cons, if_neg (by decide), if_pos rfl]; simp only [nlo, List.take_nil, List.append_nil, List.drop_nil]; unfold bare; rfl
  | cons d ds => rw [bare_cons, if_neg (by decide), if_pos rfl]; rfl
theorem tok_step (cs : List Nat) (ln : Int) : tok0 (92 :: cs) ln = bare (cs.take 1) (cs.drop 1) (nlo cs ln) := by
  cases cs with
  | nil => rw [tok0_cons, if_neg (by decide), if_neg (by decide), if_pos rfl]; unfold bare; rfl
  | cons d ds => rw [tok0_cons, if_neg (by decide), if_neg (by decide), if_pos rfl]; rfl
theorem quo_one {c : Nat} (acc cs : List Nat) (ln : Int) (h1 : c ≠ 34) (h2 : c ≠ 92) : quoted acc (c :: cs) ln = quoted (acc ++ [c]) cs (nl c ln) := by rw [quoted_cons, if_neg h1, if_neg h2]
theorem quo_fin (acc cs : List Nat) (ln : Int) : quoted acc (34 :: cs) ln = (acc, cs, nl 34 ln) := by rw [quoted_cons, if_pos rfl]
theorem bar_one {c : Nat} (acc cs : List Nat) (ln : Int) (h1 : isWs c = false) (h2 : c ≠ 92) : bare acc (c :: cs) ln = bare (acc ++ [c]) cs (nl c ln) := by rw [bare_cons, if_neg (by simpa using h1), if_neg h2]
theorem bar_fin {c : Nat} (acc cs : List Nat) (ln : Int) (h1 : isWs c = true) : bare acc (c :: cs) ln = (acc, cs, nl c ln) := by rw [bare_cons, if_pos h1]
theorem quo_none (acc : List Nat) (ln : Int) : quoted acc [] ln = (acc, [], ln) := by unfold quoted; rfl
theorem bar_none (acc : List Nat) (ln : Int) : bare acc [] ln = (acc, [], ln) := by unfold bare; rfl
theorem tok_q (cs : List Nat) (ln : Int) : tok0 (34 :: cs) ln = quoted [] cs (nl 34 ln) := by rw [tok0_cons, if_neg (by decide), if_pos rfl]
theorem tok_lit1 {c : Nat} (cs : List Nat) (ln : Int) (h1 : isWs c = false) (h2 : c ≠ 34) (h3 : c ≠ 92) : tok0 (c :: cs) ln = bare [c] cs (nl c ln) := by rw [tok0_cons, if_neg (by simpa using h1), if_neg h2, if_neg h3]
theorem tok_sp {c : Nat} (cs : List Nat) (ln : Int) (h1 : isWs c = true) : tok0 (c :: cs) ln = tok0 cs (nl c ln) := by rw [tok0_cons, if_pos h1]
theorem tok_none (ln : Int) : tok0 [] ln = ([], [], ln) := by unfold tok0; rfl
noncomputable def methIn (p : Program) (i j : Nat) : List Stmt × Scope := match p.main.body[i]? with
  | some (.ClassDef _ _ _ b _ _ _ _ _ _ _) => match b[j]? with
    | some (.FunctionDef _ _ b' _ _ _ sc _ _ _) => (b', sc)
    | _ => ([], { kind := .function, names := [], isGenerator := false, isCoroutine := false })
  | _ => ([], { kind := .function, names := [], isGenerator := false, isCoroutine := false })
noncomputable def forBody : Option Stmt → List Stmt
  | some (.For _ _ b _ _) => b
  | _ => []
noncomputable def thenOf : Option Stmt → List Stmt
  | some (.If _ b _ _) => b
  | _ => []
noncomputable def elseOf : Option Stmt → List Stmt
  | some (.If _ _ b _) => b
  | _ => []
noncomputable def gtIn : List Stmt × Scope := methIn PySem.Challenge.rw_xe0009_01.prog 7 2
noncomputable def gtScope : Scope := gtIn.2
noncomputable def stmtAt (l : List Stmt) (i : Nat) : Stmt := match l[i]? with
  | some s => s
  | none => .Pass ⟨0, 0, 0, 0⟩
noncomputable def gtQ : Stmt := stmtAt (thenOf ((forBody gtIn.1[3]?)[1]?)) 0
noncomputable def gtB : Stmt := stmtAt (elseOf ((forBody gtIn.1[3]?)[1]?)) 2
noncomputable abbrev gtEnv (L : Addr) : Env := envOf (Str.ofString "_netrclex.get_token") gtScope L 81 (.ref 80)
section
variable {w : World} {R : RdA} {it q : Nat} {t : Tok} {ln : Int} {tl : Tok} {k n : Nat} {vs : List Value}
  {p : Program} {loose : List Str} {mean : ExcName → Option Value} {mg mb : Str → Option Value} {dp un : Nat} {gd : Option (List Code)} {cn : Str} {cs : Scope} {a : Addr} {ccd : Value} {cl : List (Str × Addr)} {outer : List Env} {A₀ : Around} {base h₀ : Heap} {L : Addr} {m : Str → Option Value} {s : Shared} {E : Value → Shared → Prop}
theorem next_any {Q : Option Value → Shared → Prop} {xs : List Nat} (h : R.Ok) (hv : StrsAre vs (xs.map sgn)) (hl : 0 ≤ ln ∧ ln + xs.length ≤ 10000) (lt : R.pb < q ∧ q < it)
    (B : Below A₀ base outer h₀) (F : Fr h₀ L s.heap m) (X : (hd.heap_39 w.params).In h₀) (N : News h₀ L s.heap (lexLed w.params R it q (citer (.ref q) (.str "" t)) ln tl k vs n)) (T : Top p loose mean mg mb h₀) (hk : cs.kind = .function) (hd : dp + 8 < recursionLimit) (hu : un + 100 < cLine)
    (nil : xs = [] → ∀ h' tk', Fr h₀ L h' m → News h₀ L h' (lexLed w.params R it q cended ln tl k [] n) → Q none { s with heap := h', toks := tk' })
    (cons : ∀ c ds, xs = c :: ds → ∀ h' tk' tl' tc ws, Fr h₀ L h' m → News h₀ L h' (lexLed w.params R it q (citer (.ref q) (.str "" t)) (nl c ln) tl' k ws (n + 1)) → StrsAre ws (ds.map sgn) → Q (some (.str (sgn c) tc)) { s with heap := h', toks := tk' }) :
    wpAny (model row.prog w) (ktrTop dp un gd cn cs L a ccd cl outer) (pyNext (.ref it)) Q E s := by
  cases xs with
  | nil =>
    obtain rfl := strs_none hv
    exact next_nil h lt B F X N T hk hd hu (nil rfl)
  | cons c ds =>
    obtain ⟨tc, ws, rfl, hw⟩ := strs_open hv
    have hw' : ws.length = ds.length := by rw [hw.length, List.length_map]
    simp only [List.length_cons] at hl
    exact next_cons h (by (first | lia | omega)) (by (first | lia | omega)) lt B F X N T hk hd hu fun h' tk' tl' F' N' => cons c ds rfl h' tk' tl' tc ws F' N' hw
theorem char_lex {Q : Value → Shared → Prop} {xs : List Nat} (h : R.Ok) (hv : StrsAre vs (xs.map sgn)) (hl : 0 ≤ ln ∧ ln + xs.length ≤ 10000) (lt : R.pb < q ∧ q < it)
    (B : Below A₀ base outer h₀) (F : Fr h₀ L s.heap m) (X : (hd.heap_39 w.params).In h₀) (N : News h₀ L s.heap (lexLed w.params R it q (citer (.ref q) (.str "" t)) ln tl k vs n)) (T : Top p loose mean mg mb h₀) (hk : cs.kind = .function) (hd : dp + 8 < recursionLimit) (hu : un + 100 < cLine)
    (ret : ∀ h' tk' tl' tc ws n', Fr h₀ L h' m → News h₀ L h' (lexLed w.params R it q (citer (.ref q) (.str "" t)) (nlo xs ln) tl' k ws n') → StrsAre ws ((xs.drop 1).map sgn) → Q (.str (tx (xs.take 1)) tc) { s with heap := h', toks := tk' }) :
    wpAny (model row.prog w) (ktrTop dp un gd cn cs L a ccd cl outer) (call (.ref 74) [.ref R.x]) Q E s := by
  have h9 : RdA.Apart _ := RdA.Ok.lt (by assumption); have n01 := RdA.n01 h9; have n02 := RdA.n02 h9; have n03 := RdA.n03 h9; have n04 := RdA.n04 h9; have n05 := RdA.n05 h9; have n06 := RdA.n06 h9; have n07 := RdA.n07 h9; have n08 := RdA.n08 h9; have n12 := RdA.n12 h9; have n13 := RdA.n13 h9; have n14 := RdA.n14 h9; have n15 := RdA.n15 h9; have n16 := RdA.n16 h9; have n17 := RdA.n17 h9; have n18 := RdA.n18 h9; have n23 := RdA.n23 h9; have n24 := RdA.n24 h9; have n25 := RdA.n25 h9; have n26 := RdA.n26 h9; have n27 := RdA.n27 h9; have n28 := RdA.n28 h9; have n34 := RdA.n34 h9; have n35 := RdA.n35 h9; have n36 := RdA.n36 h9; have n37 := RdA.n37 h9; have n38 := RdA.n38 h9; have n45 := RdA.n45 h9; have n46 := RdA.n46 h9; have n47 := RdA.n47 h9; have n48 := RdA.n48 h9; have n56 := RdA.n56 h9; have n57 := RdA.n57 h9; have n58 := RdA.n58 h9; have n67 := RdA.n67 h9; have n68 := RdA.n68 h9; have n78 := RdA.n78 h9
  have h4 := h.lt
  cases xs with
  | nil =>
    obtain rfl := strs_none hv
    refine' Does.use (char_nil w R h ln tl [] k n) B F X N T hk ?hd ?hu ?hp ?hr ?_
    case hd => ktr_room
    case hu => ktr_units
    case hp => kxw_bool
    case hr => kin_val
    intro n0 v post h' tk' _ hP F' N'
    obtain ⟨⟨t', rfl⟩, rfl⟩ := hP
    have N'' : News h₀ L h' (lexLed w.params R it q (citer (.ref q) (.str "" t)) ln tl k [] n) := fun p hp => N' p (by revert p hp; kxw_bool)
    have := ret h' tk' tl t' [] n F' N'' .nil
    rw [List.take_nil, ← tx_nil] at this
    exact this
  | cons c ds =>
    obtain ⟨tc, ws, rfl, hw⟩ := strs_open hv
    have hw' : ws.length = ds.length := by rw [hw.length, List.length_map]
    simp only [List.length_cons] at hl
    refine' Does.use (char_cons w R h ln tl [] k n c tc ws (by (first | lia | omega)) (by (first | lia | omega))) B F X N T hk ?hd ?hu ?hp ?hr ?_
    case hd => ktr_room
    case hu => ktr_units
    case hp => kxw_bool
    case hr => kin_val
    intro n0 v post h' tk' _ hP F' N'
    obtain ⟨rfl, tl', rfl⟩ := hP
    exact ret h' tk' tl' tc ws (n + 1) F' (fun p hp => N' p (by revert p hp; kxw_bool)) hw
end
/-- between the turns of an inner loop -/
inductive InnI (w : World) (g : Heap) (L : Addr) (s0 : Shared) (R : RdA) (it q : Nat) (t : Tok) (k : Nat) (f : List Nat → List Nat → Int → List Nat × List Nat × Int) (G : List Nat × List Nat × Int) (n : Nat) (iv : Value) (s : Shared) : Prop
  | act {xs acc ch tt ln tl vs nn h tk} : iv = .ref it → s = { s0 with heap := h, toks := tk } → Fr g L h (frm R.x ch it (tx acc) tt) → News g L h (lexLed w.params R it q (citer (.ref q) (.str "" t)) ln tl k vs nn) → StrsAre vs (xs.map sgn) → xs.length ≤ n →
      (0 ≤ ln ∧ ln + xs.length ≤ 10000) → acc.length + xs.length ≤ 10000 → f acc xs ln = G → InnI w g L s0 R it q t k f G n iv s
section
variable {w : World} {R : RdA} {it q : Nat} {t : Tok} {ln : Int} {tl : Tok} {k n : Nat} {vs : List Value} {xs acc : List Nat} {ch : Option Value} {tt : Tok} {G : List Nat × List Nat × Int}
  {p : Program} {loose : List Str} {mean : ExcName → Option Value} {mg mb : Str → Option Value} {dp un : Nat} {gd : Option (List Code)} {cn : Str} {cs : Scope} {a : Addr} {ccd : Value} {cl : List (Str × Addr)} {outer : List Env} {base g : Heap} {L Lc : Addr} {s : Shared} {Q : Flow → Shared → Prop} {E : Value → Shared → Prop}
local macro_rules | `(tactic| size_fits) => `(tactic| k_extra "Lexi1 0")
local macro_rules | `(tactic| walk_at "call ref") => `(tactic| refine hold ?_)
theorem inner_q (h : R.Ok) (lt : R.pb < q ∧ q < it) (B : Below (ktrTop dp un gd cn cs Lc a ccd cl outer) base (envX cn cs Lc a ccd cl :: outer) g) (X : (hd.heap_39 w.params).In g) (T : Top p loose mean mg mb g) (hd : dp + 16 < recursionLimit) (hu : un + 160 < cLine)
   (hE : PassesOwn (model row.prog w) ((ktrTop dp un gd cn cs Lc a ccd cl outer).deeper (gtEnv L)) (gtEnv L) E)
   (hv : StrsAre vs (xs.map sgn)) (hl : 0 ≤ ln ∧ ln + xs.length ≤ 10000) (ha : acc.length + xs.length ≤ 10000)
   (F : Fr g L s.heap (frm R.x ch it (tx acc) tt)) (N : News g L s.heap (lexLed w.params R it q (citer (.ref q) (.str "" t)) ln tl k vs n)) (hG : quoted acc xs ln = G)
   (ret : ∀ h' tk' m' tk2 tl' vs' n', Fr g L h' m' → News g L h' (lexLed w.params R it q (citer (.ref q) (.str "" t)) G.2.2 tl' k vs' n') → StrsAre vs' (G.2.1.map sgn) → Q (.ret (.str (tx G.1) tk2)) { s with heap := h', toks := tk' })
   (fin : ∀ h' tk' ch' tk2 tl' n', G.2.1 = [] → Fr g L h' (frm R.x ch' it (tx G.1) tk2) → News g L h' (lexLed w.params R it q cended G.2.2 tl' k [] n') → Q .next { s with heap := h', toks := tk' }) :
   wpAny (model row.prog w) ((ktrTop dp un gd cn cs Lc a ccd cl outer).deeper (gtEnv L)) (exec gtQ (gtEnv L)) Q E s := by
  revert X
  k_fill
  intro X
  have h4 := h.lt
  unfold gtEnv at *
  generalize hsc : gtScope = sc at *
  generalize hb : gtQ = b
  conv at hsc => lhs; whnf
  conv at hb => lhs; whnf
  subst hsc
  subst hb
  refine For_rule (InnI w g L s R it q t k quoted G) xs.length ?_ ?_ (hE := hE)
  · walk1
    refine pyIter_citer N (.head _) ?_
    exact .act rfl rfl F N hv (Nat.le_refl _) hl ha hG
  · intro n6 it6 s6 hI6
    clear F N hv hl ha hG
    obtain ⟨e1, e2, F6, N6, hv6, hn6, hl6, ha6, hG6⟩ := hI6
    rename_i xs6 acc6 ch6 tt6 ln6 tl6 vs6 nn6 h6 tk6
    subst e1
    subst e2
    refine next_any h hv6 hl6 lt B F6 X N6 T rfl (by ktr_room) (by ktr_units) (fun e h7 tk7 F7 N7 => ?_) (fun c ds e h7 tk7 tl7 tc ws F7 N7 hw => ?_)
    · dsimp only
      subst e
      rw [quo_none] at hG6
      subst hG6
      exact fin _ _ _ _ _ _ rfl F7 N7
    · dsimp only
      subst e
      clear F6 N6 hv6
      simp only [List.length_cons] at hn6 hl6 ha6
      have hnl := nl_le c ln6
      walk1
      try dsimp only
      lcg_lit
      k_steps
      · exact (by
          rename (sgn c == Str.ofString "\"") = true => hq
          obtain rfl := quo_yes hq
          rw [quo_fin] at hG6
          subst hG6
          exact ret _ _ _ _ _ _ _ (by k_asm) (by k_asm) hw)
      · refine unhold ?_
        rename (sgn c == Str.ofString "\\") = true => hb
        obtain rfl := bsl_yes hb
        rw [quo_step] at hG6
        have hno := nlo_le ds (nl 92 ln6)
        show wpAny _ _ (call (.ref 74) [.ref R.x]) _ _ _
        refine' char_lex h hw ?l lt ?B ?F X ?N T ?hk ?hd ?hu ?_
        case B => k_asm
        case F => k_asm
        case N => k_asm
        case l => (first | lia | omega)
        case hk => rfl
        case hd => ktr_room
        case hu => ktr_units
        intro h8 tk8 tl8 tc8 ws8 n8 F8 N8 hw8
        k_steps
        rename Fr _ _ _ _ => F9
        rename News _ _ _ _ => N9
        rw [tx_tx] at F9
        refine unhold ⟨(ds.drop 1).length, by rw [List.length_drop]; (first | lia | omega), .act rfl rfl (Fr.of_eq F9 frm_tcc) N9 hw8 (Nat.le_refl _) ⟨by (first | lia | omega), by (first | lia | omega)⟩ ?_ hG6⟩
        rw [List.length_append, List.length_take, List.length_drop]; (first | lia | omega)
      · rename (sgn c == Str.ofString "\"") = false => hq
        rename (sgn c == Str.ofString "\\") = false => hb
        rw [quo_one _ _ _ (quo_no hq) (bsl_no hb)] at hG6
        rename Fr _ _ _ _ => F9
        rename News _ _ _ _ => N9
        rw [tx_app] at F9
        refine unhold ⟨ds.length, by (first | lia | omega), .act rfl rfl (Fr.of_eq F9 frm_tc) N9 hw (Nat.le_refl _) ⟨by (first | lia | omega), by (first | lia | omega)⟩ ?_ hG6⟩
        rw [List.length_append, List.length_singleton]; (first | lia | omega)
theorem inner_b (h : R.Ok) (lt : R.pb < q ∧ q < it) (B : Below (ktrTop dp un gd cn cs Lc a ccd cl outer) base (envX cn cs Lc a ccd cl :: outer) g) (X : (hd.heap_39 w.params).In g) (T : Top p loose mean mg mb g) (hd : dp + 16 < recursionLimit) (hu : un + 160 < cLine)
   (hE : PassesOwn (model row.prog w) ((ktrTop dp un gd cn cs Lc a ccd cl outer).deeper (gtEnv L)) (gtEnv L) E)
   (hv : StrsAre vs (xs.map sgn)) (hl : 0 ≤ ln ∧ ln + xs.length ≤ 10000) (ha : acc.length + xs.length ≤ 10000)
   (F : Fr g L s.heap (frm R.x ch it (tx acc) tt)) (N : News g L s.heap (lexLed w.params R it q (citer (.ref q) (.str "" t)) ln tl k vs n)) (hG : bare acc xs ln = G)
   (ret : ∀ h' tk' m' tk2 tl' vs' n', Fr g L h' m' → News g L h' (lexLed w.params R it q (citer (.ref q) (.str "" t)) G.2.2 tl' k vs' n') → StrsAre vs' (G.2.1.map sgn) → Q (.ret (.str (tx G.1) tk2)) { s with heap := h', toks := tk' })
   (fin : ∀ h' tk' ch' tk2 tl' n', G.2.1 = [] → Fr g L h' (frm R.x ch' it (tx G.1) tk2) → News g L h' (lexLed w.params R it q cended G.2.2 tl' k [] n') → Q .next { s with heap := h', toks := tk' }) :
   wpAny (model row.prog w) ((ktrTop dp un gd cn cs Lc a ccd cl outer).deeper (gtEnv L)) (exec gtB (gtEnv L)) Q E s := by
  revert X
  k_fill
  intro X
  have h4 := h.lt
  unfold gtEnv at *
  generalize hsc : gtScope = sc at *
  generalize hb : gtB = b
  conv at hsc => lhs; whnf
  conv at hb => lhs; whnf
  subst hsc
  subst hb
  refine For_rule (InnI w g L s R it q t k bare G) xs.length ?_ ?_ (hE := hE)
  · walk1
    refine pyIter_citer N (.head _) ?_
    exact .act rfl rfl F N hv (Nat.le_refl _) hl ha hG
  · intro n6 it6 s6 hI6
    clear F N hv hl ha hG
    obtain ⟨e1, e2, F6, N6, hv6, hn6, hl6, ha6, hG6⟩ := hI6
    rename_i xs6 acc6 ch6 tt6 ln6 tl6 vs6 nn6 h6 tk6
    subst e1
    subst e2
    refine next_any h hv6 hl6 lt B F6 X N6 T rfl (by ktr_room) (by ktr_units) (fun e h7 tk7 F7 N7 => ?_) (fun c ds e h7 tk7 tl7 tc ws F7 N7 hw => ?_)
    · dsimp only
      subst e
      rw [bar_none] at hG6
      subst hG6
      exact fin _ _ _ _ _ _ rfl F7 N7
    · dsimp only
      subst e
      clear F6 N6 hv6
      simp only [List.length_cons] at hn6 hl6 ha6
      have hnl := nl_le c ln6
      walk1
      try dsimp only
      lcg_lit
      k_steps
      · refine unhold ?_
        rename (sgn c == Str.ofString "\\") = true => hb
        obtain rfl := bsl_yes hb
        rw [bar_step] at hG6
        have hno := nlo_le ds (nl 92 ln6)
        show wpAny _ _ (call (.ref 74) [.ref R.x]) _ _ _
        refine' char_lex h hw ?l lt ?B ?F X ?N T ?hk ?hd ?hu ?_
        case B => k_asm
        case F => k_asm
        case N => k_asm
        case l => (first | lia | omega)
        case hk => rfl
        case hd => ktr_room
        case hu => ktr_units
        intro h8 tk8 tl8 tc8 ws8 n8 F8 N8 hw8
        k_steps
        rename Fr _ _ _ _ => F9
        rename News _ _ _ _ => N9
        rw [tx_tx] at F9
        refine unhold ⟨(ds.drop 1).length, by rw [List.length_drop]; (first | lia | omega), .act rfl rfl (Fr.of_eq F9 frm_tcc) N9 hw8 (Nat.le_refl _) ⟨by (first | lia | omega), by (first | lia | omega)⟩ ?_ hG6⟩
        rw [List.length_append, List.length_take, List.length_drop]; (first | lia | omega)
      · rename List.isEmpty _ = true => hq
        rename (sgn c == Str.ofString "\\") = false => hb
        rw [ws_is] at hq
        rw [bar_one _ _ _ (by simpa using hq) (bsl_no hb)] at hG6
        rename Fr _ _ _ _ => F9
        rename News _ _ _ _ => N9
        rw [tx_app] at F9
        refine unhold ⟨ds.length, by (first | lia | omega), .act rfl rfl (Fr.of_eq F9 frm_tc) N9 hw (Nat.le_refl _) ⟨by (first | lia | omega), by (first | lia | omega)⟩ ?_ hG6⟩
        rw [List.length_append, List.length_singleton]; (first | lia | omega)
      · exact (by
          rename List.isEmpty _ = false => hq
          rw [ws_is] at hq
          rw [bar_fin _ _ _ (by simpa using hq)] at hG6
          subst hG6
          exact ret _ _ _ _ _ _ _ (by k_asm) (by k_asm) hw)
end

end
section
theorem startTok1 : True := by
  w_top off
  k_with "Tok1 0" => (simp only [PySem.sizeLine_eq, Str.length_append, tx_len, sgn_len, len_empty, List.length_append, List.length_cons, List.length_nil, List.length_take]; (first | lia | omega))
  trivial
local macro_rules | `(tactic| walk_at "zz none") => `(tactic| fail "zz none")
local macro_rules | `(tactic| walk_at "zz none") => `(tactic| fail "zz none")
local macro_rules | `(tactic| walk_at "zz none") => `(tactic| fail "zz none")
theorem tok_push (w : World) (R : RdA) (h : R.Ok) (ln : Int) (tl : Tok) (y : Value) (ps : List Value) (hp : ps.length ≤ 10000) (k : Nat) (vs : List Value) (n : Nat) :
   Does row.prog w (hd.heap_39 w.params) 8 80 81 [.ref R.x] (rdAll w.params R ln tl (y :: ps) k vs n)
     (fun v post => v = y ∧ post = rdAll w.params R ln tl ps (k + 1) vs n) := by
  have h0 := h
  have h9 : RdA.Apart _ := RdA.Ok.lt (by assumption); have n01 := RdA.n01 h9; have n02 := RdA.n02 h9; have n03 := RdA.n03 h9; have n04 := RdA.n04 h9; have n05 := RdA.n05 h9; have n06 := RdA.n06 h9; have n07 := RdA.n07 h9; have n08 := RdA.n08 h9; have n12 := RdA.n12 h9; have n13 := RdA.n13 h9; have n14 := RdA.n14 h9; have n15 := RdA.n15 h9; have n16 := RdA.n16 h9; have n17 := RdA.n17 h9; have n18 := RdA.n18 h9; have n23 := RdA.n23 h9; have n24 := RdA.n24 h9; have n25 := RdA.n25 h9; have n26 := RdA.n26 h9; have n27 := RdA.n27 h9; have n28 := RdA.n28 h9; have n34 := RdA.n34 h9; have n35 := RdA.n35 h9; have n36 := RdA.n36 h9; have n37 := RdA.n37 h9; have n38 := RdA.n38 h9; have n45 := RdA.n45 h9; have n46 := RdA.n46 h9; have n47 := RdA.n47 h9; have n48 := RdA.n48 h9; have n56 := RdA.n56 h9; have n57 := RdA.n57 h9; have n58 := RdA.n58 h9; have n67 := RdA.n67 h9; have n68 := RdA.n68 h9; have n78 := RdA.n78 h9
  obtain ⟨h1, h2, h3, h4⟩ := h
  unfold Does
  k_fill
  intro p loose mean mg mb dp un gd cn cs a ccd cl outer A₀ base h₀ L m s RR B F X N T hk hd' hu hret
  k_dflt walk_at "m enter"
  k_steps
  exact Left.intro (by k_asm) (by k_asm) (by kxw_bool) ⟨rfl, rfl⟩
/-- between the turns of the outer loop -/
inductive OutI (w : World) (g : Heap) (L : Addr) (s0 : Shared) (R : RdA) (it q : Nat) (t : Tok) (k : Nat) (G : List Nat × List Nat × Int) (n : Nat) (iv : Value) (s : Shared) : Prop
  | act {xs ch tt ln tl vs nn h tk} : iv = .ref it → s = { s0 with heap := h, toks := tk } → Fr g L h (frm R.x ch it (tx []) tt) → News g L h (lexLed w.params R it q (citer (.ref q) (.str "" t)) ln tl k vs nn) → StrsAre vs (xs.map sgn) → xs.length + 1 ≤ n →
      (0 ≤ ln ∧ ln + xs.length ≤ 10000) → tok0 xs ln = G → OutI w g L s0 R it q t k G n iv s
  | fin {ch tt tl nn h tk} : iv = .ref it → s = { s0 with heap := h, toks := tk } → Fr g L h (frm R.x ch it (tx G.1) tt) → News g L h (lexLed w.params R it q cended G.2.2 tl k [] nn) → G.2.1 = [] → OutI w g L s0 R it q t k G n iv s
local macro_rules | `(tactic| walk_at "exec For Name Name cons nil") => `(tactic| refine hold ?_)
local macro_rules | `(tactic| walk_at "call ref") => `(tactic| refine hold ?_)
local macro_rules | `(tactic| size_fits) => `(tactic| k_extra "Tok1 0")
theorem tok_lex (w : World) (R : RdA) (h : R.Ok) (ln : Int) (tl : Tok) (k : Nat) (xs : List Nat) (hz : 0 ≤ ln ∧ ln + xs.length ≤ 10000) (vs : List Value) (hv : StrsAre vs (xs.map sgn)) (n : Nat) :
   Does row.prog w (hd.heap_39 w.params) 24 240 81 [.ref R.x] (rdAll w.params R ln tl [] k vs n)
     (fun v post => ∃ tk tl' vs' n', v = .str (tx (tok0 xs ln).1) tk ∧ post = rdAll w.params R (tok0 xs ln).2.2 tl' [] k vs' n' ∧ StrsAre vs' ((tok0 xs ln).2.1.map sgn)) := by
  have h0 := h
  have h9 : RdA.Apart _ := RdA.Ok.lt (by assumption); have n01 := RdA.n01 h9; have n02 := RdA.n02 h9; have n03 := RdA.n03 h9; have n04 := RdA.n04 h9; have n05 := RdA.n05 h9; have n06 := RdA.n06 h9; have n07 := RdA.n07 h9; have n08 := RdA.n08 h9; have n12 := RdA.n12 h9; have n13 := RdA.n13 h9; have n14 := RdA.n14 h9; have n15 := RdA.n15 h9; have n16 := RdA.n16 h9; have n17 := RdA.n17 h9; have n18 := RdA.n18 h9; have n23 := RdA.n23 h9; have n24 := RdA.n24 h9; have n25 := RdA.n25 h9; have n26 := RdA.n26 h9; have n27 := RdA.n27 h9; have n28 := RdA.n28 h9; have n34 := RdA.n34 h9; have n35 := RdA.n35 h9; have n36 := RdA.n36 h9; have n37 := RdA.n37 h9; have n38 := RdA.n38 h9; have n45 := RdA.n45 h9; have n46 := RdA.n46 h9; have n47 := RdA.n47 h9; have n48 := RdA.n48 h9; have n56 := RdA.n56 h9; have n57 := RdA.n57 h9; have n58 := RdA.n58 h9; have n67 := RdA.n67 h9; have n68 := RdA.n68 h9; have n78 := RdA.n78 h9
  obtain ⟨h1, h2, h3, h4⟩ := h
  generalize hG : tok0 xs ln = G
  unfold Does
  k_fill
  intro p loose mean mg mb dp un gd cn cs a ccd cl outer A₀ base h₀ L m s RR B F X N T hk hd' hu hret
  k_dflt walk_at "m enter"
  k_steps
  k_dflt (refine' iter_call ?F ?N ?q ?_; (case F => k_asm); (case N => k_asm); (case q => k_mem))
  intro it hI FI NI lI
  k_lt lI
  k_steps
  refine unhold ?_
  rename Fr _ _ _ _ => F1
  rename News _ _ _ _ => N1
  rename_i g' L' hh0 FG B' X' T' lq lz tk00 tk0 hh1 tq9 q hh2 lq2 hh3 _
  have lt9 : R.pb < q ∧ @LT.lt Nat _ q it := ⟨by (first | lia | omega), by (first | lia | omega)⟩
  have F2 : Fr g' L' hh3 (frm R.x none it (tx []) _) := Fr.congr F1 (by
    intro y
    by_cases h1 : y = Str.ofString "ch"; · subst h1; rfl
    by_cases h2 : y = Str.ofString "fiter"; · subst h2; rfl
    by_cases h3 : y = Str.ofString "token"; · subst h3; exact congrArg (fun z => some (Value.str z _)) tx_nil
    by_cases h4 : y = Str.ofString "self"; · subst h4; rfl
    simp only [frm, if_neg h1, if_neg h2, if_neg h3, if_neg h4]; show List.lookup y [(Str.ofString "self", _)] = none; rw [List.lookup_cons, beq_eq_false_iff_ne.mpr h4]; rfl)
  clear F1
  refine For_rule (OutI w g' L' s R it q (tq9 + 1) k G) (xs.length + 1) ?_ ?_
  · walk1
    refine pyIter_citer N1 (.head _) ?_
    exact .act rfl rfl F2 N1 hv (Nat.le_refl _) hz hG
  · intro n6 it6 s6 hI6
    clear F2 N1 hv hG hz
    lcg_lit
    rcases hI6 with ⟨e1, e2, F6, N6, hv6, hn6, hl6, hG6⟩ | ⟨e1, e2, F6, N6, hG6⟩
    · rename_i xs6 ch6 tt6 ln6 tl6 vs6 nn6 h6 tk6
      subst e1
      subst e2
      refine next_any h0 hv6 hl6 lt9 B' F6 X' N6 T' rfl (by ktr_room) (by ktr_units) ?nil ?cons
      · intro e h7 tk7 F7 N7
        subst e
        rw [tok_none] at hG6
        subst hG6
        clear F6 N6 hv6
        k_unfold
        dsimp only
        k_steps
        exact Left.intro (by k_asm) (by k_asm) (by kxw_bool) ⟨_, _, _, _, rfl, rfl, .nil⟩
      · intro c ds e h7 tk7 tl7 tc ws F7 N7 hw
        subst e
        clear F6 N6 hv6
        simp only [List.length_cons] at hn6 hl6
        k_unfold
        dsimp only
        have hnl := nl_le c ln6
        walk1
        try dsimp only
        lcg_lit
        k_steps
        · refine unhold ?_
          lcg_lit
          rename List.isEmpty _ = true => hws
          rename (sgn c == Str.ofString "\"") = true => hq
          rename Fr _ _ _ _ => F9
          rename News _ _ _ _ => N9
          obtain rfl := quo_yes hq
          rw [tok_q] at hG6
          refine inner_q h0 lt9 B' X' T' ?hd ?hu ?hE hw ?hl ?ha (Fr.of_eq F9 frm_ch) N9 hG6 ?ret ?fin
          case hd => (first | lia | omega)
          case hu => (first | lia | omega)
          case hE => passes_own
          case hl => exact ⟨by (first | lia | omega), by (first | lia | omega)⟩
          case ha => simp only [List.length_nil, List.length_cons, List.length_take, List.length_drop]; (first | lia | omega)
          case ret =>
            intro h8 tk8 m8 t8 tl8 vs8 n8 F8 N8 sa8
            clear F9 N9
            k_steps
            exact Left.intro F8 N8 (by kxw_bool) ⟨_, _, _, _, rfl, rfl, sa8⟩
          case fin =>
            intro h8 tk8 ch8 t8 tl8 n8 e8 F8 N8
            clear F9 N9
            k_steps
            exact unhold ⟨0, by (first | lia | omega), .fin rfl rfl F8 N8 e8⟩
        · refine unhold ?_
          rename List.isEmpty _ = true => hws
          rename (sgn c == Str.ofString "\\") = true => hb
          rename Fr _ _ _ _ => F5
          rename News _ _ _ _ => N5
          obtain rfl := bsl_yes hb
          rw [tok_step] at hG6
          have hno := nlo_le ds (nl 92 ln6)
          show wpAny _ _ (call (.ref 74) [.ref R.x]) _ _ _
          lcg_lit
          refine' char_lex h0 hw ⟨by (first | lia | omega), by (first | lia | omega)⟩ lt9 ?B F5 X' N5 T' ?hk ?hd ?hu ?_
          case B => k_asm
          case hk => rfl
          case hd => ktr_room
          case hu => ktr_units
          intro h8 tk8 tl8 tc8 ws8 n8 F8 N8 hw8
          clear F5 N5 hw
          k_steps
          refine unhold ?_
          rename Fr _ _ _ _ => F9
          rename News _ _ _ _ => N9
          rw [tx_tx, List.nil_append] at F9
          lcg_lit
          refine inner_b h0 lt9 B' X' T' ?hd ?hu ?hE hw8 ?hl ?ha (Fr.of_eq F9 frm_tcc) N9 hG6 ?ret ?fin
          case hd => (first | lia | omega)
          case hu => (first | lia | omega)
          case hE => passes_own
          case hl => exact ⟨by (first | lia | omega), by (first | lia | omega)⟩
          case ha => simp only [List.length_nil, List.length_cons, List.length_take, List.length_drop]; (first | lia | omega)
          case ret =>
            intro ha tka ma ta tla vsa na Fa Na saa
            clear F9 N9
            k_steps
            exact Left.intro Fa Na (by kxw_bool) ⟨_, _, _, _, rfl, rfl, saa⟩
          case fin =>
            intro ha tka cha ta tla na ea Fa Na
            clear F9 N9
            k_steps
            exact unhold ⟨0, by (first | lia | omega), .fin rfl rfl Fa Na ea⟩
        · refine unhold ?_
          rename List.isEmpty _ = true => hws
          rename (sgn c == Str.ofString "\"") = false => hq
          rename (sgn c == Str.ofString "\\") = false => hb
          rename Fr _ _ _ _ => F9
          rename News _ _ _ _ => N9
          rw [ws_is] at hws
          rw [tok_lit1 _ _ (by simpa using hws) (quo_no hq) (bsl_no hb)] at hG6
          rw [tx_app, List.nil_append] at F9
          lcg_lit
          refine inner_b h0 lt9 B' X' T' ?hd ?hu ?hE hw ?hl ?ha (Fr.of_eq F9 frm_tc) N9 hG6 ?ret ?fin
          case hd => (first | lia | omega)
          case hu => (first | lia | omega)
          case hE => passes_own
          case hl => exact ⟨by (first | lia | omega), by (first | lia | omega)⟩
          case ha => simp only [List.length_nil, List.length_cons, List.length_take, List.length_drop]; (first | lia | omega)
          case ret =>
            intro h8 tk8 m8 t8 tl8 vs8 n8 F8 N8 sa8
            clear F9 N9
            k_steps
            exact Left.intro F8 N8 (by kxw_bool) ⟨_, _, _, _, rfl, rfl, sa8⟩
          case fin =>
            intro h8 tk8 ch8 t8 tl8 n8 e8 F8 N8
            clear F9 N9
            k_steps
            exact unhold ⟨0, by (first | lia | omega), .fin rfl rfl F8 N8 e8⟩
        · rename List.isEmpty _ = false => hws
          rename Fr _ _ _ _ => F9
          rename News _ _ _ _ => N9
          rw [ws_is] at hws
          rw [tok_sp _ _ (by simpa using hws)] at hG6
          exact unhold ⟨ds.length + 1, by (first | lia | omega), .act rfl rfl (Fr.of_eq F9 frm_ch) N9 hw (Nat.le_refl _) ⟨by (first | lia | omega), by (first | lia | omega)⟩ hG6⟩
    · subst e1
      subst e2
      refine next_ended F6 N6 ?_
      intro h5 F5 N5
      clear F6 N6
      k_unfold
      dsimp only
      k_steps
      exact Left.intro (by k_asm) (by k_asm) (by kxw_bool) ⟨_, _, _, _, rfl, rfl, by rw [hG6]; exact .nil⟩

end
section
theorem startGiv1 : True := by
  w_top off
  trivial
theorem ltr_ws {c : Nat} (h : 65 ≤ c ∧ c < 81) : isWs c = false := by
  have h1 : c ≠ 10 := by (first | lia | omega)
  have h2 : c ≠ 9 := by (first | lia | omega)
  have h3 : c ≠ 13 := by (first | lia | omega)
  have h4 : c ≠ 32 := by (first | lia | omega)
  simp [isWs, h1, h2, h3, h4]
theorem nl_ltr {c : Nat} (h : c ≠ 10) (ln : Int) : nl c ln = ln := if_neg h
theorem bare_run {l : List Nat} (hl : ∀ c ∈ l, 65 ≤ c ∧ c < 81) (c : Nat) (hc : isWs c = true) (rest : List Nat) (ln : Int) : ∀ acc, bare acc (l ++ c :: rest) ln = (acc ++ l, rest, nl c ln) := by
  induction l with
  | nil => intro acc; rw [List.nil_append, bare_cons, if_pos hc, List.append_nil]
  | cons d l ih =>
    intro acc
    have hd := hl d (.head _)
    rw [List.cons_append, bare_cons, ltr_ws hd, if_neg Bool.false_ne_true, if_neg (by (first | lia | omega)), nl_ltr (by (first | lia | omega)), ih fun x hx => hl x (.tail _ hx)]
    simp
theorem quoted_run {l : List Nat} (hl : ∀ c ∈ l, 65 ≤ c ∧ c < 81) (rest : List Nat) (ln : Int) : ∀ acc, quoted acc (l ++ 34 :: rest) ln = (acc ++ l, rest, ln) := by
  induction l with
  | nil => intro acc; rw [List.nil_append, quoted_cons, if_pos rfl, List.append_nil, nl_ltr (by decide)]
  | cons d l ih =>
    intro acc
    have hd := hl d (.head _)
    rw [List.cons_append, quoted_cons, if_neg (by (first | lia | omega)), if_neg (by (first | lia | omega)), nl_ltr (by (first | lia | omega)), ih fun x hx => hl x (.tail _ hx)]
    simp
theorem tok_piece {l : List Nat} (hl : ∀ c ∈ l, 65 ≤ c ∧ c < 81) (hne : l ≠ []) (f : Nat) (rest : List Nat) (ln : Int) :
    tok0 (pieceOf l f ++ rest) ln = (l, (if f < 3 then rest else 9 :: rest), ln + ((pieceOf l f).count 10 : Nat)) := by
  cases l with
  | nil => exact absurd rfl hne
  | cons d l =>
    have hd := hl d (.head _)
    have ht : ∀ c ∈ l, 65 ≤ c ∧ c < 81 := fun x hx => hl x (.tail _ hx)
    have c0 : (d :: l).count 10 = 0 := List.count_eq_zero.mpr fun hm => by have := hl 10 hm; (first | lia | omega)
    unfold pieceOf
    by_cases h0 : f = 0
    · subst h0
      rw [if_pos rfl, if_pos (by decide), List.count_append, c0, List.append_assoc, List.cons_append, tok0_cons, ltr_ws hd, if_neg Bool.false_ne_true, if_neg (by (first | lia | omega)), if_neg (by (first | lia | omega))]
      show bare [d] (l ++ 32 :: rest) _ = _
      rw [bare_run ht 32 (by decide), nl_ltr (by (first | lia | omega)), nl_ltr (by (first | lia | omega))]
      simp
    by_cases h1 : f = 1
    · subst h1
      rw [if_neg (by decide), if_pos rfl, if_pos (by decide), List.count_append, List.count_append, c0]
      show tok0 (34 :: (d :: l ++ [34] ++ rest)) _ = _
      rw [tok0_cons, if_neg (by decide), if_pos rfl, List.append_assoc]
      show quoted [] (d :: l ++ 34 :: rest) _ = _
      rw [quoted_run hl, nl_ltr (by decide)]
      simp
    by_cases h2 : f = 2
    · subst h2
      rw [if_neg (by decide), if_neg (by decide), if_pos rfl, if_pos (by decide), List.count_append, List.count_append, c0]
      show tok0 (92 :: d :: (l ++ [10] ++ rest)) _ = _
      rw [tok0_cons, if_neg (by decide), if_neg (by decide), if_pos rfl]
      show bare [d] (l ++ [10] ++ rest) _ = _
      rw [List.append_assoc]
      show bare [d] (l ++ 10 :: rest) _ = _
      rw [bare_run ht 10 (by decide), nl_ltr (c := d) (by (first | lia | omega)), nl_ltr (c := 92) (by decide)]
      simp [nl]
    · rw [if_neg h0, if_neg h1, if_neg h2, if_neg (by (first | lia | omega)), List.count_append, List.count_append, c0]
      show tok0 (34 :: 92 :: d :: (l ++ [34, 9] ++ rest)) _ = _
      rw [tok0_cons, if_neg (by decide), if_pos rfl, quoted_cons, if_neg (by decide), if_pos rfl]
      show quoted [d] (l ++ [34, 9] ++ rest) _ = _
      rw [List.append_assoc]
      show quoted [d] (l ++ 34 :: (9 :: rest)) _ = _
      rw [quoted_run ht, nl_ltr (c := d) (by (first | lia | omega)), nl_ltr (c := 92) (by decide), nl_ltr (c := 34) (by decide)]
      simp
theorem tok_tab (xs : List Nat) (ln : Int) : tok0 (9 :: xs) ln = tok0 xs ln := by rw [tok0_cons, if_pos (by decide), nl_ltr (by decide)]
theorem tok_stop (z : Int) : tok0 [46] z = ([46], [], z) := by rw [tok0_cons, if_neg (by decide), if_neg (by decide), if_neg (by decide), nl_ltr (by decide)]; rfl
noncomputable abbrev Pre9 (pre : List Nat) : Prop := pre = [] ∨ pre = [9]
/-- what is left of the text after i words -/
noncomputable abbrev leftAt (pc : List (List Nat)) (pre : List Nat) (i : Nat) : List Nat := pre ++ ((pc.drop i).flatten ++ [46])
theorem tok_turn {o : Int} (ho : 0 ≤ o ∧ o < 3000) {ps ds : List Int} (hp0 : ∀ p ∈ ps, 13 ≤ p ∧ p ≤ 17) {i : Nat} (h1 : i < ps.length) (h2 : i < ds.length) {pre : List Nat} (hpre : Pre9 pre) (ln : Int) :
    ∃ pre', Pre9 pre' ∧ tok0 (leftAt (pcs o ps ds) pre i) ln = (wd o (ps.getD i 0), leftAt (pcs o ps ds) pre' (i + 1), ln + (((pcs o ps ds).getD i []).count 10 : Nat)) := by
  have hat := pcs_at (o := o) h1 h2
  have hpk := hp0 _ (getD_mem (d := 0) h1)
  have hwl : ∀ c ∈ wd o (ps.getD i 0), 65 ≤ c ∧ c < 81 := fun c hc => wd_mem hc
  have hwn : wd o (ps.getD i 0) ≠ [] := wd_ne (by (first | lia | omega))
  have hlt : i < (pcs o ps ds).length := (List.getElem?_eq_some_iff.mp hat).1
  have hd : (pcs o ps ds).drop i = pieceOf (wd o (ps.getD i 0)) (formOf (ds.getD i 0)) :: (pcs o ps ds).drop (i + 1) := by
    rw [List.drop_eq_getElem_cons hlt, (List.getElem?_eq_some_iff.mp hat).2]
  have hg : (pcs o ps ds).getD i [] = pieceOf (wd o (ps.getD i 0)) (formOf (ds.getD i 0)) := by rw [List.getD, hat]; rfl
  have e : tok0 (leftAt (pcs o ps ds) pre i) ln = tok0 ((pcs o ps ds).drop i |>.flatten |> (· ++ [46])) ln := by
    rcases hpre with rfl | rfl
    · rfl
    · exact tok_tab _ _
  rw [e, hd, hg]
  show ∃ pre', _ ∧ tok0 ((List.flatten (_ :: _)) ++ [46]) ln = _
  rw [List.flatten_cons, List.append_assoc, tok_piece hwl hwn]
  split
  · exact ⟨[], .inl rfl, rfl⟩
  · exact ⟨[9], .inr rfl, rfl⟩
theorem pre_len {pre : List Nat} (h : Pre9 pre) : pre.length ≤ 1 := by rcases h with rfl | rfl <;> decide
theorem left_len (pc : List (List Nat)) (pre : List Nat) (h : Pre9 pre) (hf : pc.flatten.length ≤ 49) (i : Nat) : (leftAt pc pre i).length ≤ 51 := by
  have : (pc.drop i).flatten.length ≤ pc.flatten.length := by
    conv => rhs; rw [← List.take_append_drop i pc]
    rw [List.flatten_append, List.length_append]; (first | lia | omega)
  have := pre_len h
  simp only [leftAt, List.length_append, List.length_cons, List.length_nil]
  (first | lia | omega)
theorem stop_end {pre : List Nat} (h : Pre9 pre) (pc : List (List Nat)) (i : Nat) (hi : pc.length ≤ i) : leftAt pc pre i = pre ++ [46] := by
  rw [leftAt, List.drop_eq_nil_of_le hi]; rfl
theorem stop_tok {pre : List Nat} (h : Pre9 pre) (z : Int) : tok0 (pre ++ [46]) z = ([46], [], z) := by
  rcases h with rfl | rfl
  · exact tok_stop z
  · exact (tok_tab _ _).trans (tok_stop z)
theorem lines_step (pc : List (List Nat)) (i : Nat) : ((pc.take (i + 1)).flatten.count 10 : Nat) = (pc.take i).flatten.count 10 + (pc.getD i []).count 10 := by
  rw [List.take_add_one, List.flatten_append, List.count_append]
  cases h : pc[i]? with
  | none => simp [List.getD, h]
  | some x => simp [List.getD, h]
theorem count10 (l : List Nat) : Txt.count (tx l) (Str.ofString "\n") = ((l.count 10 : Nat) : Int) := by
  rw [show Str.ofString "\n" = (⟨#[10]⟩ : Str) by decide +kernel, count_cnt, cnt_is]
theorem signs_tx (l : List Nat) : signs (tx l) = l.map sgn := by simp [signs]

end
section
theorem startMirr1 : True := by
  w_top off
  k_with "Mirr1 0" => (
    intro y
    by_cases h1 : y = Str.ofString "place"; · subst h1; rfl
    by_cases h2 : y = Str.ofString "low"; · subst h2; first | rfl | (refine congrArg some (congrArg (fun z => Value.int z _) ?_); first | assumption | (first | lia | omega))
    by_cases h3 : y = Str.ofString "high"; · subst h3; first | rfl | (refine congrArg some (congrArg (fun z => Value.int z _) ?_); first | assumption | (first | lia | omega))
    by_cases h4 : y = Str.ofString "places"; · subst h4; rfl
    first | (simp only [frmM, if_neg h1, if_neg h2, if_neg h3, if_neg h4]; done) | (simp only [frmM, if_neg h1, if_neg h2, if_neg h3, if_neg h4]; show List.lookup y [(Str.ofString "places", _)] = none; rw [List.lookup_cons, beq_eq_false_iff_ne.mpr h4]; rfl) | (simp only [frmM, if_neg h1, if_neg h2, if_neg h3, if_neg h4]; exact if_neg h4))
  k_with "Mirr1 1" => (k_here; k_dflt (refine' in_ints ?z9N ?z9m ?z9i ?_; (case z9N => k_asm); (case z9m => k_mem); (case z9i => assumption); k_whole))
  k_with "Mirr1 2" => (k_here; (with_reducible show wpAny _ _ (call (Value.builtin _) [Value.ref _, Value.ref _]) _ _ _); k_dflt (refine' extend_ints ?z9F ?z9N ?z9b ?z9ne ?z9U ?z9z ?_; (case z9F => k_asm); (case z9N => k_asm); (case z9b => k_mem); (case z9U => k_upd); (case z9ne => exact Nat.succ_ne_zero _); (case z9z => simp only [List.length_cons, List.length_nil]; (first | lia | omega)); k_whole))
  trivial
local macro_rules | `(tactic| walk_at "zz none") => `(tactic| fail "zz none")
noncomputable abbrev frmM (pl lo hi : Option Value) (pa : Nat) : Str → Option Value := fun y =>
  if y = Str.ofString "place" then pl else if y = Str.ofString "low" then lo else if y = Str.ofString "high" then hi else if y = Str.ofString "places" then some (.ref pa) else none
noncomputable abbrev fullOb (o : Obj) (lf : Nat) : Prop := o.data = .cell (some (.ref lf))
local macro_rules | `(tactic| walk_at "exec For Name Name cons nil") => `(tactic| refine hold ?_)
local macro_rules | `(tactic| walk_at "exec While Compare cons nil") => `(tactic| refine hold ?_)
local macro_rules | `(tactic| walk_at "eval ListComp") => `(tactic| refine hold ?_)
local macro_rules | `(tactic| walk_at "m frm") => `(tactic| k_extra "Mirr1 0")
local macro_rules | `(tactic| walk_at "compareOp In int ref") => `(tactic| k_extra "Mirr1 1")
inductive LoI (g : Heap) (L' : Addr) (s0 : Shared) (pl hi : Option Value) (pa : Nat) (nw : List (Addr × Obj)) (full : List Int) (goal : Int) : Nat → Shared → Prop
  | go {h tk q t} : Fr g L' h (frmM pl (some (.int q t)) hi pa) → News g L' h nw → lowOf full q = goal → LoI g L' s0 pl hi pa nw full goal (full.filter (fun x => decide (x ≤ q))).length { s0 with heap := h, toks := tk }
inductive HiI (g : Heap) (L' : Addr) (s0 : Shared) (pl lo : Option Value) (pa : Nat) (nw : List (Addr × Obj)) (full : List Int) (goal : Int) : Nat → Shared → Prop
  | go {h tk q t} : Fr g L' h (frmM pl lo (some (.int q t)) pa) → News g L' h nw → highOf full q = goal → HiI g L' s0 pl lo pa nw full goal (full.filter (fun x => decide (q ≤ x))).length { s0 with heap := h, toks := tk }
local macro_rules | `(tactic| walk_at "call builtin:list.extend") => `(tactic| (k_extra "Mirr1 2"; intro h' F' N'; (try k_sweep)))
local macro_rules | `(tactic| walk_at "call builtin:list.remove") => `(tactic| (refine hold ?_))
local macro_rules | `(tactic| walk_at "pyIter ref") => `(tactic| (refine hold ?_))
noncomputable def marked (full : List Int) (k : Nat) : List Int := (List.range k).map fun (i : Nat) => if (i : Int) ∈ full then 1 else 0
theorem marked_succ (full : List Int) (k : Nat) : marked full (k + 1) = marked full k ++ [if (k : Int) ∈ full then 1 else 0] := by
  unfold marked; rw [List.range_succ, List.map_append]; rfl
theorem mirr (w : World) (ps : List Int) (vs : List Value) (hv : IntsAre vs ps) (pa n : Nat) (hl : ps.length = 7) :
   DoesN row.prog w (hd.heap_39 w.params) 8 80 140 [.ref pa] [(pa, listOf vs.toArray n)] (fun n0 v post => ∃ D ys, IntsAre ys (marked (mall ps) 32) ∧ v = .ref D ∧ post = [(D, LCg.lst ys), (pa, W.listOf vs.toArray n)]) := by
  k_fill
  intro p loose mean mg mb dp un gd cn cs a ccd cl outer A₀ base h₀ L m s RR B F X N T hk hd' hu hret
  k_dflt walk_at "m enter cells"
  rename_i g' L' hh0 tk0 FG FF B' X' T' l0 l1 o1 d1 NN
  k_steps
  refine unhold ?_
  rename_i lf hh1 lt hh2 o2 F1 N1 d2
  have hvl : vs.length = 7 := by rw [hv.length, hl]
  refine For_walk (by k_asm) rfl rfl rfl ?_
  k_steps
  refine unhold ?_
  refine for_list (its := vs.toArray) (fun i m nw => ∃ fs pl lo hi k, IntsAre fs (mall (ps.take i)) ∧ m = frmM pl lo hi pa ∧ nw = [(lf, listOf fs.toArray k), (L' + 1, o2), (pa, listOf vs.toArray n)]) rfl (by k_asm) (by k_asm) ⟨[], none, none, none, _, .nil, funext (by walk_at "m frm"), rfl⟩ (fun i m nw h => ?jS) ?turn ?fin
  case jS =>
    obtain ⟨fs, pl, lo, hi, k, _, _, e⟩ := h
    subst e
    exact ⟨n, .tail _ (.tail _ (.head _))⟩
  case turn =>
    clear F1 N1
    intro g I _ i m nw v h tk oI hi hJ hP F N off
    obtain ⟨fs, pl, lo, hiv, k, hfs, em, e⟩ := hJ
    subst e
    subst em
    have a1 : @Ne Nat lf I := off (lf, _) (.head _)
    have a2 : @Ne Nat (L' + 1) I := off (L' + 1, _) (.tail _ (.head _))
    have a3 : @Ne Nat pa I := off (pa, _) (.tail _ (.tail _ (.head _)))
    obtain ⟨q, u, hq, e⟩ := ints_at hv (by simpa using hP)
    subst e
    have hfl : fs.length ≤ 7 := by rw [hfs.length, mall_len, List.length_take]; (first | lia | omega)
    rename Fr _ _ _ _ => F1
    have F2 := Fr.congr (m' := frmM (some (.int q u)) lo hiv pa) F1 (by walk_at "m frm")
    clear F1
    k_steps
    refine unhold ?_
    rename Fr _ _ _ _ => F3
    rename News _ _ _ _ => N3
    have F4 := Fr.congr (m' := frmM (some (.int q u)) (some (.int q u)) hiv pa) F3 (by walk_at "m frm")
    clear F2 F3
    refine While_rule (LoI g' L' s _ hiv pa _ (mall (ps.take i)) (lowOf (mall (ps.take i)) q)) _ (.go F4 N3 rfl) ?_
    clear F4 N3
    intro cnt s1 hI
    cases hI with
    | go F5 N5 e5 =>
      rename_i q2 t2
      k_steps
      · have hb' : q2 ∈ mall (ps.take i) := by assumption
        rename Fr _ _ _ _ => F6
        rename News _ _ _ _ => N6
        have F7 := Fr.congr (m' := frmM (some (.int q u)) (some (.int (q2 - 1) _)) hiv pa) F6 (by walk_at "m frm")
        refine unhold ⟨_, flt_lt _ _ hb', .go F7 N6 (by rw [← e5, lowOf_in hb'])⟩
      · have hb' : ¬q2 ∈ mall (ps.take i) := by assumption
        rw [lowOf_out hb'] at e5
        subst e5
        rename Fr _ _ _ _ => F6
        rename News _ _ _ _ => N6
        have F7 := Fr.congr (m' := frmM (some (.int q u)) (some (.int (lowOf (mall (ps.take i)) q) t2)) (some (.int q u)) pa) F6 (by walk_at "m frm")
        clear F6
        refine While_rule (HiI g' L' s _ (some (.int (lowOf (mall (ps.take i)) q) t2)) pa _ (mall (ps.take i)) (highOf (mall (ps.take i)) q)) _ (.go F7 N6 rfl) ?_
        clear F7 N6
        intro cnt s1 hI
        cases hI with
        | go F8 N8 e8 =>
          rename_i q3 t3
          k_steps
          · have hb3 : q3 ∈ mall (ps.take i) := by assumption
            rename Fr _ _ _ _ => F9
            rename News _ _ _ _ => N9
            have F10 := Fr.congr (m' := frmM (some (.int q u)) (some (.int (lowOf (mall (ps.take i)) q) t2)) (some (.int (q3 + 1) _)) pa) F9 (by walk_at "m frm")
            refine unhold ⟨_, flt_gt _ _ hb3, .go F10 N9 (by rw [← e8, highOf_in hb3])⟩
          · have hb3 : ¬q3 ∈ mall (ps.take i) := by assumption
            rw [highOf_out hb3] at e8
            subst e8
            refine unhold ?_
            refine' remove_ints (vs := fs ++ [.int (lowOf (mall (ps.take i)) q) t2, .int (highOf (mall (ps.take i)) q) t3]) ?F ?N (ints_app hfs (.cons _ t2 (.cons _ t3 .nil))) (mstep_in _ _) ?z ?kk
            case F => k_asm
            case N => k_asm
            case z => simp only [List.length_append, List.length_cons, List.length_nil]; (first | lia | omega)
            case kk =>
              intro qs hqs hql
              refine ⟨_, by k_upd, fun h5 F5 N5 => ?_⟩
              k_steps
              rename Fr _ _ _ _ => F11
              rename News _ _ _ _ => N11
              refine unhold (TurnEnd.intro F11 N11 (by kxw_bool) ?off ⟨qs, _, _, _, _, ?hm, rfl, rfl⟩)
              case off =>
                intro p hp
                rcases List.mem_cons.mp hp with rfl | hp
                · exact a1
                rcases List.mem_cons.mp hp with rfl | hp
                · exact a2
                rcases List.mem_cons.mp hp with rfl | hp
                · exact a3
                · cases hp
              case hm =>
                rw [mall_succ hq]
                exact hqs
  case fin =>
    clear F1 N1
    intro m nw h tk hJ F N
    obtain ⟨fs, pl, lo, hiv, k, hfs, em, e⟩ := hJ
    subst e
    subst em
    have hT : ps.take vs.toArray.size = ps := by
      rw [List.size_toArray, hvl]; exact List.take_of_length_le (by (first | lia | omega))
    rw [hT] at hfs
    k_steps
    refine unhold ?_
    k_dflt refine ListComp_X (F₀ := by k_asm) (by rfl) (by decide) (by rfl) (by decide) (by rfl) ?_
    k_steps
    refine unhold ?_
    rename IsRange _ _ _ _ _ _ _ _ => R9
    refine' WalkSrc.range (n := 32) rfl ?F ?N R9 (by decide) (by decide) ?sz ?kk
    case F => k_asm
    case N => k_asm
    case sz => simp only [PySem.sizeLine_eq]; (first | lia | omega)
    case kk =>
      intro g2
      refine compRest (fun i ys news => news = [(lf, W.listOf fs.toArray k), (L' + 1, o2), (pa, W.listOf vs.toArray n)] ∧ IntsAre ys (marked (mall ps) i)) ?turn ?fin _ 0 [] _ (Nat.zero_add _) ⟨rfl, .nil⟩
      case turn =>
        intro i ys news hi hJ v I oI C oC D m₂ h tk E' hP hC hx F N off ne
        obtain ⟨e, hys⟩ := hJ
        subst e
        obtain ⟨t, e⟩ := hP
        subst e
        rw [Int.zero_add] at hx
        k_steps
        refine LCg.CompEnd.intro F N _ (fun p h => h) off trivial (unhold ⟨rfl, ?_⟩)
        rw [marked_succ]
        refine ints_app hys ?_
        by_cases hd9 : (i : Int) ∈ mall ps
        · simp only [hd9, decide_true, if_true]; exact .cons _ _ .nil
        · simp only [hd9, decide_false, Bool.false_eq_true, if_false]; exact .cons _ _ .nil
      case fin =>
        intro ys news hJ
        obtain ⟨e, hys⟩ := hJ
        subst e
        intro D h tk F N hm
        k_steps
        exact Left.intro (by k_asm) (by k_asm) (by kxw_bool) (post := [(D, LCg.lst ys), (pa, W.listOf vs.toArray n)]) ⟨_, _, hys, rfl, rfl⟩

end
section
theorem startSide1 : True := by
  w_top off
  k_with "Side1 0" => (
    intro y
    by_cases h1 : y = Str.ofString "reader"; · subst h1; rfl
    by_cases h2 : y = Str.ofString "waiting"; · subst h2; rfl
    by_cases h3 : y = Str.ofString "marks"; · subst h3; rfl
    by_cases h4 : y = Str.ofString "draws"; · subst h4; rfl
    by_cases h5 : y = Str.ofString "origin"; · subst h5; rfl
    by_cases h6 : y = Str.ofString "place"; · subst h6; rfl
    by_cases h7 : y = Str.ofString "draw"; · subst h7; rfl
    by_cases h8 : y = Str.ofString "half"; · subst h8; rfl
    simp only [frmU, if_neg h1, if_neg h2, if_neg h3, if_neg h4, if_neg h5, if_neg h6, if_neg h7, if_neg h8])
  trivial
noncomputable def addL (ms : List Int) (p h : Int) : List Int := ms.set p.toNat (ms.getD p.toNat 0 + h)
noncomputable def sideM (ms : List Int) (q s h : Int) (i : Nat) : List Int := if h = 0 then ms else if i = 0 then ms else if i = 1 then addL ms (q + s) h else addL (addL ms (q + s) h) (q - s) h
noncomputable def sideW (ws : List Int) (q s h : Int) (i : Nat) : List Int := if h = 0 then ws else if i = 0 then ws else if i = 1 then qadd ws (q + s) else qadd (qadd ws (q + s)) (q - s)
local macro_rules | `(tactic| walk_at "call ref") => `(tactic| refine hold ?_)
local macro_rules | `(tactic| walk_at "exec For Name Subscript cons nil") => `(tactic| refine hold ?_)
local macro_rules | `(tactic| walk_at "pyIter ref") => `(tactic| refine hold ?_)
theorem sideM_succ {ms : List Int} {q s sd h : Int} {i : Nat} (h0 : h ≠ 0) (e : (i = 0 ∧ sd = s) ∨ (i = 1 ∧ sd = -s)) : addL (sideM ms q s h i) (q + sd) h = sideM ms q s h (i + 1) := by
  rcases e with ⟨rfl, rfl⟩ | ⟨rfl, rfl⟩
  · simp [sideM, h0]
  · simp [sideM, h0, Int.sub_eq_add_neg]
theorem sideW_succ {ws : List Int} {q s sd h : Int} {i : Nat} (h0 : h ≠ 0) (e : (i = 0 ∧ sd = s) ∨ (i = 1 ∧ sd = -s)) : qadd (sideW ws q s h i) (q + sd) = sideW ws q s h (i + 1) := by
  rcases e with ⟨rfl, rfl⟩ | ⟨rfl, rfl⟩
  · simp [sideW, h0]
  · simp [sideW, h0, Int.sub_eq_add_neg]
theorem side0 {ms ws : List Int} {q s : Int} (i : Nat) : sideM ms q s 0 i = ms ∧ sideW ws q s 0 i = ws := ⟨by simp [sideM], by simp [sideW]⟩
theorem qadd_len (ws : List Int) (p : Int) : (qadd ws p).length ≤ ws.length + 1 := by
  unfold qadd; split <;> simp
theorem sideW_len (ws : List Int) (q s h : Int) (i : Nat) : (sideW ws q s h i).length ≤ ws.length + 2 := by
  have h1 := qadd_len ws (q + s)
  have h2 := qadd_len (qadd ws (q + s)) (q - s)
  unfold sideW
  split
  · (first | lia | omega)
  · split
    · (first | lia | omega)
    · split <;> (first | lia | omega)
theorem qadd_mem {ws : List Int} {p x : Int} (h : x ∈ qadd ws p) : x ∈ ws ∨ x = p := by
  unfold qadd at h
  split at h
  · exact .inl h
  · rcases List.mem_append.mp h with h | h
    · exact .inl h
    · exact .inr (List.mem_singleton.mp h)
theorem sideW_mem {ws : List Int} {q s h x : Int} {i : Nat} (hw : ∀ p ∈ ws, 0 ≤ p ∧ p ≤ 31) (hq : (0 ≤ q + s ∧ q + s ≤ 31) ∧ 0 ≤ q - s ∧ q - s ≤ 31) (hx : x ∈ sideW ws q s h i) : 0 ≤ x ∧ x ≤ 31 := by
  unfold sideW at hx
  split at hx
  · exact hw x hx
  · split at hx
    · exact hw x hx
    · split at hx
      · rcases qadd_mem hx with h | h
        · exact hw x h
        · rw [h]; exact hq.1
      · rcases qadd_mem hx with h | h
        · rcases qadd_mem h with h | h
          · exact hw x h
          · rw [h]; exact hq.1
        · rw [h]; exact hq.2
local macro_rules | `(tactic| walk_at "m frm") => `(tactic| k_extra "Side1 0")
theorem two_items {s0 : Int} {t1 t2 : Tok} {i : Nat} {v : Value} (hi : i < #[Value.int s0 t1, Value.int (-s0) t2].size) (h : #[Value.int s0 t1, Value.int (-s0) t2][i]? = some v) : ∃ sd u, v = .int sd u ∧ ((i = 0 ∧ sd = s0) ∨ (i = 1 ∧ sd = -s0)) :=
  match i, hi with
  | 0, _ => ⟨s0, _, by simpa using h.symm, .inl ⟨rfl, rfl⟩⟩
  | 1, _ => ⟨-s0, _, by simpa using h.symm, .inr ⟨rfl, rfl⟩⟩
inductive SideJ (P : Params) (R : RdA) (wt mk dr : Nat) (og : Int) (tg : Tok) (q : Int) (tq : Tok) (d : Int) (td : Tok) (hv : Int) (th : Tok) (ln : Int) (tl : Tok) (vs : List Value) (n : Nat) (dv : List Value) (kd : Nat) (ms ws : List Int) (s0 : Int) (lx : Nat) (t1 t2 : Tok) (I : Nat) (oI : Obj) (i : Nat) (m : Str → Option Value) (nw : List (Addr × Obj)) : Prop
  | mk (o : Str → Option Value) (pv wv mv : List Value) (k kw km : Nat) : m = frmU o R.x wt mk dr og tg q tq d td hv th → nw = (lx, W.listOf #[.int s0 t1, .int (-s0) t2] 0) :: (I, oI) :: setLed P R ln tl pv k vs n wt mk dr wv mv dv kw km kd →
    StrsAre pv (wds og (sideW ws q s0 hv i)) → StrsAre wv (wds og (sideW ws q s0 hv i)) → IntsAre mv (sideM ms q s0 hv i) → SideJ P R wt mk dr og tg q tq d td hv th ln tl vs n dv kd ms ws s0 lx t1 t2 I oI i m nw
theorem sides (w : World) (R : RdA) (h : R.Ok) (wt mk dr : Nat) (hord : OrdS R wt mk dr) (og : Int) (tg : Tok) (hog : 0 ≤ og ∧ og < 3000) (ms ws : List Int) (dv : List Value) (pv wv mv vs : List Value) (q : Int) (hq : 1 ≤ q ∧ q ≤ 30) (hml : ms.length = 32) (hmb : ∀ m ∈ ms, 0 ≤ m ∧ m ≤ 1000) (hwl : ws.length ≤ 200) (hwb : ∀ p ∈ ws, 0 ≤ p ∧ p ≤ 31) (hpv : StrsAre pv (wds og ws)) (hwv : StrsAre wv (wds og ws)) (hmv : IntsAre mv ms) (ln : Int) (tl : Tok) (k n kw km kd : Nat)
    (d hv : Int) (hd0 : 0 ≤ d) (hh : 0 ≤ hv ∧ hv ≤ 100) (tq td th : Tok) (I : Nat) (oI : Obj) (hIw : wt < I) :
    ∀ {p : Program} {loose : List Str} {mean : ExcName → Option Value} {mg mb : Str → Option Value} {dp un : Nat} {gd : Option (List Code)} {cn : Str} {cs : Scope} {a : Addr} {ccd : Value} {cl : List (Str × Addr)} {base g : Heap} {L L' : Nat} {o : Str → Option Value} {s : Shared} {RR : Result → Shared → Prop} {Q : Flow → Shared → Prop}
   (_ : Below (ktrTop dp un gd cn cs L a ccd cl []) base [envX cn cs L a ccd cl] g) (_ : (hd.heap_39 w.params).In g) (_ : Top p loose mean mg mb g) (_ : cs.kind = .function) (_ : dp + 32 < recursionLimit) (_ : un + 320 < cLine)
   (_ : Fr g L' s.heap (frmU o R.x wt mk dr og tg q tq d td hv th)) (_ : News g L' s.heap ((I, oI) :: setLed w.params R ln tl pv k vs n wt mk dr wv mv dv kw km kd))
   (_ : ∀ sd h' tk o' pv' wv' mv' k' kw' km', (sd = 1 ∨ sd = -1) → Fr g L' h' (frmU o' R.x wt mk dr og tg q tq d td hv th) → News g L' h' ((I, oI) :: setLed w.params R ln tl pv' k' vs n wt mk dr wv' mv' dv kw' km' kd) → StrsAre pv' (wds og (sideW ws q sd hv 2)) → StrsAre wv' (wds og (sideW ws q sd hv 2)) → IntsAre mv' (sideM ms q sd hv 2) → Q .next { s with heap := h', toks := tk }),
   wpAny (model row.prog w) ((ktrTop dp un gd cn cs L a ccd cl []).deeper (setEnv L')) (execs setFor (setEnv L')) Q (fun e s' => wpAny (model row.prog w) ((ktrTop dp un gd cn cs L a ccd cl []).deeper (setEnv L')) (leaving (setEnv L') e) (fun _ s'' => RR (.error e) s'') (fun e' s'' => RR (.error e') s'') s') s := by
  have h9 : RdA.Apart _ := RdA.Ok.lt (by assumption); have n01 := RdA.n01 h9; have n02 := RdA.n02 h9; have n03 := RdA.n03 h9; have n04 := RdA.n04 h9; have n05 := RdA.n05 h9; have n06 := RdA.n06 h9; have n07 := RdA.n07 h9; have n08 := RdA.n08 h9; have n12 := RdA.n12 h9; have n13 := RdA.n13 h9; have n14 := RdA.n14 h9; have n15 := RdA.n15 h9; have n16 := RdA.n16 h9; have n17 := RdA.n17 h9; have n18 := RdA.n18 h9; have n23 := RdA.n23 h9; have n24 := RdA.n24 h9; have n25 := RdA.n25 h9; have n26 := RdA.n26 h9; have n27 := RdA.n27 h9; have n28 := RdA.n28 h9; have n34 := RdA.n34 h9; have n35 := RdA.n35 h9; have n36 := RdA.n36 h9; have n37 := RdA.n37 h9; have n38 := RdA.n38 h9; have n45 := RdA.n45 h9; have n46 := RdA.n46 h9; have n47 := RdA.n47 h9; have n48 := RdA.n48 h9; have n56 := RdA.n56 h9; have n57 := RdA.n57 h9; have n58 := RdA.n58 h9; have n67 := RdA.n67 h9; have n68 := RdA.n68 h9; have n78 := RdA.n78 h9
  have w0 := OrdS.w0 h9 hord; have m0 := OrdS.m0 hord; have d0 := OrdS.d0 h9 hord; have w1 := OrdS.w1 h9 hord; have m1 := OrdS.m1 hord; have d1 := OrdS.d1 h9 hord; have w2 := OrdS.w2 h9 hord; have m2 := OrdS.m2 hord; have d2 := OrdS.d2 h9 hord; have w3 := OrdS.w3 h9 hord; have m3 := OrdS.m3 hord; have d3 := OrdS.d3 h9 hord; have w4 := OrdS.w4 h9 hord; have m4 := OrdS.m4 hord; have d4 := OrdS.d4 h9 hord; have w5 := OrdS.w5 h9 hord; have m5 := OrdS.m5 hord; have d5 := OrdS.d5 h9 hord; have w6 := OrdS.w6 h9 hord; have m6 := OrdS.m6 hord; have d6 := OrdS.d6 h9 hord; have w7 := OrdS.w7 h9 hord; have m7 := OrdS.m7 hord; have d7 := OrdS.d7 h9 hord; have w8 := OrdS.w8 h9 hord; have m8 := OrdS.m8 hord; have d8 := OrdS.d8 h9 hord; have mw := OrdS.mw hord; have md := OrdS.md hord; have dw := OrdS.dw h9 hord
  have ha := h.lt
  have hmvl : mv.length = 32 := by rw [hmv.length, hml]
  k_fill
  intro p loose mean mg mb dp un gd cn cs a ccd cl base g L L' o s RR Q B5 X5 T5 hk hd' hu F5 N5 hQ
  unfold setEnv
  generalize hsc : setScope = sc
  generalize hb : setFor = b
  conv at hsc => lhs; whnf
  conv at hb => lhs; whnf
  subst hsc
  subst hb
  simp only [setLed, List.cons_append, List.nil_append] at N5
  k_steps
  refine unhold ?_
  refine For_walk F5 rfl rfl rfl ?_
  refine cutR (nw := (I, oI) :: setLed w.params R ln tl pv k vs n wt mk dr wv mv dv kw km kd) (fun a o => I < a ∧ ∃ s0 t1 t2, (s0 = 1 ∨ s0 = -1) ∧ o = W.listOf #[.int s0 t1, .int (-s0) t2] 0) F5 N5 (fun _ h => h) ?_ ?_
  · k_steps
    · exact RefOut.intro (by k_asm) (by k_asm) (by kxw_bool) ⟨by rename I < _ ∧ _ => z9; exact z9.1, -1, _, _, .inr rfl, rfl⟩
    · exact RefOut.intro (by k_asm) (by k_asm) (by kxw_bool) ⟨by rename _ < _ ∧ I < _ ∧ _ => z9; exact z9.2.1, 1, _, _, .inl rfl, rfl⟩
  intro lx ol hh4 tk4 hP4 F6 N7
  obtain ⟨b1, s0, t1, t2, hs0, e⟩ := hP4
  subst e
  clear F5 N5
  k_steps
  refine unhold ?_
  refine' for_list (SideJ w.params R wt mk dr og tg q tq d td hv th ln tl vs n dv kd ms ws s0 lx t1 t2 I oI) rfl F6 N7 (.mk o pv wv mv k kw km rfl rfl ?w1 ?w2 ?w3) ?jS ?turn ?fin
  case w1 => simp only [sideW]; split <;> exact hpv
  case w2 => simp only [sideW]; split <;> exact hwv
  case w3 => simp only [sideM]; split <;> exact hmv
  case jS =>
    intro i m nw hJ
    obtain ⟨o', pv', wv', mv', k', kw', km', em, en, _, _, _⟩ := hJ
    subst en
    exact ⟨0, .head _⟩
  case fin =>
    intro m nw h' tk hJ F N
    obtain ⟨o', pv', wv', mv', k', kw', km', em, en, j1, j2, j3⟩ := hJ
    subst em
    subst en
    exact wpAny_execs_nil (hQ s0 h' tk o' pv' wv' mv' k' kw' km' hs0 F (fun p hp => N p (.tail _ hp)) j1 j2 j3)
  case turn =>
    intro g2 I2 hI2 i m nw v h' tk oI2 hi hJ hP F N off
    obtain ⟨o', pv', wv', mv', k', kw', km', em, en, j1, j2, j3⟩ := hJ
    subst em
    subst en
    have hI3 : @LT.lt Nat _ lx I2 := hI2 (lx, _) (.head _)
    obtain ⟨sd, u, ev, esd⟩ := two_items hi hP
    subst ev
    have hl3 : (sideM ms q s0 hv i).length = 32 := by
      simp only [sideM, addL]; split <;> (try split) <;> (try split) <;> simp [hml]
    have hsd : -1 ≤ sd ∧ sd ≤ 1 := by (first | lia | omega)
    simp only [setLed, List.cons_append, List.nil_append] at N
    clear N7 F6
    k_steps
    · refine unhold ?_
      have hs1 : sd = 1 ∨ sd = -1 := by (first | lia | omega)
      have hwa : ap (sd * (og + q + sd)).natAbs = wd og (q + sd) := by
        rw [show og + q + sd = og + (q + sd) by (first | lia | omega)]
        exact wd_abs (by (first | lia | omega)) hs1
      have hwl3 : (ap (sd * (og + q + sd)).natAbs).length ≤ 1000 := by
        rw [hwa]; exact Nat.le_trans (wd_len hog ⟨by (first | lia | omega), by (first | lia | omega)⟩) (by decide)
      rename Fr _ _ _ _ => F6
      rename News _ _ _ _ => N6
      refine' Does.use (lword w (sd * (og + q + sd)) _ hwl3) B5 F6 X5 N6 T5 ?hk ?hd ?hu ?hp ?hr ?_
      case hk => rfl
      case hd => ktr_room
      case hu => ktr_units
      case hp => kxw_bool
      case hr => kin_val
      clear F6 N6
      intro n0 v post h8 tk8 l0 hP F8 N8
      obtain ⟨tk7, e, e2⟩ := hP
      subst e
      subst e2
      clear l0
      rw [hwa]
      dsimp only [List.nil_append] at N8
      k_steps
      refine unhold ?_
      rename Fr _ _ _ _ => F6
      rename News _ _ _ _ => N6
      refine' Does.use (queueP w R.x R.d R.pb wt R.st R.t tl ln og hog.1 (sideW ws q s0 hv i) ?wb ?wl (q + sd) (by (first | lia | omega)) pv' wv' j1 j2 k' kw' tk7 ⟨by (first | lia | omega), by (first | lia | omega), by (first | lia | omega)⟩) B5 F6 X5 N6 T5 ?hk ?hd ?hu ?hp ?hr ?_
      case wb => exact fun p hp => (sideW_mem hwb (by omega) hp).1
      case wl => exact Nat.le_trans (sideW_len ws q s0 hv i) (by (first | lia | omega))
      case hk => rfl
      case hd => ktr_room
      case hu => ktr_units
      case hp => kxw_bool
      case hr => kin_val
      clear F6 N6
      intro n0 v post h9 tk9 l0 hP F9 N9
      obtain ⟨e, pv2, wv2, k2, kw2, j4, j5, e2⟩ := hP
      subst e
      subst e2
      clear l0
      dsimp only [List.cons_append, List.nil_append] at N9
      k_steps
      rename IntsAre _ _ => j6
      rename Fr _ _ _ _ => F10
      rename News _ _ _ _ => N10
      rw [sideW_succ (by assumption) esd] at j4 j5
      have j7 := sideM_succ (ms := ms) (q := q) (s := s0) (sd := sd) (h := hv) (i := i) (by assumption) esd
      unfold addL at j7
      rw [j7] at j6
      have F11 := Fr.congr (m' := frmU (fun y => if y = Str.ofString "side" then some (.int sd u) else frmU o' R.x wt mk dr og tg q tq d td hv th y) R.x wt mk dr og tg q tq d td hv th) F10 (by walk_at "m frm")
      refine unhold (TurnEnd.intro F11 N10 (by kxw_bool) ?off (.mk _ pv2 wv2 _ k2 kw2 _ rfl rfl j4 j5 j6))
      case off => exact off_same off rfl
    · rename hv = 0 => hz
      have e1 : sideW ws q s0 hv (i + 1) = sideW ws q s0 hv i := by rw [hz, (side0 (ms := ms) (i + 1)).2, (side0 (ms := ms) i).2]
      have e2 : sideM ms q s0 hv (i + 1) = sideM ms q s0 hv i := by rw [hz, (side0 (ws := ws) (i + 1)).1, (side0 (ws := ws) i).1]
      have F11 := Fr.congr (m' := frmU (fun y => if y = Str.ofString "side" then some (.int sd u) else frmU o' R.x wt mk dr og tg q tq d td hv th y) R.x wt mk dr og tg q tq d td hv th) F (by walk_at "m frm")
      refine unhold (TurnEnd.intro F11 N (by kxw_bool) (off_same off rfl) (.mk _ pv' wv' mv' k' kw' km' rfl rfl (by rw [e1]; exact j1) (by rw [e1]; exact j2) (by rw [e2]; exact j3)))

end
section
theorem startPar1 : True := by
  w_top off
  k_with "Par1 0" => (simp only [PySem.sizeLine_eq, Str.length_append, tx_len, sgn_len, len_empty, List.length_append, List.length_cons, List.length_nil]; (first | lia | omega))
  k_with "Par1 1" => (
    intro y
    by_cases h1 : y = Str.ofString "c"; · subst h1; rfl
    by_cases h2 : y = Str.ofString "i"; · subst h2; first | rfl | (refine congrArg some (congrArg (fun z => Value.int z _) ?_); first | assumption | (first | lia | omega))
    by_cases h3 : y = Str.ofString "dirname"; · subst h3; first | rfl | (refine congrArg some (congrArg (fun z => Value.str z _) ?_); first | exact tx_app _ _ | exact tx_empty _ | exact tx_nil | assumption)
    by_cases h4 : y = Str.ofString "resp"; · subst h4; rfl
    by_cases h5 : y = Str.ofString "n"; · subst h5; first | rfl | (refine congrArg some (congrArg (fun z => Value.int z _) ?_); first | assumption | (first | lia | omega))
    first | (simp only [frmP, if_neg h1, if_neg h2, if_neg h3, if_neg h4, if_neg h5]; done) | (simp only [frmP, if_neg h1, if_neg h2, if_neg h3, if_neg h4, if_neg h5]; show List.lookup y [(Str.ofString "resp", _)] = none; rw [List.lookup_cons, beq_eq_false_iff_ne.mpr h4]; rfl))
  trivial
noncomputable abbrev frmP (cv : Option Value) (i : Int) (ti : Tok) (d : Str) (td : Tok) (x : Str) (t : Tok) (n : Int) (tn : Tok) : Str → Option Value := fun y =>
  if y = Str.ofString "c" then cv else if y = Str.ofString "i" then some (.int i ti) else if y = Str.ofString "dirname" then some (.str d td) else if y = Str.ofString "resp" then some (.str x t) else if y = Str.ofString "n" then some (.int n tn) else none
inductive PaI (g : Heap) (L' : Addr) (s0 : Shared) (l : List Nat) (t : Tok) (goal : List Nat) : Nat → Shared → Prop
  | go {k i : Nat} {h tk cv ti td tn D} : i + k = l.length → D.length ≤ i → Fr g L' h (frmP cv (i : Int) ti (tx D) td (tx l) t (l.length : Int) tn) → News g L' h [] → D ++ unq (l.drop i) = goal → PaI g L' s0 l t goal k { s0 with heap := h, toks := tk }
local macro_rules | `(tactic| walk_at "exec While Compare cons nil") => `(tactic| refine hold ?_)
local macro_rules | `(tactic| size_fits) => `(tactic| k_extra "Par1 0")
local macro_rules | `(tactic| walk_at "m frm") => `(tactic| k_extra "Par1 1")
theorem pars (w : World) (l : List Nat) (t : Tok) (hz : l.length ≤ 10000) (h3 : l.take 3 = [50, 53, 55]) (h5 : 5 ≤ l.length) :
   Does row.prog w (hd.heap_39 w.params) 8 80 46 [.str (tx l) t] [] (fun v post => ∃ t, v = .str (tx (p257 l)) t ∧ post = []) := by
  have e1 : (Txt.slice (tx l) none (some 3) == Str.ofString "257") = true := by
    rw [show (3 : Int) = ((3 : Nat) : Int) from rfl, sl_to, h3]; decide +kernel
  have hlen : (tx l).length = l.length := tx_len l
  k_fill
  intro p loose mean mg mb dp un gd cn cs a ccd cl outer A₀ base h₀ L m s RR B F X N T hk hd' hu hret
  k_dflt walk_at "m enter"
  rename_i g' L' hh0 FG FF NN B' X' T' l0 l1
  have e2 : Txt.slice (tx l) (some 3) (some 5) = tx ((l.drop 3).take 2) := sl_ij l 3 5 (by decide) h5
  have e3 : Str.ofString " \"" = tx [32, 34] := by decide +kernel
  k_steps
  · rename (_ != _) = true => hb
    rw [bne, e1] at hb
    cases hb
  · rename (Txt.slice (tx l) (some 3) (some 5) != _) = true => hb
    rw [e2, e3, bne, tx_inj] at hb
    exact Left.intro (by k_asm) (by k_asm) (by kxw_bool) ⟨_, by rw [p257, if_neg (by simpa using hb)]; rfl, rfl⟩
  refine unhold ?_
  rename (Txt.slice (tx l) (some 3) (some 5) != _) = false => hb
  rw [e2, e3, bne, tx_inj] at hb
  have hP : p257 l = unq (l.drop 5) := by rw [p257, if_pos (by simpa using hb)]
  generalize hG : unq (l.drop 5) = G at hP
  clear hb
  rename Fr _ _ _ _ => F1
  rename News _ _ _ _ => N1
  have F2 := Fr.congr (m' := frmP none ((5 : Nat) : Int) _ (tx []) _ (tx l) t (l.length : Int) _) F1 (by walk_at "m frm")
  clear F1
  refine While_rule (PaI g' L' s l t G) (l.length - 5) (.go (by (first | lia | omega)) (by simp) F2 N1 (by rw [List.nil_append]; exact hG)) ?_
  clear F2 N1 hG
  intro n s1 hI
  cases hI with
  | go hik hD F3 N3 e3 =>
    rename_i i _ _ _ _ _ _ D
    cases n with
    | zero =>
      have hd : l.drop i = [] := List.drop_eq_nil_of_le (by (first | lia | omega))
      rw [hd, unq_nil, List.append_nil] at e3
      subst e3
      k_steps
      exact Left.intro (by k_asm) (by k_asm) (by kxw_bool) ⟨_, by rw [hP], rfl⟩
    | succ n =>
      obtain ⟨c, hc⟩ : ∃ c, l[i]? = some c := ⟨_, List.getElem?_eq_getElem (by (first | lia | omega))⟩
      have hic := it_at hc
      have hdc := drop_at hc
      rw [hdc] at e3
      k_steps
      all_goals first | (exfalso; (first | lia | omega); done) | skip
      · rename (_ == _) = true => hb
        rw [hic, is34] at hb
        have hb' := of_decide_eq_true hb
        subst hb'
        have hd : l.drop (i + 1) = [] := List.drop_eq_nil_of_le (by (first | lia | omega))
        rw [hd, unq_end, List.append_nil] at e3
        subst e3
        exact Left.intro (by k_asm) (by k_asm) (by kxw_bool) ⟨_, by rw [hP], rfl⟩
      · rename (Txt.item (tx l) (i : Int) == _) = true => hb
        rw [hic, is34] at hb
        have hb' := of_decide_eq_true hb
        subst hb'
        obtain ⟨d, hd⟩ : ∃ d, l[i + 1]? = some d := ⟨_, List.getElem?_eq_getElem (by (first | lia | omega))⟩
        have hid := it_at hd
        rename (_ != _) = true => hb2
        rw [show ((i : Int) + 1) = ((i + 1 : Nat) : Int) by (first | lia | omega), hid, bne, is34] at hb2
        rw [drop_at hd, unq_stop _ (by simpa using hb2), List.append_nil] at e3
        subst e3
        exact Left.intro (by k_asm) (by k_asm) (by kxw_bool) ⟨_, by rw [hP], rfl⟩
      · rename (Txt.item (tx l) (i : Int) == _) = true => hb
        rw [hic, is34] at hb
        have hb' := of_decide_eq_true hb
        subst hb'
        obtain ⟨d, hd⟩ : ∃ d, l[i + 1]? = some d := ⟨_, List.getElem?_eq_getElem (by (first | lia | omega))⟩
        have hid := it_at hd
        rename (_ != _) = false => hb2
        rw [show ((i : Int) + 1) = ((i + 1 : Nat) : Int) by (first | lia | omega), hid, bne, is34] at hb2
        have hb3 : d = 34 := by simpa using hb2
        subst hb3
        rw [drop_at hd, unq_two] at e3
        rename Fr _ _ _ _ => F9
        rw [hic] at F9
        have F8 := Fr.congr (m' := frmP (some (.str (sgn 34) _)) ((i + 1 + 1 : Nat) : Int) _ (tx (D ++ [34])) _ (tx l) t (l.length : Int) _) F9 (by walk_at "m frm")
        refine unhold ⟨n - 1, by (first | lia | omega), .go (i := i + 1 + 1) (by (first | lia | omega)) (by rw [List.length_append, List.length_singleton]; (first | lia | omega)) F8 (fun _ h => nomatch h) (by rw [List.append_assoc]; exact e3)⟩
      · rename (Txt.item (tx l) (i : Int) == _) = false => hb
        rw [hic, is34] at hb
        rw [unq_cons _ (of_decide_eq_false hb)] at e3
        rename Fr _ _ _ _ => F9
        rw [hic] at F9
        have F8 := Fr.congr (m' := frmP (some (.str (sgn c) _)) ((i + 1 : Nat) : Int) _ (tx (D ++ [c])) _ (tx l) t (l.length : Int) _) F9 (by walk_at "m frm")
        refine unhold ⟨n, by (first | lia | omega), .go (i := i + 1) (by (first | lia | omega)) (by rw [List.length_append, List.length_singleton]; (first | lia | omega)) F8 (fun _ h => nomatch h) (by rw [List.append_assoc]; exact e3)⟩

end
section
theorem startTold1 : True := by
  w_top off
  k_with "Told1 0" => (k_here; (with_reducible show wpAny _ _ (call (Value.type _) [Value.ref _]) _ _ _); k_dflt (refine' strGot ?z9X ?z9F ?z9N ?z9G ?z9u ?z9s ?z9m ?_; (case z9X => k_asm); (case z9F => k_asm); (case z9G => assumption); (case z9N => assumption); (case z9u => ktr_units); (case z9s => k_is); (case z9m => k_is); k_whole))
  trivial
local macro_rules | `(tactic| walk_at "zz none") => `(tactic| fail "zz none")
local macro_rules | `(tactic| walk_at "zz none") => `(tactic| fail "zz none")
local macro_rules | `(tactic| walk_at "zz none") => `(tactic| fail "zz none")
local macro_rules | `(tactic| walk_at "exec While Compare cons nil") => `(tactic| refine hold ?_)
local macro_rules | `(tactic| walk_at "call type:str") => `(tactic| k_extra "Told1 0")
theorem told_bad (w : World) (l : List Nat) (t : Tok) (hz : l.length ≤ 10000) (h3 : l.take 3 ≠ [50, 53, 55])
   : ∀ {p : Program} {loose : List Str} {mean : ExcName → Option Value} {mg mb : Str → Option Value} {dp un : Nat} {gd : Option (List Code)} {cn : Str} {cs : Scope} {a : Addr} {ccd : Value} {outer : List Env} {A₀ : Around} {base h₀ : Heap} {L : Addr} {m : Str → Option Value} {s : Shared} {RR : Result → Shared → Prop} {news : List (Addr × Obj)}
   (_ : Below A₀ base outer h₀) (_ : Fr h₀ L s.heap m) (_ : (hd.heap_39 w.params).In h₀) (_ : News h₀ L s.heap news) (_ : Top p loose mean mg mb h₀) (_ : (hd.heap_39 w.params).In base) (_ : Top p loose mean mg mb base) (_ : W.KtsDicts (outer.filterMap (·.frame)) h₀) (_ : cs.kind = .function) (_ : dp + 8 < recursionLimit) (_ : un + 80 < cLine)
   (_ : ∀ kg a n h' tk, W.KtsTurn (outer.filterMap (·.frame)) h₀ kg → Fr kg L h' m → News kg L h' ((a, listOf #[.str (tx l) t] n) :: news) → (∀ q ∈ news, q.1 < a) → Below A₀ base outer kg → (hd.heap_39 w.params).In kg → Top p loose mean mg mb kg → W.KtsDicts (outer.filterMap (·.frame)) kg → RR (.ok (.ret (.ref a))) { s with heap := h', toks := tk }),
   codeAny (model row.prog w) (ktrTop dp un gd cn cs L a ccd [] outer) (.call (.ref 121) ⟨[.str (tx l) t], []⟩) RR s := by
  have e1 : (Txt.slice (tx l) none (some 3) == Str.ofString "257") = false := by
    rw [show (3 : Int) = ((3 : Nat) : Int) from rfl, sl_to, show Str.ofString "257" = tx [50, 53, 55] by decide +kernel, tx_inj, decide_eq_false h3]
  have hlen : (tx l).length = l.length := tx_len l
  k_fill
  intro p loose mean mg mb dp un gd cn cs a ccd outer A₀ base h₀ L m s RR news B F X N T XB TB D hk hd' hu hret
  refine' code_defS ?k1 ?k2 ?k3 ?k4 ?k5 ?XB ?TB ?D ?T0 ?kA ?k6 ?k7 ?k8 ?k9 ?kB ?_ ?cK ?c2 ?c3 ?c4 ?c5
  case kA => exact rfl
  case k2 => exact F
  case k1 => exact B
  case XB => exact XB
  case TB => exact TB
  case D => exact D
  case T0 => exact KtsTurn.refl
  case k3 => exact X
  case k4 => exact N
  case k5 => exact T
  case k6 => k_is
  case k7 => k_is
  case k8 => ktr_room
  case k9 => exact BindsTo.of_eq rfl
  case kB => exact locs rfl
  case cK => exact hk
  case c2 => exact rfl
  case c3 => exact rfl
  case c4 => exact rfl
  case c5 => decide
  k_whole
  intro g' L' h' FG' F' N' B' X' T' D'
  try dsimp only
  try k_fold
  k_steps
  all_goals first | (rename (Txt.slice (tx l) none (some 3) != _) = false => hb; rw [bne, e1] at hb; cases hb; done) | skip
  apply hret <;> assumption
local macro_rules | `(tactic| walk_at "call ref") => `(tactic| (k_here; k_dflt (
   (refine' Does.use (pars _ _ _ ?z ?y ?x) ?B ?F ?X ?N ?T ?hk ?hd ?hu ?hp ?hr ?_; walk_at "m args"; (case z => assumption); (case y => assumption); (case x => assumption); intro n0 v post h' tk' l0 hP F' N'; obtain ⟨t9, e9, e8⟩ := hP; subst e9; subst e8; clear l0; (try dsimp only [List.cons_append, List.nil_append] at N'); (try k_sweep)))))
theorem told_ok (w : World) (l : List Nat) (t : Tok) (hz : l.length ≤ 10000) (h3 : l.take 3 = [50, 53, 55]) (h5 : 5 ≤ l.length) :
   Does row.prog w (hd.heap_39 w.params) 16 160 121 [.str (tx l) t] [] (fun v post => ∃ t, v = .str (tx (p257 l)) t ∧ post = []) := by
  k_fill
  intro p loose mean mg mb dp un gd cn cs a ccd cl outer A₀ base h₀ L m s RR B F X N T hk hd' hu hret
  k_dflt walk_at "m enter"
  k_steps
  exact Left.intro (by k_asm) (by k_asm) (by kxw_bool) ⟨_, rfl, rfl⟩

end
section
theorem startTail1 : True := by
  w_top off
  trivial
local macro_rules | `(tactic| walk_at "eval IfExp") => `(tactic| refine hold ?_)
local macro_rules | `(tactic| walk_at "call ref") => `(tactic| refine hold ?_)
local macro_rules | `(tactic| walk_at "execs cons For nil") => `(tactic| refine hold ?_)
theorem others_ok (i : Nat) : ∀ c ∈ others.getD i [], c < 128 := getD_all (P := fun x => ∀ c ∈ x, c < 128) (by decide) (by decide) i
theorem rep_ok {a w b : List Nat} {m : Nat} (ha : ∀ c ∈ a, c < 128) (hw : ∀ c ∈ w, c < 128) (hb : ∀ c ∈ b, c < 128) : ∀ c ∈ a ++ List.replicate m 34 ++ w ++ b, c < 128 := by
  intro c hc
  rcases List.mem_append.mp hc with hc | hc
  · rcases List.mem_append.mp hc with hc | hc
    · rcases List.mem_append.mp hc with hc | hc
      · exact ha c hc
      · rw [List.eq_of_mem_replicate hc]; decide
    · exact hw c hc
  · exact hb c hc
theorem set_bd {ms : List Int} {i : Nat} {v : Int} (h : ∀ m ∈ ms, 0 ≤ m ∧ m ≤ 100) (hv : 0 ≤ v ∧ v ≤ 1) : ∀ m ∈ ms.set i v, 0 ≤ m ∧ m ≤ 1000 := by
  intro m hm
  rcases List.mem_or_eq_of_mem_set hm with h1 | h1
  · have := h m h1; (first | lia | omega)
  · (first | lia | omega)
theorem sideP {Inv : Nat → List Int → List Int → Prop} (hInv : PInv Inv) {t : Nat} {ms ws : List Int} {q mq sd : Int} (hi : Inv t ms (q :: ws)) (hm : ms.getD q.toNat 0 = mq) (h0 : 0 ≤ mq) (hs : sd = 1 ∨ sd = -1) :
    ∃ ws' ms', sideW ws q sd ((mq.toNat / 2 : Nat) : Int) 2 = ws' ∧ sideM (ms.set q.toNat (mq % 2)) q sd ((mq.toNat / 2 : Nat) : Int) 2 = ms' ∧ Inv (t + 1) ms' ws' := by
  have he : ((mq.toNat / 2 : Nat) : Int) = mq / 2 := by (first | lia | omega)
  rw [he]
  by_cases hz : mq / 2 = 0
  · refine ⟨_, _, by rw [hz, (side0 (ms := ms) 2).2], by rw [hz, (side0 (ws := ws) 2).1], ?_⟩
    have := hInv.rest hi (by rw [hm]; exact hz)
    rw [hm] at this
    exact this
  · refine ⟨_, _, rfl, rfl, ?_⟩
    have := hInv.fire hi hs (by rw [hm]; (first | lia | omega))
    rw [hm] at this
    unfold fireL at this
    simp only [hm] at this
    unfold sideM sideW addL
    rw [if_neg hz, if_neg (by decide), if_neg (by decide), if_neg hz, if_neg (by decide), if_neg (by decide)]
    exact this
theorem mod2_0 {m : Int} (h : 0 ≤ m) (e : decide (m.toNat % 2 = 0) = true) : (0 : Int) = m % 2 := by have := of_decide_eq_true e; (first | lia | omega)
theorem mod2_1 {m : Int} (h : 0 ≤ m) (e : decide (m.toNat % 2 = 0) = false) : (1 : Int) = m % 2 := by have := of_decide_eq_false e; (first | lia | omega)
theorem tail (w : World) (Inv : Nat → List Int → List Int → Prop) (hInv : PInv Inv) (R : RdA) (h : R.Ok) (wt mk dr : Nat) (hord : OrdS R wt mk dr) (og : Int) (tg : Tok) (hog : 0 ≤ og ∧ og < 3000) (ms ws : List Int) (dv : List Value) (pv wv mv vs : List Value) (t : Nat) (q : Int) (hi : Inv t ms (q :: ws)) (hpv : StrsAre pv (wds og ws)) (hwv : StrsAre wv (wds og ws)) (hmv : IntsAre mv ms) (ln : Int) (tl : Tok) (k n kw km kd : Nat)
    (beg tail : List Nat) (hut : unq tail = []) (htc : ∀ c ∈ tail, c < 128) (htl : tail.length ≤ 10) (d dd : Int) (hd0 : 0 ≤ d) (hbeg : (dd = 0 ∧ beg = [50, 53, 55, 32, 34]) ∨ (dd = 1 ∧ t < 7 ∧ ∃ i, i < 5 ∧ beg = others.getD i []) ∨ (dd = 2 ∧ t < 7 ∧ ∃ i, i < 4 ∧ beg = openings.getD i [])) (hbl : beg.length ≤ 10) (tt tw tq td tdd tr : Tok) (I : Nat) (oI : Obj) (hIw : wt < I) :
    ∀ {p : Program} {loose : List Str} {mean : ExcName → Option Value} {mg mb : Str → Option Value} {dp un : Nat} {gd : Option (List Code)} {cn : Str} {cs : Scope} {a : Addr} {ccd : Value} {cl : List (Str × Addr)} {base g : Heap} {L L' : Nat} {o : Str → Option Value} {s : Shared} {RR : Result → Shared → Prop} {Q : Flow → Shared → Prop}
   (_ : Below (ktrTop dp un gd cn cs L a ccd cl []) base [envX cn cs L a ccd cl] g) (_ : (hd.heap_39 w.params).In g) (_ : Top p loose mean mg mb g) (_ : W.KtsDicts (List.filterMap (fun x => x.frame) [envX cn cs L a ccd cl]) g) (_ : (hd.heap_39 w.params).In base) (_ : Top p loose mean mg mb base) (_ : cs.kind = .function) (_ : dp + 32 < recursionLimit) (_ : un + 320 < cLine)
   (_ : Fr g L' s.heap (frmT o R.x wt mk dr og tg t tt (tx (wd og q)) tw q tq d td dd tdd (tx (beg ++ List.replicate (ms.getD q.toNat 0).toNat 34 ++ wd og q ++ tail)) tr)) (_ : News g L' s.heap ((I, oI) :: setLed w.params R ln tl pv k vs n wt mk dr wv mv dv kw km kd))
   (_ : ∀ f g' h' tk o' ms' ws' pv' wv' mv' k' kw' km', (f = .next ∨ f = .cont) → W.KtsTurn [L] g g' → Below (ktrTop dp un gd cn cs L a ccd cl []) base [envX cn cs L a ccd cl] g' → (hd.heap_39 w.params).In g' → Top p loose mean mg mb g' → W.KtsDicts (List.filterMap (fun x => x.frame) [envX cn cs L a ccd cl]) g' → Fr g' L' h' (frmS o' R.x wt mk dr og tg) → News g' L' h' ((I, oI) :: setLed w.params R ln tl pv' k' vs n wt mk dr wv' mv' dv kw' km' kd) → Inv (t + 1) ms' ws' → StrsAre pv' (wds og ws') → StrsAre wv' (wds og ws') → IntsAre mv' ms' → Q f { s with heap := h', toks := tk }),
   wpAny (model row.prog w) ((ktrTop dp un gd cn cs L a ccd cl []).deeper (setEnv L')) (execs setTail (setEnv L')) Q (fun e s' => wpAny (model row.prog w) ((ktrTop dp un gd cn cs L a ccd cl []).deeper (setEnv L')) (leaving (setEnv L') e) (fun _ s'' => RR (.error e) s'') (fun e' s'' => RR (.error e') s'') s') s := by
  have h9 : RdA.Apart _ := RdA.Ok.lt (by assumption); have n01 := RdA.n01 h9; have n02 := RdA.n02 h9; have n03 := RdA.n03 h9; have n04 := RdA.n04 h9; have n05 := RdA.n05 h9; have n06 := RdA.n06 h9; have n07 := RdA.n07 h9; have n08 := RdA.n08 h9; have n12 := RdA.n12 h9; have n13 := RdA.n13 h9; have n14 := RdA.n14 h9; have n15 := RdA.n15 h9; have n16 := RdA.n16 h9; have n17 := RdA.n17 h9; have n18 := RdA.n18 h9; have n23 := RdA.n23 h9; have n24 := RdA.n24 h9; have n25 := RdA.n25 h9; have n26 := RdA.n26 h9; have n27 := RdA.n27 h9; have n28 := RdA.n28 h9; have n34 := RdA.n34 h9; have n35 := RdA.n35 h9; have n36 := RdA.n36 h9; have n37 := RdA.n37 h9; have n38 := RdA.n38 h9; have n45 := RdA.n45 h9; have n46 := RdA.n46 h9; have n47 := RdA.n47 h9; have n48 := RdA.n48 h9; have n56 := RdA.n56 h9; have n57 := RdA.n57 h9; have n58 := RdA.n58 h9; have n67 := RdA.n67 h9; have n68 := RdA.n68 h9; have n78 := RdA.n78 h9
  have w0 := OrdS.w0 h9 hord; have m0 := OrdS.m0 hord; have d0 := OrdS.d0 h9 hord; have w1 := OrdS.w1 h9 hord; have m1 := OrdS.m1 hord; have d1 := OrdS.d1 h9 hord; have w2 := OrdS.w2 h9 hord; have m2 := OrdS.m2 hord; have d2 := OrdS.d2 h9 hord; have w3 := OrdS.w3 h9 hord; have m3 := OrdS.m3 hord; have d3 := OrdS.d3 h9 hord; have w4 := OrdS.w4 h9 hord; have m4 := OrdS.m4 hord; have d4 := OrdS.d4 h9 hord; have w5 := OrdS.w5 h9 hord; have m5 := OrdS.m5 hord; have d5 := OrdS.d5 h9 hord; have w6 := OrdS.w6 h9 hord; have m6 := OrdS.m6 hord; have d6 := OrdS.d6 h9 hord; have w7 := OrdS.w7 h9 hord; have m7 := OrdS.m7 hord; have d7 := OrdS.d7 h9 hord; have w8 := OrdS.w8 h9 hord; have m8 := OrdS.m8 hord; have d8 := OrdS.d8 h9 hord; have mw := OrdS.mw hord; have md := OrdS.md hord; have dw := OrdS.dw h9 hord
  obtain ⟨q1, q2, q3, q4, q5⟩ := hInv.len hi
  have hq := q3 q (.head _)
  have hpl : pv.length = ws.length := by rw [hpv.length]; simp [wds]
  have hwl : wv.length = ws.length := by rw [hwv.length]; simp [wds]
  have hml : mv.length = 32 := by rw [hmv.length, q1]
  have hcl : ws.length + 1 ≤ 100 := q2
  have ha := h.lt
  have hwd : (wd og q).length ≤ 3 := wd_len hog ⟨by (first | lia | omega), by (first | lia | omega)⟩
  have hwne : wd og q ≠ [] := wd_ne (by (first | lia | omega))
  have hw34 : ∀ c ∈ wd og q, c ≠ 34 := fun c hc => by have := wd_mem hc; (first | lia | omega)
  have hm : 0 ≤ ms.getD q.toNat 0 ∧ ms.getD q.toNat 0 ≤ 100 := q4 _ (by
    have : ms.getD q.toNat 0 = ms[q.toNat]'(by (first | lia | omega)) := by simp [List.getD, show q.toNat < ms.length by (first | lia | omega)]
    rw [this]; exact List.getElem_mem _)
  k_fill
  intro p loose mean mg mb dp un gd cn cs a ccd cl base g L L' o s RR Q B5 X5 T5 D5 XB TB hk hd' hu F5 N5 hQ
  unfold setEnv
  generalize hsc : setScope = sc
  generalize hb : setTail = b
  conv at hsc => lhs; whnf
  conv at hb => lhs; whnf
  subst hsc
  subst hb
  simp only [setLed, List.cons_append, List.nil_append] at N5
  generalize hmv0 : (ms.getD q.toNat 0) = mq at *
  rcases hbeg with ⟨e, e2⟩ | ⟨e, ht7, i, hi5, e2⟩ | ⟨e, ht7, i, hi4, e2⟩
  · subst e
    subst e2
    obtain ⟨k1, k2, k3⟩ := plain_take (m := mq.toNat) hw34 hwne hut
    have k4 : ([50, 53, 55, 32, 34] ++ List.replicate mq.toNat 34 ++ wd og q ++ tail).length ≤ 10000 := by
      simp only [List.length_append, List.length_replicate, List.length_cons, List.length_nil]; (first | lia | omega)
    generalize [50, 53, 55, 32, 34] ++ List.replicate mq.toNat 34 ++ wd og q ++ tail = lr at F5 k1 k2 k3 k4
    k_steps
    refine unhold ?_
    try dsimp only
    refine' Does.use (told_ok w lr tr k4 k1 k2) B5 F5 X5 N5 T5 ?hk ?hd ?hu ?hp ?hr ?_
    case hk => rfl
    case hd => ktr_room
    case hu => ktr_units
    case hp => kxw_bool
    case hr => kin_val
    clear F5 N5
    intro n0 v post h' tk' l0 hP F' N'
    obtain ⟨tk7, e, e2⟩ := hP
    subst e
    subst e2
    clear l0
    rw [k3]
    dsimp only [List.nil_append] at N'
    have he0 : ∀ c ∈ (if mq.toNat % 2 = 0 then wd og q else []), c ≠ 34 := by
      intro c hc
      by_cases h2 : mq.toNat % 2 = 0
      · rw [if_pos h2] at hc; exact hw34 c hc
      · rw [if_neg h2] at hc; cases hc
    have heq : decide ((if mq.toNat % 2 = 0 then wd og q else []) = wd og q) = decide (mq.toNat % 2 = 0) := by
      by_cases h2 : mq.toNat % 2 = 0
      · rw [if_pos h2]; simp [h2]
      · rw [if_neg h2]; simp [h2]; exact hwne
    have hel : (if mq.toNat % 2 = 0 then wd og q else []).length ≤ 3 := by
      by_cases h2 : mq.toNat % 2 = 0
      · rw [if_pos h2]; exact hwd
      · rw [if_neg h2]; exact Nat.zero_le _
    generalize (if mq.toNat % 2 = 0 then wd og q else []) = ee at k3 he0 heq hel
    have hct := count_marks (mq.toNat / 2) ee he0
    have hc1 := count34 (List.replicate (mq.toNat / 2) 34 ++ ee)
    rw [hct] at hc1
    have hlt : (tx (List.replicate (mq.toNat / 2) 34 ++ ee)).length = mq.toNat / 2 + ee.length := by
      rw [tx_len, List.length_append, List.length_replicate]
    have hsl : Txt.slice (tx (List.replicate (mq.toNat / 2) 34 ++ ee)) (some ((mq.toNat / 2 : Nat) : Int)) none = tx ee := by
      rw [sl_from, List.drop_append_of_le_length (by simp)]
      simp
    have hsw : (Txt.slice (tx (List.replicate (mq.toNat / 2) 34 ++ ee)) (some (Txt.count (tx (List.replicate (mq.toNat / 2) 34 ++ ee)) (Str.ofString "\""))) none == tx (wd og q)) = decide (mq.toNat % 2 = 0) := by
      rw [hc1, hsl, tx_inj, heq]
    generalize List.replicate (mq.toNat / 2) 34 ++ ee = td at *
    k_steps
    refine unhold ?_
    dsimp only
    rename Fr _ _ _ _ => F9
    rename News _ _ _ _ => N9
    refine cutI (nw := (I, oI) :: setLed w.params R ln tl pv k vs n wt mk dr wv mv dv kw km kd) (fun d => d = mq % 2) F9 N9 (by kxw_bool) ?_ ?_
    · refine IfExp_ ?_
      k_steps
      all_goals
        rename (Txt.slice _ _ _ == _) = _ => ae
        rw [hsw] at ae
      · exact IntOut.intro (by k_asm) (by k_asm) (by kxw_bool) (mod2_0 hm.1 ae)
      · exact IntOut.intro (by k_asm) (by k_asm) (by kxw_bool) (mod2_1 hm.1 ae)
    clear F9 N9
    intro d6 t6 h6 tk6 hP6 F9 N9
    subst hP6
    rw [hc1] at F9
    simp only [setLed, List.cons_append, List.nil_append] at N9
    k_steps
    refine unhold ?_
    dsimp only
    rename Fr _ _ _ _ => F9
    rename News _ _ _ _ => N9
    rename IntsAre _ _ => j9
    have N10 : News g L' _ ((I, oI) :: setLed w.params R ln tl pv k vs n wt mk dr wv _ dv kw _ kd) := fun p hp => N9 p (by revert p hp; kxw_bool)
    have F10 := Fr.toU F9 rfl rfl rfl rfl rfl rfl rfl rfl
    clear N9 F9
    refine' sides w R h wt mk dr hord og tg hog (ms.set q.toNat (mq % 2)) ws dv pv wv _ vs q hq ?a ?b ?c ?d hpv hwv j9 ln tl k n kw _ kd _ _ hd0 ?e _ _ _ I oI hIw B5 X5 T5 hk hd' hu F10 N10 ?_
    case a => rw [List.length_set, q1]
    case b => exact set_bd q4 (by (first | lia | omega))
    case c => (first | lia | omega)
    case d => exact fun p hp => by have := q3 p (.tail _ hp); (first | lia | omega)
    case e => (first | lia | omega)
    intro sd h' tk o' pv' wv' mv' k' kw' km' hs Fs Ns p1 p2 p3
    obtain ⟨ws', ms', e1, e2, hi'⟩ := sideP hInv hi hmv0 (by (first | lia | omega)) hs
    rw [e1] at p1 p2
    rw [e2] at p3
    exact hQ .next g h' tk _ ms' ws' pv' wv' mv' k' kw' km' (.inl rfl) W.KtsTurn.refl B5 X5 T5 D5 (Fr.toS Fs rfl rfl rfl rfl rfl) Ns hi' p1 p2 p3
  · subst e
    subst e2
    have h3 := bad_take (i := i) (m := mq.toNat) (t := tail) hi5 (fun c hc => (wd_mem hc).1) hwne
    have k4 : (others.getD i [] ++ List.replicate mq.toNat 34 ++ wd og q ++ tail).length ≤ 10000 := by
      simp only [List.length_append, List.length_replicate, List.length_cons, List.length_nil]; (first | lia | omega)
    have hlr : ∀ c ∈ others.getD i [] ++ List.replicate mq.toNat 34 ++ wd og q ++ tail, c < 128 := rep_ok (others_ok i) (fun c hc => by have := wd_mem hc; (first | lia | omega)) htc
    generalize others.getD i [] ++ List.replicate mq.toNat 34 ++ wd og q ++ tail = lr at F5 h3 k4 hlr
    k_steps
    refine unhold ?_
    try dsimp only
    refine wpAny_call ?_
    refine told_bad w lr tr k4 h3 B5 F5 X5 N5 T5 XB TB D5 ?hk ?hd ?hu ?_
    case hk => rfl
    case hd => ktr_room
    case hu => ktr_units
    intro kg aa na h' tk KT F' N' hlt B' X' T' D'
    k_lt hlt
    clear F5 N5
    k_steps
    refine' ne_one ?N ?a ?b ?ok ?hu rfl ?_
    case N => k_asm
    case a => k_mem
    case b => k_mem
    case ok => exact ok_tx fun c hc => Nat.lt_trans (hlr c hc) (by decide)
    case hu => ktr_units
    k_steps
    refine unhold ?_
    rename Fr _ _ _ _ => F6
    rename News _ _ _ _ => N6
    refine' Does.use (queueP w R.x R.d R.pb wt R.st R.t tl ln og hog.1 ws ?wb ?wl q (by (first | lia | omega)) pv wv hpv hwv k kw tw ⟨by (first | lia | omega), by (first | lia | omega), by (first | lia | omega)⟩) B' F6 X' N6 T' ?hk ?hd ?hu ?hp ?hr ?_
    case wb => exact fun p hp => by have := q3 p (.tail _ hp); (first | lia | omega)
    case wl => (first | lia | omega)
    case hk => rfl
    case hd => ktr_room
    case hu => ktr_units
    case hp => kxw_bool
    case hr => kin_val
    clear F6 N6
    intro n0 v post h9 tk9 l0 hP F9 N9
    obtain ⟨e, pv2, wv2, k2, kw2, j4, j5, e2⟩ := hP
    subst e
    subst e2
    clear l0
    dsimp only [List.cons_append, List.nil_append] at N9
    k_steps
    rename Fr _ _ _ _ => F9
    rename News _ _ _ _ => N9
    have N10 : News kg L' _ ((I, oI) :: setLed w.params R ln tl pv2 k2 vs n wt mk dr wv2 mv dv kw2 km kd) := fun p hp => N9 p (by revert p hp; kxw_bool)
    refine hQ .cont kg _ _ _ ms (qadd ws q) pv2 wv2 mv k2 kw2 km (.inr rfl) KT B' X' T' D' (Fr.toS F9 rfl rfl rfl rfl rfl) N10 (hInv.deed hi ht7) j4 j5 hmv
  · subst e
    subst e2
    obtain ⟨k1, k2, k3⟩ := good_take (i := i) (m := mq.toNat) (t := tail) (w := wd og q) hi4 hwne
    have k4 : (openings.getD i [] ++ List.replicate mq.toNat 34 ++ wd og q ++ tail).length ≤ 10000 := by
      simp only [List.length_append, List.length_replicate, List.length_cons, List.length_nil]; (first | lia | omega)
    generalize openings.getD i [] ++ List.replicate mq.toNat 34 ++ wd og q ++ tail = lr at F5 k1 k2 k3 k4
    k_steps
    refine unhold ?_
    try dsimp only
    refine' Does.use (told_ok w lr tr k4 k1 k2) B5 F5 X5 N5 T5 ?hk ?hd ?hu ?hp ?hr ?_
    case hk => rfl
    case hd => ktr_room
    case hu => ktr_units
    case hp => kxw_bool
    case hr => kin_val
    clear F5 N5
    intro n0 v post h' tk' l0 hP F' N'
    obtain ⟨tk7, e, e2⟩ := hP
    subst e
    subst e2
    clear l0
    rw [k3]
    dsimp only [List.nil_append] at N'
    k_steps
    refine unhold ?_
    rename Fr _ _ _ _ => F6
    rename News _ _ _ _ => N6
    refine' Does.use (queueP w R.x R.d R.pb wt R.st R.t tl ln og hog.1 ws ?wb ?wl q (by (first | lia | omega)) pv wv hpv hwv k kw tw ⟨by (first | lia | omega), by (first | lia | omega), by (first | lia | omega)⟩) B5 F6 X5 N6 T5 ?hk ?hd ?hu ?hp ?hr ?_
    case wb => exact fun p hp => by have := q3 p (.tail _ hp); (first | lia | omega)
    case wl => (first | lia | omega)
    case hk => rfl
    case hd => ktr_room
    case hu => ktr_units
    case hp => kxw_bool
    case hr => kin_val
    clear F6 N6
    intro n0 v post h9 tk9 l0 hP F9 N9
    obtain ⟨e, pv2, wv2, k2, kw2, j4, j5, e2⟩ := hP
    subst e
    subst e2
    clear l0
    dsimp only [List.cons_append, List.nil_append] at N9
    k_steps
    rename Fr _ _ _ _ => F9
    rename News _ _ _ _ => N9
    have N10 : News g L' _ ((I, oI) :: setLed w.params R ln tl pv2 k2 vs n wt mk dr wv2 mv dv kw2 km kd) := fun p hp => N9 p (by revert p hp; kxw_bool)
    refine hQ .cont g _ _ _ ms (qadd ws q) pv2 wv2 mv k2 kw2 km (.inr rfl) W.KtsTurn.refl B5 X5 T5 D5 (Fr.toS F9 rfl rfl rfl rfl rfl) N10 (hInv.deed hi ht7) j4 j5 hmv

end
section
theorem startSett1 : True := by
  w_top off
  k_with "Sett1 0" => ((with_reducible show wpAny _ _ (execs (Stmt.Assign [Expr.Name (Str.ofString "told") _] _ _ :: _) _) _ _ _); refine hold ?_)
  k_with "Sett1 1" => (
    intro y
    by_cases h1 : y = Str.ofString "reader"; · subst h1; rfl
    by_cases h2 : y = Str.ofString "waiting"; · subst h2; rfl
    by_cases h3 : y = Str.ofString "marks"; · subst h3; rfl
    by_cases h4 : y = Str.ofString "draws"; · subst h4; rfl
    by_cases h5 : y = Str.ofString "origin"; · subst h5; rfl
    simp only [frmS, if_neg h1, if_neg h2, if_neg h3, if_neg h4, if_neg h5]
    try exact rfl)
  k_with "Sett1 2" => ((with_reducible show wpAny _ _ (subscriptTail _ _ (Value.ref _) (Value.int _ _)) _ _ _); refine hold ?_)
  k_with "Sett1 3" => (k_here; (with_reducible show wpAny _ _ (binaryOp Operator.Mult (Value.str _ _) (Value.int _ _)) _ _ _); (refine mul_q (by (first | lia | omega)) (by (first | lia | omega)) ?_))
  k_with "Sett1 4" => (k_here; (with_reducible show wpAny _ _ (binaryOp Operator.Add (Value.str _ _) (Value.str _ _)) _ _ _); (refine add_tx ?z9z ?_; (case z9z => simp only [List.length_append, List.length_replicate, List.length_cons, List.length_nil]; (first | lia | omega))))
  trivial
local macro_rules | `(tactic| walk_at "zz none") => `(tactic| fail "zz none")
local macro_rules | `(tactic| walk_at "zz none") => `(tactic| fail "zz none")
local macro_rules | `(tactic| walk_at "zz none") => `(tactic| fail "zz none")
local macro_rules | `(tactic| walk_at "zz none") => `(tactic| fail "zz none")
local macro_rules | `(tactic| walk_at "eval IfExp") => `(tactic| refine hold ?_)
local macro_rules | `(tactic| walk_at "exec For Name Call cons nil") => `(tactic| refine hold ?_)
local macro_rules | `(tactic| walk_at "pyIter ref") => `(tactic| refine hold ?_)
local macro_rules | `(tactic| walk_at "call ref") => `(tactic| refine hold ?_)
local macro_rules | `(tactic| walk_at "execs cons Assign cons") => `(tactic| k_extra "Sett1 0")
local macro_rules | `(tactic| walk_at "m frm") => `(tactic| k_extra "Sett1 1")
local macro_rules | `(tactic| walk_at "subscriptTail") => `(tactic| k_extra "Sett1 2")
local macro_rules | `(tactic| walk_at "binaryOp Mult str int") => `(tactic| (k_extra "Sett1 3"; intro _ _))
local macro_rules | `(tactic| walk_at "binaryOp Add str str") => `(tactic| (k_extra "Sett1 4"; intro _ _))
structure GndS (prog : Program) (p : Program) (loose : List Str) (mean : ExcName → Option Value) (mg mb : Str → Option Value) (K : Frag) (A : Around) (base : Heap) (env : Env) (L : Addr) (g g' : Heap) : Prop where
  KT : KtsTurn [L] g g'
  B : Below A base [env] g'
  X : K.In g'
  T : Top p loose mean mg mb g'
  D : KtsDicts (List.filterMap (fun x => x.frame) [env]) g'
inductive SetJ (Inv : Nat → List Int → List Int → Prop) (G : Heap → Prop) (P : Params) (R : RdA) (wt mk dr : Nat) (og : Int) (tg : Tok) (xs : List Nat) (ln : Int) (dv : List Value) (kd : Nat) (t : Nat) (g' : Heap) (m : Str → Option Value) (nw : List (Addr × Obj)) : Prop
  | mk (o : Str → Option Value) (ms ws : List Int) (pv wv mv vs : List Value) (k n kw km : Nat) (tl : Tok) : G g' → m = frmS o R.x wt mk dr og tg → nw = setLed P R ln tl pv k vs n wt mk dr wv mv dv kw km kd → Inv t ms ws → StrsAre pv (wds og ws) → StrsAre wv (wds og ws) → IntsAre mv ms → StrsAre vs (xs.map sgn) →
    SetJ Inv G P R wt mk dr og tg xs ln dv kd t g' m nw
theorem Fr.of_m {g h : Heap} {L : Addr} {m m' : Str → Option Value} {x : Str} {v v' : Value} (F : Fr g L h (fun y => if y = x then some v else m y)) (e : m = m') (e2 : v = v') : Fr g L h (fun y => if y = x then some v' else m' y) := e ▸ e2 ▸ F
theorem News.of_n {g h : Heap} {L : Addr} {nw nw' : List (Addr × Obj)} {q : Addr × Obj} (N : News g L h (q :: nw)) (e : nw = nw') : News g L h (q :: nw') := e ▸ N
theorem off_of {nw nw' : List (Addr × Obj)} {I : Addr} (h : ∀ p ∈ nw, p.1 ≠ I) (e : nw = nw') : ∀ p ∈ nw', p.1 ≠ I := e ▸ h
theorem News.pw {g h : Heap} {L : Addr} {q : Addr × Obj} {P : Params} {R : RdA} {ln : Int} {tl : Tok} {pv pv' wv wv' vs mv dv : List Value} {k n wt mk dr kw km kd : Nat} (N : News g L h (q :: setLed P R ln tl pv k vs n wt mk dr wv mv dv kw km kd)) (e : pv = pv') (e2 : wv = wv') : News g L h (q :: setLed P R ln tl pv' k vs n wt mk dr wv' mv dv kw km kd) := e ▸ e2 ▸ N
theorem strs_nil {v : List Value} (h : StrsAre v []) : v = [] := by cases h; rfl
theorem strs_cons {v : List Value} {x : Str} {l : List Str} (h : StrsAre v (x :: l)) : ∃ t r, v = .str x t :: r ∧ StrsAre r l := by cases h with | cons _ t h => exact ⟨t, _, rfl, h⟩
set_option maxHeartbeats 4000000 in
theorem settled (w : World) (Inv : Nat → List Int → List Int → Prop) (hInv : PInv Inv) (R : RdA) (h : R.Ok) (wt mk dr : Nat) (hord : OrdS R wt mk dr) (og : Int) (tg : Tok) (hog : 0 ≤ og ∧ og < 3000) (ds ms ws : List Int) (dv : List Value) (hds : IntsAre dv ds) (hdl : ds.length = 7) (hd0 : ∀ d ∈ ds, 0 ≤ d) (pv wv mv vs : List Value) (h0 : Inv 0 ms ws) (hpv : StrsAre pv (wds og ws)) (hwv : StrsAre wv (wds og ws)) (hmv : IntsAre mv ms) (xs : List Nat) (hxs : ∀ z : Int, tok0 xs z = ([46], [], z)) (hxl : xs.length ≤ 2) (hvs : StrsAre vs (xs.map sgn)) (ln : Int) (hln : 0 ≤ ln ∧ ln ≤ 9000) (tl : Tok) (k n kw km kd : Nat) :
    ∀ {p : Program} {loose : List Str} {mean : ExcName → Option Value} {mg mb : Str → Option Value} {dp un : Nat} {gd : Option (List Code)} {cn : Str} {cs : Scope} {a : Addr} {ccd : Value} {cl : List (Str × Addr)} {A₀ : Around} {base h₀ : Heap} {L : Addr} {m : Str → Option Value} {s : Shared} {RR : Result → Shared → Prop}
   (_ : Below A₀ base [] h₀) (_ : Fr h₀ L s.heap m) (_ : (hd.heap_39 w.params).In h₀) (_ : News h₀ L s.heap (setLed w.params R ln tl pv k vs n wt mk dr wv mv dv kw km kd)) (_ : Top p loose mean mg mb h₀) (_ : (hd.heap_39 w.params).In base) (_ : Top p loose mean mg mb base) (_ : cs.kind = .function) (_ : dp + 32 < recursionLimit) (_ : un + 320 < cLine)
   (_ : ∀ v post s', (∃ t ms' pv' wv' mv' vs' k' n' kw' km' tl', v = .bool true ∧ Inv t ms' [] ∧ IntsAre mv' ms' ∧ post = setLed w.params R ln tl' pv' k' vs' n' wt mk dr wv' mv' dv kw' km' kd) → KeptL L s s' (setLed w.params R ln tl pv k vs n wt mk dr wv mv dv kw km kd) post → RR (.ok (.ret v)) s'),
   codeAny (model row.prog w) (ktrTop dp un gd cn cs L a ccd cl []) (.call (.ref 135) ⟨[.ref R.x, .ref wt, .ref mk, .ref dr, .int og tg], []⟩) RR s := by
  have h9 : RdA.Apart _ := RdA.Ok.lt (by assumption); have n01 := RdA.n01 h9; have n02 := RdA.n02 h9; have n03 := RdA.n03 h9; have n04 := RdA.n04 h9; have n05 := RdA.n05 h9; have n06 := RdA.n06 h9; have n07 := RdA.n07 h9; have n08 := RdA.n08 h9; have n12 := RdA.n12 h9; have n13 := RdA.n13 h9; have n14 := RdA.n14 h9; have n15 := RdA.n15 h9; have n16 := RdA.n16 h9; have n17 := RdA.n17 h9; have n18 := RdA.n18 h9; have n23 := RdA.n23 h9; have n24 := RdA.n24 h9; have n25 := RdA.n25 h9; have n26 := RdA.n26 h9; have n27 := RdA.n27 h9; have n28 := RdA.n28 h9; have n34 := RdA.n34 h9; have n35 := RdA.n35 h9; have n36 := RdA.n36 h9; have n37 := RdA.n37 h9; have n38 := RdA.n38 h9; have n45 := RdA.n45 h9; have n46 := RdA.n46 h9; have n47 := RdA.n47 h9; have n48 := RdA.n48 h9; have n56 := RdA.n56 h9; have n57 := RdA.n57 h9; have n58 := RdA.n58 h9; have n67 := RdA.n67 h9; have n68 := RdA.n68 h9; have n78 := RdA.n78 h9
  have w0 := OrdS.w0 h9 hord; have m0 := OrdS.m0 hord; have d0 := OrdS.d0 h9 hord; have w1 := OrdS.w1 h9 hord; have m1 := OrdS.m1 hord; have d1 := OrdS.d1 h9 hord; have w2 := OrdS.w2 h9 hord; have m2 := OrdS.m2 hord; have d2 := OrdS.d2 h9 hord; have w3 := OrdS.w3 h9 hord; have m3 := OrdS.m3 hord; have d3 := OrdS.d3 h9 hord; have w4 := OrdS.w4 h9 hord; have m4 := OrdS.m4 hord; have d4 := OrdS.d4 h9 hord; have w5 := OrdS.w5 h9 hord; have m5 := OrdS.m5 hord; have d5 := OrdS.d5 h9 hord; have w6 := OrdS.w6 h9 hord; have m6 := OrdS.m6 hord; have d6 := OrdS.d6 h9 hord; have w7 := OrdS.w7 h9 hord; have m7 := OrdS.m7 hord; have d7 := OrdS.d7 h9 hord; have w8 := OrdS.w8 h9 hord; have m8 := OrdS.m8 hord; have d8 := OrdS.d8 h9 hord; have mw := OrdS.mw hord; have md := OrdS.md hord; have dw := OrdS.dw h9 hord
  k_fill
  intro p loose mean mg mb dp un gd cn cs a ccd cl A₀ base h₀ L m s RR B F X N T XB TB hk hd' hu hret
  refine' enterS ?k1 ?k2 ?k3 ?k4 ?k5 ?kA ?kF ?kK ?k6 ?k7 ?k8 ?k9 ?kB ?kk ?_ ?c2 ?c3 ?c4 ?c5
  case kA => exact rfl
  case kF => exact rfl
  case kK => exact hk
  case k1 => exact B
  case k2 => exact F
  case k3 => exact X
  case k4 => exact N
  case k5 => exact T
  case k6 => k_is
  case k7 => k_is
  case k8 => ktr_room
  case k9 => exact BindsTo.of_eq rfl
  case kB => exact locs rfl
  case c2 => exact rfl
  case c3 => exact rfl
  case c4 => exact rfl
  case c5 => decide
  case kk => exact hret
  clear hret
  k_whole
  intro g L' h₁ FG' N' B' X' T' D' l1 l0
  try dsimp only
  try k_fold
  k_steps
  refine unhold ?_
  have lx : ∀ a ∈ (setLed w.params R ln tl pv k vs n wt mk dr wv mv dv kw km kd).map (·.1), a < L' := fun a ha => by
    obtain ⟨q, hq, e⟩ := List.mem_map.mp ha
    rw [← e]; exact l1 q hq
  clear l1
  refine For_walkG FG' rfl rfl rfl ?_
  k_steps
  refine unhold ?_
  rename IsRange _ _ _ _ _ _ _ _ => R9
  refine' for_rangeG (n := 90) (SetJ Inv (GndS row.prog p loose mean mg mb (hd.heap_39 w.params) (ktrTop dp un gd cn cs L a ccd cl []) base (envX cn cs L a ccd cl) L g) w.params R wt mk dr og tg xs ln dv kd) rfl ?F ?N R9 (by decide) (by decide) ?j0 ?turn ?fin
  case F => k_asm
  case N => k_asm
  case j0 => exact .mk _ ms ws pv wv mv vs _ _ _ _ _ ⟨KtsTurn.refl, B', X', T', D'⟩ (funext (by walk_at "m frm")) rfl h0 hpv hwv hmv hvs
  case fin =>
    clear R9
    intro g5 m5 nw5 h5 tk5 hJ _ _
    obtain ⟨_, _, _, _, _, _, _, _, _, _, _, _, _, _, _, hi, _, _, _, _⟩ := hJ
    exact absurd (hInv.len hi).2.2.2.2 (by decide)
  case turn =>
    clear R9 X' T' D' B'
    intro g₁ I hI t g5 m5 nw5 v h5 tk5 oI ht hJ hP F5 N5 off
    obtain ⟨o, ms, ws, pv, wv, mv, vs, k, n, kw, km, tl, hG, em, en, hi, hpv, hwv, hmv, hvs⟩ := hJ
    obtain ⟨u, e⟩ := hP
    replace F5 := Fr.of_m F5 em (e.trans (congrArg (Value.int · u) (Int.zero_add _)))
    replace N5 := News.of_n N5 en
    replace off := off_of off en
    clear em en e
    obtain ⟨KT, B5, X5, T5, D5⟩ := hG
    obtain ⟨q1, q2, q3, q4, q5⟩ := hInv.len hi
    cases ws with
    | nil =>
      replace N5 := News.pw N5 (strs_nil hpv) (strs_nil hwv)
      have hlen : vs.length ≤ 2 := by rw [hvs.length, List.length_map]; exact hxl
      have ha := h.lt
      have hI1 : wt < I := hI (wt, _) (by k_mem)
      have hI2 : dr < I := hI (dr, _) (by k_mem)
      have hI3 : mk < I := hI (mk, _) (by k_mem)
      clear hI
      simp only [setLed, List.cons_append, List.nil_append] at N5
      k_steps
      refine unhold ?_
      try dsimp only
      refine' Does.use (tok_lex w R h ln tl k xs ⟨by (first | lia | omega), by (first | lia | omega)⟩ vs hvs n) B5 F5 X5 N5 T5 ?hk ?hd ?hu ?hp ?hr ?_
      case hk => rfl
      case hd => ktr_room
      case hu => ktr_units
      case hp => kxw_bool
      case hr => kin_val
      intro n0 v post h' tk' l0 hP F' N'
      obtain ⟨tk6, tl6, vs6, n6, e, e2, hv6⟩ := hP
      subst e
      subst e2
      clear l0
      dsimp only [rdAll, rdIn, List.cons_append, List.nil_append] at N'
      rw [hxs ln] at N' hv6 ⊢
      have ed : (tx [46] == Str.ofString ".") = true := by decide +kernel
      dsimp only at hv6 N' ⊢
      clear N5 F5 off
      k_steps
      exact LeftS.intro KT (by k_asm) (by k_asm) (by kxw_bool) ⟨t, ms, [], [], mv, vs6, k, n6, kw, km, tl6, rfl, hi, hmv, rfl⟩
    | cons q ws =>
      obtain ⟨tp, pvt, ep, hpv⟩ := strs_cons hpv
      obtain ⟨tw, wvt, ew, hwv⟩ := strs_cons hwv
      replace N5 := News.pw N5 ep ew
      clear ep ew
      have hq := q3 q (.head _)
      have hpl : pvt.length = ws.length := by rw [hpv.length]; simp
      have hwl : wvt.length = ws.length := by rw [hwv.length]; simp
      have hml : mv.length = 32 := by rw [hmv.length, q1]
      have hcl : ws.length + 1 ≤ 100 := q2
      have ha := h.lt
      have hI1 : wt < I := hI (wt, _) (by k_mem)
      have hI2 : dr < I := hI (dr, _) (by k_mem)
      have hI3 : mk < I := hI (mk, _) (by k_mem)
      clear hI
      have hwd : (wd og q).length ≤ 3 := wd_len hog ⟨by (first | lia | omega), by (first | lia | omega)⟩
      have hne : (tx (wd og q) == Str.ofString ".") = false := by
        rw [show Str.ofString "." = tx [46] by decide +kernel, tx_inj]
        refine decide_eq_false fun e => ?_
        have := wd_mem (o := og) (p := q) (c := 46) (by rw [e]; exact .head _)
        (first | lia | omega)
      simp only [setLed, List.cons_append, List.nil_append] at N5
      k_steps
      refine unhold ?_
      try dsimp only
      refine' Does.use (tok_push w R h ln tl (.str (tx (wd og q)) tp) pvt ?z k vs n) B5 F5 X5 N5 T5 ?hk ?hd ?hu ?hp ?hr ?_
      case z => (first | lia | omega)
      case hk => rfl
      case hd => ktr_room
      case hu => ktr_units
      case hp => kxw_bool
      case hr => kin_val
      intro n0 v post h' tk' l0 hP F' N'
      obtain ⟨e, e2⟩ := hP
      subst e
      subst e2
      clear l0
      dsimp only [rdAll, rdIn, List.cons_append, List.nil_append] at N'
      clear N5 F5
      k_steps
      refine' ne_one ?N ?a ?b ?ok ?hu rfl ?_
      case N => k_asm
      case a => k_mem
      case b => k_mem
      case ok => exact ok_tx fun c hc => by have := wd_mem hc; (first | lia | omega)
      case hu => ktr_units
      k_steps
      refine unhold ?_
      try dsimp only
      rename Fr _ _ _ _ => F7
      rename News _ _ _ _ => N7
      have N8 : News g5 L' _ ((I, oI) :: setLed w.params R ln tl pvt (k + 1) vs n wt mk dr wvt mv dv (kw + 1) km kd) := fun p hp => N7 p (by revert p hp; kxw_bool)
      clear N7
      simp only [setLed, List.cons_append, List.nil_append] at N8
      refine' Does.use (lnumber w (wd og q) tp ?z ?y) B5 F7 X5 N8 T5 ?hk ?hd ?hu ?hp ?hr ?_
      case z => (first | lia | omega)
      case y => exact fun c hc => wd_mem hc
      case hk => rfl
      case hd => ktr_room
      case hu => ktr_units
      case hp => kxw_bool
      case hr => kin_val
      clear F7 N8
      intro n0 v post h' tk' l0 hP F' N'
      obtain ⟨tk7, e, e2⟩ := hP
      subst e
      subst e2
      clear l0
      dsimp only [List.nil_append] at N'
      rw [num_wd (by (first | lia | omega))]
      have hsub : og + q - og = q := by (first | lia | omega)
      k_steps
      refine unhold ?_
      rename Fr _ _ _ _ => F7
      rename News _ _ _ _ => N7
      rw [hsub] at F7
      refine cutI (nw := (I, oI) :: setLed w.params R ln tl pvt (k + 1) vs n wt mk dr wvt mv dv (kw + 1) km kd) (fun d => (0 ≤ d ∧ d < 3) ∧ (d ≠ 0 → t < 7)) F7 N7 (by kxw_bool) ?_ ?_
      · refine IfExp_ ?_
        k_steps
        · exact IntOut.intro (by k_asm) (by k_asm) (by kxw_bool) ⟨fmod_lt _ (by decide), fun _ => by (first | lia | omega)⟩
        · exact IntOut.intro (by k_asm) (by k_asm) (by kxw_bool) ⟨⟨Int.le_refl 0, by decide⟩, fun e => absurd rfl e⟩
      clear F7 N7
      intro dd t8 h8 tk8 hP8 F7 N7
      obtain ⟨hd3, hd7⟩ := hP8
      simp only [setLed, List.cons_append, List.nil_append] at N7
      k_steps
      refine unhold ?_
      have hf5 := fmod_lt (Int.fdiv (ds.getD (Int.fmod (t : Int) 7).toNat 0) 30) (b := 5) (by decide)
      have hf4 := fmod_lt (Int.fdiv (ds.getD (Int.fmod (t : Int) 7).toNat 0) 30) (b := 4) (by decide)
      have hf3 := fmod_lt (t : Int) (b := 3) (by decide)
      refine' item_txs others ?N ?m (.cons _ _ (.cons _ _ (.cons _ _ (.cons _ _ (.cons _ _ .nil))))) ?hy hf5.1 hf5.2 (Nat.le_of_ble_eq_true rfl) ?_
      case N => k_asm
      case m => k_mem
      case hy => decide +kernel
      generalize hoth : List.getD others _ _ = oth
      intro t9
      k_steps
      refine unhold ?_
      refine' item_txs openings ?N ?m (.cons _ _ (.cons _ _ (.cons _ _ (.cons _ _ .nil)))) ?hy hf4.1 hf4.2 (Nat.le_of_ble_eq_true rfl) ?_
      case N => k_asm
      case m => k_mem
      case hy => decide +kernel
      generalize hopn : List.getD openings _ _ = opn
      intro t10
      k_steps
      refine unhold ?_
      refine' item_txs [[50, 53, 55, 32, 34], oth, opn] ?N ?m (.cons _ _ (.cons _ _ (.cons _ _ .nil))) ?hy hd3.1 hd3.2 (Nat.le_of_ble_eq_true rfl) ?_
      case N => k_asm
      case m => k_mem
      case hy => rw [show Str.ofString "257 \"" = tx [50, 53, 55, 32, 34] by decide +kernel]; rfl
      generalize hbeg : List.getD [[50, 53, 55, 32, 34], oth, opn] _ _ = beg
      intro t11
      have hm := q4 _ (getD_mem (d := 0) (by (first | lia | omega) : q.toNat < ms.length))
      have hbl : beg.length ≤ 10 := by rw [← hbeg]; exact beg_len (by rw [← hoth]; exact oth_len _) (by rw [← hopn]; exact opn_len _) _
      k_steps
      refine unhold ?_
      refine' item_txs ends ?N ?m (.cons _ _ (.cons _ _ (.cons _ _ .nil))) ?hy hf3.1 hf3.2 (Nat.le_of_ble_eq_true rfl) ?_
      case N => k_asm
      case m => k_mem
      case hy => decide +kernel
      generalize htl : List.getD ends _ _ = tail
      have htll : tail.length ≤ 10 := by rw [← htl]; exact tail_len _
      have htc : ∀ c ∈ tail, c < 128 := by rw [← htl]; exact getD_all (P := fun x => ∀ c ∈ x, c < 128) (by decide) (by decide) _
      have hut : unq tail = [] := by rw [← htl]; exact unq_ends _
      intro t12
      k_steps
      refine unhold ?_
      try dsimp only
      rename Fr _ _ _ _ => F9
      rename News _ _ _ _ => N9
      have N10 : News g5 L' _ ((I, oI) :: setLed w.params R ln tl pvt (k + 1) vs n wt mk dr wvt mv dv (kw + 1) km kd) := fun p hp => N9 p (by revert p hp; kxw_bool)
      clear N9
      have hd012 : dd = 0 ∨ dd = 1 ∨ dd = 2 := by (first | lia | omega)
      have hbeg' : (dd = 0 ∧ beg = [50, 53, 55, 32, 34]) ∨ (dd = 1 ∧ t < 7 ∧ ∃ i, i < 5 ∧ beg = others.getD i []) ∨ (dd = 2 ∧ t < 7 ∧ ∃ i, i < 4 ∧ beg = openings.getD i []) := by
        rcases hd012 with e | e | e
        · subst e; exact .inl ⟨rfl, hbeg.symm⟩
        · subst e; exact .inr (.inl ⟨rfl, hd7 (by decide), _, by (first | lia | omega), hbeg.symm.trans hoth.symm⟩)
        · subst e; exact .inr (.inr ⟨rfl, hd7 (by decide), _, by (first | lia | omega), hbeg.symm.trans hopn.symm⟩)
      refine' Mine.tail w Inv hInv R h wt mk dr hord og tg hog ms ws dv pvt wvt mv vs t q hi hpv hwv hmv ln tl (k + 1) n (kw + 1) km kd beg tail hut htc htll _ dd ?d0 hbeg' hbl _ _ _ _ _ _ I oI hI1 B5 X5 T5 D5 XB TB hk hd' hu (Fr.toT F9 rfl rfl rfl rfl rfl rfl rfl rfl rfl rfl rfl) N10 ?_
      case d0 => exact hd0 _ (getD_mem (by have := fmod_lt (t : Int) (b := 7) (by decide); (first | lia | omega)))
      intro f g' h' tk o' ms' ws' pv' wv' mv' k' kw' km' hf KT' B' X' T' D' F' N' hi' p1 p2 p3
      rcases hf with e | e
      · subst e
        refine unhold (TurnEndG.intro F' N' (fun p hp => hp) (off_same off rfl) (.mk o' ms' ws' pv' wv' mv' vs k' n kw' km' tl ⟨KT.trans KT', B', X', T', D'⟩ rfl rfl hi' p1 p2 p3 hvs))
      · subst e
        refine unhold (TurnEndG.intro F' N' (fun p hp => hp) (off_same off rfl) (.mk o' ms' ws' pv' wv' mv' vs k' n kw' km' tl ⟨KT.trans KT', B', X', T', D'⟩ rfl rfl hi' p1 p2 p3 hvs))

end
section
theorem startLawE1 : True := by
  w_top off
  k_with "LawE1 0" => (refine neN ?_; (try dsimp only); first | assumption | (refine Ne.symm ?_; assumption) | omega)
  trivial
local macro_rules | `(tactic| walk_at "call ref") => `(tactic| refine hold ?_)
local macro_rules | `(tactic| walk_at "compareOp Eq ref ref") => `(tactic| refine hold ?_)
local macro_rules | `(tactic| k_ne) => `(tactic| k_extra "LawE1 0")
noncomputable abbrev frmZ (m : Str → Option Value) (wt mk : Nat) (txt : Str) (tt : Tok) : Str → Option Value := fun y =>
  if y = Str.ofString "waiting" then some (.ref wt) else if y = Str.ofString "marks" then some (.ref mk) else if y = Str.ofString "text" then some (.str txt tt) else m y
set_option maxHeartbeats 4000000 in
theorem lawE (w : World) (fa : Addr) (cd : Value) (og : Int) (tg : Tok) (hog : 0 ≤ og ∧ og < 3000) (ps ds : List Int) (pv dv wv : List Value) (hpv : IntsAre pv ps) (hds : IntsAre dv ds) (hpl : ps.length = 7) (hdl : ds.length = 7) (hp0 : ∀ p ∈ ps, 13 ≤ p ∧ p ≤ 17) (hd0 : ∀ d ∈ ds, 0 ≤ d)
    (dr pl dw L mk wt : Nat) (hL : 109 < L) (oR oW oP oO oD oS : Obj) (R : RdA) (hR : R.Ok) (hR1 : 109 < R.cl) (dR : oR.data = .cell (some (.ref R.x))) (dP : oP.data = .cell (some (.ref pl))) (dO : oO.data = .cell (some (.int og tg))) (dD : oD.data = .cell (some (.ref dr)))
    (l1 : dr < R.cl) (l2 : pl < R.cl) (l3 : dw < R.cl) (l4 : L + 1 + 1 + 1 + 1 + 1 + 1 < R.cl) (n4 : dr ≠ 109) (n5 : pl ≠ 109) (n6 : dw ≠ 109) (n7 : pl ≠ dr) (n8 : dw ≠ pl) (n9 : dw ≠ dr)
    (hord : OrdS R wt mk dr) (q1 : 109 ≠ mk) (q2 : dw ≠ mk) (q3 : pl ≠ mk) (hcm : Cells6 L mk) (hcd : Cells6 L dr) (hcp : Cells6 L pl)
    (tl : Tok) (pvq wq mv vs : List Value) (n k kw km : Nat) (hpq : StrsAre pvq (wds og (wait0 ps))) (hwq : StrsAre wq (wds og (wait0 ps))) (hmv : IntsAre mv (marks0 ps)) (xs : List Nat) (hxs : ∀ z : Int, tok0 xs z = ([46], [], z)) (hxl : xs.length ≤ 2) (hvs : StrsAre vs (xs.map sgn)) (ln : Int) (l : List Nat) (hl : l.length ≤ 49) (hln : ln = 1 + ((l.count 10 : Nat) : Int)) (tps : Array Value) (tt : Tok) :
    ∀ {p : Program} {loose : List Str} {mean : ExcName → Option Value} {mg mb : Str → Option Value} {g : Heap} {m : Str → Option Value} {s : Shared} {R1 : Value → Shared → Prop} {Q : Flow → Shared → Prop}
   (_ : Below callerA g [] g) (_ : (hd.heap_39 w.params).In g) (_ : Top p loose mean mg mb g) (_ : Fr g L s.heap (frmZ m wt mk (tx l) tt))
   (_ : News g L s.heap ((mk, W.listOf mv.toArray km) :: (wt, W.listOf wq.toArray kw) :: lawLed w.params R ln tl pvq k vs n tps dw pl dr L wv pv dv oR oW oP oO oD oS))
   (_ : ∀ h' tk m' nw qs, Fr g L h' m' → News g L h' nw → (109, tabObj qs) ∈ nw → Q (.ret (.bool true)) { s with heap := h', toks := tk }),
   wpAny (model row.prog w) (callerA.deeper (lawEnv L fa cd)) (execs (lawBody 11) (lawEnv L fa cd)) Q (lawErr w L fa cd R1) s := by
  k_fill
  intro p loose mean mg mb g m s R1 Q B X T F N hQ
  unfold lawErr
  unfold lawEnv
  generalize hsc : lawScope = sc
  generalize hb : lawBody 11 = b
  conv at hsc => lhs; whnf
  conv at hb => lhs; whnf
  subst hsc
  subst hb
  have ha := hR.lt
  obtain ⟨q4, q5, q6, q7, q8, q9⟩ := hcm
  obtain ⟨c4, c5, c6, c7, c8, c9⟩ := hcd
  obtain ⟨p4, p5, p6, p7, p8, p9⟩ := hcp
  have hcn : l.count 10 ≤ 49 := Nat.le_trans List.count_le_length hl
  have hln0 : 0 ≤ ln ∧ ln ≤ 9000 := by (first | lia | omega)
  have hpvl : pv.length = 7 := by rw [hpv.length, hpl]
  have hinv := chip_start hpl hp0
  dsimp only [lawLed, rdAll, rdIn, List.cons_append, List.nil_append] at N
  k_steps
  refine unhold ?_
  refine wpAny_call ?_
  rename Fr _ _ _ _ => F1
  rename News _ _ _ _ => N1
  refine' settled w _ (chipPInv _) R hR wt mk dr hord og tg hog ds _ _ dv hds hdl hd0 pvq wq mv vs hinv hpq hwq hmv xs hxs hxl hvs ln hln0 tl k n kw km dv.length B ?F X ?N T X T rfl ?hd ?hu ?_
  case F => exact F1
  case N => exact fun p hp => N1 p (by revert p hp; dsimp only [setLed, rdAll, rdIn, List.cons_append, List.nil_append]; kxw_bool)
  case hd => ktr_room
  case hu => ktr_units
  rintro v post s' ⟨t', ms', pv', wv', mv', vs', k', n', kw', km', tl', ev, hinv', hmv', ep⟩ hK
  subst ev
  subst ep
  have hch := chip_marked hinv'
  obtain ⟨F2, N2⟩ := hK.caller F1 N1 (by dsimp only [setLed, rdAll, rdIn, List.cons_append, List.nil_append]; kxw_bool) (by dsimp only [setLed, rdAll, rdIn, List.cons_append, List.nil_append]; kin_val)
  obtain ⟨tk2, e⟩ := hK.form
  clear hK F1 N1
  generalize s'.heap = h2 at e F2 N2
  subst e
  dsimp only [setLed, rdAll, rdIn, List.cons_append, List.nil_append] at N2
  try dsimp only
  k_steps
  refine unhold ?_
  refine' Does.use (mirr w ps pv hpv pl _ hpl) ?B ?F ?X ?N ?T ?hk ?hd ?hu ?hp ?hr ?_
  walk_at "m args"
  clear F2 N2
  intro n0 v post h' tk' l0 hP F3 N3
  obtain ⟨D, ys, hys, e, e2⟩ := hP
  subst e
  subst e2
  k_lt l0
  dsimp only [List.cons_append, List.nil_append] at N3
  k_steps
  refine unhold ?_
  refine ke_eq_ints (News.isList N3 (by k_mem)) (News.isList N3 (by k_mem)) hmv' hys ?hu ?_
  case hu => ktr_units
  have em : ms' = marked (mall ps) 32 := hch.trans (by unfold marked; rfl)
  rw [em, decide_eq_true rfl]
  k_steps
  rw [count10, ← hln, beq_self_eq_true]
  exact hQ _ _ _ _ tps (by k_asm) (by k_asm) (by k_mem)

end
section
theorem startLawF1 : True := by
  w_top off
  k_with "LawF1 0" => (refine neN ?_; (try dsimp only); first | assumption | (refine Ne.symm ?_; assumption) | omega)
  trivial
local macro_rules | `(tactic| walk_at "zz none") => `(tactic| fail "zz none")
local macro_rules | `(tactic| walk_at "zz none") => `(tactic| fail "zz none")
local macro_rules | `(tactic| walk_at "zz none") => `(tactic| fail "zz none")
local macro_rules | `(tactic| walk_at "exec Assign cons ListComp") => `(tactic| refine hold ?_)
local macro_rules | `(tactic| walk_at "exec For Name Name cons nil") => `(tactic| refine hold ?_)
local macro_rules | `(tactic| walk_at "call ref") => `(tactic| refine hold ?_)
local macro_rules | `(tactic| walk_at "pyIter ref") => `(tactic| refine hold ?_)
local macro_rules | `(tactic| k_ne) => `(tactic| k_extra "LawF1 0")
noncomputable abbrev frmY (m : Str → Option Value) (wt mk gl : Nat) (txt : Str) (tt : Tok) : Str → Option Value := fun y =>
  if y = Str.ofString "waiting" then some (.ref wt) else if y = Str.ofString "marks" then some (.ref mk) else if y = Str.ofString "text" then some (.str txt tt) else if y = Str.ofString "given" then some (.ref gl) else m y
theorem Fr.toY {g h : Heap} {L : Addr} {m : Str → Option Value} {wt mk gl : Nat} {txt : Str} {tt : Tok} (F : Fr g L h m) (e1 : m (Str.ofString "waiting") = some (.ref wt)) (e2 : m (Str.ofString "marks") = some (.ref mk)) (e3 : m (Str.ofString "text") = some (.str txt tt)) (e4 : m (Str.ofString "given") = some (.ref gl)) : Fr g L h (frmY m wt mk gl txt tt) :=
  Fr.congr F (by
    intro y
    by_cases h1 : y = Str.ofString "waiting"; · subst h1; exact e1
    by_cases h2 : y = Str.ofString "marks"; · subst h2; exact e2
    by_cases h3 : y = Str.ofString "text"; · subst h3; exact e3
    by_cases h4 : y = Str.ofString "given"; · subst h4; exact e4
    simp only [frmY, if_neg h1, if_neg h2, if_neg h3, if_neg h4])
theorem Fr.toZ {g h : Heap} {L : Addr} {m : Str → Option Value} {wt mk : Nat} {txt : Str} {tt : Tok} (F : Fr g L h m) (e1 : m (Str.ofString "waiting") = some (.ref wt)) (e2 : m (Str.ofString "marks") = some (.ref mk)) (e3 : m (Str.ofString "text") = some (.str txt tt)) : Fr g L h (frmZ m wt mk txt tt) :=
  Fr.congr F (by
    intro y
    by_cases h1 : y = Str.ofString "waiting"; · subst h1; exact e1
    by_cases h2 : y = Str.ofString "marks"; · subst h2; exact e2
    by_cases h3 : y = Str.ofString "text"; · subst h3; exact e3
    simp only [frmZ, if_neg h1, if_neg h2, if_neg h3])
theorem wait_take {ps : List Int} {i : Nat} (h : i < ps.length) : (ps.take (i + 1)).foldl qadd [] = qadd ((ps.take i).foldl qadd []) (ps.getD i 0) := by
  rw [List.take_add_one, List.getElem?_eq_getElem h, List.foldl_append]
  simp [List.getD, h]
set_option maxHeartbeats 4000000 in
theorem lawD (w : World) (fa : Addr) (cd : Value) (og : Int) (tg : Tok) (hog : 0 ≤ og ∧ og < 3000) (ps ds : List Int) (pv dv wv gv : List Value) (hpv : IntsAre pv ps) (hds : IntsAre dv ds) (hgv : StrsAre gv (wds og ps)) (hpl : ps.length = 7) (hdl : ds.length = 7) (hp0 : ∀ p ∈ ps, 13 ≤ p ∧ p ≤ 17) (hd0 : ∀ d ∈ ds, 0 ≤ d)
    (dr pl dw L gl : Nat) (hL : 109 < L) (oR oW oP oO oD oS : Obj) (R : RdA) (hR : R.Ok) (hR1 : 109 < R.cl) (dR : oR.data = .cell (some (.ref R.x))) (dP : oP.data = .cell (some (.ref pl))) (dO : oO.data = .cell (some (.int og tg))) (dD : oD.data = .cell (some (.ref dr)))
    (l1 : dr < R.cl) (l2 : pl < R.cl) (l3 : dw < R.cl) (l4 : L + 1 + 1 + 1 + 1 + 1 + 1 < R.cl) (n4 : dr ≠ 109) (n5 : pl ≠ 109) (n6 : dw ≠ 109) (n7 : pl ≠ dr) (n8 : dw ≠ pl) (n9 : dw ≠ dr) (hcd : Cells6 L dr) (hcp : Cells6 L pl)
    (tl : Tok) (vs : List Value) (n k : Nat) (xs : List Nat) (hxs : ∀ z : Int, tok0 xs z = ([46], [], z)) (hxl : xs.length ≤ 2) (hvs : StrsAre vs (xs.map sgn)) (ln : Int) (l : List Nat) (hl : l.length ≤ 49) (hln : ln = 1 + ((l.count 10 : Nat) : Int)) (tps : Array Value) (tt : Tok)
    (hgl : LCg.Off1 gl (lawLed w.params R ln tl [] k vs n tps dw pl dr L wv pv dv oR oW oP oO oD oS)) :
    ∀ {p : Program} {loose : List Str} {mean : ExcName → Option Value} {mg mb : Str → Option Value} {g : Heap} {m : Str → Option Value} {s : Shared} {R1 : Value → Shared → Prop} {Q : Flow → Shared → Prop}
   (_ : Below callerA g [] g) (_ : (hd.heap_39 w.params).In g) (_ : Top p loose mean mg mb g) (_ : Fr g L s.heap (fun y => if y = Str.ofString "given" then some (.ref gl) else if y = Str.ofString "text" then some (.str (tx l) tt) else m y))
   (_ : News g L s.heap ((gl, LCg.lst gv) :: lawLed w.params R ln tl [] k vs n tps dw pl dr L wv pv dv oR oW oP oO oD oS))
   (_ : ∀ h' tk m' nw qs, Fr g L h' m' → News g L h' nw → (109, tabObj qs) ∈ nw → Q (.ret (.bool true)) { s with heap := h', toks := tk }),
   wpAny (model row.prog w) (callerA.deeper (lawEnv L fa cd)) (execs (lawBody 8) (lawEnv L fa cd)) Q (lawErr w L fa cd R1) s := by
  k_fill
  intro p loose mean mg mb g m s R1 Q B X T F N hQ
  unfold lawErr
  unfold lawEnv
  generalize hsc : lawScope = sc
  generalize hb : lawBody 8 = b
  conv at hsc => lhs; whnf
  conv at hb => lhs; whnf
  subst hsc
  subst hb
  have ha := hR.lt
  have hpvl : pv.length = 7 := by rw [hpv.length, hpl]
  have hgl0 := hgl
  dsimp only [lawLed, rdAll, rdIn, List.cons_append, List.nil_append] at N hgl
  k_steps
  refine unhold ?_
  k_dflt refine Assign_X (F₀ := by k_asm) (by rfl) (by rfl) (by rfl) (by decide) (by rfl) (by decide) (by rfl) (by rfl) (by rfl) ?_
  k_steps
  refine unhold ?_
  rename IsRange _ _ _ _ _ _ _ _ => R9
  refine' WalkSrc.range (n := 32) rfl ?F ?N R9 (by decide) (by decide) ?sz ?kk
  case F => k_asm
  case N => k_asm
  case sz => simp only [PySem.sizeLine_eq]; (first | lia | omega)
  case kk =>
    intro g8
    refine compRestC (fun i ys => IntsAre ys ((List.range i).map fun (i : Nat) => ((ps.count (i : Int) : Nat) : Int))) ?j8 ?turn8 ?fin8
    case j8 => exact .nil
    case turn8 =>
      intro i8 ys8 hi8 hJ8 v8 I8 oI8 C8 oC8 D8 m₈ h8 tk8 E8 hP8 hC8 hx8 F8 N8 off8 ne8
      obtain ⟨t, e⟩ := hP8
      subst e
      rw [Int.zero_add] at hx8
      clear R9
      k_steps
      refine LCg.CompEnd.intro F8 N8 _ (fun p h => h) off8 trivial (unhold ⟨rfl, ?_⟩)
      rw [List.range_succ, List.map_append]
      exact ints_app hJ8 (.cons _ _ .nil)
    case fin8 =>
      intro mv hmv
      have hmv : IntsAre mv (marks0 ps) := hmv
      intro mk h8 tk8 F8 N8 hmk
      clear R9
      k_steps
      refine unhold ?_
      rename_i wt h9 lw h10 F1 N1 _
      have hgvl : gv.length = 7 := by rw [hgv.length]; simp [wds, hpl]
      simp only [LCg.Off1, and_true] at hmk hgl
      obtain ⟨b0, b1, b2, b3, b4, b5, b6, b7, b8, b9, b10, b11, b12, b13, b14, b15, b16, b17, b18, b19⟩ := hmk
      obtain ⟨a1, a2, a3, a4, a5, a6, a7, a8, a9, a10, a11, a12, a13, a14, a15, a16, a17, a18, a19⟩ := hgl
      refine For_walk F1 rfl rfl rfl ?_
      k_steps
      refine unhold ?_
      refine' for_list (its := gv.toArray) (fun i m nw => ∃ o' pv' wv' k' kw', m = frmY o' wt mk gl (tx l) tt ∧ nw = (wt, W.listOf wv'.toArray kw') :: (mk, LCg.lst mv) :: (gl, LCg.lst gv) :: lawLed w.params R ln tl pv' k' vs n tps dw pl dr L wv pv dv oR oW oP oO oD oS ∧ StrsAre pv' (wds og ((ps.take i).foldl qadd [])) ∧ StrsAre wv' (wds og ((ps.take i).foldl qadd []))) rfl (Fr.toY F1 rfl rfl rfl rfl) N1 ⟨_, _, _, _, _, rfl, rfl, .nil, .nil⟩ ?jS ?turn ?fin
      case jS =>
        intro i m nw hJ
        obtain ⟨o', pv', wv', k', kw', em, en, _⟩ := hJ
        subst en
        exact ⟨_, .tail _ (.tail _ (.head _))⟩
      case turn =>
        intro g2 I2 hI2 i2 m2 nw2 v2 h2 tk2 oI2 hi2 hJ2 hP2 F2 N2 off2
        obtain ⟨o', pv', wv', k', kw', em, en, hpv', hwv'⟩ := hJ2
        subst em
        subst en
        clear F1 N1
        obtain ⟨u2, _, ev⟩ := strs_at hgv (by simpa using hP2)
        have hi7 : i2 < 7 := by rw [List.size_toArray, hgvl] at hi2; exact hi2
        have hw2 : (wds og ps).getD i2 Str.empty = tx (wd og (ps.getD i2 0)) := by simp [wds, List.getD, show i2 < ps.length by (first | lia | omega)]
        rw [hw2] at ev
        subst ev
        have hpk := hp0 _ (getD_mem (d := 0) (by (first | lia | omega) : i2 < ps.length))
        have hwt := wait_take (ps := ps) (i := i2) (by (first | lia | omega))
        obtain ⟨hwm, hwl⟩ := wait_fold (ps.take i2) []
        generalize (ps.take i2).foldl qadd [] = ws at hwt hwm hwl hpv' hwv'
        generalize ps.getD i2 0 = p2 at hpk hwt F2
        have hws : ∀ x ∈ ws, 0 ≤ x := fun x hx => by
          rcases (hwm x).mp hx with h | h
          · cases h
          · have := hp0 x (List.mem_of_mem_take h); (first | lia | omega)
        have hwl2 : ws.length ≤ 10000 := by
          have := List.length_take_le i2 ps
          simp only [List.length_nil] at hwl; (first | lia | omega)
        clear hwm hw2 hP2 hmv hpv hds hgv
        dsimp only [lawLed, rdAll, rdIn, List.cons_append, List.nil_append] at N2 hI2
        k_lt hI2
        k_steps
        refine unhold ?_
        refine' Does.use (queueP w R.x R.d R.pb wt R.st R.t tl ln og hog.1 ws hws hwl2 p2 (by (first | lia | omega)) pv' wv' hpv' hwv' k' kw' _ ⟨by (first | lia | omega), by (first | lia | omega), by (first | lia | omega)⟩) ?B ?F ?X ?N ?T ?hk ?hd ?hu ?hp ?hr ?_
        case B => k_asm
        case F => k_asm
        case X => k_asm
        case N => k_asm
        case T => k_asm
        case hk => exact rfl
        case hd => ktr_room
        case hu => ktr_units
        case hp => kxw_bool
        case hr => kin_val
        intro n0 v post h' tk' l0 hP F3 N3
        obtain ⟨e, pv3, wv3, n13, n23, hpv3, hwv3, e2⟩ := hP
        subst e
        subst e2
        clear l0 N2
        dsimp only [List.cons_append, List.nil_append] at N3
        k_steps
        refine unhold (TurnEnd.intro (Fr.toY F3 rfl rfl rfl rfl) N3 (news' := (wt, W.listOf wv3.toArray n23) :: (mk, LCg.lst mv) :: (gl, LCg.lst gv) :: lawLed w.params R ln tl pv3 n13 vs n tps dw pl dr L wv pv dv oR oW oP oO oD oS) ?hs (off_same off2 rfl) ⟨_, pv3, wv3, n13, n23, rfl, rfl, ?h1, ?h2⟩)
        case hs => dsimp only [lawLed, rdAll, rdIn, List.cons_append, List.nil_append]; kxw_bool
        case h1 => rw [hwt]; exact hpv3
        case h2 => rw [hwt]; exact hwv3
      case fin =>
        intro m2 nw2 h2 tk2 hJ2 F2 N2
        obtain ⟨o', pv', wv', k', kw', em, en, hpv', hwv'⟩ := hJ2
        subst em
        subst en
        clear F1 N1
        rw [List.size_toArray, hgvl, List.take_of_length_le (by (first | lia | omega))] at hpv' hwv'
        have lw2 : @LT.lt Nat _ R.pb wt ∧ @LT.lt Nat _ mk wt := ⟨by (first | lia | omega), by (first | lia | omega)⟩
        refine' lawE w fa cd og tg hog ps ds pv dv wv hpv hds hpl hdl hp0 hd0 dr pl dw L mk wt hL oR oW oP oO oD oS R hR hR1 dR dP dO dD l1 l2 l3 l4 n4 n5 n6 n7 n8 n9 ⟨l1, lw2.1, lw2.2, b13.symm, b8.symm, b9.symm, b7.symm, b6.symm, b4.symm, b5.symm, b2.symm, b1.symm, b3.symm⟩ b10 b11 b12 ⟨b14, b15, b16, b17, b18, b19⟩ hcd hcp tl pv' wv' mv vs n k' kw' _ hpv' hwv' hmv xs hxs hxl hvs ln l hl hln tps tt B X T (Fr.toZ F2 rfl rfl rfl) ?N hQ
        case N =>
          intro p hp
          refine N2 p ?_
          revert p hp
          dsimp only [lawLed, rdAll, rdIn, List.cons_append, List.nil_append]
          kxw_bool

end
section
theorem startLawC1 : True := by
  w_top off
  k_with "LawC1 0" => ((with_reducible show wpAny _ _ (execs (Stmt.Assign [Expr.Name (Str.ofString "marks") _] _ _ :: _) _) _ _ _); refine hold ?_)
  k_with "LawC1 1" => ((with_reducible show wpAny _ _ (subscriptTail _ _ (Value.ref _) (Value.int _ _)) _ _ _); refine hold ?_)
  trivial
local macro_rules | `(tactic| walk_at "zz none") => `(tactic| fail "zz none")
local macro_rules | `(tactic| walk_at "zz none") => `(tactic| fail "zz none")
local macro_rules | `(tactic| walk_at "zz none") => `(tactic| fail "zz none")
local macro_rules | `(tactic| walk_at "zz none") => `(tactic| fail "zz none")
local macro_rules | `(tactic| walk_at "zz none") => `(tactic| fail "zz none")
local macro_rules | `(tactic| walk_at "zz none") => `(tactic| fail "zz none")
local macro_rules | `(tactic| walk_at "zz none") => `(tactic| fail "zz none")
local macro_rules | `(tactic| walk_at "zz none") => `(tactic| fail "zz none")
local macro_rules | `(tactic| walk_at "exec Assign cons ListComp") => `(tactic| refine hold ?_)
local macro_rules | `(tactic| walk_at "execs cons Assign cons") => `(tactic| k_extra "LawC1 0")
local macro_rules | `(tactic| walk_at "compareOp NotEq ref ref") => `(tactic| refine hold ?_)
local macro_rules | `(tactic| walk_at "call ref") => `(tactic| refine hold ?_)
local macro_rules | `(tactic| walk_at "eval ListComp") => `(tactic| refine hold ?_)
local macro_rules | `(tactic| walk_at "pyIter ref") => `(tactic| refine hold ?_)
local macro_rules | `(tactic| walk_at "subscriptTail") => `(tactic| k_extra "LawC1 1")
set_option maxHeartbeats 4000000 in
theorem lawC (w : World) (fa : Addr) (cd : Value) (og : Int) (tg : Tok) (hog : 0 ≤ og ∧ og < 3000) (ps ds : List Int) (pv dv wv : List Value) (hpv : IntsAre pv ps) (hds : IntsAre dv ds) (hpl : ps.length = 7) (hdl : ds.length = 7) (hp0 : ∀ p ∈ ps, 13 ≤ p ∧ p ≤ 17) (hd0 : ∀ d ∈ ds, 0 ≤ d)
    (dr pl dw L : Nat) (hL : 109 < L) (oR oW oP oO oD oS : Obj) (R : RdA) (hR : R.Ok) (hR1 : 109 < R.cl) (dR : oR.data = .cell (some (.ref R.x))) (dP : oP.data = .cell (some (.ref pl))) (dO : oO.data = .cell (some (.int og tg))) (dD : oD.data = .cell (some (.ref dr)))
    (l1 : dr < R.cl) (l2 : pl < R.cl) (l3 : dw < R.cl) (l4 : L + 1 + 1 + 1 + 1 + 1 + 1 < R.cl) (n4 : dr ≠ 109) (n5 : pl ≠ 109) (n6 : dw ≠ 109) (n7 : pl ≠ dr) (n8 : dw ≠ pl) (n9 : dw ≠ dr) (hcd : Cells6 L dr) (hcp : Cells6 L pl)
    (tl : Tok) (vs : List Value) (n k : Nat) (hvs : StrsAre vs ((leftAt (pcs og ps ds) [] 0).map sgn)) (tps : Array Value) (tt : Tok) :
    ∀ {p : Program} {loose : List Str} {mean : ExcName → Option Value} {mg mb : Str → Option Value} {g : Heap} {m : Str → Option Value} {s : Shared} {R1 : Value → Shared → Prop} {Q : Flow → Shared → Prop}
   (_ : Below callerA g [] g) (_ : (hd.heap_39 w.params).In g) (_ : Top p loose mean mg mb g) (_ : Fr g L s.heap (fun y => if y = Str.ofString "text" then some (Value.str (tx (pcs og ps ds).flatten) tt) else m y))
   (_ : News g L s.heap (lawLed w.params R 1 tl [] k vs n tps dw pl dr L wv pv dv oR oW oP oO oD oS))
   (_ : ∀ h' tk m' nw qs, Fr g L h' m' → News g L h' nw → (109, tabObj qs) ∈ nw → Q (.ret (.bool true)) { s with heap := h', toks := tk }),
   wpAny (model row.prog w) (callerA.deeper (lawEnv L fa cd)) (execs (lawBody 6) (lawEnv L fa cd)) Q (lawErr w L fa cd R1) s := by
  k_fill
  intro p loose mean mg mb g m s R1 Q B X T F N hQ
  unfold lawErr
  unfold lawEnv
  generalize hsc : lawScope = sc
  generalize hb : lawBody 6 = b
  conv at hsc => lhs; whnf
  conv at hb => lhs; whnf
  subst hsc
  subst hb
  have ha := hR.lt
  have hfl : (pcs og ps ds).flatten.length ≤ 49 := by
    rw [List.length_flatten]
    have e2 := sum_le (ls := (pcs og ps ds).map List.length) (b := 7) fun x hx => by
      obtain ⟨y, hy, e⟩ := List.mem_map.mp hx
      rw [← e]; exact pcs_le hog hp0 y hy
    rw [List.length_map, pcs_len hpl hdl] at e2
    exact e2
  have hpvl : pv.length = 7 := by rw [hpv.length, hpl]
  generalize htp : tx (pcs og ps ds).flatten = txt at *
  dsimp only [lawLed, rdAll, rdIn, List.cons_append, List.nil_append] at N
  k_steps
  refine unhold ?_
  k_dflt refine Assign_X (F₀ := by k_asm) (by rfl) (by rfl) (by rfl) (by decide) (by rfl) (by decide) (by rfl) (by rfl) (by rfl) ?_
  k_steps
  refine unhold ?_
  refine' WalkSrc.list (its := pv.toArray) (k := _) rfl ?F ?N ?hm ?hz ?R
  case F => k_asm
  case N => k_asm
  case hm => k_mem
  case hz => simp only [PySem.sizeLine_eq, List.size_toArray]; (first | lia | omega)
  case R =>
    intro g6
    rw [List.size_toArray, hpvl]
    refine compRest (n := 7) (fun i ys nw => ∃ pre tl vs n, ∃ ln : Int, Pre9 pre ∧ StrsAre ys (wds og (ps.take i)) ∧ StrsAre vs ((leftAt (pcs og ps ds) pre i).map sgn) ∧ ln = 1 + (((pcs og ps ds).take i).flatten.count 10 : Nat) ∧ nw = lawLed w.params R ln tl [] k vs n tps dw pl dr L wv pv dv oR oW oP oO oD oS) ?turn6 ?fin6 7 0 [] _ rfl ⟨[], tl, vs, n, 1, .inl rfl, .nil, hvs, rfl, rfl⟩
    case turn6 =>
      intro i6 ys6 nw6 hi6 hJ6 v6 I6 oI6 C6 oC6 D6 m₆ h7 tk7 E6 hP6 hC6 hx6 F6 N6 off6 ne6
      obtain ⟨pre, tl6, vs6, n6', ln6, hpre, hys, hvs6, hln, e⟩ := hJ6
      subst e
      obtain ⟨pre', hpre', hturn⟩ := tok_turn (ds := ds) hog hp0 (i := i6) (by (first | lia | omega)) (by (first | lia | omega)) hpre ln6
      have hlen := left_len (pcs og ps ds) pre hpre hfl i6
      have hcn : ((pcs og ps ds).take i6).flatten.count 10 ≤ 49 := by
        refine Nat.le_trans List.count_le_length (Nat.le_trans ?_ hfl)
        conv => rhs; rw [← List.take_append_drop i6 (pcs og ps ds)]
        rw [List.flatten_append, List.length_append]; (first | lia | omega)
      have hls := lines_step (pcs og ps ds) i6
      have hln0 : 0 ≤ ln6 ∧ ln6 ≤ 100 := by (first | lia | omega)
      have hln1 : ln6 + (((pcs og ps ds).getD i6 []).count 10 : Nat) = 1 + (((pcs og ps ds).take (i6 + 1)).flatten.count 10 : Nat) := by (first | lia | omega)
      generalize ln6 + (((pcs og ps ds).getD i6 []).count 10 : Nat) = ln7 at hturn hln1
      clear hls hcn hln
      generalize hxs : leftAt (pcs og ps ds) pre i6 = xs6 at hvs6 hlen hturn
      generalize hxs7 : leftAt (pcs og ps ds) pre' (i6 + 1) = xs7 at hturn
      have hwt := wds_take (o := og) (ps := ps) (i := i6) (by (first | lia | omega))
      generalize wd og (ps.getD i6 0) = w6 at hturn hwt
      clear hxs N F hvs
      dsimp only [lawLed, rdAll, rdIn, List.cons_append, List.nil_append] at N6 off6
      k_steps
      refine unhold ?_
      refine' Does.use (tok_lex w R hR ln6 tl6 k xs6 ⟨by (first | lia | omega), by (first | lia | omega)⟩ vs6 hvs6 n6') ?B ?F ?X ?N ?T ?hk ?hd ?hu ?hp ?hr ?_
      case B => k_asm
      case F => k_asm
      case X => k_asm
      case N => exact N6
      case T => k_asm
      case hk => exact rfl
      case hd => ktr_room
      case hu => ktr_units
      case hp => kxw_bool
      case hr => exact rest3 off6 (by kxw_bool) (by kin_val)
      intro n0 v post h' tk' l0 hP F' N'
      obtain ⟨tk8, tl8, vs8, n8', e, e2, hvs8⟩ := hP
      subst e
      subst e2
      rw [hturn] at N' hvs8 ⊢
      clear l0
      dsimp only at N' hvs8 ⊢
      have off8 : LCg.Off3 I6 C6 D6 (lawLed w.params R ln7 tl8 [] k vs8 n8' tps dw pl dr L wv pv dv oR oW oP oO oD oS) := off6
      dsimp only [lawLed, rdAll, rdIn, List.cons_append, List.nil_append] at off8
      refine LCg.CompEnd.intro F' N' _ (by kxw_bool) off8 ⟨_, by k_mem⟩ (unhold ⟨pre', tl8, vs8, n8', ln7, hpre', ?_, ?_, hln1, rfl⟩)
      · rw [hwt]
        exact strs_app hys (.cons _ _ .nil)
      · rw [hxs7]
        exact hvs8
    case fin6 =>
      rintro ys6 nw6 ⟨pre, tl6, vs6, n6', ln6, hpre, hys, hvs6, hln, e⟩
      subst e
      rw [List.take_of_length_le (by (first | lia | omega))] at hys
      rw [stop_end hpre _ 7 (by rw [pcs_len hpl hdl]; exact Nat.le_refl _)] at hvs6
      rw [List.take_of_length_le (by rw [pcs_len hpl hdl]; exact Nat.le_refl _)] at hln
      clear N F
      intro yl h6 tk6 F6 N6 hm6
      dsimp only [lawLed, rdAll, rdIn, List.cons_append, List.nil_append] at N6 hm6
      have hys7 : ys6.length = 7 := by rw [hys.length]; simp [wds, hpl]
      k_steps
      refine unhold ?_
      k_dflt refine ListComp_X (F₀ := by k_asm) (by rfl) (by decide) (by rfl) (by decide) (by rfl) ?_
      k_steps
      refine unhold ?_
      refine' WalkSrc.list (its := ys6.toArray) (k := _) rfl ?F ?N ?hm ?hz ?R
      case F => k_asm
      case N => k_asm
      case hm => k_mem
      case hz => simp only [PySem.sizeLine_eq, List.size_toArray]; (first | lia | omega)
      case R =>
        intro g7
        rw [List.size_toArray, hys7]
        refine compRestC (fun i ys => IntsAre ys (ps.take i)) ?j7 ?turn7 ?fin7
        case j7 => exact .nil
        case turn7 =>
          intro i7 ys7 hi7 hJ7 v7 I7 oI7 C7 oC7 D7 m₇ h8 tk8 E7 hP7 hC7 hx7 F7 N7 off7 ne7
          obtain ⟨tz, hv7⟩ := strs_at hys (by simpa using hP7)
          obtain ⟨hz7, e⟩ := hv7
          subst e
          clear F6 N6 hz7 hP7
          have hpk := hp0 _ (getD_mem (d := 0) (by (first | lia | omega) : i7 < ps.length))
          have hw7 : (wds og ps).getD i7 Str.empty = tx (wd og (ps.getD i7 0)) := by simp [wds, List.getD, show i7 < ps.length by (first | lia | omega)]
          have htk : ps.take (i7 + 1) = ps.take i7 ++ [ps.getD i7 0] := by
            rw [List.take_add_one, List.getElem?_eq_getElem (by (first | lia | omega))]
            simp [List.getD, show i7 < ps.length by (first | lia | omega)]
          rw [hw7] at hx7
          clear hw7
          generalize ps.getD i7 0 = p7 at hpk hx7 htk
          have hwl : (wd og p7).length ≤ 3 := wd_len hog ⟨by (first | lia | omega), by (first | lia | omega)⟩
          k_steps
          refine unhold ?_
          refine' Does.use (lnumber w (wd og p7) _ (by (first | lia | omega)) fun c hc => wd_mem hc) ?B ?F ?X ?N ?T ?hk ?hd ?hu ?hp ?hr ?_
          walk_at "m args"
          clear F7 N7
          intro n0 v post h' tk' l0 hP F' N'
          obtain ⟨tk7, e, e2⟩ := hP
          subst e
          subst e2
          clear l0
          dsimp only [List.nil_append] at N'
          rw [num_wd (by (first | lia | omega))]
          k_steps
          have hsub : og + p7 - og = p7 := by (first | lia | omega)
          refine LCg.CompEnd.intro F' N' _ (by kxw_bool) off7 ⟨_, by k_mem⟩ (unhold ⟨rfl, ?_⟩)
          rw [htk, hsub]
          exact ints_app hJ7 (.cons _ _ .nil)
        case fin7 =>
          intro ns7 hns
          rw [List.take_of_length_le (by (first | lia | omega))] at hns
          intro nl h8 tk8 F8 N8 hm8
          clear F6 N6
          k_steps
          refine unhold ?_
          refine ke_ne_ints (News.isList N8 (by k_mem)) (News.isList N8 (by k_mem)) hns hpv ?hu ?_
          case hu => ktr_units
          rw [decide_eq_true rfl, Bool.not_true]
          k_steps
          refine unhold ?_
          rename Fr _ _ _ _ => F9
          rename News _ _ _ _ => N9
          subst htp
          refine' lawD w fa cd og tg hog ps ds pv dv wv ys6 hpv hds hys hpl hdl hp0 hd0 dr pl dw L yl hL oR oW oP oO oD oS R hR hR1 dR dP dO dD l1 l2 l3 l4 n4 n5 n6 n7 n8 n9 hcd hcp tl6 vs6 n6' k (pre ++ [46]) (fun z => stop_tok hpre z) ?hxl hvs6 ln6 (pcs og ps ds).flatten hfl hln tps tt hm6 B X T F9 ?N hQ
          case hxl => have := pre_len hpre; rw [List.length_append]; simp only [List.length_cons, List.length_nil]; (first | lia | omega)
          case N =>
            intro p hp
            refine N9 p ?_
            revert p hp
            dsimp only [lawLed, rdAll, rdIn, List.cons_append, List.nil_append]
            kxw_bool

end
section
theorem startLawB1 : True := by
  w_top off
  k_with "LawB1 0" => ((with_reducible show wpAny _ _ (execs (Stmt.Assign [Expr.Name (Str.ofString "given") _] _ _ :: _) _) _ _ _); refine hold ?_)
  k_with "LawB1 1" => ((with_reducible show wpAny _ _ (subscriptTail _ _ (Value.ref _) (Value.int _ _)) _ _ _); refine hold ?_)
  trivial
local macro_rules | `(tactic| walk_at "execs cons Assign cons") => `(tactic| k_extra "LawB1 0")
local macro_rules | `(tactic| walk_at "call ref") => `(tactic| refine hold ?_)
local macro_rules | `(tactic| walk_at "eval ListComp") => `(tactic| refine hold ?_)
local macro_rules | `(tactic| walk_at "pyIter ref") => `(tactic| refine hold ?_)
local macro_rules | `(tactic| walk_at "call builtin:str.join") => `(tactic| refine hold ?_)
local macro_rules | `(tactic| walk_at "subscriptTail") => `(tactic| k_extra "LawB1 1")
theorem lawB (w : World) (fa : Addr) (cd : Value) (og : Int) (tg : Tok) (hog : 0 ≤ og ∧ og < 3000) (ps ds : List Int) (pv dv wv : List Value) (hpv : IntsAre pv ps) (hds : IntsAre dv ds) (hwv : StrsAre wv (wds og ps)) (hpl : ps.length = 7) (hdl : ds.length = 7) (hp0 : ∀ p ∈ ps, 13 ≤ p ∧ p ≤ 17) (hd0 : ∀ d ∈ ds, 0 ≤ d)
    (dr pl dw L : Nat) (hL : 109 < L) (oR oW oP oO oD oS : Obj) (vR : Option Value) (dR : oR.data = .cell vR) (dW : oW.data = .cell (some (.ref dw))) (dP : oP.data = .cell (some (.ref pl))) (dO : oO.data = .cell (some (.int og tg))) (dD : oD.data = .cell (some (.ref dr)))
    (n1 : dr ≠ L + 1 + 1 + 1 + 1 + 1 + 1) (n2 : pl ≠ L + 1 + 1 + 1 + 1 + 1 + 1) (n3 : dw ≠ L + 1 + 1 + 1 + 1 + 1 + 1) (n4 : dr ≠ 109) (n5 : pl ≠ 109) (n6 : dw ≠ 109) (n7 : pl ≠ dr) (n8 : dw ≠ pl) (n9 : dw ≠ dr) (hcd : Cells6 L dr) (hcp : Cells6 L pl) :
    ∀ {p : Program} {loose : List Str} {mean : ExcName → Option Value} {mg mb : Str → Option Value} {g : Heap} {m : Str → Option Value} {s : Shared} {R1 : Value → Shared → Prop} {Q : Flow → Shared → Prop}
   (_ : Below callerA g [] g) (_ : (hd.heap_39 w.params).In g) (_ : Top p loose mean mg mb g) (_ : Fr g L s.heap m)
   (_ : News g L s.heap [(dw, LCg.lst wv), (pl, LCg.lst pv), (dr, LCg.lst dv), (L + 1 + 1 + 1 + 1 + 1 + 1, oR), (L + 1 + 1 + 1 + 1 + 1, oW), (L + 1 + 1 + 1 + 1, oP), (L + 1 + 1 + 1, oO), (L + 1 + 1, oD), (L + 1, oS), (109, tabObj #[])])
   (_ : ∀ h' tk m' nw qs, Fr g L h' m' → News g L h' nw → (109, tabObj qs) ∈ nw → Q (.ret (.bool true)) { s with heap := h', toks := tk }),
   wpAny (model row.prog w) (callerA.deeper (lawEnv L fa cd)) (execs (lawBody 4) (lawEnv L fa cd)) Q (lawErr w L fa cd R1) s := by
  k_fill
  intro p loose mean mg mb g m s R1 Q B X T F N hQ
  unfold lawErr
  unfold lawEnv
  generalize hsc : lawScope = sc
  generalize hb : lawBody 4 = b
  conv at hsc => lhs; whnf
  conv at hb => lhs; whnf
  subst hsc
  subst hb
  k_steps
  refine unhold ?_
  k_dflt refine ListComp_X (F₀ := by k_asm) (by rfl) (by decide) (by rfl) (by decide) (by rfl) ?_
  k_steps
  refine unhold ?_
  rename IsRange _ _ _ _ _ _ _ _ => R9
  refine' WalkSrc.range (n := 7) rfl ?F ?N R9 (by decide) (by decide) ?sz ?kk
  case F => k_asm
  case N => k_asm
  case sz => simp only [PySem.sizeLine_eq]; (first | lia | omega)
  case kk =>
    intro g5
    have hwl : wv.length = 7 := by rw [hwv.length]; simp [wds, hpl]
    refine compRestC (fun i ys => StrsAre ys ((pcs og ps ds).take i |>.map tx)) ?j3 ?turn3 ?fin3
    case j3 => exact .nil
    case turn3 =>
      intro i5 ys5 hi5 hJ5 v5 I5 oI5 C5 oC5 D5 m₅ h6 tk6 E5 hP5 hC5 hx5 F6 N6 off5 ne5
      obtain ⟨t, e⟩ := hP5
      subst e
      rw [Int.zero_add] at hx5
      k_steps
      refine unhold ?_
      have hi7 : (i5 : Int) < 7 := by (first | lia | omega)
      refine' item_txs (n := _) (ps.map (wd og)) ?N ?m hwv ?hy (by (first | lia | omega)) ?hk ?hl ?_
      case N => k_asm
      case m => k_mem
      case hy => simp [wds]
      case hk => rw [List.length_map, hpl]; exact hi7
      case hl => rw [List.length_map, hpl]; decide
      intro t1
      k_steps
      refine unhold ?_
      rw [show (i5 : Int).toNat = i5 from rfl]
      have hwi : (ps.map (wd og)).getD i5 [] = wd og (ps.getD i5 0) := by simp [List.getD, show i5 < ps.length by (first | lia | omega)]
      have hff := fmod_lt (Int.fdiv (ds.getD i5 0) 30) (b := 4) (by decide)
      have hfo : Int.fmod (Int.fdiv (ds.getD i5 0) 30) 4 = ((formOf (ds.getD i5 0) : Nat) : Int) := by unfold formOf; (first | lia | omega)
      have hf4 : formOf (ds.getD i5 0) < 4 := by unfold formOf; (first | lia | omega)
      have hat := pcs_at (o := og) (ps := ps) (ds := ds) (i := i5) (by (first | lia | omega)) (by (first | lia | omega))
      have hpk := hp0 _ (getD_mem (d := 0) (by (first | lia | omega) : i5 < ps.length))
      have hpz : (wd og (ps.getD i5 0)).length ≤ 10000 := Nat.le_trans (wd_len hog ⟨by (first | lia | omega), by (first | lia | omega)⟩) (by decide)
      rw [hwi, hfo]
      generalize wd og (ps.getD i5 0) = wo at *
      generalize formOf (ds.getD i5 0) = fo at *
      refine' Does.use (piece _ wo _ fo _ hpz hf4) ?B ?F ?X ?N ?T ?hk ?hd ?hu ?hp ?hr ?_
      walk_at "m args"
      intro n0 v post h' tk' l0 hP F' N'
      obtain ⟨tk7, e, e2⟩ := hP
      subst e
      subst e2
      clear l0
      refine LCg.CompEnd.intro F' N' _ (by kxw_bool) off5 trivial (unhold ⟨rfl, ?_⟩)
      rw [List.take_add_one, hat, List.map_append]
      exact strs_app hJ5 (.cons _ _ .nil)
    case fin3 =>
      intro yv hyv
      rw [List.take_of_length_le (by rw [pcs_len hpl hdl]; exact Nat.le_refl _)] at hyv
      intro yl h6 tk6 F6 N6 hm6
      obtain ⟨m31, m32, m33, m34, m35, m36, m37, m38, m39, m30, _⟩ := hm6
      dsimp only at m31 m32 m33 m34 m35 m36 m37 m38 m39 m30
      have htl := pcs_le (o := og) (ps := ps) (ds := ds) hog hp0
      have htn := pcs_len (o := og) hpl hdl
      generalize hpc : pcs og ps ds = pc at hyv htl htn
      k_steps
      refine unhold ?_
      refine' join_list ?h ?sa ?z ?_
      case h => exact News.isList (by k_asm) (by k_mem)
      case sa => exact hyv
      case z =>
        have e1 : ((pc.map tx).map (·.length)).sum = (pc.map List.length).sum := by
          rw [List.map_map]
          exact congrArg List.sum (List.map_congr_left fun x _ => tx_len x)
        have e2 := sum_le (ls := pc.map List.length) (b := 7) fun x hx => by
          obtain ⟨y, hy, e⟩ := List.mem_map.mp hx
          rw [← e]; exact htl y hy
        rw [e1, show (Str.ofString "").length = 0 by decide +kernel]
        rw [List.length_map] at e2
        (first | lia | omega)
      rw [join_txs]
      intro t9 tk9
      have hfl : pc.flatten.length ≤ 49 := by
        rw [List.length_flatten]
        have e2 := sum_le (ls := pc.map List.length) (b := 7) fun x hx => by
          obtain ⟨y, hy, e⟩ := List.mem_map.mp hx
          rw [← e]; exact htl y hy
        rw [List.length_map, htn] at e2
        exact e2
      k_steps
      rw [show Str.ofString "." = tx [46] by decide +kernel]
      refine add_tx ?z2 ?_
      case z2 => simp only [List.length_cons, List.length_nil]; (first | lia | omega)
      intro t10 tk10
      k_steps
      refine unhold ?_
      refine' Does.use (reader _ (tx (pc.flatten ++ [46])) _ ?z3) ?B ?F ?X ?N ?T ?hk ?hd ?hu ?hp ?hr ?_
      case z3 => rw [tx_len, List.length_append]; simp only [List.length_cons, List.length_nil]; (first | lia | omega)
      walk_at "m args"
      intro n0 v post h' tk' l0 hP F' N'
      obtain ⟨R, tl, vs, n, k, tps, hR, hR1, hR2, hvs, e, e2⟩ := hP
      subst e
      subst e2
      k_lt l0
      have ha := hR.lt
      dsimp only [rdAll, rdIn, List.cons_append, List.nil_append] at N'
      k_steps
      refine unhold ?_
      subst hpc
      rename Fr _ _ _ _ => F9
      rename News _ _ _ _ => N9
      rename Obj.data _ = Data.cell (some (Value.ref R.x)) => dR9
      have ll : @LT.lt Nat _ dr R.cl ∧ @LT.lt Nat _ pl R.cl ∧ @LT.lt Nat _ dw R.cl ∧ @LT.lt Nat _ (L + 1 + 1 + 1 + 1 + 1 + 1) R.cl := ⟨by (first | lia | omega), by (first | lia | omega), by (first | lia | omega), by (first | lia | omega)⟩
      refine' lawC w fa cd og tg hog ps ds pv dv wv hpv hds hpl hdl hp0 hd0 dr pl dw L hL _ oW oP oO oD oS R hR hR1 dR9 dP dO dD ll.1 ll.2.1 ll.2.2.1 ll.2.2.2 n4 n5 n6 n7 n8 n9 hcd hcp tl vs n k ?hvs tps _ B X T F9 ?N hQ
      case hvs => rw [signs_tx] at hvs; exact hvs
      case N =>
        intro p hp
        refine N9 p ?_
        revert p hp
        dsimp only [lawLed, rdAll, rdIn, List.cons_append, List.nil_append]
        kxw_bool

end
section
theorem startLaw1 : True := by
  w_top off
  k_with "Law1 0" => ((with_reducible show wpAny _ _ (execs (Stmt.Assign [Expr.Name (Str.ofString "text") _] _ _ :: _) _) _ _ _); refine hold ?_)
  trivial
local macro_rules | `(tactic| walk_at "call ref") => `(tactic| refine hold ?_)
local macro_rules | `(tactic| walk_at "execs cons Assign cons") => `(tactic| k_extra "Law1 0")
local macro_rules | `(tactic| walk_at "eval ListComp") => `(tactic| refine hold ?_)
local macro_rules | `(tactic| walk_at "pyIter ref") => `(tactic| refine hold ?_)
local macro_rules | `(tactic| walk_at "call builtin:sum") => `(tactic| refine hold ?_)
theorem pick_int {vs : List Value} {ns : List Int} (h : IntsAre vs ns) {lo hi st : Option Int} {j : Nat} {v : Value} (e : (slicePick vs.toArray lo hi st)[j]? = some v) : ∃ z u, v = .int z u := by
  have hm := Array.mem_of_getElem? e
  unfold slicePick at hm
  simp only [List.mem_toArray, List.mem_filterMap] at hm
  obtain ⟨a, _, ha⟩ := hm
  have ha' : vs[a]? = some v := by simpa using ha
  obtain ⟨z, u, _, e⟩ := ints_at h ha'
  exact ⟨z, u, e⟩
theorem mod_pos (z : Int) : 0 ≤ Int.fmod z (10 ^ 6) := by rw [Int.fmod_eq_emod_of_nonneg _ (by decide)]; (first | lia | omega)
theorem sum_pos : ∀ {zs : List Int}, (∀ z ∈ zs, 0 ≤ z) → 0 ≤ zs.sum
  | [], _ => Int.le_refl _
  | z :: zs, h => by rw [List.sum_cons]; have := sum_pos fun x hx => h x (.tail _ hx); have := h z (.head _); (first | lia | omega)
theorem getDi_all {ls : List Int} {P : Int → Prop} (h : ∀ x ∈ ls, P x) (h0 : P 0) (i : Nat) : P (ls.getD i 0) := by
  by_cases hi : i < ls.length
  · have : ls.getD i 0 = ls[i] := by simp [List.getD, hi]
    rw [this]; exact h _ (List.getElem_mem hi)
  · have : ls.getD i 0 = 0 := by simp [List.getD, Nat.not_lt.mp hi]
    rw [this]; exact h0
theorem base_pos (i : Nat) : 0 ≤ [(28712 : Int), 22, 78, 102, 0, 48, 64].getD (i : Int).toNat 0 := getDi_all (P := fun x => 0 ≤ x) (by decide) (by decide) _
set_option maxHeartbeats 8000000
theorem lawtop : PySem.Challenge.rw_xe0009_01.Holds := hd (by
  k_go0
  all_goals try k_fold
  k_steps
  refine unhold ?_
  k_dflt refine ListComp_X (F₀ := by k_asm) (by rfl) (by decide) (by rfl) (by decide) (by rfl) ?_
  k_steps
  refine unhold ?_
  rename IsRange _ _ _ _ _ _ _ _ => R9
  refine' WalkSrc.range (n := 7) rfl ?F ?N R9 (by decide) (by decide) ?sz ?kk
  case F => k_asm
  case N => k_asm
  case sz => simp only [PySem.sizeLine_eq]; (first | lia | omega)
  case kk =>
    intro g2
    rename IntsAre _ _ => hscr
    refine compRestC (fun i ys => ∃ ds, IntsAre ys ds ∧ ds.length = i ∧ ∀ d ∈ ds, 0 ≤ d) ?j0 ?turn ?fin
    case j0 => exact ⟨[], .nil, rfl, fun _ h => by cases h⟩
    case turn =>
      intro i ys hi hJ v I oI C oC D m₂ h tk E' hP hC hx F N off ne
      obtain ⟨ds, hds, hdl, hd0⟩ := hJ
      obtain ⟨t, e⟩ := hP
      subst e
      rw [Int.zero_add] at hx
      k_steps
      refine unhold ?_
      k_dflt refine ListComp_X (F₀ := by k_asm) (by rfl) (by decide) (by rfl) (by decide) (by rfl) ?_
      k_steps
      refine unhold ?_
      refine' WalkSrc.list (its := slicePick _ _ _ _) (k := 0) rfl ?F ?N ?hm ?hz ?R
      case F => k_asm
      case N => k_asm
      case hm => k_mem
      case hz =>
        refine Nat.le_trans (PySem.slicePick_size_le _ _ _ _) ?_
        have := hscr.length
        simp only [PySem.sizeLine_eq, List.size_toArray]
        (first | lia | omega)
      case R =>
        intro g3
        refine compRestC (fun i ys => ∃ zs, IntsAre ys zs ∧ ∀ z ∈ zs, 0 ≤ z) ?j1 ?turn1 ?fin1
        case j1 => exact ⟨[], .nil, fun _ h => by cases h⟩
        case turn1 =>
          intro i2 ys2 hi2 hJ2 v2 I2 oI2 C2 oC2 D2 m₃ h3 tk3 E3 hP2 hC2 hx2 F2 N2 off2 ne2
          obtain ⟨zs, hzs, hz0⟩ := hJ2
          obtain ⟨z, u, e⟩ := pick_int hscr hP2
          subst e
          k_steps
          refine LCg.CompEnd.intro F2 N2 _ (fun p h => h) off2 ⟨0, by k_mem⟩ (unhold ⟨rfl, _, ints_app hzs (.cons _ _ .nil), ?_⟩)
          intro x hx
          rcases List.mem_append.mp hx with hx | hx
          · exact hz0 x hx
          · rw [List.mem_singleton.mp hx]; exact mod_pos z
        case fin1 =>
          intro ys2 hJ2
          obtain ⟨zs, hzs, hz0⟩ := hJ2
          have hs0 := sum_pos hz0
          intro D2 h3 tk3 F3 N3 hm3
          k_steps
          refine unhold ?_
          refine' sumK rfl ?F ?N (News.isList ?N2 ?m2) hzs ?_
          case F => k_asm
          case N => k_asm
          case N2 => k_asm
          case m2 => k_mem
          intro h4 tk4 t4 F4 N4
          k_steps
          refine LCg.CompEnd.intro F4 N4 _ (by kxw_bool) off trivial (unhold ⟨rfl, _, ints_app hds (.cons _ _ .nil), ?_, ?_⟩)
          · rw [List.length_append, hdl]; rfl
          · intro x hx
            rcases List.mem_append.mp hx with hx | hx
            · exact hd0 x hx
            · rw [List.mem_singleton.mp hx]
              have := base_pos i
              (first | lia | omega)
    case fin =>
      intro dv hJ
      obtain ⟨ds, hds, hdl, hd0⟩ := hJ
      intro dr h tk F N hm
      obtain ⟨m1, m2, m3, m4, m5, m6, m7, _⟩ := hm
      k_steps
      refine unhold ?_
      rename _ = Data.cell (some (Value.int _ _)) => dog
      generalize hgo : Int.fmod (Int.fdiv (ds.getD _ _) 120) 3000 = og at dog
      have hog : 0 ≤ og ∧ og < 3000 := by rw [← hgo]; exact fmod_lt _ (by decide)
      clear hgo
      k_dflt refine ListComp_X (F₀ := by k_asm) (by rfl) (by decide) (by rfl) (by decide) (by rfl) ?_
      k_steps
      refine unhold ?_
      try clear F N
      refine' WalkSrc.list (its := dv.toArray) (k := _) rfl ?F ?N ?hm ?hz ?R
      case F => k_asm
      case N => k_asm
      case hm => k_mem
      case hz =>
        have := hds.length
        simp only [PySem.sizeLine_eq, List.size_toArray]
        (first | lia | omega)
      case R =>
        intro g3
        refine compRestC (fun i ys => ∃ ps, IntsAre ys ps ∧ ps.length = i ∧ ∀ p ∈ ps, 13 ≤ p ∧ p ≤ 17) ?j1 ?turn1 ?fin1
        case j1 => exact ⟨[], .nil, rfl, fun _ h => by cases h⟩
        case turn1 =>
          intro i2 ys2 hi2 hJ2 v2 I2 oI2 C2 oC2 D2 m₃ h3 tk3 E3 hP2 hC2 hx2 F2 N2 off2 ne2
          obtain ⟨ps, hps, hpl, hp0⟩ := hJ2
          obtain ⟨z, u, _, e⟩ := ints_at hds (by simpa using hP2)
          subst e
          k_steps
          refine LCg.CompEnd.intro F2 N2 _ (fun p h => h) off2 ⟨_, by k_mem⟩ (unhold ⟨rfl, _, ints_app hps (.cons _ _ .nil), by rw [List.length_append, hpl]; rfl, ?_⟩)
          intro x hx
          rcases List.mem_append.mp hx with hx | hx
          · exact hp0 x hx
          · rw [List.mem_singleton.mp hx]
            have := fmod_lt z (b := 5) (by decide)
            (first | lia | omega)
        case fin1 =>
          intro pv hJ2
          obtain ⟨ps, hps, hpl, hp0⟩ := hJ2
          have hdvl : dv.length = 7 := by rw [hds.length, hdl]
          rw [List.size_toArray, hdvl] at hpl
          intro pl h3 tk3 F3 N3 hm3
          obtain ⟨m11, m12, m13, m14, m15, m16, m17, m18, _⟩ := hm3
          k_steps
          refine unhold ?_
          k_dflt refine ListComp_X (F₀ := by k_asm) (by rfl) (by decide) (by rfl) (by decide) (by rfl) ?_
          k_steps
          refine unhold ?_
          clear R9
          rename IsRange _ _ _ _ _ _ _ _ => R9
          refine' WalkSrc.range (n := 7) rfl ?F ?N R9 (by decide) (by decide) ?sz ?kk
          case F => k_asm
          case N => k_asm
          case sz => simp only [PySem.sizeLine_eq]; (first | lia | omega)
          try clear F3 N3
          case kk =>
            intro g4
            refine compRestC (fun i ys => StrsAre ys (wds og (ps.take i))) ?j2 ?turn2 ?fin2
            case j2 => exact .nil
            case turn2 =>
              intro i4 ys4 hi4 hJ4 v4 I4 oI4 C4 oC4 D4 m₄ h4 tk4 E4 hP4 hC4 hx4 F4 N4 off4 ne4
              obtain ⟨t, e⟩ := hP4
              subst e
              rw [Int.zero_add] at hx4
              have hpk := hp0 _ (getD_mem (d := 0) (by (first | lia | omega) : (i4 : Int).toNat < ps.length))
              have hwt := wds_take (o := og) (ps := ps) (i := i4) (by (first | lia | omega))
              rw [show (i4 : Int).toNat = i4 from rfl] at hpk
              k_steps
              all_goals
                refine unhold ?_
                rename Fr _ _ _ _ => F5
                rename News _ _ _ _ => N5
                rw [show (i4 : Int).toNat = i4 from rfl]
                generalize ps.getD i4 0 = pk at hpk hwt
              · have hwa := wd_abs (o := og) (p := pk) (s := 1) (by (first | lia | omega)) (.inl rfl)
                refine' Does.use (lword _ _ _ ?z) ?B ?F ?X ?N ?T ?hk ?hd ?hu ?hp ?hr ?_
                case z => rw [hwa]; exact Nat.le_trans (wd_len hog ⟨by (first | lia | omega), by (first | lia | omega)⟩) (by decide)
                walk_at "m args"
                intro n0 v post h' tk' l0 hP F' N'
                obtain ⟨tk7, e, e2⟩ := hP
                subst e
                subst e2
                clear l0
                rw [hwa]
                refine LCg.CompEnd.intro F' N' _ (by kxw_bool) off4 trivial (unhold ⟨rfl, ?_⟩)
                rw [hwt]
                exact strs_app hJ4 (.cons _ _ .nil)
              · have hwa := wd_abs (o := og) (p := pk) (s := -1) (by (first | lia | omega)) (.inr rfl)
                refine' Does.use (lword _ _ _ ?z) ?B ?F ?X ?N ?T ?hk ?hd ?hu ?hp ?hr ?_
                case z => rw [hwa]; exact Nat.le_trans (wd_len hog ⟨by (first | lia | omega), by (first | lia | omega)⟩) (by decide)
                walk_at "m args"
                intro n0 v post h' tk' l0 hP F' N'
                obtain ⟨tk7, e, e2⟩ := hP
                subst e
                subst e2
                clear l0
                rw [hwa]
                refine LCg.CompEnd.intro F' N' _ (by kxw_bool) off4 trivial (unhold ⟨rfl, ?_⟩)
                rw [hwt]
                exact strs_app hJ4 (.cons _ _ .nil)
            case fin2 =>
              intro wv hwv
              rw [List.take_of_length_le (by (first | lia | omega))] at hwv
              intro dw h5 tk5 F5 N5 hm5
              obtain ⟨m21, m22, m23, m24, m25, m26, m27, m28, m29, _⟩ := hm5
              k_steps
              refine unhold ?_
              rename Fr _ _ _ _ => F9
              rename News _ _ _ _ => N9
              rename Obj.data _ = Data.cell (some (Value.ref dw)) => dW9
              rename Obj.data _ = Data.cell (some (Value.ref pl)) => dP9
              rename Obj.data _ = Data.cell (some (Value.ref dr)) => dD9
              rename Below _ _ _ _ => B9
              rename Frag.In _ _ => X9
              rename ∀ P : Addr, P ∈ _ → Heap.get? _ P = some _ => hT8
              have hL := Heap.lt_size (hT8 109 (.head _))
              refine' lawB _ _ _ og _ hog ps ds pv dv wv hps hds hwv hpl hdl hp0 hd0 dr pl dw _ hL _ _ _ _ _ _ _ ?dR dW9 dP9 dog dD9 (Ne.symm ?n1) (Ne.symm ?n2) (Ne.symm ?n3) (Ne.symm m7) (Ne.symm m18) (Ne.symm m29) (Ne.symm m11) (Ne.symm m21) (Ne.symm m22) ⟨m1, m2, m3, m4, m5, m6⟩ ⟨m12, m13, m14, m15, m16, m17⟩ B9 X9 ?T F9 N9 ?hQ
              case T => k_asm
              case n1 => exact m1
              case n2 => exact m12
              case n3 => exact m23
              case dR => assumption
              case hQ =>
                intro h9 tk9 m9 nw9 qs F N hq
                clear F9 N9
                k_steps
  )

end
end
end Mine
theorem PySem.Challenge.cw_xe0009_01_holds : PySem.Challenge.rw_xe0009_01.Holds :=
  Mine.lawtop
