import PyProof.Rows.All
import Wide.All
import OpenK.AllK
import Wide.FinOn
import PySem.Challenge.RW_ah6020_01
open PySem PySem.W PySem.Calls PyProof.Rows PySem.Spec
set_option Elab.async false
set_option maxRecDepth 100000
set_option maxHeartbeats 8000000
namespace Mine
-- part Hd
open_top hd for PySem.Challenge.rw_ah6020_01
local macro_rules | `(tactic| k_room) => `(tactic| ktr_room)
local macro_rules | `(tactic| walk_at "MINE ctx") => `(tactic| ((case k1 => k_asm); (case k2 => k_asm); (case k3 => k_asm); (case k4 => k_asm); (case k5 => first | exact rfl | assumption); (case k6 => ktr_room); (case k7 => ktr_units); (case k8 => k_asm)))
local macro_rules | `(tactic| walk_at "MINE box") => `(tactic| exact ⟨by assumption, by assumption, by is_list, by omega, by omega, by omega⟩)
local macro_rules | `(tactic| walk_at "binaryOp Add str str") => `(tactic| ((with_reducible show wpAny _ _ (binaryOp Operator.Add (Value.str _ _) (Value.str _ _)) _ _ _); (refine KOpn.add (by kopn_len) ?_); intro _ _ hcl'; clear hcl'))
local macro_rules | `(tactic| walk_at "call builtin:str.upper") => `(tactic| (k_here; (with_reducible show wpAny _ _ (call (Value.builtin "str.upper") [Value.str _ _]) _ _ _); (refine SCL.upper (by kopn_len) ?_); intro hul'; (try simp only [PySem.Str.length_append] at hul')))
local macro_rules | `(tactic| walk_at "MINE klist") => `(tactic| first | is_list | exact lstK (Frag.In.keeps (by k_asm) (Fr.keep (by k_asm))) (by k_is))
local macro_rules | `(tactic| walk_at "subscriptTail") => `(tactic| (k_here; (with_reducible show wpAny _ _ (subscriptTail _ (PySem.Expr.Constant (Const.int _) _ _) (Value.ref _) (Value.int _ _)) _ _ _); k_dflt (refine' topList_K ?F ?X ?l ?a ?b ?d ?_; (case F => k_asm); (case X => k_asm); (case l => k_is); (case a => decide); (case b => decide); (case d => rfl); k_whole)))
-- part Base
section
/-- what a call may touch: own; all else is kept -/
def Keeps (own : List (Addr × Obj)) (h h' : Heap) : Prop := ∀ b o, h.get? b = some o → b ∉ own.map (·.1) → h'.get? b = some o

/-- what a call hands back to -/
def RetK (own : List (Addr × Obj)) (Post : Heap → Value → List (Addr × Obj) → Prop) (h₀ : Heap) (L : Addr) (m : Str → Option Value) (s : Shared) (Q : Value → Shared → Prop) : Prop :=
  ∀ v own' h' tk', Fr h₀ L h' m → News h₀ L h' own' → Keeps own s.heap h' → (∀ q ∈ own', q.1 ∈ own.map (·.1) ∨ s.heap.get? q.1 = none) → Post s.heap v own' → Q v { s with heap := h', toks := tk' }
/-- the way out of a def's frame -/
def LeaveG (own : List (Addr × Obj)) (h₀ : Heap) (L : Addr) (m : Str → Option Value) (h g : Heap) : Prop :=
  ∀ h' L'' m' own', Fr g L'' h' m' → News g L'' h' own' → Fr h₀ L h' m ∧ News h₀ L h' own' ∧ Keeps own h h' ∧ (∀ q ∈ own', q.1 ∈ own.map (·.1) ∨ h.get? q.1 = none)
/-- the contract of a call: own is what it may change, Post says the value and what own becomes -/
def Ctr (prog : Program) (w : World) (d : Nat) (f : Addr) (args : List Value) (own : List (Addr × Obj)) (Pre : Heap → Prop) (Post : Heap → Value → List (Addr × Obj) → Prop) : Prop :=
  ∀ (p : Program) (loose : List Str) (mean : ExcName → Option Value) (mg mb : Str → Option Value) (dp un : Nat) (gd : Option (List Code)) (cn : Str) (cs : Scope) (a : Addr) (ccd : Value) (cl : List (Str × Addr)) (outer : List Env)
    (A₀ : Around) (base h₀ : Heap) (L : Addr) (m : Str → Option Value) (s : Shared) (Q : Value → Shared → Prop) (E : Value → Shared → Prop),
    Below A₀ base outer h₀ → Fr h₀ L s.heap m → (Mine.hd.heap_39 w.params).In h₀ → Top p loose mean mg mb h₀ → cs.kind = .function → dp + d < recursionLimit → un + 8 * d < cLine →
    News h₀ L s.heap own → Pre s.heap →
    RetK own Post h₀ L m s Q →
    wpAny (model prog w) (ktrTop dp un gd cn cs L a ccd cl outer) (call (.ref f) args) Q E s

section
variable {prog : Program} {w : World} {A₀ A : Around} {s : Shared} {base h₀ : Heap} {outer : List Env} {L : Addr} {m : Str → Option Value} {env : Env} {news : List (Addr × Obj)} {K : Frag} {p : Program} {loose : List Str} {mean : ExcName → Option Value} {mg mb : Str → Option Value}
  {R : Result → Shared → Prop} {name qual : Str} {params : Arguments} {body : List Stmt} {scope : Scope} {dV kV doc pm cdv ct oc : Value} {an od : Option Addr} {osl : Array (Option Value)} {f : Addr} {args : Args} {binds : List (Str × Value)}

theorem code_own (B : Below A₀ base outer h₀) (F : Fr h₀ L s.heap m) (X₀ : K.In h₀) (N : News h₀ L s.heap news) (T : Top p loose mean mg mb h₀) (hA : A.frames = some (env :: outer)) (hf : env.frame = some L) (hke : env.scope.kind = .function)
    (ho : K.lookup f = some ⟨oc, od, .func (fnOf name qual params body scope dV kV doc pm an cdv ct), osl⟩) (hcd : codeIn K cdv qual = true) (hroom : A.depth < recursionLimit)
    (hbind : BindsTo s (fnOf name qual params body scope dV kV doc pm an cdv ct) args binds) (hloc : ∀ y ∈ binds, scope.names.lookup y.1 = some .local)
    (h : ∀ g L' h₁, Fr h₀ L g m → Fr g L' h₁ (fun y => binds.reverse.lookup y) → News g L' h₁ news → Below A base (env :: outer) g → K.In g → Top p loose mean mg mb g →
      Keeps news s.heap g → L' = s.heap.objs.size → (∀ p ∈ news, p.1 < L') → LeaveG news h₀ L m s.heap g →
      wpAny (model prog w) (A.deeper (envOf qual scope L' f cdv)) (execs body (envOf qual scope L' f cdv))
        (fun fl s' => R (.ok (.ret (match fl with | .ret v => v | _ => .none))) s')
        (fun e s' => wpAny (model prog w) (A.deeper (envOf qual scope L' f cdv)) (leaving (envOf qual scope L' f cdv) e) (fun _ s'' => R (.error e) s'') (fun e' s'' => R (.error e') s'') s')
        { s with heap := h₁, toks := s.toks + binds.length })
    (hco : scope.isCoroutine = false) (hgen : scope.isGenerator = false) (hk : scope.kind = .function)
    (hcell : ∀ x ∈ scope.names, x.2 ≠ .cell) : codeAny (model prog w) A (.call (.ref f) args) R s := by
  obtain ⟨FG, BG, st, lv⟩ := groundX (R := R) B F N hA hf hke
  refine codeAny_call_def (fd := fnOf name qual params body scope dV kV doc pm an cdv ct) (body := body) (binds := binds) hroom ((X₀.keeps F.keep) _ _ ho) rfl (T.nolimit.keeps F.keep) (codeRec_of (X₀.keeps F.keep) hcd) rfl hbind hcell hloc (fun h₁ hns hk₁ => ?_) hco hgen hk
  have KG : ∀ b o, s.heap.get? b = some o → b ∉ news.map (·.1) → (hideAll s.heap (news.map (·.1))).get? b = some o := fun b o e n => hideAll_get _ e n
  refine h _ s.heap.objs.size h₁ FG ⟨hns, fun b o e => hk₁ b o (of_hideAll _ e), Nat.le_of_eq (hideAll_size _ _)⟩
    (fun p hp => ⟨hk₁ _ _ (N p hp).1, Nat.ne_of_lt (Heap.lt_size (N p hp).1), hideAll_none _ (List.mem_map_of_mem hp)⟩) BG (X₀.keeps st) (T.keeps st) KG rfl (fun p hp => Heap.lt_size (N p hp).1) ?_
  intro h' L'' m' own' F' N'
  have st' : h₀.StaysIn h' := fun b o e => F'.keep b o (st b o e)
  obtain ⟨oL, es, ep, hL, hLd, hLk, hLf⟩ := F.ns
  have nL : L ∉ news.map (·.1) := fun q => by
    obtain ⟨p, hp, e⟩ := List.mem_map.mp q
    exact (N p hp).2.1 e
  have hLg := hideAll_get (news.map (·.1)) hL nL
  refine ⟨⟨⟨oL, es, ep, F'.keep L oL hLg, hLd, hLk, hLf⟩, st', F.above⟩, fun p hp => ⟨(N' p hp).1, fun q => ?_, ?_⟩, fun b o e n => F'.keep b o (KG b o e n), fun q hq => ?_⟩
  · have := (N' p hp).2.2; rw [q, hLg] at this; cases this
  · cases q : h₀.get? p.1 with
    | none => rfl
    | some o => have := (N' p hp).2.2; rw [st _ _ q] at this; cases this
  · by_cases hm : q.1 ∈ news.map (·.1)
    · exact .inl hm
    · refine .inr ?_
      cases e : s.heap.get? q.1 with
      | none => rfl
      | some o => have := (N' q hq).2.2; rw [KG _ _ e hm] at this; cases this

/-- the use of a contract: own out of the ledger, rest stands -/
theorem Ctr.use {d : Nat} {f : Addr} {args : List Value} {own rest : List (Addr × Obj)} {Pre : Heap → Prop} {Post : Heap → Value → List (Addr × Obj) → Prop} {dp un : Nat} {gd : Option (List Code)} {cn : Str} {cs : Scope} {a : Addr} {ccd : Value} {cl : List (Str × Addr)}
    {Q E : Value → Shared → Prop} (C : Ctr prog w d f args own Pre Post)
    (B : Below A₀ base outer h₀) (F : Fr h₀ L s.heap m) (X : (Mine.hd.heap_39 w.params).In h₀) (T : Top p loose mean mg mb h₀) (hk : cs.kind = .function) (hd : dp + d < recursionLimit) (hu : un + 8 * d < cLine)
    (N : News h₀ L s.heap news) (ho : ∀ q ∈ own, q ∈ news) (hr : ∀ q ∈ rest, q ∈ news) (hdis : ∀ q ∈ rest, q.1 ∉ own.map (·.1)) (hp : Pre s.heap)
    (h : ∀ v own' h' tk', Post s.heap v own' → Fr h₀ L h' m → News h₀ L h' (own' ++ rest) → (∀ q ∈ own', q.1 ∈ own.map (·.1) ∨ ∀ r ∈ rest, q.1 ≠ r.1) → Keeps own s.heap h' → Q v { s with heap := h', toks := tk' }) :
    wpAny (model prog w) (ktrTop dp un gd cn cs L a ccd cl outer) (call (.ref f) args) Q E s := by
  refine C p loose mean mg mb dp un gd cn cs a ccd cl outer A₀ base h₀ L m s Q E B F X T hk hd hu (fun q hq => N q (ho q hq)) hp fun v own' h' tk' F' N' KP NW PS => ?_
  refine h v own' h' tk' PS F' (fun q hq => ?_) (fun q hq => ?_) KP
  · rcases List.mem_append.mp hq with hq | hq
    · exact N' q hq
    · exact ⟨KP _ _ (N q (hr q hq)).1 (hdis q hq), (N q (hr q hq)).2⟩
  · refine (NW q hq).imp id fun e r hr' er => ?_
    have := (N r (hr r hr')).1
    rw [← er, e] at this; cases this
end

/-- an object that the call may not touch -/
theorem keep_list {own : List (Addr × Obj)} {h g : Heap} {a : Addr} {items : Array Value} (k : ∀ b o, h.get? b = some o → b ∉ own.map (·.1) → g.get? b = some o) (hl : h.IsList a items) (hn : a ∉ own.map (·.1)) : g.IsList a items :=
  let ⟨o, ho, r⟩ := hl; ⟨o, k _ _ ho hn, r⟩

section
variable {prog : Program} {w : World} {A : Around} {E : Value → Shared → Prop} {s : Shared}
theorem len_items {l : Addr} {its : List Value} {Q : Value → Shared → Prop} (hl : s.heap.IsList l its.toArray) (hf : its.length < 2 ^ 62)
    (h : ∀ t tk, Q (.int its.length t) { s with toks := tk }) : wpAny (model prog w) A (call (.builtin "len") [.ref l]) Q E s := by
  refine Calls.call_len_list hl (by simp only [List.size_toArray]; omega) ?_
  have e : its.toArray.size = its.length := by simp
  rw [e]; exact h _ _
theorem item_any {value slice : PySem.Expr} {l : Addr} {its : List Value} {k : Int} {u : Tok} {Q : Value → Shared → Prop} (hl : s.heap.IsList l its.toArray) (h0 : 0 ≤ k) (h1 : k < its.length) (hf : its.length < 2 ^ 62)
    (h : ∀ v, its[k.toNat]? = some v → Q v s)
    (hs : subscripted slice false (.ref l) (.int k u) = operate [.ref l, .int k u] (getItem (.ref l) (.int k u)) := by with_unfolding_all rfl) :
    wpAny (model prog w) A (subscriptTail value slice (.ref l) (.int k u)) Q E s := by
  have hlt : k.toNat < its.length := by omega
  have hx : its[k.toNat]? = some its[k.toNat] := List.getElem?_eq_getElem hlt
  exact tail_any hl.typeIs slot_list_getitem.lookup (wpAny_getItem_list hl h0 (by omega) (by simpa using hx) (h _ hx)) hs
end
end
local macro_rules | `(tactic| walk_at "MINE enter") => `(tactic| (refine' code_own ?k1 ?k2 ?k3 ?k4 ?k5 ?kA ?kF ?kK ?k6 ?k7 ?k8 ?k9 ?kB ?_ ?c2 ?c3 ?c4 ?c5; (case kA => exact rfl); (case kF => exact rfl); (case kK => assumption); (case k1 => k_asm); (case k2 => k_asm); (case k3 => k_asm); (case k4 => k_asm); (case k5 => k_asm); (case k6 => k_is); (case k7 => k_is); (case k8 => ktr_room); (case k9 => first | exact BindsTo.of_eq rfl | exact binds_K (by k_in) rfl (by k_is) rfl rfl rfl); (case c5 => decide); (case kB => exact locs rfl); (case c2 => exact rfl); (case c3 => exact rfl); (case c4 => exact rfl); k_whole))
local macro_rules | `(tactic| walk_at "call builtin:len") => `(tactic| (k_here; (with_reducible show wpAny _ _ (call (Value.builtin "len") [Value.ref _]) _ _ _); k_dflt (refine' len_items ?k1 ?k2 ?_; (case k1 => is_list); (case k2 => assumption); k_whole); intro tl' tkl'))
local macro_rules | `(tactic| walk_at "subscriptTail Name Call ref int") => `(tactic| (k_here; (with_reducible show wpAny _ _ (subscriptTail _ _ (Value.ref _) (Value.int _ _)) _ _ _); k_dflt (refine' item_any ?k1 ?k2 ?k3 ?k4 ?_ ?k6; (case k1 => is_list); (case k2 => assumption); (case k3 => assumption); (case k4 => assumption); (case k6 => with_unfolding_all rfl); k_whole); intro v' hv'))
local macro_rules | `(tactic| walk_at "subscriptTail Name Call ref int") => `(tactic| (k_here; (with_reducible show wpAny _ _ (subscriptTail _ _ (Value.ref _) (Value.int _ _)) _ _ _); k_dflt (refine' item_list_ints ?k1 ?k2 ?k3 ?k4 ?k5 ?_; (case k1 => is_list); (case k2 => l_ints); (case k3 => l_idx); (case k4 => l_idx); (case k5 => l_idx); k_whole); intro _))
-- part Draw
section
abbrev boxO (sc : Addr) (p b : Int) (t1 t2 : Tok) (n : Nat) : Obj := listOf #[.ref sc, .int p t1, .int b t2] n

theorem draw_ctr (w : World) (bx sc : Addr) (vs : List Value) (ns : List Int) (hi : IntsAre vs ns) (hlen : ns.length < 2 ^ 62) (n : Int) (tn : Tok) (hn : 0 < n) (p b : Int) (t1 t2 : Tok) (nb : Nat)
    (hp : 0 ≤ p) (hb : 0 ≤ b) (hb2 : b < 2147483647) (hne : sc ≠ bx) :
    Ctr PySem.Challenge.rw_ah6020_01.row.prog w 1 441 [.ref bx, .int n tn] [(bx, boxO sc p b t1 t2 nb)] (fun h => h.IsList sc vs.toArray)
      (fun _ v own' => ∃ k t p' b' t1' t2' nb', v = .int k t ∧ 0 ≤ k ∧ k < n ∧ 0 ≤ p' ∧ 0 ≤ b' ∧ b' < 2147483647 ∧ own' = [(bx, boxO sc p' b' t1' t2' nb')]) := by
  unfold Ctr
  k_fill
  w_top off
  k_with_none
  intro p0 loose mean mg mb dp un gd cn cs a ccd cl outer A₀ base h₀ L m s Q E B F X T hk hd hu N hpre hret
  refine wpAny_call ?_
  k_dflt (walk_at "MINE enter")
  intro g' L' h' FG' F' N' B' X' T' KG hL' lt' lv
  have hg := keep_list KG hpre (by simp [hne])
  (try dsimp only)
  (try k_lift B')
  try k_fold
  k_steps
  all_goals (
    dsimp only
    rename Fr g' _ _ _ => F9
    rename News g' _ _ _ => N9
    obtain ⟨a1, a2, a3, a4⟩ := lv _ _ _ _ F9 N9
    exact hret _ _ _ _ a1 a2 a3 a4 ⟨_, _, _, _, _, _, _, rfl, fmod_lo _ hn, fmod_hi _ hn, by omega, fmod_lo _ (by decide), fmod_hi _ (by decide), rfl⟩)
end
-- part DrawUse
section
section
variable {w : World} {A₀ : Around} {s : Shared} {base h₀ : Heap} {outer : List Env} {L : Addr} {m : Str → Option Value} {news : List (Addr × Obj)} {p0 : Program} {loose : List Str} {mean : ExcName → Option Value} {mg mb : Str → Option Value}
  {dp un : Nat} {gd : Option (List Code)} {cn : Str} {cs : Scope} {a : Addr} {ccd : Value} {cl : List (Str × Addr)} {Q E : Value → Shared → Prop}

/-- the facts of the box and of the script -/
structure BoxOk (h : Heap) (sc : Addr) (vs : List Value) (ns : List Int) (p b : Int) : Prop where
  isI : IntsAre vs ns
  len : ns.length < 2 ^ 62
  list : h.IsList sc vs.toArray
  p0 : 0 ≤ p
  b0 : 0 ≤ b
  b1 : b < 2147483647

theorem box_ne {h : Heap} {sc bx : Addr} {vs : List Value} {ns : List Int} {p b : Int} {t1 t2 : Tok} {nb : Nat} (O : BoxOk h sc vs ns p b) (hb : h.get? bx = some (boxO sc p b t1 t2 nb)) : sc ≠ bx := by
  rintro rfl
  obtain ⟨o, ho, hc, n, hd⟩ := O.list
  rw [hb] at ho
  cases ho
  cases O.isI with
  | nil => simp at hd
  | cons _ _ _ => simp at hd

theorem updF_rest {d : Addr} {o : Obj} {l : List (Addr × Obj)} {g : Obj → List (Addr × Obj)} (U : UpdF d o l g) : ∃ rest : List (Addr × Obj), (∀ q ∈ rest, q ∈ l) ∧ (d, o) ∈ l ∧ (∀ q ∈ rest, q.1 ≠ d) ∧ (∀ o' (q : Addr × Obj), q ∈ g o' → q = (d, o') ∨ q ∈ rest) ∧ l = g o := by
  obtain ⟨pre, post, h1, h2, h3, h4⟩ := U.split
  refine ⟨pre ++ post, fun q hq => ?_, by rw [h1]; simp, fun q hq => ?_, fun o' q hq => ?_, by rw [h1, h2]⟩
  · rw [h1]; simp only [List.mem_append, List.mem_cons] at hq ⊢; rcases hq with h | h <;> simp [h]
  · rcases List.mem_append.mp hq with h | h
    · exact h3 q h
    · exact h4 q h
  · rw [h2] at hq; simp only [List.mem_append, List.mem_cons] at hq ⊢; rcases hq with h | h | h <;> simp [h]

theorem Ctr.post {prog : Program} {d : Nat} {f : Addr} {args : List Value} {own : List (Addr × Obj)} {Pre : Heap → Prop} {Post Post' : Heap → Value → List (Addr × Obj) → Prop} (C : Ctr prog w d f args own Pre Post)
    (h : ∀ h v own', Post h v own' → Post' h v own') : Ctr prog w d f args own Pre Post' :=
  fun p0 loose mean mg mb dp un gd cn cs a ccd cl outer A₀ base h₀ L m s Q E B F X T hk hd hu N hp hret => C p0 loose mean mg mb dp un gd cn cs a ccd cl outer A₀ base h₀ L m s Q E B F X T hk hd hu N hp fun v own' h' tk' a1 a2 a3 a4 hP => hret v own' h' tk' a1 a2 a3 a4 (h _ _ _ hP)
/-- a contract that turns one object alone -/
theorem Ctr.upd {d : Nat} {f : Addr} {args : List Value} {bx : Addr} {o : Obj} {lf : Obj → List (Addr × Obj)} {Pre : Heap → Prop} {P : Heap → Value → Obj → Prop}
    (C : Ctr PySem.Challenge.rw_ah6020_01.row.prog w d f args [(bx, o)] Pre (fun h v own' => ∃ o', own' = [(bx, o')] ∧ P h v o'))
    (B : Below A₀ base outer h₀) (F : Fr h₀ L s.heap m) (X : (Mine.hd.heap_39 w.params).In h₀) (T : Top p0 loose mean mg mb h₀) (hk : cs.kind = .function) (hd : dp + d < recursionLimit) (hu : un + 8 * d < cLine)
    (N : News h₀ L s.heap news) (U : UpdF bx o news lf) (hp : Pre s.heap)
    (h : ∀ v o' h' tk', P s.heap v o' → Fr h₀ L h' m → News h₀ L h' (lf o') → Keeps [(bx, o)] s.heap h' → Q v { s with heap := h', toks := tk' }) :
    wpAny (model PySem.Challenge.rw_ah6020_01.row.prog w) (ktrTop dp un gd cn cs L a ccd cl outer) (call (.ref f) args) Q E s := by
  obtain ⟨rest, r1, r2, r3, r4, r5⟩ := updF_rest U
  refine C.use (rest := rest) B F X T hk hd hu N (fun q hq => ?_) r1 (fun q hq => ?_) hp fun v own' h' tk' hP F' N' _ KP => ?_
  · rw [List.mem_singleton.mp hq]; exact r2
  · simp only [List.map_cons, List.map_nil, List.mem_singleton]; exact r3 q hq
  · obtain ⟨o', rfl, hP⟩ := hP
    refine h v o' h' tk' hP F' (fun q hq => N' q ?_) KP
    rcases r4 o' q hq with rfl | hq
    · simp
    · simp [hq]

theorem draw_use {bx sc : Addr} {vs : List Value} {ns : List Int} {n p b : Int} {tn t1 t2 : Tok} {nb : Nat} {lf : Obj → List (Addr × Obj)}
    (B : Below A₀ base outer h₀) (F : Fr h₀ L s.heap m) (X : (Mine.hd.heap_39 w.params).In h₀) (T : Top p0 loose mean mg mb h₀) (hk : cs.kind = .function) (hd : dp + 1 < recursionLimit) (hu : un + 8 * 1 < cLine)
    (N : News h₀ L s.heap news) (U : UpdF bx (boxO sc p b t1 t2 nb) news lf) (O : BoxOk s.heap sc vs ns p b) (hn : 0 < n)
    (h : ∀ k t p' b' t1' t2' nb' h' tk', 0 ≤ k → k < n → 0 ≤ p' → 0 ≤ b' → b' < 2147483647 → Fr h₀ L h' m → News h₀ L h' (lf (boxO sc p' b' t1' t2' nb')) → Q (.int k t) { s with heap := h', toks := tk' }) :
    wpAny (model PySem.Challenge.rw_ah6020_01.row.prog w) (ktrTop dp un gd cn cs L a ccd cl outer) (call (.ref 441) [.ref bx, .int n tn]) Q E s := by
  obtain ⟨_, _, hm, _, _, _⟩ := updF_rest U
  have ne := box_ne O (N _ hm).1
  refine Ctr.upd ((draw_ctr w bx sc vs ns O.isI O.len n tn hn p b t1 t2 nb O.p0 O.b0 O.b1 ne).post (Post' := fun _ v own' => ∃ o', own' = [(bx, o')] ∧ ∃ k t p' b' t1' t2' nb', v = .int k t ∧ 0 ≤ k ∧ k < n ∧ 0 ≤ p' ∧ 0 ≤ b' ∧ b' < 2147483647 ∧ o' = boxO sc p' b' t1' t2' nb') ?_) B F X T hk hd hu N U O.list ?_
  · rintro h v own' ⟨k, t, p', b', t1', t2', nb', e1, e2, e3, e4, e5, e6, e7⟩
    exact ⟨_, e7, k, t, p', b', t1', t2', nb', e1, e2, e3, e4, e5, e6, rfl⟩
  rintro v o' h' tk' ⟨k, t, p', b', t1', t2', nb', rfl, e2, e3, e4, e5, e6, rfl⟩ F' N' KP
  exact h k t p' b' t1' t2' nb' h' tk' e2 e3 e4 e5 e6 F' N'
end
end
local macro_rules | `(tactic| walk_at "call ref") => `(tactic| (k_here; (with_reducible show wpAny _ _ (call (Value.ref 441) _) _ _ _); k_dflt (refine' draw_use ?k1 ?k2 ?k3 ?k4 ?k5 ?k6 ?k7 ?k8 ?k9 ?k10 ?k11 ?_; walk_at "MINE ctx"; (case k9 => k_updF); (case k10 => walk_at "MINE box"); (case k11 => first | assumption | omega | l_fact); k_whole); intro k' t' p' b' t1' t2' nb' h' tk' hk0' hk1' hp0' hb0' hb1' F' N'; (try dsimp only at N'); (try k_sweep)))
-- part Pick
section
theorem pick_ctr (w : World) (bx sc : Addr) (vs : List Value) (ns : List Int) (hi : IntsAre vs ns) (hlen : ns.length < 2 ^ 62) (rows : Addr) (its : List Value) (h0 : 0 < its.length) (h1 : its.length < 2 ^ 62) (hrb : rows ≠ bx) (p b : Int) (t1 t2 : Tok) (nb : Nat)
    (hp : 0 ≤ p) (hb : 0 ≤ b) (hb2 : b < 2147483647) (hne : sc ≠ bx) :
    Ctr PySem.Challenge.rw_ah6020_01.row.prog w 2 448 [.ref bx, .ref rows] [(bx, boxO sc p b t1 t2 nb)] (fun h => h.IsList sc vs.toArray ∧ h.IsList rows its.toArray)
      (fun _ v own' => ∃ k : Nat, ∃ p' b' t1' t2' nb', its[k]? = some v ∧ 0 ≤ p' ∧ 0 ≤ b' ∧ b' < 2147483647 ∧ own' = [(bx, boxO sc p' b' t1' t2' nb')]) := by
  unfold Ctr
  k_fill
  w_top off
  k_with_none
  intro p0 loose mean mg mb dp un gd cn cs a ccd cl outer A₀ base h₀ L m s Q E B F X T hk hd hu N hpre hret
  refine wpAny_call ?_
  k_dflt (walk_at "MINE enter")
  intro g' L' h' FG' F' N' B' X' T' KG hL' lt' lv
  have hg := keep_list KG hpre.1 (by simp [hne])
  have hgr := keep_list KG hpre.2 (by simp [hrb])
  (try dsimp only)
  (try k_lift B')
  try k_fold
  k_steps
  all_goals (
    try dsimp only
    rename Fr g' _ _ _ => F9
    rename News g' _ _ _ => N9
    obtain ⟨a1, a2, a3, a4⟩ := lv _ _ _ _ F9 N9
    exact hret _ _ _ _ a1 a2 a3 a4 ⟨_, _, _, _, _, _, by assumption, by assumption, by assumption, by assumption, rfl⟩)
end
-- part PickUse
section
section
variable {w : World} {A₀ : Around} {s : Shared} {base h₀ : Heap} {outer : List Env} {L : Addr} {m : Str → Option Value} {news : List (Addr × Obj)} {p0 : Program} {loose : List Str} {mean : ExcName → Option Value} {mg mb : Str → Option Value}
  {dp un : Nat} {gd : Option (List Code)} {cn : Str} {cs : Scope} {a : Addr} {ccd : Value} {cl : List (Str × Addr)} {Q E : Value → Shared → Prop}

theorem ne_base {h : Heap} {r bx : Addr} {o : Obj} {its : Array Value} (F : h₀.IsList r its) (N : News h₀ L h news) (hm : (bx, o) ∈ news) : r ≠ bx := by
  rintro rfl
  obtain ⟨o', ho, _⟩ := F
  have := (N _ hm).2.2
  dsimp only at this
  rw [ho] at this; cases this

theorem pick_use {bx sc rows : Addr} {vs its : List Value} {ns : List Int} {p b : Int} {t1 t2 : Tok} {nb : Nat} {lf : Obj → List (Addr × Obj)}
    (B : Below A₀ base outer h₀) (F : Fr h₀ L s.heap m) (X : (Mine.hd.heap_39 w.params).In h₀) (T : Top p0 loose mean mg mb h₀) (hk : cs.kind = .function) (hd : dp + 2 < recursionLimit) (hu : un + 8 * 2 < cLine)
    (N : News h₀ L s.heap news) (U : UpdF bx (boxO sc p b t1 t2 nb) news lf) (O : BoxOk s.heap sc vs ns p b) (hr : s.heap.IsList rows its.toArray) (h0 : 0 < its.length) (h1 : its.length < 2 ^ 62) (hrb : rows ≠ bx)
    (h : ∀ (k : Nat) v p' b' t1' t2' nb' h' tk', its[k]? = some v → 0 ≤ p' → 0 ≤ b' → b' < 2147483647 → Fr h₀ L h' m → News h₀ L h' (lf (boxO sc p' b' t1' t2' nb')) → Q v { s with heap := h', toks := tk' }) :
    wpAny (model PySem.Challenge.rw_ah6020_01.row.prog w) (ktrTop dp un gd cn cs L a ccd cl outer) (call (.ref 448) [.ref bx, .ref rows]) Q E s := by
  obtain ⟨_, _, hm, _, _, _⟩ := updF_rest U
  have ne := box_ne O (N _ hm).1
  refine Ctr.upd ((pick_ctr w bx sc vs ns O.isI O.len rows its h0 h1 hrb p b t1 t2 nb O.p0 O.b0 O.b1 ne).post (Post' := fun _ v own' => ∃ o', own' = [(bx, o')] ∧ ∃ k : Nat, ∃ p' b' t1' t2' nb', its[k]? = some v ∧ 0 ≤ p' ∧ 0 ≤ b' ∧ b' < 2147483647 ∧ o' = boxO sc p' b' t1' t2' nb') ?_) B F X T hk hd hu N U ⟨O.list, hr⟩ ?_
  · rintro h v own' ⟨k, p', b', t1', t2', nb', e1, e4, e5, e6, e7⟩
    exact ⟨_, e7, k, p', b', t1', t2', nb', e1, e4, e5, e6, rfl⟩
  rintro v o' h' tk' ⟨k, p', b', t1', t2', nb', e3, e4, e5, e6, rfl⟩ F' N' KP
  exact h k v p' b' t1' t2' nb' h' tk' e3 e4 e5 e6 F' N'
end

def isIntIn (lo hi : Int) : Value → Bool
  | .int i _ => decide (lo ≤ i) && decide (i ≤ hi)
  | _ => false
theorem int_of_pick {its : List Value} {k : Nat} {v : Value} (hv : its[k]? = some v) (ha : its.all (isIntIn (-1) 1114112) = true) : ∃ i t, v = .int i t ∧ -1 ≤ i ∧ i ≤ 1114112 := by
  have := List.all_eq_true.mp ha v (List.mem_of_getElem? hv)
  cases v <;> simp [isIntIn] at this
  exact ⟨_, _, rfl, this.1, this.2⟩
def isStrTo (n : Nat) : Value → Bool
  | .str x _ => decide (x.length ≤ n)
  | _ => false
def strOf? : Value → Option Str
  | .str x _ => some x
  | _ => none
theorem str_of_pick {its : List Value} {k : Nat} {v : Value} (hv : its[k]? = some v) (ha : its.all (isStrTo 16) = true) : ∃ x t, v = .str x t ∧ x.length ≤ 16 ∧ x ∈ its.filterMap strOf? := by
  have hm := List.mem_of_getElem? hv
  have := List.all_eq_true.mp ha v hm
  cases v <;> simp [isStrTo] at this
  exact ⟨_, _, rfl, this, List.mem_filterMap.mpr ⟨_, hm, rfl⟩⟩
theorem drop_to {h₀ h : Heap} {L : Addr} {news news' : List (Addr × Obj)} (N : News h₀ L h news') (hs : ∀ p ∈ news, p ∈ news') : News h₀ L h news := fun p hp => N p (hs p hp)
theorem pick_imp {A B G : Prop} (h : A → B) (a : A) (k : B → G) : G := k (h a)
end
local macro_rules | `(tactic| walk_at "call ref") => `(tactic| (k_here; (with_reducible show wpAny _ _ (call (Value.ref 448) _) _ _ _); k_dflt (refine' pick_use ?k1 ?k2 ?k3 ?k4 ?k5 ?k6 ?k7 ?k8 ?k9 ?k10 ?kr ?kh0 ?kh1 ?kne ?_; walk_at "MINE ctx"; (case k9 => k_updF); (case k10 => walk_at "MINE box"); (case kr => walk_at "MINE klist"); (case kh0 => exact Nat.succ_pos _); (case kh1 => first | decide | (simp only [List.length_cons, List.length_nil]; decide)); (case kne => first | k_ne | exact ne_base (lstK (by k_asm) (by k_is)) (by k_asm) (by k_mem)); k_whole); intro k' v' p' b' t1' t2' nb' h' tk' hv' hp0' hb0' hb1' F' N'; (first | (refine' pick_imp (int_of_pick hv') ?ha ?_; (case ha => first | decide | rfl | (simp [isIntIn]; done)); rintro ⟨i', ti', e', hi0', hi1'⟩; subst e'; clear hv') | (refine' pick_imp (str_of_pick hv') ?ha ?_; (case ha => first | decide | rfl); rintro ⟨x', tx', e', hx0', hx1'⟩; subst e'; clear hv') | (replace hv' := List.mem_of_getElem? hv'; simp only [List.mem_cons, List.not_mem_nil, or_false] at hv'; rcases hv' with e' | e' | e' | e' | e' | e' | e' | e' <;> subst e') | (replace hv' := List.mem_of_getElem? hv'; simp only [List.mem_cons, List.not_mem_nil, or_false] at hv'; rcases hv' with e' | e' | e' | e' | e' | e' <;> subst e')); all_goals ((try dsimp only at N'); (try k_sweep))))
-- part Fig
section
/-- below 2^1048580: hidden, so that no closer reckons it -/
structure BigOk (n : Int) : Prop where
  out : n.toNat < 2 ^ 1048580

def isDig (b : Int) (c : Nat) : Bool := (decide (48 ≤ c) && decide (c ≤ 57)) || (decide (b = 16) && decide (97 ≤ c) && decide (c ≤ 102))

structure FigInv (b n : Int) (x : Str) (k : Int) : Prop where
  dig : ∀ c ∈ x.cps.toList, isDig b c = true
  low : x.length = 0 ∨ b.toNat ^ (x.length - 1) ≤ n.toNat
  up : 0 < k → k.toNat * b.toNat ^ x.length ≤ n.toNat

structure FigOk (b n : Int) (x : Str) : Prop where
  dig : ∀ c ∈ x.cps.toList, isDig b c = true
  pos : 0 < x.length
  low : x.length ≤ 1 ∨ b.toNat ^ (x.length - 1) ≤ n.toNat
  len : x.length ≤ 349600

theorem fig_len {b n : Int} {x : Str} (hB : BigOk n) (hb : 10 ≤ b) (h : x.length = 0 ∨ b.toNat ^ (x.length - 1) ≤ n.toNat) : x.length ≤ 349600 := by
  rcases h with h | h
  · omega
  · have h8 : 8 ^ (x.length - 1) ≤ b.toNat ^ (x.length - 1) := Nat.pow_le_pow_left (by omega) _
    have e : (8 : Nat) ^ (x.length - 1) = 2 ^ (3 * (x.length - 1)) := by rw [show (8 : Nat) = 2 ^ 3 from rfl, ← Nat.pow_mul]
    have hlt : 2 ^ (3 * (x.length - 1)) < 2 ^ 1048580 := by rw [← e]; exact Nat.lt_of_le_of_lt (Nat.le_trans h8 h) hB.out
    have := (Nat.pow_lt_pow_iff_right (by decide : 1 < 2)).mp hlt
    omega

theorem fig_start (b n : Int) : FigInv b n (Str.ofString "") n where
  dig := by intro c hc; rw [show (Str.ofString "").cps.toList = [] by decide] at hc; cases hc
  low := .inl (by decide)
  up := fun _ => by rw [show (Str.ofString "").length = 0 by decide]; simp

abbrev lowerT : Str := Str.ofString "0123456789abcdef"

theorem item_lower {b i : Int} (hb : b = 10 ∨ b = 16) (h0 : 0 ≤ i) (h1 : i < b) : ∃ c, Txt.item lowerT i = ⟨#[c]⟩ ∧ isDig b c = true := by
  obtain ⟨k, rfl⟩ := Int.eq_ofNat_of_zero_le h0
  have hk : k < 16 := by omega
  have key : ∀ k : Fin 16, Txt.item lowerT (k.val : Int) = ⟨#[if k.val < 10 then 48 + k.val else 87 + k.val]⟩ := by decide +kernel
  refine ⟨_, key ⟨k, hk⟩, ?_⟩
  simp only [isDig, Bool.or_eq_true, Bool.and_eq_true, decide_eq_true_eq]
  split
  · omega
  · rcases hb with rfl | rfl <;> omega

theorem fig_turn {b n k : Int} {x : Str} (hB : BigOk n) (hb : b = 10 ∨ b = 16) (I : FigInv b n x k) (hk : 0 < k) : FigInv b n (Txt.item lowerT (k.fmod b) ++ x) (k.fdiv b) ∧ (Txt.item lowerT (k.fmod b) ++ x).length ≤ 349600 := by
  have hb0 : 0 < b := by omega
  obtain ⟨c, e, hc⟩ := item_lower hb (fmod_lo k hb0) (fmod_hi k hb0)
  have hl : (Txt.item lowerT (k.fmod b) ++ x).length = x.length + 1 := by rw [e, Str.length_append]; show 1 + x.length = _; omega
  have up := I.up hk
  have J : FigInv b n (Txt.item lowerT (k.fmod b) ++ x) (k.fdiv b) := by
    refine ⟨?_, .inr ?_, fun _ => ?_⟩
    · rw [e, Str.cps_append]
      intro d hd
      simp only [Array.toList_append, List.cons_append, List.nil_append, List.mem_cons] at hd
      rcases hd with rfl | hd
      · exact hc
      · exact I.dig d hd
    · rw [hl, Nat.add_sub_cancel]
      exact Nat.le_trans (Nat.le_mul_of_pos_left _ (by omega)) up
    · rw [hl, Nat.pow_succ]
      refine Nat.le_trans ?_ up
      rw [Int.fdiv_eq_ediv_of_nonneg _ (by omega)]
      have hq : (k / b).toNat = k.toNat / b.toNat := by
        obtain ⟨k', rfl⟩ := Int.eq_ofNat_of_zero_le (by omega : 0 ≤ k)
        obtain ⟨b', rfl⟩ := Int.eq_ofNat_of_zero_le (by omega : 0 ≤ b)
        rfl
      rw [hq]
      have := Nat.div_mul_le_self k.toNat b.toNat
      calc k.toNat / b.toNat * (b.toNat ^ x.length * b.toNat) = (k.toNat / b.toNat * b.toNat) * b.toNat ^ x.length := by ac_rfl
        _ ≤ k.toNat * b.toNat ^ x.length := Nat.mul_le_mul_right _ this
  exact ⟨J, fig_len hB (by omega) J.low⟩

theorem fig_end {b n k : Int} {x : Str} (hB : BigOk n) (hb : b = 10 ∨ b = 16) (I : FigInv b n x k) (hx : x.length ≠ 0) : FigOk b n x :=
  ⟨I.dig, by omega, I.low.imp (by omega) id, fig_len hB (by omega) I.low⟩
theorem fig_zero (b n : Int) : FigOk b n (Str.ofString "0") where
  dig := by intro c hc; rw [show (Str.ofString "0").cps.toList = [48] by decide] at hc; rw [List.mem_singleton.mp hc]; rfl
  pos := by decide
  low := .inl (by decide)
  len := by decide

theorem item_lowerR {prog : Program} {w : World} {A : Around} {E : Value → Shared → Prop} {s : Shared} {value slice : PySem.Expr} {a b : Int} {t u : Tok} {Q : Value → Shared → Prop} (hb : b = 10 ∨ b = 16)
    (h : (Txt.item lowerT (a.fmod b)).length ≤ 1 → Q (.str (Txt.item lowerT (a.fmod b)) s.toks) { s with toks := s.toks + 1 })
    (hs : subscripted slice false (.str lowerT t) (.int (a.fmod b) u) = operate [.str lowerT t, .int (a.fmod b) u] (getItem (.str lowerT t) (.int (a.fmod b) u)) := by with_unfolding_all rfl)
    (ht : ∀ r, letTemporaryGo value (.str lowerT t) r = pure () := by intro _; with_unfolding_all rfl) :
    wpAny (model prog w) A (subscriptTail value slice (.str lowerT t) (.int (a.fmod b) u)) Q E s :=
  item_str_fmod (by omega) (by rw [show lowerT.length = 16 by decide]; omega) (by decide) (fun h1 => h h1.2) hs ht

theorem fig_less {b k : Int} (hb : b = 10 ∨ b = 16) (hk : 0 < k) : (k.fdiv b).toNat < k.toNat := by
  rw [Int.fdiv_eq_ediv_of_nonneg _ (by omega)]
  rcases hb with rfl | rfl <;> omega
end
local macro_rules | `(tactic| walk_at "subscriptTail Name BinOp str int") => `(tactic| ((with_reducible show wpAny _ _ (subscriptTail _ _ (Value.str _ _) (Value.int (Int.fmod _ _) _)) _ _ _); refine item_lowerR (by assumption) ?_; intro _))
-- part FigC
section
theorem fig_ctr (w : World) (n b : Int) (tn tb : Tok) (hB : BigOk n) (hb : b = 10 ∨ b = 16) :
    Ctr PySem.Challenge.rw_ah6020_01.row.prog w 1 462 [.int n tn, .int b tb] [] (fun _ => True)
      (fun _ v own' => own' = [] ∧ ∃ x t, v = .str x t ∧ FigOk b n x) := by
  have hb0 : 0 < b := by omega
  have hb1 : b ≤ 16 := by omega
  unfold Ctr
  k_fill
  w_top off
  k_with_none
  intro p0 loose mean mg mb dp un gd cn cs a ccd cl outer A₀ base h₀ L m s Q E B F X T hk hd hu N hpre hret
  refine wpAny_call ?_
  k_dflt (walk_at "MINE enter")
  intro g' L' h' FG' F' N' B' X' T' KG hL' lt' lv
  (try dsimp only)
  (try k_lift B')
  try k_fold
  k_with "exec While Compare cons nil" => k_while (fun _ out number => FigInv b n out number ∧ out.length ≤ 349600) (fun _ _ number => number.toNat) "out" "number"
  k_with "measure" => exact fig_less hb (by assumption)
  k_with "state" => first | exact ⟨fig_start b n, by decide⟩ | exact fig_turn hB hb (by assumption) (by assumption)
  k_steps
  all_goals (
    try dsimp only
    rename Fr g' _ _ _ => F9
    rename News g' _ _ _ => N9
    obtain ⟨a1, a2, a3, a4⟩ := lv _ _ _ _ F9 N9
    refine hret _ _ _ _ a1 a2 a3 a4 ⟨rfl, _, _, rfl, ?_⟩)
  · exact fig_end hB hb (by assumption) (by omega)
  · exact fig_zero b n
end
-- part Scan
section
section
variable {prog : Program} {w : World} {A : Around} {E : Value → Shared → Prop} {s : Shared} {env : Env} {h₀ : Heap} {x : Str} {body : List Stmt} {Q : Flow → Shared → Prop}

/-- a loop over a list of the base heap that stores its own name alone -/
theorem iter_scan {l : Addr} {vs : List Value} {m₀ : Str → Option Value} {news : List (Addr × Obj)} (J : Nat → Prop)
    (hh : A.handled = none) (hl : h₀.IsList l vs.toArray) (F : Fr h₀ env.locals s.heap m₀) (N : News h₀ env.locals s.heap news) (hj : J 0)
    (turn : ∀ i v h tk own, vs[i]? = some v → J i → Fr h₀ env.locals h (fun y => if y = x then some v else m₀ y) → News h₀ env.locals h (own ++ news) →
      wpAny (model prog w) A (execs body env) (InvPost h₀ env.locals (fun m' => J (i + 1) ∧ ∀ z, z ≠ x → m' z = m₀ z) (own ++ news) { s with heap := h, toks := tk } Q) E { s with heap := h, toks := tk })
    (done : ∀ (u : Str → Option Value) h tk, J vs.length → Fr h₀ env.locals h (fun z => if z = x then u z else m₀ z) → News h₀ env.locals h news → Q .next { s with heap := h, toks := tk }) :
    wpAny (model prog w) A (pyIter (.ref l)) (fun it s₂ => LoopAtV prog w A h₀ env x body Q E it s₂) E s := by
  have hls : s.heap.IsList l vs.toArray := hl.at fun o e => F.keep l o e
  obtain ⟨ol, hol, _⟩ := id hl
  have hlt : l < h₀.objs.size := Heap.lt_size hol
  have hne : l ≠ s.heap.objs.size := Nat.ne_of_lt (Nat.lt_trans (Nat.lt_of_lt_of_le hlt F.above) F.ns.lt)
  refine wpAny_pyIter_list hls ?_
  have W := Walks.list (prog := prog) (w := w) hh s.heap.objs.size l hne vs.toArray
  have hlen : vs.toArray.size = vs.length := by simp
  rw [hlen] at W
  let J' : Nat → (Str → Option Value) → List (Addr × Obj) → Prop := fun i m₁ news₁ => news₁ = news ∧ J i ∧ ∀ z, z ≠ x → m₁ z = m₀ z
  refine ⟨_, _, _, vs.length, _, _, m₀, news, J', rfl, W, ?_, ?_, ?_, ⟨⟨_, Heap.get?_push_size _ rfl, rfl, rfl⟩, hls.at fun o e => Heap.get?_push_of_some _ e⟩, F.push _, (fun p hp => ⟨Heap.get?_push_of_some _ (N p hp).1, (N p hp).2⟩), ⟨rfl, hj, fun _ _ => rfl⟩, ?_, ?_⟩
  · intro hm
    rcases List.mem_cons.mp hm with e | hm
    · exact absurd F.ns.lt (e ▸ Nat.lt_irrefl _)
    · exact absurd (Nat.lt_of_lt_of_le hlt F.above) ((List.mem_singleton.mp hm) ▸ Nat.lt_irrefl _)
  · intro b hb
    rw [List.mem_singleton.mp hb]
    exact next_is_new F
  · intro p hp hI
    exact absurd (Heap.lt_size (N p hp).1) ((List.mem_singleton.mp hI) ▸ Nat.lt_irrefl _)
  · rintro i v m₁ news₁ s₁ own ⟨hh', tk', rfl⟩ hin hP ⟨rfl, hJ, hm₁⟩ hoff _ _ _ _ F₁ N₁
    have hP' : vs[i]? = some v := by simpa using hP
    have e : (fun z => if z = x then some v else m₁ z) = fun z => if z = x then some v else m₀ z := by
      funext z
      by_cases h1 : z = x
      · simp [h1]
      · simp only [if_neg h1]; exact hm₁ z h1
    rw [e] at F₁
    refine wpAny_mono (turn i v hh' tk' own hP' hJ F₁ N₁) (fun f s₂ p => ?_) fun _ _ e => e
    have fin : InvEnd h₀ env.locals (fun m' => J (i + 1) ∧ ∀ z, z ≠ x → m' z = m₀ z) (own ++ news₁) { s with heap := hh', toks := tk' } s₂ → LoopStepU h₀ env.locals [s.heap.objs.size] own (J' (i + 1)) { s with heap := hh', toks := tk' } .next s₂ := by
      rintro ⟨h', tk, m', news', e, F', N', hn, hm⟩
      exact ⟨rfl, h', tk, m', news₁, e, F', fun p hp => N' p (hn p hp), hoff, rfl, hm⟩
    cases f with
    | ret v => exact .ret p
    | brk => exact .brk p
    | next => exact .next (fin p)
    | cont => exact .cont (fin p)
  · rintro h' tk m' news' F' N' _ ⟨rfl, hJ, hm⟩
    have e : (fun z => if z = x then m' z else m₀ z) = m' := by
      funext z
      by_cases h1 : z = x
      · simp [h1]
      · simp only [if_neg h1]; exact (hm z h1).symm
    exact done m' h' tk hJ (e.symm ▸ F') N'
end
end
-- part Kept
section
/-- the numbers that may be read -/
def keptF (n : Int) : Bool := decide ((9 ≤ n ∧ n ≤ 10) ∨ (12 ≤ n ∧ n ≤ 12) ∨ (32 ≤ n ∧ n ≤ 126) ∨ (160 ≤ n ∧ n ≤ 55295) ∨ (57344 ≤ n ∧ n ≤ 64975) ∨ (65008 ≤ n ∧ n ≤ 65533) ∨ (65536 ≤ n ∧ n ≤ 1114111 ∧ n % 65536 ≤ 65533))

/-- the first i ranges do not hold n -/
def notIn (n : Int) (i : Nat) : Prop := (0 < i → ¬(9 ≤ n ∧ n ≤ 10)) ∧ (1 < i → ¬(12 ≤ n ∧ n ≤ 12)) ∧ (2 < i → ¬(32 ≤ n ∧ n ≤ 126)) ∧ (3 < i → ¬(160 ≤ n ∧ n ≤ 55295)) ∧ (4 < i → ¬(57344 ≤ n ∧ n ≤ 64975)) ∧ (5 < i → ¬(65008 ≤ n ∧ n ≤ 65533))

abbrev rangesL : List Value := [.ref 410, .ref 411, .ref 412, .ref 413, .ref 414, .ref 415]

theorem ranges_at {i : Nat} {v : Value} (h : rangesL[i]? = some v) : (i = 0 ∧ v = .ref 410) ∨ (i = 1 ∧ v = .ref 411) ∨ (i = 2 ∧ v = .ref 412) ∨ (i = 3 ∧ v = .ref 413) ∨ (i = 4 ∧ v = .ref 414) ∨ (i = 5 ∧ v = .ref 415) := by
  rcases i with _ | _ | _ | _ | _ | _ | i <;> simp at h <;> simp [h]

theorem kept_ctr (w : World) (n : Int) (tn : Tok) :
    Ctr PySem.Challenge.rw_ah6020_01.row.prog w 1 455 [.int n tn] [] (fun _ => True)
      (fun _ v own' => own' = [] ∧ v = .bool (keptF n)) := by
  have e1 : n.fdiv 65536 = n / 65536 := Int.fdiv_eq_ediv_of_nonneg n (by decide)
  have e2 : n.fmod 65536 = n % 65536 := Int.fmod_eq_emod_of_nonneg n (by decide)
  unfold Ctr
  k_fill
  w_top off
  k_with_none
  intro p0 loose mean mg mb dp un gd cn cs a ccd cl outer A₀ base h₀ L m s Q E B F X T hk hd hu N hpre hret
  refine wpAny_call ?_
  k_dflt (walk_at "MINE enter")
  intro g' L' h' FG' F' N' B' X' T' KG hL' lt' lv
  (try dsimp only)
  (try k_lift B')
  try k_fold
  k_with_none
  k_with "exec For Name Name cons nil" =>
    rename Fr _ _ _ _ => lF'
    with_unfolding_all refine' For_invVF lF' ?k1 ?k2 ?_
    (case k1 => exact rfl)
    (case k2 => exact rfl)
    k_whole
  k_with "pyIter ref" =>
    rename Fr _ _ _ _ => lF
    rename News _ _ _ _ => lN
    with_unfolding_all refine' iter_scan (vs := rangesL) (notIn n) ?hh ?hl ?kF ?kN ?hj ?_ ?_
    (case kF => exact lF)
    (case kN => exact lN)
    (case hh => rfl)
    (case hl => exact lstK (by assumption) (by k_is))
    (case hj => refine ⟨?_, ?_, ?_, ?_, ?_, ?_⟩ <;> omega)
    all_goals (try clear lF lN)
    all_goals first
      | (intro u h tk hJ lF lN; replace hJ : notIn n 6 := hJ)
      | (intro i v h tk own hv hJ lF lN; rcases ranges_at hv with ⟨e1, e2⟩ | ⟨e1, e2⟩ | ⟨e1, e2⟩ | ⟨e1, e2⟩ | ⟨e1, e2⟩ | ⟨e1, e2⟩)
    all_goals (try subst e2)
    all_goals (try subst e1)
    all_goals (try k_fold)
  k_steps
  all_goals (
    try dsimp only
    rename Fr g' _ _ _ => F9
    rename News g' _ _ _ => N9
    first
    | (refine InvEnd.intro F9 N9 (fun p hp => hp) ⟨?_, fun z hz => by simp [hz]⟩; (unfold notIn at *; omega))
    | (obtain ⟨a1, a2, a3, a4⟩ := lv _ _ _ [] F9 (fun _ hq => nomatch hq)
       refine hret _ _ _ _ a1 a2 a3 a4 ⟨rfl, congrArg Value.bool ?_⟩
       (try unfold notIn at *); unfold keptF
       first
       | exact (decide_eq_true (by omega)).symm
       | exact decide_eq_decide.mpr (by omega)))
end
-- part Plain
section
/-! the plain law: references in a list of signs -/
def decC (c : Nat) : Bool := decide (48 ≤ c) && decide (c ≤ 57)
def hexC (c : Nat) : Bool := decC c || (decide (97 ≤ c) && decide (c ≤ 102)) || (decide (65 ≤ c) && decide (c ≤ 70))
def nameC (c : Nat) : Bool := !(c == 9 || c == 10 || c == 12 || c == 32 || c == 60 || c == 38 || c == 35 || c == 59)
def runL (f : Nat → Bool) (l : List Nat) : Nat := (l.takeWhile f).length
def tailL (f : Nat → Bool) (hi : Nat) (l : List Nat) : Option Nat := if 1 ≤ runL f l ∧ runL f l ≤ hi ∧ l[runL f l]? = some 59 then some (runL f l + 1) else none

/-- a sign of hex: x or X -/
def isX (c : Nat) : Bool := c == 120 || c == 88

/-- the length of the reference that stands at the head, by the pattern -/
def matchL : List Nat → Option Nat
  | 38 :: 35 :: r => match tailL decC 7 r with
    | some k => some (k + 2)
    | none => match r with
      | x :: r2 => if isX x then (tailL hexC r2.length r2).map (· + 3) else none
      | [] => none
  | 38 :: r => (tailL nameC 32 r).map (· + 1)
  | _ => none

def digV (c : Nat) : Nat := if c ≤ 57 then c - 48 else if c ≤ 70 then c - 55 else c - 87
def digC (b : Nat) (c : Nat) : Bool := if b = 16 then hexC c else decC c
def numL (b : Nat) (ds : List Nat) : Nat := ds.foldl (fun n c => n * b + digV c) 0
/-- the number that stands at the head: its worth and its length -/
def numAt (b : Nat) (r : List Nat) : Option (Nat × Nat) :=
  if 1 ≤ runL (digC b) r ∧ r[runL (digC b) r]? = some 59 ∧ (b = 10 → runL (digC b) r ≤ 7) ∧ keptF (numL b (r.takeWhile (digC b)) : Nat) = true then some (numL b (r.takeWhile (digC b)), runL (digC b) r + 1) else none

def namedL : List (List Nat × Nat) := [([97, 109, 112, 59], 38), ([108, 116, 59], 60), ([103, 116, 59], 62), ([113, 117, 111, 116, 59], 34), ([99, 111, 112, 121, 59], 169), ([110, 98, 115, 112, 59], 160)]
def nameAt (r : List Nat) : List (List Nat × Nat) → Option (Nat × Nat)
  | [] => none
  | p :: ps => if r.take p.1.length = p.1 then some (p.2, p.1.length) else nameAt r ps

/-- the reading of the law: the sign and the length -/
def refL : List Nat → Option (Nat × Nat)
  | 38 :: 35 :: r => match r with
    | x :: r2 => if isX x then (numAt 16 r2).map (fun p => (p.1, p.2 + 3)) else (numAt 10 r).map (fun p => (p.1, p.2 + 2))
    | [] => none
  | 38 :: r => (nameAt r namedL).map (fun p => (p.1, p.2 + 1))
  | _ => none

/-- matchL behind & and # -/
def numM (r : List Nat) : Option Nat := match tailL decC 7 r with
    | some k => some (k + 2)
    | none => match r with
      | x :: r2 => if isX x then (tailL hexC r2.length r2).map (· + 3) else none
      | [] => none
theorem matchL_num (r : List Nat) : matchL (38 :: 35 :: r) = numM r := rfl
theorem tailL_pos {f : Nat → Bool} {hi k : Nat} {l : List Nat} (h : tailL f hi l = some k) : 2 ≤ k ∧ k ≤ l.length ∧ k = runL f l + 1 ∧ l[runL f l]? = some 59 ∧ runL f l ≤ hi := by
  unfold tailL at h
  split at h
  · rename_i c
    cases h
    have := List.getElem?_eq_some_iff.mp c.2.2
    obtain ⟨h1, _⟩ := this
    exact ⟨by omega, by omega, rfl, c.2.2, c.2.1⟩
  · cases h

theorem takeWhile_run {f : Nat → Bool} {d : List Nat} {c : Nat} {r : List Nat} (hd : ∀ x ∈ d, f x = true) (hc : f c = false) : (d ++ c :: r).takeWhile f = d := by
  induction d with
  | nil => simp [hc]
  | cons x d ih =>
    have hx := hd x (by simp)
    simp only [List.cons_append, List.takeWhile_cons, hx, if_true]
    rw [ih fun y hy => hd y (by simp [hy])]

theorem runL_run {f : Nat → Bool} {d : List Nat} {c : Nat} {r : List Nat} (hd : ∀ x ∈ d, f x = true) (hc : f c = false) : runL f (d ++ c :: r) = d.length := by
  unfold runL; rw [takeWhile_run hd hc]

theorem tailL_run {f : Nat → Bool} {hi : Nat} {d r : List Nat} (hd : ∀ x ∈ d, f x = true) (hc : f 59 = false) (h1 : 1 ≤ d.length) :
    tailL f hi (d ++ 59 :: r) = if d.length ≤ hi then some (d.length + 1) else none := by
  unfold tailL
  rw [runL_run hd hc]
  have e : (d ++ 59 :: r)[d.length]? = some 59 := by simp
  by_cases h : d.length ≤ hi
  · rw [if_pos h, if_pos ⟨h1, h, e⟩]
  · rw [if_neg h, if_neg fun c => h c.2.1]

/-- the cost of a sign in percent: what the law's row keeps is one -/
def rowC (c : Nat) : Bool := decC c || (decide (97 ≤ c) && decide (c ≤ 122)) || (decide (65 ≤ c) && decide (c ≤ 90)) || [95, 46, 45, 126, 58, 47, 63, 35, 64, 33, 36, 38, 40, 41, 42, 43, 44, 59, 61, 37].contains c
def costC (c : Nat) : Nat := if rowC c then 1 else if c < 128 then 3 else if c < 2048 then 6 else if c < 65536 then 9 else 12
def costL (l : List Nat) : Nat := (l.map costC).sum

/-- the signs of the law's texts -/
def okC (c : Nat) : Bool := decide (c < 128) || c == 233 || c == 8364

/-- what a piece is: flag says whether it is a reference by the pattern, then whole -/
structure PieceOk (l : List Nat) (flag : Bool) : Prop where
  ok : ∀ c ∈ l, okC c = true
  cost : costL l ≤ 349700
  amp : l.head? = some 38
  no : flag = false → matchL l = none
  yes : flag = true → matchL l = some l.length

theorem costL_append (a b : List Nat) : costL (a ++ b) = costL a + costL b := by simp [costL]
theorem costL_cons (a : Nat) (b : List Nat) : costL (a :: b) = costC a + costL b := by simp [costL]
theorem costL_row {l : List Nat} (h : ∀ c ∈ l, rowC c = true) : costL l = l.length := by
  induction l with
  | nil => rfl
  | cons c l ih => rw [costL_cons, ih fun d hd => h d (by simp [hd])]; simp [costC, h c (by simp)]; omega

theorem hexC_row {c : Nat} (h : hexC c = true) : rowC c = true := by
  simp only [hexC, rowC, decC, Bool.or_eq_true, Bool.and_eq_true, decide_eq_true_eq] at h ⊢; omega
theorem hexC_ok {c : Nat} (h : hexC c = true) : okC c = true := by
  simp only [hexC, okC, decC, Bool.or_eq_true, Bool.and_eq_true, decide_eq_true_eq] at h ⊢; left; left; omega
theorem decC_hex {c : Nat} (h : decC c = true) : hexC c = true := by simp [hexC, h]

theorem piece_dec {d : List Nat} (hd : ∀ c ∈ d, decC c = true) (h1 : 1 ≤ d.length) (h2 : d.length ≤ 349610) : PieceOk (38 :: 35 :: (d ++ [59])) (decide (d.length ≤ 7)) where
  ok := by
    intro c hc
    simp only [List.mem_cons, List.mem_append, List.not_mem_nil, or_false] at hc
    rcases hc with rfl | rfl | hc | rfl
    · rfl
    · rfl
    · exact hexC_ok (decC_hex (hd c hc))
    · rfl
  cost := by
    rw [costL_cons, costL_cons, costL_append, costL_row fun c hc => hexC_row (decC_hex (hd c hc))]
    have : costL [59] = 1 := rfl
    have : costC 38 = 1 := rfl
    have : costC 35 = 1 := rfl
    omega
  amp := rfl
  no := by
    intro hf
    have hf := of_decide_eq_false hf
    rw [matchL_num]; unfold numM
    rw [tailL_run hd (by rfl) h1, if_neg hf]
    cases d with
    | nil => simp at h1
    | cons x d =>
      have hx := hd x (by simp)
      simp only [decC, Bool.and_eq_true, decide_eq_true_eq] at hx
      simp only [List.cons_append]
      rw [if_neg (by simp only [isX, Bool.or_eq_true, beq_iff_eq]; omega)]
  yes := by
    intro hf
    have hf := of_decide_eq_true hf
    rw [matchL_num]; unfold numM
    rw [tailL_run hd (by rfl) h1, if_pos hf]
    simp

theorem piece_hex {x : Nat} (hx : isX x = true) {d : List Nat} (hd : ∀ c ∈ d, hexC c = true) (h1 : 1 ≤ d.length) (h2 : d.length ≤ 349610) : PieceOk (38 :: 35 :: x :: (d ++ [59])) true where
  ok := by
    intro c hc
    simp only [List.mem_cons, List.mem_append, List.not_mem_nil, or_false] at hc
    rcases hc with rfl | rfl | rfl | hc | rfl
    · rfl
    · rfl
    · simp only [isX, Bool.or_eq_true, beq_iff_eq] at hx; rcases hx with rfl | rfl <;> rfl
    · exact hexC_ok (hd c hc)
    · rfl
  cost := by
    rw [costL_cons, costL_cons, costL_cons, costL_append, costL_row fun c hc => hexC_row (hd c hc)]
    have : costL [59] = 1 := rfl
    have : costC 38 = 1 := rfl
    have : costC 35 = 1 := rfl
    have : costC x = 1 := by simp only [isX, Bool.or_eq_true, beq_iff_eq] at hx; rcases hx with rfl | rfl <;> rfl
    omega
  amp := rfl
  no := by intro h; cases h
  yes := by
    intro _
    have hr : runL decC (x :: (d ++ [59])) = 0 := by
      unfold runL
      rw [List.takeWhile_cons, if_neg]
      · rfl
      · simp only [isX, Bool.or_eq_true, beq_iff_eq] at hx; rcases hx with rfl | rfl <;> decide
    have ht : tailL decC 7 (x :: (d ++ [59])) = none := by
      unfold tailL; rw [hr, if_neg (by omega)]
    rw [matchL_num]; unfold numM
    rw [ht]
    simp only [hx, if_true]
    rw [tailL_run hd (by rfl) h1, if_pos (by simp)]
    simp
end
-- part FigUse
section
section
variable {w : World} {A₀ : Around} {s : Shared} {base h₀ : Heap} {outer : List Env} {L : Addr} {m : Str → Option Value} {news : List (Addr × Obj)} {p0 : Program} {loose : List Str} {mean : ExcName → Option Value} {mg mb : Str → Option Value}
  {dp un : Nat} {gd : Option (List Code)} {cn : Str} {cs : Scope} {a : Addr} {ccd : Value} {cl : List (Str × Addr)} {Q E : Value → Shared → Prop}

/-- a contract that touches nothing -/
theorem Ctr.pure {d : Nat} {f : Addr} {args : List Value} {Pre : Heap → Prop} {P : Heap → Value → Prop}
    (C : Ctr PySem.Challenge.rw_ah6020_01.row.prog w d f args [] Pre (fun h v own' => own' = [] ∧ P h v))
    (B : Below A₀ base outer h₀) (F : Fr h₀ L s.heap m) (X : (Mine.hd.heap_39 w.params).In h₀) (T : Top p0 loose mean mg mb h₀) (hk : cs.kind = .function) (hd : dp + d < recursionLimit) (hu : un + 8 * d < cLine)
    (N : News h₀ L s.heap news) (hp : Pre s.heap)
    (h : ∀ v h' tk', P s.heap v → Fr h₀ L h' m → News h₀ L h' news → Keeps [] s.heap h' → Q v { s with heap := h', toks := tk' }) :
    wpAny (model PySem.Challenge.rw_ah6020_01.row.prog w) (ktrTop dp un gd cn cs L a ccd cl outer) (call (.ref f) args) Q E s := by
  refine C.use (rest := news) B F X T hk hd hu N (fun q hq => nomatch hq) (fun q hq => hq) (fun q hq => by simp) hp fun v own' h' tk' hP F' N' _ KP => ?_
  obtain ⟨rfl, hP⟩ := hP
  exact h v h' tk' hP F' N' KP

theorem fig_use {n b : Int} {tn tb : Tok} 
    (B : Below A₀ base outer h₀) (F : Fr h₀ L s.heap m) (X : (Mine.hd.heap_39 w.params).In h₀) (T : Top p0 loose mean mg mb h₀) (hk : cs.kind = .function) (hd : dp + 1 < recursionLimit) (hu : un + 8 * 1 < cLine)
    (N : News h₀ L s.heap news) (hB : BigOk n) (hb : b = 10 ∨ b = 16)
    (h : ∀ x t h' tk', FigOk b n x → x.length ≤ 349600 → Fr h₀ L h' m → News h₀ L h' news → Q (.str x t) { s with heap := h', toks := tk' }) :
    wpAny (model PySem.Challenge.rw_ah6020_01.row.prog w) (ktrTop dp un gd cn cs L a ccd cl outer) (call (.ref 462) [.int n tn, .int b tb]) Q E s := by
  refine (fig_ctr w n b tn tb hB hb).pure B F X T hk hd hu N trivial ?_
  rintro v h' tk' ⟨x, t, rfl, hx⟩ F' N' _
  exact h x t h' tk' hx hx.len F' N'

theorem kept_use {n : Int} {tn : Tok} 
    (B : Below A₀ base outer h₀) (F : Fr h₀ L s.heap m) (X : (Mine.hd.heap_39 w.params).In h₀) (T : Top p0 loose mean mg mb h₀) (hk : cs.kind = .function) (hd : dp + 1 < recursionLimit) (hu : un + 8 * 1 < cLine)
    (N : News h₀ L s.heap news)
    (h : ∀ h' tk', Fr h₀ L h' m → News h₀ L h' news → Q (.bool (keptF n)) { s with heap := h', toks := tk' }) :
    wpAny (model PySem.Challenge.rw_ah6020_01.row.prog w) (ktrTop dp un gd cn cs L a ccd cl outer) (call (.ref 455) [.int n tn]) Q E s := by
  refine (kept_ctr w n tn).pure B F X T hk hd hu N trivial ?_
  rintro v h' tk' rfl F' N' _
  exact h h' tk' F' N'
end
end
local macro_rules | `(tactic| walk_at "call ref") => `(tactic| (k_here; (with_reducible show wpAny _ _ (call (Value.ref 462) _) _ _ _); k_dflt (refine' fig_use ?k1 ?k2 ?k3 ?k4 ?k5 ?k6 ?k7 ?k8 ?k9 ?k10 ?_; walk_at "MINE ctx"; (case k9 => first | assumption | exact bigOk_small (by omega)); (case k10 => first | exact .inl rfl | exact .inr rfl); k_whole); intro x' t' h' tk' hx' hxl' F' N'; (try k_sweep)))
local macro_rules | `(tactic| walk_at "call ref") => `(tactic| (k_here; (with_reducible show wpAny _ _ (call (Value.ref 455) _) _ _ _); k_dflt (refine' kept_use ?k1 ?k2 ?k3 ?k4 ?k5 ?k6 ?k7 ?k8 ?_; walk_at "MINE ctx"; k_whole); intro h' tk' F' N'; (try k_sweep)))
-- part WrittenPl
section
theorem cps_app (a b : PySem.Str) : (a ++ b).cps.toList = a.cps.toList ++ b.cps.toList := by rw [Str.cps_append, Array.toList_append]
theorem len_cps (a : PySem.Str) : a.length = a.cps.toList.length := by simp [Str.length]

theorem mul_zero' {k : Int} (h0 : 0 ≤ k) (h1 : k < 4) : (∀ c ∈ (Txt.mul (Str.ofString "0") k).cps.toList, c = 48) ∧ (Txt.mul (Str.ofString "0") k).length ≤ 3 := by
  have hk : k = 0 ∨ k = 1 ∨ k = 2 ∨ k = 3 := by omega
  rcases hk with rfl | rfl | rfl | rfl <;> decide +kernel

def upC (c : Nat) : Nat := if 97 ≤ c ∧ c ≤ 122 then c - 32 else c
theorem upper_list : ∀ l : List Nat, (∀ c ∈ l, c < 128) → (Txt.upper ⟨l.toArray⟩).cps.toList = l.map upC
  | [], _ => by decide +kernel
  | c :: l, h => by
    have e : (⟨(c :: l).toArray⟩ : PySem.Str) = ⟨#[c]⟩ ++ ⟨l.toArray⟩ := Str.ext' (by rw [Str.cps_append]; simp)
    rw [e, KOpn.upper_app, cps_app, upper_list l fun d hd => h d (by simp [hd]), KOpn.upper_one (h c (by simp))]
    rfl
theorem upper_toList (x : PySem.Str) (h : ∀ c ∈ x.cps.toList, c < 128) : (Txt.upper x).cps.toList = x.cps.toList.map upC := by
  have e : x = ⟨x.cps.toList.toArray⟩ := Str.ext' (by simp)
  rw [e]
  exact upper_list _ (by simpa using h)

theorem dig10 {c : Nat} (h : isDig 10 c = true) : decC c = true := by
  simp only [isDig, decC, Bool.or_eq_true, Bool.and_eq_true, decide_eq_true_eq] at h ⊢; omega
theorem dig16 {c : Nat} (h : isDig 16 c = true) : hexC c = true ∧ hexC (upC c) = true ∧ c < 128 := by
  simp only [isDig, Bool.or_eq_true, Bool.and_eq_true, decide_eq_true_eq] at h
  refine ⟨?_, ?_, by omega⟩
  · simp only [hexC, decC, Bool.or_eq_true, Bool.and_eq_true, decide_eq_true_eq]; omega
  · unfold upC
    split
    · simp only [hexC, decC, Bool.or_eq_true, Bool.and_eq_true, decide_eq_true_eq]; omega
    · simp only [hexC, decC, Bool.or_eq_true, Bool.and_eq_true, decide_eq_true_eq]; omega

theorem figs_ok {b n k : Int} {x : PySem.Str} (I : FigOk b n x) (h0 : 0 ≤ k) (h1 : k < 4) : (∀ c ∈ (Txt.mul (Str.ofString "0") k ++ x).cps.toList, isDig b c = true) ∧ 1 ≤ (Txt.mul (Str.ofString "0") k ++ x).cps.toList.length ∧ (Txt.mul (Str.ofString "0") k ++ x).cps.toList.length ≤ 349610 := by
  obtain ⟨z1, z2⟩ := mul_zero' h0 h1
  have p := I.pos
  have l := I.len
  rw [len_cps] at z2 p l
  rw [cps_app, List.length_append]
  refine ⟨fun c hc => ?_, by omega, by omega⟩
  rcases List.mem_append.mp hc with hc | hc
  · rw [z1 c hc]; rfl
  · exact I.dig c hc

theorem written_dec {n k : Int} {x : PySem.Str} (I : FigOk 10 n x) (h0 : 0 ≤ k) (h1 : k < 4) :
    PieceOk (Str.ofString "&#" ++ (Txt.mul (Str.ofString "0") k ++ x) ++ Str.ofString ";").cps.toList (decide (((Txt.mul (Str.ofString "0") k ++ x).length : Int) ≤ 7)) := by
  obtain ⟨f1, f2, f3⟩ := figs_ok I h0 h1
  have := piece_dec (fun c hc => dig10 (f1 c hc)) f2 f3
  rw [cps_app, cps_app, show (Str.ofString "&#").cps.toList = [38, 35] by decide, show (Str.ofString ";").cps.toList = [59] by decide]
  rw [show decide (((Txt.mul (Str.ofString "0") k ++ x).length : Int) ≤ 7) = decide ((Txt.mul (Str.ofString "0") k ++ x).cps.toList.length ≤ 7) from decide_eq_decide.mpr (by rw [len_cps]; omega)]
  exact this
theorem written_hex {n k : Int} {x : PySem.Str} (I : FigOk 16 n x) (h0 : 0 ≤ k) (h1 : k < 4) :
    PieceOk (Str.ofString "&#x" ++ (Txt.mul (Str.ofString "0") k ++ x) ++ Str.ofString ";").cps.toList true := by
  obtain ⟨f1, f2, f3⟩ := figs_ok I h0 h1
  have := piece_hex (x := 120) rfl (fun c hc => (dig16 (f1 c hc)).1) f2 f3
  rw [cps_app, cps_app, show (Str.ofString "&#x").cps.toList = [38, 35, 120] by decide, show (Str.ofString ";").cps.toList = [59] by decide]
  exact this
theorem written_HEX {n k : Int} {x : PySem.Str} (I : FigOk 16 n x) (h0 : 0 ≤ k) (h1 : k < 4) :
    PieceOk (Str.ofString "&#X" ++ Txt.upper (Txt.mul (Str.ofString "0") k ++ x) ++ Str.ofString ";").cps.toList true := by
  obtain ⟨f1, f2, f3⟩ := figs_ok I h0 h1
  have := piece_hex (x := 88) (d := (Txt.mul (Str.ofString "0") k ++ x).cps.toList.map upC) rfl (fun c hc => by
    obtain ⟨d, hd, rfl⟩ := List.mem_map.mp hc
    exact (dig16 (f1 d hd)).2.1) (by simpa using f2) (by simpa using f3)
  rw [cps_app, cps_app, upper_toList _ fun c hc => (dig16 (f1 c hc)).2.2, show (Str.ofString "&#X").cps.toList = [38, 35, 88] by decide, show (Str.ofString ";").cps.toList = [59] by decide]
  exact this
end
-- part Written
section
theorem written_ctr (w : World) (bx sc : Addr) (vs : List Value) (ns : List Int) (hi : IntsAre vs ns) (hlen : ns.length < 2 ^ 62) (n : Int) (tn : Tok) (hB : BigOk n) (p b : Int) (t1 t2 : Tok) (nb : Nat)
    (hp : 0 ≤ p) (hb : 0 ≤ b) (hb2 : b < 2147483647) (hne : sc ≠ bx) :
    Ctr PySem.Challenge.rw_ah6020_01.row.prog w 2 469 [.ref bx, .int n tn] [(bx, boxO sc p b t1 t2 nb)] (fun h => h.IsList sc vs.toArray)
      (fun _ v own' => ∃ r x t f c p' b' t1' t2' nb', v = .ref r ∧ own' = [(r, listOf #[.str x t, .bool f] c), (bx, boxO sc p' b' t1' t2' nb')] ∧ PieceOk x.cps.toList f ∧ 0 ≤ p' ∧ 0 ≤ b' ∧ b' < 2147483647 ∧ @Ne Nat bx r) := by
  unfold Ctr
  k_fill
  w_top off
  k_with_none
  intro p0 loose mean mg mb dp un gd cn cs a ccd cl outer A₀ base h₀ L m s Q E B F X T hk hd hu N hpre hret
  refine wpAny_call ?_
  k_dflt (walk_at "MINE enter")
  intro g' L' h' FG' F' N' B' X' T' KG hL' lt' lv
  have hg := keep_list KG hpre (by simp [hne])
  (try dsimp only)
  (try k_lift B')
  try k_fold
  k_with_none
  k_steps
  all_goals (
    try dsimp only
    rename Fr g' _ _ _ => F9
    rename News g' _ _ _ => N9
    obtain ⟨a1, a2, a3, a4⟩ := lv _ _ _ _ F9 N9
    refine hret _ _ _ _ a1 a2 a3 a4 ⟨_, _, _, _, _, _, _, _, _, _, rfl, rfl, ?_, by assumption, by assumption, by assumption, by omega⟩)
  · exact written_dec (by assumption) (by assumption) (by assumption)
  · exact written_hex (by assumption) (by assumption) (by assumption)
  · exact written_HEX (by assumption) (by assumption) (by assumption)
end
-- part Number
section
theorem bigOk_small {n : Int} (h : n ≤ 4000000) : BigOk n := by
  refine ⟨Nat.lt_of_le_of_lt (by omega : n.toNat ≤ 4000000) (Nat.lt_of_lt_of_le (by decide : 4000000 < 2 ^ 22) (Nat.pow_le_pow_right (by decide) (by decide)))⟩
theorem bigOk_abs {ns : List Int} (hbig : ∀ n ∈ ns, BigOk (n.natAbs : Int)) (k : Nat) : BigOk (if ns.getD k 0 < 0 then -ns.getD k 0 else ns.getD k 0) := by
  have e : (if ns.getD k 0 < 0 then -ns.getD k 0 else ns.getD k 0) = ((ns.getD k 0).natAbs : Int) := by split <;> omega
  rw [e]
  by_cases hk : k < ns.length
  · rw [show ns.getD k 0 = ns[k] by simp [List.getD, List.getElem?_eq_getElem hk]]; exact hbig _ (List.getElem_mem hk)
  · rw [show ns.getD k 0 = 0 by simp [List.getD, List.getElem?_eq_none (by omega : ns.length ≤ k)]]; exact bigOk_small (by decide)

theorem number_ctr (w : World) (bx sc : Addr) (vs : List Value) (ns : List Int) (hi : IntsAre vs ns) (hlen : ns.length < 2 ^ 62) (hbig : ∀ n ∈ ns, BigOk (n.natAbs : Int)) (p b : Int) (t1 t2 : Tok) (nb : Nat)
    (hp : 0 ≤ p) (hb : 0 ≤ b) (hb2 : b < 2147483647) (hne : sc ≠ bx) :
    Ctr PySem.Challenge.rw_ah6020_01.row.prog w 3 476 [.ref bx] [(bx, boxO sc p b t1 t2 nb)] (fun h => h.IsList sc vs.toArray)
      (fun _ v own' => ∃ n t p' b' t1' t2' nb', v = .int n t ∧ own' = [(bx, boxO sc p' b' t1' t2' nb')] ∧ BigOk n ∧ 0 ≤ p' ∧ 0 ≤ b' ∧ b' < 2147483647) := by
  unfold Ctr
  k_fill
  w_top off
  k_with_none
  intro p0 loose mean mg mb dp un gd cn cs a ccd cl outer A₀ base h₀ L m s Q E B F X T hk hd hu N hpre hret
  refine wpAny_call ?_
  k_dflt (walk_at "MINE enter")
  intro g' L' h' FG' F' N' B' X' T' KG hL' lt' lv
  have hg := keep_list KG hpre (by simp [hne])
  (try dsimp only)
  (try k_lift B')
  try k_fold
  k_with_none
  k_steps
  all_goals (
    try dsimp only
    rename Fr g' _ _ _ => F9
    rename News g' _ _ _ => N9
    obtain ⟨a1, a2, a3, a4⟩ := lv _ _ _ [(bx, boxO sc _ _ _ _ _)] F9 (drop_to N9 (List.forall_mem_singleton.mpr (by k_mem)))
    refine hret _ _ _ _ a1 a2 a3 a4 ⟨_, _, _, _, _, _, _, rfl, rfl, ?_, by assumption, by assumption, by assumption⟩)
  · exact bigOk_abs hbig _
  · exact bigOk_small (by decide)
  · exact bigOk_small (by omega)
  · exact bigOk_small (by omega)
  · exact bigOk_small (by omega)
end
local macro_rules | `(tactic| walk_at "call ref") => `(tactic| (k_here; (with_reducible show wpAny _ _ (call (Value.ref 462) _) _ _ _); k_dflt (refine' fig_use ?k1 ?k2 ?k3 ?k4 ?k5 ?k6 ?k7 ?k8 ?k9 ?k10 ?_; walk_at "MINE ctx"; (case k9 => first | assumption | exact bigOk_small (by omega)); (case k10 => first | exact .inl rfl | exact .inr rfl); k_whole); intro x' t' h' tk' hx' hxl' F' N'; (try k_sweep)))
-- part NumUse
section
section
variable {w : World} {A₀ : Around} {s : Shared} {base h₀ : Heap} {outer : List Env} {L : Addr} {m : Str → Option Value} {news : List (Addr × Obj)} {p0 : Program} {loose : List Str} {mean : ExcName → Option Value} {mg mb : Str → Option Value}
  {dp un : Nat} {gd : Option (List Code)} {cn : Str} {cs : Scope} {a : Addr} {ccd : Value} {cl : List (Str × Addr)} {Q E : Value → Shared → Prop}

def AllNe (r : Addr) : List (Addr × Obj) → Prop
  | [] => True
  | p :: l => @Ne Nat p.1 r ∧ AllNe r l
theorem allNe_of {r : Addr} : ∀ {l : List (Addr × Obj)}, (∀ q ∈ l, q.1 ≠ r) → AllNe r l
  | [], _ => trivial
  | q :: l, h => ⟨h q (.head _), allNe_of fun x hx => h x (.tail _ hx)⟩
theorem number_use {bx sc : Addr} {vs : List Value} {ns : List Int} {p b : Int} {t1 t2 : Tok} {nb : Nat} {lf : Obj → List (Addr × Obj)}
    (B : Below A₀ base outer h₀) (F : Fr h₀ L s.heap m) (X : (Mine.hd.heap_39 w.params).In h₀) (T : Top p0 loose mean mg mb h₀) (hk : cs.kind = .function) (hd : dp + 3 < recursionLimit) (hu : un + 8 * 3 < cLine)
    (N : News h₀ L s.heap news) (U : UpdF bx (boxO sc p b t1 t2 nb) news lf) (O : BoxOk s.heap sc vs ns p b) (hbig : ∀ n ∈ ns, BigOk (n.natAbs : Int))
    (h : ∀ n t p' b' t1' t2' nb' h' tk', BigOk n → 0 ≤ p' → 0 ≤ b' → b' < 2147483647 → Fr h₀ L h' m → News h₀ L h' (lf (boxO sc p' b' t1' t2' nb')) → Q (.int n t) { s with heap := h', toks := tk' }) :
    wpAny (model PySem.Challenge.rw_ah6020_01.row.prog w) (ktrTop dp un gd cn cs L a ccd cl outer) (call (.ref 476) [.ref bx]) Q E s := by
  obtain ⟨_, _, hm, _, _, _⟩ := updF_rest U
  have ne := box_ne O (N _ hm).1
  refine Ctr.upd ((number_ctr w bx sc vs ns O.isI O.len hbig p b t1 t2 nb O.p0 O.b0 O.b1 ne).post (Post' := fun _ v own' => ∃ o', own' = [(bx, o')] ∧ ∃ n t p' b' t1' t2' nb', v = .int n t ∧ BigOk n ∧ 0 ≤ p' ∧ 0 ≤ b' ∧ b' < 2147483647 ∧ o' = boxO sc p' b' t1' t2' nb') ?_) B F X T hk hd hu N U O.list ?_
  · rintro h v own' ⟨n, t, p', b', t1', t2', nb', e1, e2, e3, e4, e5, e6⟩
    exact ⟨_, e2, n, t, p', b', t1', t2', nb', e1, e3, e4, e5, e6, rfl⟩
  rintro v o' h' tk' ⟨n, t, p', b', t1', t2', nb', rfl, e3, e4, e5, e6, rfl⟩ F' N' KP
  exact h n t p' b' t1' t2' nb' h' tk' e3 e4 e5 e6 F' N'

/-- a contract that turns the box and hands back a new list -/
theorem Ctr.made {d : Nat} {f : Addr} {args : List Value} {bx : Addr} {o : Obj} {lf : Obj → List (Addr × Obj)} {Pre : Heap → Prop} {P : Heap → Addr → Obj → Obj → Prop}
    (C : Ctr PySem.Challenge.rw_ah6020_01.row.prog w d f args [(bx, o)] Pre (fun h v own' => ∃ r ro o', own' = [(r, ro), (bx, o')] ∧ v = .ref r ∧ @Ne Nat bx r ∧ P h r ro o'))
    (B : Below A₀ base outer h₀) (F : Fr h₀ L s.heap m) (X : (Mine.hd.heap_39 w.params).In h₀) (T : Top p0 loose mean mg mb h₀) (hk : cs.kind = .function) (hd : dp + d < recursionLimit) (hu : un + 8 * d < cLine)
    (N : News h₀ L s.heap news) (U : UpdF bx o news lf) (hp : Pre s.heap)
    (h : ∀ r ro o' h' tk', P s.heap r ro o' → Fr h₀ L h' m → News h₀ L h' ((r, ro) :: lf o') → AllNe r (lf o') → Keeps [(bx, o)] s.heap h' → Q (.ref r) { s with heap := h', toks := tk' }) :
    wpAny (model PySem.Challenge.rw_ah6020_01.row.prog w) (ktrTop dp un gd cn cs L a ccd cl outer) (call (.ref f) args) Q E s := by
  obtain ⟨rest, r1, r2, r3, r4, r5⟩ := updF_rest U
  refine C.use (rest := rest) B F X T hk hd hu N (fun q hq => ?_) r1 (fun q hq => ?_) hp fun v own' h' tk' hP F' N' ND KP => ?_
  · rw [List.mem_singleton.mp hq]; exact r2
  · simp only [List.map_cons, List.map_nil, List.mem_singleton]; exact r3 q hq
  · obtain ⟨r, ro, o', rfl, rfl, hne, hP⟩ := hP
    refine h r ro o' h' tk' hP F' (fun q hq => N' q ?_) (allNe_of fun q hq => ?_) KP
    · rcases List.mem_cons.mp hq with rfl | hq
      · simp
      · rcases r4 o' q hq with rfl | hq
        · simp
        · simp [hq]
    · rcases r4 o' q hq with rfl | hq
      · exact hne
      · rcases ND (r, ro) (by simp) with e | e
        · simp only [List.map_cons, List.map_nil, List.mem_singleton] at e
          exact absurd e.symm hne
        · exact fun e' => e q hq e'.symm

theorem written_use {bx sc : Addr} {vs : List Value} {ns : List Int} {n p b : Int} {tn t1 t2 : Tok} {nb : Nat} {lf : Obj → List (Addr × Obj)}
    (B : Below A₀ base outer h₀) (F : Fr h₀ L s.heap m) (X : (Mine.hd.heap_39 w.params).In h₀) (T : Top p0 loose mean mg mb h₀) (hk : cs.kind = .function) (hd : dp + 2 < recursionLimit) (hu : un + 8 * 2 < cLine)
    (N : News h₀ L s.heap news) (U : UpdF bx (boxO sc p b t1 t2 nb) news lf) (O : BoxOk s.heap sc vs ns p b) (hB : BigOk n)
    (h : ∀ r x t f c p' b' t1' t2' nb' h' tk', PieceOk x.cps.toList f → 0 ≤ p' → 0 ≤ b' → b' < 2147483647 → Fr h₀ L h' m → News h₀ L h' ((r, W.listOf #[.str x t, .bool f] c) :: lf (boxO sc p' b' t1' t2' nb')) → AllNe r (lf (boxO sc p' b' t1' t2' nb')) → Q (.ref r) { s with heap := h', toks := tk' }) :
    wpAny (model PySem.Challenge.rw_ah6020_01.row.prog w) (ktrTop dp un gd cn cs L a ccd cl outer) (call (.ref 469) [.ref bx, .int n tn]) Q E s := by
  obtain ⟨_, _, hm, _, _, _⟩ := updF_rest U
  have ne := box_ne O (N _ hm).1
  refine Ctr.made ((written_ctr w bx sc vs ns O.isI O.len n tn hB p b t1 t2 nb O.p0 O.b0 O.b1 ne).post (Post' := fun _ v own' => ∃ r ro o', own' = [(r, ro), (bx, o')] ∧ v = .ref r ∧ @Ne Nat bx r ∧ ∃ x t f c p' b' t1' t2' nb', PieceOk x.cps.toList f ∧ 0 ≤ p' ∧ 0 ≤ b' ∧ b' < 2147483647 ∧ ro = W.listOf #[.str x t, .bool f] c ∧ o' = boxO sc p' b' t1' t2' nb') ?_) B F X T hk hd hu N U O.list ?_
  · rintro h v own' ⟨r, x, t, f, c, p', b', t1', t2', nb', e1, e2, e3, e4, e5, e6, e7⟩
    exact ⟨_, _, _, e2, e1, e7, x, t, f, c, p', b', t1', t2', nb', e3, e4, e5, e6, rfl, rfl⟩
  rintro r ro o' h' tk' ⟨x, t, f, c, p', b', t1', t2', nb', e3, e4, e5, e6, rfl, rfl⟩ F' N' hn KP
  exact h r x t f c p' b' t1' t2' nb' h' tk' e3 e4 e5 e6 F' N' hn
end
end
local macro_rules | `(tactic| walk_at "call ref") => `(tactic| (k_here; (with_reducible show wpAny _ _ (call (Value.ref 476) _) _ _ _); k_dflt (refine' number_use ?k1 ?k2 ?k3 ?k4 ?k5 ?k6 ?k7 ?k8 ?k9 ?k10 ?k11 ?_; walk_at "MINE ctx"; (case k9 => k_updF); (case k10 => walk_at "MINE box"); (case k11 => assumption); k_whole); intro n' t' p' b' t1' t2' nb' h' tk' hB' hp0' hb0' hb1' F' N'; (try dsimp only at N'); (try k_sweep)))
local macro_rules | `(tactic| walk_at "call ref") => `(tactic| (k_here; (with_reducible show wpAny _ _ (call (Value.ref 469) _) _ _ _); k_dflt (refine' written_use ?k1 ?k2 ?k3 ?k4 ?k5 ?k6 ?k7 ?k8 ?k9 ?k10 ?k11 ?_; walk_at "MINE ctx"; (case k9 => k_updF); (case k10 => walk_at "MINE box"); (case k11 => first | assumption | exact bigOk_small (by omega)); k_whole); intro r' x' t' f' c' p' b' t1' t2' nb' h' tk' hP' hp0' hb0' hb1' F' N' hn'; (try dsimp only at N'); (try (simp only [AllNe, and_true] at hn')); (try k_sweep)))
-- part PiecePl
section
def pieceB (l : List Nat) (f : Bool) : Bool := l.all okC && decide (costL l ≤ 349700) && l.head? == some 38 && (if f then matchL l == some l.length else matchL l == none)
theorem pieceOk_of {l : List Nat} {f : Bool} (h : pieceB l f = true) : PieceOk l f := by
  unfold pieceB at h
  simp only [Bool.and_eq_true, decide_eq_true_eq, beq_iff_eq, List.all_eq_true] at h
  obtain ⟨⟨⟨h1, h2⟩, h3⟩, h4⟩ := h
  refine ⟨h1, h2, h3, fun e => ?_, fun e => ?_⟩ <;> subst e <;> simpa using h4

theorem runL_all {f : Nat → Bool} {d : List Nat} (hd : ∀ x ∈ d, f x = true) : runL f d = d.length := by
  unfold runL
  induction d with
  | nil => rfl
  | cons x d ih => rw [List.takeWhile_cons, if_pos (hd x (by simp)), List.length_cons, List.length_cons, ih fun y hy => hd y (by simp [hy])]

theorem isX_dec {c : Nat} (h : decC c = true) : isX c = false := by
  simp only [decC, Bool.and_eq_true, decide_eq_true_eq] at h
  simp only [isX, Bool.or_eq_false_iff, beq_eq_false_iff_ne]
  omega

/-- digits, then no semicolon -/
theorem numM_bad {d r : List Nat} (hd : ∀ x ∈ d, decC x = true) (h1 : 1 ≤ d.length) (hr : r.head? ≠ some 59) (hr' : ∀ c, r.head? = some c → decC c = false) : numM (d ++ r) = none := by
  have ht : runL decC (d ++ r) = d.length := by
    cases r with
    | nil => rw [List.append_nil]; exact runL_all hd
    | cons c r => exact runL_run hd (hr' c rfl)
  have hn : (d ++ r)[d.length]? ≠ some 59 := by
    rw [List.getElem?_append_right (Nat.le_refl _), Nat.sub_self]
    cases r with
    | nil => simp
    | cons c r => simpa using hr
  unfold numM
  have e : tailL decC 7 (d ++ r) = none := by
    unfold tailL
    rw [ht, if_neg fun c => hn c.2.2]
  rw [e]
  cases d with
  | nil => simp at h1
  | cons x d => simp only [List.cons_append, isX_dec (hd x (by simp)), Bool.false_eq_true, if_false]

theorem bad_ok {d pre post : List Nat} (hd : ∀ x ∈ d, decC x = true) (hl : d.length ≤ 349600) (hp : pre.all okC = true) (hq : post.all okC = true) (hc : costL pre ≤ 40) (hc' : costL post ≤ 40) (ha : pre.head? = some 38) (hm : matchL (pre ++ (d ++ post)) = none) : PieceOk (pre ++ (d ++ post)) false where
  ok := by
    intro c hc
    rcases List.mem_append.mp hc with h | h
    · exact List.all_eq_true.mp hp c h
    · rcases List.mem_append.mp h with h | h
      · exact hexC_ok (decC_hex (hd c h))
      · exact List.all_eq_true.mp hq c h
  cost := by
    rw [costL_append, costL_append, costL_row fun c hc => hexC_row (decC_hex (hd c hc))]; omega
  amp := by
    cases pre with
    | nil => cases ha
    | cons c r => simpa using ha
  no := fun _ => hm
  yes := fun h => nomatch h

theorem piece_bad1 {n : Int} {x : PySem.Str} (I : FigOk 10 n x) : PieceOk (Str.ofString "&#" ++ x).cps.toList false := by
  have hd : ∀ c ∈ x.cps.toList, decC c = true := fun c hc => dig10 (I.dig c hc)
  have l := I.len
  have p := I.pos
  rw [len_cps] at l p
  rw [cps_app, show (Str.ofString "&#").cps.toList = [38, 35] by decide]
  have := bad_ok (pre := [38, 35]) (post := []) hd l rfl rfl (by decide) (by decide) rfl (by
    show numM (x.cps.toList ++ []) = none
    exact numM_bad hd p (by simp) (by simp))
  simpa using this
theorem piece_bad2 {n : Int} {x : PySem.Str} (I : FigOk 10 n x) : PieceOk (Str.ofString "&# " ++ x ++ Str.ofString ";").cps.toList false := by
  have hd : ∀ c ∈ x.cps.toList, decC c = true := fun c hc => dig10 (I.dig c hc)
  have l := I.len
  rw [len_cps] at l
  rw [cps_app, cps_app, show (Str.ofString "&# ").cps.toList = [38, 35, 32] by decide, show (Str.ofString ";").cps.toList = [59] by decide, List.append_assoc]
  exact bad_ok (pre := [38, 35, 32]) (post := [59]) hd l rfl rfl (by decide) (by decide) rfl (by
    show numM (32 :: (x.cps.toList ++ [59])) = none
    unfold numM tailL runL
    simp [decC, isX])
theorem piece_bad3 {n : Int} {x : PySem.Str} (I : FigOk 10 n x) : PieceOk (Str.ofString "&#" ++ x ++ Str.ofString "g;").cps.toList false := by
  have hd : ∀ c ∈ x.cps.toList, decC c = true := fun c hc => dig10 (I.dig c hc)
  have l := I.len
  have p := I.pos
  rw [len_cps] at l p
  rw [cps_app, cps_app, show (Str.ofString "&#").cps.toList = [38, 35] by decide, show (Str.ofString "g;").cps.toList = [103, 59] by decide, List.append_assoc]
  exact bad_ok (pre := [38, 35]) (post := [103, 59]) hd l rfl rfl (by decide) (by decide) rfl (by
    show numM (x.cps.toList ++ [103, 59]) = none
    exact numM_bad hd p (by simp) (by simp; decide))
theorem piece_noname {x : PySem.Str} {l : List PySem.Str} (hx : x ∈ l) (h : l.all (fun x => pieceB x.cps.toList true) = true) : PieceOk x.cps.toList true := pieceOk_of (List.all_eq_true.mp h x hx)
end
-- part Piece
section
theorem piece_ctr (w : World) (bx sc : Addr) (vs : List Value) (ns : List Int) (hi : IntsAre vs ns) (hlen : ns.length < 2 ^ 62) (hbig : ∀ n ∈ ns, BigOk (n.natAbs : Int)) (p b : Int) (t1 t2 : Tok) (nb : Nat)
    (hp : 0 ≤ p) (hb : 0 ≤ b) (hb2 : b < 2147483647) (hne : sc ≠ bx) :
    Ctr PySem.Challenge.rw_ah6020_01.row.prog w 4 483 [.ref bx] [(bx, boxO sc p b t1 t2 nb)] (fun h => h.IsList sc vs.toArray)
      (fun _ v own' => ∃ r x t f c p' b' t1' t2' nb', v = .ref r ∧ own' = [(r, W.listOf #[.str x t, .bool f] c), (bx, boxO sc p' b' t1' t2' nb')] ∧ PieceOk x.cps.toList f ∧ 0 ≤ p' ∧ 0 ≤ b' ∧ b' < 2147483647 ∧ @Ne Nat bx r) := by
  unfold Ctr
  k_fill
  w_top off
  k_with_none
  intro p0 loose mean mg mb dp un gd cn cs a ccd cl outer A₀ base h₀ L m s Q E B F X T hk hd hu N hpre hret
  refine wpAny_call ?_
  k_dflt (walk_at "MINE enter")
  intro g' L' h' FG' F' N' B' X' T' KG hL' lt' lv
  have hg := keep_list KG hpre (by simp [hne])
  (try dsimp only)
  (try k_lift B')
  try k_fold
  k_with_none
  k_steps
  all_goals (
    try dsimp only
    rename Fr g' _ _ _ => F9
    rename News g' _ _ _ => N9
    obtain ⟨a1, a2, a3, a4⟩ := lv _ _ _ [(_, W.listOf #[.str _ _, .bool _] _), (bx, boxO sc _ _ _ _ _)] F9 (drop_to N9 (List.forall_mem_cons.mpr ⟨List.Mem.head _, List.forall_mem_singleton.mpr (by k_mem)⟩))
    refine hret _ _ _ _ a1 a2 a3 a4 ⟨_, _, _, _, _, _, _, _, _, _, rfl, rfl, ?_, by assumption, by assumption, by assumption, by omega⟩)
  · assumption
  · exact pieceOk_of (by decide +kernel)
  · exact pieceOk_of (by decide +kernel)
  · exact pieceOk_of (by decide +kernel)
  · exact pieceOk_of (by decide +kernel)
  · exact pieceOk_of (by decide +kernel)
  · exact pieceOk_of (by decide +kernel)
  · exact piece_noname (by assumption) (by decide +kernel)
  · exact piece_bad1 (by assumption)
  · exact pieceOk_of (by decide +kernel)
  · exact pieceOk_of (by decide +kernel)
  · exact piece_bad2 (by assumption)
  · exact pieceOk_of (by decide +kernel)
  · exact piece_bad3 (by assumption)
  · exact pieceOk_of (by decide +kernel)
  · exact pieceOk_of (by decide +kernel)
end
-- part Figure
section
/-- the law's reading of one figure -/
def figV (b : Nat) (c : Nat) : Int := if digC b c then (digV c : Int) else -1
def figAt (l : List Nat) (k : Nat) (b : Nat) : Int := match l[k]? with
  | some c => figV b c
  | none => -1

theorem item_at {x : PySem.Str} {k : Int} (h0 : 0 ≤ k) (h1 : k.toNat < x.length) : ∃ c, x.cps.toList[k.toNat]? = some c ∧ Txt.item x k = ⟨#[c]⟩ := by
  have h1' : k.toNat < x.cps.size := h1
  refine ⟨x.cps[k.toNat], by simp [h1'], ?_⟩
  have hs : seqIndex? k x.length = some k.toNat := by
    unfold seqIndex?
    have e : ¬ k < 0 := by omega
    have e2 : k < (x.length : Int) := by omega
    simp [e, h0, e2]
  unfold Txt.item Txt.charAt
  rw [hs]
  simp [h1']

theorem find_fig : ∀ c, c < 128 → ∀ b, b = 10 ∨ b = 16 → (if Txt.find lowerT (Txt.lower ⟨#[c]⟩) < (b : Nat) then Txt.find lowerT (Txt.lower ⟨#[c]⟩) else -1) = figV b c := by
  intro c hc b hb
  rcases hb with rfl | rfl
  · exact (by decide +kernel : ∀ c, c < 128 → (if Txt.find lowerT (Txt.lower ⟨#[c]⟩) < ((10 : Nat) : Int) then Txt.find lowerT (Txt.lower ⟨#[c]⟩) else -1) = figV 10 c) c hc
  · exact (by decide +kernel : ∀ c, c < 128 → (if Txt.find lowerT (Txt.lower ⟨#[c]⟩) < ((16 : Nat) : Int) then Txt.find lowerT (Txt.lower ⟨#[c]⟩) else -1) = figV 16 c) c hc
theorem find_fig2 {c b : Nat} (hc : okC c = true) (hb : b = 10 ∨ b = 16) : (if Txt.find lowerT (Txt.lower ⟨#[c]⟩) < (b : Nat) then Txt.find lowerT (Txt.lower ⟨#[c]⟩) else -1) = figV b c := by
  simp only [okC, Bool.or_eq_true, decide_eq_true_eq, beq_iff_eq] at hc
  rcases hc with (hc | rfl) | rfl
  · exact find_fig c hc b hb
  · rcases hb with rfl | rfl <;> decide +kernel
  · rcases hb with rfl | rfl <;> decide +kernel

theorem figAt_end {x : PySem.Str} {k : Int} {b : Nat} (h : (x.length : Int) ≤ k) : figAt x.cps.toList k.toNat b = -1 := by
  unfold figAt
  rw [List.getElem?_eq_none (by rw [← len_cps]; omega)]
theorem figAt_in {x : PySem.Str} {k : Int} {b : Nat} (hx : ∀ c ∈ x.cps.toList, okC c = true) (hb : b = 10 ∨ b = 16) (h0 : 0 ≤ k) (h1 : k < x.length) :
    (if Txt.find lowerT (Txt.lower (Txt.item x k)) < (b : Nat) then Txt.find lowerT (Txt.lower (Txt.item x k)) else -1) = figAt x.cps.toList k.toNat b := by
  obtain ⟨c, hc, e⟩ := item_at h0 (by omega : k.toNat < x.length)
  unfold figAt
  rw [hc, e]
  exact find_fig2 (hx c (List.mem_of_getElem? hc)) hb

theorem figure_ctr (w : World) (x : PySem.Str) (t : Tok) (k : Int) (tk : Tok) (b : Nat) (tb : Tok) (hx : ∀ c ∈ x.cps.toList, okC c = true) (hl : x.length ≤ 5000000) (h0 : 0 ≤ k) (hb : b = 10 ∨ b = 16) :
    Ctr PySem.Challenge.rw_ah6020_01.row.prog w 1 490 [.str x t, .int k tk, .int (b : Nat) tb] [] (fun _ => True)
      (fun _ v own' => own' = [] ∧ ∃ t', v = .int (figAt x.cps.toList k.toNat b) t') := by
  unfold Ctr
  k_fill
  w_top off
  k_with_none
  intro p0 loose mean mg mb dp un gd cn cs a ccd cl outer A₀ base h₀ L m s Q E B F X T hk hd hu N hpre hret
  refine wpAny_call ?_
  k_dflt (walk_at "MINE enter")
  intro g' L' h' FG' F' N' B' X' T' KG hL' lt' lv
  (try dsimp only)
  (try k_lift B')
  try k_fold
  k_with_none
  k_steps
  all_goals (
    try dsimp only
    rename Fr g' _ _ _ => F9
    rename News g' _ _ _ => N9
    obtain ⟨a1, a2, a3, a4⟩ := lv _ _ _ _ F9 N9
    refine hret _ _ _ _ a1 a2 a3 a4 ⟨rfl, _, congrArg (Value.int · _) ?_⟩)
  · exact (figAt_end (by omega)).symm
  · rw [← figAt_in hx hb h0 (by omega), if_pos (by assumption)]
  · rw [← figAt_in hx hb h0 (by omega), if_neg (by assumption)]
end
-- part FigureUse
section
section
variable {w : World} {A₀ : Around} {s : Shared} {base h₀ : Heap} {outer : List Env} {L : Addr} {m : Str → Option Value} {news : List (Addr × Obj)} {p0 : Program} {loose : List Str} {mean : ExcName → Option Value} {mg mb : Str → Option Value}
  {dp un : Nat} {gd : Option (List Code)} {cn : Str} {cs : Scope} {a : Addr} {ccd : Value} {cl : List (Str × Addr)} {Q E : Value → Shared → Prop}

theorem figure_use {x : PySem.Str} {t : Tok} {k : Int} {tk : Tok} {bi : Int} {tb : Tok} (b : Nat)
    (B : Below A₀ base outer h₀) (F : Fr h₀ L s.heap m) (X : (Mine.hd.heap_39 w.params).In h₀) (T : Top p0 loose mean mg mb h₀) (hk : cs.kind = .function) (hd : dp + 1 < recursionLimit) (hu : un + 8 * 1 < cLine)
    (N : News h₀ L s.heap news) (hx : ∀ c ∈ x.cps.toList, okC c = true) (hl : x.length ≤ 5000000) (h0 : 0 ≤ k) (hbi : bi = (b : Int)) (hb : b = 10 ∨ b = 16)
    (h : ∀ t' h' tk', Fr h₀ L h' m → News h₀ L h' news → Q (.int (figAt x.cps.toList k.toNat b) t') { s with heap := h', toks := tk' }) :
    wpAny (model PySem.Challenge.rw_ah6020_01.row.prog w) (ktrTop dp un gd cn cs L a ccd cl outer) (call (.ref 490) [.str x t, .int k tk, .int bi tb]) Q E s := by
  subst hbi
  refine (figure_ctr w x t k tk b tb hx hl h0 hb).pure B F X T hk hd hu N trivial ?_
  rintro v h' tk' ⟨t', rfl⟩ F' N' _
  exact h t' h' tk' F' N'
end

theorem chr_kept {prog : Program} {w : World} {A : Around} {E : Value → Shared → Prop} {s : Shared} {i : Int} {t : Tok} {Q : Value → Shared → Prop} (hk : keptF i = true) (h : Q (.str ⟨#[i.toNat]⟩ s.toks) { s with toks := s.toks + 1 }) :
    wpAny (model prog w) A (call (.builtin "chr") [.int i t]) Q E s := by
  have hk' := of_decide_eq_true hk
  exact chr_of_range (by omega) (by omega) h

/-- the state of the loop over the figures -/
def RefInv (l : List Nat) (b st : Nat) (e n f : Int) : Prop :=
  ∃ j : Nat, e = ((st + j : Nat) : Int) ∧ j ≤ runL (digC b) (l.drop st) ∧ n = (numL b ((l.drop st).take j) : Int) ∧ f = figAt l (st + j) b

theorem refInv_start {l : List Nat} {b st : Nat} {e f : Int} (he : e = (st : Int)) (hf : f = figAt l e.toNat b) : RefInv l b st e 0 f := by
  subst he
  exact ⟨0, by simp, Nat.zero_le _, rfl, by simpa using hf⟩

theorem figV_pos {b c : Nat} (h : 0 ≤ figV b c) : digC b c = true := by
  unfold figV at h
  split at h
  · assumption
  · omega
theorem takeWhile_step {f : Nat → Bool} : ∀ {l : List Nat} {j : Nat} {c : Nat}, j ≤ runL f l → l[j]? = some c → f c = true → j + 1 ≤ runL f l
  | [], j, c, _, h2, _ => by simp at h2
  | x :: l, 0, c, _, h2, h3 => by
    simp at h2; subst h2
    unfold runL; rw [List.takeWhile_cons, if_pos h3]; simp
  | x :: l, j + 1, c, h1, h2, h3 => by
    unfold runL at h1 ⊢
    rw [List.takeWhile_cons] at h1 ⊢
    split at h1
    · rename_i hx
      rw [if_pos hx]
      simp only [List.length_cons] at h1 ⊢
      have := takeWhile_step (f := f) (l := l) (j := j) (by unfold runL; omega) (by simpa using h2) h3
      unfold runL at this; omega
    · simp at h1

theorem refInv_turn {l : List Nat} {b st : Nat} {e n f f' : Int} (I : RefInv l b st e n f) (hf : 0 ≤ f) (hf' : f' = figAt l (e + 1).toNat b) : RefInv l b st (e + 1) (n * b + f) f' ∧ e < (l.length : Int) := by
  obtain ⟨j, rfl, hj, rfl, rfl⟩ := I
  unfold figAt at hf
  split at hf
  · rename_i c hc
    have hd := figV_pos hf
    have hlt : st + j < l.length := (List.getElem?_eq_some_iff.mp hc).1
    have hc' : (l.drop st)[j]? = some c := by rw [List.getElem?_drop]; exact hc
    refine ⟨⟨j + 1, by omega, takeWhile_step hj hc' hd, ?_, ?_⟩, by omega⟩
    · rw [List.take_add_one, hc']
      unfold numL
      rw [List.foldl_append]
      simp only [Option.toList_some, List.foldl_cons, List.foldl_nil]
      unfold figAt
      rw [hc]
      simp only [figV, hd, if_true]
      omega
    · rw [hf']
      congr 1
  · omega

theorem ref_turn {x : PySem.Str} {b : Nat} {st : Nat} {e n f : Int} (I : RefInv x.cps.toList b st e n f) (h0 : 0 ≤ e) (hf : 0 ≤ f) : RefInv x.cps.toList b st (e + 1) (n * (b : Int) + f) (figAt x.cps.toList (e + 1).toNat b) ∧ 0 ≤ e + 1 ∧ e + 1 ≤ (x.length : Int) := by
  obtain ⟨J, hl⟩ := refInv_turn I hf rfl
  rw [← len_cps] at hl
  exact ⟨J, by omega, by omega⟩
theorem ref_less {x : PySem.Str} {b : Nat} {st : Nat} {e n f : Int} (I : RefInv x.cps.toList b st e n f) (h0 : 0 ≤ e) (hf : 0 ≤ f) : x.length - (e + 1).toNat < x.length - e.toNat := by
  obtain ⟨J, hl⟩ := refInv_turn I hf rfl
  rw [← len_cps] at hl
  omega
end
local macro_rules | `(tactic| walk_at "call ref") => `(tactic| (k_here; (with_reducible show wpAny _ _ (call (Value.ref 490) _) _ _ _); k_dflt (first | (refine' figure_use 10 ?k1 ?k2 ?k3 ?k4 ?k5 ?k6 ?k7 ?k8 ?k9 ?k10 ?k11 ?k12 ?k13 ?_; (case k12 => exact rfl); (case k13 => exact .inl rfl)) | (refine' figure_use 16 ?k1 ?k2 ?k3 ?k4 ?k5 ?k6 ?k7 ?k8 ?k9 ?k10 ?k11 ?k12 ?k13 ?_; (case k12 => exact rfl); (case k13 => exact .inr rfl))); k_dflt (walk_at "MINE ctx"; (case k9 => assumption); (case k10 => first | assumption | omega); (case k11 => omega); k_whole); intro t' h' tk' F' N'; (try k_sweep)))
local macro_rules | `(tactic| walk_at "call builtin:chr") => `(tactic| ((with_reducible show wpAny _ _ (call (Value.builtin "chr") [Value.int _ _]) _ _ _); (refine chr_kept (by assumption) ?_)))
-- part RefPl
section
theorem slice_plain {x : PySem.Str} {i j : Int} (h0 : 0 ≤ i) (h1 : i ≤ j) (h2 : i ≤ x.length) : (Txt.slice x (some i) (some j)).cps.toList = (x.cps.toList.drop i.toNat).take (j - i).toNat := by
  by_cases hj : j ≤ x.cps.toList.length
  · have := StrLaws.sliceText_plain (x := x) (i := i) (j := j) ⟨h0, h1, hj⟩
    rw [show Txt.slice x (some i) (some j) = StrLaws.sliceText x (some i) (some j) from rfl, this]
  · have hl : x.cps.toList.length = x.length := (len_cps x).symm
    have e : Txt.slice x (some i) (some j) = Txt.slice x (some i) (some (x.length : Int)) := by
      unfold Txt.slice Builtin.Str.strSliceIndices
      have a1 : ¬ j < 0 := by omega
      have a2 : ¬ ((x.length : Int) < 0) := by omega
      simp only [a1, a2, if_false, show (1 : Int) > 0 from by decide, if_true]
      rw [show min j (x.length : Int) = min (x.length : Int) (x.length : Int) by omega]
    have := StrLaws.sliceText_plain (x := x) (i := i) (j := (x.length : Int)) ⟨h0, h2, by omega⟩
    rw [e, show Txt.slice x (some i) (some (x.length : Int)) = StrLaws.sliceText x (some i) (some (x.length : Int)) from rfl, this]
    show (x.cps.toList.drop i.toNat).take _ = _
    rw [List.take_of_length_le (by rw [List.length_drop]; omega), List.take_of_length_le (by rw [List.length_drop]; omega)]

theorem take_run (f : Nat → Bool) : ∀ l : List Nat, l.take (runL f l) = l.takeWhile f
  | [] => rfl
  | c :: l => by
    unfold runL
    rw [List.takeWhile_cons]
    split
    · rw [List.length_cons, List.take_succ_cons]
      exact congrArg _ (take_run f l)
    · rfl
theorem getElem_run {f : Nat → Bool} : ∀ {l : List Nat} {j : Nat}, j < runL f l → ∃ c, l[j]? = some c ∧ f c = true
  | [], j, h => by simp [runL] at h
  | c :: l, j, h => by
    unfold runL at h
    rw [List.takeWhile_cons] at h
    split at h
    · rename_i hc
      cases j with
      | zero => exact ⟨c, rfl, hc⟩
      | succ j =>
        have := getElem_run (f := f) (l := l) (j := j) (by unfold runL; simp at h; omega)
        simpa using this
    · simp at h
theorem run_le (f : Nat → Bool) : ∀ l : List Nat, runL f l ≤ l.length
  | [] => Nat.le_refl _
  | c :: l => by
    have := run_le f l
    unfold runL at this ⊢
    rw [List.takeWhile_cons]
    split <;> simp <;> omega

theorem refInv_end {l : List Nat} {b st : Nat} {e n f : Int} (I : RefInv l b st e n f) (hf : ¬ 0 ≤ f) : e = ((st + runL (digC b) (l.drop st) : Nat) : Int) ∧ n = (numL b ((l.drop st).takeWhile (digC b)) : Int) := by
  obtain ⟨j, rfl, hj, rfl, rfl⟩ := I
  have hj' : j = runL (digC b) (l.drop st) := by
    refine Nat.le_antisymm hj (Nat.le_of_not_lt fun hlt => hf ?_)
    obtain ⟨c, hc, hd⟩ := getElem_run hlt
    rw [List.getElem?_drop] at hc
    unfold figAt
    rw [hc]
    simp only [figV, hd, if_true]
    omega
  rw [hj', take_run]
  exact ⟨rfl, rfl⟩

theorem ofS_one {x : PySem.Str} {i : Int} {c : Nat} {y : PySem.Str} (hy : y = ⟨#[c]⟩) (h0 : 0 ≤ i) (h1 : i < x.length) : (Txt.item x i == y) = true ↔ x.cps.toList[i.toNat]? = some c := by
  obtain ⟨d, hd, e⟩ := item_at h0 (by omega : i.toNat < x.length)
  rw [hd, e, hy, beq_iff_eq]
  constructor
  · intro h; cases h; rfl
  · intro h; cases h; rfl
theorem ofS_semi {x : PySem.Str} {i : Int} (h0 : 0 ≤ i) (h1 : i < x.length) : (Txt.item x i != Str.ofString ";") = false ↔ x.cps.toList[i.toNat]? = some 59 := by
  rw [← ofS_one (y := Str.ofString ";") (by decide) h0 h1]
  cases h : Txt.item x i == Str.ofString ";" <;> simp [bne, h]
theorem ofS_hash {x : PySem.Str} {i : Int} (h0 : 0 ≤ i) (h1 : i < x.length) : (Txt.item x i == Str.ofString "#") = true ↔ x.cps.toList[i.toNat]? = some 35 := ofS_one (by decide) h0 h1

theorem occ_X : ∀ c, okC c = true → (Builtin.Str.occurrences (Str.ofString "xX") ⟨#[c]⟩ 0 (Str.ofString "xX").length 1).isEmpty = !isX c := by
  intro c hc
  simp only [okC, Bool.or_eq_true, decide_eq_true_eq, beq_iff_eq] at hc
  rcases hc with (hc | rfl) | rfl
  · exact (by decide +kernel : ∀ c, c < 128 → (Builtin.Str.occurrences (Str.ofString "xX") ⟨#[c]⟩ 0 (Str.ofString "xX").length 1).isEmpty = !isX c) c hc
  · decide +kernel
  · decide +kernel
theorem ofS_X {x : PySem.Str} {i : Int} {b : Bool} (hx : ∀ c ∈ x.cps.toList, okC c = true) (h0 : 0 ≤ i) (h1 : i < x.length)
    (h : (Builtin.Str.occurrences (Str.ofString "xX") (Txt.item x i) 0 (Str.ofString "xX").length 1).isEmpty = b) : ∃ c, x.cps.toList[i.toNat]? = some c ∧ isX c = !b := by
  obtain ⟨d, hd, e⟩ := item_at h0 (by omega : i.toNat < x.length)
  refine ⟨d, hd, ?_⟩
  rw [e, occ_X d (hx d (List.mem_of_getElem? hd))] at h
  rw [← h, Bool.not_not]

theorem drop_at {l : List Nat} {i c : Nat} (h : l[i]? = some c) : l.drop i = c :: l.drop (i + 1) := by
  obtain ⟨h1, h2⟩ := List.getElem?_eq_some_iff.mp h
  rw [List.drop_eq_getElem_cons h1, h2]

/-- what the law finds behind # -/
def numRead (R : List Nat) : Option (Nat × Nat) := refL (38 :: 35 :: R)

structure NumEnd (x : PySem.Str) (b st : Nat) (e n : Int) : Prop where
  e : e = ((st + runL (digC b) (x.cps.toList.drop st) : Nat) : Int)
  n : n = (numL b ((x.cps.toList.drop st).takeWhile (digC b)) : Int)

theorem num_none {x : PySem.Str} {b st : Nat} {e n f : Int} (I : RefInv x.cps.toList b st e n f) (hf : ¬ 0 ≤ f)
    (h : e = (st : Int) ∨ (x.length : Int) ≤ e ∨ (e < x.length ∧ (Txt.item x e != Str.ofString ";") = true) ∨ (b = 10 ∧ 7 < e - (st : Int)) ∨ keptF n = false) : numAt b (x.cps.toList.drop st) = none := by
  obtain ⟨e1, e2⟩ := refInv_end I hf
  have hg : (x.cps.toList.drop st)[runL (digC b) (x.cps.toList.drop st)]? = x.cps.toList[e.toNat]? := by
    rw [List.getElem?_drop, e1]; congr 1
  unfold numAt
  rw [if_neg]
  rintro ⟨c1, c2, c3, c4⟩
  rw [hg] at c2
  rcases h with h | h | ⟨h, h'⟩ | ⟨h, h'⟩ | h
  · omega
  · rw [List.getElem?_eq_none (by rw [← len_cps]; omega)] at c2; cases c2
  · rw [(ofS_semi (by omega) h).mpr c2] at h'; cases h'
  · have := c3 h; omega
  · rw [← e2, h] at c4; cases c4

theorem num_some {x : PySem.Str} {b st : Nat} {e n f : Int} (I : RefInv x.cps.toList b st e n f) (hf : ¬ 0 ≤ f)
    (h1 : e ≠ (st : Int)) (h2 : e < x.length) (h3 : (Txt.item x e != Str.ofString ";") = false) (h4 : b = 10 → ¬ 7 < e - (st : Int)) (h5 : keptF n = true) :
    ∃ k, numAt b (x.cps.toList.drop st) = some (n.toNat, k) ∧ e + 1 = ((st + k : Nat) : Int) := by
  obtain ⟨e1, e2⟩ := refInv_end I hf
  have hg : (x.cps.toList.drop st)[runL (digC b) (x.cps.toList.drop st)]? = x.cps.toList[e.toNat]? := by
    rw [List.getElem?_drop, e1]; congr 1
  refine ⟨runL (digC b) (x.cps.toList.drop st) + 1, ?_, by omega⟩
  unfold numAt
  rw [if_pos ⟨by omega, by rw [hg]; exact (ofS_semi (by omega) h2).mp h3, fun hb => by have := h4 hb; omega, by rw [← e2]; exact h5⟩]
  rw [e2]; rfl

section
variable {x : PySem.Str} {k : Int}

/-- the ways of the law behind the ampersand -/
theorem ref_end (hk : ¬ k + 1 < (x.length : Int)) : refL (38 :: x.cps.toList.drop (k.toNat + 1)) = none := by
  rw [List.drop_eq_nil_of_le (by rw [← len_cps]; omega)]; rfl

theorem ref_num (h0 : 0 ≤ k) (hk : k + 1 < (x.length : Int)) (hh : (Txt.item x (k + 1) == Str.ofString "#") = true) : refL (38 :: x.cps.toList.drop (k.toNat + 1)) = numRead (x.cps.toList.drop (k.toNat + 2)) := by
  have := (ofS_hash (by omega) hk).mp hh
  rw [show (k + 1).toNat = k.toNat + 1 by omega] at this
  rw [drop_at this]
  rfl

theorem ref_10 (h0 : 0 ≤ k) (hx : ∀ c ∈ x.cps.toList, okC c = true) (hk : k + 1 < (x.length : Int)) (hh : (Txt.item x (k + 1) == Str.ofString "#") = true) (hk2 : k + 1 + 1 < (x.length : Int))
    (ho : (Builtin.Str.occurrences (Str.ofString "xX") (Txt.item x (k + 1 + 1)) 0 (Str.ofString "xX").length 1).isEmpty = true) :
    refL (38 :: x.cps.toList.drop (k.toNat + 1)) = (numAt 10 (x.cps.toList.drop (k.toNat + 2))).map (fun p => (p.1, p.2 + 2)) := by
  rw [ref_num h0 hk hh]
  obtain ⟨c, hc, hX⟩ := ofS_X hx (by omega) hk2 ho
  rw [show (k + 1 + 1).toNat = k.toNat + 2 by omega] at hc
  rw [drop_at hc]
  unfold numRead refL
  simp only [hX, Bool.not_true, Bool.false_eq_true, if_false]

theorem ref_16 (h0 : 0 ≤ k) (hx : ∀ c ∈ x.cps.toList, okC c = true) (hk : k + 1 < (x.length : Int)) (hh : (Txt.item x (k + 1) == Str.ofString "#") = true) (hk2 : k + 1 + 1 < (x.length : Int))
    (ho : (Builtin.Str.occurrences (Str.ofString "xX") (Txt.item x (k + 1 + 1)) 0 (Str.ofString "xX").length 1).isEmpty = false) :
    refL (38 :: x.cps.toList.drop (k.toNat + 1)) = (numAt 16 (x.cps.toList.drop (k.toNat + 3))).map (fun p => (p.1, p.2 + 3)) := by
  rw [ref_num h0 hk hh]
  obtain ⟨c, hc, hX⟩ := ofS_X hx (by omega) hk2 ho
  rw [show (k + 1 + 1).toNat = k.toNat + 2 by omega] at hc
  rw [drop_at hc]
  unfold numRead refL
  simp only [hX, Bool.not_false, if_true]

theorem ref_bare (h0 : 0 ≤ k) (hk : k + 1 < (x.length : Int)) (hh : (Txt.item x (k + 1) == Str.ofString "#") = true) (hk2 : ¬ k + 1 + 1 < (x.length : Int)) : refL (38 :: x.cps.toList.drop (k.toNat + 1)) = none := by
  rw [ref_num h0 hk hh, List.drop_eq_nil_of_le (by rw [← len_cps]; omega)]; rfl

theorem ref_named (h0 : 0 ≤ k) (h : ¬ k + 1 < (x.length : Int) ∨ (k + 1 < (x.length : Int) ∧ (Txt.item x (k + 1) == Str.ofString "#") = false)) :
    refL (38 :: x.cps.toList.drop (k.toNat + 1)) = (nameAt (x.cps.toList.drop (k.toNat + 1)) namedL).map (fun p => (p.1, p.2 + 1)) := by
  rcases h with h | ⟨h, hh⟩
  · rw [List.drop_eq_nil_of_le (by rw [← len_cps]; omega)]; rfl
  · obtain ⟨d, hd, e⟩ := item_at (x := x) (k := k + 1) (by omega) (by omega)
    have hne : d ≠ 35 := by
      rintro rfl
      rw [(ofS_hash (by omega) h).mpr hd] at hh; cases hh
    rw [show (k + 1).toNat = k.toNat + 1 by omega] at hd
    rw [drop_at hd]
    unfold refL
    split
    · rename_i heq; cases heq; exact absurd rfl hne
    · rename_i heq; cases heq; rfl
    · rename_i h1 h2; exact absurd rfl (h2 _)

/-- one name: it stands there, or not -/
theorem name_cmp {y : PySem.Str} {n : Nat} (h0 : 0 ≤ k) (h1 : k < (x.length : Int)) (hn : y.length = n) : (Txt.slice x (some (k + 1)) (some (k + 1 + (n : Int))) == y) = decide ((x.cps.toList.drop (k.toNat + 1)).take n = y.cps.toList) := by
  have e := slice_plain (x := x) (i := k + 1) (j := k + 1 + (n : Int)) (by omega) (by omega) (by omega)
  rw [show (k + 1).toNat = k.toNat + 1 by omega, show (k + 1 + (n : Int) - (k + 1)).toNat = n by omega] at e
  rw [← e]
  have : (Txt.slice x (some (k + 1)) (some (k + 1 + (n : Int))) = y) ↔ (Txt.slice x (some (k + 1)) (some (k + 1 + (n : Int)))).cps.toList = y.cps.toList :=
    ⟨fun h => by rw [h], fun h => Str.ext' (Array.toList_inj.mp h)⟩
  cases hb : (Txt.slice x (some (k + 1)) (some (k + 1 + (n : Int))) == y) with
  | true => exact (decide_eq_true (this.mp (beq_iff_eq.mp hb))).symm
  | false => exact (decide_eq_false fun h => by rw [beq_iff_eq.mpr (this.mpr h)] at hb; cases hb).symm
end

def noNameL (l : List Nat) (i : Nat) : Prop := nameAt l (namedL.take i) = none
theorem nameAt_append {r : List Nat} : ∀ {a b : List (List Nat × Nat)}, nameAt r a = none → nameAt r (a ++ b) = nameAt r b
  | [], _, _ => rfl
  | p :: a, b, h => by
    unfold nameAt at h
    split at h
    · cases h
    · rename_i hn
      rw [List.cons_append]
      show (if r.take p.1.length = p.1 then _ else nameAt r (a ++ b)) = _
      rw [if_neg hn]
      exact nameAt_append h
theorem noName_next {r : List Nat} {i : Nat} {p : List Nat × Nat} (hp : namedL[i]? = some p) (h : noNameL r i) (hn : r.take p.1.length ≠ p.1) : noNameL r (i + 1) := by
  unfold noNameL at h ⊢
  rw [List.take_add_one, hp, nameAt_append h]
  show nameAt r [p] = none
  unfold nameAt
  rw [if_neg hn]; rfl
theorem nameAt_found {r : List Nat} {i : Nat} {p : List Nat × Nat} (hp : namedL[i]? = some p) (h : noNameL r i) (hn : r.take p.1.length = p.1) : nameAt r namedL = some (p.2, p.1.length) := by
  have e : namedL = namedL.take i ++ p :: namedL.drop (i + 1) := by
    obtain ⟨h1, h2⟩ := List.getElem?_eq_some_iff.mp hp
    rw [← h2, ← List.drop_eq_getElem_cons h1, List.take_append_drop]
  rw [e]
  rw [nameAt_append h]
  unfold nameAt
  rw [if_pos hn]

theorem refInv_ge {l : List Nat} {b st : Nat} {e n f : Int} (I : RefInv l b st e n f) : (st : Int) ≤ e := by
  obtain ⟨j, rfl, _, _, _⟩ := I
  omega
section
variable {x : PySem.Str} {k : Int}
theorem ref_none10 (h0 : 0 ≤ k) (hx : ∀ c ∈ x.cps.toList, okC c = true) (hk : k + 1 < (x.length : Int)) (hh : (Txt.item x (k + 1) == Str.ofString "#") = true) (hk2 : k + 1 + 1 < (x.length : Int))
    (ho : (Builtin.Str.occurrences (Str.ofString "xX") (Txt.item x (k + 1 + 1)) 0 (Str.ofString "xX").length 1).isEmpty = true) {e n f : Int} (I : RefInv x.cps.toList 10 (k.toNat + 2) e n f) (hf : ¬ 0 ≤ f)
    (h : e = k + 1 + 1 ∨ (x.length : Int) ≤ e ∨ (¬ (x.length : Int) ≤ e ∧ (Txt.item x e != Str.ofString ";") = true) ∨ 7 < e - (k + 1 + 1) ∨ keptF n = false) : refL (38 :: x.cps.toList.drop (k.toNat + 1)) = none := by
  rw [ref_10 h0 hx hk hh hk2 ho, num_none I hf]
  · rfl
  · rcases h with h | h | h | h | h
    · exact .inl (by omega)
    · exact .inr (.inl h)
    · exact .inr (.inr (.inl ⟨by omega, h.2⟩))
    · exact .inr (.inr (.inr (.inl ⟨rfl, by omega⟩)))
    · exact .inr (.inr (.inr (.inr h)))
theorem ref_some10 (h0 : 0 ≤ k) (hx : ∀ c ∈ x.cps.toList, okC c = true) (hk : k + 1 < (x.length : Int)) (hh : (Txt.item x (k + 1) == Str.ofString "#") = true) (hk2 : k + 1 + 1 < (x.length : Int))
    (ho : (Builtin.Str.occurrences (Str.ofString "xX") (Txt.item x (k + 1 + 1)) 0 (Str.ofString "xX").length 1).isEmpty = true) {e n f : Int} (I : RefInv x.cps.toList 10 (k.toNat + 2) e n f) (hf : ¬ 0 ≤ f)
    (h1 : e ≠ k + 1 + 1) (h2 : ¬ (x.length : Int) ≤ e) (h3 : (Txt.item x e != Str.ofString ";") = false) (h4 : ¬ 7 < e - (k + 1 + 1)) (h5 : keptF n = true) : ∃ c m, refL (38 :: x.cps.toList.drop (k.toNat + 1)) = some (c, m) ∧ (⟨#[n.toNat]⟩ : PySem.Str) = ⟨#[c]⟩ ∧ e + 1 = k + m := by
  obtain ⟨m, e1, e2⟩ := num_some I hf (by omega) (by omega) h3 (fun _ => by omega) h5
  rw [ref_10 h0 hx hk hh hk2 ho, e1]
  exact ⟨_, _, rfl, rfl, by omega⟩
theorem ref_none16 (h0 : 0 ≤ k) (hx : ∀ c ∈ x.cps.toList, okC c = true) (hk : k + 1 < (x.length : Int)) (hh : (Txt.item x (k + 1) == Str.ofString "#") = true) (hk2 : k + 1 + 1 < (x.length : Int))
    (ho : (Builtin.Str.occurrences (Str.ofString "xX") (Txt.item x (k + 1 + 1)) 0 (Str.ofString "xX").length 1).isEmpty = false) {e n f : Int} (I : RefInv x.cps.toList 16 (k.toNat + 3) e n f) (hf : ¬ 0 ≤ f)
    (h : e = k + 1 + 1 + 1 ∨ (x.length : Int) ≤ e ∨ (¬ (x.length : Int) ≤ e ∧ (Txt.item x e != Str.ofString ";") = true) ∨ keptF n = false) : refL (38 :: x.cps.toList.drop (k.toNat + 1)) = none := by
  rw [ref_16 h0 hx hk hh hk2 ho, num_none I hf]
  · rfl
  · rcases h with h | h | h | h
    · exact .inl (by omega)
    · exact .inr (.inl h)
    · exact .inr (.inr (.inl ⟨by omega, h.2⟩))
    · exact .inr (.inr (.inr (.inr h)))
theorem ref_some16 (h0 : 0 ≤ k) (hx : ∀ c ∈ x.cps.toList, okC c = true) (hk : k + 1 < (x.length : Int)) (hh : (Txt.item x (k + 1) == Str.ofString "#") = true) (hk2 : k + 1 + 1 < (x.length : Int))
    (ho : (Builtin.Str.occurrences (Str.ofString "xX") (Txt.item x (k + 1 + 1)) 0 (Str.ofString "xX").length 1).isEmpty = false) {e n f : Int} (I : RefInv x.cps.toList 16 (k.toNat + 3) e n f) (hf : ¬ 0 ≤ f)
    (h1 : e ≠ k + 1 + 1 + 1) (h2 : ¬ (x.length : Int) ≤ e) (h3 : (Txt.item x e != Str.ofString ";") = false) (h5 : keptF n = true) : ∃ c m, refL (38 :: x.cps.toList.drop (k.toNat + 1)) = some (c, m) ∧ (⟨#[n.toNat]⟩ : PySem.Str) = ⟨#[c]⟩ ∧ e + 1 = k + m := by
  obtain ⟨m, e1, e2⟩ := num_some I hf (by omega) (by omega) h3 (fun h => absurd h (by decide)) h5
  rw [ref_16 h0 hx hk hh hk2 ho, e1]
  exact ⟨_, _, rfl, rfl, by omega⟩
theorem name_no (h0 : 0 ≤ k) (h1 : k < (x.length : Int)) {y : PySem.Str} {n : Nat} {p : List Nat × Nat} (hn : y.length = n) (hy : y.cps.toList = p.1) (h : (Txt.slice x (some (k + 1)) (some (k + 1 + (n : Int))) == y) = false) : (x.cps.toList.drop (k.toNat + 1)).take p.1.length ≠ p.1 := by
  rw [name_cmp h0 h1 hn] at h
  rw [← hy, ← len_cps, hn]
  exact of_decide_eq_false h
theorem name_yes (h0 : 0 ≤ k) (h1 : k < (x.length : Int)) {y : PySem.Str} {n i : Nat} {p : List Nat × Nat} (hp : namedL[i]? = some p) (hJ : noNameL (x.cps.toList.drop (k.toNat + 1)) i) (hn : y.length = n) (hy : y.cps.toList = p.1) (h : (Txt.slice x (some (k + 1)) (some (k + 1 + (n : Int))) == y) = true)
    {z : PySem.Str} (hz : z = ⟨#[p.2]⟩) (hb : ¬ k + 1 < (x.length : Int) ∨ (k + 1 < (x.length : Int) ∧ (Txt.item x (k + 1) == Str.ofString "#") = false)) : ∃ c m, refL (38 :: x.cps.toList.drop (k.toNat + 1)) = some (c, m) ∧ z = ⟨#[c]⟩ ∧ k + 1 + (n : Int) = k + m := by
  rw [name_cmp h0 h1 hn] at h
  have h := of_decide_eq_true h
  rw [ref_named h0 hb, nameAt_found hp hJ (by rw [← hy, ← len_cps, hn]; exact h)]
  refine ⟨_, _, rfl, hz, ?_⟩
  rw [← hy, ← len_cps, hn]; omega
theorem ref_noname (h0 : 0 ≤ k) (hJ : noNameL (x.cps.toList.drop (k.toNat + 1)) 6) (hb : ¬ k + 1 < (x.length : Int) ∨ (k + 1 < (x.length : Int) ∧ (Txt.item x (k + 1) == Str.ofString "#") = false)) : refL (38 :: x.cps.toList.drop (k.toNat + 1)) = none := by
  rw [ref_named h0 hb, show nameAt (x.cps.toList.drop (k.toNat + 1)) namedL = none from hJ]; rfl
end
end
-- part Ref
section
abbrev namedV : List Value := [.ref 419, .ref 420, .ref 421, .ref 422, .ref 423, .ref 424]
theorem named_at {i : Nat} {v : Value} (h : namedV[i]? = some v) : (i = 0 ∧ v = .ref 419) ∨ (i = 1 ∧ v = .ref 420) ∨ (i = 2 ∧ v = .ref 421) ∨ (i = 3 ∧ v = .ref 422) ∨ (i = 4 ∧ v = .ref 423) ∨ (i = 5 ∧ v = .ref 424) := by
  rcases i with _ | _ | _ | _ | _ | _ | i <;> simp at h <;> simp [h]
theorem ref_ctr (w : World) (x : PySem.Str) (t : Tok) (k : Int) (tk : Tok) (hx : ∀ c ∈ x.cps.toList, okC c = true) (hl : x.length ≤ 3000000) (h0 : 0 ≤ k) (h1 : k < x.length) :
    Ctr PySem.Challenge.rw_ah6020_01.row.prog w 2 497 [.str x t, .int k tk] [] (fun _ => True)
      (fun _ v own' => (v = .none ∧ own' = [] ∧ refL (38 :: x.cps.toList.drop (k.toNat + 1)) = none) ∨
        ∃ r y ty e te c cc n, v = .ref r ∧ own' = [(r, W.listOf #[.str y ty, .int e te] c)] ∧ refL (38 :: x.cps.toList.drop (k.toNat + 1)) = some (cc, n) ∧ y = ⟨#[cc]⟩ ∧ e = k + n) := by
  unfold Ctr
  k_fill
  w_top off
  k_with_none
  intro p0 loose mean mg mb dp un gd cn cs a ccd cl outer A₀ base h₀ L m s Q E B F X T hk hd hu N hpre hret
  refine wpAny_call ?_
  k_dflt (walk_at "MINE enter")
  intro g' L' h' FG' F' N' B' X' T' KG hL' lt' lv
  replace F' : Fr g' L' h' (fun y => List.lookup y [(Str.ofString "place", Value.int k tk), (Str.ofString "text", Value.str x t)]) := F'
  generalize s.toks + List.length _ = tk0
  (try dsimp only)
  (try k_lift B')
  try k_fold
  k_with_none
  k_with "exec While Compare cons nil" => k_while (fun _ e n f => RefInv x.cps.toList 10 (k.toNat + 2) e n f ∧ 0 ≤ e ∧ e ≤ x.length) (fun _ e _ _ => x.length - e.toNat) "end" "number" "figure"
  k_with "exec While Compare cons nil" => k_while (fun _ e n f => RefInv x.cps.toList 16 (k.toNat + 3) e n f ∧ 0 ≤ e ∧ e ≤ x.length) (fun _ e _ _ => x.length - e.toNat) "end" "number" "figure"
  k_with "state" => first
    | exact ⟨refInv_start (by omega) rfl, by omega, by omega⟩
    | exact ref_turn (b := 10) (by assumption) (by assumption) (by assumption)
    | exact ref_turn (b := 16) (by assumption) (by assumption) (by assumption)
  k_with "measure" => exact ref_less (by assumption) (by assumption) (by assumption)
  k_with "exec For Name Name cons nil" =>
    rename Fr _ _ _ _ => lF'
    with_unfolding_all refine' For_invVF lF' ?k1 ?k2 ?_
    (case k1 => exact rfl)
    (case k2 => exact rfl)
    k_whole
  k_with "pyIter ref" =>
    rename Fr _ _ _ _ => lF
    rename News _ _ _ _ => lN
    with_unfolding_all refine' iter_scan (vs := namedV) (noNameL (x.cps.toList.drop (k.toNat + 1))) ?hh ?hl ?kF ?kN ?hj ?_ ?_
    (case kF => exact lF)
    (case kN => exact lN)
    (case hh => rfl)
    (case hl => exact lstK (by assumption) (by k_is))
    (case hj => rfl)
    all_goals (try clear lF lN)
    all_goals first
      | (intro u h tk hJ lF lN; replace hJ : noNameL (x.cps.toList.drop (k.toNat + 1)) 6 := hJ)
      | (intro i v h tk own hv hJ lF lN; rcases named_at hv with ⟨e1, e2⟩ | ⟨e1, e2⟩ | ⟨e1, e2⟩ | ⟨e1, e2⟩ | ⟨e1, e2⟩ | ⟨e1, e2⟩)
    all_goals (try subst e2)
    all_goals (try subst e1)
    all_goals (try k_fold)
  k_steps
  · (try dsimp only); rename Fr g' _ _ _ => F9
    obtain ⟨a1, a2, a3, a4⟩ := lv _ _ _ [] F9 (fun _ hq => nomatch hq)
    exact hret _ _ _ _ a1 a2 a3 a4 (.inl ⟨rfl, rfl, ref_none10 h0 hx (by assumption) (by assumption) (by assumption) (by assumption) (by assumption) (by assumption) (.inl (by assumption))⟩)
  · (try dsimp only); rename Fr g' _ _ _ => F9
    obtain ⟨a1, a2, a3, a4⟩ := lv _ _ _ [] F9 (fun _ hq => nomatch hq)
    exact hret _ _ _ _ a1 a2 a3 a4 (.inl ⟨rfl, rfl, ref_none10 h0 hx (by assumption) (by assumption) (by assumption) (by assumption) (by assumption) (by assumption) (.inr (.inl (by assumption)))⟩)
  · (try dsimp only); rename Fr g' _ _ _ => F9
    obtain ⟨a1, a2, a3, a4⟩ := lv _ _ _ [] F9 (fun _ hq => nomatch hq)
    exact hret _ _ _ _ a1 a2 a3 a4 (.inl ⟨rfl, rfl, ref_none10 h0 hx (by assumption) (by assumption) (by assumption) (by assumption) (by assumption) (by assumption) (.inr (.inr (.inl ⟨by assumption, by assumption⟩)))⟩)
  · (try dsimp only); rename Fr g' _ _ _ => F9
    obtain ⟨a1, a2, a3, a4⟩ := lv _ _ _ [] F9 (fun _ hq => nomatch hq)
    exact hret _ _ _ _ a1 a2 a3 a4 (.inl ⟨rfl, rfl, ref_none10 h0 hx (by assumption) (by assumption) (by assumption) (by assumption) (by assumption) (by assumption) (.inr (.inr (.inr (.inl (by assumption)))))⟩)
  · (try dsimp only); rename Fr g' _ _ _ => F9
    rename News g' _ _ _ => N9
    obtain ⟨a1, a2, a3, a4⟩ := lv _ _ _ [(_, W.listOf #[.str _ _, .int _ _] _)] F9 (drop_to N9 (List.forall_mem_singleton.mpr (List.Mem.head _)))
    obtain ⟨c, m, q1, q2, q3⟩ := ref_some10 h0 hx (by assumption) (by assumption) (by assumption) (by assumption) (by assumption) (by assumption) (by assumption) (by assumption) (by assumption) (by assumption) (by assumption)
    exact hret _ _ _ _ a1 a2 a3 a4 (.inr ⟨_, _, _, _, _, _, _, _, rfl, rfl, q1, q2, q3⟩)
  · (try dsimp only); rename Fr g' _ _ _ => F9
    obtain ⟨a1, a2, a3, a4⟩ := lv _ _ _ [] F9 (fun _ hq => nomatch hq)
    exact hret _ _ _ _ a1 a2 a3 a4 (.inl ⟨rfl, rfl, ref_none10 h0 hx (by assumption) (by assumption) (by assumption) (by assumption) (by assumption) (by assumption) (.inr (.inr (.inr (.inr (by assumption)))))⟩)
  · (try dsimp only); rename Fr g' _ _ _ => F9
    obtain ⟨a1, a2, a3, a4⟩ := lv _ _ _ [] F9 (fun _ hq => nomatch hq)
    exact hret _ _ _ _ a1 a2 a3 a4 (.inl ⟨rfl, rfl, ref_none16 h0 hx (by assumption) (by assumption) (by assumption) (by assumption) (by assumption) (by assumption) (.inl (by assumption))⟩)
  · (try dsimp only); rename Fr g' _ _ _ => F9
    obtain ⟨a1, a2, a3, a4⟩ := lv _ _ _ [] F9 (fun _ hq => nomatch hq)
    exact hret _ _ _ _ a1 a2 a3 a4 (.inl ⟨rfl, rfl, ref_none16 h0 hx (by assumption) (by assumption) (by assumption) (by assumption) (by assumption) (by assumption) (.inr (.inl (by assumption)))⟩)
  · (try dsimp only); rename Fr g' _ _ _ => F9
    obtain ⟨a1, a2, a3, a4⟩ := lv _ _ _ [] F9 (fun _ hq => nomatch hq)
    exact hret _ _ _ _ a1 a2 a3 a4 (.inl ⟨rfl, rfl, ref_none16 h0 hx (by assumption) (by assumption) (by assumption) (by assumption) (by assumption) (by assumption) (.inr (.inr (.inl ⟨by assumption, by assumption⟩)))⟩)
  · (try dsimp only); rename Fr g' _ _ _ => F9
    rename News g' _ _ _ => N9
    obtain ⟨a1, a2, a3, a4⟩ := lv _ _ _ [(_, W.listOf #[.str _ _, .int _ _] _)] F9 (drop_to N9 (List.forall_mem_singleton.mpr (List.Mem.head _)))
    obtain ⟨c, m, q1, q2, q3⟩ := ref_some16 h0 hx (by assumption) (by assumption) (by assumption) (by assumption) (by assumption) (by assumption) (by assumption) (by assumption) (by assumption) (by assumption)
    exact hret _ _ _ _ a1 a2 a3 a4 (.inr ⟨_, _, _, _, _, _, _, _, rfl, rfl, q1, q2, q3⟩)
  · (try dsimp only); rename Fr g' _ _ _ => F9
    obtain ⟨a1, a2, a3, a4⟩ := lv _ _ _ [] F9 (fun _ hq => nomatch hq)
    exact hret _ _ _ _ a1 a2 a3 a4 (.inl ⟨rfl, rfl, ref_none16 h0 hx (by assumption) (by assumption) (by assumption) (by assumption) (by assumption) (by assumption) (.inr (.inr (.inr (by assumption))))⟩)
  · (try dsimp only); rename Fr g' _ _ _ => F9
    obtain ⟨a1, a2, a3, a4⟩ := lv _ _ _ [] F9 (fun _ hq => nomatch hq)
    exact hret _ _ _ _ a1 a2 a3 a4 (.inl ⟨rfl, rfl, ref_bare h0 (by assumption) (by assumption) (by assumption)⟩)
  · (try dsimp only); rename Fr g' _ _ _ => F9
    obtain ⟨a1, a2, a3, a4⟩ := lv _ _ _ [] F9 (fun _ hq => nomatch hq)
    exact hret _ _ _ _ a1 a2 a3 a4 (.inl ⟨rfl, rfl, ref_bare h0 (by assumption) (by assumption) (by assumption)⟩)
  · (exfalso; rename RefInv _ _ _ _ _ _ => I9; have := refInv_ge I9; omega)
  · (try dsimp only); rename Fr g' _ _ _ => F9
    obtain ⟨a1, a2, a3, a4⟩ := lv _ _ _ [] F9 (fun _ hq => nomatch hq)
    exact hret _ _ _ _ a1 a2 a3 a4 (.inl ⟨rfl, rfl, ref_bare h0 (by assumption) (by assumption) (by assumption)⟩)
  · (try dsimp only); rename Fr g' _ _ _ => F9
    rename News g' _ _ _ => N9
    obtain ⟨a1, a2, a3, a4⟩ := lv _ _ _ [(_, W.listOf #[.str _ _, .int _ _] _)] F9 (drop_to N9 (List.forall_mem_singleton.mpr (List.Mem.head _)))
    obtain ⟨c, m, q1, q2, q3⟩ := name_yes h0 h1 (z := Str.ofString "&") (i := 0) (y := Str.ofString "amp;") (n := 4) rfl (by assumption) (by decide) (by decide) (by assumption) (by decide) (.inr ⟨by assumption, by assumption⟩)
    exact hret _ _ _ _ a1 a2 a3 a4 (.inr ⟨_, _, _, _, _, _, _, _, rfl, rfl, q1, q2, q3⟩)
  · rename Fr g' _ _ _ => F9
    rename News g' _ _ _ => N9
    exact InvEnd.intro F9 N9 (fun p hp => hp) ⟨noName_next (i := 0) rfl (by assumption) (name_no h0 h1 (y := Str.ofString "amp;") (n := 4) (by decide) (by decide) (by assumption)), fun z hz => by simp [hz]⟩
  · (try dsimp only); rename Fr g' _ _ _ => F9
    rename News g' _ _ _ => N9
    obtain ⟨a1, a2, a3, a4⟩ := lv _ _ _ [(_, W.listOf #[.str _ _, .int _ _] _)] F9 (drop_to N9 (List.forall_mem_singleton.mpr (List.Mem.head _)))
    obtain ⟨c, m, q1, q2, q3⟩ := name_yes h0 h1 (z := Str.ofString "<") (i := 1) (y := Str.ofString "lt;") (n := 3) rfl (by assumption) (by decide) (by decide) (by assumption) (by decide) (.inr ⟨by assumption, by assumption⟩)
    exact hret _ _ _ _ a1 a2 a3 a4 (.inr ⟨_, _, _, _, _, _, _, _, rfl, rfl, q1, q2, q3⟩)
  · rename Fr g' _ _ _ => F9
    rename News g' _ _ _ => N9
    exact InvEnd.intro F9 N9 (fun p hp => hp) ⟨noName_next (i := 1) rfl (by assumption) (name_no h0 h1 (y := Str.ofString "lt;") (n := 3) (by decide) (by decide) (by assumption)), fun z hz => by simp [hz]⟩
  · (try dsimp only); rename Fr g' _ _ _ => F9
    rename News g' _ _ _ => N9
    obtain ⟨a1, a2, a3, a4⟩ := lv _ _ _ [(_, W.listOf #[.str _ _, .int _ _] _)] F9 (drop_to N9 (List.forall_mem_singleton.mpr (List.Mem.head _)))
    obtain ⟨c, m, q1, q2, q3⟩ := name_yes h0 h1 (z := Str.ofString ">") (i := 2) (y := Str.ofString "gt;") (n := 3) rfl (by assumption) (by decide) (by decide) (by assumption) (by decide) (.inr ⟨by assumption, by assumption⟩)
    exact hret _ _ _ _ a1 a2 a3 a4 (.inr ⟨_, _, _, _, _, _, _, _, rfl, rfl, q1, q2, q3⟩)
  · rename Fr g' _ _ _ => F9
    rename News g' _ _ _ => N9
    exact InvEnd.intro F9 N9 (fun p hp => hp) ⟨noName_next (i := 2) rfl (by assumption) (name_no h0 h1 (y := Str.ofString "gt;") (n := 3) (by decide) (by decide) (by assumption)), fun z hz => by simp [hz]⟩
  · (try dsimp only); rename Fr g' _ _ _ => F9
    rename News g' _ _ _ => N9
    obtain ⟨a1, a2, a3, a4⟩ := lv _ _ _ [(_, W.listOf #[.str _ _, .int _ _] _)] F9 (drop_to N9 (List.forall_mem_singleton.mpr (List.Mem.head _)))
    obtain ⟨c, m, q1, q2, q3⟩ := name_yes h0 h1 (z := Str.ofString "\"") (i := 3) (y := Str.ofString "quot;") (n := 5) rfl (by assumption) (by decide) (by decide) (by assumption) (by decide) (.inr ⟨by assumption, by assumption⟩)
    exact hret _ _ _ _ a1 a2 a3 a4 (.inr ⟨_, _, _, _, _, _, _, _, rfl, rfl, q1, q2, q3⟩)
  · rename Fr g' _ _ _ => F9
    rename News g' _ _ _ => N9
    exact InvEnd.intro F9 N9 (fun p hp => hp) ⟨noName_next (i := 3) rfl (by assumption) (name_no h0 h1 (y := Str.ofString "quot;") (n := 5) (by decide) (by decide) (by assumption)), fun z hz => by simp [hz]⟩
  · (try dsimp only); rename Fr g' _ _ _ => F9
    rename News g' _ _ _ => N9
    obtain ⟨a1, a2, a3, a4⟩ := lv _ _ _ [(_, W.listOf #[.str _ _, .int _ _] _)] F9 (drop_to N9 (List.forall_mem_singleton.mpr (List.Mem.head _)))
    obtain ⟨c, m, q1, q2, q3⟩ := name_yes h0 h1 (z := Str.ofString "\u00a9") (i := 4) (y := Str.ofString "copy;") (n := 5) rfl (by assumption) (by decide) (by decide) (by assumption) (by decide) (.inr ⟨by assumption, by assumption⟩)
    exact hret _ _ _ _ a1 a2 a3 a4 (.inr ⟨_, _, _, _, _, _, _, _, rfl, rfl, q1, q2, q3⟩)
  · rename Fr g' _ _ _ => F9
    rename News g' _ _ _ => N9
    exact InvEnd.intro F9 N9 (fun p hp => hp) ⟨noName_next (i := 4) rfl (by assumption) (name_no h0 h1 (y := Str.ofString "copy;") (n := 5) (by decide) (by decide) (by assumption)), fun z hz => by simp [hz]⟩
  · (try dsimp only); rename Fr g' _ _ _ => F9
    rename News g' _ _ _ => N9
    obtain ⟨a1, a2, a3, a4⟩ := lv _ _ _ [(_, W.listOf #[.str _ _, .int _ _] _)] F9 (drop_to N9 (List.forall_mem_singleton.mpr (List.Mem.head _)))
    obtain ⟨c, m, q1, q2, q3⟩ := name_yes h0 h1 (z := Str.ofString "\u00a0") (i := 5) (y := Str.ofString "nbsp;") (n := 5) rfl (by assumption) (by decide) (by decide) (by assumption) (by decide) (.inr ⟨by assumption, by assumption⟩)
    exact hret _ _ _ _ a1 a2 a3 a4 (.inr ⟨_, _, _, _, _, _, _, _, rfl, rfl, q1, q2, q3⟩)
  · rename Fr g' _ _ _ => F9
    rename News g' _ _ _ => N9
    exact InvEnd.intro F9 N9 (fun p hp => hp) ⟨noName_next (i := 5) rfl (by assumption) (name_no h0 h1 (y := Str.ofString "nbsp;") (n := 5) (by decide) (by decide) (by assumption)), fun z hz => by simp [hz]⟩
  · (try dsimp only); rename Fr g' _ _ _ => F9
    obtain ⟨a1, a2, a3, a4⟩ := lv _ _ _ [] F9 (fun _ hq => nomatch hq)
    exact hret _ _ _ _ a1 a2 a3 a4 (.inl ⟨rfl, rfl, ref_noname h0 (by assumption) (.inr ⟨by assumption, by assumption⟩)⟩)
  · (try dsimp only); rename Fr g' _ _ _ => F9
    rename News g' _ _ _ => N9
    obtain ⟨a1, a2, a3, a4⟩ := lv _ _ _ [(_, W.listOf #[.str _ _, .int _ _] _)] F9 (drop_to N9 (List.forall_mem_singleton.mpr (List.Mem.head _)))
    obtain ⟨c, m, q1, q2, q3⟩ := name_yes h0 h1 (z := Str.ofString "&") (i := 0) (y := Str.ofString "amp;") (n := 4) rfl (by assumption) (by decide) (by decide) (by assumption) (by decide) (.inl (by assumption))
    exact hret _ _ _ _ a1 a2 a3 a4 (.inr ⟨_, _, _, _, _, _, _, _, rfl, rfl, q1, q2, q3⟩)
  · rename Fr g' _ _ _ => F9
    rename News g' _ _ _ => N9
    exact InvEnd.intro F9 N9 (fun p hp => hp) ⟨noName_next (i := 0) rfl (by assumption) (name_no h0 h1 (y := Str.ofString "amp;") (n := 4) (by decide) (by decide) (by assumption)), fun z hz => by simp [hz]⟩
  · (try dsimp only); rename Fr g' _ _ _ => F9
    rename News g' _ _ _ => N9
    obtain ⟨a1, a2, a3, a4⟩ := lv _ _ _ [(_, W.listOf #[.str _ _, .int _ _] _)] F9 (drop_to N9 (List.forall_mem_singleton.mpr (List.Mem.head _)))
    obtain ⟨c, m, q1, q2, q3⟩ := name_yes h0 h1 (z := Str.ofString "<") (i := 1) (y := Str.ofString "lt;") (n := 3) rfl (by assumption) (by decide) (by decide) (by assumption) (by decide) (.inl (by assumption))
    exact hret _ _ _ _ a1 a2 a3 a4 (.inr ⟨_, _, _, _, _, _, _, _, rfl, rfl, q1, q2, q3⟩)
  · rename Fr g' _ _ _ => F9
    rename News g' _ _ _ => N9
    exact InvEnd.intro F9 N9 (fun p hp => hp) ⟨noName_next (i := 1) rfl (by assumption) (name_no h0 h1 (y := Str.ofString "lt;") (n := 3) (by decide) (by decide) (by assumption)), fun z hz => by simp [hz]⟩
  · (try dsimp only); rename Fr g' _ _ _ => F9
    rename News g' _ _ _ => N9
    obtain ⟨a1, a2, a3, a4⟩ := lv _ _ _ [(_, W.listOf #[.str _ _, .int _ _] _)] F9 (drop_to N9 (List.forall_mem_singleton.mpr (List.Mem.head _)))
    obtain ⟨c, m, q1, q2, q3⟩ := name_yes h0 h1 (z := Str.ofString ">") (i := 2) (y := Str.ofString "gt;") (n := 3) rfl (by assumption) (by decide) (by decide) (by assumption) (by decide) (.inl (by assumption))
    exact hret _ _ _ _ a1 a2 a3 a4 (.inr ⟨_, _, _, _, _, _, _, _, rfl, rfl, q1, q2, q3⟩)
  · rename Fr g' _ _ _ => F9
    rename News g' _ _ _ => N9
    exact InvEnd.intro F9 N9 (fun p hp => hp) ⟨noName_next (i := 2) rfl (by assumption) (name_no h0 h1 (y := Str.ofString "gt;") (n := 3) (by decide) (by decide) (by assumption)), fun z hz => by simp [hz]⟩
  · (try dsimp only); rename Fr g' _ _ _ => F9
    rename News g' _ _ _ => N9
    obtain ⟨a1, a2, a3, a4⟩ := lv _ _ _ [(_, W.listOf #[.str _ _, .int _ _] _)] F9 (drop_to N9 (List.forall_mem_singleton.mpr (List.Mem.head _)))
    obtain ⟨c, m, q1, q2, q3⟩ := name_yes h0 h1 (z := Str.ofString "\"") (i := 3) (y := Str.ofString "quot;") (n := 5) rfl (by assumption) (by decide) (by decide) (by assumption) (by decide) (.inl (by assumption))
    exact hret _ _ _ _ a1 a2 a3 a4 (.inr ⟨_, _, _, _, _, _, _, _, rfl, rfl, q1, q2, q3⟩)
  · rename Fr g' _ _ _ => F9
    rename News g' _ _ _ => N9
    exact InvEnd.intro F9 N9 (fun p hp => hp) ⟨noName_next (i := 3) rfl (by assumption) (name_no h0 h1 (y := Str.ofString "quot;") (n := 5) (by decide) (by decide) (by assumption)), fun z hz => by simp [hz]⟩
  · (try dsimp only); rename Fr g' _ _ _ => F9
    rename News g' _ _ _ => N9
    obtain ⟨a1, a2, a3, a4⟩ := lv _ _ _ [(_, W.listOf #[.str _ _, .int _ _] _)] F9 (drop_to N9 (List.forall_mem_singleton.mpr (List.Mem.head _)))
    obtain ⟨c, m, q1, q2, q3⟩ := name_yes h0 h1 (z := Str.ofString "\u00a9") (i := 4) (y := Str.ofString "copy;") (n := 5) rfl (by assumption) (by decide) (by decide) (by assumption) (by decide) (.inl (by assumption))
    exact hret _ _ _ _ a1 a2 a3 a4 (.inr ⟨_, _, _, _, _, _, _, _, rfl, rfl, q1, q2, q3⟩)
  · rename Fr g' _ _ _ => F9
    rename News g' _ _ _ => N9
    exact InvEnd.intro F9 N9 (fun p hp => hp) ⟨noName_next (i := 4) rfl (by assumption) (name_no h0 h1 (y := Str.ofString "copy;") (n := 5) (by decide) (by decide) (by assumption)), fun z hz => by simp [hz]⟩
  · (try dsimp only); rename Fr g' _ _ _ => F9
    rename News g' _ _ _ => N9
    obtain ⟨a1, a2, a3, a4⟩ := lv _ _ _ [(_, W.listOf #[.str _ _, .int _ _] _)] F9 (drop_to N9 (List.forall_mem_singleton.mpr (List.Mem.head _)))
    obtain ⟨c, m, q1, q2, q3⟩ := name_yes h0 h1 (z := Str.ofString "\u00a0") (i := 5) (y := Str.ofString "nbsp;") (n := 5) rfl (by assumption) (by decide) (by decide) (by assumption) (by decide) (.inl (by assumption))
    exact hret _ _ _ _ a1 a2 a3 a4 (.inr ⟨_, _, _, _, _, _, _, _, rfl, rfl, q1, q2, q3⟩)
  · rename Fr g' _ _ _ => F9
    rename News g' _ _ _ => N9
    exact InvEnd.intro F9 N9 (fun p hp => hp) ⟨noName_next (i := 5) rfl (by assumption) (name_no h0 h1 (y := Str.ofString "nbsp;") (n := 5) (by decide) (by decide) (by assumption)), fun z hz => by simp [hz]⟩
  · (try dsimp only); rename Fr g' _ _ _ => F9
    obtain ⟨a1, a2, a3, a4⟩ := lv _ _ _ [] F9 (fun _ hq => nomatch hq)
    exact hret _ _ _ _ a1 a2 a3 a4 (.inl ⟨rfl, rfl, ref_noname h0 (by assumption) (.inl (by assumption))⟩)
end
-- part Read
section
/-- the law's reading, with so many steps at most -/
def readN : Nat → List Nat → List Nat
  | 0, _ => []
  | _ + 1, [] => []
  | n + 1, c :: r => match (if c = 38 then refL (c :: r) else none) with
    | some (d, k) => d :: readN n ((c :: r).drop k)
    | none => c :: readN n r
def readL (l : List Nat) : List Nat := readN l.length l

theorem numAt_pos {b : Nat} {r : List Nat} {p : Nat × Nat} (h : numAt b r = some p) : 2 ≤ p.2 ∧ p.2 ≤ r.length := by
  unfold numAt at h
  split at h
  · rename_i c
    cases h
    obtain ⟨h1, _⟩ := List.getElem?_eq_some_iff.mp c.2.1
    exact ⟨by show 2 ≤ _ + 1; omega, by show _ + 1 ≤ _; omega⟩
  · cases h
theorem nameAt_pos {r : List Nat} : ∀ {l : List (List Nat × Nat)} {p : Nat × Nat}, nameAt r l = some p → p.2 ≤ r.length
  | [], _, h => nomatch h
  | q :: l, p, h => by
    unfold nameAt at h
    split at h
    · rename_i e
      cases h
      show q.1.length ≤ r.length
      rw [← e]; exact List.length_take_le' _ _
    · exact nameAt_pos h
theorem refL_pos {l : List Nat} {c k : Nat} (h : refL l = some (c, k)) : 1 ≤ k ∧ k ≤ l.length := by
  unfold refL at h
  split at h
  · split at h
    · split at h
      · obtain ⟨p, hp, e⟩ := Option.map_eq_some_iff.mp h
        cases e
        have := numAt_pos hp
        simp only [List.length_cons]; omega
      · obtain ⟨p, hp, e⟩ := Option.map_eq_some_iff.mp h
        cases e
        have := numAt_pos hp
        simp only [List.length_cons] at this ⊢; omega
    · cases h
  · obtain ⟨p, hp, e⟩ := Option.map_eq_some_iff.mp h
    cases e
    have := nameAt_pos hp
    simp only [List.length_cons]; omega
  · cases h

theorem readN_eq : ∀ (n m : Nat) (l : List Nat), l.length ≤ n → l.length ≤ m → readN n l = readN m l
  | 0, m, l, h, _ => by
    have : l = [] := List.length_eq_zero_iff.mp (by omega)
    subst this
    cases m <;> rfl
  | n + 1, 0, l, _, h => by
    have : l = [] := List.length_eq_zero_iff.mp (by omega)
    subst this; rfl
  | n + 1, m + 1, [], _, _ => rfl
  | n + 1, m + 1, c :: r, h1, h2 => by
    simp only [List.length_cons] at h1 h2
    show (match (if c = 38 then refL (c :: r) else none) with | some (d, k) => d :: readN n ((c :: r).drop k) | none => c :: readN n r) = (match (if c = 38 then refL (c :: r) else none) with | some (d, k) => d :: readN m ((c :: r).drop k) | none => c :: readN m r)
    split
    · rename_i d k hk
      have hp : 1 ≤ k := by
        split at hk
        · exact (refL_pos hk).1
        · cases hk
      rw [readN_eq n m _ (by rw [List.length_drop, List.length_cons]; omega) (by rw [List.length_drop, List.length_cons]; omega)]
    · rw [readN_eq n m r (by omega) (by omega)]
theorem readL_cons (c : Nat) (r : List Nat) : readL (c :: r) = match (if c = 38 then refL (c :: r) else none) with | some (d, k) => d :: readL ((c :: r).drop k) | none => c :: readL r := by
  show (match (if c = 38 then refL (c :: r) else none) with | some (d, k) => d :: readN r.length ((c :: r).drop k) | none => c :: readN r.length r) = _
  split
  · rename_i d k hk
    have hp : 1 ≤ k := by
      split at hk
      · exact (refL_pos hk).1
      · cases hk
    show _ :: readN _ _ = _ :: readN _ _
    rw [readN_eq r.length _ _ (by rw [List.length_drop, List.length_cons]; omega) (Nat.le_refl _)]
  · rfl

/-- the state of the reading loop -/
structure ReadInv (x : PySem.Str) (out : PySem.Str) (p : Int) : Prop where
  val : out.cps.toList ++ readL (x.cps.toList.drop p.toNat) = readL x.cps.toList
  p0 : 0 ≤ p
  p1 : p ≤ x.length
  len : (out.length : Int) ≤ p

theorem readInv_start (x : PySem.Str) : ReadInv x (Str.ofString "") 0 where
  val := by rw [show (Str.ofString "").cps.toList = [] by decide]; rfl
  p0 := Int.le_refl _
  p1 := by omega
  len := by rw [show (Str.ofString "").length = 0 by decide]; omega

theorem readInv_plain {x out : PySem.Str} {p : Int} (I : ReadInv x out p) (hp : p < x.length) (h : ∀ r, x.cps.toList.drop p.toNat = 38 :: r → refL (38 :: r) = none) : ReadInv x (out ++ Txt.item x p) (p + 1) := by
  obtain ⟨c, hc, e⟩ := item_at I.p0 (by have := I.p0; omega : p.toNat < x.length)
  have p0 := I.p0
  refine ⟨?_, by omega, by omega, ?_⟩
  · have v := I.val
    rw [drop_at hc, readL_cons] at v
    have hn : (if c = 38 then refL (c :: x.cps.toList.drop (p.toNat + 1)) else none) = none := by
      split
      · rename_i h38; subst h38; exact h _ (drop_at hc)
      · rfl
    rw [hn] at v
    rw [cps_app, e, show (p + 1).toNat = p.toNat + 1 by omega, ← v]
    simp
  · rw [Str.length_append, e]
    have := I.len
    have : (⟨#[c]⟩ : PySem.Str).length = 1 := rfl
    omega
theorem readInv_ref {x out y : PySem.Str} {p e : Int} {c n : Nat} (I : ReadInv x out p) (hp : p < x.length) (h38 : x.cps.toList[p.toNat]? = some 38) (h : refL (38 :: x.cps.toList.drop (p.toNat + 1)) = some (c, n)) (hy : y = ⟨#[c]⟩) (he : e = p + n) : ReadInv x (out ++ y) e ∧ p < e := by
  have p0 := I.p0
  obtain ⟨n1, n2⟩ := refL_pos h
  rw [List.length_cons, List.length_drop, ← len_cps] at n2
  subst hy he
  refine ⟨⟨?_, by omega, by omega, ?_⟩, by omega⟩
  · have v := I.val
    rw [drop_at h38, readL_cons, if_pos rfl, h] at v
    have e : (38 :: x.cps.toList.drop (p.toNat + 1)).drop n = x.cps.toList.drop (p + (n : Int)).toNat := by
      rw [← drop_at h38, List.drop_drop]; congr 1; omega
    dsimp only at v
    rw [e] at v
    rw [cps_app, ← v]
    simp
  · rw [Str.length_append]
    have := I.len
    have : (⟨#[c]⟩ : PySem.Str).length = 1 := rfl
    omega
theorem readInv_end {x out : PySem.Str} {p : Int} (I : ReadInv x out p) (hp : ¬ p < x.length) : out.cps.toList = readL x.cps.toList := by
  have v := I.val
  have p1 := I.p1
  rw [List.drop_eq_nil_of_le (by rw [← len_cps]; omega)] at v
  rw [← v]; simp [readL, readN]

theorem ofS_amp {x : PySem.Str} {i : Int} (h0 : 0 ≤ i) (h1 : i < x.length) : (Txt.item x i == Str.ofString "&") = true ↔ x.cps.toList[i.toNat]? = some 38 := ofS_one (by decide) h0 h1
/-- the word of the reading loop -/
def ReadW (x out : PySem.Str) (p : Int) : Prop := ReadInv x out p ∧ 0 ≤ p ∧ out.length ≤ 3000000
theorem readW_of {x out : PySem.Str} {p : Int} (hl : x.length ≤ 3000000) (I : ReadInv x out p) : ReadInv x out p ∧ 0 ≤ p ∧ out.length ≤ 3000000 := by
  refine ⟨I, I.p0, ?_⟩
  have := I.p1; have := I.len; omega
theorem read_t1 {x out : PySem.Str} {p : Int} (hl : x.length ≤ 3000000) (I : ReadInv x out p) (hp : p < x.length) (h : (Txt.item x p == Str.ofString "&") = false) : ReadInv x (out ++ Txt.item x p) (p + 1) ∧ 0 ≤ p + 1 ∧ (out ++ Txt.item x p).length ≤ 3000000 := by
  refine readW_of hl (readInv_plain I hp fun r hr => ?_)
  have h38 : x.cps.toList[p.toNat]? = some 38 := by
    have : (x.cps.toList.drop p.toNat)[0]? = some 38 := by rw [hr]; rfl
    rw [List.getElem?_drop] at this; simpa using this
  rw [(ofS_amp I.p0 hp).mpr h38] at h; cases h
theorem read_t2 {x out : PySem.Str} {p : Int} (hl : x.length ≤ 3000000) (I : ReadInv x out p) (hp : p < x.length) (h : refL (38 :: x.cps.toList.drop (p.toNat + 1)) = none) : ReadInv x (out ++ Txt.item x p) (p + 1) ∧ 0 ≤ p + 1 ∧ (out ++ Txt.item x p).length ≤ 3000000 := by
  refine readW_of hl (readInv_plain I hp fun r hr => ?_)
  have : r = x.cps.toList.drop (p.toNat + 1) := by
    have := congrArg (List.drop 1) hr
    rw [List.drop_drop] at this
    simpa [Nat.add_comm] using this.symm
  rw [this]; exact h
theorem read_t3 {x out y : PySem.Str} {p e : Int} {c n : Nat} (hl : x.length ≤ 3000000) (I : ReadInv x out p) (hp : p < x.length) (h : (Txt.item x p == Str.ofString "&") = true) (hr : refL (38 :: x.cps.toList.drop (p.toNat + 1)) = some (c, n)) (hy : y = ⟨#[c]⟩) (he : e = p + n) : ReadInv x (out ++ y) e ∧ 0 ≤ e ∧ (out ++ y).length ≤ 3000000 :=
  readW_of hl (readInv_ref I hp ((ofS_amp I.p0 hp).mp h) hr hy he).1
theorem read_m3 {x : PySem.Str} {p e : Int} {c n : Nat} (h0 : 0 ≤ p) (hp : p < x.length) (hr : refL (38 :: x.cps.toList.drop (p.toNat + 1)) = some (c, n)) (he : e = p + n) : x.length - e.toNat < x.length - p.toNat := by
  have := (refL_pos hr).1
  omega
theorem read_m1 {x : PySem.Str} {p : Int} (h0 : 0 ≤ p) (hp : p < x.length) : x.length - (p + 1).toNat < x.length - p.toNat := by omega
end
-- part RefUse
section
section
variable {w : World} {A₀ : Around} {s : Shared} {base h₀ : Heap} {outer : List Env} {L : Addr} {m : Str → Option Value} {news : List (Addr × Obj)} {p0 : Program} {loose : List Str} {mean : ExcName → Option Value} {mg mb : Str → Option Value}
  {dp un : Nat} {gd : Option (List Code)} {cn : Str} {cs : Scope} {a : Addr} {ccd : Value} {cl : List (Str × Addr)} {Q E : Value → Shared → Prop}

theorem ref_use {x : PySem.Str} {t : Tok} {k : Int} {tk : Tok}
    (B : Below A₀ base outer h₀) (F : Fr h₀ L s.heap m) (X : (Mine.hd.heap_39 w.params).In h₀) (T : Top p0 loose mean mg mb h₀) (hk : cs.kind = .function) (hd : dp + 2 < recursionLimit) (hu : un + 8 * 2 < cLine)
    (N : News h₀ L s.heap news) (hx : ∀ c ∈ x.cps.toList, okC c = true) (hl : x.length ≤ 3000000) (h0 : 0 ≤ k) (h1 : k < x.length)
    (hn : ∀ h' tk', refL (38 :: x.cps.toList.drop (k.toNat + 1)) = none → Fr h₀ L h' m → News h₀ L h' news → Q .none { s with heap := h', toks := tk' })
    (hs : ∀ r y ty e te c cc n h' tk', refL (38 :: x.cps.toList.drop (k.toNat + 1)) = some (cc, n) → y = ⟨#[cc]⟩ → e = k + n → y.length ≤ 1 → Fr h₀ L h' m → News h₀ L h' ((r, W.listOf #[.str y ty, .int e te] c) :: news) → AllNe r news → Q (.ref r) { s with heap := h', toks := tk' }) :
    wpAny (model PySem.Challenge.rw_ah6020_01.row.prog w) (ktrTop dp un gd cn cs L a ccd cl outer) (call (.ref 497) [.str x t, .int k tk]) Q E s := by
  refine (ref_ctr w x t k tk hx hl h0 h1).use (rest := news) B F X T hk hd hu N (fun q hq => nomatch hq) (fun q hq => hq) (fun q hq => by simp) trivial fun v own' h' tk' hP F' N' ND KP => ?_
  rcases hP with ⟨rfl, rfl, e⟩ | ⟨r, y, ty, e, te, c, cc, n, rfl, rfl, e1, e2, e3⟩
  · exact hn h' tk' e F' N'
  · refine hs r y ty e te c cc n h' tk' e1 e2 e3 (by rw [e2]; exact Nat.le_refl 1) F' N' (allNe_of fun q hq e => ?_)
    rcases ND _ (List.Mem.head _) with h | h
    · cases h
    · exact h q hq e.symm
end
end
local macro_rules | `(tactic| walk_at "call ref") => `(tactic| (k_here; (with_reducible show wpAny _ _ (call (Value.ref 497) _) _ _ _); k_dflt (refine' ref_use ?k1 ?k2 ?k3 ?k4 ?k5 ?k6 ?k7 ?k8 ?k9 ?k10 ?k11 ?k12 ?_ ?_; walk_at "MINE ctx"; (case k9 => assumption); (case k10 => first | assumption | omega); (case k11 => omega); (case k12 => omega); k_whole); all_goals first | (intro r' y' ty' e' te' c' cc' n' h' tk' hr' hy' he' hyl' F' N' hn'; (try (simp only [AllNe, and_true] at hn')); (try k_sweep)) | (intro h' tk' hr' F' N'; (try k_sweep))))
-- part ReadC
section
theorem read_ctr (w : World) (x : PySem.Str) (t : Tok) (hx : ∀ c ∈ x.cps.toList, okC c = true) (hl : x.length ≤ 3000000) :
    Ctr PySem.Challenge.rw_ah6020_01.row.prog w 3 504 [.str x t] [] (fun _ => True)
      (fun _ v own' => own' = [] ∧ ∃ y ty, v = .str y ty ∧ y.cps.toList = readL x.cps.toList) := by
  unfold Ctr
  k_fill
  w_top off
  k_with_none
  intro p0 loose mean mg mb dp un gd cn cs a ccd cl outer A₀ base h₀ L m s Q E B F X T hk hd hu N hpre hret
  refine wpAny_call ?_
  k_dflt (walk_at "MINE enter")
  intro g' L' h' FG' F' N' B' X' T' KG hL' lt' lv
  replace F' : Fr g' L' h' (fun y => List.lookup y [(Str.ofString "text", Value.str x t)]) := F'
  generalize s.toks + List.length _ = tk0
  (try dsimp only)
  (try k_lift B')
  try k_fold
  k_with_none
  k_with "exec While Compare cons nil" => k_while (fun _ out p => ReadInv x out p ∧ 0 ≤ p ∧ out.length ≤ 3000000) (fun _ _ p => x.length - p.toNat) "out" "place"
  k_with "state" => first
    | exact readW_of hl (readInv_start x)
    | exact read_t1 hl (by assumption) (by assumption) (by assumption)
    | exact read_t2 hl (by assumption) (by assumption) (by assumption)
    | exact read_t3 hl (by assumption) (by assumption) (by assumption) (by assumption) (by assumption) (by assumption)
  k_with "measure" => first
    | exact read_m1 (by assumption) (by assumption)
    | exact read_m3 (by assumption) (by assumption) (by assumption) (by assumption)
  k_steps
  (try dsimp only)
  rename Fr g' _ _ _ => F9
  rename ReadInv _ _ _ => I9
  obtain ⟨a1, a2, a3, a4⟩ := lv _ _ _ [] F9 (fun _ hq => nomatch hq)
  exact hret _ _ _ _ a1 a2 a3 a4 ⟨rfl, _, _, rfl, readInv_end I9 (by assumption)⟩
end
-- part Marks
section
def markC (c : Nat) : List Nat := if c = 38 then [38, 97, 109, 112, 59] else if c = 60 then [38, 108, 116, 59] else if c = 62 then [38, 103, 116, 59] else if c = 34 then [38, 113, 117, 111, 116, 59] else [c]
def marksL (l : List Nat) : List Nat := l.flatMap markC

abbrev toldD : List (PyData × PyData) := [(.str (Str.ofString "&"), .str (Str.ofString "&amp;")), (.str (Str.ofString "<"), .str (Str.ofString "&lt;")), (.str (Str.ofString ">"), .str (Str.ofString "&gt;")), (.str (Str.ofString "\""), .str (Str.ofString "&quot;"))]
theorem told_get (hp : Heap) {v : Value} {c : Nat} (hf : PyProof.V.Flat v ((Spec.lookup (PyData.str ⟨#[c]⟩) toldD).getD (PyData.str ⟨#[c]⟩))) : ∃ y t, v = .str y t ∧ y.cps.toList = markC c ∧ y.length ≤ 6 := by
  have hs : ∀ y : PySem.Str, PyProof.V.Flat v (PyData.str y) → ∃ t, v = .str y t := fun y h => by cases h hp; exact ⟨_, rfl⟩
  have e : ∀ (d : Nat) (y : PySem.Str), y = ⟨#[d]⟩ → Spec.same (PyData.str y) (PyData.str ⟨#[c]⟩) = decide (d = c) := by
    intro d y hy
    subst hy
    show ((⟨#[d]⟩ : PySem.Str) == ⟨#[c]⟩) = _
    by_cases h : d = c
    · subst h; simp
    · rw [decide_eq_false h, beq_eq_false_iff_ne]
      intro q; cases q; exact h rfl
  unfold toldD at hf
  simp only [Spec.lookup] at hf
  rw [e 38 _ (by decide), e 60 _ (by decide), e 62 _ (by decide), e 34 _ (by decide)] at hf
  unfold markC
  by_cases h1 : 38 = c
  · subst h1; simp only [decide_true, if_true, Option.getD_some] at hf; obtain ⟨t, rfl⟩ := hs _ hf; exact ⟨_, _, rfl, by decide, by decide⟩
  by_cases h2 : 60 = c
  · subst h2; simp only [h1, decide_false, decide_true, Bool.false_eq_true, if_false, if_true, Option.getD_some] at hf; obtain ⟨t, rfl⟩ := hs _ hf; exact ⟨_, _, rfl, by decide, by decide⟩
  by_cases h3 : 62 = c
  · subst h3; simp only [h1, h2, decide_false, decide_true, Bool.false_eq_true, if_false, if_true, Option.getD_some] at hf; obtain ⟨t, rfl⟩ := hs _ hf; exact ⟨_, _, rfl, by decide, by decide⟩
  by_cases h4 : 34 = c
  · subst h4; simp only [h1, h2, h3, decide_false, decide_true, Bool.false_eq_true, if_false, if_true, Option.getD_some] at hf; obtain ⟨t, rfl⟩ := hs _ hf; exact ⟨_, _, rfl, by decide, by decide⟩
  simp only [h1, h2, h3, h4, decide_false, Bool.false_eq_true, if_false, Option.getD_none] at hf
  obtain ⟨t, rfl⟩ := hs _ hf
  refine ⟨_, _, rfl, ?_, (by decide : 1 ≤ 6)⟩
  rw [if_neg (Ne.symm h1), if_neg (Ne.symm h2), if_neg (Ne.symm h3), if_neg (Ne.symm h4)]

theorem marks_start : (Str.ofString "").cps.toList = marksL (([] : List Int).map Int.toNat) ∧ (Str.ofString "").length ≤ 6 * ([] : List Int).length := by decide
theorem marks_turn {pre : List Int} {c : Nat} {out y : PySem.Str} (h : out.cps.toList = marksL (pre.map Int.toNat)) (h2 : out.length ≤ 6 * pre.length) (hy : y.cps.toList = markC c) (hl : y.length ≤ 6) :
    (out ++ y).cps.toList = marksL ((pre ++ [(c : Int)]).map Int.toNat) ∧ (out ++ y).length ≤ 6 * (pre ++ [(c : Int)]).length := by
  refine ⟨?_, ?_⟩
  · rw [cps_app, h, hy]; simp [marksL]
  · rw [Str.length_append, List.length_append, List.length_singleton]; omega
theorem codes_back (x : PySem.Str) : (KStt.codes x).map Int.toNat = x.cps.toList := by
  unfold KStt.codes
  rw [List.map_map]
  exact List.map_id'' (fun _ => rfl) _

theorem marks_ctr (w : World) (x : PySem.Str) (t : Tok) (hl : x.length ≤ 2500000) :
    Ctr PySem.Challenge.rw_ah6020_01.row.prog w 2 511 [.str x t] [] (fun _ => True)
      (fun _ v own' => own' = [] ∧ ∃ y ty, v = .str y ty ∧ y.cps.toList = marksL x.cps.toList) := by
  unfold Ctr
  k_fill
  w_top off
  k_with_none
  intro p0 loose mean mg mb dp un gd cn cs a ccd cl outer A₀ base h₀ L m s Q E B F X T hk hd hu N hpre hret
  refine wpAny_call ?_
  k_dflt (walk_at "MINE enter")
  intro g' L' h' FG' F' N' B' X' T' KG hL' lt' lv
  replace F' : Fr g' L' h' (fun y => List.lookup y [(Str.ofString "text", Value.str x t)]) := F'
  generalize s.toks + List.length _ = tk0
  (try dsimp only)
  (try k_lift B')
  try k_fold
  k_with_none
  k_with "pyIter str" => k_state (fun pre out => out.cps.toList = marksL (pre.map Int.toNat) ∧ out.length ≤ 6 * pre.length) "out"
  k_with "binaryOp Add str" =>
    rename PyProof.V.Flat _ _ => hfl
    obtain ⟨y9, ty9, e9, hy9, hyl9⟩ := told_get s.heap hfl
    subst e9
    clear hfl
  k_with "state" => first
    | exact marks_start
    | exact marks_turn (by assumption) (by assumption) (by assumption) (by assumption)
  k_steps
  (try dsimp only)
  rename Fr g' _ _ _ => F9
  obtain ⟨a1, a2, a3, a4⟩ := lv _ _ _ [] F9 (fun _ hq => nomatch hq)
  refine hret _ _ _ _ a1 a2 a3 a4 ⟨rfl, _, _, rfl, ?_⟩
  rw [← codes_back x]; assumption
end
-- part Octets
section
def hexU (n : Nat) : Nat := if n < 10 then 48 + n else 55 + n
def octL (c : Nat) : List Nat := if c < 128 then [c] else if c < 2048 then [192 + c / 64, 128 + c % 64] else if c < 65536 then [224 + c / 4096, 128 + c / 64 % 64, 128 + c % 64] else [240 + c / 262144, 128 + c / 4096 % 64, 128 + c / 64 % 64, 128 + c % 64]
def pctO (o : Nat) : List Nat := [37, hexU (o / 16), hexU (o % 16)]
def pctC (c : Nat) : List Nat := if rowC c then [c] else (octL c).flatMap pctO
def pctL (l : List Nat) : List Nat := l.flatMap pctC
def octI (k : Int) : List Int := (octL k.toNat).map fun (n : Nat) => (n : Int)

theorem fdivN (c : Nat) (d : Int) (hd : 0 ≤ d) : Int.fdiv (c : Int) d = (c : Int) / d := Int.fdiv_eq_ediv_of_nonneg _ hd
theorem fmodN (c : Nat) (d : Int) (hd : 0 ≤ d) : Int.fmod (c : Int) d = (c : Int) % d := Int.fmod_eq_emod_of_nonneg _ hd

theorem octI_1 {k : Nat} (h : (k : Int) < 128) : octI k = [(k : Int)] := by
  unfold octI octL
  rw [Int.toNat_natCast, if_pos (by omega)]; rfl
theorem octI_2 {k : Nat} (h : ¬ (k : Int) < 128) (h2 : (k : Int) < 2048) : octI k = [192 + (k : Int).fdiv 64, 128 + (k : Int).fmod 64] := by
  unfold octI octL
  rw [Int.toNat_natCast, if_neg (by omega), if_pos (by omega), fdivN _ _ (by decide), fmodN _ _ (by decide)]
  simp
theorem octI_3 {k : Nat} (h : ¬ (k : Int) < 128) (h2 : ¬ (k : Int) < 2048) (h3 : (k : Int) < 65536) : octI k = [224 + (k : Int).fdiv 4096, 128 + ((k : Int).fdiv 64).fmod 64, 128 + (k : Int).fmod 64] := by
  unfold octI octL
  rw [Int.toNat_natCast, if_neg (by omega), if_neg (by omega), if_pos (by omega), fdivN _ _ (by decide), fmodN _ _ (by decide), fdivN _ _ (by decide), Int.fmod_eq_emod_of_nonneg _ (by decide)]
  simp
theorem octI_4 {k : Nat} (h : ¬ (k : Int) < 128) (h2 : ¬ (k : Int) < 2048) (h3 : ¬ (k : Int) < 65536) : octI k = [240 + (k : Int).fdiv 262144, 128 + ((k : Int).fdiv 4096).fmod 64, 128 + ((k : Int).fdiv 64).fmod 64, 128 + (k : Int).fmod 64] := by
  unfold octI octL
  rw [Int.toNat_natCast, if_neg (by omega), if_neg (by omega), if_neg (by omega), fdivN _ _ (by decide), fmodN _ _ (by decide), fdivN _ _ (by decide), fdivN _ _ (by decide), Int.fmod_eq_emod_of_nonneg _ (by decide), Int.fmod_eq_emod_of_nonneg _ (by decide)]
  simp
theorem octI_bound {k : Nat} (hk : k ≤ 1114111) : ∀ n ∈ octI k, 0 ≤ n ∧ n ≤ 255 := by
  intro n hn
  unfold octI at hn
  obtain ⟨m, hm, rfl⟩ := List.mem_map.mp hn
  rw [Int.toNat_natCast] at hm
  unfold octL at hm
  have : m ≤ 255 := by
    split at hm
    · rw [List.mem_singleton.mp hm]; omega
    · split at hm
      · simp at hm; omega
      · split at hm
        · simp at hm; omega
        · simp at hm; omega
  omega
theorem octI_len (k : Int) : (octI k).length ≤ 4 := by
  unfold octI octL
  split
  · simp
  · split
    · simp
    · split <;> simp

theorem ints_of {vs : List Value} {l ns : List Int} (e : l = ns) (h : IntsAre vs ns) : IntsAre vs l := e ▸ h
theorem octets_ctr (w : World) (k : Nat) (tk : Tok) :
    Ctr PySem.Challenge.rw_ah6020_01.row.prog w 1 518 [.int (k : Int) tk] [] (fun _ => True)
      (fun _ v own' => ∃ r vs c, v = .ref r ∧ own' = [(r, W.listOf (List.toArray vs) c)] ∧ IntsAre vs (octI k)) := by
  unfold Ctr
  k_fill
  w_top off
  k_with_none
  intro p0 loose mean mg mb dp un gd cn cs a ccd cl outer A₀ base h₀ L m s Q E B F X T hk hd hu N hpre hret
  refine wpAny_call ?_
  k_dflt (walk_at "MINE enter")
  intro g' L' h' FG' F' N' B' X' T' KG hL' lt' lv
  replace F' : Fr g' L' h' (fun y => List.lookup y [(Str.ofString "code", Value.int (k : Int) tk)]) := F'
  generalize s.toks + List.length _ = tk0
  (try dsimp only)
  (try k_lift B')
  try k_fold
  k_with_none
  k_steps
  all_goals (
    try dsimp only
    rename Fr g' _ _ _ => F9
    rename News g' _ _ _ => N9
    obtain ⟨a1, a2, a3, a4⟩ := lv _ _ _ _ F9 N9
    refine hret _ _ _ _ a1 a2 a3 a4 ⟨_, _, _, rfl, rfl, ?_⟩)
  · exact ints_of (octI_1 (by omega)) (IntsAre.cons _ _ IntsAre.nil)
  · exact ints_of (octI_2 (by omega) (by omega)) (IntsAre.cons _ _ (IntsAre.cons _ _ IntsAre.nil))
  · exact ints_of (octI_3 (by omega) (by omega) (by omega)) (IntsAre.cons _ _ (IntsAre.cons _ _ (IntsAre.cons _ _ IntsAre.nil)))
  · exact ints_of (octI_4 (by omega) (by omega) (by omega)) (IntsAre.cons _ _ (IntsAre.cons _ _ (IntsAre.cons _ _ (IntsAre.cons _ _ IntsAre.nil))))
end
-- part PercentPl
section
section
variable {w : World} {A₀ : Around} {s : Shared} {base h₀ : Heap} {outer : List Env} {L : Addr} {m : Str → Option Value} {news : List (Addr × Obj)} {p0 : Program} {loose : List Str} {mean : ExcName → Option Value} {mg mb : Str → Option Value}
  {dp un : Nat} {gd : Option (List Code)} {cn : Str} {cs : Scope} {a : Addr} {ccd : Value} {cl : List (Str × Addr)} {Q E : Value → Shared → Prop}
theorem octets_use {k : Nat} {tk : Tok}
    (B : Below A₀ base outer h₀) (F : Fr h₀ L s.heap m) (X : (Mine.hd.heap_39 w.params).In h₀) (T : Top p0 loose mean mg mb h₀) (hk : cs.kind = .function) (hd : dp + 1 < recursionLimit) (hu : un + 8 * 1 < cLine)
    (N : News h₀ L s.heap news) (hb : k ≤ 1114111)
    (h : ∀ r vs c h' tk', IntsAre vs (octI k) → (∀ n ∈ octI k, 0 ≤ n ∧ n ≤ 255) → (octI k).length ≤ 4 → Fr h₀ L h' m → News h₀ L h' ((r, W.listOf (List.toArray vs) c) :: news) → AllNe r news → Q (.ref r) { s with heap := h', toks := tk' }) :
    wpAny (model PySem.Challenge.rw_ah6020_01.row.prog w) (ktrTop dp un gd cn cs L a ccd cl outer) (call (.ref 518) [.int (k : Int) tk]) Q E s := by
  refine (octets_ctr w k tk).use (rest := news) B F X T hk hd hu N (fun q hq => nomatch hq) (fun q hq => hq) (fun q hq => by simp) trivial fun v own' h' tk' hP F' N' ND KP => ?_
  obtain ⟨r, vs, c, rfl, rfl, hi⟩ := hP
  refine h r vs c h' tk' hi (octI_bound hb) (octI_len _) F' N' (allNe_of fun q hq e => ?_)
  rcases ND _ (List.Mem.head _) with h | h
  · cases h
  · exact h q hq e.symm
end

abbrev upperT : Str := Str.ofString "0123456789ABCDEF"
abbrev rowT : Str := Str.ofString "abcdefghijklmnopqrstuvwxyzABCDEFGHIJKLMNOPQRSTUVWXYZ0123456789_.-~:/?#@!$&()*+,;=%"

theorem item_upperR {prog : Program} {w : World} {A : Around} {E : Value → Shared → Prop} {s : Shared} {value slice : PySem.Expr} {o : Int} {t u : Tok} {Q : Value → Shared → Prop} (ho : 0 ≤ o ∧ o ≤ 255)
    (h : (Txt.item upperT (o.fdiv 16)).length ≤ 1 → Q (.str (Txt.item upperT (o.fdiv 16)) s.toks) { s with toks := s.toks + 1 })
    (hs : subscripted slice false (.str upperT t) (.int (o.fdiv 16) u) = operate [.str upperT t, .int (o.fdiv 16) u] (getItem (.str upperT t) (.int (o.fdiv 16) u)) := by with_unfolding_all rfl)
    (ht : ∀ r, letTemporaryGo value (.str upperT t) r = pure () := by intro _; with_unfolding_all rfl) :
    wpAny (model prog w) A (subscriptTail value slice (.str upperT t) (.int (o.fdiv 16) u)) Q E s := by
  have e : o.fdiv 16 = o / 16 := Int.fdiv_eq_ediv_of_nonneg _ (by decide)
  have hl : upperT.length = 16 := by decide
  exact item_str (fitsSsize_of (N := 9223372036854775808) (by omega) (by omega) (Int.le_refl _)) (by omega) (by omega) (fun h1 => h h1.2) hs ht
theorem item_upperM {prog : Program} {w : World} {A : Around} {E : Value → Shared → Prop} {s : Shared} {value slice : PySem.Expr} {o : Int} {t u : Tok} {Q : Value → Shared → Prop} (ho : 0 ≤ o ∧ o ≤ 255)
    (h : (Txt.item upperT (o.fmod 16)).length ≤ 1 → Q (.str (Txt.item upperT (o.fmod 16)) s.toks) { s with toks := s.toks + 1 })
    (hs : subscripted slice false (.str upperT t) (.int (o.fmod 16) u) = operate [.str upperT t, .int (o.fmod 16) u] (getItem (.str upperT t) (.int (o.fmod 16) u)) := by with_unfolding_all rfl)
    (ht : ∀ r, letTemporaryGo value (.str upperT t) r = pure () := by intro _; with_unfolding_all rfl) :
    wpAny (model prog w) A (subscriptTail value slice (.str upperT t) (.int (o.fmod 16) u)) Q E s := 
  item_str_fmod (by decide) (by decide) (by decide) (fun h1 => h h1.2) hs ht
theorem oct_of {l pre post : List Int} {n : Int} (hB : ∀ n ∈ l, 0 ≤ n ∧ n ≤ 255) (hE : l = pre ++ n :: post) : 0 ≤ n ∧ n ≤ 255 := hB n (by rw [hE]; simp)

theorem hex_item {i : Int} (h0 : 0 ≤ i) (h1 : i < 16) : (Txt.item upperT i).cps.toList = [hexU i.toNat] := by
  obtain ⟨k, rfl⟩ := Int.eq_ofNat_of_zero_le h0
  have hk : k < 16 := by omega
  exact (by decide +kernel : ∀ k : Fin 16, (Txt.item upperT (k.val : Int)).cps.toList = [hexU (Int.toNat (k.val : Int))]) ⟨k, hk⟩
theorem row_mem (c : Nat) : decide (c ∈ rowT.cps.toList) = rowC c := by
  by_cases h : c < 128
  · exact (by decide +kernel : ∀ c, c < 128 → decide (c ∈ rowT.cps.toList) = rowC c) c h
  · have h1 : rowC c = false := by
      simp only [rowC, decC, Bool.or_eq_false_iff, Bool.and_eq_false_iff, decide_eq_false_iff_not]
      refine ⟨⟨⟨.inr (by omega), .inr (by omega)⟩, .inr (by omega)⟩, ?_⟩
      rw [← Bool.not_eq_true, List.contains_iff_mem]
      intro hm
      simp at hm
      omega
    rw [h1]
    refine decide_eq_false fun hm => h ?_
    exact (by decide +kernel : ∀ c ∈ rowT.cps.toList, c < 128) c hm
theorem row_occ {c : Nat} {b : Bool} (h : (Builtin.Str.occurrences rowT ⟨#[c]⟩ 0 rowT.length 1).isEmpty = b) : rowC c = !b := by
  rw [← row_mem, ← StrLaws.found_one, h]

theorem costC_oct {c : Nat} (h : rowC c = false) : costC c = 3 * (octL c).length := by
  unfold costC octL
  rw [h]
  simp only [Bool.false_eq_true, if_false]
  split
  · rfl
  · split
    · rfl
    · split <;> rfl
theorem pct_start : (Str.ofString "").cps.toList = pctL (([] : List Int).map Int.toNat) ∧ (Str.ofString "").length ≤ costL (([] : List Int).map Int.toNat) ∧ (Str.ofString "").length ≤ 8000000 := by decide
theorem cost_pre {x : PySem.Str} {pre post : List Int} {c : Nat} (hE : KStt.codes x = pre ++ (c : Int) :: post) (hc : costL x.cps.toList ≤ 8000000) : costL (pre.map Int.toNat) + costC c ≤ 8000000 := by
  rw [← codes_back x, hE] at hc
  simp only [List.map_append, List.map_cons, costL_append, costL_cons, Int.toNat_natCast] at hc
  omega
theorem pct_row {x out : PySem.Str} {pre post : List Int} {c : Nat} (hE : KStt.codes x = pre ++ (c : Int) :: post) (hc : costL x.cps.toList ≤ 8000000) (h : out.cps.toList = pctL (pre.map Int.toNat)) (h2 : out.length ≤ costL (pre.map Int.toNat))
    (hr : (Builtin.Str.occurrences rowT ⟨#[c]⟩ 0 rowT.length 1).isEmpty = false) : (out ++ ⟨#[c]⟩).cps.toList = pctL ((pre ++ [(c : Int)]).map Int.toNat) ∧ (out ++ ⟨#[c]⟩).length ≤ costL ((pre ++ [(c : Int)]).map Int.toNat) ∧ (out ++ ⟨#[c]⟩).length ≤ 8000000 := by
  have hr := row_occ hr
  have hb := cost_pre hE hc
  have hcc : costC c = 1 := by unfold costC; rw [hr]; rfl
  have h1 : (⟨#[c]⟩ : PySem.Str).length = 1 := rfl
  refine ⟨?_, ?_, ?_⟩
  · rw [cps_app, h]; simp [pctL, pctC, hr]
  · rw [Str.length_append, List.map_append, costL_append]; simp only [List.map_cons, List.map_nil, costL_cons, Int.toNat_natCast, hcc]; omega
  · rw [Str.length_append]; omega
theorem pct_oct {x o out : PySem.Str} {pre post : List Int} {c : Nat} (hE : KStt.codes x = pre ++ (c : Int) :: post) (hc : costL x.cps.toList ≤ 8000000) (h : o.cps.toList = pctL (pre.map Int.toNat)) (h2 : o.length ≤ costL (pre.map Int.toNat))
    (hr : (Builtin.Str.occurrences rowT ⟨#[c]⟩ 0 rowT.length 1).isEmpty = true) (h3 : out.cps.toList = o.cps.toList ++ ((octI c).map Int.toNat).flatMap pctO) (h4 : out.length ≤ 3 * (octI c).length + o.length) : out.cps.toList = pctL ((pre ++ [(c : Int)]).map Int.toNat) ∧ out.length ≤ costL ((pre ++ [(c : Int)]).map Int.toNat) ∧ out.length ≤ 8000000 := by
  have hr := row_occ hr
  have hb := cost_pre hE hc
  have hcc := costC_oct hr
  have hm : (octI c).map Int.toNat = octL c := by
    unfold octI
    rw [List.map_map, Int.toNat_natCast]
    exact List.map_id'' (fun _ => rfl) _
  have hl : (octI c).length = (octL c).length := by rw [← hm, List.length_map]
  refine ⟨?_, ?_, ?_⟩
  · rw [h3, h, hm]; simp [pctL, pctC, hr]
  · rw [List.map_append, costL_append]; simp only [List.map_cons, List.map_nil, costL_cons, Int.toNat_natCast, hcc]; omega
  · omega
theorem oct_start {o : PySem.Str} : o.cps.toList = o.cps.toList ++ (([] : List Int).map Int.toNat).flatMap pctO ∧ o.length ≤ 3 * ([] : List Int).length + o.length := by simp
theorem oct_turn {o out : PySem.Str} {pre : List Int} {n : Int} (hn : 0 ≤ n ∧ n ≤ 255) (h : out.cps.toList = o.cps.toList ++ (pre.map Int.toNat).flatMap pctO) (h2 : out.length ≤ 3 * pre.length + o.length) :
    (out ++ Str.ofString "%" ++ Txt.item upperT (n.fdiv 16) ++ Txt.item upperT (n.fmod 16)).cps.toList = o.cps.toList ++ ((pre ++ [n]).map Int.toNat).flatMap pctO ∧
    (out ++ Str.ofString "%" ++ Txt.item upperT (n.fdiv 16) ++ Txt.item upperT (n.fmod 16)).length ≤ 3 * (pre ++ [n]).length + o.length := by
  have e1 : n.fdiv 16 = n / 16 := Int.fdiv_eq_ediv_of_nonneg _ (by decide)
  have e2 : n.fmod 16 = n % 16 := Int.fmod_eq_emod_of_nonneg _ (by decide)
  have i1 := hex_item (i := n.fdiv 16) (by omega) (by omega)
  have i2 := hex_item (i := n.fmod 16) (by omega) (by omega)
  have l1 : (Txt.item upperT (n.fdiv 16)).length = 1 := by rw [len_cps, i1]; rfl
  have l2 : (Txt.item upperT (n.fmod 16)).length = 1 := by rw [len_cps, i2]; rfl
  have l3 : (Str.ofString "%").length = 1 := by decide
  refine ⟨?_, ?_⟩
  · rw [cps_app, cps_app, cps_app, h, i1, i2, show (Str.ofString "%").cps.toList = [37] by decide, e1, e2]
    have a1 : (n / 16).toNat = n.toNat / 16 := by omega
    have a2 : (n % 16).toNat = n.toNat % 16 := by omega
    simp [pctO, a1, a2]
  · rw [Str.length_append, Str.length_append, Str.length_append, List.length_append, List.length_singleton]; omega
theorem code_le {x : PySem.Str} {pre post : List Int} {c : Nat} (hE : KStt.codes x = pre ++ (c : Int) :: post) (hx : ∀ c ∈ x.cps.toList, c ≤ 1114111) : c ≤ 1114111 := by
  refine hx c ?_
  rw [← codes_back x, hE]; simp
end
local macro_rules | `(tactic| walk_at "call ref") => `(tactic| (k_here; (with_reducible show wpAny _ _ (call (Value.ref 518) _) _ _ _); k_dflt (refine' octets_use ?k1 ?k2 ?k3 ?k4 ?k5 ?k6 ?k7 ?k8 ?k9 ?_; walk_at "MINE ctx"; (case k9 => exact code_le (by assumption) (by assumption)); k_whole); intro r' vs' c' h' tk' hoi' hob' hol' F' N' hn'; (try (simp only [AllNe, and_true] at hn')); (try k_sweep)))
local macro_rules | `(tactic| walk_at "subscriptTail Name BinOp str int") => `(tactic| ((with_reducible show wpAny _ _ (subscriptTail _ _ (Value.str (Str.ofString "0123456789ABCDEF") _) (Value.int (Int.fdiv _ _) _)) _ _ _); refine item_upperR (oct_of (by assumption) (by assumption)) ?_; intro _))
local macro_rules | `(tactic| walk_at "subscriptTail Name BinOp str int") => `(tactic| ((with_reducible show wpAny _ _ (subscriptTail _ _ (Value.str (Str.ofString "0123456789ABCDEF") _) (Value.int (Int.fmod _ _) _)) _ _ _); refine item_upperM (oct_of (by assumption) (by assumption)) ?_; intro _))
-- part Percent
section
theorem percent_ctr (w : World) (x : PySem.Str) (t : Tok) (hl : x.length ≤ 2500000) (hx : ∀ c ∈ x.cps.toList, c ≤ 1114111) (hc : costL x.cps.toList ≤ 8000000) :
    Ctr PySem.Challenge.rw_ah6020_01.row.prog w 2 525 [.str x t] [] (fun _ => True)
      (fun _ v own' => own' = [] ∧ ∃ y ty, v = .str y ty ∧ y.cps.toList = pctL x.cps.toList) := by
  unfold Ctr
  k_fill
  w_top off
  k_with_none
  intro p0 loose mean mg mb dp un gd cn cs a ccd cl outer A₀ base h₀ L m s Q E B F X T hk hd hu N hpre hret
  refine wpAny_call ?_
  k_dflt (walk_at "MINE enter")
  intro g' L' h' FG' F' N' B' X' T' KG hL' lt' lv
  replace F' : Fr g' L' h' (fun y => List.lookup y [(Str.ofString "text", Value.str x t)]) := F'
  generalize s.toks + List.length _ = tk0
  (try dsimp only)
  (try k_lift B')
  try k_fold
  k_with_none
  k_with "pyIter str" => k_state (fun pre out => out.cps.toList = pctL (pre.map Int.toNat) ∧ out.length ≤ costL (pre.map Int.toNat) ∧ out.length ≤ 8000000) "out"
  k_with "pyIter ref" => k_state_given ["out!"] (fun o pre out => out.cps.toList = o.cps.toList ++ (pre.map Int.toNat).flatMap pctO ∧ out.length ≤ 3 * pre.length + o.length) "out"
  k_with "state" => first
    | exact pct_start
    | exact pct_row (by assumption) hc (by assumption) (by assumption) (by assumption)
    | exact pct_oct (by assumption) hc (by assumption) (by assumption) (by assumption) (by assumption) (by assumption)
    | exact oct_start
    | exact oct_turn (oct_of (by assumption) (by assumption)) (by assumption) (by assumption)
  k_steps
  (try dsimp only)
  rename Fr g' _ _ _ => F9
  obtain ⟨a1, a2, a3, a4⟩ := lv _ _ _ [] F9 (fun _ hq => nomatch hq)
  refine hret _ _ _ _ a1 a2 a3 a4 ⟨rfl, _, _, rfl, ?_⟩
  rw [← codes_back x]; assumption
end
-- part EscapePl
section
/-- every sign c gives way to z -/
def repL (c : Nat) (z l : List Nat) : List Nat := l.flatMap fun d => if d = c then z else [d]
theorem repL_append (c : Nat) (z a b : List Nat) : repL c z (a ++ b) = repL c z a ++ repL c z b := by simp [repL]
theorem repL_free {c : Nat} {z l : List Nat} (h : c ∉ l) : repL c z l = l := by
  induction l with
  | nil => rfl
  | cons d l ih =>
    have h1 : d ≠ c := fun e => h (by simp [e])
    have h2 : c ∉ l := fun e => h (by simp [e])
    show (if d = c then z else [d]) ++ repL c z l = _
    rw [if_neg h1, ih h2]; rfl
theorem repL_join (c : Nat) (z : PySem.Str) : ∀ ps : List PySem.Str, (∀ p ∈ ps, c ∉ p.cps.toList) → repL c z.cps.toList (Str.join ⟨#[c]⟩ ps).cps.toList = (Str.join z ps).cps.toList
  | [], _ => by
    rw [show (Str.join ⟨#[c]⟩ []).cps.toList = [] by rfl, show (Str.join z []).cps.toList = [] by rfl]; rfl
  | [p], h => by
    show repL c _ p.cps.toList = p.cps.toList
    exact repL_free (h p (by simp))
  | p :: q :: r, h => by
    show repL c _ (p ++ ⟨#[c]⟩ ++ Str.join ⟨#[c]⟩ (q :: r)).cps.toList = (p ++ z ++ Str.join z (q :: r)).cps.toList
    rw [cps_app, cps_app, cps_app, cps_app, repL_append, repL_append, repL_join c z (q :: r) fun x hx => h x (by simp [hx]), repL_free (h p (by simp))]
    congr 2
    show (if c = c then z.cps.toList else [c]) ++ [] = _
    rw [if_pos rfl, List.append_nil]
theorem replace_repL (x z : PySem.Str) (c : Nat) : (Txt.replace x ⟨#[c]⟩ z).cps.toList = repL c z.cps.toList x.cps.toList := by
  have h := repL_join c z (Txt.split x ⟨#[c]⟩) (StrLaws.split_free x c)
  rw [StrLaws.join_split] at h
  rw [StrLaws.replace_one, h]
theorem repL_length (c : Nat) (z l : List Nat) : (repL c z l).length + l.count c = l.length + l.count c * z.length := by
  induction l with
  | nil => simp [repL]
  | cons d l ih =>
    have e : repL c z (d :: l) = (if d = c then z else [d]) ++ repL c z l := rfl
    rw [e, List.length_append, List.count_cons, List.length_cons]
    by_cases h : d = c
    · subst h; simp only [if_true, beq_self_eq_true, Nat.add_mul, Nat.one_mul]; omega
    · have : (d == c) = false := by simpa using h
      simp only [if_neg h, this, Bool.false_eq_true, if_false, List.length_singleton, Nat.add_zero]; omega
theorem occ_count (x z : PySem.Str) (c : Nat) (hz : 2 ≤ z.length) (he : (Builtin.Str.occurrences x ⟨#[c]⟩ 0 x.length (x.length + 1)).isEmpty = false) : (Builtin.Str.occurrences x ⟨#[c]⟩ 0 x.length (x.length + 1)).length = x.cps.toList.count c ∧
    (Builtin.Str.glued z (Builtin.Str.partsBetween x (Builtin.Str.occurrences x ⟨#[c]⟩ 0 x.length (x.length + 1)) (⟨#[c]⟩ : PySem.Str).length)).length + x.cps.toList.count c = x.length + x.cps.toList.count c * z.length := by
  have hy : (Builtin.Str.glued ⟨#[c]⟩ (Builtin.Str.partsBetween x (Builtin.Str.occurrences x ⟨#[c]⟩ 0 x.length (x.length + 1)) (⟨#[c]⟩ : PySem.Str).length)).length = x.length := by rw [StrLaws.glued_between_self]
  rw [size_glued, length_partsBetween, Nat.add_sub_cancel] at hy
  have hr := repL_length c z.cps.toList x.cps.toList
  rw [← replace_repL, ← len_cps, ← len_cps, ← len_cps] at hr
  have e : Txt.replace x ⟨#[c]⟩ z = Builtin.Str.glued z (Builtin.Str.partsBetween x (Builtin.Str.occurrences x ⟨#[c]⟩ 0 x.length (x.length + 1)) (⟨#[c]⟩ : PySem.Str).length) := by
    unfold Txt.replace
    rw [he, show ((⟨#[c]⟩ : PySem.Str).length == 0) = false from rfl, Bool.false_and, Bool.or_false, if_neg Bool.false_ne_true]
  rw [e, size_glued, length_partsBetween, Nat.add_sub_cancel] at hr
  rw [size_glued, length_partsBetween, Nat.add_sub_cancel]
  have h1 : (⟨#[c]⟩ : PySem.Str).length = 1 := rfl
  rw [h1, Nat.mul_one] at hy
  generalize (Builtin.Str.occurrences x ⟨#[c]⟩ 0 x.length (x.length + 1)).length = o at *
  rw [h1] at hr ⊢
  generalize (List.map (fun x => x.length) (Builtin.Str.partsBetween x (Builtin.Str.occurrences x ⟨#[c]⟩ 0 x.length (x.length + 1)) 1)).sum = S at *
  have hk : o = x.cps.toList.count c := by
    have hr' : o * z.length + x.cps.toList.count c = o + x.cps.toList.count c * z.length := by omega
    rcases Nat.lt_trichotomy o (x.cps.toList.count c) with h | h | h
    · exfalso
      obtain ⟨d, hd⟩ := Nat.exists_eq_add_of_lt h
      rw [hd] at hr'
      have : (o + d + 1) * z.length = o * z.length + (d + 1) * z.length := by rw [Nat.add_assoc, Nat.add_mul]
      rw [this] at hr'
      have : (d + 1) * 2 ≤ (d + 1) * z.length := Nat.mul_le_mul_left _ hz
      omega
    · exact h
    · exfalso
      obtain ⟨d, hd⟩ := Nat.exists_eq_add_of_lt h
      rw [hd] at hr'
      have : (x.cps.toList.count c + d + 1) * z.length = x.cps.toList.count c * z.length + (d + 1) * z.length := by rw [Nat.add_assoc, Nat.add_mul]
      rw [this] at hr'
      have : (d + 1) * 2 ≤ (d + 1) * z.length := Nat.mul_le_mul_left _ hz
      omega
  refine ⟨hk, ?_⟩
  rw [← hk]; omega

theorem replace_rule {prog : Program} {w : World} {A : Around} {E : Value → Shared → Prop} {s : Shared} {x y z : PySem.Str} {t u v : Tok} {Q : Value → Shared → Prop} (c : Nat) (hu : u ≠ 0) (hv : v ≠ 0) (huv : u ≠ v) (hy : y = ⟨#[c]⟩) (hyz : (y == z) = false) (hz : 2 ≤ z.length)
    (hb : x.length + x.cps.toList.count c * z.length ≤ 16777216)
    (hq : ∀ x' t' k, x'.cps.toList = repL c z.cps.toList x.cps.toList → Q (.str x' t') { s with toks := k }) : wpAny (model prog w) A (call (.builtin "str.replace") [.str x t, .str y u, .str z v]) Q E s := by
  subst hy
  have hq' : ∀ t' k, Q (.str (Txt.replace x ⟨#[c]⟩ z) t') { s with toks := k } := fun t' k => hq _ _ _ (replace_repL x z c)
  have hl : Builtin.Str.tooLong (x.length + (Builtin.Str.occurrences x ⟨#[c]⟩ 0 x.length (x.length + 1)).length * z.length) = false := by
    cases he : (Builtin.Str.occurrences x ⟨#[c]⟩ 0 x.length (x.length + 1)).isEmpty with
    | true =>
      rw [List.isEmpty_iff.mp he]
      unfold Builtin.Str.tooLong
      exact decide_eq_false (by rw [sizeLine_eq]; simp; omega)
    | false =>
      rw [(occ_count x z c hz he).1]
      unfold Builtin.Str.tooLong
      exact decide_eq_false (by rw [sizeLine_eq]; omega)
  refine call_gives F.slot_str_replace (typeIs_str _ _ _) F.entry_str_replace (F.args_str_replace_3 _ _ _)
    (gives_str_replace x ⟨#[c]⟩ z t u v fun _ => ⟨by simp [hu, hv], by simp [huv], hyz, hl⟩) ?_
  unfold Txt.replace at hq'
  cases hc : ((Builtin.Str.occurrences x ⟨#[c]⟩ 0 x.length (x.length + 1)).isEmpty || ((⟨#[c]⟩ : PySem.Str).length == 0 && z.length == 0))
  · rw [hc] at hq'
    simp only [Bool.false_eq_true, if_false] at hq' ⊢
    have he : (Builtin.Str.occurrences x ⟨#[c]⟩ 0 x.length (x.length + 1)).isEmpty = false := (Bool.or_eq_false_iff.mp hc).1
    have hg := (occ_count x z c hz he).2
    exact ⟨by rw [sizeLine_eq]; omega, hq' _ _⟩
  · rw [hc] at hq'
    simp only [if_true] at hq' ⊢
    exact hq' t s.toks
end
-- part Escape
section
theorem markC_rep (l : List Nat) : repL 34 [38, 113, 117, 111, 116, 59] (repL 62 [38, 103, 116, 59] (repL 60 [38, 108, 116, 59] (repL 38 [38, 97, 109, 112, 59] l))) = marksL l := by
  induction l with
  | nil => rfl
  | cons c l ih =>
    rw [show repL 38 [38, 97, 109, 112, 59] (c :: l) = (if c = 38 then [38, 97, 109, 112, 59] else [c]) ++ repL 38 [38, 97, 109, 112, 59] l from rfl]
    rw [repL_append, repL_append, repL_append, ih, show marksL (c :: l) = markC c ++ marksL l from rfl]
    congr 1
    unfold markC
    by_cases h1 : c = 38
    · subst h1; rfl
    by_cases h2 : c = 60
    · subst h2; rfl
    by_cases h3 : c = 62
    · subst h3; rfl
    by_cases h4 : c = 34
    · subst h4; rfl
    simp [h1, h2, h3, h4, repL]
theorem count_repL {c d : Nat} {z : List Nat} (l : List Nat) (hz : z.count d = 0) (hcd : c ≠ d) : (repL c z l).count d = l.count d := by
  induction l with
  | nil => rfl
  | cons e l ih =>
    rw [show repL c z (e :: l) = (if e = c then z else [e]) ++ repL c z l from rfl, List.count_append, ih, List.count_cons]
    by_cases h : e = c
    · subst h
      have : (e == d) = false := by simpa using hcd
      rw [if_pos rfl, hz, this]; simp
    · rw [if_neg h]
      simp [List.count_cons]; omega
theorem count_two (l : List Nat) {a b : Nat} (h : a ≠ b) : l.count a + l.count b ≤ l.length := by
  induction l with
  | nil => simp
  | cons e l ih =>
    rw [List.count_cons, List.count_cons, List.length_cons]
    by_cases h1 : e = a
    · subst h1
      have : (e == b) = false := by simpa using h
      simp [this]; omega
    · have : (e == a) = false := by simpa using h1
      simp only [this, Bool.false_eq_true, if_false]
      split <;> omega
theorem count_sum (l : List Nat) : l.count 38 + l.count 60 + l.count 62 + l.count 34 ≤ l.length := by
  induction l with
  | nil => simp
  | cons e l ih =>
    simp only [List.count_cons, List.length_cons]
    by_cases h1 : e = 38
    · subst h1; simp; omega
    by_cases h2 : e = 60
    · subst h2; simp; omega
    by_cases h3 : e = 62
    · subst h3; simp; omega
    by_cases h4 : e = 34
    · subst h4; simp; omega
    simp [h1, h2, h3, h4]; omega

section
variable {x x1 x2 x3 x4 : PySem.Str}
abbrev ampT : PySem.Str := Str.ofString "&amp;"
abbrev ltT : PySem.Str := Str.ofString "&lt;"
abbrev gtT : PySem.Str := Str.ofString "&gt;"
abbrev quotT : PySem.Str := Str.ofString "&quot;"
theorem ampT_e : ampT.cps.toList = [38, 97, 109, 112, 59] := by decide
theorem ltT_e : ltT.cps.toList = [38, 108, 116, 59] := by decide
theorem gtT_e : gtT.cps.toList = [38, 103, 116, 59] := by decide
theorem quotT_e : quotT.cps.toList = [38, 113, 117, 111, 116, 59] := by decide
theorem esc_1 (hl : x.length ≤ 2300000) : x.length + x.cps.toList.count 38 * ampT.length ≤ 16777216 := by
  have h := count_sum x.cps.toList
  rw [← len_cps] at h
  rw [show ampT.length = 5 by decide]; omega
theorem esc_2 (hl : x.length ≤ 2300000) (h1 : x1.cps.toList = repL 38 ampT.cps.toList x.cps.toList) : x1.length + x1.cps.toList.count 60 * ltT.length ≤ 16777216 := by
  have h := count_sum x.cps.toList
  have r1 := repL_length 38 ampT.cps.toList x.cps.toList
  rw [ampT_e] at h1 r1
  rw [← h1] at r1
  have c1 : x1.cps.toList.count 60 = x.cps.toList.count 60 := by rw [h1]; exact count_repL _ (by decide) (by decide)
  rw [← len_cps] at h r1
  simp only [← len_cps, List.length_cons, List.length_nil] at r1
  rw [show ltT.length = 4 by decide, c1]; omega
theorem esc_3 (hl : x.length ≤ 2300000) (h1 : x1.cps.toList = repL 38 ampT.cps.toList x.cps.toList) (h2 : x2.cps.toList = repL 60 ltT.cps.toList x1.cps.toList) : x2.length + x2.cps.toList.count 62 * gtT.length ≤ 16777216 := by
  have h := count_sum x.cps.toList
  have r1 := repL_length 38 ampT.cps.toList x.cps.toList
  have r2 := repL_length 60 ltT.cps.toList x1.cps.toList
  rw [ampT_e] at h1 r1
  rw [ltT_e] at h2 r2
  rw [← h1] at r1
  rw [← h2] at r2
  have c1 : x1.cps.toList.count 60 = x.cps.toList.count 60 := by rw [h1]; exact count_repL _ (by decide) (by decide)
  have c2 : x2.cps.toList.count 62 = x.cps.toList.count 62 := by rw [h2, h1]; rw [count_repL _ (by decide) (by decide), count_repL _ (by decide) (by decide)]
  rw [← len_cps] at h
  simp only [← len_cps, List.length_cons, List.length_nil] at r1 r2
  rw [show gtT.length = 4 by decide, c2]; omega
theorem esc_4 (hl : x.length ≤ 2300000) (h1 : x1.cps.toList = repL 38 ampT.cps.toList x.cps.toList) (h2 : x2.cps.toList = repL 60 ltT.cps.toList x1.cps.toList) (h3 : x3.cps.toList = repL 62 gtT.cps.toList x2.cps.toList) : x3.length + x3.cps.toList.count 34 * quotT.length ≤ 16777216 := by
  have h := count_sum x.cps.toList
  have r1 := repL_length 38 ampT.cps.toList x.cps.toList
  have r2 := repL_length 60 ltT.cps.toList x1.cps.toList
  have r3 := repL_length 62 gtT.cps.toList x2.cps.toList
  rw [ampT_e] at h1 r1
  rw [ltT_e] at h2 r2
  rw [gtT_e] at h3 r3
  rw [← h1] at r1
  rw [← h2] at r2
  rw [← h3] at r3
  have c1 : x1.cps.toList.count 60 = x.cps.toList.count 60 := by rw [h1]; exact count_repL _ (by decide) (by decide)
  have c2 : x2.cps.toList.count 62 = x.cps.toList.count 62 := by rw [h2, h1]; rw [count_repL _ (by decide) (by decide), count_repL _ (by decide) (by decide)]
  have c3 : x3.cps.toList.count 34 = x.cps.toList.count 34 := by rw [h3, h2, h1]; rw [count_repL _ (by decide) (by decide), count_repL _ (by decide) (by decide), count_repL _ (by decide) (by decide)]
  rw [← len_cps] at h
  simp only [← len_cps, List.length_cons, List.length_nil] at r1 r2 r3
  rw [show quotT.length = 6 by decide, c3]; omega
theorem esc_end (h1 : x1.cps.toList = repL 38 ampT.cps.toList x.cps.toList) (h2 : x2.cps.toList = repL 60 ltT.cps.toList x1.cps.toList) (h3 : x3.cps.toList = repL 62 gtT.cps.toList x2.cps.toList) (h4 : x4.cps.toList = repL 34 quotT.cps.toList x3.cps.toList) : x4.cps.toList = marksL x.cps.toList := by
  rw [h4, h3, h2, h1, ampT_e, ltT_e, gtT_e, quotT_e]; exact markC_rep _
end

theorem gen_toks_cons {M : Model} {A : Around} {E : Value → Shared → Prop} {Q : Flow → Shared → Prop} {st : Stmt} {rest : List Stmt} {env : Env} {h : Heap} {g : Array GenState} {d : Drawn} {t : Nat} {o : OsState} (ht : 0 < t)
    (k : ∀ tk, 0 < tk → wpAny M A (exec st env) (fun f s₁ => match f with | .next => wpAny M A (execs rest env) Q E s₁ | f => Q f s₁) E ⟨h, g, d, tk, o⟩) : wpAny M A (execs (st :: rest) env) Q E ⟨h, g, d, t, o⟩ :=
  wpAny_execs_cons (k t ht)

section
local macro_rules | `(tactic| walk_at "execs cons") => `(tactic| ((refine' gen_toks_cons ?p ?_); (case p => omega); intro tk' htk'; (try dsimp only)))
theorem escape_ctr (w : World) (x : PySem.Str) (t : Tok) (hl : x.length ≤ 2300000) :
    Ctr PySem.Challenge.rw_ah6020_01.row.prog w 1 137 [.str x t] [] (fun _ => True)
      (fun _ v own' => own' = [] ∧ ∃ y ty, v = .str y ty ∧ y.cps.toList = marksL x.cps.toList) := by
  unfold Ctr
  k_fill
  w_top off
  k_with_none
  intro p0 loose mean mg mb dp un gd cn cs a ccd cl outer A₀ base h₀ L m s Q E B F X T hk hd hu N hpre hret
  refine wpAny_call ?_
  k_dflt (walk_at "MINE enter")
  intro g' L' h' FG' F' N' B' X' T' KG hL' lt' lv
  generalize hT : s.toks + List.length _ = tk0
  have htk0 : 0 < tk0 := by rw [← hT]; exact (Nat.lt_of_lt_of_le Nat.zero_lt_two (Nat.le_add_left 2 s.toks) : 0 < s.toks + 2)
  clear hT
  (try dsimp only)
  (try k_lift B')
  try k_fold
  k_with_none
  k_with "call builtin:str.replace" =>
    with_reducible show wpAny _ _ (call (Value.builtin "str.replace") [Value.str _ _, Value.str _ _, Value.str _ _]) _ _ _
    first
    | (refine' replace_rule 38 ?hu ?hv ?huv ?hy ?hyz ?hz ?hb ?_; (case hu => (refine neN ?_; omega)); (case hv => (refine neN ?_; omega)); (case huv => (refine neN ?_; omega)); (case hy => decide); (case hyz => decide); (case hz => decide); (case hb => exact esc_1 hl); (intro x1 t1 k1 h1))
    | (refine' replace_rule 60 ?hu ?hv ?huv ?hy ?hyz ?hz ?hb ?_; (case hu => (refine neN ?_; omega)); (case hv => (refine neN ?_; omega)); (case huv => (refine neN ?_; omega)); (case hy => decide); (case hyz => decide); (case hz => decide); (case hb => exact esc_2 hl (by assumption)); (intro x1 t1 k1 h1))
    | (refine' replace_rule 62 ?hu ?hv ?huv ?hy ?hyz ?hz ?hb ?_; (case hu => (refine neN ?_; omega)); (case hv => (refine neN ?_; omega)); (case huv => (refine neN ?_; omega)); (case hy => decide); (case hyz => decide); (case hz => decide); (case hb => exact esc_3 hl (by assumption) (by assumption)); (intro x1 t1 k1 h1))
    | (refine' replace_rule 34 ?hu ?hv ?huv ?hy ?hyz ?hz ?hb ?_; (case hu => (refine neN ?_; omega)); (case hv => (refine neN ?_; omega)); (case huv => (refine neN ?_; omega)); (case hy => decide); (case hyz => decide); (case hz => decide); (case hb => exact esc_4 hl (by assumption) (by assumption) (by assumption)); (intro x1 t1 k1 h1))
  k_steps
  (try dsimp only)
  rename Fr g' _ _ _ => F9
  obtain ⟨a1, a2, a3, a4⟩ := lv _ _ _ [] F9 (fun _ hq => nomatch hq)
  refine hret _ _ _ _ a1 a2 a3 a4 ⟨rfl, _, _, rfl, ?_⟩
  exact esc_end (by assumption) (by assumption) (by assumption) (by assumption)
end
end
-- part QuoteC
section
section
variable {prog : Program} {w : World} {A₀ A : Around} {s : Shared} {base h₀ : Heap} {outer : List Env} {L : Addr} {m : Str → Option Value} {env : Env} {news : List (Addr × Obj)} {K : Frag} {p : Program} {loose : List Str} {mean : ExcName → Option Value} {mg mb : Str → Option Value}
  {R : Result → Shared → Prop} {name qual : Str} {params : Arguments} {body : List Stmt} {scope : Scope} {dV kV doc pm cdv ct oc : Value} {an od : Option Addr} {osl : Array (Option Value)} {f : Addr} {args : Args} {binds : List (Str × Value)}
/-- entering a def with cells -/
theorem code_ownC (B : Below A₀ base outer h₀) (F : Fr h₀ L s.heap m) (X₀ : K.In h₀) (N : News h₀ L s.heap news) (T : Top p loose mean mg mb h₀) (hA : A.frames = some (env :: outer)) (hf : env.frame = some L) (hke : env.scope.kind = .function)
    (ho : K.lookup f = some ⟨oc, od, .func (fnOf name qual params body scope dV kV doc pm an cdv ct), osl⟩) (hcd : codeIn K cdv qual = true) (hroom : A.depth < recursionLimit)
    (hbind : BindsTo s (fnOf name qual params body scope dV kV doc pm an cdv ct) args binds) (hkind : (binds.all fun y => scope.names.lookup y.1 == some .local || scope.names.lookup y.1 == some .cell) = true)
    (hnd : ((cellsFrom 0 scope.names []).map (·.1)).Nodup)
    (h : ∀ g L' h₁ tk cells, Fr h₀ L g m → Fr g L' h₁ (bindL (envOfC qual scope L' f cdv).kindOf binds fun _ => none) → News g L' h₁ (cells ++ news) →
      CellsAre (bindC (envOfC qual scope L' f cdv).kindOf binds fun _ => none) (cellsFrom (L' + 1) scope.names []) cells → Below A base (env :: outer) g → K.In g → Top p loose mean mg mb g →
      Keeps news s.heap g → L' = s.heap.objs.size → (∀ p ∈ news, p.1 < L') → LeaveG news h₀ L m s.heap g →
      wpAny (model prog w) (A.deeper (envOfC qual scope L' f cdv)) (execs body (envOfC qual scope L' f cdv))
        (fun fl s' => R (.ok (.ret (match fl with | .ret v => v | _ => .none))) s')
        (fun e s' => wpAny (model prog w) (A.deeper (envOfC qual scope L' f cdv)) (leaving (envOfC qual scope L' f cdv) e) (fun _ s'' => R (.error e) s'') (fun e' s'' => R (.error e') s'') s')
        { s with heap := h₁, toks := tk })
    (hco : scope.isCoroutine = false) (hgen : scope.isGenerator = false) (hk : scope.kind = .function) : codeAny (model prog w) A (.call (.ref f) args) R s := by
  obtain ⟨FG, BG, st, lv⟩ := groundX (R := R) B F N hA hf hke
  refine codeAny_call_function hroom ((X₀.keeps F.keep) _ _ ho) rfl hco hgen rfl (codeRec_of (X₀.keeps F.keep) hcd) (hbind _ _ _ _ ?_)
  refine wpAny_newFunctionEnv_cells hk (kindsX hkind _) fun env' he s' x => ?_
  subst he
  refine ⟨((T.nolimit.keeps F.keep)).keeps x.toInCall.keep, codeAny_func ?_⟩
  obtain ⟨h₁, tk, rfl, _⟩ := x.done
  have hk₁ := x.toInCall.keep
  obtain ⟨cells, NC, Y⟩ := Cl.news (h₀ := s.heap) (Nat.le_refl _) fun n c hm => ⟨x.cell n c (lookup_of_mem_nodup (cellsFrom_names scope.names 0 (s.heap.objs.size + 1) [] [] rfl ▸ hnd) hm), x.above n c hm⟩
  have KG : ∀ b o, s.heap.get? b = some o → b ∉ news.map (·.1) → (hideAll s.heap (news.map (·.1))).get? b = some o := fun b o e n => hideAll_get _ e n
  refine h _ s.heap.objs.size h₁ tk cells FG ⟨x.toInCall.ns, fun b o e => hk₁ b o (of_hideAll _ e), Nat.le_of_eq (hideAll_size _ _)⟩ (fun p hp => ?_) Y BG (X₀.keeps st) (T.keeps st) KG rfl (fun p hp => Heap.lt_size (N p hp).1) ?_
  · rcases List.mem_append.mp hp with hp | hp
    · refine ⟨(NC p hp).1, (NC p hp).2.1, ?_⟩
      cases q : (hideAll s.heap (news.map (·.1))).get? p.1 with
      | none => rfl
      | some o => have := of_hideAll _ q; rw [(NC p hp).2.2] at this; cases this
    · exact ⟨hk₁ _ _ (N p hp).1, Nat.ne_of_lt (Heap.lt_size (N p hp).1), hideAll_none _ (List.mem_map_of_mem hp)⟩
  intro h' L'' m' own' F' N'
  have st' : h₀.StaysIn h' := fun b o e => F'.keep b o (st b o e)
  obtain ⟨oL, es, ep, hL, hLd, hLk, hLf⟩ := F.ns
  have nL : L ∉ news.map (·.1) := fun q => by
    obtain ⟨p, hp, e⟩ := List.mem_map.mp q
    exact (N p hp).2.1 e
  have hLg := hideAll_get (news.map (·.1)) hL nL
  refine ⟨⟨⟨oL, es, ep, F'.keep L oL hLg, hLd, hLk, hLf⟩, st', F.above⟩, fun p hp => ⟨(N' p hp).1, fun q => ?_, ?_⟩, fun b o e n => F'.keep b o (KG b o e n), fun q hq => ?_⟩
  · have := (N' p hp).2.2; rw [q, hLg] at this; cases this
  · cases q : h₀.get? p.1 with
    | none => rfl
    | some o => have := (N' p hp).2.2; rw [st _ _ q] at this; cases this
  · by_cases hm : q.1 ∈ news.map (·.1)
    · exact .inl hm
    · refine .inr ?_
      cases e : s.heap.get? q.1 with
      | none => rfl
      | some o => have := (N' q hq).2.2; rw [KG _ _ e hm] at this; cases this
end
end
local macro_rules | `(tactic| walk_at "MINE enterC") => `(tactic| (refine' code_ownC ?k1 ?k2 ?k3 ?k4 ?k5 ?kA ?kF ?kK ?k6 ?k7 ?k8 ?k9 ?kB ?kD ?_ ?c2 ?c3 ?c4; (case kA => exact rfl); (case kF => exact rfl); (case kK => assumption); (case k1 => k_asm); (case k2 => k_asm); (case k3 => k_asm); (case k4 => k_asm); (case k5 => k_asm); (case k6 => k_is); (case k7 => k_is); (case k8 => ktr_room); (case k9 => first | exact BindsTo.of_eq rfl | exact binds_K (by k_in) rfl (by k_is) rfl rfl rfl); (case kB => exact rfl); (case kD => decide +kernel); (case c2 => exact rfl); (case c3 => exact rfl); (case c4 => exact rfl); k_whole))
-- part LcW
section
open LCg
section
variable {prog : Program} {w : World} {A : Around} {E : Value → Shared → Prop} {s : Shared} {h₀ : Heap} {L : Addr} {m : Str → Option Value} {env : Env}
/-- the iterable is any value whose iterator is one fresh object -/
def SrcW (prog : Program) (w : World) (A : Around) (h₀ : Heap) (L : Addr) (m : Str → Option Value) (env : Env) (elt : PySem.Expr) (x : Str) (scope : Scope) (cl : List (Str × Addr)) (Fin : Shared → List Value → List (Addr × Obj) → Prop) (xv : Value) (s₁ : Shared) : Prop :=
  ∃ (n : Nat) (P : Nat → Value → Prop) (news : List (Addr × Obj)), A.handled = none ∧ Fr h₀ L s₁.heap m ∧ News h₀ L s₁.heap news ∧ n ≤ sizeLine ∧
    (∀ (Q' E' : Value → Shared → Prop), (∀ (o : Obj) (St : Nat → Heap → Prop), Walks prog w A s₁.heap.objs.size [s₁.heap.objs.size] [s₁.heap.objs.size] n P St → (∀ i h, St i h → ∃ o, h.get? s₁.heap.objs.size = some o) → St 0 (s₁.heap.push o) →
      Q' (.ref s₁.heap.objs.size) { s₁ with heap := s₁.heap.push o }) → wpAny (model prog w) A (pyIter xv) Q' E' s₁) ∧
    ∀ s₂ : Shared, (∃ h, s₂ = { s₁ with heap := h }) → CompRest prog w A h₀ L m env elt x scope cl s₂ (fun _ => True) P (Fin s₂) n 0 [] news

theorem ListComp_W {elt iter : PySem.Expr} {x : Str} {px : Pos} {scope : Scope} {cl : List (Str × Addr)} {pos : Pos} {Q : Value → Shared → Prop} (F₀ : Fr h₀ L s.heap m)
    (hclos : closureFor scope env = pure cl) (hcell : ∀ y ∈ scope.names, y.2 ≠ .cell) (hkind : scope.kind = .function)
    (hnames : ∀ y ∈ scope.names, y.2 = .local → scope.names.lookup y.1 = some .local) (hx : scope.names.lookup x = some .local)
    (h : wpAny (model prog w) A (eval iter env) (SrcW prog w A h₀ L m env elt x scope cl (fun s₂ => FinE h₀ L m s₂ Q)) E s)
    (hs : ∀ x, foldedSetIterable iter env x = pure x := by intro _; rfl) :
    wpAny (model prog w) A (eval (.ListComp elt [⟨.Name x px, iter, [], 0⟩] scope pos) env) Q E s := by
  rw [eval_ListComp]
  refine wpAny_comprehension_free (use := none) rfl hs hclos hkind hnames (wpAny_mono h (fun xv s₁ h₁ => ?_) fun _ _ e => e)
  obtain ⟨n, P, news, hh, F, N, hsz, it, R⟩ := h₁
  refine it _ _ fun o St W hIo st0 => ?_
  have up : ∀ b ob, s₁.heap.get? b = some ob → (s₁.heap.push o).get? b = some ob := fun b ob e => Heap.get?_push_of_some _ e
  refine block_U W hsz hIo (fun i g g' ob nw st e e' _ _ _ => W.frame i g g' st fun b hb ob' e2 => ?_) hcell hkind hx st0 (fun b hb => ?_)
    (F.keeps up) (N.grown up) (Nat.ne_of_lt F.ns.lt) (next_is_new F) (fun p hp => Nat.ne_of_lt (Heap.lt_size (N p hp).1)) trivial (R _ ⟨_, rfl⟩) ?_
  · rw [List.mem_singleton.mp hb] at e2 ⊢; rw [e] at e2; cases e2; exact e'
  · rw [List.mem_singleton.mp hb]
    show s₁.heap.objs.size < (s₁.heap.push _).objs.size
    rw [Heap.size_push]; exact Nat.lt_succ_self _
  · intro D C h tk m' ys news' F' N' o1 hn hC₀ hD₀ hCL hDL hCD offC fin
    refine ⟨m', hn, fun h'' hs'' => fin D h'' tk (F'.change hs'' hCL hC₀) (fun p hp => ?_) o1⟩
    refine ⟨hs''.extBut _ _ ?_ (N' p hp).1, (N' p hp).2⟩
    rcases List.mem_cons.mp hp with rfl | hp
    · exact Ne.symm hCD
    · exact offC p hp

theorem Assign_ListComp_W {elt iter : PySem.Expr} {x y : Str} {px py : Pos} {scope : Scope} {cl : List (Str × Addr)} {pos spos : Pos} {Q : Flow → Shared → Prop} (F₀ : Fr h₀ L s.heap m) (hLe : env.locals = L)
    (hsw : swapsWith (.ListComp elt [⟨.Name x px, iter, [], 0⟩] scope pos) (some (.Name y py)) spos.line env = pure true)
    (hclos : closureFor scope env = pure cl) (hcell : ∀ z ∈ scope.names, z.2 ≠ .cell) (hkind : scope.kind = .function)
    (hnames : ∀ z ∈ scope.names, z.2 = .local → scope.names.lookup z.1 = some .local) (hx : scope.names.lookup x = some .local)
    (hy : env.kindOf y = some .local) (hp : (env.scope.kind == .class || (env.scope.kind == .module && env.locals != env.globals)) = false)
    (h : wpAny (model prog w) A (eval iter env) (SrcW prog w A h₀ L m env elt x scope cl (fun s₂ => FinA h₀ L m s₂ y Q)) E s)
    (hs : ∀ x, foldedSetIterable iter env x = pure x := by intro _; rfl) :
    wpAny (model prog w) A (exec (.Assign [.Name y py] (.ListComp elt [⟨.Name x px, iter, [], 0⟩] scope pos) spos) env) Q E s := by
  subst hLe
  rw [exec_Assign_Name_used _ _ _ _ hsw]
  refine wpAny_bind (wpAny_standAt (wpAny_bind ?_))
  show wpAny _ A (do let _ ← comprehension (.ListComp elt [⟨.Name x px, iter, [], 0⟩] scope pos) scope env _ (newList []) false (eval iter env) (some (assign (.Name y py) env))) _ _ s
  refine wpAny_bind (wpAny_mono (wpAny_comprehension_free (use := some (assign (.Name y py) env)) (Q := fun _ s' => Q .next s') rfl hs hclos hkind hnames
    (wpAny_mono h (fun xv s₁ h₁ => ?_) fun _ _ e => e)) (fun _ s' hq => wpAny_pure (wpAny_pure hq)) fun _ _ e => e)
  obtain ⟨n, P, news, hh, F, N, hsz, it, R⟩ := h₁
  refine it _ _ fun o St W hIo st0 => ?_
  have up : ∀ b ob, s₁.heap.get? b = some ob → (s₁.heap.push o).get? b = some ob := fun b ob e => Heap.get?_push_of_some _ e
  refine block_U W hsz hIo (fun i g g' ob nw st e e' _ _ _ => W.frame i g g' st fun b hb ob' e2 => ?_) hcell hkind hx st0 (fun b hb => ?_)
    (F.keeps up) (N.grown up) (Nat.ne_of_lt F.ns.lt) (next_is_new F) (fun p hp => Nat.ne_of_lt (Heap.lt_size (N p hp).1)) trivial (R _ ⟨_, rfl⟩) ?_
  · rw [List.mem_singleton.mp hb] at e2 ⊢; rw [e] at e2; cases e2; exact e'
  · rw [List.mem_singleton.mp hb]
    show s₁.heap.objs.size < (s₁.heap.push _).objs.size
    rw [Heap.size_push]; exact Nat.lt_succ_self _
  · intro D C h' tk m' ys news' F' N' o1 hn hC₀ hD₀ hCL hDL hCD offC fin
    show wpAny _ A (assign (.Name y py) env (.ref D)) _ _ _
    refine wpAny_assign_Name (wpAny_storeName_local hy F'.ns (fun h₂ hn₂ hs₂ => ?_) hp)
    have hL₀ : h₀.get? env.locals = none := Heap.get?_none_of_le F'.above
    have F₂ : Fr h₀ env.locals h₂ (fun z => if z = y then some (.ref D) else m z) := ⟨hn₂, fun b o e => hs₂.extBut b o (fun q => by rw [q, hL₀] at e; cases e) (F'.keep b o e), F'.above⟩
    refine ⟨m', hn.sameBut hs₂ hCL, fun h'' hs'' => fin D h'' _ (F₂.change hs'' hCL hC₀) (fun p hp => ?_) o1⟩
    have z : h₂.get? p.1 = some p.2 := hs₂.extBut _ _ (N' p hp).2.1 (N' p hp).1
    refine ⟨hs''.extBut _ _ ?_ z, (N' p hp).2⟩
    rcases List.mem_cons.mp hp with rfl | hp
    · exact Ne.symm hCD
    · exact offC p hp

/-- the turns: each turn's value is good, the ledger stays -/
theorem rest_all {elt : PySem.Expr} {x : Str} {scope : Scope} {cl : List (Str × Addr)} {P : Nat → Value → Prop} {Fin : List Value → List (Addr × Obj) → Prop} {n : Nat} {news : List (Addr × Obj)} (G : Nat → Value → Prop)
    (turn : ∀ i v I oI C oC D m₂ ys h tk (E' : Value → Shared → Prop), i < n → P i v → NsObj oC m₂ → m₂ x = some v → Fr h₀ L h m → News h₀ L h ((I, oI) :: (C, oC) :: (D, lst ys) :: news) → Off3 I C D news → ((@Ne Nat I C) ∧ (@Ne Nat I D) ∧ (@Ne Nat C D)) →
      wpAny (model prog w) A (eval elt (compEnvC scope cl C env)) (fun y s₂ => ∃ h' tk, s₂ = { s with heap := h', toks := tk } ∧ Fr h₀ L h' m ∧ News h₀ L h' ((I, oI) :: (C, oC) :: (D, lst ys) :: news) ∧ G i y) E' { s with heap := h, toks := tk })
    (fin : ∀ ys : List Value, ys.length = n → (∀ i y, ys[i]? = some y → G i y) → Fin ys news) : CompRest prog w A h₀ L m env elt x scope cl s (fun _ => True) P Fin n 0 [] news := by
  have key : ∀ (j i : Nat) (ys : List Value), i + j = n → ys.length = i → (∀ i y, ys[i]? = some y → G i y) → CompRest prog w A h₀ L m env elt x scope cl s (fun _ => True) P Fin j i ys news := by
    intro j
    induction j with
    | zero =>
      intro i ys hi hl hy
      exact CompRest.zero (fin ys (by omega) hy)
    | succ j ih =>
      intro i ys hi hl hy
      refine CompRest.succ ?_
      intro v I oI C oC D m₂ h tk E' hv hC hx F N off ne
      refine wpAny_mono (turn i v I oI C oC D m₂ ys h tk E' (by omega) hv hC hx F N off ne) (fun y s₂ hq => ?_) fun _ _ e => e
      obtain ⟨h', tk', e, F', N', hg⟩ := hq
      refine ⟨h', tk', news, e, F', N', off, trivial, ?_⟩
      refine ih (i + 1) _ (by omega) (by rw [List.length_append, List.length_singleton, hl]) fun k z hk => ?_
      rcases Nat.lt_or_ge k ys.length with q | q
      · rw [List.getElem?_append_left q] at hk; exact hy k z hk
      · rw [List.getElem?_append_right q] at hk
        have : k - ys.length = 0 := by
          rcases Nat.eq_zero_or_pos (k - ys.length) with r | r
          · exact r
          · rw [List.getElem?_eq_none (by simp only [List.length_singleton]; omega)] at hk; cases hk
        rw [this] at hk
        have e : k = i := by omega
        subst e
        simp at hk; subst hk; exact hg
  exact key n 0 [] (by omega) rfl (by simp)

theorem srcW_str {elt : PySem.Expr} {x : Str} {scope : Scope} {cl : List (Str × Addr)} {Fin : Shared → List Value → List (Addr × Obj) → Prop} {t : PySem.Str} {u : Tok} {news : List (Addr × Obj)} {s₁ : Shared}
    (hh : A.handled = none) (F : Fr h₀ L s₁.heap m) (N : News h₀ L s₁.heap news) (hsz : t.cps.size ≤ sizeLine)
    (h : ∀ g, CompRest prog w A h₀ L m env elt x scope cl { s₁ with heap := g } (fun _ => True) (SignAt t) (Fin { s₁ with heap := g }) t.cps.size 0 [] news) :
    SrcW prog w A h₀ L m env elt x scope cl Fin (.str t u) s₁ := by
  refine ⟨t.cps.size, SignAt t, news, hh, F, N, hsz, fun Q' E' k => ?_, fun s₂ e => by obtain ⟨g, rfl⟩ := e; exact h g⟩
  cases ha : t.cps.all (· < 128)
  · exact wpAny_pyIter_wide ha (k _ _ (Walks.strWide hh _ t u) (fun i g st => by obtain ⟨o, e, _⟩ := st; exact ⟨o, e⟩) ⟨_, Heap.get?_push_size _ rfl, rfl, rfl⟩)
  · exact wpAny_pyIter_ascii ha (k _ _ (Walks.strAscii hh _ t u) (fun i g st => by obtain ⟨o, e, _⟩ := st; exact ⟨o, e⟩) ⟨_, Heap.get?_push_size _ rfl, rfl, rfl⟩)

theorem srcW_bytes {elt : PySem.Expr} {x : Str} {scope : Scope} {cl : List (Str × Addr)} {Fin : Shared → List Value → List (Addr × Obj) → Prop} {b : Array UInt8} {u : Tok} {news : List (Addr × Obj)} {s₁ : Shared}
    (hh : A.handled = none) (F : Fr h₀ L s₁.heap m) (N : News h₀ L s₁.heap news) (hsz : b.size ≤ sizeLine)
    (h : ∀ g, CompRest prog w A h₀ L m env elt x scope cl { s₁ with heap := g } (fun _ => True) (fun i v => ∃ c u, b[i]? = some c ∧ v = .int (c.toNat : Int) u) (Fin { s₁ with heap := g }) b.size 0 [] news) :
    SrcW prog w A h₀ L m env elt x scope cl Fin (.bytes b u) s₁ := by
  refine ⟨b.size, _, news, hh, F, N, hsz, fun Q' E' k => ?_, fun s₂ e => by obtain ⟨g, rfl⟩ := e; exact h g⟩
  refine KBw.pyIter_bytes (k _ _ (KBw.walks hh _ b u) (fun i g st => by obtain ⟨o, e, _⟩ := st; exact ⟨o, e⟩) ⟨_, Heap.get?_push_size _ rfl, rfl, rfl⟩)
end
end
-- part Enc
section
open Builtin Builtin.Str in
theorem enc_one (self : Value) (c : Nat) (hs : ¬ (55296 ≤ c ∧ c ≤ 57343)) : _codecs.encodeNarrow "str.encode" _codecs.utf8Codec none self ⟨#[c]⟩ = pure (Str.utf8Of c).toArray := by
  have hb : _codecs.utf8Codec.bad c = false := by
    show Str.isSurrogate c = false
    simp only [Str.isSurrogate, Bool.and_eq_false_iff, decide_eq_false_iff_not]
    omega
  unfold _codecs.encodeNarrow
  simp [hb, Str.length, Std.Legacy.Range.forIn_eq_forIn_range', List.range']
  simp [sizeLine, List.findIdx?, hb, List.findIdx?.go, _codecs.utf8Codec]

open Builtin Builtin.Str in
theorem enc_tree2 (x : PySem.Str) (t u : Tok) : «str.encode» ⟨[.str x t, .str (Str.ofString "utf-8") u], []⟩ = (do ret (← _codecs.encodeRoad "str.encode" (.str x t) x (Str.ofString "utf-8") none)) := by kernel_rfl
open Builtin Builtin.Float in
theorem hexU_field : ∀ n : Fin 256, intField' { fill := 48, align := 61, width := some 2, type := some 88 } (decide ((n.val : Int) < 0)) [] ((Nat.toDigits 16 (n.val : Int).natAbs).map fun c => (if (88 : Nat) == 88 then c.toUpper else c).toNat) [] 4 = ⟨#[hexU (n.val / 16), hexU (n.val % 16)]⟩ := by decide +kernel
section
variable {prog : Program} {w : World} {A : Around} {E : Value → Shared → Prop} {s : Shared}
open Builtin Builtin.Str in
theorem enc_call {c : Nat} {t u : Tok} {Q : Value → Shared → Prop} (hs : ¬ (55296 ≤ c ∧ c ≤ 57343)) (h : ∀ t' k, Q (.bytes (Str.utf8Of c).toArray t') { s with toks := k }) :
    wpAny (model prog w) A (call (.builtin "str.encode") [.str ⟨#[c]⟩ t, .str (Str.ofString "utf-8") u]) Q E s := by
  refine wpAny_call (codeAny_call_builtin F.slot_str_encode.plain F.entry_str_encode (F.slot_str_encode.check _ _ _ _ _ _ _ _ (typeIs_str _ _ _) (F.args_str_encode_2 _ _) ?_))
  rw [enc_tree2, encodeRoad_utf8, enc_one _ _ hs]
  show wpAny _ _ (mkBytes (Str.utf8Of c).toArray >>= _) _ _ s
  refine wpAny_bind (wpAny_mkBytes (wpAny_pure (h _ _)) ?_)
  have : (Str.utf8Of c).toArray.size ≤ 4 := by
    unfold Str.utf8Of
    repeat' split
    all_goals simp
  exact Nat.le_trans this (by decide)

open Builtin Builtin.Str Builtin.Int in
theorem fmt_02X {n : Nat} {t : Tok} {Q : Value → Shared → Prop} (hn : n < 256)
    (h : ∀ t' k, Q (.str ⟨#[hexU (n / 16), hexU (n % 16)]⟩ t') { s with toks := k }) : wpAny (model prog w) A (formatField (.int (n : Int) t) (Str.ofString "02X")) Q E s := by
  show wpAny _ _ (holding [.int n t] (pyFormat (.int n t) (Str.ofString "02X"))) _ _ _
  refine wpAny_holding ?_
  unfold pyFormat
  refine wpAny_bind (wpAny_mkStr ?_ (by decide))
  refine wpAny_bind (m := callSpecial? (.int n t) (Str.ofString "__format__") [.str (Str.ofString "02X") s.toks]) (wpAny_callSpecial?_slot (name := Str.ofString "__format__") (typeIs_int _ n t) F.slot_int_format ?_)
  refine wpAny_call (codeAny_call_builtin F.slot_int_format.plain F.entry_int_format (F.slot_int_format.check _ _ _ _ _ _ _ _ (typeIs_int _ n t) (F.args_int_format_2 _ _) ?_))
  unfold Builtin.«int.__format__»
  simp only [selfAndOne, noKeywords, Int.intOfSelf, asInt?, asStr?, List.isEmpty_nil, if_true, pure_bind, bind_pure, bind_assoc, Bool.false_eq_true, if_false,
    show (Value.str (Str.ofString "02X") s.toks == Value.none) = false from rfl]
  refine wpAny_bind (wpAny_typeNameOf (T := "str") (typeIs_str _ _ _) (by decide) fun _ => ?_)
  rw [if_neg (by decide), if_neg (by decide)]
  refine wpAny_bind (wpAny_typeNameOfCut_int ?_)
  obtain ⟨f, hp, hty, hpr, hz, hal, hw, hgr, hsg, hf⟩ : ∃ f : Float.FormatSpec, (∀ name, Float.parseFormatSpec (Str.ofString "02X").cps.toList name 62 = .ok f) ∧ f.type = some 88 ∧ f.precision = none ∧ f.noNeg0 = false ∧ f.alt = false ∧ f.width = some 2 ∧ f.grouping = none ∧ f.sign = none ∧ f = { fill := 48, align := 61, width := some 2, type := some 88 } :=
    ⟨{ fill := 48, align := 61, width := some 2, type := some 88 }, fun name => by kernel_rfl, rfl, rfl, rfl, rfl, rfl, rfl, rfl, rfl⟩
  simp only [hp, hty]
  rw [if_pos (by decide)]
  show wpAny _ _ (if _ then _ else _) _ _ _
  rw [if_neg (by simp [hpr])]
  show wpAny _ _ (if _ then _ else _) _ _ _
  rw [if_neg (by simp [hz])]
  show wpAny _ _ (if _ then _ else _) _ _ _
  rw [if_neg (by decide)]
  have hw' : ¬ (f.width.getD 0 > 100000) := by rw [hw]; decide
  simp only [hal, hw]
  show wpAny _ _ (if _ then _ else _) _ _ _
  rw [if_neg (by simp)]
  show wpAny _ _ (retStr _) _ _ _
  have key : intField' f (decide ((n : Int) < 0)) [] ((Nat.toDigits 16 (n : Int).natAbs).map fun c => (if (88 : Nat) == 88 then c.toUpper else c).toNat) [] 4 = ⟨#[hexU (n / 16), hexU (n % 16)]⟩ := by rw [hf]; exact hexU_field ⟨n, hn⟩
  simp only [Option.getD_some, show ((88 : Nat) == 98) = false from rfl, show ((88 : Nat) == 111) = false from rfl, show ((88 : Nat) == 120) = false from rfl, show ((88 : Nat) == 88) = true from rfl, show ((16 : Nat) == 10) = false from rfl, Bool.false_eq_true, if_false, if_true] at key ⊢
  generalize (Nat.toDigits 16 (n : Int).natAbs).map (fun c => c.toUpper.toNat) = ds at key ⊢
  generalize decide ((n : Int) < 0) = neg at key ⊢
  generalize hx : (⟨#[hexU (n / 16), hexU (n % 16)]⟩ : Str) = x at key ⊢
  have hxl : x.length ≤ sizeLine := by
    rw [← hx, PySem.sizeLine_eq]; show 2 ≤ 16777216; decide
  have h' : ∀ t' k, Q (.str x t') { s with toks := k } := by rw [← hx]; exact h
  clear h hx hp
  clear hf
  unfold retStr
  refine wpAny_bind (wpAny_mkStr (wpAny_pure ?_) ?hs2)
  case hs2 =>
    conv => lhs; arg 1; whnf
    simp only [intField', hgr, hsg, Bool.false_eq_true, if_false] at key ⊢
    rw [← key] at hxl
    exact hxl
  dsimp only
  refine wpAny_bind (wpAny_isInstance (typeIs_str _ _ _) isSubtype_str_str (wpAny_pure ?_))
  conv => arg 1; arg 1; whnf
  simp only [intField', hgr, hsg, Bool.false_eq_true, if_false] at key ⊢
  rw [← key] at h'
  exact h' _ _
end
end
-- part Join
section
theorem utf8_oct {c : Nat} (hc : c ≤ 1114111) : (Str.utf8Of c).map UInt8.toNat = octL c := by
  unfold Str.utf8Of octL
  repeat' split
  all_goals first | omega | (simp; omega)

theorem foldl_glue : ∀ (l : List PySem.Str) (a : Array Nat), (l.foldl (fun acc p => acc ++ (Str.ofString "").cps ++ p.cps) a).toList = a.toList ++ l.flatMap (fun p => p.cps.toList)
  | [], a => by simp
  | p :: l, a => by
    rw [List.foldl_cons, foldl_glue l, List.flatMap_cons, Array.toList_append, Array.toList_append]
    have : (Str.ofString "").cps.toList = [] := by decide +kernel
    rw [this, List.append_nil, List.append_assoc]
theorem join_cps (l : List PySem.Str) : (Txt.join (Str.ofString "") l).cps.toList = l.flatMap (fun p => p.cps.toList) := by
  unfold Txt.join Builtin.Str.glued
  cases l with
  | nil => rfl
  | cons x r => rw [List.flatMap_cons]; exact foldl_glue r x.cps

theorem strs_of : ∀ (vs : List Value) (G : Nat → List Nat), (∀ i v, vs[i]? = some v → ∃ y t, v = .str y t ∧ y.cps.toList = G i) →
    ∃ l : List (Str × Tok), strValues l = vs ∧ (l.map (·.1)).flatMap (fun p => p.cps.toList) = (List.range vs.length).flatMap G
  | [], G, _ => ⟨[], rfl, rfl⟩
  | v :: vs, G, h => by
    obtain ⟨y, t, rfl, hy⟩ := h 0 v rfl
    obtain ⟨l, hl, e⟩ := strs_of vs (fun i => G (i + 1)) fun i w hw => h (i + 1) w (by simpa using hw)
    refine ⟨(y, t) :: l, by show _ :: strValues l = _; rw [hl], ?_⟩
    rw [List.map_cons, List.flatMap_cons, e, List.length_cons, List.range_succ_eq_map, List.flatMap_cons, hy, List.flatMap_map]

section
variable {prog : Program} {w : World} {A : Around} {E : Value → Shared → Prop} {s : Shared}
theorem join_use {D : Addr} {vs : List Value} {t : Tok} {G : Nat → List Nat} {Q : Value → Shared → Prop} (hl : s.heap.IsList D vs.toArray) (hg : ∀ i v, vs[i]? = some v → ∃ y t, v = .str y t ∧ y.cps.toList = G i)
    (hz : ((List.range vs.length).flatMap G).length ≤ 16777216) (h : ∀ y t' k, y.cps.toList = (List.range vs.length).flatMap G → Q (.str y t') { s with toks := k }) :
    wpAny (model prog w) A (call (.builtin "str.join") [.str (Str.ofString "") t, .ref D]) Q E s := by
  obtain ⟨l, rfl, e⟩ := strs_of vs G hg
  refine SC.join hl rfl ?_ fun t' k => h _ t' k ((join_cps _).trans e)
  have hs : ((l.map (·.1)).map (·.length)).sum = ((l.map (·.1)).flatMap (fun p => p.cps.toList)).length := by
    rw [List.length_flatMap]; rfl
  unfold JoinOk
  rw [StrLaws.joinTotal, hs, e]
  have : (Str.ofString "").length = 0 := by decide +kernel
  rw [this]
  unfold Builtin.Str.tooLong
  rw [Nat.mul_zero, Nat.add_zero, PySem.sizeLine_eq]
  simp only [Bool.not_eq_true', decide_eq_false_iff_not]
  omega
end
end
-- part Quote
section
abbrev safeT : PySem.Str := Str.ofString ":/?#@!$&()*+,;=%"
theorem enc_method {M : Model} {A : Around} {E : Value → Shared → Prop} {s : Shared} {pl : Sem Bool} {x : PySem.Str} {t : Tok} {Q : Value × List Value → Shared → Prop} (h : Q (.builtin "str.encode", [.str x t]) s) : wpAny M A (getMethod (.str x t) "encode" pl) Q E s := by
  with_reducible exact GM.of (.str x t) (typeIs_str _ _ _) F.slot_str_encode F.type_str_encode GM.noRef h
theorem octL_len (c : Nat) : (octL c).length ≤ 4 := by
  unfold octL
  repeat' split
  all_goals simp
abbrev keptT : PySem.Str := Str.ofString "ABCDEFGHIJKLMNOPQRSTUVWXYZabcdefghijklmnopqrstuvwxyz0123456789_.-~:/?#@!$&()*+,;=%"
theorem kept_mem (c : Nat) : decide (c ∈ keptT.cps.toList) = rowC c := by
  rw [← row_mem]
  by_cases h : c < 128
  · exact (by decide +kernel : ∀ c, c < 128 → decide (c ∈ keptT.cps.toList) = decide (c ∈ rowT.cps.toList)) c h
  · have h1 : ¬ c ∈ rowT.cps.toList := fun hm => h ((by decide +kernel : ∀ c ∈ rowT.cps.toList, c < 128) c hm)
    have h2 : ¬ c ∈ keptT.cps.toList := fun hm => h ((by decide +kernel : ∀ c ∈ keptT.cps.toList, c < 128) c hm)
    rw [decide_eq_false h1, decide_eq_false h2]
theorem kept_occ {c : Nat} {b : Bool} (h : (Builtin.Str.occurrences keptT ⟨#[c]⟩ 0 keptT.length 1).isEmpty = b) : rowC c = !b := by
  rw [← kept_mem, ← StrLaws.found_one, h]
def atO {α : Type} (f : α → List Nat) : Option α → List Nat
  | some b => f b
  | none => []
theorem range_flat {α : Type} (f : α → List Nat) : ∀ l : List α, (List.range l.length).flatMap (fun i => atO f l[i]?) = l.flatMap f
  | [] => rfl
  | a :: l => by
    rw [List.length_cons, List.range_succ_eq_map, List.flatMap_cons, List.flatMap_cons, List.flatMap_map, ← range_flat f l]
    rfl
theorem octP_len (l : List Nat) : (l.flatMap pctO).length = 3 * l.length := by
  induction l with
  | nil => rfl
  | cons a l ih => rw [List.flatMap_cons, List.length_append, ih, List.length_cons]; show 3 + _ = _; omega
theorem pctC_len (c : Nat) : (pctC c).length = costC c := by
  unfold pctC
  cases h : rowC c
  · rw [costC_oct h]
    simp only [Bool.false_eq_true, if_false]
    exact octP_len _
  · unfold costC; rw [h]; rfl
theorem pctL_len : ∀ l : List Nat, (pctL l).length = costL l
  | [] => rfl
  | a :: l => by
    show (pctC a ++ pctL l).length = costL (a :: l)
    rw [List.length_append, pctL_len l, pctC_len]
    simp [costL]
section
local macro_rules | `(tactic| walk_at "getMethod str") => `(tactic| (k_here; with_reducible refine enc_method ?_))
local macro_rules | `(tactic| walk_at "exec Assign cons ListComp") => `(tactic| (k_here; k_dflt (refine Assign_ListComp_W (F₀ := by k_asm) (by rfl) (by with_unfolding_all rfl) (by with_unfolding_all rfl) (by decide) (by rfl) (by decide) (by rfl) (by rfl) (by rfl) ?_)))
local macro_rules | `(tactic| walk_at "eval ListComp") => `(tactic| (k_here; k_dflt (refine ListComp_W (F₀ := by k_asm) (by with_unfolding_all rfl) (by decide) (by rfl) (by decide) (by rfl) ?_)))
local macro_rules | `(tactic| walk_at "call builtin:str.encode") => `(tactic| (k_here; (with_reducible show wpAny _ _ (call (Value.builtin "str.encode") [Value.str _ _, Value.str _ _]) _ _ _); (refine enc_call (by assumption) ?_); intro _ _))
local macro_rules | `(tactic| walk_at "formatField int") => `(tactic| (k_here; (with_reducible show wpAny _ _ (formatField (Value.int _ _) _) _ _ _); (refine fmt_02X (UInt8.toNat_lt _) ?_); intro _ _))
theorem quote_raw (w : World) (x : PySem.Str) (t ts : Tok) (hl : x.length ≤ 2500000) (hx : ∀ c ∈ x.cps.toList, c ≤ 1114111 ∧ ¬ (55296 ≤ c ∧ c ≤ 57343)) (hc : costL x.cps.toList ≤ 8000000) :
    ∀ (p : Program) (loose : List Str) (mean : ExcName → Option Value) (mg mb : Str → Option Value) (dp un : Nat) (gd : Option (List Code)) (cn : Str) (cs : Scope) (a : Addr) (ccd : Value) (cl : List (Str × Addr)) (outer : List Env)
    (A₀ : Around) (base h₀ : Heap) (L : Addr) (m : Str → Option Value) (s : Shared) (Q : Value → Shared → Prop) (E : Value → Shared → Prop),
    Below A₀ base outer h₀ → Fr h₀ L s.heap m → (Mine.hd.heap_39 w.params).In h₀ → Top p loose mean mg mb h₀ → cs.kind = .function → dp + 2 < recursionLimit → un + 8 * 2 < cLine →
    News h₀ L s.heap [] → 
    RetK [] (fun _ v own' => own' = [] ∧ ∃ y ty, v = .str y ty ∧ y.cps.toList = pctL x.cps.toList) h₀ L m s Q →
    wpAny (model PySem.Challenge.rw_ah6020_01.row.prog w) (ktrTop dp un gd cn cs L a ccd cl outer) (call (.ref 52) [.str x t] [(Str.ofString "safe", .str safeT ts)]) Q E s := by
  k_fill
  w_top off
  k_with_none
  intro p0 loose mean mg mb dp un gd cn cs a ccd cl outer A₀ base h₀ L m s Q E B F X T hk hd hu N hret
  refine wpAny_call ?_
  k_dflt (walk_at "MINE enterC")
  intro g' L' h' tk' cells' FG' F' N' Y' B' X' T' KG hL' lt' lv
  k_cells Y'
  (try simp only [List.cons_append, List.nil_append] at N')
  (try dsimp only)
  (try k_lift B')
  try k_fold
  k_with_none
  k_steps
  refine srcW_str (by rfl) (by k_asm) (by k_asm) (show x.cps.size ≤ sizeLine by rw [PySem.sizeLine_eq]; exact Nat.le_trans hl (by decide)) fun g => ?_
  refine rest_all (fun i v => ∃ y ty, v = Value.str y ty ∧ y.cps.toList = atO pctC x.cps[i]?) ?turn ?fin
  case turn =>
    intro i v I oI C oC D m₂ ys h tk E' hi hv hC hm F' N' off ne
    obtain ⟨c, u, hc', rfl⟩ := hv
    have hcx := hx c (List.mem_of_getElem? (by rw [← Array.getElem?_toList] at hc'; exact hc'))
    have hsur := hcx.2
    have off1 := off.mem _ (List.Mem.head _)
    k_steps
    · refine srcW_bytes (by rfl) (by k_asm) (by k_asm) ?_ fun g => ?_
      · rw [List.size_toArray, PySem.sizeLine_eq]
        have := congrArg List.length (utf8_oct hcx.1)
        rw [List.length_map] at this
        have := octL_len c
        omega
      refine rest_all (fun i v => ∃ y ty, v = Value.str y ty ∧ y.cps.toList = atO (fun b : UInt8 => pctO b.toNat) (Str.utf8Of c)[i]?) ?turn2 ?fin2
      case turn2 =>
        intro i2 v2 I2 oI2 C2 oC2 D2 m3 ys2 h2 tk2 E2 hi2 hv2 hC2 hm2 F2 N2 off2 ne2
        obtain ⟨b, u2, hb, rfl⟩ := hv2
        k_steps
        · exact F2
        · exact N2
        · rw [List.getElem?_toArray] at hb
          rw [hb]
          rfl
      case fin2 =>
        intro ys2 hlen2 hG2 D2 h2 tk2 F2 N2 o2
        rw [List.size_toArray] at hlen2
        have hall : (List.range ys2.length).flatMap (fun i => atO (fun b : UInt8 => pctO b.toNat) (Str.utf8Of c)[i]?) = (octL c).flatMap pctO := by
          rw [hlen2, range_flat (fun b : UInt8 => pctO b.toNat), ← utf8_oct hcx.1, List.flatMap_map]
        k_steps
        refine join_use (G := fun i => atO (fun b : UInt8 => pctO b.toNat) (Str.utf8Of c)[i]?) ⟨_, (N2 _ (List.Mem.head _)).1, rfl, _, rfl⟩ hG2 ?_ fun y ty k hy => ?_
        · rw [hall, octP_len]
          have := octL_len c
          omega
        rw [hall] at hy
        k_steps
        · exact F2
        · exact fun q hq => N2 q (List.Mem.tail _ hq)
        · rw [hc', hy]
          have : rowC c = false := kept_occ (by assumption)
          show _ = pctC c
          unfold pctC
          rw [this]; rfl
    · exact F'
    · exact N'
    · rw [hc']
      have : rowC c = true := kept_occ (by assumption)
      show _ = pctC c
      unfold pctC
      rw [this]; rfl
  case fin =>
    intro ys2 hlen2 hG2 D2 h2 tk2 F2 N2 o2
    have hall : (List.range ys2.length).flatMap (fun i => atO pctC x.cps[i]?) = pctL x.cps.toList := by
      rw [hlen2, ← Array.length_toList]
      show _ = x.cps.toList.flatMap pctC
      have e : (fun i => atO pctC x.cps[i]?) = fun i => atO pctC x.cps.toList[i]? := funext fun i => congrArg _ (by rw [Array.getElem?_toList])
      rw [e]
      exact range_flat pctC _
    k_steps
    refine join_use (G := fun i => atO pctC x.cps[i]?) ⟨_, (N2 _ (List.Mem.head _)).1, rfl, _, rfl⟩ hG2 ?_ fun y ty k hy => ?_
    · rw [hall, pctL_len]
      omega
    rw [hall] at hy
    k_steps
    (try dsimp only)
    obtain ⟨a1, a2, a3, a4⟩ := lv _ _ _ [] F2 (fun _ hq => nomatch hq)
    exact hret _ _ _ _ a1 a2 a3 a4 ⟨rfl, _, _, rfl, hy⟩
end
end
-- part Sre1
section
/-! the machine of the pattern -/
section
open PySem.Sre
def chc : Array Nat := #[14, 8, 1, 3, 4294967295, 1, 1, 38, 0, 16, 38, 17, 0, 7, 18, 16, 35, 24, 10, 1, 7, 13, 5, 22, 48, 57, 0, 1, 16, 59, 15, 56, 31, 16, 35, 13, 6, 16, 120, 16, 88, 0, 24, 16, 1, 4294967295, 13, 11, 9, 0, 67043328, 126, 126, 0, 0, 0, 0, 0, 1, 16, 59, 15, 25, 23, 24, 17, 1, 32, 13, 12, 21, 9, 5632, 402653257, 0, 0, 0, 0, 0, 0, 0, 1, 16, 59, 15, 2, 0, 17, 1, 1]
theorem chc_size : chc.size = 90 := rfl
theorem op_1 : ops[1]? = some .SUCCESS := rfl
theorem op_7 : ops[7]? = some .BRANCH := rfl
theorem op_13 : ops[13]? = some .IN := rfl
theorem op_15 : ops[15]? = some .JUMP := rfl
theorem op_16 : ops[16]? = some .LITERAL := rfl
theorem op_17 : ops[17]? = some .MARK := rfl
theorem op_24 : ops[24]? = some .REPEAT_ONE := rfl

/-- a state of the machine -/
def V (T : Array Nat) (s ls pc pos hd : Nat) (lm li : Int) (ms : Array (Option Nat)) (fr : List Sre.Frame) (om : Bool) (sn : Sre.Seen) (an : Option Bool) : M :=
  { code := chc, text := T, lim := T.size, start := s, lastStart := ls, pc, pos, handed := hd, outermost := om, marks := ms, lastmark := lm, lastindex := li, frames := fr, weight := fr.length, answer := an, seen := sn }
def gf (w : Sre.Wait) (pc pos : Nat) (om : Bool) (count lm li : Int) : Sre.Frame := { wait := w, pc, pos, outermost := om, count, kept := { lastmark := lm, lastindex := li } }

variable {T : Array Nat} {s ls pc pos hd : Nat} {lm li : Int} {ms : Array (Option Nat)} {fr : List Sre.Frame} {om : Bool} {sn : Sre.Seen}
theorem st_lit_yes (c : Nat) (h3 : pc < 90) (h1 : chc.getD pc 0 = 16) (h2 : chc.getD (pc + 1) 0 = c) (hp : T[pos]? = some c) :
    (V T s ls pc pos hd lm li ms fr om sn none).step = V T s ls (pc + 2) (pos + 1) hd lm li ms fr om (sn.add 16) none := by
  obtain ⟨hlt, he⟩ := Array.getElem?_eq_some_iff.mp hp
  have hg : T.getD pos 0 = c := by rw [Array.getD_eq_getD_getElem?, hp]; rfl
  have hb : ¬ T.size ≤ pos := Nat.not_le.mpr hlt
  simp only [V, M.step, M.exec, M.word, Option.isSome_none, Bool.false_eq_true, if_false, chc_size, h3, if_true, Nat.add_zero, h1, op_16, ge_iff_le, hb, accepts, h2, hg, beq_self_eq_true, itemWidth]
theorem st_lit_no (c : Nat) (h3 : pc < 90) (h1 : chc.getD pc 0 = 16) (h2 : chc.getD (pc + 1) 0 = c) (hp : T[pos]? ≠ some c) :
    ∃ sn', (V T s ls pc pos hd lm li ms fr om sn none).step = V T s ls pc pos hd lm li ms fr om sn' (some false) := by
  refine ⟨sn.add 16, ?_⟩
  by_cases hb : T.size ≤ pos
  · simp only [V, M.step, M.exec, M.word, M.say, Option.isSome_none, Bool.false_eq_true, if_false, chc_size, h3, if_true, Nat.add_zero, h1, op_16, ge_iff_le, hb]
  · have hlt : pos < T.size := Nat.not_le.mp hb
    have hg : (T.getD pos 0 == c) = false := by
      rw [Array.getD_eq_getD_getElem?, Array.getElem?_eq_getElem hlt] 
      rw [Array.getElem?_eq_getElem hlt] at hp
      simpa using hp
    simp only [V, M.step, M.exec, M.word, M.say, Option.isSome_none, Bool.false_eq_true, if_false, chc_size, h3, if_true, Nat.add_zero, h1, op_16, ge_iff_le, hb, accepts, h2, hg]
theorem st_jump (h3 : pc < 90) (h1 : chc.getD pc 0 = 15) :
    (V T s ls pc pos hd lm li ms fr om sn none).step = V T s ls (pc + 1 + chc.getD (pc + 1) 0) pos hd lm li ms fr om (sn.add 15) none := by
  simp only [V, M.step, M.exec, M.word, M.say, Option.isSome_none, Bool.false_eq_true, if_false, chc_size, h3, if_true, Nat.add_zero, h1, op_15]
theorem st_mark (i : Nat) (h3 : pc < 90) (h1 : chc.getD pc 0 = 17) (h2 : chc.getD (pc + 1) 0 = i) (hi : (i : Int) ≤ lm + 1) :
    (V T s ls pc pos hd lm li ms fr om sn none).step = V T s ls (pc + 2) pos hd (max lm i) (if i % 2 == 1 then (i / 2 + 1 : Nat) else li) (ms.setIfInBounds i (some pos)) fr om (sn.add 17) none := by
  simp only [V, M.step, M.exec, M.word, M.say, M.mark, Option.isSome_none, Bool.false_eq_true, if_false, chc_size, h3, if_true, Nat.add_zero, h1, op_17, h2, hi]
theorem st_success (h3 : pc < 90) (h1 : chc.getD pc 0 = 1) :
    (V T s ls pc pos hd lm li ms fr om sn none).step = V T s ls pc pos pos lm li ms fr om (sn.add 1) (some true) := by
  simp only [V, M.step, M.exec, M.word, M.say, Option.isSome_none, Bool.false_eq_true, if_false, chc_size, h3, if_true, Nat.add_zero, h1, op_1, Bool.false_and, Bool.or_self, Bool.and_false]
theorem st_alt {p0 : Nat} (alt : Nat) (k : Sre.Kept) (hk : k = { lastmark := lm, lastindex := li }) (h0 : (chc.getD alt 0 == 0) = false) (hf : fr.length ≤ 10) (an : Option Bool) (ho : p0 = pc) :
    M.alternative { V T s ls pc pos hd lm li ms fr om sn none with answer := none } alt k = V T s ls (alt + 1) pos pos lm li ms (gf .nextBranch alt pos om 0 lm li :: fr) om sn none := by
  subst hk
  have hw : ¬ (fr.length + 1 + 0 > 16777216) := by omega
  show (if (chc.getD alt 0 == 0) = true then _ else _) = _
  rw [h0, if_neg Bool.false_ne_true]
  show (if fr.length + 1 + 0 > 16777216 then _ else _) = _
  rw [if_neg hw]
  rfl
theorem st_branch (h3 : pc < 90) (h1 : chc.getD pc 0 = 7) (h0 : (chc.getD (pc + 1) 0 == 0) = false) (hf : fr.length ≤ 10) :
    (V T s ls pc pos hd lm li ms fr om sn none).step = V T s ls (pc + 2) pos pos lm li ms (gf .nextBranch (pc + 1) pos om 0 lm li :: fr) om (sn.add 7) none := by
  have e : (V T s ls pc pos hd lm li ms fr om sn none).step = M.alternative { V T s ls pc pos hd lm li ms fr om (sn.add 7) none with answer := none } (pc + 1) { lastmark := lm, lastindex := li } := by
    simp only [V, M.step, M.exec, M.word, M.say, M.keep, Option.isSome_none, Bool.false_eq_true, if_false, chc_size, h3, if_true, Nat.add_zero, h1, op_7]
  rw [e]
  exact st_alt (p0 := pc) _ _ rfl h0 hf none rfl
theorem st_pop {w : Sre.Wait} {p q : Nat} {o : Bool} {n l i : Int} (yes : Bool) :
    (V T s ls pc pos hd lm li ms (gf w p q o n l i :: fr) om sn (some yes)).step = M.resume (V T s ls p q hd lm li ms fr o sn none) (gf w p q o n l i) yes := by
  have e : fr.length + 1 - (1 + 0) = fr.length := by omega
  simp only [V, gf, M.step, Option.isSome_none, Bool.false_eq_true, if_false, List.length_cons]
  congr 1
/-- a pop: yes -/
theorem st_pop_yes {w : Sre.Wait} {p q : Nat} {o : Bool} {n l i : Int} (hw : w = .nextStart ∨ w = .nextBranch ∨ w = .giveBack) :
    (V T s ls pc pos hd lm li ms (gf w p q o n l i :: fr) om sn (some true)).step = V T s ls p q hd lm li ms fr o sn (some true) := by
  have e : fr.length + 1 - (1 + 0) = fr.length := by omega
  rw [st_pop]
  rcases hw with rfl | rfl | rfl <;> rfl
theorem st_end (yes : Bool) : (V T s ls pc pos hd lm li ms [] om sn (some yes)).step = { V T s ls pc pos hd lm li ms [] om sn (some yes) with outcome := some (if yes then .matched else .failed) } := rfl
/-- a branch has failed: the next one -/
theorem st_next {p q : Nat} {o : Bool} {l i : Int} (a : Nat) (ha : p + chc.getD p 0 = a) (h0 : (chc.getD a 0 == 0) = false) (hf : fr.length ≤ 10) :
    (V T s ls pc pos hd lm li ms (gf .nextBranch p q o 0 l i :: fr) om sn (some false)).step = V T s ls (a + 1) q q l i ms (gf .nextBranch a q o 0 l i :: fr) o sn none := by
  have e : fr.length + 1 - (1 + 0) = fr.length := by omega
  have : (V T s ls pc pos hd lm li ms (gf .nextBranch p q o 0 l i :: fr) om sn (some false)).step = M.alternative { V T s ls p q hd l i ms fr o sn none with answer := none } a { lastmark := l, lastindex := i } := by
    subst ha
    rw [st_pop]; rfl
  rw [this]
  exact st_alt (p0 := p) _ _ rfl h0 hf none rfl
theorem st_last {p q : Nat} {o : Bool} {l i : Int} (a : Nat) (ha : p + chc.getD p 0 = a) (h0 : (chc.getD a 0 == 0) = true) :
    (V T s ls pc pos hd lm li ms (gf .nextBranch p q o 0 l i :: fr) om sn (some false)).step = V T s ls p q hd l i ms fr o sn (some false) := by
  subst ha
  rw [st_pop]
  show (if (chc.getD (p + chc.getD p 0) 0 == 0) = true then _ else _) = _
  rw [h0]; rfl
/-- one sign fewer -/
theorem st_give {p q : Nat} {o : Bool} {n l i : Int} (h : ¬ n - 1 < chc.getD (p + 2) 0) (hf : fr.length ≤ 10) :
    (V T s ls pc pos hd lm li ms (gf .giveBack p q o n l i :: fr) om sn (some false)).step = V T s ls (p + 1 + chc.getD (p + 1) 0) (q - 1) (q - 1) l i ms (gf .giveBack p (q - 1) o (n - 1) l i :: fr) o sn none := by
  have e : fr.length + 1 - (1 + 0) = fr.length := by omega
  have hw : ¬ (fr.length + 1 + 0 > 16777216) := by omega
  rw [st_pop]
  show (if n - 1 < chc.getD (p + 2) 0 then _ else _) = _
  rw [if_neg h]
  show (if fr.length + 1 + 0 > 16777216 then _ else _) = _
  rw [if_neg hw]
  rfl
theorem st_give_end {p q : Nat} {o : Bool} {n l i : Int} (h : n - 1 < chc.getD (p + 2) 0) :
    (V T s ls pc pos hd lm li ms (gf .giveBack p q o n l i :: fr) om sn (some false)).step = V T s ls p q hd l i ms fr o sn (some false) := by
  have e : fr.length + 1 - (1 + 0) = fr.length := by omega
  rw [st_pop]
  show (if n - 1 < chc.getD (p + 2) 0 then _ else _) = _
  rw [if_pos h]
  rfl
/-- the class at i is f -/
def ClsAt (i : Nat) (f : Nat → Bool) : Prop := ∀ c sn, ∃ sn', accepts chc i c sn = .ok (f c, sn')
def runN (f : Nat → Bool) (T : Array Nat) (p n : Nat) : Nat := (((T.toList.drop p).take n).takeWhile f).length
theorem run_at {i : Nat} {f : Nat → Bool} (hf : ClsAt i f) : ∀ (n p found : Nat) (sn : Sre.Seen), p + n ≤ T.size → ∃ sn', Sre.run chc T i n p found sn = .ok (found + runN f T p n, sn')
  | 0, p, found, sn, _ => ⟨sn, by simp [Sre.run, runN]⟩
  | n + 1, p, found, sn, h => by
    have hp : p < T.size := by omega
    obtain ⟨sn1, e⟩ := hf (T.getD p 0) sn
    have hg : T.getD p 0 = T[p] := by rw [Array.getD_eq_getD_getElem?, Array.getElem?_eq_getElem hp]; rfl
    have hd : T.toList.drop p = T[p] :: T.toList.drop (p + 1) := by rw [List.drop_eq_getElem_cons (by simpa using hp)]; simp
    unfold Sre.run
    rw [e]
    cases hy : f (T.getD p 0)
    · refine ⟨sn1, ?_⟩
      show Except.ok (found, sn1) = _
      rw [hg] at hy
      simp [runN, hd, hy]
    · obtain ⟨sn2, e2⟩ := run_at hf n (p + 1) (found + 1) sn1 (by omega)
      refine ⟨sn2, ?_⟩
      show Sre.run chc T i n (p + 1) (found + 1) sn1 = _
      rw [e2, hg] at *
      simp [runN, hd, hy]; omega
theorem st_rep {f : Nat → Bool} {hi : Nat} (h3 : pc < 90) (h1 : chc.getD pc 0 = 24) (hl : chc.getD (pc + 2) 0 = 1) (hm : chc.getD (pc + 3) 0 = hi) (hf : ClsAt (pc + 4) f) (hp : pos ≤ T.size) (hfr : fr.length ≤ 10) :
    ∃ sn', (V T s ls pc pos hd lm li ms fr om sn none).step =
      if runN f T pos (min hi (T.size - pos)) = 0 then V T s ls pc pos hd lm li ms fr om sn' (some false)
      else V T s ls (pc + 1 + chc.getD (pc + 1) 0) (pos + runN f T pos (min hi (T.size - pos))) (pos + runN f T pos (min hi (T.size - pos))) lm li ms (gf .giveBack pc (pos + runN f T pos (min hi (T.size - pos))) om (runN f T pos (min hi (T.size - pos))) lm li :: fr) om sn' none := by
  by_cases hr : T.size = pos
  · refine ⟨sn.add 24, ?_⟩
    have e0 : runN f T pos (min hi (T.size - pos)) = 0 := by rw [hr, Nat.sub_self, Nat.min_zero]; rfl
    rw [if_pos e0]
    have hgt : ((1 : Nat) : Int) > (T.size : Int) - pos := by rw [hr]; omega
    simp only [V, M.step, M.exec, M.word, M.say, Option.isSome_none, Bool.false_eq_true, if_false, chc_size, h3, if_true, Nat.add_zero, h1, op_24, hl, hgt]
  · have hlt : pos < T.size := by omega
    have hng : ¬ ((1 : Nat) : Int) > (T.size : Int) - pos := by omega
    have ht : ((T.size : Int) - pos).toNat = T.size - pos := by omega
    obtain ⟨sn1, e⟩ := run_at (T := T) hf (min hi (T.size - pos)) pos 0 ((sn.add 24).add (chc.getD (pc + 4) 0)) (by omega)
    rw [Nat.zero_add] at e
    refine ⟨sn1, ?_⟩
    generalize hk : runN f T pos (min hi (T.size - pos)) = k at e ⊢
    by_cases h0 : k = 0
    · subst h0
      rw [if_pos rfl]
      simp only [V, M.step, M.exec, M.word, M.say, Option.isSome_none, Bool.false_eq_true, if_false, chc_size, h3, if_true, Nat.add_zero, h1, op_24, hl, hng, hm, ht, e, Nat.lt_one_iff]
    · rw [if_neg h0]
      have hk1 : ¬ k < 1 := by omega
      have hw : ¬ (fr.length + 1 + 0 > 16777216) := by omega
      simp only [V, gf, M.step, M.exec, M.word, M.say, M.afterRun, M.attempt, M.keep, M.frame, Option.isSome_none, Bool.false_eq_true, if_false, chc_size, h3, if_true, Nat.add_zero, h1, op_24, hl, hng, hm, ht, e, hk1, List.size_toArray, List.length_nil, List.length_cons]
      rw [if_neg (by simpa using hw)]
end
end
-- part Sre2
section
section
open PySem.Sre
def itr : Nat → M → M
  | 0, m => m
  | n + 1, m => itr n m.step
theorem itr_add : ∀ (a b : Nat) (m : M), itr (a + b) m = itr b (itr a m)
  | 0, b, m => by rw [Nat.zero_add]; rfl
  | a + 1, b, m => by rw [Nat.add_right_comm]; exact itr_add a b m.step
def Gets (m : M) (k : Nat) (P : M → Prop) : Prop := ∃ j, j ≤ k ∧ P (itr j m)
theorem Gets.now {m : M} {k : Nat} {P : M → Prop} (h : P m) : Gets m k P := ⟨0, Nat.zero_le _, h⟩
theorem Gets.next {m : M} {k : Nat} {P : M → Prop} (h : Gets m.step k P) : Gets m (k + 1) P := let ⟨j, hj, hp⟩ := h; ⟨j + 1, Nat.succ_le_succ hj, hp⟩
theorem Gets.step {m m' : M} {k : Nat} {P : M → Prop} (e : m.step = m') (h : Gets m' k P) : Gets m (k + 1) P := (e ▸ h : Gets m.step k P).next
theorem Gets.bind {m : M} {a b : Nat} {P Q : M → Prop} (h : Gets m a P) (f : ∀ m', P m' → Gets m' b Q) : Gets m (a + b) Q := by
  obtain ⟨j, hj, hp⟩ := h
  obtain ⟨i, hi, hq⟩ := f _ hp
  exact ⟨j + i, by omega, by rw [itr_add]; exact hq⟩
theorem Gets.mono {m : M} {a b : Nat} {P Q : M → Prop} (h : Gets m a P) (hab : a ≤ b) (f : ∀ m', P m' → Q m') : Gets m b Q := let ⟨j, hj, hp⟩ := h; ⟨j, Nat.le_trans hj hab, f _ hp⟩

/-- the machine has found the match from s to e -/
def Found (s e : Nat) (m : M) : Prop := m.outcome = some .matched ∧ m.start = s ∧ m.handed = e ∧ m.marks = #[some (s + 1), some e] ∧ m.lastmark = 1 ∧ m.lastindex = 1
/-- it has failed, frames fr are left -/
def Falls (T : Array Nat) (s ls : Nat) (a : Option Nat) (fr : List Sre.Frame) (m : M) : Prop := ∃ pc pos hd lm li b om sn, m = V T s ls pc pos hd lm li #[a, b] fr om sn (some false)

variable {T : Array Nat} {s ls pc pos hd : Nat} {lm li : Int} {fr : List Sre.Frame} {om : Bool} {sn : Sre.Seen}

/-- the bottom: the frame of a search, or none -/
def Bot (bt : List Sre.Frame) : Prop := bt = [] ∨ ∃ p q o n l i, bt = [gf .nextStart p q o n l i]
theorem Bot.len {bt : List Sre.Frame} (h : Bot bt) : bt.length ≤ 1 := by
  rcases h with rfl | ⟨_, _, _, _, _, _, rfl⟩ <;> simp
theorem semi_yes {b : Option Nat} {p1 q1 p2 q2 : Nat} {o1 o2 : Bool} {n1 n2 l1 l2 i1 i2 : Int} {bt : List Sre.Frame} (hB : Bot bt) (h3 : pc + 3 < 90) (h1 : chc.getD pc 0 = 16) (h2 : chc.getD (pc + 1) 0 = 59) (h15 : chc.getD (pc + 2) 0 = 15) (hj : pc + 2 + 1 + chc.getD (pc + 2 + 1) 0 = 87) (hp : T[pos]? = some 59) :
    Gets (V T s ls pc pos hd 0 (-1) #[some (s + 1), b] (gf .giveBack p1 q1 o1 n1 l1 i1 :: gf .nextBranch p2 q2 o2 n2 l2 i2 :: bt) om sn none) 8 (Found s (pos + 1)) := by
  refine Gets.step (st_lit_yes 59 (by omega) h1 h2 hp) ?_
  refine Gets.step (st_jump (by omega) h15) ?_
  rw [hj]
  refine Gets.step (st_mark 1 (by decide) rfl rfl (by decide)) ?_
  refine Gets.step (st_success (by decide) rfl) ?_
  refine Gets.step (st_pop_yes (.inr (.inr rfl))) ?_
  refine Gets.step (st_pop_yes (.inr (.inl rfl))) ?_
  rcases hB with rfl | ⟨p3, q3, o3, n3, l3, i3, rfl⟩
  · refine Gets.step (st_end true) ?_
    exact .now ⟨rfl, rfl, rfl, rfl, rfl, rfl⟩
  refine Gets.step (st_pop_yes (.inl rfl)) ?_
  refine Gets.step (st_end true) ?_
  exact .now ⟨rfl, rfl, rfl, rfl, rfl, rfl⟩

theorem give_all {P : Nat} (hP : P < 80) (h2 : chc.getD (P + 2) 0 = 1) (hS : chc.getD (P + 1 + chc.getD (P + 1) 0) 0 = 16) (hS2 : chc.getD (P + 1 + chc.getD (P + 1) 0 + 1) 0 = 59) (hS3 : P + 1 + chc.getD (P + 1) 0 < 90) (hf : fr.length ≤ 8) {a b : Option Nat} {l i : Int} :
    ∀ (n q pc pos hd : Nat) (lm li : Int) (o om : Bool) (sn : Sre.Seen), n ≤ q → (∀ j, q - n ≤ j → j < q → T[j]? ≠ some 59) →
    Gets (V T s ls pc pos hd lm li #[a, b] (gf .giveBack P q o ((n : Int) + 1) l i :: fr) om sn (some false)) (2 * n + 1) (Falls T s ls a fr)
  | 0, q, pc, pos, hd, lm, li, o, om, sn, _, _ => by
    refine Gets.step (st_give_end (by rw [h2]; decide)) ?_
    exact .now ⟨_, _, _, _, _, _, _, _, rfl⟩
  | n + 1, q, pc, pos, hd, lm, li, o, om, sn, hq, hn => by
    refine Gets.step (st_give (by rw [h2]; omega) (by omega)) ?_
    obtain ⟨sn', e⟩ := st_lit_no (T := T) (s := s) (ls := ls) (pc := P + 1 + chc.getD (P + 1) 0) (pos := q - 1) (hd := q - 1) (lm := l) (li := i) (ms := #[a, b]) (fr := gf .giveBack P (q - 1) o (((n + 1 : Nat) : Int) + 1 - 1) l i :: fr) (om := o) (sn := sn) 59 hS3 hS hS2 (hn _ (by omega) (by omega))
    refine Gets.step e ?_
    have e2 : ((n + 1 : Nat) : Int) + 1 - 1 = (n : Int) + 1 := by omega
    rw [e2]
    exact give_all hP h2 hS hS2 hS3 hf n (q - 1) _ _ _ _ _ _ _ _ (by omega) fun j h1 h2 => hn j (by omega) (by omega)

theorem takeN_run (f : Nat → Bool) : ∀ (d : List Nat) (n : Nat), ((d.take n).takeWhile f).length = min n (runL f d)
  | [], n => by simp [runL]
  | c :: d, 0 => by simp
  | c :: d, n + 1 => by
    have ih := takeN_run f d n
    unfold runL at ih ⊢
    rw [List.take_succ_cons]
    cases h : f c
    · simp [h]
    · simp only [List.takeWhile_cons, h, if_true, List.length_cons, ih]; omega
theorem runL_le (f : Nat → Bool) (d : List Nat) : runL f d ≤ d.length := (List.takeWhile_sublist _).length_le
theorem runL_get {f : Nat → Bool} : ∀ {d : List Nat} {j : Nat}, j < runL f d → ∃ c, d[j]? = some c ∧ f c = true
  | [], j, h => by simp [runL] at h
  | c :: d, j, h => by
    cases hc : f c
    · simp [runL, hc] at h
    · cases j with
      | zero => exact ⟨c, rfl, hc⟩
      | succ j =>
        have : j < runL f d := by
          have e : runL f (c :: d) = runL f d + 1 := by simp [runL, hc]
          omega
        simpa using runL_get this

/-- a class repeated, then a semicolon -/
theorem rep_semi {P hi : Nat} {f : Nat → Bool} {b : Option Nat} {p2 q2 : Nat} {o2 : Bool} {n2 l2 i2 : Int} {bt : List Sre.Frame} (hB : Bot bt) (hP : P < 80) (h1 : chc.getD P 0 = 24) (h2 : chc.getD (P + 2) 0 = 1) (hm : chc.getD (P + 3) 0 = hi) (hf : ClsAt (P + 4) f) (h59 : f 59 = false)
    (S : Nat) (hS0 : P + 1 + chc.getD (P + 1) 0 = S) (hS : chc.getD S 0 = 16) (hS2 : chc.getD (S + 1) 0 = 59) (hS3 : S + 3 < 90) (h15 : chc.getD (S + 2) 0 = 15) (hj : S + 2 + 1 + chc.getD (S + 2 + 1) 0 = 87) (hp : pos ≤ T.size) (hhi : 1 ≤ hi) :
    Gets (V T s ls P pos hd 0 (-1) #[some (s + 1), b] (gf .nextBranch p2 q2 o2 n2 l2 i2 :: bt) om sn none) (2 * T.size + 10)
      (match tailL f hi (T.toList.drop pos) with | some k => Found s (pos + k) | none => Falls T s ls (some (s + 1)) (gf .nextBranch p2 q2 o2 n2 l2 i2 :: bt)) := by
  obtain ⟨sn1, e⟩ := st_rep (T := T) (s := s) (ls := ls) (pc := P) (pos := pos) (hd := hd) (lm := 0) (li := -1) (ms := #[some (s + 1), b]) (fr := (gf .nextBranch p2 q2 o2 n2 l2 i2 :: bt)) (om := om) (sn := sn) (by omega) h1 h2 hm hf hp (by have := hB.len; simp; omega)
  have hk : runN f T pos (min hi (T.size - pos)) = min (min hi (T.size - pos)) (runL f (T.toList.drop pos)) := takeN_run f _ _
  have hdl : (T.toList.drop pos).length = T.size - pos := by simp
  have hle := runL_le f (T.toList.drop pos)
  have hget : ∀ j, (T.toList.drop pos)[j]? = T[pos + j]? := fun j => by rw [List.getElem?_drop, Array.getElem?_toList]
  generalize hr : runL f (T.toList.drop pos) = r at hk hle
  rw [hdl] at hle
  generalize runN f T pos (min hi (T.size - pos)) = k at e hk
  have hin : ∀ j, j < r → T[pos + j]? ≠ some 59 := fun j hj q => by
    obtain ⟨c, hc, hfc⟩ := runL_get (f := f) (d := T.toList.drop pos) (j := j) (by omega)
    rw [hget, q] at hc
    cases hc
    rw [h59] at hfc; cases hfc
  by_cases hk0 : k = 0
  · rw [if_pos hk0] at e
    refine (Gets.step e (.now ?_) : Gets _ 1 _).mono (by omega) fun _ h => h
    have : tailL f hi (T.toList.drop pos) = none := by
      unfold tailL
      rw [if_neg]
      rintro ⟨c1, c2, c3⟩
      rw [hr] at c1 c2 c3
      rw [hget] at c3
      have := (Array.getElem?_eq_some_iff.mp c3).1
      omega
    rw [this]
    exact ⟨_, _, _, _, _, _, _, _, rfl⟩
  · rw [if_neg hk0, hS0] at e
    by_cases hq : T[pos + k]? = some 59
    · have hkr : k = r := by
        rcases Nat.lt_or_ge k r with h | h
        · exact absurd hq (hin k h)
        · omega
      have ht : tailL f hi (T.toList.drop pos) = some (k + 1) := by
        unfold tailL
        rw [hr, ← hkr, if_pos ⟨by omega, by omega, by rw [hget]; exact hq⟩]
      rw [ht]
      exact (Gets.step e (semi_yes hB hS3 hS hS2 h15 hj hq) : Gets _ 9 _).mono (by omega) fun _ h => h
    · have ht : tailL f hi (T.toList.drop pos) = none := by
        unfold tailL
        rw [if_neg]
        rintro ⟨c1, c2, c3⟩
        rw [hr] at c1 c2 c3
        rw [hget] at c3
        have := (Array.getElem?_eq_some_iff.mp c3).1
        have : k = r := by omega
        exact hq (this ▸ c3)
      rw [ht]
      obtain ⟨sn2, e2⟩ := st_lit_no (T := T) (s := s) (ls := ls) (pc := S) (pos := pos + k) (hd := pos + k) (lm := 0) (li := -1) (ms := #[some (s + 1), b]) (fr := gf .giveBack P (pos + k) om k 0 (-1) :: gf .nextBranch p2 q2 o2 n2 l2 i2 :: bt) (om := om) (sn := sn1) 59 (by omega) hS hS2 hq
      obtain ⟨k', rfl⟩ : ∃ k', k = k' + 1 := ⟨k - 1, by omega⟩
      refine (Gets.step e (Gets.step e2 (give_all (T := T) (s := s) (ls := ls) hP h2 (by rw [hS0]; exact hS) (by rw [hS0]; exact hS2) (by omega) (by have := hB.len; simp; omega) k' (pos + (k' + 1)) _ _ _ _ _ _ _ _ (by omega) fun j hj1 hj2 => ?_))).mono (by omega) fun _ h => h
      obtain ⟨j', rfl⟩ : ∃ j', j = pos + j' := ⟨j - pos, by omega⟩
      exact hin j' (by omega)
end
end
-- part Sre3
section
section
open PySem.Sre
theorem in_fail {c n i : Nat} {yes : Bool} {sn : Sre.Seen} (h : chc.getD i 0 = 0) : inSet chc c (n + 1) i yes sn = .ok (!yes, sn.add 0) := by
  unfold inSet
  simp only [Nat.add_zero, h]
  rfl
theorem in_lit {c n i : Nat} {yes : Bool} {sn : Sre.Seen} (h : chc.getD i 0 = 16) : inSet chc c (n + 1) i yes sn = if c == chc.getD (i + 1) 0 then .ok (yes, sn.add 16) else inSet chc c n (i + 2) yes (sn.add 16) := by
  rw [inSet]
  simp only [Nat.add_zero, h, op_16]
theorem op_22 : ops[22]? = some .RANGE := rfl
theorem op_9 : ops[9]? = some .CHARSET := rfl
theorem op_21 : ops[21]? = some .NEGATE := rfl
theorem in_range {c n i : Nat} {yes : Bool} {sn : Sre.Seen} (h : chc.getD i 0 = 22) : inSet chc c (n + 1) i yes sn = if (decide (chc.getD (i + 1) 0 ≤ c) && decide (c ≤ chc.getD (i + 2) 0)) = true then .ok (yes, sn.add 22) else inSet chc c n (i + 3) yes (sn.add 22) := by
  rw [inSet]
  simp only [Nat.add_zero, h, op_22]
theorem in_neg {c n i : Nat} {yes : Bool} {sn : Sre.Seen} (h : chc.getD i 0 = 21) : inSet chc c (n + 1) i yes sn = inSet chc c n (i + 1) (!yes) (sn.add 21) := by
  rw [inSet]
  simp only [Nat.add_zero, h, op_21]
theorem in_set {c n i : Nat} {yes : Bool} {sn : Sre.Seen} (h : chc.getD i 0 = 9) : inSet chc c (n + 1) i yes sn = if (decide (c < 256) && (chc.getD (i + (1 + c / 32)) 0).testBit (c % 32)) = true then .ok (yes, sn.add 9) else inSet chc c n (i + 9) yes (sn.add 9) := by
  rw [inSet]
  simp only [Nat.add_zero, h, op_9]

theorem cls_dec : ClsAt 21 decC := fun c sn => by
  show ∃ sn', inSet chc c 90 23 true sn = _
  rw [in_range rfl]
  show ∃ sn', (if decC c = true then _ else _) = _
  cases h : decC c
  · rw [if_neg Bool.false_ne_true, in_fail rfl]; exact ⟨_, rfl⟩
  · exact ⟨_, rfl⟩
theorem cls_x : ClsAt 35 isX := fun c sn => by
  show ∃ sn', inSet chc c 90 37 true sn = _
  rw [in_lit rfl, in_lit rfl, in_fail rfl]
  show ∃ sn', (if (c == 120) = true then _ else if (c == 88) = true then _ else _) = _
  unfold isX
  cases h : (c == 120)
  · cases h2 : (c == 88)
    · exact ⟨_, rfl⟩
    · exact ⟨_, rfl⟩
  · exact ⟨_, rfl⟩
theorem hex_bits (c : Nat) : (decide (c < 256) && (chc.getD (48 + (1 + c / 32)) 0).testBit (c % 32)) = hexC c := by
  by_cases h : c < 256
  · exact (by decide +kernel : ∀ c, c < 256 → (decide (c < 256) && (chc.getD (48 + (1 + c / 32)) 0).testBit (c % 32)) = hexC c) c h
  · simp [h, hexC, decC]; omega
theorem name_bits (c : Nat) : (decide (c < 256) && (chc.getD (71 + (1 + c / 32)) 0).testBit (c % 32)) = !nameC c := by
  by_cases h : c < 256
  · exact (by decide +kernel : ∀ c, c < 256 → (decide (c < 256) && (chc.getD (71 + (1 + c / 32)) 0).testBit (c % 32)) = !nameC c) c h
  · simp [h, nameC]; omega
theorem cls_hex : ClsAt 46 hexC := fun c sn => by
  show ∃ sn', inSet chc c 90 48 true sn = _
  rw [in_set rfl, hex_bits]
  cases h : hexC c
  · rw [if_neg Bool.false_ne_true, in_fail rfl]; exact ⟨_, rfl⟩
  · exact ⟨_, rfl⟩
theorem cls_name : ClsAt 68 nameC := fun c sn => by
  show ∃ sn', inSet chc c 90 70 true sn = _
  rw [in_neg rfl, in_set rfl, name_bits]
  cases h : nameC c
  · exact ⟨_, rfl⟩
  · rw [if_neg (by simp), in_fail rfl]; exact ⟨_, rfl⟩

variable {T : Array Nat} {s ls pc pos hd : Nat} {lm li : Int} {ms : Array (Option Nat)} {fr : List Sre.Frame} {om : Bool} {sn : Sre.Seen}
/-- one sign of a class -/
theorem st_in {f : Nat → Bool} (h3 : pc < 90) (h1 : chc.getD pc 0 = 13) (hf : ClsAt pc f) :
    ∃ sn', (V T s ls pc pos hd lm li ms fr om sn none).step = match T[pos]? with
      | some c => if f c then V T s ls (pc + (1 + chc.getD (pc + 1) 0)) (pos + 1) hd lm li ms fr om sn' none else V T s ls pc pos hd lm li ms fr om sn' (some false)
      | none => V T s ls pc pos hd lm li ms fr om sn' (some false) := by
  by_cases hb : T.size ≤ pos
  · refine ⟨sn.add 13, ?_⟩
    rw [Array.getElem?_eq_none hb]
    simp only [V, M.step, M.exec, M.word, M.say, Option.isSome_none, Bool.false_eq_true, if_false, chc_size, h3, if_true, Nat.add_zero, h1, op_13, ge_iff_le, hb]
  · have hlt : pos < T.size := Nat.not_le.mp hb
    obtain ⟨sn1, e⟩ := hf (T.getD pos 0) (sn.add 13)
    have hg : T.getD pos 0 = T[pos] := by rw [Array.getD_eq_getD_getElem?, Array.getElem?_eq_getElem hlt]; rfl
    refine ⟨sn1, ?_⟩
    rw [Array.getElem?_eq_getElem hlt]
    rw [hg] at e
    show _ = if f T[pos] = true then _ else _
    cases hy : f T[pos]
    · rw [hy] at e
      simp only [V, M.step, M.exec, M.word, M.say, Option.isSome_none, Bool.false_eq_true, if_false, chc_size, h3, if_true, Nat.add_zero, h1, op_13, ge_iff_le, hb, hg, e]
    · rw [hy] at e
      simp only [V, M.step, M.exec, M.word, M.say, Option.isSome_none, Bool.false_eq_true, if_false, chc_size, h3, if_true, Nat.add_zero, h1, op_13, ge_iff_le, hb, hg, e, itemWidth]

abbrev nsF (q : Nat) (o : Bool) : Sre.Frame := gf .nextStart 9 q o 0 (-1) (-1)
abbrev nbF (p q : Nat) (o : Bool) : Sre.Frame := gf .nextBranch p q o 0 0 (-1)
theorem drop_get (T : Array Nat) (p j : Nat) : (T.toList.drop p)[j]? = T[p + j]? := by rw [List.getElem?_drop, Array.getElem?_toList]
theorem drop_cons {T : Array Nat} {p c : Nat} (h : T[p]? = some c) : T.toList.drop p = c :: T.toList.drop (p + 1) := by
  obtain ⟨hlt, he⟩ := Array.getElem?_eq_some_iff.mp h
  rw [List.drop_eq_getElem_cons (by simpa using hlt)]
  simp [he]
/-- what an attempt ends as -/
def Ends (T : Array Nat) (s ls : Nat) (bt : List Sre.Frame) (r : Option Nat) (m : M) : Prop := match r with | some k => Found s (s + k) m | none => ∃ a, Falls T s ls a bt m

def orM (a b : Option Nat) : Option Nat := match a with | some k => some k | none => b
theorem brC {m : M} {bt : List Sre.Frame} {o2 : Bool} (hB : Bot bt) (hs : s + 1 ≤ T.size) (h : Falls T s ls (some (s + 1)) (nbF 32 (s + 1) o2 :: bt) m) :
    Gets m (2 * T.size + 15) (Ends T s ls bt ((tailL nameC 32 (T.toList.drop (s + 1))).map (· + 1))) := by
  obtain ⟨pc, pos, hd, lm, li, b, om, sn, rfl⟩ := h
  refine (Gets.step (k := 2 * T.size + 10 + 1) (st_next 63 rfl rfl (by have := hB.len; omega)) ?_).mono (by omega) fun _ h => h
  refine Gets.bind (a := 2 * T.size + 10) (b := 1) (rep_semi hB (P := 64) (hi := 32) (f := nameC) (by decide) rfl rfl rfl cls_name rfl 82 rfl rfl rfl (by decide) rfl rfl hs (by decide)) fun m' h => ?_
  cases e : tailL nameC 32 (T.toList.drop (s + 1)) with
  | some k =>
    rw [e] at h
    refine .now ?_
    show Found s (s + (k + 1)) m'
    have e2 : s + (k + 1) = s + 1 + k := by omega
    rw [e2]; exact h
  | none =>
    rw [e] at h
    obtain ⟨pc, pos, hd, lm, li, b, om, sn, rfl⟩ := h
    exact Gets.step (st_last 86 rfl rfl) (.now ⟨_, _, _, _, _, _, _, _, _, rfl⟩)

def hexM (r : List Nat) : Option Nat := match r with | 35 :: x :: r2 => if isX x then (tailL hexC r2.length r2).map (· + 3) else none | _ => none
theorem tailL_any {f : Nat → Bool} {l : List Nat} {hi : Nat} (h : l.length ≤ hi) : tailL f hi l = tailL f l.length l := by
  have := runL_le f l
  unfold tailL
  have e : (1 ≤ runL f l ∧ runL f l ≤ hi ∧ l[runL f l]? = some 59) ↔ (1 ≤ runL f l ∧ runL f l ≤ l.length ∧ l[runL f l]? = some 59) := ⟨fun ⟨a, _, c⟩ => ⟨a, this, c⟩, fun ⟨a, _, c⟩ => ⟨a, Nat.le_trans this h, c⟩⟩
  simp only [e]
theorem brB {m : M} {bt : List Sre.Frame} {o2 : Bool} (hB : Bot bt) (hT : T.size ≤ 16777216) (hs : s + 1 ≤ T.size) (h : Falls T s ls (some (s + 1)) (nbF 14 (s + 1) o2 :: bt) m) :
    Gets m (4 * T.size + 40) (Ends T s ls bt (orM (hexM (T.toList.drop (s + 1))) ((tailL nameC 32 (T.toList.drop (s + 1))).map (· + 1)))) := by
  obtain ⟨pc, pos, hd, lm, li, b, om, sn, rfl⟩ := h
  have fall : ∀ m', hexM (T.toList.drop (s + 1)) = none → Falls T s ls (some (s + 1)) (nbF 32 (s + 1) o2 :: bt) m' → Gets m' (2 * T.size + 15) (Ends T s ls bt (orM (hexM (T.toList.drop (s + 1))) ((tailL nameC 32 (T.toList.drop (s + 1))).map (· + 1)))) := fun m' e h' => by
    rw [e]; exact brC hB hs h'
  refine (Gets.step (k := ((2 * T.size + 10) + (2 * T.size + 15)) + 1 + 1) (st_next 32 rfl rfl (by have := hB.len; omega)) ?_).mono (by omega) fun _ h => h
  by_cases h35 : T[s + 1]? = some 35
  · refine Gets.step (k := ((2 * T.size + 10) + (2 * T.size + 15)) + 1) (st_lit_yes 35 (by decide) rfl rfl h35) ?_
    obtain ⟨sn1, e⟩ := st_in (T := T) (s := s) (ls := ls) (pc := 35) (pos := s + 1 + 1) (hd := s + 1) (lm := 0) (li := -1) (ms := #[some (s + 1), b]) (fr := (nbF 32 (s + 1) o2 :: bt)) (om := o2) (sn := sn.add 16) (by decide) rfl cls_x
    cases hx : T[s + 1 + 1]? with
    | none =>
      rw [hx] at e
      refine Gets.step e ((fall _ ?_ ⟨_, _, _, _, _, _, _, _, rfl⟩).mono (by omega) fun _ h => h)
      rw [drop_cons h35]
      have : T.toList.drop (s + 1 + 1) = [] := by
        rw [List.drop_eq_nil_iff, Array.length_toList]; exact Array.getElem?_eq_none_iff.mp hx
      rw [this]; rfl
    | some x =>
      rw [hx] at e
      cases hX : isX x
      · simp only [hX, Bool.false_eq_true, if_false] at e
        refine Gets.step e ((fall _ ?_ ⟨_, _, _, _, _, _, _, _, rfl⟩).mono (by omega) fun _ h => h)
        rw [drop_cons h35, drop_cons hx]
        simp [hexM, hX]
      · simp only [hX, if_true] at e
        refine Gets.step (k := (2 * T.size + 10) + (2 * T.size + 15)) e ?_
        have hlt := (Array.getElem?_eq_some_iff.mp hx).1
        refine Gets.bind (a := 2 * T.size + 10) (b := 2 * T.size + 15) (rep_semi hB (P := 42) (hi := 4294967295) (f := hexC) (by decide) rfl rfl rfl cls_hex rfl 59 rfl rfl rfl (by decide) rfl rfl (by omega) (by decide)) fun m' h => ?_
        have hm : hexM (T.toList.drop (s + 1)) = (tailL hexC 4294967295 (T.toList.drop (s + 1 + 1 + 1))).map (· + 3) := by
          rw [drop_cons h35, drop_cons hx, tailL_any (hi := 4294967295) (by rw [List.length_drop, Array.length_toList]; omega)]
          simp [hexM, hX]
        cases e2 : tailL hexC 4294967295 (T.toList.drop (s + 1 + 1 + 1)) with
        | some k =>
          rw [e2] at h hm
          refine .now ?_
          rw [hm]
          show Found s (s + (k + 3)) m'
          have e3 : s + (k + 3) = s + 1 + 1 + 1 + k := by omega
          rw [e3]; exact h
        | none =>
          rw [e2] at h hm
          exact fall _ hm h
  · obtain ⟨sn', e⟩ := st_lit_no (T := T) (s := s) (ls := ls) (pc := 33) (pos := s + 1) (hd := s + 1) (lm := 0) (li := -1) (ms := #[some (s + 1), b]) (fr := (nbF 32 (s + 1) o2 :: bt)) (om := o2) (sn := sn) 35 (by decide) rfl rfl h35
    refine (Gets.step e (fall _ ?_ ⟨_, _, _, _, _, _, _, _, rfl⟩)).mono (by omega) fun _ h => h
    have h0 := drop_get T (s + 1) 0
    rw [Nat.add_zero] at h0
    unfold hexM
    split
    · rename_i e1; rw [e1] at h0; exact absurd h0.symm h35
    · rfl

/-- an attempt at s -/
theorem attempt_at {a b : Option Nat} {bt : List Sre.Frame} (hB : Bot bt) (hT : T.size ≤ 16777216) (hs : s ≤ T.size) :
    Gets (V T s ls 9 s hd (-1) (-1) #[a, b] bt om sn none) (6 * T.size + 60) (Ends T s ls bt (matchL (T.toList.drop s))) := by
  by_cases h38 : T[s]? = some 38
  · have hlt := (Array.getElem?_eq_some_iff.mp h38).1
    rw [drop_cons h38]
    refine (Gets.step (k := (2 * T.size + 10) + (4 * T.size + 40) + 1 + 1 + 1) (st_lit_yes 38 (by decide) rfl rfl h38) ?_).mono (by omega) fun _ h => h
    refine Gets.step (k := (2 * T.size + 10) + (4 * T.size + 40) + 1 + 1) (st_mark 0 (by decide) rfl rfl (by decide)) ?_
    refine Gets.step (k := (2 * T.size + 10) + (4 * T.size + 40) + 1) (st_branch (by decide) rfl rfl (by have := hB.len; omega)) ?_
    show Gets (V T s ls 15 (s + 1) (s + 1) 0 (-1) #[some (s + 1), b] (nbF 14 (s + 1) om :: bt) om _ none) _ _
    by_cases h35 : T[s + 1]? = some 35
    · refine Gets.step (k := (2 * T.size + 10) + (4 * T.size + 40)) (st_lit_yes 35 (by decide) rfl rfl h35) ?_
      have hlt2 := (Array.getElem?_eq_some_iff.mp h35).1
      refine Gets.bind (a := 2 * T.size + 10) (b := 4 * T.size + 40) (rep_semi hB (P := 17) (hi := 7) (f := decC) (by decide) rfl rfl rfl cls_dec rfl 28 rfl rfl rfl (by decide) rfl rfl (by omega) (by decide)) fun m' h => ?_
      rw [drop_cons h35, matchL_num]
      cases e2 : tailL decC 7 (T.toList.drop (s + 1 + 1)) with
      | some k =>
        rw [e2] at h
        refine .now ?_
        unfold numM
        rw [e2]
        show Found s (s + (k + 2)) m'
        have e3 : s + (k + 2) = s + 1 + 1 + k := by omega
        rw [e3]; exact h
      | none =>
        rw [e2] at h
        refine (brB hB hT (by omega) h).mono (Nat.le_refl _) fun m2 h2 => ?_
        have e4 : numM (T.toList.drop (s + 1 + 1)) = orM (hexM (T.toList.drop (s + 1))) ((tailL nameC 32 (T.toList.drop (s + 1))).map (· + 1)) := by
          unfold numM
          rw [e2, drop_cons h35]
          have e5 : tailL nameC 32 (35 :: T.toList.drop (s + 1 + 1)) = none := by
            unfold tailL
            have : runL nameC (35 :: T.toList.drop (s + 1 + 1)) = 0 := by simp [runL, nameC]
            rw [this, if_neg (by omega)]
          rw [e5]
          cases T.toList.drop (s + 1 + 1) with
          | nil => rfl
          | cons x r2 =>
            show (if isX x = true then _ else none) = orM (if isX x = true then _ else none) none
            cases (if isX x = true then (tailL hexC r2.length r2).map (· + 3) else none) <;> rfl
        rw [e4]; exact h2
    · obtain ⟨sn', e⟩ := st_lit_no (T := T) (s := s) (ls := ls) (pc := 15) (pos := s + 1) (hd := s + 1) (lm := 0) (li := -1) (ms := #[some (s + 1), b]) (fr := (nbF 14 (s + 1) om :: bt)) (om := om) (sn := ((sn.add 16).add 17).add 7) 35 (by decide) rfl rfl h35
      have h0 := drop_get T (s + 1) 0
      rw [Nat.add_zero] at h0
      have e1 : matchL (38 :: T.toList.drop (s + 1)) = (tailL nameC 32 (T.toList.drop (s + 1))).map (· + 1) := by
        unfold matchL
        split
        · rename_i e1; injection e1 with _ e1; rw [e1] at h0; exact absurd h0.symm h35
        · rename_i e1; injection e1 with _ e1; rw [e1]
        · rename_i h10; exact (h10 _ rfl).elim
      have e2 : hexM (T.toList.drop (s + 1)) = none := by
        unfold hexM
        split
        · rename_i e1; rw [e1] at h0; exact absurd h0.symm h35
        · rfl
      refine (Gets.step e (brB hB hT (by omega) ⟨_, _, _, _, _, _, _, _, rfl⟩)).mono (by omega) fun m2 h2 => ?_
      rw [e1]
      rw [e2] at h2
      exact h2
  · obtain ⟨sn', e⟩ := st_lit_no (T := T) (s := s) (ls := ls) (pc := 9) (pos := s) (hd := hd) (lm := -1) (li := -1) (ms := #[a, b]) (fr := bt) (om := om) (sn := sn) 38 (by decide) rfl rfl h38
    have : matchL (T.toList.drop s) = none := by
      have h0 := drop_get T s 0
      rw [Nat.add_zero] at h0
      unfold matchL
      split
      · rename_i e1; rw [e1] at h0; exact absurd h0.symm h38
      · rename_i e1; rw [e1] at h0; exact absurd h0.symm h38
      · rfl
    rw [this]
    exact (Gets.step e (.now ⟨_, _, _, _, _, _, _, _, _, rfl⟩) : Gets _ 1 _).mono (by omega) fun _ h => h
end
end
-- part Sre4
section
section
open PySem.Sre
/-- what a search from s ends as -/
def SearchRes (T : Array Nat) (s : Nat) (m : M) : Prop :=
  (∃ p k, s ≤ p ∧ matchL (T.toList.drop p) = some k ∧ (∀ q, s ≤ q → q < p → matchL (T.toList.drop q) = none) ∧ Found p (p + k) m) ∨ ((∀ q, s ≤ q → matchL (T.toList.drop q) = none) ∧ m.outcome = some .failed)
theorem matchL_len {l : List Nat} {k : Nat} (h : matchL l = some k) : 3 ≤ k ∧ k ≤ l.length := by
  unfold matchL at h
  split at h
  · split at h
    · rename_i e
      have := tailL_pos e
      cases h
      simp only [List.length_cons]; omega
    · split at h
      · split at h
        · cases e : tailL hexC _ _ with
          | none => rw [e] at h; cases h
          | some k' =>
            rw [e] at h
            have := tailL_pos e
            cases h
            simp only [List.length_cons]; omega
        · cases h
      · cases h
  · cases e : tailL nameC 32 _ with
    | none => rw [e] at h; cases h
    | some k' =>
      rw [e] at h
      have := tailL_pos e
      cases h
      simp only [List.length_cons]; omega
  · cases h
theorem matchL_out {T : Array Nat} {q : Nat} (h : T.size < q + 3) : matchL (T.toList.drop q) = none := by
  cases e : matchL (T.toList.drop q) with
  | none => rfl
  | some k =>
    have := matchL_len e
    rw [List.length_drop, Array.length_toList] at this
    omega
variable {T : Array Nat}
theorem search_at (hT : T.size ≤ 16777216) : ∀ (n s hd : Nat) (a b : Option Nat) (o : Bool) (om : Bool) (sn : Sre.Seen), s + n = T.size →
    Gets (V T s T.size 9 s hd (-1) (-1) #[a, b] [nsF s o] om sn none) ((n + 1) * (6 * T.size + 62)) (SearchRes T s) := by
  intro n
  induction n with
  | zero =>
    intro s hd a b o om sn hs
    refine (Gets.bind (a := 6 * T.size + 60) (b := 2) (attempt_at (.inr ⟨_, _, _, _, _, _, rfl⟩) hT (by omega)) fun m h => ?_).mono (by omega) fun _ h => h
    rw [matchL_out (by omega)] at h
    obtain ⟨a', pc, pos, hd', lm, li, b', om', sn', rfl⟩ := h
    refine Gets.step (m' := V T s T.size 9 s hd' lm li #[a', b'] [] o sn' (some false)) ?_ ?_
    · rw [st_pop]
      show (if s < T.size then _ else _) = _
      rw [if_neg (by omega)]
      rfl
    · refine Gets.step (st_end false) (.now (.inr ⟨fun q hq => matchL_out (by omega), rfl⟩))
  | succ n ih =>
    intro s hd a b o om sn hs
    have e9 : (n + 1 + 1) * (6 * T.size + 62) = (6 * T.size + 60) + ((n + 1) * (6 * T.size + 62) + 1 + 1) := by rw [Nat.succ_mul (n + 1)]; omega
    rw [e9]
    refine Gets.bind (attempt_at (.inr ⟨_, _, _, _, _, _, rfl⟩) hT (by omega)) fun m h => ?_
    cases hm : matchL (T.toList.drop s) with
    | some k =>
      rw [hm] at h
      exact .now (.inl ⟨s, k, Nat.le_refl _, hm, fun q h1 h2 => by omega, h⟩)
    | none =>
      rw [hm] at h
      obtain ⟨a', pc, pos, hd', lm, li, b', om', sn', rfl⟩ := h
      refine (Gets.step (k := (n + 1) * (6 * T.size + 62)) (m' := V T (s + 1) T.size 9 (s + 1) (s + 1) (-1) (-1) #[a', b'] [nsF (s + 1) false] false sn' none) ?_ ?_).mono (by omega) fun _ h => h
      · rw [st_pop]
        show (if s < T.size then _ else _) = _
        rw [if_pos (by omega)]
        rfl
      · refine (ih (s + 1) _ _ _ _ _ _ (by omega)).mono (Nat.le_refl _) fun m' h' => ?_
        rcases h' with ⟨p, k, h1, h2, h3, h4⟩ | ⟨h1, h2⟩
        · refine .inl ⟨p, k, by omega, h2, fun q hq1 hq2 => ?_, h4⟩
          by_cases hqs : q = s
          · rw [hqs]; exact hm
          · exact h3 q (by omega) hq2
        · refine .inr ⟨fun q hq => ?_, h2⟩
          by_cases hqs : q = s
          · rw [hqs]; exact hm
          · exact h1 q (by omega)

theorem search_gets (hT : T.size ≤ 16777216) {s : Nat} (hs : s ≤ T.size) : Gets (forSearch chc T 1 s T.size false) ((T.size + 2) * (6 * T.size + 62)) (SearchRes T s) := by
  by_cases h : T.size - s < 3
  · have e : forSearch chc T 1 s T.size false = { V T s 0 9 s s (-1) (-1) #[none, none] [] true (({} : Sre.Seen).add 14) (some false) with answer := some false } := by
      unfold forSearch
      show (if (decide (s > T.size) || decide (T.size - s < 3)) = true then _ else _) = _
      rw [if_pos (by simp [h])]
      rfl
    rw [e]
    refine (Gets.step (k := 0) (st_end false) (.now (.inr ⟨fun q hq => matchL_out (by omega), rfl⟩))).mono ?_ fun _ h => h
    have : 1 * 1 ≤ (T.size + 2) * (6 * T.size + 62) := Nat.mul_le_mul (by omega) (by omega)
    omega
  · have e : forSearch chc T 1 s T.size false = V T s T.size 9 s s (-1) (-1) #[none, none] [nsF s true] true (({} : Sre.Seen).add 14) none := by
      unfold forSearch
      show (if (decide (s > T.size) || decide (T.size - s < 3)) = true then _ else _) = _
      rw [if_neg (by simp; omega)]
      rfl
    rw [e]
    exact (search_at hT (T.size - s) s _ _ _ _ _ _ (by omega)).mono (Nat.mul_le_mul (by omega) (Nat.le_refl _)) fun _ h => h

/-- match at the start -/
def MatchRes (T : Array Nat) (m : M) : Prop := match matchL T.toList with | some k => Found 0 k m | none => m.outcome = some .failed
theorem match_gets (hT : T.size ≤ 16777216) : Gets (forMatch chc T 1 0 T.size false false) (6 * T.size + 61) (MatchRes T) := by
  by_cases h : T.size < 3
  · have e : forMatch chc T 1 0 T.size false false = V T 0 0 9 0 0 (-1) (-1) #[none, none] [] true (({} : Sre.Seen).add 14) (some false) := by
      unfold forMatch
      show (if (true && decide (0 ≤ T.size) && decide (T.size - 0 < 3)) = true then _ else _) = _
      rw [if_pos (by simp; omega)]
      rfl
    rw [e]
    refine (Gets.step (k := 0) (st_end false) (.now ?_)).mono (by omega) fun _ h => h
    have := matchL_out (T := T) (q := 0) (by omega)
    rw [List.drop_zero] at this
    unfold MatchRes
    rw [this]; rfl
  · have e : forMatch chc T 1 0 T.size false false = V T 0 0 9 0 0 (-1) (-1) #[none, none] [] true (({} : Sre.Seen).add 14) none := by
      unfold forMatch
      show (if (true && decide (0 ≤ T.size) && decide (T.size - 0 < 3)) = true then _ else _) = _
      rw [if_neg (by simp; omega)]
      rfl
    rw [e]
    refine Gets.bind (a := 6 * T.size + 60) (b := 1) (attempt_at (.inl rfl) hT (Nat.zero_le _)) fun m h => ?_
    rw [List.drop_zero] at h
    unfold MatchRes
    cases hm : matchL T.toList with
    | some k =>
      rw [hm] at h
      refine .now ?_
      have : Found 0 (0 + k) m := h
      rw [Nat.zero_add] at this; exact this
    | none =>
      rw [hm] at h
      obtain ⟨a', pc, pos, hd', lm, li, b', om', sn', rfl⟩ := h
      exact Gets.step (st_end false) (.now rfl)
end
end
-- part Sre5
section
section
open PySem.Sre PySem.Builtin PySem.Builtin.Re
theorem step_fix {m : M} (h : m.outcome.isSome = true) : m.step = m := by unfold M.step; rw [if_pos h]
theorem itr_fix : ∀ (n : Nat) {m : M}, m.outcome.isSome = true → itr n m = m
  | 0, _, _ => rfl
  | n + 1, m, h => by show itr n m.step = m; rw [step_fix h]; exact itr_fix n h
theorem runFor_itr : ∀ (n : Nat) (m : M), M.runFor n m = itr n m
  | 0, _ => rfl
  | n + 1, m => by
    show (if m.outcome.isSome = true then m else M.runFor n m.step) = itr n m.step
    cases h : m.outcome.isSome
    · rw [if_neg Bool.false_ne_true]; exact runFor_itr n m.step
    · rw [if_pos rfl, step_fix h, itr_fix n h]
variable {prog : Program} {w : World} {A : Around} {E : Value → Shared → Prop} {s : Shared}
theorem drive {Q : M → Shared → Prop} {fin : M} (hfin : fin.outcome.isSome = true) : ∀ (n j : Nat) (m : M), j + 1 ≤ 4 * n → itr j m = fin → Q fin s → wpAny (model prog w) A (reDrive n m) Q E s
  | 0, j, m, h, _, _ => by omega
  | n + 1, j, m, h, e, hq => by
    show wpAny _ _ (if (M.runFor 4 m).outcome.isSome = true then pure (M.runFor 4 m) else do rule "sre.turn"; reDrive n (M.runFor 4 m)) _ _ _
    rw [runFor_itr]
    cases ho : (itr 4 m).outcome.isSome
    · rw [if_neg Bool.false_ne_true]
      refine wpAny_bind (wpAny_rule ?_)
      have hj : 4 < j := by
        apply Classical.byContradiction
        intro hc
        obtain ⟨d, hd⟩ : ∃ d, 4 = j + d := ⟨4 - j, by omega⟩
        rw [hd, itr_add, e, itr_fix d hfin, hfin] at ho
        cases ho
      refine drive hfin n (j - 4) _ (by omega) ?_ hq
      rw [← itr_add, ← e]
      congr 1; omega
    · rw [if_pos rfl]
      have : itr 4 m = fin := by
        rcases Nat.le_total 4 j with hc | hc
        · obtain ⟨d, hd⟩ : ∃ d, j = 4 + d := ⟨j - 4, by omega⟩
          rw [← e, hd, itr_add, itr_fix d ho]
        · obtain ⟨d, hd⟩ : ∃ d, 4 = j + d := ⟨4 - j, by omega⟩
          rw [hd, itr_add, e, itr_fix d hfin]
      rw [this]
      exact wpAny_pure hq
theorem rules {Q : PUnit → Shared → Prop} (m : M) (f : Nat → String) (hq : Q ⟨⟩ s) : ∀ l : List Nat, wpAny (model prog w) A (forIn l PUnit.unit fun i _ => (if m.seen.has i = true then (do rule (f i); pure (ForInStep.yield PUnit.unit)) else pure (ForInStep.yield PUnit.unit)) : Sem PUnit) Q E s
  | [] => by
    rw [List.forIn_nil]
    exact wpAny_pure hq
  | i :: l => by
    have ih := rules m f hq l
    rw [List.forIn_cons]
    refine wpAny_bind ?_
    by_cases h : m.seen.has i = true
    · rw [if_pos h]
      refine wpAny_bind (wpAny_rule (wpAny_pure ?_))
      exact ih
    · rw [if_neg h]
      refine wpAny_pure ?_
      exact ih
theorem run_end {Q : Option M → Shared → Prop} {m : M} {k : Nat} {P : M → Prop} (hk : k + 1 ≤ 73786976294838206464) (h : Gets m k P) (hP : ∀ m', P m' → (m'.outcome = some .matched ∧ Q (some m') s) ∨ (m'.outcome = some .failed ∧ Q none s)) :
    wpAny (model prog w) A (reRunToEnd m) Q E s := by
  obtain ⟨j, hj, hp⟩ := h
  have hf := hP _ hp
  have hs : (itr j m).outcome.isSome = true := by rcases hf with ⟨e, _⟩ | ⟨e, _⟩ <;> rw [e] <;> rfl
  unfold reRunToEnd
  refine wpAny_bind (drive hs _ j m (by omega) rfl ?_)
  refine wpAny_bind (rules (itr j m) _ ?_ _)
  rcases hf with ⟨e, hq⟩ | ⟨e, hq⟩
  · rw [e]; exact wpAny_pure hq
  · rw [e]; exact wpAny_pure hq
end
end
-- part IntHex
section
section
open PySem.NumText
theorem hexC_digit {c : Nat} (h : hexC c = true) : digit? c = some (digV c) ∧ digV c < 16 ∧ c ≠ 95 ∧ c ≠ 0 ∧ blank c = false ∧ c ≠ 45 ∧ c ≠ 43 ∧ c < 128 ∧ c ≠ 120 ∧ c ≠ 88 := by
  have hc : c < 128 := by
    simp only [hexC, decC, Bool.or_eq_true, Bool.and_eq_true, decide_eq_true_eq] at h; omega
  exact (by decide +kernel : ∀ c, c < 128 → hexC c = true → digit? c = some (digV c) ∧ digV c < 16 ∧ c ≠ 95 ∧ c ≠ 0 ∧ blank c = false ∧ c ≠ 45 ∧ c ≠ 43 ∧ c < 128 ∧ c ≠ 120 ∧ c ≠ 88) c hc h
theorem step_hex {cs : List Nat} : ∀ (acc : Array Nat) (b : Bool), (∀ c ∈ cs, hexC c = true) → cs.foldlM (NumText.step 16) (acc, b) = some (acc ++ (cs.map digV).toArray, if cs.isEmpty then b else true) := by
  induction cs with
  | nil => intro acc b _; simp
  | cons c cs ih =>
    intro acc b h
    obtain ⟨h1, h2, h3, _⟩ := hexC_digit (h c (List.Mem.head _))
    rw [List.foldlM_cons]
    have e : NumText.step 16 (acc, b) c = some (acc.push (digV c), true) := by
      have h3' : (c == 95) = false := by simpa using h3
      unfold NumText.step
      simp only [h3', Bool.false_eq_true, if_false, h1, h2, if_true]
    rw [e]
    show cs.foldlM (NumText.step 16) (acc.push (digV c), true) = _
    rw [ih _ _ fun x hx => h x (List.Mem.tail _ hx)]
    simp
theorem read_hex {cs : List Nat} (limit : Nat) (h : ∀ c ∈ cs, hexC c = true) (hne : cs ≠ []) : (int_private% "readNumeral") limit 16 cs = (int_private% "Numeral.value") (numL 16 cs : Nat) := by
  rw [readNumeral_eq]
  obtain ⟨c, r, rfl⟩ : ∃ c r, cs = c :: r := by cases cs with | nil => exact absurd rfl hne | cons c r => exact ⟨c, r, rfl⟩
  obtain ⟨_, _, _, _, hb, h45, h43, _⟩ := hexC_digit (h c (List.Mem.head _))
  have e1 : (c :: r).dropWhile blank = c :: r := by simp [hb]
  rw [e1]
  have e2 : NumText.sign (c :: r) = (false, c :: r) := by
    unfold NumText.sign
    split
    · rename_i e; injection e with e _; exact absurd e h45
    · rename_i e; injection e with e _; exact absurd e h43
    · rfl
  rw [e2]
  have e3 : based 16 (c :: r) = (16, false, c :: r) := by
    unfold based
    have : prefix? (c :: r) = none ∨ prefix? (c :: r) = some 8 ∨ prefix? (c :: r) = some 2 := by
      unfold prefix?
      split
      · rename_i d r2 e
        injection e with _ e
        subst e
        obtain ⟨_, _, _, _, _, _, _, _, h120, h88⟩ := hexC_digit (h d (List.Mem.tail _ (List.Mem.head _)))
        have a : (d == 120 || d == 88) = false := by simp [h120, h88]
        rw [a]
        simp only [Bool.false_eq_true, if_false]
        split
        · exact .inr (.inl rfl)
        · split
          · exact .inr (.inr rfl)
          · exact .inl rfl
      · exact .inl rfl
    rcases this with e | e | e <;> rw [e] <;> rfl
  rw [e3]
  have e4 : ((c :: r).reverse.dropWhile blank).reverse = c :: r := by
    have : (c :: r).reverse.dropWhile blank = (c :: r).reverse := by
      cases e : (c :: r).reverse with
      | nil => rfl
      | cons d t =>
        have hd : d ∈ (c :: r) := by rw [← List.mem_reverse, e]; exact List.Mem.head _
        obtain ⟨_, _, _, _, hb, _⟩ := hexC_digit (h d hd)
        simp [hb]
    rw [this, List.reverse_reverse]
  show judge limit false 16 false (digits? 16 (((c :: r).reverse.dropWhile blank).reverse)) = _
  rw [e4]
  have e5 : digits? 16 (c :: r) = some ((c :: r).map digV).toArray := by
    unfold digits?
    rw [step_hex _ _ h]
    simp
  rw [e5]
  show (int_private% "Numeral.value") (((((c :: r).map digV).toArray.foldl (fun acc d => acc * 16 + d) 0 : Nat) : Int)) = _
  congr 2
  rw [List.foldl_toArray, List.foldl_map]
  rfl
end
end
-- part IntCall
section
section
open PySem.NumText
variable {prog : Program} {w : World} {M : Model} {A : Around} {E : Value → Shared → Prop} {s : Shared}
theorem max_digits {Q : Nat → Shared → Prop} (hn : s.heap.NoDigits) (h : Q 4300 s) : wpAny M A Builtin.intMaxStrDigits Q E s := by
  obtain ⟨mc, hns, hnone⟩ := hn
  unfold Builtin.intMaxStrDigits
  refine wpAny_bind (wpAny_nsGet hns ?_)
  rw [hnone]
  exact wpAny_pure h
theorem hex_text {v : Value} {cs : List Nat} {Q : Value → Shared → Prop} (hn : s.heap.NoDigits) (hx : ∀ c ∈ cs, hexC c = true) (hne : cs ≠ []) (h : Q (.int (numL 16 cs : Nat) s.toks) { s with toks := s.toks + 1 }) :
    wpAny M A ((int_private% "intFromText") v cs 16) Q E s := by
  have hs : cs.takeWhile (· != 0) = cs := takeWhile_all fun c hc => by
    obtain ⟨_, _, _, h0, _⟩ := hexC_digit (hx c hc)
    simpa using h0
  show wpAny M A (do
    let limit ← if (cs.takeWhile (· != 0)).length ≤ 640 then pure 0 else Builtin.intMaxStrDigits
    _) Q E s
  rw [hs]
  have key : ∀ limit : Nat, (int_private% "readNumeral") limit 16 cs = (int_private% "Numeral.value") (numL 16 cs : Nat) := fun limit => read_hex limit hx hne
  by_cases h6 : cs.length ≤ 640
  · rw [if_pos h6]
    refine wpAny_bind (wpAny_pure ?_)
    (try dsimp only)
    rw [key]
    (try dsimp only)
    simp only [hs, beq_self_eq_true, if_true]
    exact wpAny_mkInt h
  · rw [if_neg h6]
    (try dsimp only)
    refine wpAny_bind (max_digits hn ?_)
    (try dsimp only)
    rw [key]
    (try dsimp only)
    simp only [hs, beq_self_eq_true, if_true]
    exact wpAny_mkInt h

theorem hex_text2 {v : Value} {text cs : List Nat} {base : Nat} {Q : Value → Shared → Prop} (e : text = cs) (eb : base = 16) (hn : s.heap.NoDigits) (hx : ∀ c ∈ cs, hexC c = true) (hne : cs ≠ []) (h : ∀ t' k, Q (.int (numL 16 cs : Nat) t') { s with toks := k }) :
    wpAny M A ((int_private% "intFromText") v text base) Q E s := by
  subst e; subst eb; exact hex_text hn hx hne (h _ _)
theorem typeCall_int_2 (a b : Value) : checkTypeCall "int" ⟨[a, b], []⟩ = pure () := by kernel_rfl
theorem newCall_int_2 (a b : Value) : checkBuiltinCall "int.__new__" ⟨[.type "int", a, b], []⟩ = pure () := by kernel_rfl
theorem args_init_3 (o a b : Value) : argsOk "object.__init__" ⟨[o, a, b], []⟩ := by unfold argsOk; kernel_rfl
set_option maxHeartbeats 2000000 in
theorem meets_hex {x : PySem.Str} {t u : Tok} (hx : ∀ c ∈ x.cps.toList, hexC c = true) (hne : x.cps.toList ≠ []) :
    Meets (Builtin.«int.__new__» ⟨[.type "int", .str x t, .int 16 u], []⟩) (fun _ R s => s.heap.NoDigits ∧ ∀ t' k, R (.ok (.ret (.int (numL 16 x.cps.toList : Nat) t'))) { s with toks := k }) :=
  .of_wp fun prog w A R s h => by
    obtain ⟨hn, h⟩ := h
    have f1 := F.conv_sub_int
    have f2 := F.madeHere_int
    have ha : (x.cps.all (· < 128)) = true := by
      rw [← Array.all_toList, List.all_eq_true]
      intro c hc
      obtain ⟨_, _, _, _, _, _, _, h8, _⟩ := hexC_digit (hx c hc)
      exact decide_eq_true h8
    have hc : (if (x.cps.all (· < 128)) = true then x.cps.toList else Unicode.numberText x.cps.toList) = x.cps.toList := if_pos ha
    obtain ⟨hp, g, d, tk, os⟩ := s
    have hk := KIN.Hid.mk (And.intro hn (And.intro hx (And.intro hne hc)))
    clear hn hx hne hc ha
    repeat (any_goals (first
      | assumption
      | ((with_reducible show wpAny _ _ ((int_private% "intFromText") _ _ _) _ _ _); refine hex_text2 hk.out.2.2.2 rfl hk.out.1 hk.out.2.1 hk.out.2.2.1 ?_; intro t' k')
      | wp_step))
    all_goals first | exact ⟨_, rfl, h _ _⟩ | skip
theorem call_hex {x : PySem.Str} {t u : Tok} {Q : Value → Shared → Prop} (hn : s.heap.NoDigits) (hx : ∀ c ∈ x.cps.toList, hexC c = true) (hne : x.cps.toList ≠ []) (h : ∀ t' k, Q (.int (numL 16 x.cps.toList : Nat) t') { s with toks := k }) :
    wpAny (model prog w) A (call (.type "int") [.str x t, .int 16 u]) Q E s :=
  callType_new F.called_int F.newNe_int (typeCall_int_2 _ _) (newCall_int_2 _ _) (fun obj => args_init_3 obj _ _) F.entry_int_new (meets_hex hx hne) ⟨hn, fun t' k => ⟨rfl, h t' k⟩⟩
end
end
-- part SubPl
section
/-- what the program makes of a match -/
def repOf (l : List Nat) : List Nat := match refL l with | some p => [p.1] | none => l
theorem tail_none {f : Nat → Bool} {hi : Nat} {l : List Nat} (h : f 38 = false) {k : Nat} (e : tailL f hi l = some k) : ∀ j, j < k → l[j]? ≠ some 38 := fun j hj q => by
  obtain ⟨_, _, rfl, h59, _⟩ := tailL_pos e
  rcases Nat.lt_or_ge j (runL f l) with hl | hl
  · obtain ⟨c, hc, hf⟩ := runL_get hl
    rw [q] at hc; cases hc
    rw [h] at hf; cases hf
  · have : j = runL f l := by omega
    rw [this, h59] at q; cases q
/-- a match holds no further & -/
theorem match_amp {l : List Nat} {k : Nat} (h : matchL l = some k) : ∀ j, 1 ≤ j → j < k → l[j]? ≠ some 38 := fun j h1 hj q => by
  unfold matchL at h
  split at h
  · rename_i r
    split at h
    · rename_i e
      cases h
      match j with
      | 1 => cases q
      | j + 2 => exact tail_none rfl e j (by omega) (by simpa using q)
    · split at h
      · rename_i x r2 _
        split at h
        · rename_i hX
          obtain ⟨k', e, rfl⟩ := Option.map_eq_some_iff.mp h
          match j with
          | 1 => cases q
          | 2 => cases q; revert hX; decide
          | j + 3 => exact tail_none rfl e j (by omega) (by simpa using q)
        · cases h
      · cases h
  · rename_i r _
    obtain ⟨k', e, rfl⟩ := Option.map_eq_some_iff.mp h
    match j with
    | j + 1 => exact tail_none rfl e j (by omega) (by simpa using q)
  · cases h

theorem read_skip : ∀ (k : Nat) (l : List Nat), (∀ j, j < k → l[j]? ≠ some 38) → k ≤ l.length → readL l = l.take k ++ readL (l.drop k)
  | 0, l, _, _ => by simp
  | k + 1, [], _, h => by simp at h
  | k + 1, c :: r, h, hl => by
    have hc : c ≠ 38 := fun e => h 0 (by omega) (by rw [e]; rfl)
    rw [readL_cons, if_neg hc]
    show c :: readL r = _
    rw [read_skip k r (fun j hj q => h (j + 1) (by omega) (by simpa using q)) (by simpa using hl)]
    rfl

theorem tailL_take {f : Nat → Bool} {hi k : Nat} {l : List Nat} (h : tailL f hi l = some k) : runL f (l.take k) = runL f l ∧ (l.take k).takeWhile f = l.takeWhile f ∧ (l.take k)[runL f l]? = some 59 := by
  obtain ⟨_, _, rfl, h59, _⟩ := tailL_pos h
  have e1 : runL f (l.take (runL f l + 1)) = runL f l := by
    show ((l.take (runL f l + 1)).takeWhile f).length = _
    rw [takeN_run]; omega
  refine ⟨e1, ?_, by rw [List.getElem?_take_of_lt (by omega)]; exact h59⟩
  rw [← take_run f (l.take (runL f l + 1)), e1, List.take_take, ← take_run f l]
  congr 1; omega
theorem numAt_take {b k hi : Nat} {r : List Nat} (h : tailL (digC b) hi r = some k) : numAt b (r.take k) = numAt b r := by
  obtain ⟨e1, e2, e3⟩ := tailL_take h
  obtain ⟨_, _, _, h59, _⟩ := tailL_pos h
  unfold numAt
  rw [e1, e2, e3, h59]
theorem named_ok : ∀ p ∈ namedL, ∃ d, p.1 = d ++ [59] ∧ (∀ c ∈ d, nameC c = true) ∧ 1 ≤ d.length ∧ d.length ≤ 32 := by
  intro p hp
  have : (namedL.all fun p => decide (p.1 = p.1.dropLast ++ [59]) && p.1.dropLast.all nameC && decide (1 ≤ p.1.dropLast.length) && decide (p.1.dropLast.length ≤ 32)) = true := by decide
  have h := List.all_eq_true.mp this p hp
  simp only [Bool.and_eq_true, decide_eq_true_eq] at h
  exact ⟨p.1.dropLast, h.1.1.1, List.all_eq_true.mp h.1.1.2, h.1.2, h.2⟩
theorem named_tail {r : List Nat} {p : List Nat × Nat} (hp : p ∈ namedL) (h : r.take p.1.length = p.1) : tailL nameC 32 r = some p.1.length := by
  obtain ⟨d, hd, h1, h2, h3⟩ := named_ok p hp
  have hr : r = d ++ 59 :: r.drop p.1.length := by
    have := List.take_append_drop p.1.length r
    rw [h] at this
    have e2 : p.1 ++ r.drop p.1.length = d ++ 59 :: r.drop p.1.length := by
      generalize r.drop p.1.length = z
      rw [hd, List.append_assoc]; rfl
    exact (e2.symm.trans this).symm
  rw [hr, tailL_run h1 rfl h2, if_pos h3, hd, List.length_append]; rfl
theorem nameAt_mem {r : List Nat} {q : Nat × Nat} : ∀ {l : List (List Nat × Nat)}, nameAt r l = some q → ∃ p ∈ l, r.take p.1.length = p.1 ∧ q = (p.2, p.1.length)
  | [], h => nomatch h
  | p :: l, h => by
    unfold nameAt at h
    split at h
    · rename_i e; cases h; exact ⟨p, List.Mem.head _, e, rfl⟩
    · obtain ⟨p', hp', r'⟩ := nameAt_mem h; exact ⟨p', List.Mem.tail _ hp', r'⟩
theorem nameAt_take {r : List Nat} {k : Nat} (h : tailL nameC 32 r = some k) : ∀ l : List (List Nat × Nat), (∀ p ∈ l, p ∈ namedL) → nameAt (r.take k) l = nameAt r l
  | [], _ => rfl
  | p :: l, hl => by
    have ih := nameAt_take h l fun q hq => hl q (List.Mem.tail _ hq)
    have e : ((r.take k).take p.1.length = p.1) ↔ (r.take p.1.length = p.1) := by
      constructor
      · intro e
        have hlen := congrArg List.length e
        rw [List.take_take] at e
        rw [List.length_take, List.length_take] at hlen
        have : min p.1.length k = p.1.length := by omega
        rw [this] at e; exact e
      · intro e
        have := named_tail (hl p (List.Mem.head _)) e
        rw [h] at this
        injection this with this
        rw [List.take_take, this, Nat.min_self]; exact e
    unfold nameAt
    rw [ih]
    by_cases hc : r.take p.1.length = p.1
    · rw [if_pos hc, if_pos (e.mpr hc)]
    · rw [if_neg hc, if_neg fun q => hc (e.mp q)]

theorem digC16 : digC 16 = hexC := by funext c; simp [digC]
theorem digC10 : digC 10 = decC := by funext c; simp [digC]
theorem dec_x {x : Nat} (h : isX x = true) : decC x = false := by
  unfold isX at h
  simp only [Bool.or_eq_true, beq_iff_eq] at h
  rcases h with rfl | rfl <;> rfl
/-- alone it reads as in the text -/
theorem ref_take {l : List Nat} {k : Nat} (h : matchL l = some k) : refL (l.take k) = refL l := by
  unfold matchL at h
  split at h
  · rename_i r
    split at h
    · rename_i k' e
      cases h
      have hp := tailL_pos e
      cases r with
      | nil => simp at hp
      | cons x r2 =>
        have hx : isX x = false := by
          cases hX : isX x
          · rfl
          · have : runL decC (x :: r2) = 0 := by simp [runL, dec_x hX]
            omega
        obtain ⟨k2, rfl⟩ : ∃ k2, k' = k2 + 1 := ⟨k' - 1, by omega⟩
        show refL (38 :: 35 :: x :: r2.take k2) = _
        unfold refL
        simp only [hx, Bool.false_eq_true, if_false]
        have := numAt_take (b := 10) (hi := 7) (r := x :: r2) (k := k2 + 1) (by rw [digC10]; exact e)
        rw [List.take_succ_cons] at this
        rw [this]
    · split at h
      · rename_i x r2 _
        split at h
        · rename_i hX
          obtain ⟨k', e, rfl⟩ := Option.map_eq_some_iff.mp h
          show refL (38 :: 35 :: x :: r2.take k') = _
          unfold refL
          simp only [hX, if_true]
          rw [numAt_take (b := 16) (hi := r2.length) (by rw [digC16]; exact e)]
        · cases h
      · cases h
  · rename_i r hn
    obtain ⟨k', e, rfl⟩ := Option.map_eq_some_iff.mp h
    have hp := tailL_pos e
    cases r with
    | nil => simp at hp
    | cons x r2 =>
      obtain ⟨k2, rfl⟩ : ∃ k2, k' = k2 + 1 := ⟨k' - 1, by omega⟩
      have hx : x ≠ 35 := fun q => hn r2 (by rw [q])
      have := nameAt_take e namedL fun _ h => h
      rw [List.take_succ_cons] at this
      show refL (38 :: x :: r2.take k2) = _
      have f : ∀ z, refL (38 :: x :: z) = (nameAt (x :: z) namedL).map (fun p => (p.1, p.2 + 1)) := fun z => by
        unfold refL
        split
        · rename_i q; injection q with _ q; injection q with q _; exact absurd q hx
        · rename_i q; injection q with _ q; rw [← q]
        · rename_i q; exact absurd rfl (q _)
      rw [f, f, this]
  · cases h

theorem numAt_tail {b hi : Nat} {r : List Nat} {p : Nat × Nat} (h : numAt b r = some p) (hh : runL (digC b) r ≤ hi) : tailL (digC b) hi r = some p.2 := by
  unfold numAt at h
  split at h
  · rename_i c
    cases h
    unfold tailL
    rw [if_pos ⟨c.1, hh, c.2.1⟩]
  · cases h
/-- what reads is a match of that length -/
theorem ref_match {l : List Nat} {p : Nat × Nat} (h : refL l = some p) : matchL l = some p.2 := by
  unfold refL at h
  split at h
  · split at h
    · rename_i x r2 
      split at h
      · rename_i hX
        obtain ⟨q, hq, rfl⟩ := Option.map_eq_some_iff.mp h
        rw [matchL_num]
        unfold numM
        have : tailL decC 7 (x :: r2) = none := by
          unfold tailL
          have : runL decC (x :: r2) = 0 := by simp [runL, dec_x hX]
          rw [this, if_neg (by omega)]
        rw [this]
        simp only [hX, if_true]
        have := numAt_tail hq (hi := r2.length) (runL_le _ _)
        rw [digC16] at this
        rw [this]; rfl
      · obtain ⟨q, hq, rfl⟩ := Option.map_eq_some_iff.mp h
        rw [matchL_num]
        unfold numM
        have h7 : runL (digC 10) (x :: r2) ≤ 7 := by
          unfold numAt at hq
          split at hq
          · rename_i c; exact c.2.2.1 rfl
          · cases hq
        have := numAt_tail hq (hi := 7) h7
        rw [digC10] at this
        rw [this]
    · cases h
  · rename_i r hn
    obtain ⟨q, hq, rfl⟩ := Option.map_eq_some_iff.mp h
    obtain ⟨p', hp', e, rfl⟩ := nameAt_mem hq
    have := named_tail hp' e
    unfold matchL
    split
    · rename_i q; injection q with _ q; exact absurd q (hn _)
    · rename_i q; injection q with _ q; subst q; rw [this]; rfl
    · rename_i q; exact absurd rfl (q _)
  · cases h
theorem match_head {l : List Nat} {k : Nat} (h : matchL l = some k) : l[0]? = some 38 := by
  unfold matchL at h
  split at h
  · rfl
  · rfl
  · cases h
/-- a match is read whole -/
theorem read_match {l : List Nat} {k : Nat} (h : matchL l = some k) : readL l = repOf (l.take k) ++ readL (l.drop k) := by
  have hl := matchL_len h
  have h0 := match_head h
  cases l with
  | nil => cases h0
  | cons c r =>
    have hc : c = 38 := by simpa using h0
    unfold repOf
    rw [ref_take h, readL_cons, if_pos hc]
    cases hr : refL (c :: r) with
    | some p =>
      obtain ⟨d, n⟩ := p
      have := ref_match hr
      rw [h] at this
      injection this with this
      subst this
      rfl
    | none =>
      obtain ⟨k', rfl⟩ : ∃ k', k = k' + 1 := ⟨k - 1, by omega⟩
      show c :: readL r = _
      rw [read_skip k' r (fun j hj q => match_amp h (j + 1) (by omega) (by omega) (by simpa using q)) (by simp at hl; omega)]
      rfl
/-- signs with no match are read as they stand -/
theorem read_none : ∀ (p : Nat) (l : List Nat), p ≤ l.length → (∀ q, q < p → matchL (l.drop q) = none) → readL l = l.take p ++ readL (l.drop p)
  | 0, l, _, _ => by simp
  | p + 1, [], h, _ => by simp at h
  | p + 1, c :: r, hl, h => by
    have h0 := h 0 (by omega)
    rw [List.drop_zero] at h0
    have hr : refL (c :: r) = none := by
      cases e : refL (c :: r) with
      | none => rfl
      | some q => rw [ref_match e] at h0; cases h0
    rw [readL_cons, hr]
    have : (if c = 38 then (none : Option (Nat × Nat)) else none) = none := by split <;> rfl
    rw [this]
    show c :: readL r = _
    rw [read_none p r (by simpa using hl) fun q hq => by simpa using h (q + 1) (by omega)]
    rfl
end
-- part ReT
section
section
open PySem.Sre PySem.Builtin PySem.Builtin.Re
/-- the pattern and its code lie in the heap -/
structure PatAt (h : Heap) : Prop where
  pat : ∃ o u v w, h.get? 156 = some o ∧ o.cls = .type "re.Pattern" ∧ o.data = .fields #[.str u v, .int 32 w, .int 1 0, .none, .none, .ref 155, .int 0 0]
  code : ∃ o vs n, h.get? 155 = some o ∧ o.data = .seq vs n ∧ (vs.map reRawOf).map (·.toNat) = chc
variable {prog : Program} {w : World} {A : Around} {E : Value → Shared → Prop} {s : Shared}
theorem pat_of {h h₀ : Heap} {L : Addr} {m : Str → Option Value} (F : Fr h₀ L h m) (X : (Mine.hd.heap_39 w.params).In h₀) : PatAt h where
  pat := ⟨_, _, _, _, (X.keeps F.keep) 156 _ rfl, rfl, rfl⟩
  code := ⟨_, _, _, (X.keeps F.keep) 155 _ rfl, rfl, by decide +kernel⟩
theorem fields_of {a : Addr} {o : Obj} {vs : Array Value} {Q : Array Value → Shared → Prop} (ho : s.heap.get? a = some o) (hd : o.data = .fields vs) (h : Q vs s) : wpAny (model prog w) A (fieldsOf (.ref a)) Q E s := by
  unfold fieldsOf
  refine wpAny_bind (wpAny_load ho ?_)
  rw [hd]; exact wpAny_pure h
theorem items_of {a : Addr} {o : Obj} {vs : Array Value} {n : Nat} {Q : Option (Array Value) → Shared → Prop} (ho : s.heap.get? a = some o) (hd : o.data = .seq vs n) (h : Q (some vs) s) : wpAny (model prog w) A (seqItems? (.ref a)) Q E s := by
  unfold seqItems?
  refine wpAny_bind (wpAny_load ho ?_)
  rw [hd]; exact wpAny_pure h
abbrev tgt (x : PySem.Str) (t : Tok) : ReTarget := { pattern := .ref 156, string := .str x t, code := chc, text := x.cps, kind := 0, groups := 1, pos := 0, lim := x.cps.size }
theorem whole_target {x : PySem.Str} {t : Tok} {Q : ReTarget → Shared → Prop} (P : PatAt s.heap) (h : Q (tgt x t) s) : wpAny (model prog w) A (reWholeTarget (.ref 156) (.str x t)) Q E s := by
  obtain ⟨o, u, v, w', ho, hc, hd⟩ := P.pat
  obtain ⟨o2, vs, n, ho2, hd2, hcode⟩ := P.code
  unfold reWholeTarget
  refine wpAny_bind (fields_of ho hd ?_)
  refine wpAny_bind (m := reTextOf (.str x t)) (wpAny_pure ?_)
  refine wpAny_bind (m := reRawItems (.ref 155)) ?_
  unfold reRawItems
  refine wpAny_bind (items_of ho2 hd2 (wpAny_pure ?_))
  refine wpAny_pure ?_
  show Q { pattern := .ref 156, string := .str x t, code := (vs.map reRawOf).map (·.toNat), text := x.cps, kind := 0, groups := 1, pos := 0, lim := x.cps.size } s
  rw [hcode]; exact h
end
end
-- part ReM
section
section
open PySem.Sre PySem.Builtin PySem.Builtin.Re
variable {prog : Program} {w : World} {A : Around} {E : Value → Shared → Prop} {s : Shared}
abbrev mtTup (b e : Nat) : Obj := { cls := .type "tuple", data := .seq [rawInt b, rawInt e, rawInt ((b + 1 : Nat) : Int), rawInt e].toArray }
abbrev mtObj (x : PySem.Str) (t : Tok) (lim : Nat) (to : Addr) : Obj := { cls := .type "re.Match", data := .fields [.str x t, .ref 156, rawInt (0 : Nat), rawInt lim, rawInt 1, .ref to].toArray }
theorem new_match {x : PySem.Str} {t : Tok} {lim b e : Nat} {m : M} {Q : Value → Shared → Prop} (F : Found b e m) (hbe : b + 1 ≤ e)
    (h : Q (.ref (s.heap.objs.size + 1)) { s with heap := (s.heap.push (mtTup b e)).push (mtObj x t lim s.heap.objs.size) }) :
    wpAny (model prog w) A (reNewMatch (.ref 156) (.str x t) 1 0 lim m) Q E s := by
  obtain ⟨_, h1, h2, h3, h4, h5⟩ := F
  unfold reNewMatch
  simp only [h1, h2, h3, h4, h5]
  rw [if_neg (by simp; omega)]
  refine wpAny_bind (wpAny_newTuple (items := [rawInt b, rawInt e, rawInt ((b + 1 : Nat) : Int), rawInt e]) ?_ (by rw [PySem.sizeLine_eq]; simp))
  refine wpAny_newObj_type ?_ (by first | exact trivial | size_fits)
  dsimp only
  rw [Heap.size_push]
  exact h
theorem slot_match : Slot "re.Pattern" "match" "re.Pattern.match" :=
  .of (owner := "re.Pattern") (n := "match") (by rw [typeLookup_type, builtinLookup_eq_fast]; kernel_rfl) (by decide +kernel) (by decide +kernel) (by decide +kernel)
    (by first | exact .inl (by decide +kernel) | exact .inr (by decide +kernel)) (by rw [isSubtype_type]; kernel_rfl)
theorem entry_match : entryFor table "re.Pattern.match" = some Builtin.«re.Pattern.match» := entryFor_of_tree (by kernel_rfl)
theorem args_match (a b : Value) : argsOk "re.Pattern.match" ⟨[a, b], []⟩ := by unfold argsOk; kernel_rfl
theorem type_match : typeOf (.builtin "re.Pattern.match") = pure (.type "method_descriptor") := by show builtinType _ = _; rw [builtinType_eq_fast]; kernel_rfl
end
end
-- part ReN
section
section
open PySem.Sre PySem.Builtin PySem.Builtin.Re
variable {prog : Program} {w : World} {A : Around} {E : Value → Shared → Prop} {s : Shared}
theorem named_match (v : Value) : reNamed "re.Pattern.match" "match" ["string", "pos", "endpos"] 1 [v] [] = pure [some v, none, none] := by kernel_rfl
theorem PatAt.typeIs (P : PatAt s.heap) : s.TypeIs (.ref 156) "re.Pattern" := let ⟨o, _, _, _, ho, hc, _⟩ := P.pat; ⟨o, ho, hc⟩
theorem match_target {x : PySem.Str} {t : Tok} {Q : ReTarget → Shared → Prop} (P : PatAt s.heap) (hx : x.cps.size ≤ 16777216) (h : Q (tgt x t) s) : wpAny (model prog w) A (reTarget "re.Pattern.match" "match" ⟨[.ref 156, .str x t], []⟩) Q E s := by
  obtain ⟨o, u, v, w', ho, hc, hd⟩ := P.pat
  obtain ⟨o2, vs, n, ho2, hd2, hcode⟩ := P.code
  unfold reTarget
  dsimp only
  rw [named_match]
  refine wpAny_bind (wpAny_pure ?_)
  refine wpAny_bind (m := pure (0 : Int)) (wpAny_pure ?_)
  refine wpAny_bind (m := pure ((2 : Int) ^ 63 - 1)) (wpAny_pure ?_)
  refine wpAny_bind (fields_of ho hd ?_)
  refine wpAny_bind (m := reTextOf (.str x t)) (wpAny_pure ?_)
  refine wpAny_bind (m := reRawItems (.ref 155)) ?_
  unfold reRawItems
  refine wpAny_bind (items_of ho2 hd2 (wpAny_pure ?_))
  refine wpAny_pure ?_
  have e : ({ pattern := .ref 156, string := .str x t, code := (vs.map reRawOf).map (·.toNat), text := x.cps, kind := 0, groups := 1, pos := min (0 : Int).toNat x.cps.size, lim := min ((2 : Int) ^ 63 - 1).toNat x.cps.size } : ReTarget) = tgt x t := by
    rw [hcode]
    have e1 : min (0 : Int).toNat x.cps.size = 0 := Nat.zero_min _
    have e2 : min ((2 : Int) ^ 63 - 1).toNat x.cps.size = x.cps.size := Nat.min_eq_right (Nat.le_trans hx (by decide))
    rw [e1, e2]
  exact e ▸ h
theorem match_call {x : PySem.Str} {t : Tok} {Q : Value → Shared → Prop} (P : PatAt s.heap) (hx : x.cps.size ≤ 16777216) (hn : matchL x.cps.toList = none → Q .none s)
    (hs : ∀ k, matchL x.cps.toList = some k → Q (.ref (s.heap.objs.size + 1)) { s with heap := (s.heap.push (mtTup 0 k)).push (mtObj x t x.cps.size s.heap.objs.size) }) :
    wpAny (model prog w) A (call (.builtin "re.Pattern.match") [.ref 156, .str x t]) Q E s := by
  refine wpAny_call (codeAny_call_builtin slot_match.plain entry_match (slot_match.check _ _ _ _ _ _ _ _ P.typeIs (args_match _ _) ?_))
  unfold Builtin.«re.Pattern.match»
  refine wpAny_bind (match_target P hx ?_)
  unfold reAnswer
  refine wpAny_bind (run_end (k := 6 * x.cps.size + 61) (by omega) (match_gets hx) fun m hm => ?_)
  unfold MatchRes at hm
  cases e : matchL x.cps.toList with
  | none => rw [e] at hm; exact .inr ⟨hm, wpAny_pure (hn e)⟩
  | some k =>
    rw [e] at hm
    have := matchL_len e
    refine .inl ⟨hm.1, ?_⟩
    exact wpAny_bind (new_match hm (by omega) (wpAny_pure (hs k e)))
end
end
-- part ReG
section
section
open PySem.Sre PySem.Builtin PySem.Builtin.Re
variable {prog : Program} {w : World} {A : Around} {E : Value → Shared → Prop} {s : Shared}
/-- a match object of the text x from b to e -/
def MtAt (h : Heap) (mo : Addr) (x : PySem.Str) (b e : Nat) : Prop := ∃ (t : Tok) (lim : Nat) (to : Addr), h.get? mo = some (mtObj x t lim to) ∧ h.get? to = some (mtTup b e)
theorem slot_group : Slot "re.Match" "group" "re.Match.group" :=
  .of (owner := "re.Match") (n := "group") (by rw [typeLookup_type, builtinLookup_eq_fast]; kernel_rfl) (by decide +kernel) (by decide +kernel) (by decide +kernel)
    (by first | exact .inl (by decide +kernel) | exact .inr (by decide +kernel)) (by rw [isSubtype_type]; kernel_rfl)
theorem entry_group : entryFor table "re.Match.group" = some Builtin.«re.Match.group» := entryFor_of_tree (by kernel_rfl)
theorem args_group (a b : Value) : argsOk "re.Match.group" ⟨[a, b], []⟩ := by unfold argsOk; kernel_rfl
theorem type_group : typeOf (.builtin "re.Match.group") = pure (.type "method_descriptor") := by show builtinType _ = _; rw [builtinType_eq_fast]; kernel_rfl
theorem MtAt.typeIs {mo : Addr} {x : PySem.Str} {b e : Nat} (P : MtAt s.heap mo x b e) : s.TypeIs (.ref mo) "re.Match" := let ⟨_, _, _, h, _⟩ := P; ⟨_, h, rfl⟩
theorem found_of {mo : Addr} {x : PySem.Str} {b e : Nat} {Q : ReFound → Shared → Prop} (P : MtAt s.heap mo x b e)
    (h : ∀ (t : Tok) (lim : Nat) (to : Addr), Q { fields := #[.str x t, .ref 156, rawInt (0 : Nat), rawInt lim, rawInt 1, .ref to], spans := #[(b : Int), e, ((b + 1 : Nat) : Int), e] } s) : wpAny (model prog w) A (reFound (.ref mo)) Q E s := by
  obtain ⟨t, lim, to, h1, h2⟩ := P
  unfold reFound
  refine wpAny_bind (fields_of h1 rfl ?_)
  refine wpAny_bind (m := reRawItems (.ref to)) ?_
  unfold reRawItems
  refine wpAny_bind (items_of h2 rfl (wpAny_pure ?_))
  have e : ((some [rawInt b, rawInt e, rawInt ((b + 1 : Nat) : Int), rawInt e].toArray).getD #[]).map reRawOf = #[(b : Int), e, ((b + 1 : Nat) : Int), e] := by simp [rawInt, reRawOf]
  rw [e]
  exact wpAny_pure (h t lim to)
theorem group_call {mo : Addr} {x : PySem.Str} {b e : Nat} {u : Tok} {Q : Value → Shared → Prop} (P : MtAt s.heap mo x b e) (hz : x.length ≤ 16777216)
    (h : ∀ t' k, Q (.str ⟨x.cps.extract (b + 1) e⟩ t') { s with toks := k }) : wpAny (model prog w) A (call (.builtin "re.Match.group") [.ref mo, .int 1 u]) Q E s := by
  refine wpAny_call (codeAny_call_builtin slot_group.plain entry_group (slot_group.check _ _ _ _ _ _ _ _ P.typeIs (args_group _ _) ?_))
  unfold Builtin.«re.Match.group»
  refine wpAny_bind (m := noKeywords "Match.group" ⟨[.ref mo, .int 1 u], []⟩) (wpAny_pure ?_)
  dsimp only
  refine wpAny_bind (found_of P fun t lim to => ?_)
  have e1 : reGroupNumber { fields := #[.str x t, .ref 156, rawInt (0 : Nat), rawInt lim, rawInt 1, .ref to], spans := #[(b : Int), e, ((b + 1 : Nat) : Int), e] } (.int 1 u) = pure 1 := by rfl
  rw [e1]
  refine wpAny_bind (wpAny_pure ?_)
  have e2 : reGroupText { fields := #[.str x t, .ref 156, rawInt (0 : Nat), rawInt lim, rawInt 1, .ref to], spans := #[(b : Int), e, ((b + 1 : Nat) : Int), e] } 1 .none = mkStr ⟨x.cps.extract (b + 1) e⟩ := by
    unfold reGroupText
    show (if (decide (((b + 1 : Nat) : Int) < 0) || decide ((e : Int) < 0)) = true then _ else _) = _
    rw [if_neg (by simp; omega)]
    rfl
  rw [e2]
  refine wpAny_bind (wpAny_mkStr (wpAny_pure (h _ _)) ?_)
  show (x.cps.extract (b + 1) e).size ≤ sizeLine
  rw [Array.size_extract, PySem.sizeLine_eq]
  have : x.cps.size ≤ 16777216 := hz
  omega
end
end
-- part ReS
section
section
open PySem.Sre PySem.Builtin PySem.Builtin.Re
variable {prog : Program} {w : World} {A : Around} {E : Value → Shared → Prop} {s : Shared}
theorem slot_sub : Slot "re.Pattern" "sub" "re.Pattern.sub" :=
  .of (owner := "re.Pattern") (n := "sub") (by rw [typeLookup_type, builtinLookup_eq_fast]; kernel_rfl) (by decide +kernel) (by decide +kernel) (by decide +kernel)
    (by first | exact .inl (by decide +kernel) | exact .inr (by decide +kernel)) (by rw [isSubtype_type]; kernel_rfl)
theorem entry_sub : entryFor table "re.Pattern.sub" = some Builtin.«re.Pattern.sub» := entryFor_of_tree (by kernel_rfl)
theorem entry_loop : entryFor table "re.Pattern.sub.loop" = some Builtin.«re.Pattern.sub.loop» := entryFor_of_tree (by kernel_rfl)
theorem args_sub (a b c : Value) : argsOk "re.Pattern.sub" ⟨[a, b, c], []⟩ := by unfold argsOk; kernel_rfl
theorem type_sub : typeOf (.builtin "re.Pattern.sub") = pure (.type "method_descriptor") := by show builtinType _ = _; rw [builtinType_eq_fast]; kernel_rfl
theorem named_sub (v u : Value) : reNamed "re.Pattern.sub" "sub" ["repl", "string", "count"] 2 [v, u] [] = pure [some v, some u, none] := by kernel_rfl
/-- the next match from st -/
theorem next_found {x : PySem.Str} {t : Tok} {st : Nat} {Q : Option M → Shared → Prop} (hx : x.cps.size ≤ 16777216) (hst : st ≤ x.cps.size)
    (hn : (∀ q, st ≤ q → matchL (x.cps.toList.drop q) = none) → Q none s)
    (hs : ∀ p k m, st ≤ p → matchL (x.cps.toList.drop p) = some k → (∀ q, st ≤ q → q < p → matchL (x.cps.toList.drop q) = none) → Found p (p + k) m → Q (some m) s) :
    wpAny (model prog w) A (reNextFound (tgt x t) st false) Q E s := by
  have hb : (x.cps.size + 2) * (6 * x.cps.size + 62) ≤ 16777218 * 100663358 := Nat.mul_le_mul (by omega) (by omega)
  refine run_end (k := (x.cps.size + 2) * (6 * x.cps.size + 62)) (by omega) (search_gets hx hst) fun m hm => ?_
  rcases hm with ⟨p, k, h1, h2, h3, h4⟩ | ⟨h1, h2⟩
  · exact .inl ⟨h4.1, hs p k m h1 h2 h3 h4⟩
  · exact .inr ⟨h2, hn h1⟩
end
end
-- part ReP
section
section
open PySem.Sre PySem.Builtin PySem.Builtin.Re
variable {w : World} {M : Model} {A : Around} {E : Value → Shared → Prop} {s : Shared} {h₀ : Heap} {L : Addr} {m : Str → Option Value}
theorem plain_pat : PlainAttrs "re.Pattern" := ⟨⟨"object.__getattribute__", by rw [typeLookup_type, builtinLookup_eq_fast]; kernel_rfl, by decide +kernel⟩, by rw [typeLookup_type, builtinLookup_eq_fast]; kernel_rfl⟩
theorem plain_match : PlainAttrs "re.Match" := ⟨⟨"object.__getattribute__", by rw [typeLookup_type, builtinLookup_eq_fast]; kernel_rfl, by decide +kernel⟩, by rw [typeLookup_type, builtinLookup_eq_fast]; kernel_rfl⟩
theorem pat_dict (F : Fr h₀ L s.heap m) (X : (Mine.hd.heap_39 w.params).In h₀) : ∀ a, Value.ref 156 = .ref a → ∃ o, s.heap.get? a = some o ∧ o.dict = none := fun a e => by
  cases e
  exact ⟨_, (X.keeps F.keep) 156 _ rfl, rfl⟩
theorem get_match {pl : Sem Bool} {Q : Value × List Value → Shared → Prop} (F : Fr h₀ L s.heap m) (X : (Mine.hd.heap_39 w.params).In h₀) (h : Q (.builtin "re.Pattern.match", [.ref 156]) s) : wpAny M A (getMethod (.ref 156) "match" pl) Q E s :=
  getMethod_builtin (pat_of F X).typeIs plain_pat slot_match type_match (pat_dict F X) h
theorem get_sub {pl : Sem Bool} {Q : Value × List Value → Shared → Prop} (F : Fr h₀ L s.heap m) (X : (Mine.hd.heap_39 w.params).In h₀) (h : Q (.builtin "re.Pattern.sub", [.ref 156]) s) : wpAny M A (getMethod (.ref 156) "sub" pl) Q E s :=
  getMethod_builtin (pat_of F X).typeIs plain_pat slot_sub type_sub (pat_dict F X) h
theorem get_group {mo : Addr} {x : PySem.Str} {b e : Nat} {pl : Sem Bool} {Q : Value × List Value → Shared → Prop} (P : MtAt s.heap mo x b e) (h : Q (.builtin "re.Match.group", [.ref mo]) s) : wpAny M A (getMethod (.ref mo) "group" pl) Q E s :=
  getMethod_builtin P.typeIs plain_match slot_group type_group (fun a e => by cases e; obtain ⟨_, _, _, h1, _⟩ := P; exact ⟨_, h1, rfl⟩) h
end
end
-- part ReplPl
section
theorem tailL_self {f : Nat → Bool} {hi k : Nat} {l : List Nat} (h : tailL f hi l = some k) (h59 : f 59 = false) : ∃ d r, l = d ++ 59 :: r ∧ (∀ c ∈ d, f c = true) ∧ 1 ≤ d.length ∧ d.length ≤ hi ∧ k = d.length + 1 := by
  obtain ⟨h1, _, rfl, h2, h3⟩ := tailL_pos h
  refine ⟨l.takeWhile f, l.drop (runL f l + 1), ?_, fun c hc => ?_, by show 1 ≤ runL f l; omega, h3, rfl⟩
  · have := drop_at h2
    rw [← this, ← take_run f l, List.take_append_drop]
  · exact List.all_eq_true.mp List.all_takeWhile c hc

/-- a match alone: its kinds -/
theorem match_kinds {M : List Nat} (h : matchL M = some M.length) :
    (∃ d, M = 38 :: 35 :: (d ++ [59]) ∧ (∀ c ∈ d, decC c = true) ∧ 1 ≤ d.length ∧ d.length ≤ 7) ∨
    (∃ x d, M = 38 :: 35 :: x :: (d ++ [59]) ∧ isX x = true ∧ (∀ c ∈ d, hexC c = true) ∧ 1 ≤ d.length) ∨
    (∃ d, M = 38 :: (d ++ [59]) ∧ (∀ c ∈ d, nameC c = true) ∧ 1 ≤ d.length) := by
  have fin : ∀ {f : Nat → Bool} {hi : Nat} {r : List Nat}, f 59 = false → tailL f hi r = some r.length → ∃ d, r = d ++ [59] ∧ (∀ c ∈ d, f c = true) ∧ 1 ≤ d.length ∧ d.length ≤ hi := fun h59 e => by
    obtain ⟨d, r', hr, h1, h2, h3, h4⟩ := tailL_self e h59
    have : r' = [] := by
      have := congrArg List.length hr
      rw [List.length_append, List.length_cons] at this
      exact List.length_eq_zero_iff.mp (by omega)
    subst this
    exact ⟨d, hr, h1, h2, h3⟩
  unfold matchL at h
  split at h
  · rename_i r
    split at h
    · rename_i k e
      injection h with h
      rw [List.length_cons, List.length_cons] at h
      have : k = r.length := by omega
      subst this
      obtain ⟨d, hd, h1, h2, h3⟩ := fin rfl e
      exact .inl ⟨d, by rw [hd], h1, h2, h3⟩
    · split at h
      · rename_i x r2 _
        split at h
        · rename_i hX
          obtain ⟨k', e, h⟩ := Option.map_eq_some_iff.mp h
          rw [List.length_cons, List.length_cons, List.length_cons] at h
          have : k' = r2.length := by omega
          subst this
          obtain ⟨d, hd, h1, h2, h3⟩ := fin rfl e
          exact .inr (.inl ⟨x, d, by rw [hd], hX, h1, h2⟩)
        · cases h
      · cases h
  · rename_i r _
    obtain ⟨k', e, h⟩ := Option.map_eq_some_iff.mp h
    rw [List.length_cons] at h
    have : k' = r.length := by omega
    subst this
    obtain ⟨d, hd, h1, h2, h3⟩ := fin rfl e
    exact .inr (.inr ⟨d, by rw [hd], h1, h2⟩)
  · cases h
theorem tailL_takeN {f : Nat → Bool} {hi hi2 k : Nat} {l : List Nat} (h : tailL f hi l = some k) (h2 : k ≤ hi2 + 1) : tailL f hi2 (l.take k) = some k := by
  obtain ⟨e1, _, e3⟩ := tailL_take h
  obtain ⟨h1, _, rfl, _, _⟩ := tailL_pos h
  unfold tailL
  rw [e1, if_pos ⟨by omega, by omega, e3⟩]
theorem match_take {l : List Nat} {k : Nat} (h : matchL l = some k) : matchL (l.take k) = some k := by
  unfold matchL at h
  split at h
  · rename_i r
    split at h
    · rename_i k' e
      cases h
      have hp := tailL_pos e
      show matchL (38 :: 35 :: r.take k') = _
      rw [matchL_num]
      unfold numM
      rw [tailL_takeN e (by omega)]
    · rename_i e0
      split at h
      · rename_i x r2
        split at h
        · rename_i hX
          obtain ⟨k', e, rfl⟩ := Option.map_eq_some_iff.mp h
          have hp := tailL_pos e
          show matchL (38 :: 35 :: x :: r2.take k') = _
          rw [matchL_num]
          unfold numM
          have : tailL decC 7 (x :: r2.take k') = none := by
            unfold tailL
            have : runL decC (x :: r2.take k') = 0 := by simp [runL, dec_x hX]
            rw [this, if_neg (by omega)]
          rw [this]
          simp only [hX, if_true]
          rw [tailL_takeN e (by rw [List.length_take]; omega)]; rfl
        · cases h
      · cases h
  · rename_i r hn
    obtain ⟨k', e, rfl⟩ := Option.map_eq_some_iff.mp h
    have hp := tailL_pos e
    show matchL (38 :: r.take k') = _
    have e2 := tailL_takeN (hi2 := 32) e (by omega)
    unfold matchL
    split
    · rename_i q; injection q with _ q
      cases r with
      | nil => simp at q
      | cons x r2 =>
        obtain ⟨k2, rfl⟩ : ∃ k2, k' = k2 + 1 := ⟨k' - 1, by omega⟩
        rw [List.take_succ_cons] at q
        injection q with q _
        exact absurd (by rw [q]) (hn r2)
    · rename_i q; injection q with _ q; rw [← q, e2]; rfl
    · rename_i q; exact absurd rfl (q _)
  · cases h
end
-- part ReplN
section
abbrev namedD : List (PyData × PyData) := [(PyData.str { cps := #[97, 109, 112, 59] }, PyData.str { cps := #[38] }), (PyData.str { cps := #[108, 116, 59] }, PyData.str { cps := #[60] }), (PyData.str { cps := #[103, 116, 59] }, PyData.str { cps := #[62] }), (PyData.str { cps := #[113, 117, 111, 116, 59] }, PyData.str { cps := #[34] }), (PyData.str { cps := #[99, 111, 112, 121, 59] }, PyData.str { cps := #[169] }), (PyData.str { cps := #[110, 98, 115, 112, 59] }, PyData.str { cps := #[160] })]
theorem same_str (a b : PySem.Str) : Spec.same (PyData.str a) (PyData.str b) = (a == b) := by first | rfl | (unfold Spec.same; rfl) | (simp [Spec.same])
theorem str_eq_cps {a b : PySem.Str} : (a == b) = decide (b.cps.toList = a.cps.toList) := by
  obtain ⟨a⟩ := a; obtain ⟨b⟩ := b
  rw [Bool.eq_iff_iff, beq_iff_eq, decide_eq_true_eq]
  constructor
  · intro e; cases e; rfl
  · intro e; congr 1; exact (Array.toList_inj.mp e).symm
/-- no other name than the six -/
theorem named_value {nm : PySem.Str} {v : Value} {M : List Nat} (hM : M = 38 :: nm.cps.toList) (h : matchL M = some M.length) (h35 : nm.cps.toList.head? ≠ some 35)
    (hv : PyProof.V.Flat v ((Spec.lookup (PyData.str nm) namedD).getD (PyData.str (Str.ofString "&" ++ nm)))) : ∃ y ty, v = .str y ty ∧ y.cps.toList = repOf M := by
  have ht : tailL nameC 32 nm.cps.toList = some nm.cps.toList.length := by
    rw [hM] at h
    unfold matchL at h
    split at h
    · rename_i e; injection e with _ e; rw [e] at h35; exact absurd rfl h35
    · rename_i e; injection e with _ e; subst e
      obtain ⟨k, e, hk⟩ := Option.map_eq_some_iff.mp h
      rw [List.length_cons] at hk
      rw [e]; congr 1; omega
    · cases h
  have eqv : ∀ p ∈ namedL, (nm.cps.toList.take p.1.length = p.1) ↔ (nm.cps.toList = p.1) := fun p hp => by
    constructor
    · intro e
      have := named_tail hp e
      rw [ht] at this
      injection this with this
      rw [← this, List.take_length] at e; exact e
    · intro e; rw [← e, List.take_length]
  have hr : refL M = (nameAt nm.cps.toList namedL).map (fun p => (p.1, p.2 + 1)) := by
    rw [hM]
    unfold refL
    split
    · rename_i e; injection e with _ e; rw [e] at h35; exact absurd rfl h35
    · rename_i e; injection e with _ e; rw [e]
    · rename_i q; exact absurd rfl (q _)
  unfold repOf
  rw [hr]
  simp only [Spec.lookup, same_str, str_eq_cps, decide_eq_true_eq] at hv
  simp only [nameAt, namedL] at eqv ⊢
  have e1 := eqv ([97, 109, 112, 59], 38) (by simp)
  have e2 := eqv ([108, 116, 59], 60) (by simp)
  have e3 := eqv ([103, 116, 59], 62) (by simp)
  have e4 := eqv ([113, 117, 111, 116, 59], 34) (by simp)
  have e5 := eqv ([99, 111, 112, 121, 59], 169) (by simp)
  have e6 := eqv ([110, 98, 115, 112, 59], 160) (by simp)
  dsimp only at e1 e2 e3 e4 e5 e6
  simp only [e1, e2, e3, e4, e5, e6]
  split at hv
  · rename_i c; obtain ⟨t, rfl⟩ := hv.str_inv; rw [if_pos c]; exact ⟨_, t, rfl, rfl⟩
  rename_i c; rw [if_neg c]
  split at hv
  · rename_i c; obtain ⟨t, rfl⟩ := hv.str_inv; rw [if_pos c]; exact ⟨_, t, rfl, rfl⟩
  rename_i c; rw [if_neg c]
  split at hv
  · rename_i c; obtain ⟨t, rfl⟩ := hv.str_inv; rw [if_pos c]; exact ⟨_, t, rfl, rfl⟩
  rename_i c; rw [if_neg c]
  split at hv
  · rename_i c; obtain ⟨t, rfl⟩ := hv.str_inv; rw [if_pos c]; exact ⟨_, t, rfl, rfl⟩
  rename_i c; rw [if_neg c]
  split at hv
  · rename_i c; obtain ⟨t, rfl⟩ := hv.str_inv; rw [if_pos c]; exact ⟨_, t, rfl, rfl⟩
  rename_i c; rw [if_neg c]
  split at hv
  · rename_i c; obtain ⟨t, rfl⟩ := hv.str_inv; rw [if_pos c]; exact ⟨_, t, rfl, rfl⟩
  rename_i c; rw [if_neg c]
  obtain ⟨t, rfl⟩ := hv.str_inv
  refine ⟨_, t, rfl, ?_⟩
  rw [hM, cps_app]
  rfl
end
-- part ReplI
section
theorem slice_but {x : PySem.Str} {i : Int} (h0 : 0 ≤ i) (h1 : i + 1 ≤ x.length) : (Txt.slice x (some i) (some (-1))).cps.toList = (x.cps.toList.drop i.toNat).take (x.length - 1 - i.toNat) := by
  have e : Txt.slice x (some i) (some (-1)) = Txt.slice x (some i) (some ((x.length : Int) - 1)) := by
    unfold Txt.slice Builtin.Str.strSliceIndices
    have a1 : ¬ ((x.length : Int) - 1 < 0) := by omega
    simp only [a1, if_false, show (-1 : Int) < 0 from by decide, if_true]
    rw [show (-1 : Int) + x.length = x.length - 1 by omega]
  rw [e, slice_plain h0 (by omega) (by omega)]
  congr 1; omega
theorem numAt_self {b : Nat} {d : List Nat} (hd : ∀ c ∈ d, digC b c = true) (h1 : 1 ≤ d.length) (h7 : b = 10 → d.length ≤ 7) :
    numAt b (d ++ [59]) = if keptF (numL b d : Nat) = true then some (numL b d, d.length + 1) else none := by
  have h59 : digC b 59 = false := by unfold digC; split <;> rfl
  unfold numAt
  rw [runL_run hd h59, takeWhile_run hd h59]
  have e : (d ++ [59])[d.length]? = some 59 := by simp
  by_cases h : keptF (numL b d : Nat) = true
  · rw [if_pos h, if_pos ⟨h1, e, h7, h⟩]
  · rw [if_neg h, if_neg fun c => h c.2.2.2]
theorem dec_rep {d : List Nat} (hd : ∀ c ∈ d, decC c = true) (h1 : 1 ≤ d.length) (h7 : d.length ≤ 7) : repOf (38 :: 35 :: (d ++ [59])) = if keptF (numL 10 d : Nat) = true then [numL 10 d] else 38 :: 35 :: (d ++ [59]) := by
  have e := numAt_self (b := 10) (d := d) (by rw [digC10]; exact hd) h1 fun _ => h7
  have hr : refL (38 :: 35 :: (d ++ [59])) = (numAt 10 (d ++ [59])).map (fun p => (p.1, p.2 + 2)) := by
    cases d with
    | nil => simp at h1
    | cons c d =>
      have hX := isX_dec (hd c (.head _))
      show refL (38 :: 35 :: c :: (d ++ [59])) = _
      unfold refL
      simp only [hX, Bool.false_eq_true, if_false]
      rfl
  unfold repOf
  rw [hr, e]
  by_cases h : keptF (numL 10 d : Nat) = true
  · rw [if_pos h, if_pos h]; rfl
  · rw [if_neg h, if_neg h]; rfl
theorem hex_rep {x : Nat} {d : List Nat} (hX : isX x = true) (hd : ∀ c ∈ d, hexC c = true) (h1 : 1 ≤ d.length) : repOf (38 :: 35 :: x :: (d ++ [59])) = if keptF (numL 16 d : Nat) = true then [numL 16 d] else 38 :: 35 :: x :: (d ++ [59]) := by
  have e := numAt_self (b := 16) (d := d) (by rw [digC16]; exact hd) h1 (fun q => nomatch q)
  have hr : refL (38 :: 35 :: x :: (d ++ [59])) = (numAt 16 (d ++ [59])).map (fun p => (p.1, p.2 + 3)) := by
    unfold refL
    simp only [hX, if_true]
  unfold repOf
  rw [hr, e]
  by_cases h : keptF (numL 16 d : Nat) = true
  · rw [if_pos h, if_pos h]; rfl
  · rw [if_neg h, if_neg h]; rfl
/-- a number's kinds -/
theorem kind_num {nm : PySem.Str} {M l : List Nat} (hM : M = 38 :: l) (hnm : nm.cps.toList = l) (h : matchL M = some M.length) (h35 : (Txt.item nm 0 != Str.ofString "#") = false) (h2 : 2 ≤ nm.length) :
    (∃ d, nm.cps.toList = 35 :: (d ++ [59]) ∧ (∀ c ∈ d, decC c = true) ∧ 1 ≤ d.length ∧ d.length ≤ 7) ∨ (∃ x d, nm.cps.toList = 35 :: x :: (d ++ [59]) ∧ isX x = true ∧ (∀ c ∈ d, hexC c = true) ∧ 1 ≤ d.length) := by
  have hh : nm.cps.toList[(0 : Int).toNat]? = some 35 := (ofS_hash (by decide) (by omega)).mp (by simpa [bne] using h35)
  subst hnm
  rcases match_kinds h with ⟨d, e, r⟩ | ⟨x, d, e, r⟩ | ⟨d, e, r1, r2⟩
  · rw [hM] at e; injection e with _ e; exact .inl ⟨d, e, r⟩
  · rw [hM] at e; injection e with _ e; exact .inr ⟨x, d, e, r⟩
  · rw [hM] at e; injection e with _ e
    rw [e] at hh
    cases d with
    | nil => simp at r2
    | cons c d =>
      have hc : c = 35 := by simpa using hh
      subst hc
      have := r1 35 (.head _)
      cases this
theorem item1_X {nm : PySem.Str} {c : Nat} {l : List Nat} {b : Bool} (hnm : nm.cps.toList = 35 :: c :: l) (hc : okC c = true) (h : (Builtin.Str.occurrences (Str.ofString "xX") (Txt.item nm 1) 0 (Str.ofString "xX").length 1).isEmpty = b) : isX c = !b := by
  have hl : nm.length = l.length + 2 := by rw [len_cps, hnm]; rfl
  obtain ⟨d, hd, e⟩ := item_at (x := nm) (k := 1) (by decide) (by rw [hl]; exact Nat.lt_of_lt_of_le Nat.one_lt_two (Nat.le_add_left 2 _))
  have hdc : d = c := by
    rw [hnm] at hd
    have : (35 :: c :: l)[(1 : Int).toNat]? = some c := rfl
    rw [this] at hd; injection hd with hd; exact hd.symm
  subst hdc
  rw [e, occ_X d hc] at h
  rw [← h, Bool.not_not]
theorem digits_num {d : List Nat} (hd : ∀ c ∈ d, decC c = true) : PySem.NumText.digitsVal d = numL 10 d := by
  have : ∀ (l : List Nat) (a : Nat), (∀ c ∈ l, decC c = true) → l.foldl (fun acc c => acc * 10 + (c - 48)) a = l.foldl (fun n c => n * 10 + digV c) a := by
    intro l
    induction l with
    | nil => intro a _; rfl
    | cons c l ih =>
      intro a h
      have hc := h c (.head _)
      simp only [decC, Bool.and_eq_true, decide_eq_true_eq] at hc
      rw [List.foldl_cons, List.foldl_cons, ih _ fun x hx => h x (.tail _ hx)]
      congr 1
      unfold digV
      rw [if_pos hc.2]
  exact this d 0 hd
theorem alone_str {x : PySem.Str} {d : List Nat} (h : x.cps.toList = d) : x = ⟨d.toArray⟩ := by
  obtain ⟨a⟩ := x
  subst h
  simp
section
variable {prog : Program} {w : World} {A : Around} {E : Value → Shared → Prop} {s : Shared} {h₀ : Heap} {L : Addr} {m : Str → Option Value} {p : Program} {loose : List Str} {mean : ExcName → Option Value} {mg mb : Str → Option Value}
theorem int_dec {nm : PySem.Str} {M l : List Nat} {t : Tok} {Q : Value → Shared → Prop} (hM : M = 38 :: l) (hnm : nm.cps.toList = l) (h : matchL M = some M.length) (h35 : (Txt.item nm 0 != Str.ofString "#") = false) (h2 : 2 ≤ nm.length)
    (hX : (Builtin.Str.occurrences (Str.ofString "xX") (Txt.item nm 1) 0 (Str.ofString "xX").length 1).isEmpty = true)
    (hq : ∀ (n : Int) t' k, 0 ≤ n → repOf M = (if keptF n = true then [n.toNat] else M) → Q (.int n t') { s with toks := k }) :
    wpAny (model prog w) A (call (.type "int") [.str (Txt.slice nm (some 1) (some (-1))) t]) Q E s := by
  rcases kind_num hM hnm h h35 h2 with ⟨d, e, hd, h1, h7⟩ | ⟨x, d, e, hx, hd, h1⟩
  · have hl : nm.length = d.length + 2 := by rw [len_cps, e]; simp
    have es : (Txt.slice nm (some 1) (some (-1))).cps.toList = d := by
      rw [slice_but (by decide) (by omega), e, hl]
      show ((d ++ [59]).take _) = d
      rw [show d.length + 2 - 1 - (1 : Int).toNat = d.length by show d.length + 2 - 1 - 1 = _; omega]
      simp
    have hA : PySem.NumText.AllDigits d := fun c hc => by have := hd c hc; simpa only [decC, Bool.and_eq_true, decide_eq_true_eq] using this
    have hsl : (Txt.slice nm (some 1) (some (-1))).length = d.length := by rw [len_cps, es]
    refine KIN.call_text (n := ((numL 10 d : Nat) : Int)) ?_ (by omega) (hq _ _ _ (Int.natCast_nonneg _) ?_)
    · rw [PySem.intText_digits (by rw [es]; exact hA) (by rw [es]; intro q; rw [q] at h1; simp at h1) (by omega), es, digits_num hd]
    · rw [hM, ← hnm, e]; exact dec_rep hd h1 h7
  · have := item1_X e (by simp only [isX, Bool.or_eq_true, beq_iff_eq] at hx; rcases hx with rfl | rfl <;> rfl) hX
    rw [hx] at this; cases this
theorem int_hex {nm : PySem.Str} {M l : List Nat} {t u : Tok} {Q : Value → Shared → Prop} (F : Fr h₀ L s.heap m) (T : Top p loose mean mg mb h₀) (hM : M = 38 :: l) (hnm : nm.cps.toList = l) (h : matchL M = some M.length) (h35 : (Txt.item nm 0 != Str.ofString "#") = false) (h2 : 2 ≤ nm.length)
    (hX : (Builtin.Str.occurrences (Str.ofString "xX") (Txt.item nm 1) 0 (Str.ofString "xX").length 1).isEmpty = false)
    (hq : ∀ (n : Int) t' k, 0 ≤ n → repOf M = (if keptF n = true then [n.toNat] else M) → Q (.int n t') { s with toks := k }) :
    wpAny (model prog w) A (call (.type "int") [.str (Txt.slice nm (some 2) (some (-1))) t, .int 16 u]) Q E s := by
  have hn : s.heap.NoDigits := by
    obtain ⟨mc, h1, h2⟩ := T.nodigits
    exact ⟨mc, h1.keeps F.keep, h2⟩
  rcases kind_num hM hnm h h35 h2 with ⟨d, e, hd, h1, h7⟩ | ⟨x, d, e, hx, hd, h1⟩
  · cases d with
    | nil => simp at h1
    | cons c d =>
      have := item1_X (c := c) (l := d ++ [59]) e (hexC_ok (decC_hex (hd c (.head _)))) hX
      rw [isX_dec (hd c (.head _))] at this; cases this
  · have hl : nm.length = d.length + 3 := by rw [len_cps, e]; simp
    have es : (Txt.slice nm (some 2) (some (-1))).cps.toList = d := by
      rw [slice_but (by decide) (by omega), e, hl]
      show ((d ++ [59]).take _) = d
      rw [show d.length + 3 - 1 - (2 : Int).toNat = d.length by show d.length + 3 - 1 - 2 = _; omega]
      simp
    refine call_hex hn (by rw [es]; exact hd) (by rw [es]; intro q; rw [q] at h1; simp at h1) fun t' k => ?_
    rw [es]
    refine hq _ _ _ (Int.natCast_nonneg _) ?_
    rw [hM, ← hnm, e]; exact hex_rep hx hd h1
end
end
-- part Repl
section
theorem tri_any {n : Int} : ([9, 10, 12].any fun x => x == n) = decide (n = 9 ∨ n = 10 ∨ n = 12) := by
  simp only [List.any_cons, List.any_nil, Bool.or_false]
  rw [Bool.eq_iff_iff]
  simp only [Bool.or_eq_true, beq_iff_eq, decide_eq_true_eq]
  omega
theorem kept_tri {n : Int} (h : ([9, 10, 12].any fun x => x == n) = true) : keptF n = true := by
  rw [tri_any, decide_eq_true_eq] at h
  unfold keptF; exact decide_eq_true (by omega)
theorem kept_mod {n : Int} (h0 : 65008 ≤ n) (h1 : n ≤ 1114111) (h2 : n.fmod 65536 < 65534) : keptF n = true := by
  rw [Int.fmod_eq_emod_of_nonneg n (by decide)] at h2
  unfold keptF; exact decide_eq_true (by omega)
theorem kept_notri {n : Int} (h : ([9, 10, 12].any fun x => x == n) = false) (h1 : n < 160) (h2 : ¬ 32 ≤ n ∨ ¬ n < 127) : keptF n = false := by
  rw [tri_any, decide_eq_false_iff_not] at h
  unfold keptF; exact decide_eq_false (by omega)
theorem kept_nomod {n : Int} (h0 : 65008 ≤ n) (h2 : ¬ n.fmod 65536 < 65534) : keptF n = false := by
  rw [Int.fmod_eq_emod_of_nonneg n (by decide)] at h2
  unfold keptF; exact decide_eq_false (by omega)
theorem rep_yes {n : Int} {M : List Nat} (h : repOf M = if keptF n = true then [n.toNat] else M) (hk : keptF n = true) : (⟨#[n.toNat]⟩ : PySem.Str).cps.toList = repOf M := by
  rw [h, if_pos hk]
theorem rep_no {n : Int} {nm : PySem.Str} {M l : List Nat} (h : repOf M = if keptF n = true then [n.toNat] else M) (hM : M = 38 :: l) (hnm : nm.cps.toList = l) (hk : keptF n = false) : (Str.ofString "&" ++ nm).cps.toList = repOf M := by
  rw [h, if_neg (by rw [hk]; exact Bool.false_ne_true), cps_app, hM, hnm]
  rfl
theorem head35 {nm : PySem.Str} (h2 : 2 ≤ nm.length) (h35 : (Txt.item nm 0 != Str.ofString "#") = true) : nm.cps.toList.head? ≠ some 35 := by
  intro q
  have := (ofS_hash (by decide) (by omega)).mpr (show nm.cps.toList[(0 : Int).toNat]? = some 35 by rw [List.head?_eq_getElem?] at q; exact q)
  rw [bne, this] at h35
  cases h35
section
theorem group_use {prog : Program} {w : World} {A : Around} {E : Value → Shared → Prop} {s : Shared} {mo : Addr} {x : PySem.Str} {b e : Nat} {u : Tok} {Q : Value → Shared → Prop} (P : MtAt s.heap mo x b e) (hz : x.length ≤ 16777216) (hbe : b + 3 ≤ e) (he : e ≤ x.length)
    (h : ∀ (y : PySem.Str) t' k, y.cps.toList = (x.cps.toList.drop (b + 1)).take (e - (b + 1)) → 2 ≤ y.length → y.length = e - (b + 1) → Q (.str y t') { s with toks := k }) : wpAny (model prog w) A (call (.builtin "re.Match.group") [.ref mo, .int 1 u]) Q E s := by
  have hl : (⟨x.cps.extract (b + 1) e⟩ : PySem.Str).length = e - (b + 1) := by
    show (x.cps.extract (b + 1) e).size = _
    rw [Array.size_extract]
    have : e ≤ x.cps.size := he
    omega
  refine group_call P hz fun t' k => h _ t' k ?_ (by omega) hl
  show (x.cps.extract (b + 1) e).toList = _
  simp [Array.toList_extract, List.extract_eq_take_drop]
local macro_rules | `(tactic| walk_at "getMethod ref") => `(tactic| (k_here; (with_reducible show wpAny _ _ (getMethod (Value.ref _) _ _) _ _ _); (refine get_group (by assumption) ?_)))
local macro_rules | `(tactic| walk_at "call builtin:re.Match.group") => `(tactic| (k_here; (refine group_use (by assumption) (by assumption) (by assumption) (by assumption) ?_); intro nm' _ _ hnm' hn2' hnl'))
local macro_rules | `(tactic| walk_at "call type:int") => `(tactic| (k_here; (with_reducible show wpAny _ _ (call (Value.type "int") [Value.str _ _]) _ _ _); (refine int_dec (by assumption) (by assumption) (by assumption) (by assumption) (by assumption) (by assumption) ?_); intro n' _ _ hn0' hrep'))
local macro_rules | `(tactic| walk_at "call type:int") => `(tactic| (k_here; (with_reducible show wpAny _ _ (call (Value.type "int") [Value.str _ _, Value.int 16 _]) _ _ _); (refine int_hex (by k_asm) (by k_asm) (by assumption) (by assumption) (by assumption) (by assumption) (by assumption) (by assumption) ?_); intro n' _ _ hn0' hrep'))
local macro_rules | `(tactic| walk_at "call builtin:chr") => `(tactic| ((with_reducible show wpAny _ _ (call (Value.builtin "chr") [Value.int _ _]) _ _ _); (refine chr_kept (by first | exact kept_tri (by assumption) | exact kept_mod (by assumption) (by assumption) (by assumption) | (unfold keptF; exact decide_eq_true (by omega))) ?_)))
theorem repl_ctr (w : World) (x : PySem.Str) (mo : Addr) (b e : Nat) (hz : x.length ≤ 16777216) (hm : matchL (x.cps.toList.drop b) = some (e - b)) (hbe : b + 3 ≤ e) (he : e ≤ x.length) :
    Ctr PySem.Challenge.rw_ah6020_01.row.prog w 2 66 [.ref mo] [] (fun h => MtAt h mo x b e)
      (fun _ v own' => own' = [] ∧ ∃ y ty, v = .str y ty ∧ y.cps.toList = repOf ((x.cps.toList.drop b).take (e - b))) := by
  unfold Ctr
  k_fill
  w_top off
  k_with_none
  intro p0 loose mean mg mb dp un gd cn cs a ccd cl outer A₀ base h₀ L m s Q E B F X T hk hd hu N hpre hret
  refine wpAny_call ?_
  k_dflt (walk_at "MINE enter")
  intro g' L' h' FG' F' N' B' X' T' KG hL' lt' lv
  have hmt : MtAt h' mo x b e := by
    obtain ⟨t, lim, to, h1, h2⟩ := hpre
    exact ⟨t, lim, to, F'.keep _ _ (KG _ _ h1 (by simp)), F'.keep _ _ (KG _ _ h2 (by simp))⟩
  replace F' : Fr g' L' h' (fun y => List.lookup y [(Str.ofString "m", Value.ref mo)]) := F'
  generalize s.toks + List.length _ = tk0
  (try dsimp only)
  (try k_lift B')
  try k_fold
  k_with_none
  have hM : matchL ((x.cps.toList.drop b).take (e - b)) = some ((x.cps.toList.drop b).take (e - b)).length := by
    rw [match_take hm, List.length_take, List.length_drop]
    have : x.cps.toList.length = x.length := Array.length_toList
    congr 1; omega
  have hMc : (x.cps.toList.drop b).take (e - b) = 38 :: (x.cps.toList.drop (b + 1)).take (e - (b + 1)) := by
    have h0 := match_head hm
    rw [List.getElem?_drop, Nat.add_zero] at h0
    rw [drop_at h0]
    obtain ⟨k, hk⟩ : ∃ k, e - b = k + 1 := ⟨e - b - 1, by omega⟩
    rw [hk, List.take_succ_cons]
    congr 2; omega
  k_steps
  · (try dsimp only)
    rename Fr g' _ _ _ => F9
    obtain ⟨a1, a2, a3, a4⟩ := lv _ _ _ [] F9 (fun _ hq => nomatch hq)
    refine hret _ _ _ _ a1 a2 a3 a4 ⟨rfl, ?_⟩
    refine named_value (by rw [hMc]; congr 1; exact Eq.symm (by assumption)) hM ?_ (by assumption)
    exact head35 (by assumption) (by assumption)
  all_goals (
    (try dsimp only)
    rename Fr g' _ _ _ => F9
    obtain ⟨a1, a2, a3, a4⟩ := lv _ _ _ [] F9 (fun _ hq => nomatch hq)
    refine hret _ _ _ _ a1 a2 a3 a4 ⟨rfl, _, _, rfl, ?_⟩
    first
    | exact rep_yes (by assumption) (by first | exact kept_tri (by assumption) | exact kept_mod (by assumption) (by assumption) (by assumption) | (unfold keptF; exact decide_eq_true (by omega)))
    | exact rep_no (by assumption) hMc (by assumption) (by first | exact kept_notri (by assumption) (by assumption) (by omega) | exact kept_nomod (by assumption) (by assumption) | (unfold keptF; exact decide_eq_false (by omega))))
end
end
-- part ReSub
section
section
theorem readL_len : ∀ (n : Nat) (l : List Nat), l.length ≤ n → (readL l).length ≤ l.length
  | _, [], _ => by simp [readL, readN]
  | 0, _ :: _, h => by simp at h
  | n + 1, c :: r, h => by
    rw [List.length_cons] at h
    rw [readL_cons]
    split
    · rename_i d k hk
      have hp : 1 ≤ k ∧ k ≤ (c :: r).length := by
        split at hk
        · exact refL_pos hk
        · cases hk
      rw [List.length_cons] at hp
      have := readL_len n ((c :: r).drop k) (by rw [List.length_drop, List.length_cons]; omega)
      rw [List.length_drop, List.length_cons] at this
      rw [List.length_cons, List.length_cons]; omega
    · have := readL_len n r (by omega)
      rw [List.length_cons, List.length_cons]; omega
/-- the pieces that sub has laid -/
structure Pcs (x : PySem.Str) (d : Nat) (l : List (PySem.Str × Tok)) : Prop where
  val : (l.map (·.1)).flatMap (fun p => p.cps.toList) ++ readL (x.cps.toList.drop d) = readL x.cps.toList
  le : d ≤ x.cps.size
  num : l.length ≤ 2 * d
theorem pcs_start (x : PySem.Str) : Pcs x 0 [] := ⟨rfl, Nat.zero_le _, Nat.zero_le _⟩
theorem pcs_skip {x : PySem.Str} {d p : Nat} {l : List (PySem.Str × Tok)} (P : Pcs x d l) (t : Tok) (hp : d < p) (hle : p ≤ x.cps.size) (hn : ∀ q, d ≤ q → q < p → matchL (x.cps.toList.drop q) = none) :
    Pcs x p (l ++ [(⟨x.cps.extract d p⟩, t)]) := by
  refine ⟨?_, hle, by rw [List.length_append, List.length_cons, List.length_nil]; have := P.num; omega⟩
  have h := read_none (p - d) (x.cps.toList.drop d) (by rw [List.length_drop, Array.length_toList]; omega) fun q hq => by
    rw [List.drop_drop]
    exact hn _ (by omega) (by omega)
  have v := P.val
  rw [h, List.drop_drop, show d + (p - d) = p by omega] at v
  rw [List.map_append, List.flatMap_append, ← v, List.append_assoc]
  congr 2
  show (x.cps.extract d p).toList ++ [] = _
  simp [Array.toList_extract, List.extract_eq_take_drop]
theorem pcs_match {x y : PySem.Str} {p k : Nat} {l : List (PySem.Str × Tok)} (P : Pcs x p l) (t : Tok) (hm : matchL (x.cps.toList.drop p) = some k) (hy : y.cps.toList = repOf ((x.cps.toList.drop p).take k)) :
    Pcs x (p + k) (l ++ [(y, t)]) := by
  have hl := matchL_len hm
  rw [List.length_drop, Array.length_toList] at hl
  refine ⟨?_, by omega, by rw [List.length_append, List.length_cons, List.length_nil]; have := P.num; omega⟩
  have v := P.val
  rw [read_match hm, List.drop_drop] at v
  rw [List.map_append, List.flatMap_append, ← v, List.append_assoc]
  congr 2
  show y.cps.toList ++ [] = _
  rw [List.append_nil, hy]
theorem pcs_end {x : PySem.Str} {l : List (PySem.Str × Tok)} (P : Pcs x x.cps.size l) : (l.map (·.1)).flatMap (fun p => p.cps.toList) = readL x.cps.toList := by
  have v := P.val
  rw [List.drop_eq_nil_of_le (by rw [Array.length_toList]; exact Nat.le_refl _)] at v
  rw [← v]; simp [readL, readN]
open PySem.Sre PySem.Builtin PySem.Builtin.Re
section
variable {prog : Program} {w : World} {A : Around} {E : Value → Shared → Prop} {s : Shared}
theorem join_strs {D : Addr} {l : List (PySem.Str × Tok)} {t : Tok} {Q : Value → Shared → Prop} (hl : s.heap.IsList D (strValues l).toArray)
    (hz : ((l.map (·.1)).flatMap (fun p => p.cps.toList)).length ≤ 16777216) (h : ∀ y t' k, y.cps.toList = (l.map (·.1)).flatMap (fun p => p.cps.toList) → Q (.str y t') { s with toks := k }) :
    wpAny (model prog w) A (call (.builtin "str.join") [.str (Str.ofString "") t, .ref D]) Q E s := by
  refine SC.join hl rfl ?_ fun t' k => h _ t' k (join_cps _)
  have hs : ((l.map (·.1)).map (·.length)).sum = ((l.map (·.1)).flatMap (fun p => p.cps.toList)).length := by
    rw [List.length_flatMap]; rfl
  unfold JoinOk
  rw [StrLaws.joinTotal, hs]
  have : (Str.ofString "").length = 0 := by decide +kernel
  rw [this]
  unfold Builtin.Str.tooLong
  rw [Nat.mul_zero, Nat.add_zero, PySem.sizeLine_eq]
  simp only [Bool.not_eq_true', decide_eq_false_iff_not]
  omega
/-- a piece more -/
theorem push_piece {M : Model} {h₀ : Heap} {L lst : Addr} {m : Str → Option Value} {news : List (Addr × Obj)} {l : List (PySem.Str × Tok)} {e : Nat} {y : PySem.Str} {t : Tok} {Q : Unit → Shared → Prop} (F : Fr h₀ L s.heap m)
    (N : News h₀ L s.heap ((lst, seqObj "list" (strValues l).toArray e) :: news)) (hnl : ∀ p ∈ news, p.1 ≠ lst) (hl : l.length ≤ 16000000)
    (h : ∀ h' e', Fr h₀ L h' m → News h₀ L h' ((lst, seqObj "list" (strValues (l ++ [(y, t)])).toArray e') :: news) → Q () { s with heap := h' }) :
    wpAny M A (updateSeq lst (·.push (.str y t))) Q E s := by
  have n1 := N _ (.head _)
  have s1 := Heap.SameBut.update s.heap lst (Obj.mapSeq (·.push (.str y t)))
  obtain ⟨c2, hc2⟩ : ∃ c2, (s.heap.update lst (Obj.mapSeq (·.push (.str y t)))).get? lst = some (seqObj "list" ((strValues l).toArray.push (.str y t)) c2) := ⟨_, get?_update_seq n1.1 (·.push (.str y t))⟩
  have hlen : (strValues l).length = l.length := by unfold strValues; rw [List.length_map]
  refine wpAny_updateSeq n1.1 rfl (h _ c2 (ksk_fr F s1 n1.2.1 n1.2.2) fun p hp => ?_) (by rw [List.size_toArray, hlen, sizeLine_eq]; omega) (by rw [Array.size_push, List.size_toArray, hlen, sizeLine_eq]; omega)
  rcases List.mem_cons.mp hp with rfl | hp
  · refine ⟨?_, n1.2⟩
    rw [hc2]
    unfold strValues
    rw [List.map_append]
    simp
  · exact ksk_news (fun q hq => N q (.tail _ hq)) s1 hnl p hp
end
theorem plain_sub_loop : plainId "re.Pattern.sub.loop" = true := by decide +kernel
end
end
-- part ReSubL
section
section
open PySem.Sre PySem.Builtin PySem.Builtin.Re
variable {w : World} {A₀ : Around} {base h₀ : Heap} {outer : List Env} {L : Addr} {m : Str → Option Value} {news : List (Addr × Obj)} {p0 : Program} {loose : List Str} {mean : ExcName → Option Value} {mg mb : Str → Option Value}
  {dp un : Nat} {gd : Option (List Code)} {cn : Str} {cs : Scope} {a : Addr} {ccd : Value} {cl : List (Str × Addr)}
theorem skip_push {M : Model} {A : Around} {E : Value → Shared → Prop} {s : Shared} {α : Type} {rest : Sem α} {Q : α → Shared → Prop} {x : PySem.Str} {lst : Addr} {d p : Nat} {l : List (PySem.Str × Tok)} {e : Nat} (hz : x.cps.size ≤ 3000000) (F : Fr h₀ L s.heap m)
    (N : News h₀ L s.heap ((lst, seqObj "list" (strValues l).toArray e) :: news)) (hnl : ∀ p ∈ news, p.1 ≠ lst) (P : Pcs x d l) (hdp : d ≤ p) (hp : p ≤ x.cps.size) (hn : ∀ q, d ≤ q → q < p → matchL (x.cps.toList.drop q) = none)
    (h : ∀ l1 e1 h1 tk1, Pcs x p l1 → Fr h₀ L h1 m → News h₀ L h1 ((lst, seqObj "list" (strValues l1).toArray e1) :: news) → wpAny M A rest Q E { s with heap := h1, toks := tk1 }) :
    wpAny M A (if d < p then (do let v ← reSlice x.cps 0 d p; updateSeq lst fun y => y.push v; rest) else rest) Q E s := by
  by_cases hlt : d < p
  · rw [if_pos hlt]
    unfold reSlice
    rw [if_pos (show ((0 : Nat) == 0) = true from rfl)]
    refine wpAny_bind (wpAny_mkStr ?_ ?_)
    · refine wpAny_bind (push_piece F N hnl (by have := P.num; have := P.le; omega) fun h' e' F' N' => ?_)
      exact h _ e' h' _ (pcs_skip P _ hlt hp hn) F' N'
    · show (x.cps.extract d p).size ≤ sizeLine
      rw [Array.size_extract, PySem.sizeLine_eq]; omega
  · rw [if_neg hlt]
    have : d = p := by omega
    subst this
    exact h l e s.heap s.toks P F N
theorem sub_loop {x : PySem.Str} {t : Tok} {lst : Addr} {R : Result → Shared → Prop} {s : Shared} (hz : x.cps.size ≤ 3000000)
    (B : Below A₀ base outer h₀) (X : (Mine.hd.heap_39 w.params).In h₀) (T : Top p0 loose mean mg mb h₀) (hk : cs.kind = .function) (hd : dp + 2 < recursionLimit) (hu : un + 1 + 8 * 2 < cLine) (hnl : ∀ p ∈ news, p.1 ≠ lst)
    (fin : ∀ y ty h' tk', y.cps.toList = readL x.cps.toList → Fr h₀ L h' m → News h₀ L h' news → R (.ok (.ret (.str y ty))) { s with heap := h', toks := tk' }) :
    ∀ (k d : Nat) (n : Int) (l : List (PySem.Str × Tok)) (e : Nat) (h : Heap) (tk : Nat), x.cps.size - d = k → Pcs x d l → Fr h₀ L h m → News h₀ L h ((lst, seqObj "list" (strValues l).toArray e) :: news) →
      codeAny (model PySem.Challenge.rw_ah6020_01.row.prog w) (ktrTop dp un gd cn cs L a ccd cl outer)
        (.builtin "re.Pattern.sub.loop" ⟨[.ref 156, .str x t, .ref 66, rawInt 1, rawInt 0, rawInt n, rawInt d, rawInt d, .bool false, .ref lst, .bool false], []⟩) R { s with heap := h, toks := tk } := by
  intro k
  induction k using Nat.strongRecOn with
  | _ k ih =>
  intro d n l e h tk hdk P F N
  refine codeAny_builtin entry_loop ?_
  rw [Around.under_plainId plain_sub_loop]
  unfold Builtin.«re.Pattern.sub.loop»
  dsimp only [rawInt]
  refine wpAny_bind (whole_target (pat_of F X) ?_)
  dsimp only
  rw [if_neg (by decide)]
  refine wpAny_bind ?_
  rw [if_neg (by simp)]
  refine next_found (Nat.le_trans hz (by decide)) P.le (fun hno => ?_) (fun p kk mm hp hm hno hF => ?_)
  · dsimp only
    refine skip_push (d := d) hz F N hnl P P.le (Nat.le_refl _) (fun q h1 _ => hno q h1) fun l1 e1 h1 tk1 P1 F1 N1 => ?_
    have n1 := N1 _ (.head _)
    unfold reSlice
    rw [if_pos (show ((0 : Nat) == 0) = true from rfl)]
    refine wpAny_bind (wpAny_mkStr ?_ (by show (x.cps.extract 0 0).size ≤ sizeLine; rw [Array.size_extract]; exact Nat.le_trans (Nat.sub_le_sub_right (Nat.min_le_left _ _) _) (Nat.zero_le _)))
    have hj : (⟨x.cps.extract 0 0⟩ : PySem.Str) = Str.ofString "" := by
      have : x.cps.extract 0 0 = #[] := by simp
      rw [this]; decide
    rw [hj]
    refine wpAny_bind (items_of n1.1 rfl ?_)
    by_cases hne : ((some (strValues l1).toArray).getD #[]).isEmpty = true
    · rw [if_pos hne]
      refine wpAny_bind (wpAny_pure ?_)
      rw [if_neg Bool.false_ne_true]
      refine wpAny_pure (fin _ _ _ _ ?_ F1 fun q hq => N1 q (.tail _ hq))
      rw [← pcs_end P1]
      have : l1 = [] := by
        cases l1 with
        | nil => rfl
        | cons c r => simp [strValues] at hne
      rw [this]
      decide
    · rw [if_neg hne]
      refine wpAny_bind (join_strs (l := l1) ⟨_, n1.1, rfl, _, rfl⟩ (by
        rw [pcs_end P1]
        have := readL_len _ x.cps.toList (Nat.le_refl _)
        have e2 : x.cps.toList.length = x.cps.size := Array.length_toList
        omega) fun y t' k' hy => ?_)
      rw [if_neg Bool.false_ne_true]
      exact wpAny_pure (fin _ _ _ _ (by rw [hy, pcs_end P1]) F1 fun q hq => N1 q (.tail _ hq))
  · dsimp only
    obtain ⟨hF0, hF1, hF2, hF3⟩ := id hF
    rw [hF1, hF2]
    have hlen := matchL_len hm
    rw [List.length_drop, Array.length_toList] at hlen
    refine skip_push (d := d) hz F N hnl P hp (by omega) hno fun l1 e1 h1 tk1 P1 F1 N1 => ?_
    rw [if_neg (by decide)]
    refine wpAny_bind (new_match hF (by omega) ?_)
    dsimp only
    refine wpAny_bind (wpAny_holding ?_)
    rw [if_pos (by decide)]
    have up : ∀ b o, h1.get? b = some o → ((h1.push (mtTup p (p + kk))).push (mtObj x t x.cps.size h1.objs.size)).get? b = some o := fun b o e => Heap.get?_push_of_some _ (Heap.get?_push_of_some _ e)
    have hmt : MtAt ((h1.push (mtTup p (p + kk))).push (mtObj x t x.cps.size h1.objs.size)) (h1.objs.size + 1) x p (p + kk) := by
      refine ⟨t, x.cps.size, h1.objs.size, ?_, Heap.get?_push_of_some _ (Heap.get?_push_size _ rfl)⟩
      have := Heap.get?_push_size (h1.push (mtTup p (p + kk))) (o := mtObj x t x.cps.size h1.objs.size) rfl
      rw [Heap.size_push] at this
      exact this
    refine repl_ctr w x (h1.objs.size + 1) p (p + kk) (Nat.le_trans hz (by decide)) (by rw [Nat.add_sub_cancel_left]; exact hm) (by omega) (by show _ ≤ x.cps.size; omega) p0 loose mean mg mb dp (un + 1) gd cn cs a ccd cl outer A₀ base h₀ L m _ _ _ B (F1.keeps up) X T hk hd hu (fun q hq => nomatch hq) hmt ?_
    intro v own' h2 tk2 F2 N2 K2 _ hP
    obtain ⟨rfl, y, ty, rfl, hy⟩ := hP
    rw [Nat.add_sub_cancel_left] at hy
    have N3 : News h₀ L h2 ((lst, seqObj "list" (strValues l1).toArray e1) :: news) := fun q hq => ⟨K2 _ _ (up _ _ (N1 q hq).1) (by simp), (N1 q hq).2⟩
    dsimp only
    rw [if_pos (by rfl)]
    refine wpAny_bind (push_piece F2 N3 hnl (by have := P1.num; have := P1.le; omega) fun h3 e3 F3 N4 => ?_)
    refine wpAny_pure ⟨Code.quiet_builtin _ (by decide +kernel), ?_⟩
    have hf : (p + kk == p) = false := by simp; omega
    rw [hf]
    exact ih (x.cps.size - (p + kk)) (by omega) (p + kk) (n + 1) _ e3 h3 tk2 rfl (pcs_match P1 ty hm hy) F3 N4
end
end
-- part ReSubC
section
section
open PySem.Sre PySem.Builtin PySem.Builtin.Re
variable {w : World} {A₀ : Around} {base h₀ : Heap} {outer : List Env} {L : Addr} {m : Str → Option Value} {news : List (Addr × Obj)} {p0 : Program} {loose : List Str} {mean : ExcName → Option Value} {mg mb : Str → Option Value}
  {dp un : Nat} {gd : Option (List Code)} {cn : Str} {cs : Scope} {a : Addr} {ccd : Value} {cl : List (Str × Addr)} {s : Shared} {Q E : Value → Shared → Prop}
theorem func_has_call : typeLookup (.type "function") "__call__" = pure (some (.builtin "function.__call__")) := by rw [typeLookup_type, builtinLookup_eq_fast]; kernel_rfl
theorem str_no_bytearray : isSubtype (.type "str") (.type "bytearray") = pure false := by rw [isSubtype_type]; kernel_rfl
theorem sub_use {x : PySem.Str} {t : Tok} (hz : x.cps.size ≤ 3000000) (B : Below A₀ base outer h₀) (F : Fr h₀ L s.heap m) (X : (Mine.hd.heap_39 w.params).In h₀) (T : Top p0 loose mean mg mb h₀) (hk : cs.kind = .function)
    (hd : dp + 2 < recursionLimit) (hu : un + 1 + 8 * 2 < cLine) (N : News h₀ L s.heap news)
    (h : ∀ y ty h' tk', y.cps.toList = readL x.cps.toList → Fr h₀ L h' m → News h₀ L h' news → Q (.str y ty) { s with heap := h', toks := tk' }) :
    wpAny (model PySem.Challenge.rw_ah6020_01.row.prog w) (ktrTop dp un gd cn cs L a ccd cl outer) (call (.builtin "re.Pattern.sub") [.ref 156, .ref 66, .str x t]) Q E s := by
  have P := pat_of F X
  refine wpAny_call (codeAny_call_builtin slot_sub.plain entry_sub (slot_sub.check _ _ _ _ _ _ _ _ P.typeIs (args_sub _ _ _) ?_))
  unfold Builtin.«re.Pattern.sub» reSubstitute
  dsimp only
  rw [named_sub]
  refine wpAny_bind (wpAny_pure ?_)
  refine wpAny_bind (m := pure (0 : Int)) (wpAny_pure ?_)
  refine wpAny_bind (wpAny_specialOf (T := "function") ⟨_, (X.keeps F.keep) 66 _ rfl, rfl⟩ func_has_call ?_)
  dsimp only [Option.isSome_some]
  rw [if_pos rfl]
  refine wpAny_bind (wpAny_pure ?_)
  rw [if_pos rfl]
  refine wpAny_bind (wpAny_pure ?_)
  dsimp only
  refine wpAny_bind (wpAny_holding (whole_target P ?_))
  rw [if_pos (by decide)]
  refine wpAny_bind ?_
  unfold reNotHeld
  refine wpAny_bind (wpAny_isInstance (T := "str") (typeIs_str _ _ _) str_no_bytearray ?_)
  refine wpAny_pure ?_
  refine wpAny_bind (wpAny_newList ?_)
  refine wpAny_pure ⟨Code.quiet_builtin _ (by decide +kernel), ?_⟩
  have N1 : News h₀ L (s.heap.push { cls := .type "list", data := .seq (#[] : Array Value) }) ((s.heap.objs.size, seqObj "list" (strValues []).toArray 0) :: news) := News.push F N _
  exact sub_loop (s := s) hz B X T hk hd hu (fun p hp => Nat.ne_of_lt (Heap.lt_size (N p hp).1)) (fun y ty h' tk' e1 e2 e3 => h y ty h' tk' e1 e2 e3) _ 0 0 [] 0 _ _ rfl (pcs_start x) (F.push _) N1
end
theorem readL_free {l : List Nat} (h : 38 ∉ l) : readL l = l := by
  have := read_skip l.length l (fun j _ q => h (List.mem_of_getElem? q)) (Nat.le_refl _)
  rw [List.drop_length, List.take_length] at this
  rw [this]
  show l ++ [] = l
  exact List.append_nil l
theorem occ_amp {x : PySem.Str} {b : Bool} (h : (Builtin.Str.occurrences x (Str.ofString "&") 0 x.length 1).isEmpty = b) : decide (38 ∈ x.cps.toList) = !b := by
  have := StrLaws.found_one x 38
  rw [← this]
  have e : (⟨#[38]⟩ : PySem.Str) = Str.ofString "&" := by decide
  rw [e, h]
section
local macro_rules | `(tactic| walk_at "getMethod ref") => `(tactic| (k_here; (with_reducible show wpAny _ _ (getMethod (Value.ref 156) _ _) _ _ _); (refine get_sub (by k_asm) (by k_asm) ?_)))
local macro_rules | `(tactic| walk_at "call builtin:re.Pattern.sub") => `(tactic| (k_here; (with_reducible show wpAny _ _ (call (Value.builtin "re.Pattern.sub") _) _ _ _); k_dflt (refine' sub_use ?hz ?k1 ?k2 ?k3 ?k4 ?k5 ?k6 ?k7 ?k8 ?_; (case hz => assumption); walk_at "MINE ctx"; k_whole); intro y' t' h' tk' hy' F' N'; (try k_sweep)))
theorem unescape_ctr (w : World) (x : PySem.Str) (t : Tok) (hl : x.length ≤ 3000000) :
    Ctr PySem.Challenge.rw_ah6020_01.row.prog w 4 163 [.str x t] [] (fun _ => True)
      (fun _ v own' => own' = [] ∧ ∃ y ty, v = .str y ty ∧ y.cps.toList = readL x.cps.toList) := by
  have hz : x.cps.size ≤ 3000000 := hl
  unfold Ctr
  k_fill
  w_top off
  k_with_none
  intro p0 loose mean mg mb dp un gd cn cs a ccd cl outer A₀ base h₀ L m s Q E B F X T hk hd hu N hpre hret
  refine wpAny_call ?_
  k_dflt (walk_at "MINE enter")
  intro g' L' h' FG' F' N' B' X' T' KG hL' lt' lv
  replace F' : Fr g' L' h' (fun y => List.lookup y [(Str.ofString "s", Value.str x t)]) := F'
  generalize s.toks + List.length _ = tk0
  (try dsimp only)
  (try k_lift B')
  try k_fold
  k_with_none
  k_steps
  · (try dsimp only)
    rename Fr g' _ _ _ => F9
    obtain ⟨a1, a2, a3, a4⟩ := lv _ _ _ [] F9 (fun _ hq => nomatch hq)
    refine hret _ _ _ _ a1 a2 a3 a4 ⟨rfl, _, _, rfl, ?_⟩
    have hn : 38 ∉ x.cps.toList := by have := occ_amp (x := x) (by assumption); simpa using this
    rw [readL_free hn]
  · (try dsimp only)
    rename Fr g' _ _ _ => F9
    obtain ⟨a1, a2, a3, a4⟩ := lv _ _ _ [] F9 (fun _ hq => nomatch hq)
    exact hret _ _ _ _ a1 a2 a3 a4 ⟨rfl, _, _, rfl, by assumption⟩
end
end
-- part ReadPl
section
theorem costC_pos (c : Nat) : 1 ≤ costC c ∧ costC c ≤ 12 := by
  unfold costC
  repeat' split
  all_goals omega
theorem cost_len : ∀ l : List Nat, l.length ≤ costL l
  | [] => Nat.le_refl _
  | c :: l => by
    rw [costL_cons, List.length_cons]
    have := cost_len l
    have := costC_pos c
    omega
theorem named_all (P : List Nat × Nat → Bool) (h : namedL.all P = true) {p : List Nat × Nat} (hp : p ∈ namedL) : P p = true := List.all_eq_true.mp h p hp
theorem kept_code {n : Nat} (h : keptF (n : Int) = true) : n ≤ 1114111 ∧ ¬ (55296 ≤ n ∧ n ≤ 57343) := by
  unfold keptF at h
  have := of_decide_eq_true h
  omega
theorem numAt_code {b : Nat} {r : List Nat} {q : Nat × Nat} (h : numAt b r = some q) : (q.1 ≤ 1114111 ∧ ¬ (55296 ≤ q.1 ∧ q.1 ≤ 57343)) ∧ 2 ≤ q.2 := by
  unfold numAt at h
  split at h
  · rename_i c
    cases h
    exact ⟨kept_code c.2.2.2, by show 2 ≤ runL _ _ + 1; omega⟩
  · cases h
/-- what a reference reads as -/
theorem refL_code {l : List Nat} {p : Nat × Nat} (h : refL l = some p) : (p.1 ≤ 1114111 ∧ ¬ (55296 ≤ p.1 ∧ p.1 ≤ 57343)) ∧ 4 ≤ p.2 := by
  unfold refL at h
  split at h
  · split at h
    · split at h
      · obtain ⟨q, hq, rfl⟩ := Option.map_eq_some_iff.mp h
        have := numAt_code hq
        exact ⟨this.1, by show 4 ≤ q.2 + 3; omega⟩
      · obtain ⟨q, hq, rfl⟩ := Option.map_eq_some_iff.mp h
        have := numAt_code hq
        exact ⟨this.1, by show 4 ≤ q.2 + 2; omega⟩
    · cases h
  · obtain ⟨q, hq, rfl⟩ := Option.map_eq_some_iff.mp h
    obtain ⟨p', hp', _, rfl⟩ := nameAt_mem hq
    have := named_all (fun p => decide ((p.2 ≤ 1114111 ∧ ¬ (55296 ≤ p.2 ∧ p.2 ≤ 57343)) ∧ 3 ≤ p.1.length)) (by decide) hp'
    have := of_decide_eq_true this
    exact ⟨this.1, by show 4 ≤ p'.1.length + 1; omega⟩
  · cases h
theorem ok_code {c : Nat} (h : okC c = true) : c ≤ 1114111 ∧ ¬ (55296 ≤ c ∧ c ≤ 57343) := by
  simp only [okC, Bool.or_eq_true, decide_eq_true_eq, beq_iff_eq] at h
  omega
theorem read_code : ∀ (n : Nat) (l : List Nat), l.length ≤ n → (∀ c ∈ l, okC c = true) → ∀ c ∈ readL l, c ≤ 1114111 ∧ ¬ (55296 ≤ c ∧ c ≤ 57343)
  | _, [], _, _ => fun c hc => by simp [readL, readN] at hc
  | 0, _ :: _, h, _ => by simp at h
  | n + 1, c :: r, h, hok => by
    rw [List.length_cons] at h
    rw [readL_cons]
    split
    · rename_i d k hk
      have hr : refL (c :: r) = some (d, k) := by
        split at hk
        · exact hk
        · cases hk
      have h1 := refL_code hr
      intro e he
      rcases List.mem_cons.mp he with rfl | he
      · exact h1.1
      · exact read_code n _ (by rw [List.length_drop, List.length_cons]; have := h1.2; dsimp only at this; omega) (fun x hx => hok x (List.mem_of_mem_drop hx)) e he
    · intro e he
      rcases List.mem_cons.mp he with rfl | he
      · exact ok_code (hok e (.head _))
      · exact read_code n r (by omega) (fun x hx => hok x (.tail _ hx)) e he
theorem read_cost : ∀ (n : Nat) (l : List Nat), l.length ≤ n → costL (readL l) ≤ 3 * costL l
  | _, [], _ => by simp [readL, readN, costL]
  | 0, _ :: _, h => by simp at h
  | n + 1, c :: r, h => by
    rw [List.length_cons] at h
    rw [readL_cons]
    split
    · rename_i d k hk
      have hr : refL (c :: r) = some (d, k) := by
        split at hk
        · exact hk
        · cases hk
      have h1 := (refL_code hr).2
      have h2 := (refL_pos hr).2
      have ih := read_cost n ((c :: r).drop k) (by rw [List.length_drop, List.length_cons]; dsimp only at h1; omega)
      have e : costL (c :: r) = costL ((c :: r).take k) + costL ((c :: r).drop k) := by rw [← costL_append, List.take_append_drop]
      have := cost_len ((c :: r).take k)
      rw [List.length_take] at this
      have := (costC_pos d).2
      show costL (d :: readL ((c :: r).drop k)) ≤ _
      rw [costL_cons, e]
      dsimp only at h1 h2
      have : min k (c :: r).length = k := Nat.min_eq_left h2
      omega
    · have ih := read_cost n r (by omega)
      show costL (c :: readL r) ≤ _
      rw [costL_cons, costL_cons]
      omega
end
-- part TextUse
section
section
variable {w : World} {A₀ : Around} {s : Shared} {base h₀ : Heap} {outer : List Env} {L : Addr} {m : Str → Option Value} {news : List (Addr × Obj)} {p0 : Program} {loose : List Str} {mean : ExcName → Option Value} {mg mb : Str → Option Value}
  {dp un : Nat} {gd : Option (List Code)} {cn : Str} {cs : Scope} {a : Addr} {ccd : Value} {cl : List (Str × Addr)} {Q E : Value → Shared → Prop}
/-- a def that hands back a text alone -/
theorem text_use {d : Nat} {f : Addr} {args : List Value} {r : List Nat} (C : Ctr PySem.Challenge.rw_ah6020_01.row.prog w d f args [] (fun _ => True) (fun _ v own' => own' = [] ∧ ∃ y ty, v = .str y ty ∧ y.cps.toList = r))
    (B : Below A₀ base outer h₀) (F : Fr h₀ L s.heap m) (X : (Mine.hd.heap_39 w.params).In h₀) (T : Top p0 loose mean mg mb h₀) (hk : cs.kind = .function) (hd : dp + d < recursionLimit) (hu : un + 8 * d < cLine) (N : News h₀ L s.heap news)
    (h : ∀ y ty h' tk', y.cps.toList = r → Fr h₀ L h' m → News h₀ L h' news → Q (.str y ty) { s with heap := h', toks := tk' }) :
    wpAny (model PySem.Challenge.rw_ah6020_01.row.prog w) (ktrTop dp un gd cn cs L a ccd cl outer) (call (.ref f) args) Q E s := by
  refine C.use (rest := news) B F X T hk hd hu N (fun q hq => nomatch hq) (fun q hq => hq) (fun q hq => by simp) trivial fun v own' h' tk' hP F' N' _ _ => ?_
  obtain ⟨rfl, y, ty, rfl, hy⟩ := hP
  exact h y ty h' tk' hy F' N'
theorem read_len {x y : PySem.Str} (h : y.cps.toList = readL x.cps.toList) : y.length ≤ x.length := by
  have := readL_len _ x.cps.toList (Nat.le_refl _)
  rw [← h, ← len_cps, ← len_cps] at this
  exact this
theorem unescape_use {x : PySem.Str} {t : Tok} (B : Below A₀ base outer h₀) (F : Fr h₀ L s.heap m) (X : (Mine.hd.heap_39 w.params).In h₀) (T : Top p0 loose mean mg mb h₀) (hk : cs.kind = .function) (hd : dp + 4 < recursionLimit) (hu : un + 8 * 4 < cLine) (N : News h₀ L s.heap news)
    (hl : x.length ≤ 3000000)
    (h : ∀ y ty h' tk', y.cps.toList = readL x.cps.toList → y.length ≤ x.length → Fr h₀ L h' m → News h₀ L h' news → Q (.str y ty) { s with heap := h', toks := tk' }) :
    wpAny (model PySem.Challenge.rw_ah6020_01.row.prog w) (ktrTop dp un gd cn cs L a ccd cl outer) (call (.ref 163) [.str x t]) Q E s :=
  text_use (unescape_ctr w x t hl) B F X T hk hd hu N fun y ty h' tk' e => h y ty h' tk' e (read_len e)
theorem readlaw_use {x : PySem.Str} {t : Tok} (B : Below A₀ base outer h₀) (F : Fr h₀ L s.heap m) (X : (Mine.hd.heap_39 w.params).In h₀) (T : Top p0 loose mean mg mb h₀) (hk : cs.kind = .function) (hd : dp + 3 < recursionLimit) (hu : un + 8 * 3 < cLine) (N : News h₀ L s.heap news)
    (hx : ∀ c ∈ x.cps.toList, okC c = true) (hl : x.length ≤ 3000000)
    (h : ∀ y ty h' tk', y.cps.toList = readL x.cps.toList → y.length ≤ x.length → Fr h₀ L h' m → News h₀ L h' news → Q (.str y ty) { s with heap := h', toks := tk' }) :
    wpAny (model PySem.Challenge.rw_ah6020_01.row.prog w) (ktrTop dp un gd cn cs L a ccd cl outer) (call (.ref 504) [.str x t]) Q E s :=
  text_use (read_ctr w x t hx hl) B F X T hk hd hu N fun y ty h' tk' e => h y ty h' tk' e (read_len e)
theorem escape_use {x : PySem.Str} {t : Tok} (B : Below A₀ base outer h₀) (F : Fr h₀ L s.heap m) (X : (Mine.hd.heap_39 w.params).In h₀) (T : Top p0 loose mean mg mb h₀) (hk : cs.kind = .function) (hd : dp + 1 < recursionLimit) (hu : un + 8 * 1 < cLine) (N : News h₀ L s.heap news)
    (hl : x.length ≤ 2300000)
    (h : ∀ y ty h' tk', y.cps.toList = marksL x.cps.toList → Fr h₀ L h' m → News h₀ L h' news → Q (.str y ty) { s with heap := h', toks := tk' }) :
    wpAny (model PySem.Challenge.rw_ah6020_01.row.prog w) (ktrTop dp un gd cn cs L a ccd cl outer) (call (.ref 137) [.str x t]) Q E s :=
  text_use (escape_ctr w x t hl) B F X T hk hd hu N h
theorem marks_use {x : PySem.Str} {t : Tok} (B : Below A₀ base outer h₀) (F : Fr h₀ L s.heap m) (X : (Mine.hd.heap_39 w.params).In h₀) (T : Top p0 loose mean mg mb h₀) (hk : cs.kind = .function) (hd : dp + 2 < recursionLimit) (hu : un + 8 * 2 < cLine) (N : News h₀ L s.heap news)
    (hl : x.length ≤ 2500000)
    (h : ∀ y ty h' tk', y.cps.toList = marksL x.cps.toList → Fr h₀ L h' m → News h₀ L h' news → Q (.str y ty) { s with heap := h', toks := tk' }) :
    wpAny (model PySem.Challenge.rw_ah6020_01.row.prog w) (ktrTop dp un gd cn cs L a ccd cl outer) (call (.ref 511) [.str x t]) Q E s :=
  text_use (marks_ctr w x t hl) B F X T hk hd hu N h
/-- what the law's text and its reading keep -/
theorem read_fit {x y : PySem.Str} (hx : ∀ c ∈ x.cps.toList, okC c = true) (hc : costL x.cps.toList ≤ 2300000) (h : y.cps.toList = readL x.cps.toList) :
    (∀ c ∈ y.cps.toList, c ≤ 1114111 ∧ ¬ (55296 ≤ c ∧ c ≤ 57343)) ∧ costL y.cps.toList ≤ 8000000 ∧ y.length ≤ 2300000 := by
  refine ⟨by rw [h]; exact read_code _ _ (Nat.le_refl _) hx, ?_, ?_⟩
  · have := read_cost _ x.cps.toList (Nat.le_refl _)
    rw [h]; omega
  · have := read_len h
    have := cost_len x.cps.toList
    rw [← len_cps] at this
    omega
theorem percent_use {x y : PySem.Str} {t : Tok} (B : Below A₀ base outer h₀) (F : Fr h₀ L s.heap m) (X : (Mine.hd.heap_39 w.params).In h₀) (T : Top p0 loose mean mg mb h₀) (hk : cs.kind = .function) (hd : dp + 2 < recursionLimit) (hu : un + 8 * 2 < cLine) (N : News h₀ L s.heap news)
    (hx : ∀ c ∈ x.cps.toList, okC c = true) (hc : costL x.cps.toList ≤ 2300000) (hy : y.cps.toList = readL x.cps.toList)
    (h : ∀ z tz h' tk', z.cps.toList = pctL y.cps.toList → Fr h₀ L h' m → News h₀ L h' news → Q (.str z tz) { s with heap := h', toks := tk' }) :
    wpAny (model PySem.Challenge.rw_ah6020_01.row.prog w) (ktrTop dp un gd cn cs L a ccd cl outer) (call (.ref 525) [.str y t]) Q E s := by
  obtain ⟨h1, h2, h3⟩ := read_fit hx hc hy
  exact text_use (percent_ctr w y t (by omega) (fun c hc => (h1 c hc).1) h2) B F X T hk hd hu N h
theorem quote_use {x y : PySem.Str} {t ts : Tok} (B : Below A₀ base outer h₀) (F : Fr h₀ L s.heap m) (X : (Mine.hd.heap_39 w.params).In h₀) (T : Top p0 loose mean mg mb h₀) (hk : cs.kind = .function) (hd : dp + 2 < recursionLimit) (hu : un + 8 * 2 < cLine) (N : News h₀ L s.heap news)
    (hx : ∀ c ∈ x.cps.toList, okC c = true) (hc : costL x.cps.toList ≤ 2300000) (hy : y.cps.toList = readL x.cps.toList)
    (h : ∀ z tz h' tk', z.cps.toList = pctL y.cps.toList → Fr h₀ L h' m → News h₀ L h' news → Q (.str z tz) { s with heap := h', toks := tk' }) :
    wpAny (model PySem.Challenge.rw_ah6020_01.row.prog w) (ktrTop dp un gd cn cs L a ccd cl outer) (call (.ref 52) [.str y t] [(Str.ofString "safe", .str safeT ts)]) Q E s := by
  obtain ⟨h1, h2, h3⟩ := read_fit hx hc hy
  refine quote_raw w y t ts (by omega) h1 h2 _ _ _ _ _ _ _ _ _ _ _ _ _ _ _ _ _ _ _ _ _ _ B F X T hk hd hu (fun q hq => nomatch hq) ?_
  intro v own' h' tk' F' N' KP _ hP
  obtain ⟨rfl, z, tz, rfl, hz⟩ := hP
  exact h z tz h' tk' hz F' fun q hq => ⟨KP _ _ (N q hq).1 (by simp), (N q hq).2⟩
end
end
local macro_rules | `(tactic| walk_at "call ref") => `(tactic| (k_here; (with_reducible show wpAny _ _ (call (Value.ref 163) _) _ _ _); k_dflt (refine' unescape_use ?k1 ?k2 ?k3 ?k4 ?k5 ?k6 ?k7 ?k8 ?hl ?_; walk_at "MINE ctx"; (case hl => first | assumption | omega); k_whole); intro y' t' h' tk' hy' hyl' F' N'; (try k_sweep)))
local macro_rules | `(tactic| walk_at "call ref") => `(tactic| (k_here; (with_reducible show wpAny _ _ (call (Value.ref 137) _) _ _ _); k_dflt (refine' escape_use ?k1 ?k2 ?k3 ?k4 ?k5 ?k6 ?k7 ?k8 ?hl ?_; walk_at "MINE ctx"; (case hl => first | assumption | omega); k_whole); intro y' t' h' tk' hy' F' N'; (try k_sweep)))
local macro_rules | `(tactic| walk_at "call ref") => `(tactic| (k_here; (with_reducible show wpAny _ _ (call (Value.ref 504) _) _ _ _); k_dflt (refine' readlaw_use ?k1 ?k2 ?k3 ?k4 ?k5 ?k6 ?k7 ?k8 ?hx ?hl ?_; walk_at "MINE ctx"; (case hx => assumption); (case hl => first | assumption | omega); k_whole); intro y' t' h' tk' hy' hyl' F' N'; (try k_sweep)))
local macro_rules | `(tactic| walk_at "call ref") => `(tactic| (k_here; (with_reducible show wpAny _ _ (call (Value.ref 511) _) _ _ _); k_dflt (refine' marks_use ?k1 ?k2 ?k3 ?k4 ?k5 ?k6 ?k7 ?k8 ?hl ?_; walk_at "MINE ctx"; (case hl => first | assumption | omega); k_whole); intro y' t' h' tk' hy' F' N'; (try k_sweep)))
local macro_rules | `(tactic| walk_at "call ref") => `(tactic| (k_here; (with_reducible show wpAny _ _ (call (Value.ref 525) _) _ _ _); k_dflt (refine' percent_use ?k1 ?k2 ?k3 ?k4 ?k5 ?k6 ?k7 ?k8 ?hx ?hc ?hy ?_; walk_at "MINE ctx"; (case hx => assumption); (case hc => assumption); (case hy => assumption); k_whole); intro y' t' h' tk' hy' F' N'; (try k_sweep)))
local macro_rules | `(tactic| walk_at "call ref") => `(tactic| (k_here; (with_reducible show wpAny _ _ (call (Value.ref 52) [Value.str _ _] _) _ _ _); k_dflt (refine' quote_use ?k1 ?k2 ?k3 ?k4 ?k5 ?k6 ?k7 ?k8 ?hx ?hc ?hy ?_; walk_at "MINE ctx"; (case hx => assumption); (case hc => assumption); (case hy => assumption); k_whole); intro y' t' h' tk' hy' F' N'; (try k_sweep)))
-- part Entity
section
theorem entity_ctr (w : World) (x : PySem.Str) (t : Tok) (hl : x.length ≤ 2300000) :
    Ctr PySem.Challenge.rw_ah6020_01.row.prog w 5 151 [.str x t] [] (fun _ => True)
      (fun _ v own' => own' = [] ∧ ∃ y ty, v = .str y ty ∧ y.cps.toList = marksL (readL x.cps.toList)) := by
  unfold Ctr
  k_fill
  w_top off
  k_with_none
  intro p0 loose mean mg mb dp un gd cn cs a ccd cl outer A₀ base h₀ L m s Q E B F X T hk hd hu N hpre hret
  refine wpAny_call ?_
  k_dflt (walk_at "MINE enter")
  intro g' L' h' FG' F' N' B' X' T' KG hL' lt' lv
  generalize s.toks + List.length _ = tk0
  (try dsimp only)
  (try k_lift B')
  try k_fold
  k_with_none
  k_steps
  (try dsimp only)
  rename Fr g' _ _ _ => F9
  obtain ⟨a1, a2, a3, a4⟩ := lv _ _ _ [] F9 (fun _ hq => nomatch hq)
  refine hret _ _ _ _ a1 a2 a3 a4 ⟨rfl, _, _, rfl, ?_⟩
  rename _ = readL _ => e1
  rename _ = marksL _ => e2
  rw [e2, e1]
section
variable {w : World} {A₀ : Around} {s : Shared} {base h₀ : Heap} {outer : List Env} {L : Addr} {m : Str → Option Value} {news : List (Addr × Obj)} {p0 : Program} {loose : List Str} {mean : ExcName → Option Value} {mg mb : Str → Option Value}
  {dp un : Nat} {gd : Option (List Code)} {cn : Str} {cs : Scope} {a : Addr} {ccd : Value} {cl : List (Str × Addr)} {Q E : Value → Shared → Prop}
theorem entity_use {x : PySem.Str} {t : Tok} (B : Below A₀ base outer h₀) (F : Fr h₀ L s.heap m) (X : (Mine.hd.heap_39 w.params).In h₀) (T : Top p0 loose mean mg mb h₀) (hk : cs.kind = .function) (hd : dp + 5 < recursionLimit) (hu : un + 8 * 5 < cLine) (N : News h₀ L s.heap news)
    (hl : x.length ≤ 2300000)
    (h : ∀ y ty h' tk', y.cps.toList = marksL (readL x.cps.toList) → Fr h₀ L h' m → News h₀ L h' news → Q (.str y ty) { s with heap := h', toks := tk' }) :
    wpAny (model PySem.Challenge.rw_ah6020_01.row.prog w) (ktrTop dp un gd cn cs L a ccd cl outer) (call (.ref 151) [.str x t]) Q E s :=
  text_use (entity_ctr w x t hl) B F X T hk hd hu N h
end
end
local macro_rules | `(tactic| walk_at "call ref") => `(tactic| (k_here; (with_reducible show wpAny _ _ (call (Value.ref 151) _) _ _ _); k_dflt (refine' entity_use ?k1 ?k2 ?k3 ?k4 ?k5 ?k6 ?k7 ?k8 ?hl ?_; walk_at "MINE ctx"; (case hl => first | assumption | omega); k_whole); intro y' t' h' tk' hy' F' N'; (try k_sweep)))
-- part Url
section
theorem url_ctr (w : World) (x : PySem.Str) (t : Tok) (hx : ∀ c ∈ x.cps.toList, okC c = true) (hc : costL x.cps.toList ≤ 2300000) :
    Ctr PySem.Challenge.rw_ah6020_01.row.prog w 5 144 [.str x t] [] (fun _ => True)
      (fun _ v own' => own' = [] ∧ ∃ y ty, v = .str y ty ∧ y.cps.toList = pctL (readL x.cps.toList)) := by
  have hl : x.length ≤ 2300000 := by
    have := cost_len x.cps.toList
    rw [← len_cps] at this
    omega
  unfold Ctr
  k_fill
  w_top off
  k_with_none
  intro p0 loose mean mg mb dp un gd cn cs a ccd cl outer A₀ base h₀ L m s Q E B F X T hk hd hu N hpre hret
  refine wpAny_call ?_
  k_dflt (walk_at "MINE enter")
  intro g' L' h' FG' F' N' B' X' T' KG hL' lt' lv
  generalize s.toks + List.length _ = tk0
  (try dsimp only)
  (try k_lift B')
  try k_fold
  k_with_none
  k_steps
  (try dsimp only)
  rename Fr g' _ _ _ => F9
  obtain ⟨a1, a2, a3, a4⟩ := lv _ _ _ [] F9 (fun _ hq => nomatch hq)
  refine hret _ _ _ _ a1 a2 a3 a4 ⟨rfl, _, _, rfl, ?_⟩
  rename _ = readL _ => e1
  rename _ = pctL _ => e2
  rw [e2, e1]
section
variable {w : World} {A₀ : Around} {s : Shared} {base h₀ : Heap} {outer : List Env} {L : Addr} {m : Str → Option Value} {news : List (Addr × Obj)} {p0 : Program} {loose : List Str} {mean : ExcName → Option Value} {mg mb : Str → Option Value}
  {dp un : Nat} {gd : Option (List Code)} {cn : Str} {cs : Scope} {a : Addr} {ccd : Value} {cl : List (Str × Addr)} {Q E : Value → Shared → Prop}
theorem url_use {x : PySem.Str} {t : Tok} (B : Below A₀ base outer h₀) (F : Fr h₀ L s.heap m) (X : (Mine.hd.heap_39 w.params).In h₀) (T : Top p0 loose mean mg mb h₀) (hk : cs.kind = .function) (hd : dp + 5 < recursionLimit) (hu : un + 8 * 5 < cLine) (N : News h₀ L s.heap news)
    (hx : ∀ c ∈ x.cps.toList, okC c = true) (hc : costL x.cps.toList ≤ 2300000)
    (h : ∀ y ty h' tk', y.cps.toList = pctL (readL x.cps.toList) → Fr h₀ L h' m → News h₀ L h' news → Q (.str y ty) { s with heap := h', toks := tk' }) :
    wpAny (model PySem.Challenge.rw_ah6020_01.row.prog w) (ktrTop dp un gd cn cs L a ccd cl outer) (call (.ref 144) [.str x t]) Q E s :=
  text_use (url_ctr w x t hx hc) B F X T hk hd hu N h
end
end
local macro_rules | `(tactic| walk_at "call ref") => `(tactic| (k_here; (with_reducible show wpAny _ _ (call (Value.ref 144) _) _ _ _); k_dflt (refine' url_use ?k1 ?k2 ?k3 ?k4 ?k5 ?k6 ?k7 ?k8 ?hx ?hc ?_; walk_at "MINE ctx"; (case hx => assumption); (case hc => assumption); k_whole); intro y' t' h' tk' hy' F' N'; (try k_sweep)))
-- part PieceUse
section
section
variable {w : World} {A₀ : Around} {s : Shared} {base h₀ : Heap} {outer : List Env} {L : Addr} {m : Str → Option Value} {news : List (Addr × Obj)} {p0 : Program} {loose : List Str} {mean : ExcName → Option Value} {mg mb : Str → Option Value}
  {dp un : Nat} {gd : Option (List Code)} {cn : Str} {cs : Scope} {a : Addr} {ccd : Value} {cl : List (Str × Addr)} {Q E : Value → Shared → Prop}
theorem piece_use {bx sc : Addr} {vs : List Value} {ns : List Int} {p b : Int} {t1 t2 : Tok} {nb : Nat} {lf : Obj → List (Addr × Obj)}
    (B : Below A₀ base outer h₀) (F : Fr h₀ L s.heap m) (X : (Mine.hd.heap_39 w.params).In h₀) (T : Top p0 loose mean mg mb h₀) (hk : cs.kind = .function) (hd : dp + 4 < recursionLimit) (hu : un + 8 * 4 < cLine)
    (N : News h₀ L s.heap news) (U : UpdF bx (boxO sc p b t1 t2 nb) news lf) (O : BoxOk s.heap sc vs ns p b) (hbig : ∀ n ∈ ns, BigOk (n.natAbs : Int))
    (h : ∀ r x t f c p' b' t1' t2' nb' h' tk', PieceOk x.cps.toList f → 0 ≤ p' → 0 ≤ b' → b' < 2147483647 → Fr h₀ L h' m → News h₀ L h' ((r, W.listOf #[.str x t, .bool f] c) :: lf (boxO sc p' b' t1' t2' nb')) → AllNe r (lf (boxO sc p' b' t1' t2' nb')) → Q (.ref r) { s with heap := h', toks := tk' }) :
    wpAny (model PySem.Challenge.rw_ah6020_01.row.prog w) (ktrTop dp un gd cn cs L a ccd cl outer) (call (.ref 483) [.ref bx]) Q E s := by
  obtain ⟨_, _, hm, _, _, _⟩ := updF_rest U
  have ne := box_ne O (N _ hm).1
  refine Ctr.made ((piece_ctr w bx sc vs ns O.isI O.len hbig p b t1 t2 nb O.p0 O.b0 O.b1 ne).post (Post' := fun _ v own' => ∃ r ro o', own' = [(r, ro), (bx, o')] ∧ v = .ref r ∧ @Ne Nat bx r ∧ ∃ x t f c p' b' t1' t2' nb', PieceOk x.cps.toList f ∧ 0 ≤ p' ∧ 0 ≤ b' ∧ b' < 2147483647 ∧ ro = W.listOf #[.str x t, .bool f] c ∧ o' = boxO sc p' b' t1' t2' nb') ?_) B F X T hk hd hu N U O.list ?_
  · rintro h v own' ⟨r, x, t, f, c, p', b', t1', t2', nb', e1, e2, e3, e4, e5, e6, e7⟩
    exact ⟨_, _, _, e2, e1, e7, x, t, f, c, p', b', t1', t2', nb', e3, e4, e5, e6, rfl, rfl⟩
  rintro r ro o' h' tk' ⟨x, t, f, c, p', b', t1', t2', nb', e3, e4, e5, e6, rfl, rfl⟩ F' N' hn KP
  exact h r x t f c p' b' t1' t2' nb' h' tk' e3 e4 e5 e6 F' N' hn
end
end
local macro_rules | `(tactic| walk_at "call ref") => `(tactic| (k_here; (with_reducible show wpAny _ _ (call (Value.ref 483) _) _ _ _); k_dflt (refine' piece_use ?k1 ?k2 ?k3 ?k4 ?k5 ?k6 ?k7 ?k8 ?k9 ?k10 ?k11 ?_; walk_at "MINE ctx"; (case k9 => k_updF); (case k10 => walk_at "MINE box"); (case k11 => assumption); k_whole); intro r' x' t' f' c' p' b' t1' t2' nb' h' tk' hP' hp0' hb0' hb1' F' N' hn'; (try dsimp only at N'); (try (simp only [AllNe, and_true] at hn')); (try k_sweep)))
-- part Same
section
theorem same_ctr (w : World) (x y : PySem.Str) (t u : Tok) :
    Ctr PySem.Challenge.rw_ah6020_01.row.prog w 1 532 [.str x t, .str y u] [] (fun _ => True)
      (fun _ v own' => own' = [] ∧ v = .bool (x == y)) := by
  unfold Ctr
  k_fill
  w_top off
  k_with_none
  intro p0 loose mean mg mb dp un gd cn cs a ccd cl outer A₀ base h₀ L m s Q E B F X T hk hd hu N hpre hret
  refine wpAny_call ?_
  k_dflt (walk_at "MINE enter")
  intro g' L' h' FG' F' N' B' X' T' KG hL' lt' lv
  generalize s.toks + List.length _ = tk0
  (try dsimp only)
  (try k_lift B')
  try k_fold
  k_with_none
  k_steps
  (try dsimp only)
  rename Fr g' _ _ _ => F9
  obtain ⟨a1, a2, a3, a4⟩ := lv _ _ _ [] F9 (fun _ hq => nomatch hq)
  exact hret _ _ _ _ a1 a2 a3 a4 ⟨rfl, rfl⟩
section
variable {w : World} {A₀ : Around} {s : Shared} {base h₀ : Heap} {outer : List Env} {L : Addr} {m : Str → Option Value} {news : List (Addr × Obj)} {p0 : Program} {loose : List Str} {mean : ExcName → Option Value} {mg mb : Str → Option Value}
  {dp un : Nat} {gd : Option (List Code)} {cn : Str} {cs : Scope} {a : Addr} {ccd : Value} {cl : List (Str × Addr)} {Q E : Value → Shared → Prop}
theorem same_use {x y : PySem.Str} {t u : Tok} (B : Below A₀ base outer h₀) (F : Fr h₀ L s.heap m) (X : (Mine.hd.heap_39 w.params).In h₀) (T : Top p0 loose mean mg mb h₀) (hk : cs.kind = .function) (hd : dp + 1 < recursionLimit) (hu : un + 8 * 1 < cLine) (N : News h₀ L s.heap news)
    (h : ∀ h' tk', Fr h₀ L h' m → News h₀ L h' news → Q (.bool (x == y)) { s with heap := h', toks := tk' }) :
    wpAny (model PySem.Challenge.rw_ah6020_01.row.prog w) (ktrTop dp un gd cn cs L a ccd cl outer) (call (.ref 532) [.str x t, .str y u]) Q E s := by
  refine (same_ctr w x y t u).use (rest := news) B F X T hk hd hu N (fun q hq => nomatch hq) (fun q hq => hq) (fun q hq => by simp) trivial fun v own' h' tk' hP F' N' _ _ => ?_
  obtain ⟨rfl, rfl⟩ := hP
  exact h h' tk' F' N'
end
end
local macro_rules | `(tactic| walk_at "call ref") => `(tactic| (k_here; (with_reducible show wpAny _ _ (call (Value.ref 532) [Value.str _ _, Value.str _ _]) _ _ _); k_dflt (refine' same_use ?k1 ?k2 ?k3 ?k4 ?k5 ?k6 ?k7 ?k8 ?_; walk_at "MINE ctx"; k_whole); intro h' tk' F' N'; (try k_sweep)))
-- part LawR
section
theorem bigOk_of {ns : List Int} (h : PyData.layable0 (.list (ns.map .int)) = true) : ∀ n ∈ ns, BigOk (n.natAbs : Int) := fun n hn => by
  have h1 := PyData.bits_item_of_ints h hn
  refine ⟨?_⟩
  rw [Int.toNat_natCast]
  unfold Builtin.Int.intBits at h1
  by_cases h0 : n.natAbs = 0
  · rw [h0]; exact Nat.two_pow_pos _
  · have hne : (n == 0) = false := by simpa using fun q : n = 0 => h0 (by rw [q]; rfl)
    rw [hne] at h1
    simp only [Bool.false_eq_true, if_false] at h1
    exact Nat.lt_of_lt_of_le Nat.lt_log2_self (Nat.pow_le_pow_right (by decide) (Nat.le_trans h1 (by decide)))
section
variable {prog : Program} {w : World} {A : Around} {E : Value → Shared → Prop} {s : Shared} {env : Env} {h₀ : Heap} {x : Str} {body : List Stmt} {Q : Flow → Shared → Prop}
def TurnEnd (h₀ : Heap) (L I : Addr) (own : List (Addr × Obj)) (J : (Str → Option Value) → List (Addr × Obj) → Prop) (s₁ s₂ : Shared) : Prop :=
  ∃ h' tk m₂ news₂, s₂ = { s₁ with heap := h', toks := tk } ∧ Fr h₀ L h' m₂ ∧ News h₀ L h' (own ++ news₂) ∧ (∀ p ∈ news₂, p.1 ≠ I) ∧ J m₂ news₂
def TurnPost (h₀ : Heap) (L I : Addr) (own : List (Addr × Obj)) (J : (Str → Option Value) → List (Addr × Obj) → Prop) (s₁ : Shared) (Q : Flow → Shared → Prop) (f : Flow) (s₂ : Shared) : Prop :=
  match f with
  | .ret v => Q (.ret v) s₂
  | .brk => Q .next s₂
  | _ => TurnEnd h₀ L I own J s₁ s₂
theorem TurnEnd.intro {L I : Addr} {own : List (Addr × Obj)} {J : (Str → Option Value) → List (Addr × Obj) → Prop} {s₁ : Shared} {h' : Heap} {tk : Nat} {m₂ : Str → Option Value} {news₂ : List (Addr × Obj)}
    (F : Fr h₀ L h' m₂) (N : News h₀ L h' (own ++ news₂)) (hn : ∀ p ∈ news₂, p.1 ≠ I) (hj : J m₂ news₂) : TurnEnd h₀ L I own J s₁ { s₁ with heap := h', toks := tk } := ⟨h', tk, m₂, news₂, rfl, F, N, hn, hj⟩
/-- a loop over a list of the ledger that the turns leave alone -/
theorem iter_made {l : Addr} {vs : List Value} {c : Nat} {m₀ : Str → Option Value} {news : List (Addr × Obj)} (J : Nat → (Str → Option Value) → List (Addr × Obj) → Prop)
    (hh : A.handled = none) (hl : (l, W.listOf vs.toArray c) ∈ news) (F : Fr h₀ env.locals s.heap m₀) (N : News h₀ env.locals s.heap news) (hj : J 0 m₀ news)
    (turn : ∀ i v m₁ news₁ h tk own, vs[i]? = some v → J i m₁ news₁ → (∀ p ∈ own, p.1 = s.heap.objs.size ∨ p.1 = l) → (∀ p ∈ news₁, p.1 ≠ s.heap.objs.size) → Fr h₀ env.locals h (fun y => if y = x then some v else m₁ y) → News h₀ env.locals h (own ++ news₁) →
      wpAny (model prog w) A (execs body env) (TurnPost h₀ env.locals s.heap.objs.size own (J (i + 1)) { s with heap := h, toks := tk } Q) E { s with heap := h, toks := tk })
    (done : ∀ m₁ news₁ h tk, J vs.length m₁ news₁ → Fr h₀ env.locals h m₁ → News h₀ env.locals h news₁ → Q .next { s with heap := h, toks := tk }) :
    wpAny (model prog w) A (pyIter (.ref l)) (fun it s₂ => LoopAtV prog w A h₀ env x body Q E it s₂) E s := by
  have nl := N _ hl
  have hls : s.heap.IsList l vs.toArray := ⟨_, nl.1, rfl, _, rfl⟩
  have hlt : l < s.heap.objs.size := Heap.lt_size nl.1
  have hne : l ≠ s.heap.objs.size := Nat.ne_of_lt hlt
  refine wpAny_pyIter_list hls ?_
  have W := Walks.list (prog := prog) (w := w) hh s.heap.objs.size l hne vs.toArray
  have hlen : vs.toArray.size = vs.length := by simp
  rw [hlen] at W
  refine ⟨_, _, _, vs.length, _, _, m₀, news, J, rfl, W, ?_, ?_, ?_, ⟨⟨_, Heap.get?_push_size _ rfl, rfl, rfl⟩, hls.at fun o e => Heap.get?_push_of_some _ e⟩, F.push _, (fun p hp => ⟨Heap.get?_push_of_some _ (N p hp).1, (N p hp).2⟩), hj, ?_, ?_⟩
  · intro hm
    rcases List.mem_cons.mp hm with e | hm
    · exact absurd F.ns.lt (e ▸ Nat.lt_irrefl _)
    · exact nl.2.1 (List.mem_singleton.mp hm).symm
  · intro b hb
    rw [List.mem_singleton.mp hb]
    exact next_is_new F
  · intro p hp hI
    exact absurd (Heap.lt_size (N p hp).1) ((List.mem_singleton.mp hI) ▸ Nat.lt_irrefl _)
  · rintro i v m₁ news₁ s₁ own ⟨hh', tk', rfl⟩ hin hP hJ hoff hown _ _ _ F₁ N₁
    have hP' : vs[i]? = some v := by simpa using hP
    refine wpAny_mono (turn i v m₁ news₁ hh' tk' own hP' hJ (fun p hp => by have := hown p hp; simpa using this) (fun p hp => by have := hoff p hp; simpa using this) F₁ N₁) (fun f s₂ p => ?_) fun _ _ e => e
    have fin : TurnEnd h₀ env.locals s.heap.objs.size own (J (i + 1)) { s with heap := hh', toks := tk' } s₂ → LoopStepU h₀ env.locals [s.heap.objs.size] own (J (i + 1)) { s with heap := hh', toks := tk' } .next s₂ := by
      rintro ⟨h', tk, m', news', e, F', N', hn, hm⟩
      exact ⟨rfl, h', tk, m', news', e, F', N', fun p hp => by have := hn p hp; simpa using this, hm⟩
    cases f with
    | ret v => exact .ret p
    | brk => exact .brk p
    | next => exact .next (fin p)
    | cont => exact .cont (fin p)
  · rintro h' tk m' news' F' N' _ hJ
    exact done m' news' h' tk hJ F' N'
/-- a loop over a range -/
theorem iter_rangeJ {r : Addr} {a₀ b₀ c₀ : Int} {t₀ u₀ v₀ : Tok} {n : Nat} {m₀ : Str → Option Value} {news : List (Addr × Obj)} (J : Nat → (Str → Option Value) → List (Addr × Obj) → Prop)
    (hh : A.handled = none) (hr : IsRange s.heap r a₀ b₀ c₀ t₀ u₀ v₀) (hsmall : Builtin.Range.small a₀ b₀ c₀ = true) (hn : Builtin.Range.rangeSize a₀ b₀ c₀ = (n : Int)) (F : Fr h₀ env.locals s.heap m₀) (N : News h₀ env.locals s.heap news) (hj : J 0 m₀ news)
    (turn : ∀ i v m₁ news₁ h tk own, i < n → J i m₁ news₁ → (∀ p ∈ own, p.1 = s.heap.objs.size) → (∃ o, (s.heap.objs.size, o) ∈ own) → (∀ p ∈ news₁, p.1 ≠ s.heap.objs.size) → Fr h₀ env.locals h (fun y => if y = x then some v else m₁ y) → News h₀ env.locals h (own ++ news₁) →
      wpAny (model prog w) A (execs body env) (TurnPost h₀ env.locals s.heap.objs.size own (J (i + 1)) { s with heap := h, toks := tk } Q) E { s with heap := h, toks := tk })
    (done : ∀ m₁ news₁ h tk, J n m₁ news₁ → Fr h₀ env.locals h m₁ → News h₀ env.locals h news₁ → Q .next { s with heap := h, toks := tk }) :
    wpAny (model prog w) A (pyIter (.ref r)) (fun it s₂ => LoopAtV prog w A h₀ env x body Q E it s₂) E s := by
  refine wpAny_pyIter_range hr hsmall ?_
  have W := Walks.range (prog := prog) (w := w) hh s.heap.objs.size a₀ c₀ n
  refine ⟨_, _, _, n, _, _, m₀, news, J, rfl, W, ?_, ?_, ?_, (by rw [hn]; simpa using Heap.get?_push_size _ rfl), F.push _, (fun p hp => ⟨Heap.get?_push_of_some _ (N p hp).1, (N p hp).2⟩), hj, ?_, ?_⟩
  · intro hm
    exact absurd F.ns.lt ((List.mem_singleton.mp hm) ▸ Nat.lt_irrefl _)
  · intro b hb
    rw [List.mem_singleton.mp hb]
    exact next_is_new F
  · intro p hp hI
    exact absurd (Heap.lt_size (N p hp).1) ((List.mem_singleton.mp hI) ▸ Nat.lt_irrefl _)
  · rintro i v m₁ news₁ s₁ own ⟨hh', tk', rfl⟩ hin hP hJ hoff hown _ hall hst F₁ N₁
    refine wpAny_mono (turn i v m₁ news₁ hh' tk' own hin hJ (fun p hp => by have := hown p hp; simpa using this) ⟨_, hall s.heap.objs.size (List.mem_singleton.mpr rfl) (next_is_new F) _ hst⟩ (fun p hp => by have := hoff p hp; simpa using this) F₁ N₁) (fun f s₂ p => ?_) fun _ _ e => e
    have fin : TurnEnd h₀ env.locals s.heap.objs.size own (J (i + 1)) { s with heap := hh', toks := tk' } s₂ → LoopStepU h₀ env.locals [s.heap.objs.size] own (J (i + 1)) { s with heap := hh', toks := tk' } .next s₂ := by
      rintro ⟨h', tk, m', news', e, F', N', hn, hm⟩
      exact ⟨rfl, h', tk, m', news', e, F', N', fun p hp => by have := hn p hp; simpa using this, hm⟩
    cases f with
    | ret v => exact .ret p
    | brk => exact .brk p
    | next => exact .next (fin p)
    | cont => exact .cont (fin p)
  · rintro h' tk m' news' F' N' _ hJ
    exact done m' news' h' tk hJ F' N'
end
end
-- part LawT1
section
def recOf {a b c d e} {fn : DefRec} {g h} {H : Prop} (_ : WalkO a b c d e fn g h → H) : DefRec := fn
abbrev lawRec : DefRec := recOf Mine.hd
def forBody : Stmt → List Stmt
  | .For _ _ b _ _ => b
  | _ => []
abbrev nth (l : List Stmt) (i : Nat) : Stmt := l.getD i (.Pass default)
theorem lookup_if {x y : Str} {v : Value} {l : List (Str × Value)} : (if y = x then some v else List.lookup y l) = List.lookup y ((x, v) :: l) := by
  rw [List.lookup_cons]
  by_cases h : y = x
  · subst h; simp
  · have : (y == x) = false := by simpa using h
    rw [if_neg h, this]
section
local macro_rules | `(tactic| k_all) => `(tactic| assumption)
variable {w : World} {g : Heap} {L fa : Addr} {cd : Value} {p0 : Program} {loose : List Str} {mean : ExcName → Option Value} {mg mb : Str → Option Value} {s : Shared} {E : Value → Shared → Prop} {Q : Flow → Shared → Prop}
theorem turn1 {bx pl sc : Addr} {v : Value} {vs : List Value} {ns : List Int} {p b : Int} {t1 t2 : Tok} {nb c : Nat} {its : Array Value} {R : List (Addr × Obj)}
    (F : Fr g L s.heap (fun y => List.lookup y [(Str.ofString "turn", v), (Str.ofString "pieces", .ref pl), (Str.ofString "box", .ref bx), (Str.ofString "script", .ref sc)]))
    (X : (Mine.hd.heap_39 w.params).In g) (T : Top p0 loose mean mg mb g) (B : Below callerA g [] g)
    (N : News g L s.heap ((bx, boxO sc p b t1 t2 nb) :: (pl, W.listOf its c) :: R)) (hne : @Ne Nat pl bx) (hRb : ∀ q ∈ R, q.1 ≠ bx) (hRp : ∀ q ∈ R, q.1 ≠ pl)
    (hg : g.IsList sc vs.toArray) (hi : IntsAre vs ns) (hlen : ns.length < 2 ^ 62) (hbig : ∀ n ∈ ns, BigOk (n.natAbs : Int)) (hp0 : 0 ≤ p) (hb0 : 0 ≤ b) (hb1 : b < 2147483647) (hits : its.size ≤ 100)
    (h : ∀ r x t f c1 p' b' t1' t2' nb' c' h' tk', PieceOk x.cps.toList f → 0 ≤ p' → 0 ≤ b' → b' < 2147483647 → @Ne Nat bx r → @Ne Nat pl r → AllNe r R →
      Fr g L h' (fun y => List.lookup y [(Str.ofString "turn", v), (Str.ofString "pieces", .ref pl), (Str.ofString "box", .ref bx), (Str.ofString "script", .ref sc)]) →
      News g L h' ((r, W.listOf #[.str x t, .bool f] c1) :: (bx, boxO sc p' b' t1' t2' nb') :: (pl, W.listOf (its.push (.ref r)) c') :: R) → Q .next { s with heap := h', toks := tk' }) :
    wpAny (model PySem.Challenge.rw_ah6020_01.row.prog w) (callerA.deeper (envOf lawRec.name lawRec.scope L fa cd)) (execs (forBody (nth lawRec.body 2)) (envOf lawRec.name lawRec.scope L fa cd)) Q E s := by
  simp only [lawRec, recOf, nth, List.getD_cons_succ, List.getD_cons_zero, forBody]
  revert X
  k_fill
  w_top off
  k_with_none
  intro X
  (try k_lift B)
  try k_fold
  k_with_none
  k_steps
  rename _ ∧ _ ∧ AllNe _ _ => hn9
  rename News g L _ _ => N9
  rename Fr g L _ _ => F9
  refine h _ _ _ _ _ _ _ _ _ _ _ _ _ ?a1 ?a2 ?a3 ?a4 hn9.1 hn9.2.1 hn9.2.2 F9 N9
  all_goals assumption
end
end
-- part LawT2
section
structure TextOk (T : PySem.Str) (n : Nat) : Prop where
  ok : ∀ c ∈ T.cps.toList, okC c = true
  cost : costL T.cps.toList ≤ n * 349800
theorem textOk_start : TextOk (Str.ofString "") 0 := ⟨fun c hc => (by rw [show (Str.ofString "").cps.toList = [] by decide] at hc; cases hc), by decide⟩
theorem textOk_turn {T wd x : PySem.Str} {n : Nat} {f : Bool} {l : List PySem.Str} (h : TextOk T n) (hw : wd ∈ l) (hl : (l.all fun y => y.cps.toList.all okC && decide (costL y.cps.toList ≤ 100)) = true) (hp : PieceOk x.cps.toList f) : TextOk (T ++ wd ++ x) (n + 1) := by
  have h1 := List.all_eq_true.mp hl wd hw
  simp only [Bool.and_eq_true, List.all_eq_true, decide_eq_true_eq] at h1
  refine ⟨fun c hc => ?_, ?_⟩
  · rw [cps_app, cps_app] at hc
    rcases List.mem_append.mp hc with hc | hc
    · rcases List.mem_append.mp hc with hc | hc
      · exact h.ok c hc
      · exact h1.1 c hc
    · exact hp.ok c hc
  · rw [cps_app, cps_app, costL_append, costL_append]
    have := h.cost
    have := hp.cost
    omega
theorem textOk_len {T : PySem.Str} {n : Nat} (h : TextOk T n) : T.length ≤ n * 349800 := by
  have := cost_len T.cps.toList
  rw [← len_cps] at this
  exact Nat.le_trans this h.cost
section
local macro_rules | `(tactic| k_all) => `(tactic| assumption)
variable {w : World} {g : Heap} {L fa : Addr} {cd : Value} {p0 : Program} {loose : List Str} {mean : ExcName → Option Value} {mg mb : Str → Option Value} {s : Shared} {E : Value → Shared → Prop} {Q : Flow → Shared → Prop}
abbrev map2 (rp pl bx sc : Addr) (T : PySem.Str) (tT : Tok) (u : Option Value) : Str → Option Value := fun y => if y = Str.ofString "piece" then some (.ref rp) else if y = Str.ofString "text" then some (.str T tT) else if y = Str.ofString "turn" then u else List.lookup y [(Str.ofString "pieces", Value.ref pl), (Str.ofString "box", .ref bx), (Str.ofString "script", .ref sc)]
theorem fr_text {h : Heap} {rp pl bx sc : Addr} {T T2 : PySem.Str} {tT tT2 : Tok} {u : Option Value} (F : Fr g L h (fun y => if y = Str.ofString "text" then some (.str T2 tT2) else map2 rp pl bx sc T tT u y)) : Fr g L h (map2 rp pl bx sc T2 tT2 u) := by
  have e : (fun y => if y = Str.ofString "text" then some (.str T2 tT2) else map2 rp pl bx sc T tT u y) = map2 rp pl bx sc T2 tT2 u := by
    funext y
    by_cases h1 : y = Str.ofString "text"
    · subst h1
      have : ¬ (Str.ofString "text" = Str.ofString "piece") := by decide
      simp only [map2, if_true, if_neg this]
    · simp only [map2, if_neg h1]
  rw [← e]; exact F
theorem turn2 {bx pl sc rp : Addr} {u : Option Value} {T x : PySem.Str} {tT tx : Tok} {f : Bool} {vs : List Value} {ns : List Int} {p b : Int} {t1 t2 : Tok} {nb c n : Nat} {R : List (Addr × Obj)}
    (F : Fr g L s.heap (map2 rp pl bx sc T tT u))
    (X : (Mine.hd.heap_39 w.params).In g) (T' : Top p0 loose mean mg mb g) (B : Below callerA g [] g)
    (N : News g L s.heap ((bx, boxO sc p b t1 t2 nb) :: (rp, W.listOf #[.str x tx, .bool f] c) :: R)) (hne : @Ne Nat rp bx) (hRb : ∀ q ∈ R, q.1 ≠ bx)
    (hg : g.IsList sc vs.toArray) (hi : IntsAre vs ns) (hlen : ns.length < 2 ^ 62) (hp0 : 0 ≤ p) (hb0 : 0 ≤ b) (hb1 : b < 2147483647)
    (hT : TextOk T n) (hn : n < 6) (hP : PieceOk x.cps.toList f)
    (h : ∀ T2 tT2 p' b' t1' t2' nb' h' tk', TextOk T2 (n + 1) → 0 ≤ p' → 0 ≤ b' → b' < 2147483647 → Fr g L h' (map2 rp pl bx sc T2 tT2 u) →
      News g L h' ((bx, boxO sc p' b' t1' t2' nb') :: (rp, W.listOf #[.str x tx, .bool f] c) :: R) → Q .next { s with heap := h', toks := tk' }) :
    wpAny (model PySem.Challenge.rw_ah6020_01.row.prog w) (callerA.deeper (envOf lawRec.name lawRec.scope L fa cd)) (execs (forBody (nth lawRec.body 4)) (envOf lawRec.name lawRec.scope L fa cd)) Q E s := by
  have hTl : T.length ≤ 2100000 := by have := textOk_len hT; have : n * 349800 ≤ 6 * 349800 := Nat.mul_le_mul_right _ (by omega); omega
  have hxl : x.length ≤ 349700 := by have := cost_len x.cps.toList; rw [← len_cps] at this; exact Nat.le_trans this hP.cost
  simp only [lawRec, recOf, nth, List.getD_cons_succ, List.getD_cons_zero, forBody]
  revert X
  k_fill
  w_top off
  k_with_none
  intro X
  (try k_lift B)
  try k_fold
  k_with_none
  k_steps
  rename News g L _ _ => N9
  rename Fr g L _ _ => F9
  rename _ ∈ List.filterMap _ _ => hw9
  refine h _ _ _ _ _ _ _ _ _ (textOk_turn hT hw9 (by decide +kernel) hP) ?a1 ?a2 ?a3 (fr_text F9) N9
  all_goals assumption
end
end
-- part LawT3
section
section
open PySem.Sre PySem.Builtin PySem.Builtin.Re
variable {w : World} {M : Model} {A : Around} {E : Value → Shared → Prop} {s : Shared} {h₀ : Heap} {L : Addr} {m : Str → Option Value} {news : List (Addr × Obj)}
/-- the pattern's match at a text, with the ledger -/
theorem match_use {x : PySem.Str} {t : Tok} {Q : Value → Shared → Prop} (F : Fr h₀ L s.heap m) (X : (Mine.hd.heap_39 w.params).In h₀) (N : News h₀ L s.heap news) (hx : x.cps.size ≤ 16777216)
    (hn : matchL x.cps.toList = none → Q .none s)
    (hs : ∀ k mo to lim h', matchL x.cps.toList = some k → Fr h₀ L h' m → News h₀ L h' ((mo, mtObj x t lim to) :: (to, mtTup 0 k) :: news) → Q (.ref mo) { s with heap := h' }) :
    wpAny (model PySem.Challenge.rw_ah6020_01.row.prog w) A (call (.builtin "re.Pattern.match") [.ref 156, .str x t]) Q E s := by
  refine match_call (pat_of F X) hx hn fun k hk => ?_
  have F1 := F.push (mtTup 0 k)
  have N1 := News.push F N (mtTup 0 k)
  have N2 := News.push F1 N1 (mtObj x t x.cps.size s.heap.objs.size)
  rw [Heap.size_push] at N2
  exact hs k _ _ _ _ hk (F1.push _) N2
theorem match_some {x : PySem.Str} {t : Tok} {Q : Value → Shared → Prop} (F : Fr h₀ L s.heap m) (X : (Mine.hd.heap_39 w.params).In h₀) (N : News h₀ L s.heap news) (hx : x.cps.size ≤ 16777216) (hm : matchL x.cps.toList = some x.cps.toList.length)
    (hs : ∀ mo to lim h', Fr h₀ L h' m → News h₀ L h' ((mo, mtObj x t lim to) :: (to, mtTup 0 x.cps.toList.length) :: news) → Q (.ref mo) { s with heap := h' }) :
    wpAny (model PySem.Challenge.rw_ah6020_01.row.prog w) A (call (.builtin "re.Pattern.match") [.ref 156, .str x t]) Q E s := by
  refine match_use F X N hx (fun h => ?_) fun k mo to lim h' hk F' N' => ?_
  · rw [hm] at h; cases h
  · rw [hm] at hk; cases hk
    exact hs mo to lim h' F' N'
theorem match_none {x : PySem.Str} {t : Tok} {Q : Value → Shared → Prop} (F : Fr h₀ L s.heap m) (X : (Mine.hd.heap_39 w.params).In h₀) (N : News h₀ L s.heap news) (hx : x.cps.size ≤ 16777216) (hm : matchL x.cps.toList = none) (h : Q .none s) :
    wpAny (model PySem.Challenge.rw_ah6020_01.row.prog w) A (call (.builtin "re.Pattern.match") [.ref 156, .str x t]) Q E s := by
  refine match_use F X N hx (fun _ => h) fun k mo to lim h' hk F' N' => ?_
  rw [hm] at hk; cases hk
end
section
variable {w : World} {A₀ : Around} {s : Shared} {base h₀ : Heap} {outer : List Env} {L : Addr} {m : Str → Option Value} {news : List (Addr × Obj)} {p0 : Program} {loose : List Str} {mean : ExcName → Option Value} {mg mb : Str → Option Value}
  {dp un : Nat} {gd : Option (List Code)} {cn : Str} {cs : Scope} {a : Addr} {ccd : Value} {cl : List (Str × Addr)} {Q E : Value → Shared → Prop}
theorem repl_use {x : PySem.Str} {t : Tok} {mo to : Addr} {lim : Nat} (B : Below A₀ base outer h₀) (F : Fr h₀ L s.heap m) (X : (Mine.hd.heap_39 w.params).In h₀) (T : Top p0 loose mean mg mb h₀) (hk : cs.kind = .function) (hd : dp + 2 < recursionLimit) (hu : un + 8 * 2 < cLine) (N : News h₀ L s.heap news)
    (hz : x.length ≤ 16777216) (hm : matchL x.cps.toList = some x.cps.toList.length) (h1 : (mo, mtObj x t lim to) ∈ news) (h2 : (to, mtTup 0 x.cps.toList.length) ∈ news)
    (h : ∀ y ty h' tk', y.cps.toList = repOf x.cps.toList → Fr h₀ L h' m → News h₀ L h' news → Q (.str y ty) { s with heap := h', toks := tk' }) :
    wpAny (model PySem.Challenge.rw_ah6020_01.row.prog w) (ktrTop dp un gd cn cs L a ccd cl outer) (call (.ref 66) [.ref mo]) Q E s := by
  have hl := matchL_len hm
  have hmt : MtAt s.heap mo x 0 x.cps.toList.length := ⟨t, lim, to, (N _ h1).1, (N _ h2).1⟩
  refine (repl_ctr w x mo 0 x.cps.toList.length hz (by rw [List.drop_zero, Nat.sub_zero]; exact hm) (by omega) (by rw [len_cps]; exact Nat.le_refl _)).use (rest := news) B F X T hk hd hu N (fun q hq => nomatch hq) (fun q hq => hq) (fun q hq => by simp) hmt fun v own' h' tk' hP F' N' _ _ => ?_
  obtain ⟨rfl, y, ty, rfl, hy⟩ := hP
  rw [List.drop_zero, Nat.sub_zero, List.take_length] at hy
  exact h y ty h' tk' hy F' N'
end
theorem head_cons {l : List Nat} (h : l.head? = some 38) : l = 38 :: l.drop (Int.toNat 0 + 1) := by
  cases l with
  | nil => cases h
  | cons c r => injection h with h; subst h; rfl
theorem same_none {x y : PySem.Str} (ha : x.cps.toList.head? = some 38) (hr : refL (38 :: x.cps.toList.drop (Int.toNat 0 + 1)) = none) (hy : y.cps.toList = repOf x.cps.toList) (hq : (y == x) = false) : False := by
  rw [← head_cons ha] at hr
  unfold repOf at hy
  rw [hr] at hy
  rw [str_eq_cps, decide_eq_false_iff_not] at hq
  exact hq hy.symm
theorem same_some {x y z : PySem.Str} {cc n : Nat} (ha : x.cps.toList.head? = some 38) (hr : refL (38 :: x.cps.toList.drop (Int.toNat 0 + 1)) = some (cc, n)) (hz : z = ⟨#[cc]⟩) (hy : y.cps.toList = repOf x.cps.toList) (hq : (y == z) = false) : False := by
  rw [← head_cons ha] at hr
  unfold repOf at hy
  rw [hr] at hy
  rw [str_eq_cps, decide_eq_false_iff_not] at hq
  subst hz
  exact hq hy.symm
section
local macro_rules | `(tactic| k_all) => `(tactic| assumption)
local macro_rules | `(tactic| walk_at "getMethod ref") => `(tactic| (k_here; (with_reducible show wpAny _ _ (getMethod (Value.ref 156) _ _) _ _ _); (refine get_match (by k_asm) (by k_asm) ?_)))
local macro_rules | `(tactic| walk_at "call builtin:re.Pattern.match") => `(tactic| (k_here; (with_reducible show wpAny _ _ (call (Value.builtin "re.Pattern.match") _) _ _ _); k_dflt (refine' match_none ?F ?X ?N ?hx ?hm ?_; (case F => k_asm); (case X => k_asm); (case N => k_asm); (case hx => assumption); (case hm => assumption); k_whole); (try k_sweep)))
local macro_rules | `(tactic| walk_at "call builtin:re.Pattern.match") => `(tactic| (k_here; (with_reducible show wpAny _ _ (call (Value.builtin "re.Pattern.match") _) _ _ _); k_dflt (refine' match_some ?F ?X ?N ?hx ?hm ?_; (case F => k_asm); (case X => k_asm); (case N => k_asm); (case hx => assumption); (case hm => assumption); k_whole); intro mo' to' lim' h' F' N'; (try k_sweep)))
local macro_rules | `(tactic| walk_at "call ref") => `(tactic| (k_here; (with_reducible show wpAny _ _ (call (Value.ref 66) _) _ _ _); k_dflt (refine' repl_use ?k1 ?k2 ?k3 ?k4 ?k5 ?k6 ?k7 ?k8 ?hz ?hm ?h1 ?h2 ?_; (case hz => assumption); (case hm => assumption); walk_at "MINE ctx"; (case h1 => k_mem); (case h2 => k_mem); k_whole); intro y' t' h' tk' hy' F' N'; (try k_sweep)))
variable {w : World} {g : Heap} {L fa : Addr} {cd : Value} {p0 : Program} {loose : List Str} {mean : ExcName → Option Value} {mg mb : Str → Option Value} {s : Shared} {E : Value → Shared → Prop} {Q : Flow → Shared → Prop}
theorem turn3 {rp : Addr} {x : PySem.Str} {tx : Tok} {f : Bool} {c : Nat} {R : List (Addr × Obj)} {m : Str → Option Value}
    (F : Fr g L s.heap (fun y => if y = Str.ofString "piece" then some (.ref rp) else m y))
    (X : (Mine.hd.heap_39 w.params).In g) (T' : Top p0 loose mean mg mb g) (B : Below callerA g [] g)
    (N : News g L s.heap ((rp, W.listOf #[.str x tx, .bool f] c) :: R)) (hP : PieceOk x.cps.toList f)
    (h : ∀ m' h' tk', (∀ z, z ≠ Str.ofString "piece" → z ≠ Str.ofString "match" → z ≠ Str.ofString "found" → m' z = m z) → Fr g L h' m' →
      News g L h' ((rp, W.listOf #[.str x tx, .bool f] c) :: R) → Q .next { s with heap := h', toks := tk' }) :
    wpAny (model PySem.Challenge.rw_ah6020_01.row.prog w) (callerA.deeper (envOf lawRec.name lawRec.scope L fa cd)) (execs (forBody (nth lawRec.body 11)) (envOf lawRec.name lawRec.scope L fa cd)) Q E s := by
  have hxl : x.length ≤ 349700 := by have := cost_len x.cps.toList; rw [← len_cps] at this; exact Nat.le_trans this hP.cost
  have hx1 : x.length ≤ 3000000 := Nat.le_trans hxl (by decide)
  have hx2 : x.length ≤ 16777216 := Nat.le_trans hxl (by decide)
  have hx3 : x.cps.size ≤ 16777216 := hx2
  have hok := hP.ok
  have hamp := hP.amp
  have hx0 : 0 < x.length := by
    have := hP.amp
    rw [len_cps]
    cases e : x.cps.toList with
    | nil => rw [e] at this; cases this
    | cons c r => exact Nat.succ_pos _
  have hmm : (f = false ∧ matchL x.cps.toList = none) ∨ (f = true ∧ matchL x.cps.toList = some x.cps.toList.length) := by
    cases hf : f with
    | false => exact .inl ⟨rfl, hP.no hf⟩
    | true => exact .inr ⟨rfl, hP.yes hf⟩
  simp only [lawRec, recOf, nth, List.getD_cons_succ, List.getD_cons_zero, forBody]
  revert X
  k_fill
  w_top off
  k_with_none
  intro X
  clear hP
  rcases hmm with ⟨rfl, hmm⟩ | ⟨rfl, hmm⟩
  all_goals (try k_fold)
  all_goals k_with_none
  k_steps
  all_goals first
    | exact (same_none hamp (by assumption) (by assumption) (by assumption)).elim
    | exact (same_some hamp (by assumption) (by assumption) (by assumption) (by assumption)).elim
    | (rename News g L _ _ => N9
       rename Fr g L _ _ => F9
       refine h _ _ _ ?_ F9 ?_
       · intro z h1 h2 h3
         simp only [h1, h2, h3, if_false]
       · first | exact N9 | exact fun q hq => N9 q (.tail _ (.tail _ hq)) | exact fun q hq => N9 q (.tail _ (.tail _ (.tail _ hq))))
end
end
-- part LawH
section
theorem eq_no {a b : PySem.Str} {l : List Nat} (hq : (a == b) = false) (h1 : a.cps.toList = l) (h2 : b.cps.toList = l) : False := by
  rw [str_eq_cps, decide_eq_false_iff_not] at hq
  exact hq (h2.trans h1.symm)
theorem eq_no_f {a b P : PySem.Str} {r : List Nat} (f : List Nat → List Nat) (hq : (a == b) = false) (hP : P.cps.toList = r) (h1 : a.cps.toList = f r) (h2 : b.cps.toList = f P.cps.toList) : False := by
  rw [hP] at h2
  exact eq_no hq h1 h2
section
theorem super_use {w : World} {A : Around} {E : Value → Shared → Prop} {s : Shared} {h₀ : Heap} {L : Addr} {m : Str → Option Value} {news : List (Addr × Obj)} {D x C : Addr} {ox : Obj} {odx : Option Obj} {cdD : ClassData} {Q : Value → Shared → Prop}
    (F : Fr h₀ L s.heap m) (X₀ : (Mine.hd.heap_39 w.params).In h₀) (N : News h₀ L s.heap news) (I : PySem.W.InstAt s.heap x ox C odx) (hD : clsIn (Mine.hd.heap_39 w.params) D = some cdD) (hsub : mroIn (Mine.hd.heap_39 w.params) C (.ref D) = some true)
    (h : ∀ so h', Fr h₀ L h' m → News h₀ L h' ((so, ks_superObj D x C) :: news) → (∀ p ∈ news, p.1 < so) → Q (.ref so) { s with heap := h' }) :
    wpAny (model PySem.Challenge.rw_ah6020_01.row.prog w) A (call (.type "super") [.ref D, .ref x]) Q E s := by
  have X : (Mine.hd.heap_39 w.params).In s.heap := X₀.keeps F.keep
  obtain ⟨hh, g, d, t, os⟩ := s
  obtain ⟨oD, hD1, hD2⟩ : ∃ oD, hh.get? D = some oD ∧ oD.data = .cls cdD := by
    unfold clsIn at hD
    split at hD
    · rename_i c d cd' sl ho
      cases hD
      exact ⟨_, X _ _ ho, rfl⟩
    · cases hD
  refine ks_wpAny_call_super hD1 hD2 I.at_ I.cls (fun c e => ?_) (looks_mroIn X hsub) (fun h' e k => ?_)
  · have := I.no
    unfold notCls at this
    rw [e] at this
    exact Bool.noConfusion this
  · obtain ⟨F', N', l'⟩ := ks_newsPush (s := ⟨hh, g, d, t, os⟩) F N rfl e k
    exact h _ _ F' N' l'
local macro_rules | `(tactic| walk_at "call type:super") => `(tactic| (k_here; (with_reducible show wpAny _ _ (call (Value.type "super") [Value.ref _, Value.ref _]) _ _ _); k_dflt (refine' super_use ?k1 ?k2 ?k3 ?k4 ?k5 ?k6 ?_; (case k1 => k_asm); (case k2 => k_asm); (case k3 => k_asm); (case k4 => k_inst); (case k5 => k_is); (case k6 => k_is)); intro so' h' F' N' l1; (try k_lt l1)))
local macro_rules | `(tactic| k_all) => `(tactic| first | assumption | exact fun q hq => Nat.ne_of_lt (by refine (?_ : ∀ q ∈ _, q.1 < _) q hq; assumption) | exact fun q hq => Nat.ne_of_gt (by refine (?_ : ∀ q ∈ _, q.1 < _) q hq; assumption))
local macro_rules | `(tactic| walk_at "eval Name") => `(tactic| (k_here; (with_reducible show wpAny _ _ (eval (Expr.Name _ _) (ksEnv _ _ _ _ _ _)) _ _ _); (with_reducible rename Fr _ _ _ _ => kF); k_dflt (refine' nameX_B kF ?k1 ?k2 ?k3 ?k4 ?k5 ?_; (case k1 => k_asm); (case k2 => k_asm); (case k3 => k_is); (case k4 => first | boot_by_name | rfl | kernel_rfl); (case k5 => decide); k_whole)))
local macro_rules | `(tactic| walk_at "call ref") => `(tactic| (k_here; (with_reducible show wpAny _ _ (call (Value.ref 393) _ _) _ _ _); k_dflt (refine' call_cls ?k1 ?k2 ?k3 ?k4 ?k5 ?k6 ?_; (case k1 => k_asm); (case k2 => k_asm); (case k3 => k_asm); (case k4 => k_is); (case k5 => k_is); (case k6 => k_is); intro x' d' h' F' N' l1 l2; (try k_lt l1); (try k_lt2 l2); (refine' ks_code_super ?k1 ?k2 ?k3 ?k4 ?k5 ?kA ?kF ?kK ?k6 ?k7 ?k8 ?k9 ?kB ?_ ?c1 ?c2 ?c3 ?c4; (case kA => exact rfl); (case kF => exact rfl); (case kK => exact rfl); (case k1 => k_asm); (case k2 => k_asm); (case k3 => k_asm); (case k4 => k_asm); (case k5 => k_asm); (case k6 => k_is); (case k7 => k_is); (case k8 => k_room); (case k9 => first | exact BindsTo.of_eq rfl | exact binds_K (by k_in) rfl (by k_is) rfl rfl rfl); (case kB => exact locs rfl); (case c1 => decide); (case c2 => exact rfl); (case c3 => exact rfl); (case c4 => exact rfl); intro g' L' h' FG' F' N' B' X' T' l1; (try k_lt l1); (try dsimp only); (try k_lift B'); refine wpAt_of_wpAny ?_))))
variable {w : World} {g : Heap} {L fa : Addr} {cd : Value} {p0 : Program} {loose : List Str} {mean : ExcName → Option Value} {mg mb : Str → Option Value} {s : Shared} {E : Value → Shared → Prop} {Q : Flow → Shared → Prop}
theorem seg7 {T P : PySem.Str} {tT tP : Tok} {R : List (Addr × Obj)} {m : Str → Option Value}
    (F : Fr g L s.heap (fun y => if y = Str.ofString "plain" then some (.str P tP) else if y = Str.ofString "text" then some (.str T tT) else m y))
    (X : (Mine.hd.heap_39 w.params).In g) (T' : Top p0 loose mean mg mb g) (B : Below callerA g [] g)
    (N : News g L s.heap R) (hT : T.length ≤ 2300000) (hx : ∀ c ∈ T.cps.toList, okC c = true) (hc : costL T.cps.toList ≤ 2300000) (hPl : P.cps.toList = readL T.cps.toList)
    (h : ∀ h' tk', Fr g L h' (fun y => if y = Str.ofString "plain" then some (.str P tP) else if y = Str.ofString "text" then some (.str T tT) else m y) → News g L h' R → Q .next { s with heap := h', toks := tk' }) :
    wpAny (model PySem.Challenge.rw_ah6020_01.row.prog w) (callerA.deeper (envOf lawRec.name lawRec.scope L fa cd)) (exec (nth lawRec.body 7) (envOf lawRec.name lawRec.scope L fa cd)) Q (fun _ _ => False) s := by
  have hP : P.length ≤ 2300000 := Nat.le_trans (read_len hPl) hT
  simp only [lawRec, recOf, nth, List.getD_cons_succ, List.getD_cons_zero]
  revert X
  k_fill
  w_top off
  k_with_none
  intro X
  try k_fold
  k_with_none
  k_steps
  all_goals first
    | exact (eq_no (l := readL T.cps.toList) (by assumption) (by assumption) (by assumption)).elim
    | exact (eq_no (l := marksL T.cps.toList) (by assumption) (by assumption) (by assumption)).elim
    | exact (eq_no_f marksL (by assumption) hPl (by assumption) (by assumption)).elim
    | exact (eq_no_f pctL (by assumption) hPl (by assumption) (by assumption)).elim
    | (rename News g L _ _ => N9
       rename Fr g L _ _ => F9
       exact h _ _ F9 (fun q hq => N9 q (by first | exact hq | (simp only [List.mem_cons]; simp only [hq, or_true]))))
theorem seg8 {T P : PySem.Str} {tT tP : Tok} {R : List (Addr × Obj)} {m : Str → Option Value}
    (F : Fr g L s.heap (fun y => if y = Str.ofString "plain" then some (.str P tP) else if y = Str.ofString "text" then some (.str T tT) else m y))
    (X : (Mine.hd.heap_39 w.params).In g) (T' : Top p0 loose mean mg mb g) (B : Below callerA g [] g)
    (N : News g L s.heap R) (hT : T.length ≤ 2300000) (hx : ∀ c ∈ T.cps.toList, okC c = true) (hc : costL T.cps.toList ≤ 2300000) (hPl : P.cps.toList = readL T.cps.toList)
    (h : ∀ h' tk', Fr g L h' (fun y => if y = Str.ofString "plain" then some (.str P tP) else if y = Str.ofString "text" then some (.str T tT) else m y) → News g L h' R → Q .next { s with heap := h', toks := tk' }) :
    wpAny (model PySem.Challenge.rw_ah6020_01.row.prog w) (callerA.deeper (envOf lawRec.name lawRec.scope L fa cd)) (exec (nth lawRec.body 8) (envOf lawRec.name lawRec.scope L fa cd)) Q (fun _ _ => False) s := by
  have hP : P.length ≤ 2300000 := Nat.le_trans (read_len hPl) hT
  simp only [lawRec, recOf, nth, List.getD_cons_succ, List.getD_cons_zero]
  revert X
  k_fill
  w_top off
  k_with_none
  intro X
  try k_fold
  k_with_none
  k_steps
  all_goals first
    | exact (eq_no (l := readL T.cps.toList) (by assumption) (by assumption) (by assumption)).elim
    | exact (eq_no (l := marksL T.cps.toList) (by assumption) (by assumption) (by assumption)).elim
    | exact (eq_no_f marksL (by assumption) hPl (by assumption) (by assumption)).elim
    | exact (eq_no_f pctL (by assumption) hPl (by assumption) (by assumption)).elim
    | (rename News g L _ _ => N9
       rename Fr g L _ _ => F9
       exact h _ _ F9 (fun q hq => N9 q (by first | exact hq | (simp only [List.mem_cons]; simp only [hq, or_true]))))
theorem seg9 {T P : PySem.Str} {tT tP : Tok} {R : List (Addr × Obj)} {m : Str → Option Value}
    (F : Fr g L s.heap (fun y => if y = Str.ofString "plain" then some (.str P tP) else if y = Str.ofString "text" then some (.str T tT) else m y))
    (X : (Mine.hd.heap_39 w.params).In g) (T' : Top p0 loose mean mg mb g) (B : Below callerA g [] g)
    (N : News g L s.heap R) (hT : T.length ≤ 2300000) (hx : ∀ c ∈ T.cps.toList, okC c = true) (hc : costL T.cps.toList ≤ 2300000) (hPl : P.cps.toList = readL T.cps.toList)
    (h : ∀ h' tk', Fr g L h' (fun y => if y = Str.ofString "plain" then some (.str P tP) else if y = Str.ofString "text" then some (.str T tT) else m y) → News g L h' R → Q .next { s with heap := h', toks := tk' }) :
    wpAny (model PySem.Challenge.rw_ah6020_01.row.prog w) (callerA.deeper (envOf lawRec.name lawRec.scope L fa cd)) (exec (nth lawRec.body 9) (envOf lawRec.name lawRec.scope L fa cd)) Q (fun _ _ => False) s := by
  have hP : P.length ≤ 2300000 := Nat.le_trans (read_len hPl) hT
  simp only [lawRec, recOf, nth, List.getD_cons_succ, List.getD_cons_zero]
  revert X
  k_fill
  w_top off
  k_with_none
  intro X
  try k_fold
  k_with_none
  k_steps
  all_goals first
    | exact (eq_no (l := readL T.cps.toList) (by assumption) (by assumption) (by assumption)).elim
    | exact (eq_no (l := marksL T.cps.toList) (by assumption) (by assumption) (by assumption)).elim
    | exact (eq_no_f marksL (by assumption) hPl (by assumption) (by assumption)).elim
    | exact (eq_no_f pctL (by assumption) hPl (by assumption) (by assumption)).elim
    | (rename News g L _ _ => N9
       rename Fr g L _ _ => F9
       exact h _ _ F9 (fun q hq => N9 q (by first | exact hq | (simp only [List.mem_cons]; simp only [hq, or_true]))))
theorem seg10 {T P : PySem.Str} {tT tP : Tok} {R : List (Addr × Obj)} {m : Str → Option Value}
    (F : Fr g L s.heap (fun y => if y = Str.ofString "plain" then some (.str P tP) else if y = Str.ofString "text" then some (.str T tT) else m y))
    (X : (Mine.hd.heap_39 w.params).In g) (T' : Top p0 loose mean mg mb g) (B : Below callerA g [] g)
    (N : News g L s.heap R) (hT : T.length ≤ 2300000) (hx : ∀ c ∈ T.cps.toList, okC c = true) (hc : costL T.cps.toList ≤ 2300000) (hPl : P.cps.toList = readL T.cps.toList)
    (h : ∀ h' tk', Fr g L h' (fun y => if y = Str.ofString "plain" then some (.str P tP) else if y = Str.ofString "text" then some (.str T tT) else m y) → News g L h' R → Q .next { s with heap := h', toks := tk' }) :
    wpAny (model PySem.Challenge.rw_ah6020_01.row.prog w) (callerA.deeper (envOf lawRec.name lawRec.scope L fa cd)) (exec (nth lawRec.body 10) (envOf lawRec.name lawRec.scope L fa cd)) Q (fun _ _ => False) s := by
  have hP : P.length ≤ 2300000 := Nat.le_trans (read_len hPl) hT
  simp only [lawRec, recOf, nth, List.getD_cons_succ, List.getD_cons_zero]
  revert X
  k_fill
  w_top off
  k_with_none
  intro X
  try k_fold
  k_with_none
  k_steps
  all_goals first
    | exact (eq_no (l := readL T.cps.toList) (by assumption) (by assumption) (by assumption)).elim
    | exact (eq_no (l := marksL T.cps.toList) (by assumption) (by assumption) (by assumption)).elim
    | exact (eq_no_f marksL (by assumption) hPl (by assumption) (by assumption)).elim
    | exact (eq_no_f pctL (by assumption) hPl (by assumption) (by assumption)).elim
    | (rename News g L _ _ => N9
       rename Fr g L _ _ => F9
       exact h _ _ F9 (fun q hq => N9 q (by first | exact hq | (simp only [List.mem_cons]; simp only [hq, or_true]))))
end
end
-- part LawC
section
/-- the walk stops here -/
def Stop (p : Prop) : Prop := p
theorem Stop.out {p : Prop} (h : Stop p) : p := h
/-- a piece of the law's list -/
structure Pc where
  r : Addr
  x : PySem.Str
  t : Tok
  f : Bool
  c : Nat
abbrev Pc.obj (q : Pc) : Obj := W.listOf #[.str q.x q.t, .bool q.f] q.c
abbrev Pc.ent (q : Pc) : Addr × Obj := (q.r, q.obj)
abbrev refsOf (ps : List Pc) : List Value := ps.map fun q => .ref q.r
theorem refsOf_get {ps : List Pc} {i : Nat} {v : Value} (h : (refsOf ps)[i]? = some v) : ∃ q ∈ ps, v = .ref q.r := by
  rw [List.getElem?_map] at h
  obtain ⟨q, hq, rfl⟩ := Option.map_eq_some_iff.mp h
  exact ⟨q, List.mem_of_getElem? hq, rfl⟩
section
local macro_rules | `(tactic| k_all) => `(tactic| assumption)
variable {w : World} {g : Heap} {L fa : Addr} {cd : Value} {p0 : Program} {loose : List Str} {mean : ExcName → Option Value} {mg mb : Str → Option Value} {s : Shared} {Q : Flow → Shared → Prop}
abbrev tailT : PySem.Str := Str.ofString "&#38;#65;&amp;lt;"
theorem tail_ok {T : PySem.Str} (h : TextOk T 6) : (∀ c ∈ (T ++ tailT).cps.toList, okC c = true) ∧ costL (T ++ tailT).cps.toList ≤ 2300000 ∧ (T ++ tailT).length ≤ 2300000 := by
  have h1 : ∀ c ∈ tailT.cps.toList, okC c = true := by decide +kernel
  have h2 : costL tailT.cps.toList ≤ 100 := by decide +kernel
  have hc : costL (T ++ tailT).cps.toList ≤ 2300000 := by
    rw [cps_app, costL_append]
    have := h.cost
    omega
  refine ⟨fun c hc => ?_, hc, ?_⟩
  · rw [cps_app] at hc
    rcases List.mem_append.mp hc with hc | hc
    · exact h.ok c hc
    · exact h1 c hc
  · have := cost_len (T ++ tailT).cps.toList
    rw [← len_cps] at this
    omega
theorem segB2 {pl : Addr} {ps : List Pc} {c : Nat} {T : PySem.Str} {tT : Tok} {R : List (Addr × Obj)} {m : Str → Option Value}
    (F : Fr g L s.heap (fun y => if y = Str.ofString "text" then some (.str T tT) else if y = Str.ofString "pieces" then some (.ref pl) else m y))
    (X : (Mine.hd.heap_39 w.params).In g) (T' : Top p0 loose mean mg mb g) (B : Below callerA g [] g) (N : News g L s.heap R)
    (hpl : (pl, W.listOf (refsOf ps).toArray c) ∈ R) (hps : ∀ q ∈ ps, q.ent ∈ R) (h175 : (175, tabObj #[]) ∈ R) (hok : ∀ q ∈ ps, PieceOk q.x.cps.toList q.f) (hT : TextOk T 6)
    (h : ∀ m' h' tk', Fr g L h' m' → News g L h' [(175, tabObj #[])] → Q (.ret (.bool true)) { s with heap := h', toks := tk' }) :
    wpAny (model PySem.Challenge.rw_ah6020_01.row.prog w) (callerA.deeper (envOf lawRec.name lawRec.scope L fa cd)) (execs (lawRec.body.drop 5) (envOf lawRec.name lawRec.scope L fa cd)) Q (fun _ _ => False) s := by
  obtain ⟨hx, hc, hl⟩ : (∀ c ∈ (T ++ Str.ofString "&#38;#65;&amp;lt;").cps.toList, okC c = true) ∧ costL (T ++ Str.ofString "&#38;#65;&amp;lt;").cps.toList ≤ 2300000 ∧ (T ++ Str.ofString "&#38;#65;&amp;lt;").length ≤ 2300000 := tail_ok hT
  have hl3 : (T ++ Str.ofString "&#38;#65;&amp;lt;").length ≤ 3000000 := Nat.le_trans hl (by decide)
  have hTl : T.length ≤ 2300000 := by have := textOk_len hT; omega
  simp only [lawRec, recOf, List.drop_succ_cons, List.drop_zero]
  revert X
  k_fill
  w_top off
  k_with_none
  intro X
  try k_fold
  k_with_none
  k_with "exec If" =>
    first
    | ((with_reducible show wpAny _ _ (exec (Stmt.If _ _ _ (PySem.Pos.mk 374 _ _ _)) _) _ _ _); k_dflt (refine' seg7 (R := R) (T := T ++ Str.ofString "&#38;#65;&amp;lt;") ?a1 ?a2 ?a3 ?a4 ?a5 hl hx hc ?a7 ?_; (case a1 => assumption); (case a2 => assumption); (case a3 => assumption); (case a4 => assumption); (case a5 => assumption); (case a7 => assumption)); intro h' tk' F' N'; (try k_sweep))
    | ((with_reducible show wpAny _ _ (exec (Stmt.If _ _ _ (PySem.Pos.mk 376 _ _ _)) _) _ _ _); k_dflt (refine' seg8 (R := R) (T := T ++ Str.ofString "&#38;#65;&amp;lt;") ?a1 ?a2 ?a3 ?a4 ?a5 hl hx hc ?a7 ?_; (case a1 => assumption); (case a2 => assumption); (case a3 => assumption); (case a4 => assumption); (case a5 => assumption); (case a7 => assumption)); intro h' tk' F' N'; (try k_sweep))
    | ((with_reducible show wpAny _ _ (exec (Stmt.If _ _ _ (PySem.Pos.mk 378 _ _ _)) _) _ _ _); k_dflt (refine' seg9 (R := R) (T := T ++ Str.ofString "&#38;#65;&amp;lt;") ?a1 ?a2 ?a3 ?a4 ?a5 hl hx hc ?a7 ?_; (case a1 => assumption); (case a2 => assumption); (case a3 => assumption); (case a4 => assumption); (case a5 => assumption); (case a7 => assumption)); intro h' tk' F' N'; (try k_sweep))
    | ((with_reducible show wpAny _ _ (exec (Stmt.If _ _ _ (PySem.Pos.mk 380 _ _ _)) _) _ _ _); k_dflt (refine' seg10 (R := R) (T := T ++ Str.ofString "&#38;#65;&amp;lt;") ?a1 ?a2 ?a3 ?a4 ?a5 hl hx hc ?a7 ?_; (case a1 => assumption); (case a2 => assumption); (case a3 => assumption); (case a4 => assumption); (case a5 => assumption); (case a7 => assumption)); intro h' tk' F' N'; (try k_sweep))
  k_with "exec For Name Name cons nil" =>
    rename Fr _ _ _ _ => lF'
    with_unfolding_all refine' For_invVF lF' ?k1 ?k2 ?_
    (case k1 => exact rfl)
    (case k2 => exact rfl)
    k_whole
  k_with "pyIter ref" => refine Stop.out ?_
  k_steps
  unfold Stop
  rename Fr g L _ _ => F9
  rename News g L _ _ => N9
  obtain ⟨m0, F0⟩ : ∃ m0, Fr g L _ m0 := ⟨_, F9⟩
  refine iter_made (l := pl) (vs := refsOf ps) (c := c) (news := R) (m₀ := m0) (fun i m₁ news₁ => news₁ = R ∧ ∀ z, z ≠ Str.ofString "piece" → z ≠ Str.ofString "match" → z ≠ Str.ofString "found" → m₁ z = m0 z) rfl hpl F0 N9 ⟨rfl, fun _ _ _ _ => rfl⟩ ?turn ?done
  case turn =>
    rintro i v m₁ news₁ h1 tk1 own hv ⟨rfl, hm⟩ ho hn F1 N1
    obtain ⟨q, hq, rfl⟩ := refsOf_get hv
    refine turn3 F1 X T' B (R := own ++ news₁) (c := q.c) (x := q.x) (tx := q.t) (f := q.f) (fun z hz => ?_) (hok q hq) fun m2 h2 tk2 hm2 F2 N2 => ?_
    · rcases List.mem_cons.mp hz with rfl | hz
      · exact N1 _ (List.mem_append_right _ (hps q hq))
      · exact N1 z hz
    · exact TurnEnd.intro F2 (fun z hz => N2 z (.tail _ hz)) hn ⟨rfl, fun z a b c => (hm2 z a b c).trans (hm z a b c)⟩
  case done =>
    rintro m₁ news₁ h1 tk1 ⟨rfl, hm⟩ F1 N1
    dsimp only
    k_steps
    exact h _ _ _ F1 (fun q hq => by rw [List.mem_singleton.mp hq]; exact N1 _ h175)
end
end
-- part LawD
section
section
local macro_rules | `(tactic| k_all) => `(tactic| assumption)
variable {w : World} {g : Heap} {L fa : Addr} {cd : Value} {p0 : Program} {loose : List Str} {mean : ExcName → Option Value} {mg mb : Str → Option Value} {s : Shared} {Q : Flow → Shared → Prop}
abbrev map0 (pl bx sc : Addr) (u : Option Value) : Str → Option Value := fun y => if y = Str.ofString "turn" then u else List.lookup y [(Str.ofString "pieces", Value.ref pl), (Str.ofString "box", .ref bx), (Str.ofString "script", .ref sc)]
abbrev mapT (pl bx sc : Addr) (T : PySem.Str) (tT : Tok) (u : Option Value) : Str → Option Value := fun y => if y = Str.ofString "text" then some (.str T tT) else map0 pl bx sc u y
theorem textOk_up {T : PySem.Str} {n : Nat} (h : TextOk T n) (hn : n ≤ 6) : TextOk T 6 := ⟨h.ok, Nat.le_trans h.cost (Nat.mul_le_mul_right _ hn)⟩
theorem segB1 {bx pl sc : Addr} {p b : Int} {t1 t2 : Tok} {nb c : Nat} {ps : List Pc} {u : Option Value} {R : List (Addr × Obj)} {vs : List Value} {ns : List Int}
    (F : Fr g L s.heap (map0 pl bx sc u))
    (X : (Mine.hd.heap_39 w.params).In g) (T' : Top p0 loose mean mg mb g) (B : Below callerA g [] g) (N : News g L s.heap ((bx, boxO sc p b t1 t2 nb) :: R)) (hRb : ∀ q ∈ R, q.1 ≠ bx)
    (hpl : (pl, W.listOf (refsOf ps).toArray c) ∈ R) (hps : ∀ q ∈ ps, q.ent ∈ R) (h175 : (175, tabObj #[]) ∈ R) (hok : ∀ q ∈ ps, PieceOk q.x.cps.toList q.f) (h6 : ps.length ≤ 6)
    (hg : g.IsList sc vs.toArray) (hi : IntsAre vs ns) (hlen : ns.length < 2 ^ 62) (hp0 : 0 ≤ p) (hb0 : 0 ≤ b) (hb1 : b < 2147483647)
    (h : ∀ m' h' tk', Fr g L h' m' → News g L h' [(175, tabObj #[])] → Q (.ret (.bool true)) { s with heap := h', toks := tk' }) :
    wpAny (model PySem.Challenge.rw_ah6020_01.row.prog w) (callerA.deeper (envOf lawRec.name lawRec.scope L fa cd)) (execs (lawRec.body.drop 3) (envOf lawRec.name lawRec.scope L fa cd)) Q (fun _ _ => False) s := by
  simp only [lawRec, recOf, List.drop_succ_cons, List.drop_zero]
  revert X
  k_fill
  w_top off
  k_with_none
  intro X
  try k_fold
  k_with_none
  k_with "exec For Name Name cons nil" =>
    rename Fr _ _ _ _ => lF'
    with_unfolding_all refine' For_invVF lF' ?k1 ?k2 ?_
    (case k1 => exact rfl)
    (case k2 => exact rfl)
    k_whole
  k_with "pyIter ref" => refine Stop.out ?_
  k_steps
  unfold Stop
  rename Fr g L _ _ => F9
  rename News g L _ _ => N9
  refine iter_made (l := pl) (vs := refsOf ps) (c := c) (news := (bx, boxO sc p b t1 t2 nb) :: R) (fun i m₁ news₁ => ∃ p b t1 t2 nb T tT, news₁ = (bx, boxO sc p b t1 t2 nb) :: R ∧ 0 ≤ p ∧ 0 ≤ b ∧ b < 2147483647 ∧ TextOk T i ∧ ∀ z, z ≠ Str.ofString "piece" → m₁ z = mapT pl bx sc T tT u z) rfl (.tail _ hpl) F9 N9
    ⟨_, _, _, _, _, _, _, rfl, hp0, hb0, hb1, textOk_start, fun _ _ => rfl⟩ ?turn ?done
  case turn =>
    rintro i v m₁ news₁ h1 tk1 own hv ⟨p, b, t1, t2, nb, T, tT, rfl, hp0, hb0, hb1, hT, hm⟩ ho hn F1 N1
    have hi6 : i < 6 := by
      have := (List.getElem?_eq_some_iff.mp hv).1
      rw [List.length_map] at this
      omega
    obtain ⟨q, hq, rfl⟩ := refsOf_get hv
    have F2 : Fr g L h1 (map2 q.r pl bx sc T tT u) := by
      have e : (fun y => if y = Str.ofString "piece" then some (Value.ref q.r) else m₁ y) = map2 q.r pl bx sc T tT u := by
        funext y
        by_cases h1 : y = Str.ofString "piece"
        · simp only [map2, if_pos h1]
        · simp only [map2, if_neg h1]
          exact hm y h1
      exact e ▸ F1
    have NN : News g L h1 ((bx, boxO sc p b t1 t2 nb) :: (q.r, W.listOf #[.str q.x q.t, .bool q.f] q.c) :: (own ++ R)) := by
      intro z hz
      rcases List.mem_cons.mp hz with rfl | hz
      · exact N1 _ (List.mem_append_right _ (.head _))
      · rcases List.mem_cons.mp hz with rfl | hz
        · exact N1 _ (List.mem_append_right _ (.tail _ (hps q hq)))
        · rcases List.mem_append.mp hz with hz | hz
          · exact N1 _ (List.mem_append_left _ hz)
          · exact N1 _ (List.mem_append_right _ (.tail _ hz))
    refine turn2 F2 X T' B NN ?_ ?_ hg hi hlen hp0 hb0 hb1 hT hi6 (hok q hq) fun T2 tT2 p' b' t1' t2' nb' h2 tk2 hT2 a1 a2 a3 F3 N3 => ?_
    · exact hRb _ (hps q hq)
    · intro z hz
      rcases List.mem_append.mp hz with hz | hz
      · rcases ho z hz with e | e
        · rw [e]; exact (hn _ (.head _)).symm
        · rw [e]; exact hRb _ hpl
      · exact hRb z hz
    · refine TurnEnd.intro F3 (fun z hz => ?_) (fun z hz => ?_) ⟨p', b', t1', t2', nb', T2, tT2, rfl, a1, a2, a3, hT2, fun z hz => by simp only [map2, mapT, map0, if_neg hz]⟩
      · rcases List.mem_append.mp hz with hz | hz
        · exact N3 _ (.tail _ (.tail _ (List.mem_append_left _ hz)))
        · rcases List.mem_cons.mp hz with rfl | hz
          · exact N3 _ (.head _)
          · exact N3 _ (.tail _ (.tail _ (List.mem_append_right _ hz)))
      · rcases List.mem_cons.mp hz with rfl | hz
        · exact hn (bx, boxO sc p b t1 t2 nb) (.head _)
        · exact hn _ (.tail _ hz)
  case done =>
    rintro m₁ news₁ h1 tk1 ⟨p, b, t1, t2, nb, T, tT, rfl, hp0, hb0, hb1, hT, hm⟩ F1 N1
    have F2 : Fr g L h1 (fun y => if y = Str.ofString "text" then some (.str T tT) else if y = Str.ofString "pieces" then some (.ref pl) else m₁ y) := by
      have e : m₁ = fun y => if y = Str.ofString "text" then some (.str T tT) else if y = Str.ofString "pieces" then some (.ref pl) else m₁ y := by
        funext y
        by_cases h1 : y = Str.ofString "text"
        · subst h1
          rw [if_pos rfl, hm _ (by decide)]
          simp only [mapT, if_true]
        · rw [if_neg h1]
          by_cases h2 : y = Str.ofString "pieces"
          · subst h2
            rw [if_pos rfl, hm _ (by decide)]
            rfl
          · rw [if_neg h2]
      exact e ▸ F1
    rw [List.length_map] at hT
    exact segB2 F2 X T' B N1 (.tail _ hpl) (fun q hq => .tail _ (hps q hq)) (.tail _ h175) hok (textOk_up hT h6) h
end
end
-- part LawE
section
theorem allNe_mem {r : Addr} {l : List (Addr × Obj)} (h : AllNe r l) : ∀ q ∈ l, q.1 ≠ r := by
  induction l with
  | nil => intro q hq; cases hq
  | cons p l ih =>
    intro q hq
    rcases List.mem_cons.mp hq with rfl | hq
    · exact h.1
    · exact ih h.2 q hq
theorem refsOf_push (ps : List Pc) (q : Pc) : (refsOf ps).toArray.push (.ref q.r) = (refsOf (ps ++ [q])).toArray := by
  rw [List.push_toArray]
  unfold refsOf
  rw [List.map_append]
  rfl
section
local macro_rules | `(tactic| k_all) => `(tactic| assumption)
variable {w : World} {g : Heap} {L fa : Addr} {cd : Value} {p0 : Program} {loose : List Str} {mean : ExcName → Option Value} {mg mb : Str → Option Value} {s : Shared} {Q : Flow → Shared → Prop}
theorem loop1 {bx pl sc r : Addr} {p b : Int} {t1 t2 t0 u0 v0 : Tok} {nb c n : Nat} {ps0 : List Pc} {vs : List Value} {ns : List Int} {Qf : Flow → Shared → Prop}
    (F : Fr g L s.heap (fun y => List.lookup y [(Str.ofString "pieces", Value.ref pl), (Str.ofString "box", .ref bx), (Str.ofString "script", .ref sc)]))
    (X : (Mine.hd.heap_39 w.params).In g) (T' : Top p0 loose mean mg mb g) (B : Below callerA g [] g)
    (N : News g L s.heap ((bx, boxO sc p b t1 t2 nb) :: (pl, W.listOf (refsOf ps0).toArray c) :: (175, tabObj #[]) :: ps0.map Pc.ent))
    (hpb : @Ne Nat pl bx) (h7b : @Ne Nat 175 bx) (h7p : @Ne Nat 175 pl) (hne : ∀ q ∈ ps0, @Ne Nat q.r bx ∧ @Ne Nat q.r pl)
    (hr : IsRange s.heap r 0 n 1 t0 u0 v0) (hn4 : n ≤ 4) (hsmall : Builtin.Range.small 0 n 1 = true) (hsz : Builtin.Range.rangeSize 0 n 1 = (n : Int)) (h2 : ps0.length = 2) (hok : ∀ q ∈ ps0, PieceOk q.x.cps.toList q.f)
    (hg : g.IsList sc vs.toArray) (hi : IntsAre vs ns) (hlen : ns.length < 2 ^ 62) (hbig : ∀ n ∈ ns, BigOk (n.natAbs : Int)) (hp0 : 0 ≤ p) (hb0 : 0 ≤ b) (hb1 : b < 2147483647)
    (h : ∀ m' h' tk', Fr g L h' m' → News g L h' [(175, tabObj #[])] → Q (.ret (.bool true)) { s with heap := h', toks := tk' })
    (hQ : ∀ s', wpAny (model PySem.Challenge.rw_ah6020_01.row.prog w) (callerA.deeper (envOf lawRec.name lawRec.scope L fa cd)) (execs (lawRec.body.drop 3) (envOf lawRec.name lawRec.scope L fa cd)) Q (fun _ _ => False) s' → Qf .next s') :
    wpAny (model PySem.Challenge.rw_ah6020_01.row.prog w) (callerA.deeper (envOf lawRec.name lawRec.scope L fa cd)) (pyIter (.ref r))
      (fun it s₂ => LoopAtV PySem.Challenge.rw_ah6020_01.row.prog w (callerA.deeper (envOf lawRec.name lawRec.scope L fa cd)) g (envOf lawRec.name lawRec.scope L fa cd) (Str.ofString "turn") (forBody (nth lawRec.body 2)) Qf (fun _ _ => False) it s₂) (fun _ _ => False) s := by
  refine iter_rangeJ (n := n) (m₀ := fun y => List.lookup y [(Str.ofString "pieces", Value.ref pl), (Str.ofString "box", .ref bx), (Str.ofString "script", .ref sc)]) (news := (bx, boxO sc p b t1 t2 nb) :: (pl, W.listOf (refsOf ps0).toArray c) :: (175, tabObj #[]) :: ps0.map Pc.ent)
    (fun i m₁ news₁ => ∃ p b t1 t2 nb c ps, news₁ = (bx, boxO sc p b t1 t2 nb) :: (pl, W.listOf (refsOf ps).toArray c) :: (175, tabObj #[]) :: ps.map Pc.ent ∧ 0 ≤ p ∧ 0 ≤ b ∧ b < 2147483647 ∧ ps.length = i + 2 ∧ (∀ q ∈ ps, PieceOk q.x.cps.toList q.f) ∧ (∀ q ∈ ps, @Ne Nat q.r bx ∧ @Ne Nat q.r pl) ∧
      ∀ z, z ≠ Str.ofString "turn" → m₁ z = List.lookup z [(Str.ofString "pieces", Value.ref pl), (Str.ofString "box", .ref bx), (Str.ofString "script", .ref sc)])
    rfl hr hsmall hsz F N ⟨p, b, t1, t2, nb, c, ps0, rfl, hp0, hb0, hb1, h2, hok, hne, fun _ _ => rfl⟩ ?turn ?done
  case turn =>
    rintro i v m₁ news₁ h1 tk1 own hin ⟨p, b, t1, t2, nb, c, ps, rfl, hp0, hb0, hb1, hps, hok, hne, hm⟩ ho ⟨oI, hI⟩ hn F1 N1
    have F2 : Fr g L h1 (fun y => List.lookup y [(Str.ofString "turn", v), (Str.ofString "pieces", .ref pl), (Str.ofString "box", .ref bx), (Str.ofString "script", .ref sc)]) := by
      have e : (fun y => if y = Str.ofString "turn" then some v else m₁ y) = fun y => List.lookup y [(Str.ofString "turn", v), (Str.ofString "pieces", .ref pl), (Str.ofString "box", .ref bx), (Str.ofString "script", .ref sc)] := by
        funext y
        rw [← lookup_if]
        by_cases h1 : y = Str.ofString "turn"
        · rw [if_pos h1, if_pos h1]
        · rw [if_neg h1, if_neg h1]; exact hm y h1
      exact e ▸ F1
    have NN : News g L h1 ((bx, boxO sc p b t1 t2 nb) :: (pl, W.listOf (refsOf ps).toArray c) :: ((175, tabObj #[]) :: (ps.map Pc.ent ++ own))) := by
      intro z hz
      rcases List.mem_cons.mp hz with rfl | hz
      · exact N1 _ (List.mem_append_right _ (.head _))
      · rcases List.mem_cons.mp hz with rfl | hz
        · exact N1 _ (List.mem_append_right _ (.tail _ (.head _)))
        · rcases List.mem_cons.mp hz with rfl | hz
          · exact N1 _ (List.mem_append_right _ (.tail _ (.tail _ (.head _))))
          · rcases List.mem_append.mp hz with hz | hz
            · exact N1 _ (List.mem_append_right _ (.tail _ (.tail _ (.tail _ hz))))
            · exact N1 _ (List.mem_append_left _ hz)
    have ib : s.heap.objs.size ≠ bx := (hn (bx, boxO sc p b t1 t2 nb) (.head _)).symm
    have ip : s.heap.objs.size ≠ pl := (hn (pl, W.listOf (refsOf ps).toArray c) (.tail _ (.head _))).symm
    refine turn1 F2 X T' B NN hpb ?_ ?_ hg hi hlen hbig hp0 hb0 hb1 ?_ fun r x t f c1 p' b' t1' t2' nb' c' h2 tk2 hP a1 a2 a3 n1 n2 n3 F3 N3 => ?_
    · intro z hz
      rcases List.mem_cons.mp hz with rfl | hz
      · exact h7b
      · rcases List.mem_append.mp hz with hz | hz
        · obtain ⟨q, hq, rfl⟩ := List.mem_map.mp hz
          exact (hne q hq).1
        · rw [ho z hz]; exact ib
    · intro z hz
      rcases List.mem_cons.mp hz with rfl | hz
      · exact h7p
      · rcases List.mem_append.mp hz with hz | hz
        · obtain ⟨q, hq, rfl⟩ := List.mem_map.mp hz
          exact (hne q hq).2
        · rw [ho z hz]; exact ip
    · rw [List.size_toArray, List.length_map]; omega
    · have n4 := allNe_mem n3
      have nI : s.heap.objs.size ≠ r := n4 (s.heap.objs.size, oI) (.tail _ (List.mem_append_right _ hI))
      refine TurnEnd.intro F3 (news₂ := (bx, boxO sc p' b' t1' t2' nb') :: (pl, W.listOf (refsOf (ps ++ [(⟨r, x, t, f, c1⟩ : Pc)])).toArray c') :: (175, tabObj #[]) :: (ps ++ [(⟨r, x, t, f, c1⟩ : Pc)]).map Pc.ent) (fun z hz => ?_) (fun z hz => ?_)
        ⟨p', b', t1', t2', nb', c', ps ++ [⟨r, x, t, f, c1⟩], rfl, a1, a2, a3, by rw [List.length_append, hps]; rfl, fun q hq => ?_, fun q hq => ?_, fun z hz => ?_⟩
      · rcases List.mem_append.mp hz with hz | hz
        · exact N3 _ (.tail _ (.tail _ (.tail _ (.tail _ (List.mem_append_right _ hz)))))
        · rcases List.mem_cons.mp hz with rfl | hz
          · exact N3 _ (.tail _ (.head _))
          · rcases List.mem_cons.mp hz with rfl | hz
            · have := N3 _ (.tail _ (.tail _ (.head _)))
              rw [refsOf_push ps ⟨r, x, t, f, c1⟩] at this
              exact this
            · rcases List.mem_cons.mp hz with rfl | hz
              · exact N3 _ (.tail _ (.tail _ (.tail _ (.head _))))
              · rw [List.map_append] at hz
                rcases List.mem_append.mp hz with hz | hz
                · exact N3 _ (.tail _ (.tail _ (.tail _ (.tail _ (List.mem_append_left _ hz)))))
                · rw [List.mem_singleton.mp hz]; exact N3 _ (.head _)
      · rcases List.mem_cons.mp hz with rfl | hz
        · exact ib.symm
        · rcases List.mem_cons.mp hz with rfl | hz
          · exact ip.symm
          · rcases List.mem_cons.mp hz with rfl | hz
            · exact hn (175, tabObj #[]) (.tail _ (.tail _ (.head _)))
            · rw [List.map_append] at hz
              rcases List.mem_append.mp hz with hz | hz
              · exact hn _ (.tail _ (.tail _ (.tail _ hz)))
              · rw [List.mem_singleton.mp hz]; exact nI.symm
      · rcases List.mem_append.mp hq with hq | hq
        · exact hok q hq
        · rw [List.mem_singleton.mp hq]; exact hP
      · rcases List.mem_append.mp hq with hq | hq
        · exact hne q hq
        · rw [List.mem_singleton.mp hq]; exact ⟨n1.symm, n2.symm⟩
      · show List.lookup z ((Str.ofString "turn", v) :: [(Str.ofString "pieces", Value.ref pl), (Str.ofString "box", .ref bx), (Str.ofString "script", .ref sc)]) = _
        rw [← lookup_if (l := [(Str.ofString "pieces", Value.ref pl), (Str.ofString "box", .ref bx), (Str.ofString "script", .ref sc)]), if_neg hz]
  case done =>
    rintro m₁ news₁ h1 tk1 ⟨p, b, t1, t2, nb, c, ps, rfl, hp0, hb0, hb1, hps, hok, hne, hm⟩ F1 N1
    refine hQ _ ?_
    have F2 : Fr g L h1 (map0 pl bx sc (m₁ (Str.ofString "turn"))) := by
      have e : m₁ = map0 pl bx sc (m₁ (Str.ofString "turn")) := by
        funext y
        by_cases h1 : y = Str.ofString "turn"
        · subst h1; simp only [map0, if_true]
        · simp only [map0, if_neg h1]; exact hm y h1
      exact e ▸ F1
    refine segB1 (s := { s with heap := h1, toks := tk1 }) F2 X T' B N1 ?_ (.head _) (fun q hq => .tail _ (.tail _ (List.mem_map_of_mem hq))) (.tail _ (.head _)) hok (by omega) hg hi hlen hp0 hb0 hb1 h
    intro z hz
    rcases List.mem_cons.mp hz with rfl | hz
    · exact hpb
    · rcases List.mem_cons.mp hz with rfl | hz
      · exact h7b
      · obtain ⟨q, hq, rfl⟩ := List.mem_map.mp hz
        exact (hne q hq).1
end
end
-- part LawF
section
section
variable {w : World} {g : Heap} {L fa : Addr} {cd : Value} {p0 : Program} {loose : List Str} {mean : ExcName → Option Value} {mg mb : Str → Option Value} {s : Shared} {Q : Flow → Shared → Prop}
theorem loop1w {bx pl sc r r1 r2 : Addr} {p b : Int} {t1 t2 t0 u0 v0 ta tb : Tok} {nb c ca cb n : Nat} {xa xb : PySem.Str} {fa' fb' : Bool} {vs : List Value} {ns : List Int} {Qf : Flow → Shared → Prop}
    (F : Fr g L s.heap (fun y => List.lookup y [(Str.ofString "pieces", Value.ref pl), (Str.ofString "box", .ref bx), (Str.ofString "script", .ref sc)]))
    (X : (Mine.hd.heap_39 w.params).In g) (T' : Top p0 loose mean mg mb g) (B : Below callerA g [] g)
    (N : News g L s.heap [(pl, W.listOf #[.ref r1, .ref r2] c), (r2, W.listOf #[.str xb tb, .bool fb'] cb), (r1, W.listOf #[.str xa ta, .bool fa'] ca), (bx, boxO sc p b t1 t2 nb), (175, tabObj #[])])
    (hr : IsRange s.heap r 0 n 1 t0 u0 v0) (hn4 : n ≤ 4) (hsmall : Builtin.Range.small 0 n 1 = true) (hsz : Builtin.Range.rangeSize 0 n 1 = (n : Int))
    (hpa : PieceOk xa.cps.toList fa') (hpb : PieceOk xb.cps.toList fb') (hl : @LT.lt Nat _ r2 pl ∧ @LT.lt Nat _ r1 pl ∧ @LT.lt Nat _ bx pl ∧ @LT.lt Nat _ 175 pl) (h7b : @LT.lt Nat _ 175 bx) (hne : @Ne Nat bx r1 ∧ @Ne Nat bx r2)
    (hg : g.IsList sc vs.toArray) (hi : IntsAre vs ns) (hlen : ns.length < 2 ^ 62) (hbig : ∀ n ∈ ns, BigOk (n.natAbs : Int)) (hp0 : 0 ≤ p) (hb0 : 0 ≤ b) (hb1 : b < 2147483647)
    (h : ∀ m' h' tk', Fr g L h' m' → News g L h' [(175, tabObj #[])] → Q (.ret (.bool true)) { s with heap := h', toks := tk' })
    (hQ : ∀ s', wpAny (model PySem.Challenge.rw_ah6020_01.row.prog w) (callerA.deeper (envOf lawRec.name lawRec.scope L fa cd)) (execs (lawRec.body.drop 3) (envOf lawRec.name lawRec.scope L fa cd)) Q (fun _ _ => False) s' → Qf .next s') :
    wpAny (model PySem.Challenge.rw_ah6020_01.row.prog w) (callerA.deeper (envOf lawRec.name lawRec.scope L fa cd)) (pyIter (.ref r))
      (fun it s₂ => LoopAtV PySem.Challenge.rw_ah6020_01.row.prog w (callerA.deeper (envOf lawRec.name lawRec.scope L fa cd)) g (envOf lawRec.name lawRec.scope L fa cd) (Str.ofString "turn") (forBody (nth lawRec.body 2)) Qf (fun _ _ => False) it s₂) (fun _ _ => False) s := by
  refine loop1 (t1 := t1) (t2 := t2) (nb := nb) (c := c) (ps0 := [⟨r1, xa, ta, fa', ca⟩, ⟨r2, xb, tb, fb', cb⟩]) F X T' B (fun z hz => N z ?_) (Nat.ne_of_gt hl.2.2.1) (Nat.ne_of_lt h7b) (Nat.ne_of_lt hl.2.2.2) ?_ hr hn4 hsmall hsz rfl ?_ hg hi hlen hbig hp0 hb0 hb1 h hQ
  · simp only [List.map_cons, List.map_nil, List.mem_cons, List.not_mem_nil, or_false] at hz ⊢
    rcases hz with h | h | h | h | h
    · exact .inr (.inr (.inr (.inl h)))
    · exact .inl h
    · exact .inr (.inr (.inr (.inr h)))
    · exact .inr (.inr (.inl h))
    · exact .inr (.inl h)
  · intro q hq
    simp only [List.mem_cons, List.not_mem_nil, or_false] at hq
    rcases hq with rfl | rfl
    · exact ⟨hne.1.symm, Nat.ne_of_lt hl.2.1⟩
    · exact ⟨hne.2.symm, Nat.ne_of_lt hl.1⟩
  · intro q hq
    simp only [List.mem_cons, List.not_mem_nil, or_false] at hq
    rcases hq with rfl | rfl
    · exact hpa
    · exact hpb
theorem law_main {sc : Addr} {vs : List Value} {ns : List Int}
    (F : Fr g L s.heap (fun y => List.lookup y [(Str.ofString "script", Value.ref sc)]))
    (X : (Mine.hd.heap_39 w.params).In g) (T' : Top p0 loose mean mg mb g) (B : Below callerA g [] g)
    (N : News g L s.heap [(175, tabObj #[])]) (hg : g.IsList sc vs.toArray) (hi : IntsAre vs ns) (hlen : ns.length < 2 ^ 62) (hbig : ∀ n ∈ ns, BigOk (n.natAbs : Int))
    (h : ∀ m' h' tk', Fr g L h' m' → News g L h' [(175, tabObj #[])] → Q (.ret (.bool true)) { s with heap := h', toks := tk' }) :
    wpAny (model PySem.Challenge.rw_ah6020_01.row.prog w) (callerA.deeper (envOf lawRec.name lawRec.scope L fa cd)) (execs lawRec.body (envOf lawRec.name lawRec.scope L fa cd)) Q (fun _ _ => False) s := by
  simp only [lawRec, recOf]
  revert X
  k_fill
  w_top off
  k_with_none
  intro X
  (try k_lift B)
  try k_fold
  k_with_none
  k_with "exec For Name Call cons nil" =>
    rename Fr _ _ _ _ => lF'
    with_unfolding_all refine' For_invVF lF' ?k1 ?k2 ?_
    (case k1 => exact rfl)
    (case k2 => exact rfl)
    k_whole
  k_with "pyIter ref" => refine Stop.out ?_
  k_steps
  all_goals (
    unfold Stop
    rename Fr g L _ _ => F9
    rename News g L _ _ => N9
    rename IsRange _ _ _ _ _ _ _ _ => R9
    simp only [lookup_if] at F9)
  all_goals first
    | exact loop1w (n := 0) F9 X T' B N9 R9 (by decide) (by decide) (by decide) (by assumption) (by assumption) (by assumption) (by assumption) (by omega) hg hi hlen hbig (by assumption) (by assumption) (by assumption) h (fun _ x => x)
    | exact loop1w (n := 1) F9 X T' B N9 R9 (by decide) (by decide) (by decide) (by assumption) (by assumption) (by assumption) (by assumption) (by omega) hg hi hlen hbig (by assumption) (by assumption) (by assumption) h (fun _ x => x)
    | exact loop1w (n := 2) F9 X T' B N9 R9 (by decide) (by decide) (by decide) (by assumption) (by assumption) (by assumption) (by assumption) (by omega) hg hi hlen hbig (by assumption) (by assumption) (by assumption) h (fun _ x => x)
    | exact loop1w (n := 3) F9 X T' B N9 R9 (by decide) (by decide) (by decide) (by assumption) (by assumption) (by assumption) (by assumption) (by omega) hg hi hlen hbig (by assumption) (by assumption) (by assumption) h (fun _ x => x)
    | exact loop1w (n := 4) F9 X T' B N9 R9 (by decide) (by decide) (by decide) (by assumption) (by assumption) (by assumption) (by assumption) (by omega) hg hi hlen hbig (by assumption) (by assumption) (by assumption) h (fun _ x => x)
end
end
-- part Final
section
theorem by_len {ns : List Int} (h : ¬ ((63 : Nat) : Int) < (ns.length : Int)) : ns.length < 2 ^ 62 := by omega
theorem law_fin : PySem.Challenge.rw_ah6020_01.Holds := Mine.hd (by
  k_go0
  all_goals (try k_fold)
  k_with_none
  have hcap := by_len (by assumption)
  have hbig9 := bigOk_of (by assumption)
  refine wpAny_mono (law_main (by assumption) (by assumption) (by assumption) (by assumption) (by assumption) lifted (by assumption) hcap hbig9 ?_) (fun _ _ x => x) (fun _ _ x => x.elim)
  intro m' h' tk' F' N'
  k_steps)
end
end Mine
theorem PySem.Challenge.cw_ah6020_01_holds : PySem.Challenge.rw_ah6020_01.Holds :=
  Mine.law_fin
