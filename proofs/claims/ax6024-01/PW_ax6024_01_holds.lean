import PyProof.Rows.All
import PyProof.ListMulRoad
import PyProof.ListMulAny
import PyProof.WalksMore
import PyProof.WalkInts
import PyProof.Rows.MinMaxN
import Wide.All
import OpenK.AllK
import Wide.FinOn
import PySem.Challenge.RW_ax6024_01
-- ax6024-01, the law of check_bitdepth_rescale: the law is walked in segments; each stands in a section of its own
section
-- part Head1
open PySem PySem.W PyProof.Rows
set_option Elab.async false
set_option maxRecDepth 100000
set_option maxHeartbeats 8000000
namespace Mine
open_top hd for PySem.Challenge.rw_ax6024_01
end Mine

end
section
-- part X1
open PySem PySem.W PyProof.Rows PySem.Spec PySem.Calls
set_option Elab.async false
namespace Mine
set_option maxRecDepth 100000

/-- a frame's own dict behind hidden made objects -/
theorem frame_there {h₀ h : Heap} {L : Addr} {m : Str → Option Value} {news : List (Addr × Obj)} (F : Fr h₀ L h m) (N : News h₀ L h news) :
    ∃ oL es ep, (hideAll h (news.map (·.1))).get? L = some oL ∧ oL.data = .dict es ep ∧ ∀ (sl : Array (Option Value)) (h' : Heap), h'.get? L = some { oL with slots := sl } → Heap.Ns h' L m := by
  obtain ⟨oL, es, ep, hL, hd, hk, hf⟩ := F.ns
  refine ⟨oL, es, ep, hideAll_get _ hL fun q => ?_, hd, fun sl h' e => ⟨_, es, ep, e, hd, hk, hf⟩⟩
  obtain ⟨p, hp, e⟩ := List.mem_map.mp q
  exact (N p hp).2.1 e

/-- a def with a try, called out of any frame (with cells too) right above the base -/
theorem enterX {prog : Program} {w : World} {A₀ A : Around} {s : Shared} {base h₀ : Heap} {L : Addr} {m : Str → Option Value} {env : Env} {news : List (Addr × Obj)} {K : Frag} {p : Program} {loose : List Str} {mean : ExcName → Option Value} {mg mb : Str → Option Value}
    {R : Result → Shared → Prop} {name qual : Str} {params : Arguments} {body : List Stmt} {scope : Scope} {dV kV doc pm cdv ct oc : Value} {an od : Option Addr} {osl : Array (Option Value)} {f : Addr} {args : Args} {binds : List (Str × Value)}
    (B : Below A₀ base [] h₀) (F : Fr h₀ L s.heap m) (X₀ : K.In h₀) (N : News h₀ L s.heap news) (T : Top p loose mean mg mb h₀) (hA : A.frames = some [env]) (hf : env.frame = some L) (hke : env.scope.kind = .function)
    (ho : K.lookup f = some ⟨oc, od, .func (fnOf name qual params body scope dV kV doc pm an cdv ct), osl⟩) (hcd : codeIn K cdv qual = true) (hroom : A.depth < recursionLimit)
    (hbind : BindsTo s (fnOf name qual params body scope dV kV doc pm an cdv ct) args binds) (hloc : ∀ y ∈ binds, scope.names.lookup y.1 = some .local)
    (h : ∀ g L' h₁, Fr h₀ L g m → Fr g L' h₁ (fun y => binds.reverse.lookup y) → News g L' h₁ news → Below A base [env] g → K.In g → Top p loose mean mg mb g → KtsDicts ([env].filterMap (·.frame)) g →
      wpAny (model prog w) (A.deeper (envOf qual scope L' f cdv)) (execs body (envOf qual scope L' f cdv))
        (fun fl s' => LeaveS0 ([env].filterMap (·.frame)) h₀ L m g R (match fl with | .ret v => v | _ => .none) s')
        (fun e s' => wpAny (model prog w) (A.deeper (envOf qual scope L' f cdv)) (leaving (envOf qual scope L' f cdv) e) (fun _ s'' => R (.error e) s'') (fun e' s'' => R (.error e') s'') s')
        { s with heap := h₁, toks := s.toks + binds.length })
    (hco : scope.isCoroutine = false) (hgen : scope.isGenerator = false) (hk : scope.kind = .function)
    (hcell : ∀ x ∈ scope.names, x.2 ≠ .cell) : codeAny (model prog w) A (.call (.ref f) args) R s := by
  have hfs : [env].filterMap (·.frame) = [L] := by simp [hf]
  obtain ⟨FG, BG, st, -⟩ := groundX (R := R) B F N hA hf hke
  obtain ⟨oL, es, ep, hLg, hLd, hns⟩ := frame_there F N
  have X := X₀.keeps F.keep
  refine codeAny_call_def (fd := fnOf name qual params body scope dV kV doc pm an cdv ct) (body := body) (binds := binds) hroom (X _ _ ho) rfl (T.nolimit.keeps F.keep) (codeRec_of X hcd) rfl hbind hcell hloc (fun h₁ hns₁ hk₁ => ?_) hco hgen hk
  refine wpAny_mono (h _ s.heap.objs.size h₁ FG ⟨hns₁, fun b o e => hk₁ b o (of_hideAll _ e), Nat.le_of_eq (hideAll_size _ _)⟩
    (fun q hq => ⟨hk₁ _ _ (N q hq).1, Nat.ne_of_lt (Heap.lt_size (N q hq).1), hideAll_none _ (List.mem_map_of_mem hq)⟩) BG (X₀.keeps st) (T.keeps st)
    (fun b hb => by rw [hfs] at hb; rw [List.mem_singleton.mp hb]; exact ⟨oL, es, ep, hLg, hLd⟩)) (fun fl s' hl => ?_) fun _ _ y => y
  rw [hfs] at hl
  obtain ⟨g', L', m', news', T', F', N', k⟩ := hl
  have hL0 : h₀.get? L = none := kts_self F
  obtain ⟨sl, hs⟩ := T'.frame L oL hLg (List.mem_singleton.mpr rfl)
  refine k ⟨hns sl _ (F'.keep _ _ hs), fun b o e => F'.keep b o (T'.other b o (st b o e) fun q => ?_), F.above⟩ fun q hq => ⟨(N' q hq).1, fun z => ?_, ?_⟩
  · rw [List.mem_singleton.mp q, hL0] at e; cases e
  · have y := (N' q hq).2.2; rw [z, hs] at y; cases y
  · cases z : h₀.get? q.1 with
    | none => rfl
    | some o =>
      obtain ⟨sl', hs'⟩ := T'.up (st _ _ z)
      have y := (N' q hq).2.2; rw [hs'] at y; cases y
end Mine

end
section
-- part A1
open PySem PySem.W PyProof.Rows
set_option Elab.async false
namespace Mine
/-- what the document's table lets -/
noncomputable def lets (d k : Int) : Bool :=
  decide (d = 1 ∨ d = 2 ∨ d = 4 ∨ d = 8 ∨ d = 16) && decide (k = 0 ∨ k = 2 ∨ k = 3 ∨ k = 4 ∨ k = 6) && !(decide (k = 3) && decide (d > 8)) && !(decide (d < 8) && !decide (k = 0 ∨ k = 3))
theorem lets_iff (d k : Int) : lets d k = true ↔ (d = 1 ∨ d = 2 ∨ d = 4 ∨ d = 8 ∨ d = 16) ∧ (k = 0 ∨ k = 2 ∨ k = 3 ∨ k = 4 ∨ k = 6) ∧ ¬ (k = 3 ∧ d > 8) ∧ ¬ (d < 8 ∧ ¬ (k = 0 ∨ k = 3)) := by
  simp only [lets, Bool.and_eq_true, Bool.not_eq_true', Bool.and_eq_false_iff, decide_eq_true_eq, decide_eq_false_iff_not, Bool.not_eq_false']
  omega
theorem any5 {d : Int} {b : Bool} (h : ([1, 2, 4, 8, 16].any fun x => x == d) = b) : b = decide (d = 1 ∨ d = 2 ∨ d = 4 ∨ d = 8 ∨ d = 16) := by
  rw [← h, Bool.eq_iff_iff, decide_eq_true_eq]; simp only [List.any_cons, List.any_nil, Bool.or_false, Bool.or_eq_true, beq_iff_eq]; omega
theorem any6 {k : Int} {b : Bool} (h : ([0, 2, 3, 4, 6].any fun x => x == k) = b) : b = decide (k = 0 ∨ k = 2 ∨ k = 3 ∨ k = 4 ∨ k = 6) := by
  rw [← h, Bool.eq_iff_iff, decide_eq_true_eq]; simp only [List.any_cons, List.any_nil, Bool.or_false, Bool.or_eq_true, beq_iff_eq]; omega
theorem any2 {k : Int} {b : Bool} (h : ([0, 3].any fun x => x == k) = b) : b = decide (k = 0 ∨ k = 3) := by
  rw [← h, Bool.eq_iff_iff, decide_eq_true_eq]; simp only [List.any_cons, List.any_nil, Bool.or_false, Bool.or_eq_true, beq_iff_eq]; omega
theorem odd3 {k : Int} (h : k = 0 ∨ k = 2 ∨ k = 3 ∨ k = 4 ∨ k = 6) (o : Builtin.bitAnd k 1 ≠ 0) : k = 3 := by
  rcases h with rfl | rfl | rfl | rfl | rfl <;> first | rfl | exact absurd (by decide) o
theorem even3 {k : Int} (o : Builtin.bitAnd k 1 = 0) : k ≠ 3 := by
  rintro rfl; revert o; decide
section
variable {d k : Int}
theorem lets_false (h : ¬ ((d = 1 ∨ d = 2 ∨ d = 4 ∨ d = 8 ∨ d = 16) ∧ (k = 0 ∨ k = 2 ∨ k = 3 ∨ k = 4 ∨ k = 6) ∧ ¬ (k = 3 ∧ d > 8) ∧ ¬ (d < 8 ∧ ¬ (k = 0 ∨ k = 3)))) : false = lets d k := by
  cases e : lets d k with
  | false => rfl
  | true => exact absurd ((lets_iff d k).mp e) h
theorem lets_true (h : (d = 1 ∨ d = 2 ∨ d = 4 ∨ d = 8 ∨ d = 16) ∧ (k = 0 ∨ k = 2 ∨ k = 3 ∨ k = 4 ∨ k = 6) ∧ ¬ (k = 3 ∧ d > 8) ∧ ¬ (d < 8 ∧ ¬ (k = 0 ∨ k = 3))) : true = lets d k := ((lets_iff d k).mpr h).symm
theorem way1 (a : ([1, 2, 4, 8, 16].any fun x => x == d) = false) : false = lets d k := by
  have a := any5 a; simp only [Bool.false_eq, decide_eq_false_iff_not] at a
  exact lets_false (by omega)
theorem way2 (a : ([0, 2, 3, 4, 6].any fun x => x == k) = false) : false = lets d k := by
  have a := any6 a; simp only [Bool.false_eq, decide_eq_false_iff_not] at a
  exact lets_false (by omega)
theorem way3 (a : ([0, 2, 3, 4, 6].any fun x => x == k) = true) (o : Builtin.bitAnd k 1 ≠ 0) (h : 8 < d) : false = lets d k := by
  have a := any6 a; simp only [Bool.true_eq, decide_eq_true_eq] at a
  have q := odd3 a o
  exact lets_false (by omega)
theorem way4 (a : ([1, 2, 4, 8, 16].any fun x => x == d) = true) (b : ([0, 2, 3, 4, 6].any fun x => x == k) = true) (h : d < 8) (c : ([0, 3].any fun x => x == k) = true) : true = lets d k := by
  have a := any5 a; have b := any6 b; have c := any2 c; simp only [Bool.true_eq, decide_eq_true_eq] at a b c
  exact lets_true (by omega)
theorem way5 (h : d < 8) (c : ([0, 3].any fun x => x == k) = false) : false = lets d k := by
  have c := any2 c; simp only [Bool.false_eq, decide_eq_false_iff_not] at c
  exact lets_false (by omega)
theorem way6 (a : ([1, 2, 4, 8, 16].any fun x => x == d) = true) (b : ([0, 2, 3, 4, 6].any fun x => x == k) = true) (h : ¬ d < 8) (q : ¬ 8 < d) : true = lets d k := by
  have a := any5 a; have b := any6 b; simp only [Bool.true_eq, decide_eq_true_eq] at a b
  exact lets_true (by omega)
theorem way7 (a : ([1, 2, 4, 8, 16].any fun x => x == d) = true) (b : ([0, 2, 3, 4, 6].any fun x => x == k) = true) (h : ¬ d < 8) (o : Builtin.bitAnd k 1 = 0) : true = lets d k := by
  have a := any5 a; have b := any6 b; simp only [Bool.true_eq, decide_eq_true_eq] at a b
  have q := even3 o
  exact lets_true (by omega)
end
end Mine

end
section
-- part L1
open PySem PySem.W PyProof.Rows
set_option Elab.async false
namespace Mine
local macro_rules | `(tactic| walk_at "call ref") => `(tactic| (k_here; (with_reducible show wpAny _ (Around.deeper callerA _) _ _ _ _); kts_any; k_dflt (refine wpAny_call ?_; refine' enterX ?k1 ?k2 ?k3 ?k4 ?k5 ?kA ?kf ?kk ?k6 ?k7 ?k8 ?k9 ?kB ?_ ?c2 ?c3 ?c4 ?c5; (case kA => exact rfl); (case kf => exact rfl); (case kk => exact rfl); (case k2 => k_asm); (case k1 => k_asm); (case k3 => k_asm); (case k4 => k_asm); (case k5 => k_asm); (case k6 => k_is); (case k7 => k_is); (case k8 => k_room); (case k9 => first | exact binds_K (by k_in) rfl (by k_is) rfl rfl rfl | exact BindsTo.of_eq rfl); (case kB => exact locs rfl); (case c2 => exact rfl); (case c3 => exact rfl); (case c4 => exact rfl); (case c5 => decide); k_whole; intro g' L' h' FG' F' N' B' X' T' D'; (try dsimp only); (try k_lift B'); (try k_fold))))
set_option maxRecDepth 100000 in
set_option maxHeartbeats 8000000 in
theorem letsC {w : World} {mean : ExcName → Option Value} {mg mb : Str → Option Value} {h₀ : Heap} {cn : Str} {ns : List (Str × NameKind)} {mm} {L a : Addr} {ccd : Value} {cl} {m : Str → Option Value} {news : List (Addr × Obj)} {s : Shared} {Q E : Value → Shared → Prop} {d k : Int} {t u : Tok}
   (K0 : Below callerA h₀ [] h₀) (KX : (hd.heap_39 w.params).In h₀) (T : Top hd.view_39 (looseW hd.view_39 [Str.ofString "_law_table"]) mean mg mb h₀) (F : Fr h₀ L s.heap m) (N : News h₀ L s.heap news)
   (hd0 : 0 ≤ d) (hd1 : d ≤ 32) (hk0 : 0 ≤ k) (hk1 : k ≤ 8)
   (hret : ∀ h' tk', Fr h₀ L h' m → News h₀ L h' news → Q (.bool (lets d k)) {s with heap := h', toks := tk'}) :
  wpAny (model PySem.Challenge.rw_ax6024_01.row.prog w) (callerA.deeper (envX cn { kind := .function, names := ns, isGenerator := false, isCoroutine := false, more := mm } L a ccd cl)) (call (.ref 95) [.int d t, .int k u]) Q E s := by
  revert KX
  k_fill
  intro KX
  w_on
  w_strict k_steps
  all_goals (refine cb_retB (Q := Q) (s := s) (x := lets d k) (fun _ h' tk' F N => hret h' tk' F N) ?_ ?_ ?_)
  all_goals first
    | k_asm
    | (refine cb_drop (by assumption) (by kcj_all))
    | exact way1 (by assumption)
    | exact way2 (by assumption)
    | exact way3 (by assumption) (by assumption) (by assumption)
    | exact way4 (by assumption) (by assumption) (by assumption) (by assumption)
    | exact way5 (by assumption) (by assumption)
    | exact way6 (by assumption) (by assumption) (by assumption) (by assumption)
    | exact way7 (by assumption) (by assumption) (by assumption) (by assumption)
end Mine

end
section
-- part S0
open PySem PySem.W PyProof.Rows
set_option Elab.async false
namespace Mine
noncomputable def lawBody : List Stmt := match PySem.Challenge.pw_ax6024_01.main.body with
  | [_, _, _, _, _, _, _, _, _, _, _, _, .FunctionDef _ _ b _ _ _ _ _ _ _] => b
  | _ => []
noncomputable def lawScope : Scope := match PySem.Challenge.pw_ax6024_01.main.body with
  | [_, _, _, _, _, _, _, _, _, _, _, _, .FunctionDef _ _ _ _ _ _ sc _ _ _] => sc
  | _ => { kind := .module, names := [], isGenerator := false, isCoroutine := false }
noncomputable def lawEnv (L a : Addr) (cd : Value) : Env := envOfC (Str.ofString "law") lawScope L a cd
/-- statements i .. i + n - 1 of the law's body -/
noncomputable def seg (i n : Nat) : List Stmt := (lawBody.drop i).take n
noncomputable def thenBody : List Stmt := match lawBody with
  | [_, _, _, _, _, _, _, .If _ b _ _, _, _, _] => b
  | _ => []
noncomputable def elseBody : List Stmt := match lawBody with
  | [_, _, _, _, _, _, _, .If _ _ b _, _, _, _] => b
  | _ => []
noncomputable def elseSeg (i n : Nat) : List Stmt := (elseBody.drop i).take n
theorem execs_cut_at {M : Model} {A : Around} {E : Value → Shared → Prop} {env : Env} {post : List Stmt} {Q : Flow → Shared → Prop} {Γ : Ctx} (hΓ : Γ.In A) : ∀ (pre : List Stmt) (p : Pos) (s : Shared),
    Sem.wp M Γ (execs pre env) (fun fl _ s' => match fl with | .next => wpAny M A (execs post env) Q E s' | f => Q f s') (fun e _ s' => E e s') p s → Sem.wp M Γ (execs (pre ++ post) env) (fun fl _ s' => Q fl s') (fun e _ s' => E e s') p s
  | [], p, s, h => by
    have h' : wpAny M A (execs post env) Q E s := h
    exact h' Γ p hΓ
  | st :: r, p, s, h => by
    rw [execs_cons, Sem.wp_bind'] at h
    rw [List.cons_append, execs_cons, Sem.wp_bind']
    refine Sem.wp_mono M Γ _ (fun fl p' s' h' => ?_) (fun _ _ _ h' => h') _ _ h
    cases fl with
    | next => exact execs_cut_at hΓ r p' s' h'
    | brk => exact h'
    | cont => exact h'
    | ret v => exact h'
/-- statements, cut in two -/
theorem execs_cut {M : Model} {A : Around} {E : Value → Shared → Prop} {env : Env} {pre post : List Stmt} {Q : Flow → Shared → Prop} {s : Shared}
    (h : wpAny M A (execs pre env) (fun fl s' => match fl with | .next => wpAny M A (execs post env) Q E s' | f => Q f s') E s) : wpAny M A (execs (pre ++ post) env) Q E s :=
  fun Γ p hΓ => execs_cut_at hΓ pre p s (h Γ p hΓ)
end Mine

end
section
-- part TB
open PySem PySem.W PyProof.Rows
set_option Elab.async false
set_option rowWalk.seconds 0
namespace Mine
/-- the law's table, as it stands at the top -/
noncomputable def tabAt (k : Int) : Option Value :=
  if k = 0 then some (.ref 79) else if k = 2 then some (.ref 80) else if k = 3 then some (.ref 81) else if k = 4 then some (.ref 82) else if k = 6 then some (.ref 83) else none
/-- a kind of the table -/
def KindIn (k : Int) : Prop := k = 0 ∨ k = 2 ∨ k = 3 ∨ k = 4 ∨ k = 6
theorem KindIn.out {k : Int} (h : KindIn k) : k = 0 ∨ k = 2 ∨ k = 3 ∨ k = 4 ∨ k = 6 := h
theorem tab_look (p : Params) : (hd.heap_39 p).lookup 78 = some ⟨.type "dict", none, .dict #[⟨0, .int 0 270, .ref 79⟩, ⟨2, .int 2 276, .ref 80⟩, ⟨3, .int 3 279, .ref 81⟩, ⟨4, .int 4 284, .ref 82⟩, ⟨6, .int 6 287, .ref 83⟩] 5, #[]⟩ := by rfl
theorem tab_some (k : Int) : (tabAt k).isSome = decide (k = 0 ∨ k = 2 ∨ k = 3 ∨ k = 4 ∨ k = 6) := by
  unfold tabAt
  repeat' split
  all_goals first | (simp; omega) | simp_all
theorem tab_map {prog : Program} {w : World} {h : Heap} (X : (hd.heap_39 w.params).In h) : h.MapOf (intKind prog w) 78 tabAt := by
  refine ⟨_, _, _, X _ _ (tab_look _), ⟨rfl, rfl, rfl⟩, rfl, fun e he => ?_, fun k => ?_⟩
  · simp only [List.mem_toArray, List.mem_cons, List.not_mem_nil, or_false] at he
    rcases he with rfl | rfl | rfl | rfl | rfl
    · exact ⟨0, rfl, by show (0 : Int) = hashInt 0; decide +kernel⟩
    · exact ⟨2, rfl, by show (2 : Int) = hashInt 2; decide +kernel⟩
    · exact ⟨3, rfl, by show (3 : Int) = hashInt 3; decide +kernel⟩
    · exact ⟨4, rfl, by show (4 : Int) = hashInt 4; decide +kernel⟩
    · exact ⟨6, rfl, by show (6 : Int) = hashInt 6; decide +kernel⟩
  · show findBy Value.isInt _ k = _
    have e : ∀ (i : Int) (t : Tok), Value.isInt k (.int i t) = decide (i = k) := fun i t => by
      first | rfl | (simp [Value.isInt])
    unfold findBy tabAt
    simp only [List.find?_toArray, List.find?_cons, List.find?_nil, e]
    by_cases h0 : k = 0
    · subst h0; rfl
    by_cases h2 : k = 2
    · subst h2; rfl
    by_cases h3 : k = 3
    · subst h3; rfl
    by_cases h4 : k = 4
    · subst h4; rfl
    by_cases h6 : k = 6
    · subst h6; rfl
    simp [h0, h2, h3, h4, h6, Ne.symm h0, Ne.symm h2, Ne.symm h3, Ne.symm h4, Ne.symm h6]
section
variable {prog : Program} {w : World} {A : Around} {E : Value → Shared → Prop} {s : Shared} {h₀ : Heap} {L : Addr} {m : Str → Option Value} {n : Int} {t : Tok} {Q : Value → Shared → Prop}
theorem inTab (F : Fr h₀ L s.heap m) (X : (hd.heap_39 w.params).In h₀) (h : Q (.bool (decide (n = 0 ∨ n = 2 ∨ n = 3 ∨ n = 4 ∨ n = 6))) { s with toks := s.toks + 1 }) : wpAny (model prog w) A (compareOp .In (.int n t) (.ref 78)) Q E s :=
  wpAny_in_of (intKind_is prog w n t) (by decide) (tab_map (X.keeps F.keep)) (by rw [tab_some]; exact h)
theorem itemTab {value slice : PySem.Expr} (F : Fr h₀ L s.heap m) (X : (hd.heap_39 w.params).In h₀) (hm : n = 0 ∨ n = 2 ∨ n = 3 ∨ n = 4 ∨ n = 6)
    (q0 : n = 0 → Q (.ref 79) { s with toks := s.toks + 1 }) (q2 : n = 2 → Q (.ref 80) { s with toks := s.toks + 1 }) (q3 : n = 3 → Q (.ref 81) { s with toks := s.toks + 1 }) (q4 : n = 4 → Q (.ref 82) { s with toks := s.toks + 1 }) (q6 : n = 6 → Q (.ref 83) { s with toks := s.toks + 1 })
    (hs : subscripted slice false (.ref 78) (.int n t) = operate [.ref 78, .int n t] (getItem (.ref 78) (.int n t)) := by with_unfolding_all rfl) :
    wpAny (model prog w) A (subscriptTail value slice (.ref 78) (.int n t)) Q E s := by
  have M := tab_map (prog := prog) (X.keeps F.keep)
  have go : ∀ v, tabAt n = some v → Q v { s with toks := s.toks + 1 } → wpAny (model prog w) A (subscriptTail value slice (.ref 78) (.int n t)) Q E s := fun v e q =>
    tail_any M.typeIs slot_dict_getitem.lookup (wpAny_getItem_of (intKind_is prog w n t) M e q) hs
  rcases hm with e | e | e | e | e
  · exact go _ (by rw [e]; rfl) (q0 e)
  · exact go _ (by rw [e]; rfl) (q2 e)
  · exact go _ (by rw [e]; rfl) (q3 e)
  · exact go _ (by rw [e]; rfl) (q4 e)
  · exact go _ (by rw [e]; rfl) (q6 e)
theorem itemLit {value slice : PySem.Expr} {l : Addr} {vs : List Value} {k : Int} {v : Value} (hl : s.heap.IsList l vs.toArray) (h0 : 0 ≤ k) (hk : k < 2 ^ 63) (hx : vs[k.toNat]? = some v) (h : Q v s)
    (hs : subscripted slice false (.ref l) (.int k t) = operate [.ref l, .int k t] (getItem (.ref l) (.int k t)) := by with_unfolding_all rfl) : wpAny (model prog w) A (subscriptTail value slice (.ref l) (.int k t)) Q E s :=
  tail_any hl.typeIs slot_list_getitem.lookup (wpAny_getItem_list hl h0 hk (by simpa using hx) h) hs
end
end Mine

end
section
-- part CU
open PySem PySem.W PyProof.Rows
set_option Elab.async false
set_option rowWalk.seconds 0
namespace Mine
theorem news_ne {h₀ h : Heap} {L a b : Addr} {news : List (Addr × Obj)} {o o' : Obj} (N : News h₀ L h news) (ha : (a, o) ∈ news) (hb : (b, o') ∈ news) (hd : o.data ≠ o'.data) : a ≠ b := by
  intro e
  subst e
  have h1 := (N _ ha).1
  have h2 := (N _ hb).1
  exact hd (congrArg Obj.data (Option.some.inj (h1.symm.trans h2)))
/-- a list is none of the law's cells -/
theorem list_apart {h₀ h : Heap} {L D : Addr} {news : List (Addr × Obj)} {its : Array Value} {n : Nat} {o1 o2 o3 o4 od : Obj} {v1 v2 v3 v4 : Option Value} (N : News h₀ L h news) (hd : od.data = .seq its n)
    (c1 : o1.data = .cell v1) (c2 : o2.data = .cell v2) (c3 : o3.data = .cell v3) (c4 : o4.data = .cell v4)
    (m0 : (D, od) ∈ news) (m1 : (L + 1, o1) ∈ news) (m2 : (L + 1 + 1, o2) ∈ news) (m3 : (L + 1 + 1 + 1, o3) ∈ news) (m4 : (L + 1 + 1 + 1 + 1, o4) ∈ news) :
    (@Ne Nat (L + 1 + 1 + 1 + 1) D) ∧ (@Ne Nat (L + 1 + 1 + 1) D) ∧ (@Ne Nat (L + 1 + 1) D) ∧ (@Ne Nat (L + 1) D) :=
  ⟨news_ne N m4 m0 (by rw [c4, hd]; exact fun e => by cases e), news_ne N m3 m0 (by rw [c3, hd]; exact fun e => by cases e), news_ne N m2 m0 (by rw [c2, hd]; exact fun e => by cases e), news_ne N m1 m0 (by rw [c1, hd]; exact fun e => by cases e)⟩
theorem comp_end {h₀ : Heap} {L I C D : Addr} {m : Str → Option Value} {s₁ : Shared} {oI oC oD : Obj} {S : List (Addr × Obj) → Prop} {rest : Value → List (Addr × Obj) → Prop} {y : Value} {h' : Heap} {tk : Nat} {news' : List (Addr × Obj)}
    (F : Fr h₀ L h' m) (N : News h₀ L h' ((I, oI) :: (C, oC) :: (D, oD) :: news')) (off : LCg.Off3 I C D news') (hS : S news') (r : rest y news') : LCg.CompEnd h₀ L m s₁ I oI C oC D oD S rest y { s₁ with heap := h', toks := tk } :=
  LCg.CompEnd.intro F N news' (fun _ h => h) off hS r
theorem fr2 {h₀ h : Heap} {L : Addr} {m : Str → Option Value} {x1 x2 : Str} {v1 v2 : Value} (F : Fr h₀ L h m) (e1 : m x1 = some v1) (e2 : m x2 = some v2) :
    Fr h₀ L h (fun y => if y = x1 then some v1 else if y = x2 then some v2 else m y) := by
  have e : (fun y => if y = x1 then some v1 else if y = x2 then some v2 else m y) = m := by
    funext y
    split
    · rename_i h; rw [h, e1]
    split
    · rename_i h; rw [h, e2]
    rfl
  rw [e]; exact F
theorem fr3 {h₀ h : Heap} {L : Addr} {m : Str → Option Value} {x1 x2 x3 : Str} {v1 v2 v3 : Value} (F : Fr h₀ L h m) (e1 : m x1 = some v1) (e2 : m x2 = some v2) (e3 : m x3 = some v3) :
    Fr h₀ L h (fun y => if y = x1 then some v1 else if y = x2 then some v2 else if y = x3 then some v3 else m y) := by
  have e : (fun y => if y = x1 then some v1 else if y = x2 then some v2 else if y = x3 then some v3 else m y) = m := by
    funext y
    split
    · rename_i h; rw [h, e1]
    split
    · rename_i h; rw [h, e2]
    split
    · rename_i h; rw [h, e3]
    rfl
  rw [e]; exact F
/-- a kind out of the law's own list, with the number of depths -/
def Kinds (k : Int) (g al : Bool) (n : Int) : Prop :=
  (k = 0 ∧ g = true ∧ al = false ∧ n = 1) ∨ (k = 2 ∧ g = false ∧ al = false ∧ (n = 3 ∨ n = 1)) ∨ (k = 3 ∧ g = false ∧ al = false ∧ n = 1) ∨ (k = 4 ∧ g = true ∧ al = true ∧ (n = 2 ∨ n = 1)) ∨ (k = 6 ∧ g = false ∧ al = true ∧ (n = 4 ∨ n = 1))
end Mine

end
section
-- part F1
open PySem PySem.W PyProof.Rows
set_option Elab.async false
set_option rowWalk.seconds 0
namespace Mine
local macro_rules | `(tactic| walk_at "call ref") => `(tactic| (k_here; (with_reducible show wpAny _ (Around.deeper callerA _) (call (Value.ref 95) _) _ _ _); k_dflt (refine' letsC ?k1 ?k2 ?k3 ?k4 ?k5 ?b1 ?b2 ?b3 ?b4 ?_; (case k4 => k_asm); (case k5 => k_asm); (case k1 => k_asm); (case k2 => k_asm); (case k3 => k_asm); (case b1 => first | omega | exact fmod_lo _ (by decide)); (case b2 => first | omega | exact Int.le_trans (Int.le_sub_one_of_lt (fmod_hi _ (by decide))) (by decide)); (case b3 => first | omega | exact fmod_lo _ (by decide)); (case b4 => first | omega | exact Int.le_trans (Int.le_sub_one_of_lt (fmod_hi _ (by decide))) (by decide))); intro h' tk' F' N'; (try dsimp only)))
local macro_rules | `(tactic| walk_at "compareOp In int ref") => `(tactic| (k_here; (with_reducible show wpAny _ _ (compareOp CmpOp.In (Value.int _ _) (Value.ref 78)) _ _ _); k_dflt (refine' inTab ?k1 ?k2 ?_; (case k1 => k_asm); (case k2 => k_asm)); (try dsimp only)))
local macro_rules | `(tactic| walk_at "subscriptTail Name Name ref int") => `(tactic| (k_here; (with_reducible show wpAny _ _ (subscriptTail _ _ (Value.ref 78) (Value.int _ _)) _ _ _); k_dflt (refine' itemTab ?k1 ?k2 ?k3 ?_ ?_ ?_ ?_ ?_; (case k1 => k_asm); (case k2 => k_asm); (case k3 => first | exact KindIn.out (by assumption) | omega | ((simp only [decide_eq_true_eq] at *); omega))); all_goals (intro e9; (try dsimp only))))
local macro_rules | `(tactic| walk_at "subscriptTail Name Constant ref int") => `(tactic| (k_here; (with_reducible show wpAny _ _ (subscriptTail _ _ (Value.ref _) (Value.int _ _)) _ _ _); (with_unfolding_all refine' itemLit ?k1 ?k2 ?k3 ?k4 ?_ ?k6; (case k1 => is_list); (case k2 => decide); (case k3 => decide); (case k4 => rfl); (case k6 => with_unfolding_all rfl); k_whole)))
theorem end_true {h₀ h' : Heap} {L : Addr} {m' : Str → Option Value} {s : Shared} {tk : Nat} {Q : Flow → Shared → Prop} {b : Bool} (hQ : ∀ h' tk m', Fr h₀ L h' m' → Q (.ret (.bool true)) { s with heap := h', toks := tk }) (F : Fr h₀ L h' m') (e : b = true) :
    Q (.ret (.bool b)) { s with heap := h', toks := tk } := by
  subst e; exact hQ _ _ _ F
set_option maxRecDepth 100000 in
set_option maxHeartbeats 8000000 in
theorem segF {w : World} {mean : ExcName → Option Value} {mg mb : Str → Option Value} {h₀ : Heap} {L fa : Addr} {cd : Value} {m : Str → Option Value} {s : Shared} {Q : Flow → Shared → Prop} {E : Value → Shared → Prop} {Fd nf : Nat} {a0 a1 a2 a3 a4 a5 a6 a7 a8 : Int} {t0 t1 t2 t3 t4 t5 t6 t7 t8 : Tok} {o1 o2 o3 o4 : Obj}
    (K0 : Below callerA h₀ [] h₀) (KX : (hd.heap_39 w.params).In h₀) (T : Top hd.view_39 (looseW hd.view_39 [Str.ofString "_law_table"]) mean mg mb h₀) (F : Fr h₀ L s.heap m)
    (N : News h₀ L s.heap [(Fd, W.listOf [Value.int a0 t0, Value.int a1 t1, Value.int a2 t2, Value.int a3 t3, Value.int a4 t4, Value.int a5 t5, Value.int a6 t6, Value.int a7 t7, Value.int a8 t8].toArray nf), (L + 1 + 1 + 1 + 1, o4), (L + 1 + 1 + 1, o3), (L + 1 + 1, o2), (L + 1, o1)])
    (c1 : o1.data = .cell (some (.ref Fd)))
    (hQ : ∀ h' tk m', Fr h₀ L h' m' → Q (.ret (.bool true)) { s with heap := h', toks := tk }) :
    wpAny (model PySem.Challenge.rw_ax6024_01.row.prog w) (callerA.deeper (lawEnv L fa cd)) (execs (seg 8 3) (lawEnv L fa cd)) Q E s := by
  dsimp only [seg, elseSeg, elseBody, thenBody, lawBody, lawEnv, lawScope, PySem.Challenge.pw_ax6024_01, List.drop, List.take]
  revert KX
  k_fill
  intro KX
  w_on
  w_strict k_steps
  all_goals (refine end_true hQ (by k_asm) ?_)
  all_goals first
    | (rw [beq_iff_eq, Bool.eq_iff_iff, lets_iff]; simp only [Bool.or_eq_true, decide_eq_true_eq, Bool.false_eq_true, or_false]; omega)
    | (rename (decide _ = false) => h9; rw [decide_eq_false_iff_not] at h9; rw [beq_iff_eq, Bool.eq_iff_iff, lets_iff]; simp only [Bool.false_eq_true, iff_false]; omega)
    | (rename (¬ (_ ∨ _)) => h9; rw [beq_iff_eq, Bool.eq_iff_iff, lets_iff]; simp only [Bool.false_eq_true, iff_false]; omega)
end Mine

end
section
-- part A2
open PySem PySem.W PyProof.Rows
set_option Elab.async false
set_option rowWalk.seconds 0
namespace Mine
theorem fold_in (ns : List Int) : ∀ a : Int, 0 ≤ a → a < 3000000000 →
    0 ≤ (List.foldl (fun (σ : Int × Unit) (n : Int) => ((σ.1 * 31 + n).fmod 2147483647, ())) (a, ()) ns).1 ∧ (List.foldl (fun (σ : Int × Unit) (n : Int) => ((σ.1 * 31 + n).fmod 2147483647, ())) (a, ()) ns).1 < 3000000000 := by
  induction ns with
  | nil => intro a h h'; exact ⟨h, h'⟩
  | cons n r ih =>
    intro a _ _
    rw [List.foldl_cons]
    refine ih _ ?_ ?_
    · exact Int.fmod_nonneg_of_pos _ (by decide)
    · have := Int.fmod_lt_of_pos (a * 31 + n) (b := 2147483647) (by decide)
      show (a * 31 + n).fmod 2147483647 < 3000000000
      omega
theorem start_ok (ns : List Int) (h : ns.length ≤ 63) :
    (List.map (fun k' => k') (List.take 9 ns)).length ≤ 9 ∧ 0 ≤ (List.foldl (fun (σ : Int × Unit) (n : Int) => ((σ.1 * 31 + n).fmod 2147483647, ())) (7 + (ns.length : Int), ()) ns).1 ∧ (List.foldl (fun (σ : Int × Unit) (n : Int) => ((σ.1 * 31 + n).fmod 2147483647, ())) (7 + (ns.length : Int), ()) ns).1 < 3000000000 := by
  refine ⟨?_, fold_in ns _ (by omega) (by omega)⟩
  rw [List.length_map, List.length_take]; omega
theorem ints_cons {vs : List Value} {a : Int} {r : List Int} (h : IntsAre vs (a :: r)) : ∃ t vs', vs = .int a t :: vs' ∧ IntsAre vs' r := by
  cases h with
  | cons _ t h => exact ⟨t, _, rfl, h⟩
theorem nine {vs : List Value} {f : List Int} (h : IntsAre vs f) (hl : f.length = 9) : ∃ a0 a1 a2 a3 a4 a5 a6 a7 a8 t0 t1 t2 t3 t4 t5 t6 t7 t8,
    vs = [Value.int a0 t0, Value.int a1 t1, Value.int a2 t2, Value.int a3 t3, Value.int a4 t4, Value.int a5 t5, Value.int a6 t6, Value.int a7 t7, Value.int a8 t8] := by
  cases h with
  | nil => cases hl
  | cons a0 t0 h => cases h with
  | nil => cases hl
  | cons a1 t1 h => cases h with
  | nil => cases hl
  | cons a2 t2 h => cases h with
  | nil => cases hl
  | cons a3 t3 h => cases h with
  | nil => cases hl
  | cons a4 t4 h => cases h with
  | nil => cases hl
  | cons a5 t5 h => cases h with
  | nil => cases hl
  | cons a6 t6 h => cases h with
  | nil => cases hl
  | cons a7 t7 h => cases h with
  | nil => cases hl
  | cons a8 t8 h => cases h with
  | nil => exact ⟨_, _, _, _, _, _, _, _, _, _, _, _, _, _, _, _, _, _, rfl⟩
  | cons a9 t9 h => simp at hl
local macro_rules | `(tactic| size_fits) => `(tactic| ((simp only [List.size_toArray, PySem.sizeLine_eq]); omega))
local macro_rules | `(tactic| walk_at "call builtin:list.append") => `(tactic| (k_here; (try dsimp only [List.cons_append, List.nil_append]); k_dflt (refine append_K (by k_asm) (by k_asm) (by k_upd) ?_ (by (simp only [List.size_toArray, PySem.sizeLine_eq]); omega)); intro h' F' N'; (try k_sweep)))
set_option maxRecDepth 100000 in
set_option maxHeartbeats 8000000 in
theorem segA {w : World} {mean : ExcName → Option Value} {mg mb : Str → Option Value} {h₀ : Heap} {L fa : Addr} {cd : Value} {m : Str → Option Value} {s : Shared} {Q : Flow → Shared → Prop} {E : Value → Shared → Prop} {l : Addr} {vs : List Value} {script : List Int} {o1 o2 o3 o4 : Obj} {v1 v2 v3 v4 : Option Value} {u : Str → Option Value}
    (K0 : Below callerA h₀ [] h₀) (KX : (hd.heap_39 w.params).In h₀) (T : Top hd.view_39 (looseW hd.view_39 [Str.ofString "_law_table"]) mean mg mb h₀)
    (F : Fr h₀ L s.heap (fun y => if y = Str.ofString "script" then some (.ref l) else u y))
    (hL : h₀.IsList l vs.toArray) (hI : IntsAre vs script) (hlen : script.length ≤ 63)
    (N : News h₀ L s.heap [(L + 1 + 1 + 1 + 1, o4), (L + 1 + 1 + 1, o3), (L + 1 + 1, o2), (L + 1, o1)])
    (c1 : o1.data = .cell v1) (c2 : o2.data = .cell v2) (c3 : o3.data = .cell v3) (c4 : o4.data = .cell v4)
    (hQ : ∀ h' tk Fd nf a0 a1 a2 a3 a4 a5 a6 a7 a8 t0 t1 t2 t3 t4 t5 t6 t7 t8 o1', Fr h₀ L h' (fun y => if y = Str.ofString "script" then some (.ref l) else u y) →
      News h₀ L h' [(Fd, W.listOf [Value.int a0 t0, Value.int a1 t1, Value.int a2 t2, Value.int a3 t3, Value.int a4 t4, Value.int a5 t5, Value.int a6 t6, Value.int a7 t7, Value.int a8 t8].toArray nf), (L + 1 + 1 + 1 + 1, o4), (L + 1 + 1 + 1, o3), (L + 1 + 1, o2), (L + 1, o1')] → o1'.data = .cell (some (.ref Fd)) → Q .next { s with heap := h', toks := tk }) :
    wpAny (model PySem.Challenge.rw_ax6024_01.row.prog w) (callerA.deeper (lawEnv L fa cd)) (execs (seg 0 1) (lawEnv L fa cd)) Q E s := by
  dsimp only [seg, elseSeg, elseBody, thenBody, lawBody, lawEnv, lawScope, PySem.Challenge.pw_ax6024_01, List.drop, List.take]
  revert KX
  k_fill
  intro KX
  w_on
  (k_with "exec While Compare cons nil" => k_while (fun (_ : List Int) (f : List Int) (l : Int) => f.length ≤ 9 ∧ 0 ≤ l ∧ l < 3000000000) (fun (_ : List Int) (f : List Int) (_ : Int) => 9 - f.length) "found" "last")
  (k_with "state" => exact start_ok _ (by omega))
  w_strict k_steps
  rename IntsAre _ _ => iF
  have e9 := nine ‹IntsAre _ _› (by omega)
  obtain ⟨a0, a1, a2, a3, a4, a5, a6, a7, a8, t0, t1, t2, t3, t4, t5, t6, t7, t8, rfl⟩ := e9
  refine hQ _ _ _ _ _ _ _ _ _ _ _ _ _ _ _ _ _ _ _ _ _ _ _ (by k_asm) (cb_drop (by k_asm) (by kcj_all)) (by assumption)
end Mine

end
section
-- part B2
open PySem PySem.W PyProof.Rows
set_option Elab.async false
set_option rowWalk.seconds 0
namespace Mine
local macro_rules | `(tactic| walk_at "compareOp In int ref") => `(tactic| (k_here; (with_reducible show wpAny _ _ (compareOp CmpOp.In (Value.int _ _) (Value.ref 78)) _ _ _); k_dflt (refine' inTab ?k1 ?k2 ?_; (case k1 => k_asm); (case k2 => k_asm)); (try dsimp only)))
local macro_rules | `(tactic| walk_at "subscriptTail Name Name ref int") => `(tactic| (k_here; (with_reducible show wpAny _ _ (subscriptTail _ _ (Value.ref 78) (Value.int _ _)) _ _ _); k_dflt (refine' itemTab ?k1 ?k2 ?k3 ?_ ?_ ?_ ?_ ?_; (case k1 => k_asm); (case k2 => k_asm); (case k3 => first | exact KindIn.out (by assumption) | omega | ((simp only [decide_eq_true_eq] at *); omega))); all_goals (intro e9; (try dsimp only))))
local macro_rules | `(tactic| walk_at "subscriptTail Name Constant ref int") => `(tactic| (k_here; (with_reducible show wpAny _ _ (subscriptTail _ _ (Value.ref _) (Value.int _ _)) _ _ _); (with_unfolding_all refine' itemLit ?k1 ?k2 ?k3 ?k4 ?_ ?k6; (case k1 => is_list); (case k2 => decide); (case k3 => decide); (case k4 => rfl); (case k6 => with_unfolding_all rfl); k_whole)))
set_option maxRecDepth 100000 in
set_option maxHeartbeats 8000000 in
theorem segB {w : World} {mean : ExcName → Option Value} {mg mb : Str → Option Value} {h₀ : Heap} {L fa : Addr} {cd : Value} {m : Str → Option Value} {s : Shared} {Q : Flow → Shared → Prop} {E : Value → Shared → Prop} {Fd nf : Nat} {a0 a1 a2 a3 a4 a5 a6 a7 a8 : Int} {t0 t1 t2 t3 t4 t5 t6 t7 t8 : Tok} {o1 o2 o3 o4 : Obj} {v2 v3 v4 : Option Value}
    (K0 : Below callerA h₀ [] h₀) (KX : (hd.heap_39 w.params).In h₀) (T : Top hd.view_39 (looseW hd.view_39 [Str.ofString "_law_table"]) mean mg mb h₀) (F : Fr h₀ L s.heap m)
    (N : News h₀ L s.heap [(Fd, W.listOf [Value.int a0 t0, Value.int a1 t1, Value.int a2 t2, Value.int a3 t3, Value.int a4 t4, Value.int a5 t5, Value.int a6 t6, Value.int a7 t7, Value.int a8 t8].toArray nf), (L + 1 + 1 + 1 + 1, o4), (L + 1 + 1 + 1, o3), (L + 1 + 1, o2), (L + 1, o1)])
    (c1 : o1.data = .cell (some (.ref Fd))) (c2 : o2.data = .cell v2) (c3 : o3.data = .cell v3) (c4 : o4.data = .cell v4)
    (hQ : ∀ h' tk (k : Int) (g al : Bool) (n : Int) (t t' : Tok) o2' (u : Str → Option Value), Kinds k g al n → Fr h₀ L h' (fun y => if y = Str.ofString "many" then some (.int n t) else if y = Str.ofString "alpha" then some (.bool al) else if y = Str.ofString "grey" then some (.bool g) else u y) →
      News h₀ L h' [(Fd, W.listOf [Value.int a0 t0, Value.int a1 t1, Value.int a2 t2, Value.int a3 t3, Value.int a4 t4, Value.int a5 t5, Value.int a6 t6, Value.int a7 t7, Value.int a8 t8].toArray nf), (L + 1 + 1 + 1 + 1, o4), (L + 1 + 1 + 1, o3), (L + 1 + 1, o2'), (L + 1, o1)] → o2'.data = .cell (some (.int k t')) → Q .next { s with heap := h', toks := tk }) :
    wpAny (model PySem.Challenge.rw_ax6024_01.row.prog w) (callerA.deeper (lawEnv L fa cd)) (execs (seg 1 2) (lawEnv L fa cd)) Q E s := by
  dsimp only [seg, elseSeg, elseBody, thenBody, lawBody, lawEnv, lawScope, PySem.Challenge.pw_ax6024_01, List.drop, List.take]
  revert KX
  k_fill
  intro KX
  w_on
  have ap := list_apart N (by exact rfl) c1 c2 c3 c4 (.head _) (.tail _ (.tail _ (.tail _ (.tail _ (.head _))))) (.tail _ (.tail _ (.tail _ (.head _)))) (.tail _ (.tail _ (.head _))) (.tail _ (.head _))
  w_strict k_steps
  all_goals first
    | (refine hQ _ _ _ _ _ _ _ _ _ _ ?_ (fr3 (by k_asm) rfl rfl rfl) (cb_drop (by k_asm) (by kcj_all)) (by assumption); simp [Kinds]; done)
end Mine

end
section
-- part TP1
open PySem PySem.W PyProof.Rows PySem.Spec PySem.Calls
set_option Elab.async false
set_option maxRecDepth 100000
namespace Mine
theorem noFill_tuple_mul : fillsNumberSlot (.type "tuple") "mul" = pure false :=
  PySem.fillsNumberSlot_seq (id := "tuple.__mul__") (r := some (.builtin "tuple.__rmul__")) F.slot_tuple_mul.lookup (by decide +kernel) F.slot_tuple_rmul.lookup (by decide +kernel)
theorem repeat_tuple : seqRepeat? (.type "tuple") = pure (some (.builtin "tuple.__mul__")) := by
  unfold seqRepeat?
  rw [PySem.seqSlot_of (T := "tuple") (name := "__mul__") (id := "tuple.__mul__") F.slot_tuple_mul.lookup (by decide +kernel), PySem.seqSlot_of (T := "tuple") (name := "__rmul__") (id := "tuple.__rmul__") F.slot_tuple_rmul.lookup (by decide +kernel)]
  rfl
theorem int_rmul_tuple (a : Int) (t : Tok) (l : Addr) (items : Array Value) (n : Nat) (d : Option Addr) (sl : Array (Option Value)) :
    Meets (Builtin.«int.__rmul__» ⟨[.int a t, .ref l], []⟩) (fun _ R s => s.heap.get? l = some { cls := .type "tuple", dict := d, data := .seq items n, slots := sl } ∧ R (.ok (.ret Value.notImplemented)) s) :=
  .of_wp fun prog w A R s h => by obtain ⟨hp, g, dr, tk, os⟩ := s; obtain ⟨hl, h⟩ := h; wp_walk; exact ⟨_, rfl, h⟩
theorem tuple_mul_one (l : Addr) (items : Array Value) (n : Nat) (u : Tok) (d : Option Addr) (sl : Array (Option Value)) :
    Meets (Builtin.«tuple.__mul__» ⟨[.ref l, .int 1 u], []⟩) (fun _ R s => s.heap.get? l = some { cls := .type "tuple", dict := d, data := .seq items n, slots := sl } ∧ R (.ok (.ret (.ref l))) s) :=
  .of_wp fun prog w A R s h => by
    obtain ⟨hp, g, dr, tk, os⟩ := s; obtain ⟨hl, h⟩ := h
    have hT : Shared.TypeIs ⟨hp, g, dr, tk, os⟩ (.ref l) "tuple" := ⟨_, hl, rfl⟩
    wp_walk using wpAny_loadPart' hl, wpAny_typeOf hT
    exact ⟨_, rfl, h⟩
set_option maxHeartbeats 4000000 in
theorem tuple_mul_more (l : Addr) (v : Value) (n : Nat) (x : Int) (hx : x = 2 ∨ x = 3 ∨ x = 4) (u : Tok) (d : Option Addr) (sl : Array (Option Value)) :
    Meets (Builtin.«tuple.__mul__» ⟨[.ref l, .int x u], []⟩) (fun _ R s => s.heap.get? l = some { cls := .type "tuple", dict := d, data := .seq #[v] n, slots := sl } ∧
      R (.ok (.ret (.ref s.heap.objs.size))) { s with heap := s.heap.push { cls := .type "tuple", data := .seq (List.replicate x.toNat v).toArray } }) :=
  .of_wp fun prog w A R s h => by
    obtain ⟨hp, g, dr, tk, os⟩ := s; obtain ⟨hl, h⟩ := h
    have hT : Shared.TypeIs ⟨hp, g, dr, tk, os⟩ (.ref l) "tuple" := ⟨_, hl, rfl⟩
    rcases hx with rfl | rfl | rfl
    all_goals (wp_walk using wpAny_loadPart' hl, wpAny_typeOf hT)
    all_goals exact ⟨_, rfl, h⟩
set_option maxHeartbeats 8000000 in
theorem tuple_to_one (l q : Addr) (v v2 : Value) (r : List Value) (n : Nat) (u : Tok) (d : Option Addr) (sl : Array (Option Value)) :
    Meets (Builtin.«tuple.__getitem__» ⟨[.ref l, .ref q], []⟩) (fun _ R s => s.heap.get? l = some { cls := .type "tuple", dict := d, data := .seq (v :: v2 :: r).toArray n, slots := sl } ∧ s.heap.get? q = some { cls := .type "slice", data := .fields #[.none, .int 1 u, .none] } ∧
      R (.ok (.ret (.ref s.heap.objs.size))) { s with heap := s.heap.push { cls := .type "tuple", data := .seq #[v] } }) :=
  .of_wp fun prog w A R s h => by
    obtain ⟨hp, g, dr, tk, os⟩ := s; obtain ⟨hl, hq, h⟩ := h
    have hT : Shared.TypeIs ⟨hp, g, dr, tk, os⟩ (.ref l) "tuple" := ⟨_, hl, rfl⟩
    have hS : Shared.TypeIs ⟨hp, g, dr, tk, os⟩ (.ref q) "slice" := ⟨_, hq, rfl⟩
    have hix := F.slot_int_index.lookup
    have hadj : ∀ k : Nat, Builtin.Slice.sliceAdjust none (some 1) 1 (((k + 1 + 1 : Nat)) : Int) = (0, 1) := fun k => by
      unfold Builtin.Slice.sliceAdjust
      simp only [show ¬ ((1 : Int) < 0) from by decide, if_false]
      congr 1
      omega
    have hpl : Builtin.Slice.slicePlaces 0 1 1 = 1 := by decide
    wp_walk using wpAny_loadPart' hl, wpAny_loadPart' hq, wpAny_typeOf hT, wpAny_typeOf hS
    simp only [List.size_toArray, List.length_cons, Option.getD_none, hadj, hpl]
    rw [if_neg (by simp)]
    show wpAny _ _ (Builtin.Tuple.tupleExact #[v] >>= fun x => ret x) _ _ _
    unfold Builtin.Tuple.tupleExact
    exact wpAny_bind (wpAny_newObj_type (wpAny_pure ⟨_, rfl, h⟩))
set_option maxHeartbeats 8000000 in
theorem tuple_to_whole (l q : Addr) (v : Value) (n : Nat) (u : Tok) (d : Option Addr) (sl : Array (Option Value)) :
    Meets (Builtin.«tuple.__getitem__» ⟨[.ref l, .ref q], []⟩) (fun _ R s => s.heap.get? l = some { cls := .type "tuple", dict := d, data := .seq #[v] n, slots := sl } ∧ s.heap.get? q = some { cls := .type "slice", data := .fields #[.none, .int 1 u, .none] } ∧
      R (.ok (.ret (.ref l))) s) :=
  .of_wp fun prog w A R s h => by
    obtain ⟨hp, g, dr, tk, os⟩ := s; obtain ⟨hl, hq, h⟩ := h
    have hT : Shared.TypeIs ⟨hp, g, dr, tk, os⟩ (.ref l) "tuple" := ⟨_, hl, rfl⟩
    have hS : Shared.TypeIs ⟨hp, g, dr, tk, os⟩ (.ref q) "slice" := ⟨_, hq, rfl⟩
    have hix := F.slot_int_index.lookup
    wp_walk using wpAny_loadPart' hl, wpAny_loadPart' hq, wpAny_typeOf hT, wpAny_typeOf hS
    all_goals exact ⟨_, rfl, h⟩

end Mine

end
section
-- part TP2
open PySem PySem.W PyProof.Rows PySem.Spec PySem.Calls
set_option Elab.async false
set_option maxRecDepth 100000
namespace Mine

section
variable {prog : Program} {w : World} {A : Around} {E : Value → Shared → Prop} {s : Shared} {h₀ : Heap} {L t : Addr} {m : Str → Option Value} {news : List (Addr × Obj)} {u tk : Tok} {Q : Value → Shared → Prop}
theorem tup_obj {h : Heap} {its : Array Value} (ht : IsTup h t its) : ∃ d n sl, h.get? t = some { cls := .type "tuple", dict := d, data := .seq its n, slots := sl } := by
  obtain ⟨⟨c, d, dt, sl⟩, ho, hc, n, hd⟩ := ht
  simp only at hc hd
  subst hc hd
  exact ⟨_, _, _, ho⟩
/-- t * n, of a tuple of one -/
theorem mulOne {v : Value} {x : Int} (ht : IsTup s.heap t #[v]) (hx : x = 1) (h : Q (.ref t) s) : wpAny (model prog w) A (binaryOp .Mult (.ref t) (.int x u)) Q E s := by
  subst hx
  obtain ⟨d, n, sl, ho⟩ := tup_obj ht
  exact PySem.wpAny_binaryOp_repeat_ref (T := "tuple") (U := "int") (by decide) ⟨_, ho, rfl⟩ (fun s' => typeIs_int s' 1 u) noFill_tuple_mul F.fills_int_mul F.slot_int_rmul repeat_tuple F.slot_int_index.lookup
    (call_meets F.slot_int_rmul (typeIs_int s 1 u) F.entry_int_rmul (F.args_int_rmul_2 _ _) (int_rmul_tuple 1 u t #[v] n d sl)
      ⟨ho, rfl, ⟨_, ho, rfl⟩, call_meets F.slot_tuple_mul ⟨_, ho, rfl⟩ F.entry_tuple_mul (F.args_tuple_mul_2 _ _) (tuple_mul_one t #[v] n u d sl) ⟨ho, h⟩⟩)
theorem mulMore {v : Value} {x : Int} (Fm : Fr h₀ L s.heap m) (N : News h₀ L s.heap news) (ht : IsTup s.heap t #[v]) (hx : x = 2 ∨ x = 3 ∨ x = 4)
    (h : ∀ D h', Fr h₀ L h' m → News h₀ L h' ((D, { cls := .type "tuple", data := .seq (List.replicate x.toNat v).toArray }) :: news) → (∀ p ∈ news, p.1 < D) → Q (.ref D) { s with heap := h' }) :
    wpAny (model prog w) A (binaryOp .Mult (.ref t) (.int x u)) Q E s := by
  obtain ⟨d, n, sl, ho⟩ := tup_obj ht
  exact PySem.wpAny_binaryOp_repeat_ref (T := "tuple") (U := "int") (by decide) ⟨_, ho, rfl⟩ (fun s' => typeIs_int s' x u) noFill_tuple_mul F.fills_int_mul F.slot_int_rmul repeat_tuple F.slot_int_index.lookup
    (call_meets F.slot_int_rmul (typeIs_int s x u) F.entry_int_rmul (F.args_int_rmul_2 _ _) (int_rmul_tuple x u t #[v] n d sl)
      ⟨ho, rfl, ⟨_, ho, rfl⟩, call_meets F.slot_tuple_mul ⟨_, ho, rfl⟩ F.entry_tuple_mul (F.args_tuple_mul_2 _ _) (tuple_mul_more t v n x hx u d sl)
        ⟨ho, h _ _ (Fm.push _) (N.push Fm _) fun p hp => Heap.lt_size (N p hp).1⟩⟩)
theorem getItem_slice {q : Addr} {S : PySem.Spec} {Q : Value → Shared → Prop} {its : Array Value} (ht : IsTup s.heap t its) (hg : Meets (Builtin.«tuple.__getitem__» ⟨[.ref t, .ref q], []⟩) S) (h : S A (wants Q E) s) :
    wpAny (model prog w) A (getItem (.ref t) (.ref q)) Q E s := by
  unfold getItem
  try with_reducible refine wpAny_holding ?_
  first | refine wpAny_bind (wpAny_pure ?_) | skip
  refine wpAny_bind (wpAny_sequenceKey ht.typeIs (by decide) ?_)
  refine wpAny_bind (wpAny_callSpecial?_slot (name := Str.ofString "__getitem__") ht.typeIs slot_tuple_getitem
    (wpAny_mono (call_meets (Q := Q) slot_tuple_getitem ht.typeIs entry_tuple_getitem (args_tuple_getitem _ _) hg h) (fun v s' q => ?_) fun _ _ x => x))
  first | exact wpAny_pure q | exact wpAny_bind (wpAny_pure (wpAny_pure q)) | exact q
theorem sliceWhole {value slice : PySem.Expr} {v : Value} (Fm : Fr h₀ L s.heap m) (N : News h₀ L s.heap news) (ht : IsTup s.heap t #[v])
    (h : ∀ h', Fr h₀ L h' m → News h₀ L h' news → Q (.ref t) { s with heap := h' })
    (hs : subscripted slice false (.ref t) (.ref s.heap.objs.size) = operate [.ref s.heap.objs.size, .ref t] (getItem (.ref t) (.ref s.heap.objs.size)) := by with_unfolding_all rfl)
    (hg : ∀ r, letTemporaryGo value (.ref t) r = pure () := by intro _; with_unfolding_all rfl) :
    wpAny (model prog w) A (subscriptTail value slice (.ref t) (.ref s.heap.objs.size)) Q E { s with heap := s.heap.push { cls := .type "slice", data := .fields #[.none, .int 1 u, .none] } } := by
  have ht' : IsTup (s.heap.push { cls := .type "slice", data := .fields #[.none, .int 1 u, .none] }) t #[v] := ht.keeps fun _ _ e => Heap.get?_push_of_some _ e
  obtain ⟨d, n, sl, ho⟩ := tup_obj ht'
  refine subscriptTail_ops (s := { s with heap := s.heap.push { cls := .type "slice", data := .fields #[.none, .int 1 u, .none] } }) ht'.typeIs slot_tuple_getitem.lookup
    (getItem_slice ht' (tuple_to_whole t _ v n u d sl) ⟨ho, Heap.get?_push_size _ rfl, h _ (Fm.push _) (N.grown fun _ _ e => Heap.get?_push_of_some _ e)⟩) hs hg
theorem sliceOne {value slice : PySem.Expr} {v v2 : Value} {r : List Value} (Fm : Fr h₀ L s.heap m) (N : News h₀ L s.heap news) (ht : IsTup s.heap t (v :: v2 :: r).toArray)
    (h : ∀ D h', Fr h₀ L h' m → News h₀ L h' ((D, { cls := .type "tuple", data := .seq #[v] }) :: news) → (∀ p ∈ news, p.1 < D) → Q (.ref D) { s with heap := h' })
    (hs : subscripted slice false (.ref t) (.ref s.heap.objs.size) = operate [.ref s.heap.objs.size, .ref t] (getItem (.ref t) (.ref s.heap.objs.size)) := by with_unfolding_all rfl)
    (hg : ∀ r, letTemporaryGo value (.ref t) r = pure () := by intro _; with_unfolding_all rfl) :
    wpAny (model prog w) A (subscriptTail value slice (.ref t) (.ref s.heap.objs.size)) Q E { s with heap := s.heap.push { cls := .type "slice", data := .fields #[.none, .int 1 u, .none] } } := by
  have up : ∀ b o, s.heap.get? b = some o → (s.heap.push { cls := .type "slice", data := .fields #[.none, .int 1 u, .none] }).get? b = some o := fun _ _ e => Heap.get?_push_of_some _ e
  have ht' : IsTup (s.heap.push { cls := .type "slice", data := .fields #[.none, .int 1 u, .none] }) t (v :: v2 :: r).toArray := ht.keeps up
  obtain ⟨d, n, sl, ho⟩ := tup_obj ht'
  have F1 : Fr h₀ L (s.heap.push { cls := .type "slice", data := .fields #[.none, .int 1 u, .none] }) m := Fm.push _
  have N1 : News h₀ L (s.heap.push { cls := .type "slice", data := .fields #[.none, .int 1 u, .none] }) news := N.grown up
  refine subscriptTail_ops (s := { s with heap := s.heap.push { cls := .type "slice", data := .fields #[.none, .int 1 u, .none] } }) ht'.typeIs slot_tuple_getitem.lookup
    (getItem_slice ht' (tuple_to_one t _ v v2 r n u d sl) ⟨ho, Heap.get?_push_size _ rfl, h _ _ (F1.push _) (N1.push F1 _) fun p hp => Heap.lt_size (N1 p hp).1⟩) hs hg
end
end Mine

end
section
-- part C2
open PySem PySem.W PyProof.Rows
set_option Elab.async false
set_option rowWalk.seconds 0
namespace Mine
local macro_rules | `(tactic| walk_at "compareOp In int ref") => `(tactic| (k_here; (with_reducible show wpAny _ _ (compareOp CmpOp.In (Value.int _ _) (Value.ref 78)) _ _ _); k_dflt (refine' inTab ?k1 ?k2 ?_; (case k1 => k_asm); (case k2 => k_asm)); (try dsimp only)))
local macro_rules | `(tactic| walk_at "subscriptTail Name Name ref int") => `(tactic| (k_here; (with_reducible show wpAny _ _ (subscriptTail _ _ (Value.ref 78) (Value.int _ _)) _ _ _); k_dflt (refine' itemTab ?k1 ?k2 ?k3 ?_ ?_ ?_ ?_ ?_; (case k1 => k_asm); (case k2 => k_asm); (case k3 => first | exact KindIn.out (by assumption) | omega | ((simp only [decide_eq_true_eq] at *); omega))); all_goals (intro e9; (try dsimp only))))
local macro_rules | `(tactic| walk_at "subscriptTail Name Constant ref int") => `(tactic| (k_here; (with_reducible show wpAny _ _ (subscriptTail _ _ (Value.ref _) (Value.int _ _)) _ _ _); (with_unfolding_all refine' itemLit ?k1 ?k2 ?k3 ?k4 ?_ ?k6; (case k1 => is_list); (case k2 => decide); (case k3 => decide); (case k4 => rfl); (case k6 => with_unfolding_all rfl); k_whole)))
theorem icons {vs : List Value} {a : Int} {r : List Int} (h : IntsAre vs (a :: r)) : ∃ t vs', vs = .int a t :: vs' ∧ IntsAre vs' r := by
  cases h with
  | cons _ t h => exact ⟨t, _, rfl, h⟩
theorem inil {vs : List Value} (h : IntsAre vs []) : vs = [] := by
  cases h; rfl
theorem ints1 {ys : List Value} {f : Int → Int} (h : IntsAre ys (List.map f (rangeKs 0 (1 - 0 : Int).toNat))) : ∃ t0, ys = [Value.int (f 0) t0] := by
  obtain ⟨t0, y0, e0, h0⟩ := icons (a := f 0) (r := []) h
  subst e0; cases inil h0
  exact ⟨_, rfl⟩
theorem ints2 {ys : List Value} {f : Int → Int} (h : IntsAre ys (List.map f (rangeKs 0 (2 - 0 : Int).toNat))) : ∃ t0 t1, ys = [Value.int (f 0) t0, Value.int (f 1) t1] := by
  obtain ⟨t0, y0, e0, h0⟩ := icons (a := f 0) (r := [f 1]) h
  obtain ⟨t1, y1, e1, h1⟩ := icons h0
  subst e0; subst e1; cases inil h1
  exact ⟨_, _, rfl⟩
theorem ints3 {ys : List Value} {f : Int → Int} (h : IntsAre ys (List.map f (rangeKs 0 (3 - 0 : Int).toNat))) : ∃ t0 t1 t2, ys = [Value.int (f 0) t0, Value.int (f 1) t1, Value.int (f 2) t2] := by
  obtain ⟨t0, y0, e0, h0⟩ := icons (a := f 0) (r := [f 1, f 2]) h
  obtain ⟨t1, y1, e1, h1⟩ := icons h0
  obtain ⟨t2, y2, e2, h2⟩ := icons h1
  subst e0; subst e1; subst e2; cases inil h2
  exact ⟨_, _, _, rfl⟩
theorem ints4 {ys : List Value} {f : Int → Int} (h : IntsAre ys (List.map f (rangeKs 0 (4 - 0 : Int).toNat))) : ∃ t0 t1 t2 t3, ys = [Value.int (f 0) t0, Value.int (f 1) t1, Value.int (f 2) t2, Value.int (f 3) t3] := by
  obtain ⟨t0, y0, e0, h0⟩ := icons (a := f 0) (r := [f 1, f 2, f 3]) h
  obtain ⟨t1, y1, e1, h1⟩ := icons h0
  obtain ⟨t2, y2, e2, h2⟩ := icons h1
  obtain ⟨t3, y3, e3, h3⟩ := icons h2
  subst e0; subst e1; subst e2; subst e3; cases inil h3
  exact ⟨_, _, _, _, rfl⟩
theorem depth_in (x : Int) : 1 ≤ 1 + x.fmod 16 ∧ 1 + x.fmod 16 ≤ 16 := by
  have h1 : 0 ≤ x.fmod 16 := Int.fmod_nonneg_of_pos x (by decide)
  have h2 : x.fmod 16 < 16 := Int.fmod_lt_of_pos x (by decide)
  omega
theorem c_end {h₀ h' : Heap} {L : Addr} {s : Shared} {n : Int} {mm : Str → Option Value} {x1 x2 x3 x4 : Addr × Obj} {tk : Nat} {Q : Flow → Shared → Prop} {D : Addr} {dvs : List Value} {ds : List Int} {nd : Nat} {o3' : Obj}
    (hQ : ∀ h' tk (D : Addr) (nd : Nat) (dvs : List Value) (ds : List Int) o3', IntsAre dvs ds → (ds.length : Int) = n → (∀ d ∈ ds, 1 ≤ d ∧ d ≤ 16) → Fr h₀ L h' mm → News h₀ L h' [(D, { cls := .type "tuple", data := .seq dvs.toArray nd }), x1, x2, (L + 1 + 1 + 1, o3'), x3, x4] → o3'.data = .cell (some (.ref D)) → Q .next { s with heap := h', toks := tk })
    (F : Fr h₀ L h' mm) (N : News h₀ L h' [(D, { cls := .type "tuple", data := .seq dvs.toArray nd }), x1, x2, (L + 1 + 1 + 1, o3'), x3, x4]) (c : o3'.data = .cell (some (.ref D)))
    (hi : IntsAre dvs ds) (hl : (ds.length : Int) = n) (hr : ∀ d ∈ ds, 1 ≤ d ∧ d ≤ 16) : Q .next { s with heap := h', toks := tk } := hQ _ _ _ _ _ _ _ hi hl hr F N c
local macro_rules | `(tactic| walk_at "call type:tuple") => `(tactic| (k_here; (with_reducible show wpAny _ _ (call (Value.type _) [Value.ref _]) _ _ _); (rename IntsAre _ (List.map _ _) => i9); k_dflt (first | (obtain ⟨t10, e9⟩ := ints1 i9) | (obtain ⟨t10, t11, e9⟩ := ints2 i9) | (obtain ⟨t10, t11, t12, e9⟩ := ints3 i9) | (obtain ⟨t10, t11, t12, t13, e9⟩ := ints4 i9)); subst e9; (try dsimp only); k_dflt (refine' kde_tupleOf ?k1 ?k2 ?k3 ?k4 ?k5 ?_; (case k1 => k_asm); (case k2 => k_asm); (case k3 => exact News.isList (by k_asm) (by k_mem)); (case k4 => exact Nat.le_of_ble_eq_true rfl); (case k5 => exact rfl); k_whole); intro D' h' F' N' l1; (try k_lt l1); (try k_sweep)))
local macro_rules | `(tactic| walk_at "subscriptTail Name Slice ref ref") => `(tactic| (k_here; (with_reducible show wpAny _ _ (subscriptTail _ (PySem.Expr.Slice none (some _) none _) (Value.ref _) (Value.ref _)) _ _ _); k_dflt (refine' sliceWhole ?F ?N ?l ?_ ?s ?t; (case F => k_asm); (case N => k_asm); (case l => exact News.isTup (by k_asm) (by k_mem)); (case s => rfl); (case t => kmk_pure)); intro h' F' N'; (try k_sweep)))
local macro_rules | `(tactic| walk_at "subscriptTail Name Slice ref ref") => `(tactic| (k_here; (with_reducible show wpAny _ _ (subscriptTail _ (PySem.Expr.Slice none (some _) none _) (Value.ref _) (Value.ref _)) _ _ _); k_dflt (refine' sliceOne ?F ?N ?l ?_ ?s ?t; (case F => k_asm); (case N => k_asm); (case l => exact News.isTup (by k_asm) (by k_mem)); (case s => rfl); (case t => kmk_pure)); intro D' h' F' N' l1; (try k_lt l1); (try k_sweep)))
local macro_rules | `(tactic| walk_at "binaryOp Mult ref int") => `(tactic| (k_here; (with_reducible show wpAny _ _ (binaryOp Operator.Mult (Value.ref _) (Value.int _ _)) _ _ _); k_dflt (refine' mulMore ?F ?N ?l ?x ?_; (case F => k_asm); (case N => k_asm); (case l => exact News.isTup (by k_asm) (by k_mem)); (case x => omega)); intro D' h' F' N' l1; (try k_lt l1); (try k_sweep)))
local macro_rules | `(tactic| walk_at "binaryOp Mult ref int") => `(tactic| (k_here; (with_reducible show wpAny _ _ (binaryOp Operator.Mult (Value.ref _) (Value.int _ _)) _ _ _); k_dflt (refine' mulOne ?l ?x ?_; (case l => exact News.isTup (by k_asm) (by k_mem)); (case x => omega))))
set_option maxRecDepth 100000 in
set_option maxHeartbeats 8000000 in
theorem segC {w : World} {mean : ExcName → Option Value} {mg mb : Str → Option Value} {h₀ : Heap} {L fa : Addr} {cd : Value} {m : Str → Option Value} {s : Shared} {Q : Flow → Shared → Prop} {E : Value → Shared → Prop} {Fd nf : Nat} {a0 a1 a2 a3 a4 a5 a6 a7 a8 : Int} {t0 t1 t2 t3 t4 t5 t6 t7 t8 : Tok} {o1 o2 o3 o4 : Obj} {v2 v3 v4 : Option Value} {n : Int} {tn : Tok} {al g : Bool} {u : Str → Option Value}
    (K0 : Below callerA h₀ [] h₀) (KX : (hd.heap_39 w.params).In h₀) (T : Top hd.view_39 (looseW hd.view_39 [Str.ofString "_law_table"]) mean mg mb h₀)
    (F : Fr h₀ L s.heap (fun y => if y = Str.ofString "many" then some (.int n tn) else if y = Str.ofString "alpha" then some (.bool al) else if y = Str.ofString "grey" then some (.bool g) else u y))
    (N : News h₀ L s.heap [(Fd, W.listOf [Value.int a0 t0, Value.int a1 t1, Value.int a2 t2, Value.int a3 t3, Value.int a4 t4, Value.int a5 t5, Value.int a6 t6, Value.int a7 t7, Value.int a8 t8].toArray nf), (L + 1 + 1 + 1 + 1, o4), (L + 1 + 1 + 1, o3), (L + 1 + 1, o2), (L + 1, o1)])
    (c1 : o1.data = .cell (some (.ref Fd))) (c2 : o2.data = .cell v2) (c3 : o3.data = .cell v3) (c4 : o4.data = .cell v4)
    (hn : n = 1 ∨ n = 2 ∨ n = 3 ∨ n = 4)
    (hQ : ∀ h' tk (D : Addr) (nd : Nat) (dvs : List Value) (ds : List Int) o3', IntsAre dvs ds → (ds.length : Int) = n → (∀ d ∈ ds, 1 ≤ d ∧ d ≤ 16) → Fr h₀ L h' (fun y => if y = Str.ofString "many" then some (.int n tn) else if y = Str.ofString "alpha" then some (.bool al) else if y = Str.ofString "grey" then some (.bool g) else u y) →
      News h₀ L h' [(D, { cls := .type "tuple", data := .seq dvs.toArray nd }), (Fd, W.listOf [Value.int a0 t0, Value.int a1 t1, Value.int a2 t2, Value.int a3 t3, Value.int a4 t4, Value.int a5 t5, Value.int a6 t6, Value.int a7 t7, Value.int a8 t8].toArray nf), (L + 1 + 1 + 1 + 1, o4), (L + 1 + 1 + 1, o3'), (L + 1 + 1, o2), (L + 1, o1)] → o3'.data = .cell (some (.ref D)) → Q .next { s with heap := h', toks := tk }) :
    wpAny (model PySem.Challenge.rw_ax6024_01.row.prog w) (callerA.deeper (lawEnv L fa cd)) (execs (seg 3 2) (lawEnv L fa cd)) Q E s := by
  dsimp only [seg, elseSeg, elseBody, thenBody, lawBody, lawEnv, lawScope, PySem.Challenge.pw_ax6024_01, List.drop, List.take]
  revert KX
  k_fill
  intro KX
  w_on
  have ap := list_apart N (by exact rfl) c1 c2 c3 c4 (.head _) (.tail _ (.tail _ (.tail _ (.tail _ (.head _))))) (.tail _ (.tail _ (.tail _ (.head _)))) (.tail _ (.tail _ (.head _))) (.tail _ (.head _))
  rcases hn with rfl | rfl | rfl | rfl
  all_goals (w_strict k_steps)
  all_goals (refine c_end hQ (by k_asm) (cb_drop (by k_asm) (by kcj_all)) (by assumption) (by first | exact .cons _ _ .nil | exact .cons _ _ (.cons _ _ .nil) | exact .cons _ _ (.cons _ _ (.cons _ _ .nil)) | exact .cons _ _ (.cons _ _ (.cons _ _ (.cons _ _ .nil)))) (by rfl) ?_)
  all_goals (repeat' (first | exact List.forall_mem_nil _ | refine List.forall_mem_cons.mpr ⟨depth_in _, ?_⟩))
end Mine

end
section
-- part DL
open PySem PySem.W PyProof.Rows
set_option Elab.async false
set_option rowWalk.seconds 0
namespace Mine
/-- the depths that the table has for a kind -/
def tabList (k : Int) : List Int := if k = 0 then [1, 2, 4, 8, 16] else if k = 3 then [1, 2, 4, 8] else [8, 16]
noncomputable abbrev letFold (k : Int) : List Int := List.foldl (fun l' k' => if lets k' k = true then l' ++ [k'] else if lets k' k = false then l' else l') [] (rangeKs 1 (17 - 1 : Int).toNat)
theorem fold0 : letFold 0 = [1, 2, 4, 8, 16] := by decide +kernel
theorem fold2 : letFold 2 = [8, 16] := by decide +kernel
theorem fold3 : letFold 3 = [1, 2, 4, 8] := by decide +kernel
theorem fold4 : letFold 4 = [8, 16] := by decide +kernel
theorem fold6 : letFold 6 = [8, 16] := by decide +kernel
section
variable {ys : List Value} {k : Int}
theorem ask0 (h : IntsAre ys (letFold k)) (e : k = 0) : IntsAre ys [1, 2, 4, 8, 16] := by subst e; rw [fold0] at h; exact h
theorem ask2 (h : IntsAre ys (letFold k)) (e : k = 2) : IntsAre ys [8, 16] := by subst e; rw [fold2] at h; exact h
theorem ask3 (h : IntsAre ys (letFold k)) (e : k = 3) : IntsAre ys [1, 2, 4, 8] := by subst e; rw [fold3] at h; exact h
theorem ask4 (h : IntsAre ys (letFold k)) (e : k = 4) : IntsAre ys [8, 16] := by subst e; rw [fold4] at h; exact h
theorem ask6 (h : IntsAre ys (letFold k)) (e : k = 6) : IntsAre ys [8, 16] := by subst e; rw [fold6] at h; exact h
theorem tab0 (h : IntsAre ys [1, 2, 4, 8, 16]) (e : k = 0) : IntsAre ys (tabList k) := by subst e; exact h
theorem tab2 (h : IntsAre ys [8, 16]) (e : k = 2) : IntsAre ys (tabList k) := by subst e; exact h
theorem tab3 (h : IntsAre ys [1, 2, 4, 8]) (e : k = 3) : IntsAre ys (tabList k) := by subst e; exact h
theorem tab4 (h : IntsAre ys [8, 16]) (e : k = 4) : IntsAre ys (tabList k) := by subst e; exact h
theorem tab6 (h : IntsAre ys [8, 16]) (e : k = 6) : IntsAre ys (tabList k) := by subst e; exact h
end
section
variable {h : Heap} {p : Params}
theorem top79 (X : (hd.heap_39 p).In h) : ∃ zs : List Value, h.IsList 79 zs.toArray ∧ IntsAre zs [1, 2, 4, 8, 16] :=
  ⟨[.int 1 271, .int 2 272, .int 4 273, .int 8 274, .int 16 275], ⟨_, X 79 { cls := .type "list", data := .seq #[.int 1 271, .int 2 272, .int 4 273, .int 8 274, .int 16 275] 0 } rfl, rfl, 0, rfl⟩, .cons _ _ (.cons _ _ (.cons _ _ (.cons _ _ (.cons _ _ .nil))))⟩
theorem top80 (X : (hd.heap_39 p).In h) : ∃ zs : List Value, h.IsList 80 zs.toArray ∧ IntsAre zs [8, 16] :=
  ⟨[.int 8 277, .int 16 278], ⟨_, X 80 { cls := .type "list", data := .seq #[.int 8 277, .int 16 278] 0 } rfl, rfl, 0, rfl⟩, .cons _ _ (.cons _ _ .nil)⟩
theorem top81 (X : (hd.heap_39 p).In h) : ∃ zs : List Value, h.IsList 81 zs.toArray ∧ IntsAre zs [1, 2, 4, 8] :=
  ⟨[.int 1 280, .int 2 281, .int 4 282, .int 8 283], ⟨_, X 81 { cls := .type "list", data := .seq #[.int 1 280, .int 2 281, .int 4 282, .int 8 283] 0 } rfl, rfl, 0, rfl⟩, .cons _ _ (.cons _ _ (.cons _ _ (.cons _ _ .nil)))⟩
theorem top82 (X : (hd.heap_39 p).In h) : ∃ zs : List Value, h.IsList 82 zs.toArray ∧ IntsAre zs [8, 16] :=
  ⟨[.int 8 285, .int 16 286], ⟨_, X 82 { cls := .type "list", data := .seq #[.int 8 285, .int 16 286] 0 } rfl, rfl, 0, rfl⟩, .cons _ _ (.cons _ _ .nil)⟩
theorem top83 (X : (hd.heap_39 p).In h) : ∃ zs : List Value, h.IsList 83 zs.toArray ∧ IntsAre zs [8, 16] :=
  ⟨[.int 8 288, .int 16 289], ⟨_, X 83 { cls := .type "list", data := .seq #[.int 8 288, .int 16 289] 0 } rfl, rfl, 0, rfl⟩, .cons _ _ (.cons _ _ .nil)⟩
end
theorem neTop {prog : Program} {w : World} {A : Around} {E : Value → Shared → Prop} {s : Shared} {h₀ : Heap} {L a b : Addr} {m : Str → Option Value} {ys : List Value} {ms : List Int} {Q : Value → Shared → Prop} (F : Fr h₀ L s.heap m) (ha : s.heap.IsList a ys.toArray) (hi : IntsAre ys ms)
    (hb : ∃ zs : List Value, h₀.IsList b zs.toArray ∧ IntsAre zs ms) (hu : A.units + 64 < cLine) (h : Q (.bool false) s) : wpAny (model prog w) A (compareOp .NotEq (.ref a) (.ref b)) Q E s := by
  obtain ⟨zs, ⟨o, ho, r⟩, hj⟩ := hb
  exact ke_ne_ints ha ⟨o, F.keep _ _ ho, r⟩ hi hj hu (by simpa using h)
end Mine

end
section
-- part D2
open PySem PySem.W PyProof.Rows
set_option Elab.async false
set_option rowWalk.seconds 0
namespace Mine
local macro_rules | `(tactic| walk_at "call ref") => `(tactic| (k_here; (with_reducible show wpAny _ (Around.deeper callerA _) (call (Value.ref 95) _) _ _ _); k_dflt (refine' letsC ?k1 ?k2 ?k3 ?k4 ?k5 ?b1 ?b2 ?b3 ?b4 ?_; (case k4 => k_asm); (case k5 => k_asm); (case k1 => k_asm); (case k2 => k_asm); (case k3 => k_asm); (case b1 => first | omega | exact fmod_lo _ (by decide)); (case b2 => first | omega | exact Int.le_trans (Int.le_sub_one_of_lt (fmod_hi _ (by decide))) (by decide)); (case b3 => first | omega | exact fmod_lo _ (by decide)); (case b4 => first | omega | exact Int.le_trans (Int.le_sub_one_of_lt (fmod_hi _ (by decide))) (by decide))); intro h' tk' F' N'; (try dsimp only)))
local macro_rules | `(tactic| walk_at "compareOp In int ref") => `(tactic| (k_here; (with_reducible show wpAny _ _ (compareOp CmpOp.In (Value.int _ _) (Value.ref 78)) _ _ _); k_dflt (refine' inTab ?k1 ?k2 ?_; (case k1 => k_asm); (case k2 => k_asm)); (try dsimp only)))
local macro_rules | `(tactic| walk_at "subscriptTail Name Name ref int") => `(tactic| (k_here; (with_reducible show wpAny _ _ (subscriptTail _ _ (Value.ref 78) (Value.int _ _)) _ _ _); k_dflt (refine' itemTab ?k1 ?k2 ?k3 ?_ ?_ ?_ ?_ ?_; (case k1 => k_asm); (case k2 => k_asm); (case k3 => first | exact KindIn.out (by assumption) | omega | ((simp only [decide_eq_true_eq] at *); omega))); all_goals (intro e9; (try dsimp only))))
local macro_rules | `(tactic| walk_at "subscriptTail Name Constant ref int") => `(tactic| (k_here; (with_reducible show wpAny _ _ (subscriptTail _ _ (Value.ref _) (Value.int _ _)) _ _ _); (with_unfolding_all refine' itemLit ?k1 ?k2 ?k3 ?k4 ?_ ?k6; (case k1 => is_list); (case k2 => decide); (case k3 => decide); (case k4 => rfl); (case k6 => with_unfolding_all rfl); k_whole)))
local macro_rules | `(tactic| walk_at "compareOp NotEq ref ref") => `(tactic| (k_here; (with_reducible show wpAny _ _ (compareOp CmpOp.NotEq (Value.ref _) (Value.ref _)) _ _ _); (rename IntsAre _ (List.foldl _ _ _) => i9); k_dflt (first | ((have j9 := ask0 i9 (by assumption)); (refine neTop (b := 79) (by k_asm) (by is_list) j9 (top79 (by k_asm)) (by ke_room) ?_); (have q9 := tab0 j9 (by assumption))) | ((have j9 := ask2 i9 (by assumption)); (refine neTop (b := 80) (by k_asm) (by is_list) j9 (top80 (by k_asm)) (by ke_room) ?_); (have q9 := tab2 j9 (by assumption))) | ((have j9 := ask3 i9 (by assumption)); (refine neTop (b := 81) (by k_asm) (by is_list) j9 (top81 (by k_asm)) (by ke_room) ?_); (have q9 := tab3 j9 (by assumption))) | ((have j9 := ask4 i9 (by assumption)); (refine neTop (b := 82) (by k_asm) (by is_list) j9 (top82 (by k_asm)) (by ke_room) ?_); (have q9 := tab4 j9 (by assumption))) | ((have j9 := ask6 i9 (by assumption)); (refine neTop (b := 83) (by k_asm) (by is_list) j9 (top83 (by k_asm)) (by ke_room) ?_); (have q9 := tab6 j9 (by assumption))))))
set_option maxRecDepth 100000 in
set_option maxHeartbeats 4000000 in
theorem segD {w : World} {mean : ExcName → Option Value} {mg mb : Str → Option Value} {h₀ : Heap} {L fa : Addr} {cd : Value} {m : Str → Option Value} {s : Shared} {Q : Flow → Shared → Prop} {E : Value → Shared → Prop} {Fd nf : Nat} {a0 a1 a2 a3 a4 a5 a6 a7 a8 : Int} {t0 t1 t2 t3 t4 t5 t6 t7 t8 : Tok} {o1 o2 o3 o4 od : Obj} {k : Int} {tk9 : Tok} {al g : Bool} {u : Str → Option Value} {D : Addr}
    (K0 : Below callerA h₀ [] h₀) (KX : (hd.heap_39 w.params).In h₀) (T : Top hd.view_39 (looseW hd.view_39 [Str.ofString "_law_table"]) mean mg mb h₀)
    (F : Fr h₀ L s.heap (fun y => if y = Str.ofString "alpha" then some (.bool al) else if y = Str.ofString "grey" then some (.bool g) else u y))
    (N : News h₀ L s.heap [(D, od), (Fd, W.listOf [Value.int a0 t0, Value.int a1 t1, Value.int a2 t2, Value.int a3 t3, Value.int a4 t4, Value.int a5 t5, Value.int a6 t6, Value.int a7 t7, Value.int a8 t8].toArray nf), (L + 1 + 1 + 1 + 1, o4), (L + 1 + 1 + 1, o3), (L + 1 + 1, o2), (L + 1, o1)])
    (c2 : o2.data = .cell (some (.int k tk9)))
    (hk : KindIn k) (hk0 : 0 ≤ k) (hk8 : k ≤ 8)
    (hQ : ∀ h' tk (Ld : Addr) (ys : List Value) (u : Str → Option Value), IntsAre ys (tabList k) → Fr h₀ L h' (fun y => if y = Str.ofString "lets" then some (.ref Ld) else if y = Str.ofString "alpha" then some (.bool al) else if y = Str.ofString "grey" then some (.bool g) else u y) →
      News h₀ L h' [(Ld, LCg.lst ys), (D, od), (Fd, W.listOf [Value.int a0 t0, Value.int a1 t1, Value.int a2 t2, Value.int a3 t3, Value.int a4 t4, Value.int a5 t5, Value.int a6 t6, Value.int a7 t7, Value.int a8 t8].toArray nf), (L + 1 + 1 + 1 + 1, o4), (L + 1 + 1 + 1, o3), (L + 1 + 1, o2), (L + 1, o1)] → Q .next { s with heap := h', toks := tk }) :
    wpAny (model PySem.Challenge.rw_ax6024_01.row.prog w) (callerA.deeper (lawEnv L fa cd)) (execs (seg 5 2) (lawEnv L fa cd)) Q E s := by
  dsimp only [seg, elseSeg, elseBody, thenBody, lawBody, lawEnv, lawScope, PySem.Challenge.pw_ax6024_01, List.drop, List.take]
  revert KX
  k_fill
  intro KX
  w_on
  w_strict k_steps
  all_goals (refine hQ _ _ _ _ _ (by assumption) (fr3 (by k_asm) rfl rfl rfl) (by k_asm))
end Mine

end
section
-- part MX
open PySem PySem.W PyProof.Rows PySem.Spec PySem.Calls
set_option Elab.async false
set_option maxRecDepth 100000
namespace Mine
section
variable {prog : Program} {w : World} {A : Around} {E : Value → Shared → Prop} {s : Shared} {h₀ : Heap} {L l : Addr} {m : Str → Option Value} {news : List (Addr × Obj)} {vs : List Value} {ns : List Int} {Q : Value → Shared → Prop}
theorem tup_of {h : Heap} {its : Array Value} (ht : IsTup h l its) : h.IsTuple l its := let ⟨o, ho, hc, n, hd⟩ := ht; ⟨o, ho, hc, n, hd⟩
/-- max of a tuple of ints -/
theorem maxTup (hh : A.handled = none) (Fm : Fr h₀ L s.heap m) (N : News h₀ L s.heap news) (ht : IsTup s.heap l vs.toArray) (hi : IntsAre vs ns) (hne : 0 < ns.length)
    (h : ∀ h' M (t : Tok) tk, Fr h₀ L h' m → News h₀ L h' news → M ∈ ns → (∀ a, a ∈ ns → a ≤ M) → Q (.int M t) { s with heap := h', toks := tk }) :
    wpAny (model prog w) A (call (.builtin "max") [.ref l]) Q E s := by
  obtain ⟨xs, e⟩ := hi.allInts.items
  have hns : ns = xs.toList.map (·.1) := by
    rw [← hi.numsOf, ← nums_intItems, ← e]
  have hsz : 0 < xs.size := by
    have h3 := hne; rw [hns, List.length_map, Array.length_toList] at h3; exact h3
  rw [e] at ht
  have hT := tup_of ht
  have hlt : l < s.heap.objs.size := by obtain ⟨o, ho, _⟩ := hT; exact Heap.lt_size ho
  refine call_max_walk (wpAny_pyIter_tuple hT ?_)
  refine ⟨_, _, _, _, _, _, _, rfl, Walks.tuple (A := A.in1) hh s.heap.objs.size l (Nat.ne_of_lt hlt) (intItems xs), ⟨⟨_, Heap.get?_push_size _ rfl, rfl, rfl⟩, hT.push _⟩, fun c hc => ?_, by simpa [intItems] using hsz, CmpOf.ints_gt (numAt xs) (fun _ _ => intItems_at), fun v h' tk hP hk => ?_⟩
  · show c < (s.heap.push _).objs.size
    rw [Heap.size_push]
    simp only [List.mem_cons, List.not_mem_nil, or_false] at hc
    rcases hc with rfl | rfl
    · exact Nat.lt_succ_self _
    · exact Nat.lt_succ_of_lt hlt
  · have hold : ∀ c o, s.heap.get? c = some o → h'.get? c = some o := fun c o q => by
      refine hk c o (fun hm => ?_) (Heap.get?_push_of_some _ q)
      rw [List.mem_singleton.mp hm] at q
      exact absurd (Heap.lt_size q) (Nat.lt_irrefl _)
    have hv : (intItems xs)[argBest (fun i j => decide (numAt xs i > numAt xs j)) (xs.size - 1)]? = some v := by simpa [intItems] using hP
    obtain ⟨t, rfl⟩ := intItems_at hv
    obtain ⟨h1, h2⟩ := argBest_gt (numAt xs) (xs.size - 1)
    refine h _ _ t tk (Fm.keeps hold) (N.grown hold) ?_ fun a ha => ?_
    · rw [hns, numAt_eq]; exact getD_mem (by rw [List.length_map, Array.length_toList]; omega)
    · rw [hns] at ha
      obtain ⟨j, hj, rfl⟩ := mem_getD ha
      rw [List.length_map, Array.length_toList] at hj
      rw [← numAt_eq]; exact h2 j (by omega)
/-- the greatest of ints that are not below nought -/
def maxOf (ns : List Int) : Int := ns.foldr max 0
theorem maxOf_ge : ∀ {ns : List Int} {a : Int}, a ∈ ns → a ≤ maxOf ns
  | n :: r, a, h => by
    have e : maxOf (n :: r) = max n (maxOf r) := rfl
    rcases List.mem_cons.mp h with rfl | h
    · rw [e]; omega
    · have := maxOf_ge h; rw [e]; omega
theorem maxOf_le : ∀ {ns : List Int} {M : Int}, 0 ≤ M → (∀ a ∈ ns, a ≤ M) → maxOf ns ≤ M
  | [], M, h0, _ => h0
  | n :: r, M, h0, h => by
    have e : maxOf (n :: r) = max n (maxOf r) := rfl
    have h1 := h n (List.mem_cons_self ..)
    have h2 := maxOf_le (ns := r) h0 fun a ha => h a (List.mem_cons_of_mem _ ha)
    rw [e]; omega
theorem maxCan (hh : A.handled = none) (Fm : Fr h₀ L s.heap m) (N : News h₀ L s.heap news) (ht : IsTup s.heap l vs.toArray) (hi : IntsAre vs ns) (hne : 0 < ns.length) (hp : ∀ d ∈ ns, 0 ≤ d)
    (h : ∀ h' (t : Tok) tk, Fr h₀ L h' m → News h₀ L h' news → Q (.int (maxOf ns) t) { s with heap := h', toks := tk }) :
    wpAny (model prog w) A (call (.builtin "max") [.ref l]) Q E s :=
  maxTup hh Fm N ht hi hne fun h' M t' tk F' N' hm hM => by
    have e : M = maxOf ns := Int.le_antisymm (maxOf_ge hm) (maxOf_le (hp M hm) hM)
    rw [e]
    exact h h' t' tk F' N'
/-- the least of lt that is no less than any of ds -/
def LeastOf (lt ds : List Int) (t : Int) : Prop := t ∈ lt ∧ maxOf ds ≤ t ∧ ∀ x ∈ lt, maxOf ds ≤ x → t ≤ x
theorem fold_keep (M : Int) : ∀ (lt acc : List Int), List.foldl (fun l' k' => if M ≤ k' then l' ++ [k'] else l') acc lt = acc ++ lt.filter (fun k => decide (M ≤ k))
  | [], acc => by simp
  | a :: r, acc => by
    rw [List.foldl_cons, fold_keep M r, List.filter_cons]
    by_cases h : M ≤ a
    · simp [h]
    · simp [h]
theorem minLeast {lt ds : List Int} (hh : A.handled = none) (Fm : Fr h₀ L s.heap m) (N : News h₀ L s.heap news) (hl : s.heap.IsList l vs.toArray) (hi : IntsAre vs (List.foldl (fun l' k' => if maxOf ds ≤ k' then l' ++ [k'] else l') [] lt))
    (hex : ∃ x ∈ lt, maxOf ds ≤ x)
    (h : ∀ h' t (tt : Tok) tk, Fr h₀ L h' m → News h₀ L h' news → LeastOf lt ds t → Q (.int t tt) { s with heap := h', toks := tk }) :
    wpAny (model prog w) A (call (.builtin "min") [.ref l]) Q E s := by
  rw [fold_keep, List.nil_append] at hi
  obtain ⟨x, hx, hm⟩ := hex
  have hxm : x ∈ lt.filter (fun k => decide (maxOf ds ≤ k)) := List.mem_filter.mpr ⟨hx, by simpa using hm⟩
  refine kso_min Fm N hl hi (List.length_pos_of_mem hxm) hh fun h' M t tk F' N' hM hle => h h' M t tk F' N' ⟨(List.mem_filter.mp hM).1, by simpa using (List.mem_filter.mp hM).2, fun y hy hmy => hle y (List.mem_filter.mpr ⟨hy, by simpa using hmy⟩)⟩
theorem maxOne {d : Int} {t : Tok} (hh : A.handled = none) (Fm : Fr h₀ L s.heap m) (N : News h₀ L s.heap news) (ht : IsTup s.heap l [Value.int d t].toArray)
    (h : ∀ h' (t : Tok) tk, Fr h₀ L h' m → News h₀ L h' news → Q (.int d t) { s with heap := h', toks := tk }) :
    wpAny (model prog w) A (call (.builtin "max") [.ref l]) Q E s :=
  maxTup hh Fm N ht (.cons d t .nil) (by simp) fun h' M t' tk F' N' hm _ => by
    rw [List.mem_singleton.mp hm]
    exact h h' t' tk F' N'
end
end Mine

end
section
-- part E2
open PySem PySem.W PyProof.Rows
set_option Elab.async false
set_option rowWalk.seconds 0
namespace Mine
local macro_rules | `(tactic| walk_at "compareOp In int ref") => `(tactic| (k_here; (with_reducible show wpAny _ _ (compareOp CmpOp.In (Value.int _ _) (Value.ref 78)) _ _ _); k_dflt (refine' inTab ?k1 ?k2 ?_; (case k1 => k_asm); (case k2 => k_asm)); (try dsimp only)))
local macro_rules | `(tactic| walk_at "subscriptTail Name Name ref int") => `(tactic| (k_here; (with_reducible show wpAny _ _ (subscriptTail _ _ (Value.ref 78) (Value.int _ _)) _ _ _); k_dflt (refine' itemTab ?k1 ?k2 ?k3 ?_ ?_ ?_ ?_ ?_; (case k1 => k_asm); (case k2 => k_asm); (case k3 => first | exact KindIn.out (by assumption) | omega | ((simp only [decide_eq_true_eq] at *); omega))); all_goals (intro e9; (try dsimp only))))
local macro_rules | `(tactic| walk_at "subscriptTail Name Constant ref int") => `(tactic| (k_here; (with_reducible show wpAny _ _ (subscriptTail _ _ (Value.ref _) (Value.int _ _)) _ _ _); (with_unfolding_all refine' itemLit ?k1 ?k2 ?k3 ?k4 ?_ ?k6; (case k1 => is_list); (case k2 => decide); (case k3 => decide); (case k4 => rfl); (case k6 => with_unfolding_all rfl); k_whole)))
local macro_rules | `(tactic| walk_at "CompSrcT") => `(tactic| (k_here; k_dflt (refine LCt.CompSrcT.ledger (by rfl) (by k_asm) (by k_asm) (by k_mem) (by (simp only [List.size_toArray, PySem.sizeLine_eq]); omega) ?_); intro g'; (refine' kci_list _ (by assumption) (fun k' t' I' oI' C' oC' D' m' ys' l' h' tk' E' hk' hI' hC' hx' F' N' off' ne' => ?_) ?_ ?_); (all_goals (try ((show KPfMark → _); intro hMark'))); kcf_last))
local macro_rules | `(tactic| walk_at "CompEnd") => `(tactic| (k_dflt (refine' comp_end ?F ?N ?off ?S ?_; (case N => k_asm); (case F => k_asm); (case off => assumption); (case S => exact Or.inr ⟨_, by k_mem, rfl, _, rfl⟩))))
local macro_rules | `(tactic| k_all) => `(tactic| assumption)
local macro_rules | `(tactic| walk_at "call builtin:max") => `(tactic| (k_here; (with_reducible show wpAny _ _ (call (Value.builtin "max") [Value.ref _]) _ _ _); k_dflt (refine' maxCan ?h ?F ?N ?l ?i ?n ?p ?_; (case F => k_asm); (case N => k_asm); (case l => exact News.isTup (by k_asm) (by k_mem)); (case i => assumption); (case n => assumption); (case p => assumption); (case h => with_unfolding_all rfl)); intro h' t' k' F' N'; (try k_sweep)))
theorem lst_at {h₀ h : Heap} {L D : Addr} {news : List (Addr × Obj)} {vs : List Value} (N : News h₀ L h news) (hm : (D, LCg.lst vs) ∈ news) : h.IsList D vs.toArray := ⟨_, (N _ hm).1, rfl, _, rfl⟩
local macro_rules | `(tactic| walk_at "call builtin:min") => `(tactic| (k_here; (with_reducible show wpAny _ _ (call (Value.builtin "min") [Value.ref _]) _ _ _); (rename IntsAre _ (List.foldl _ _ _) => i9); k_dflt (refine' minLeast ?h ?F ?N ?l i9 ?x ?_; (case F => k_asm); (case N => k_asm); (case l => exact lst_at (by k_asm) (.head _)); (case x => assumption); (case h => with_unfolding_all rfl)); intro h' t9 tt' tk' F' N' l9; (try k_sweep)))
set_option maxRecDepth 100000 in
set_option maxHeartbeats 2000000 in
theorem segL {w : World} {mean : ExcName → Option Value} {mg mb : Str → Option Value} {h₀ : Heap} {L fa : Addr} {cd : Value} {m : Str → Option Value} {s : Shared} {Q : Flow → Shared → Prop} {E : Value → Shared → Prop} {o3 o4 fo : Obj} {Fd nd : Nat} {u : Str → Option Value} {D Ld : Addr} {ys dvs : List Value} {lt ds : List Int} {v4 : Option Value} {rest : List (Addr × Obj)}
    (K0 : Below callerA h₀ [] h₀) (KX : (hd.heap_39 w.params).In h₀) (T : Top hd.view_39 (looseW hd.view_39 [Str.ofString "_law_table"]) mean mg mb h₀)
    (F : Fr h₀ L s.heap (fun y => if y = Str.ofString "lets" then some (.ref Ld) else u y))
    (N : News h₀ L s.heap ((L + 1 + 1 + 1 + 1, o4) :: (Ld, LCg.lst ys) :: (D, { cls := .type "tuple", data := .seq dvs.toArray nd }) :: (L + 1 + 1 + 1, o3) :: rest)) (hrest : ∀ p ∈ rest, p.1 ≠ L + 1 + 1 + 1 + 1)
    (c3 : o3.data = .cell (some (.ref D))) (c4 : o4.data = .cell v4)
    (hyl : ys.length ≤ 5) (hys : IntsAre ys lt) (hds : IntsAre dvs ds) (hne : 0 < ds.length) (hp : ∀ d ∈ ds, 0 ≤ d)
    (hex : ∃ x ∈ lt, maxOf ds ≤ x)
    (hQ : ∀ h' tk t tt o4', LeastOf lt ds t → Fr h₀ L h' (fun y => if y = Str.ofString "lets" then some (.ref Ld) else u y) → News h₀ L h' ((L + 1 + 1 + 1 + 1, o4') :: (Ld, LCg.lst ys) :: (D, { cls := .type "tuple", data := .seq dvs.toArray nd }) :: (L + 1 + 1 + 1, o3) :: rest) → o4'.data = .cell (some (.int t tt)) → Q .next { s with heap := h', toks := tk }) :
    wpAny (model PySem.Challenge.rw_ax6024_01.row.prog w) (callerA.deeper (lawEnv L fa cd)) (execs (elseSeg 1 1) (lawEnv L fa cd)) Q E s := by
  dsimp only [seg, elseSeg, elseBody, thenBody, lawBody, lawEnv, lawScope, PySem.Challenge.pw_ax6024_01, List.drop, List.take]
  revert KX
  k_fill
  intro KX
  w_on
  have n1 : @Ne Nat (L + 1 + 1 + 1 + 1) Ld := news_ne N (.head _) (.tail _ (.head _)) (by rw [c4]; exact fun e => by cases e)
  have n2 : @Ne Nat (L + 1 + 1 + 1 + 1) D := news_ne N (.head _) (.tail _ (.tail _ (.head _))) (by rw [c4]; exact fun e => by cases e)
  w_strict k_steps
  all_goals first
    | (refine hQ _ _ _ _ _ (by assumption) (by k_asm) (cb_drop (by k_asm) (by kcj_all)) (by assumption); done)
end Mine

end
section
-- part T0
open PySem PySem.W PyProof.Rows
set_option Elab.async false
set_option rowWalk.seconds 0
namespace Mine
local macro_rules | `(tactic| walk_at "call ref") => `(tactic| (k_here; (with_reducible show wpAny _ (Around.deeper callerA _) _ _ _ _); kts_any; k_dflt (refine wpAny_call ?_; refine' enterX ?k1 ?k2 ?k3 ?k4 ?k5 ?kA ?kf ?kk ?k6 ?k7 ?k8 ?k9 ?kB ?_ ?c2 ?c3 ?c4 ?c5; (case kA => exact rfl); (case kf => exact rfl); (case kk => exact rfl); (case k2 => k_asm); (case k1 => k_asm); (case k3 => k_asm); (case k4 => k_asm); (case k5 => k_asm); (case k6 => k_is); (case k7 => k_is); (case k8 => k_room); (case k9 => first | exact binds_K (by k_in) rfl (by k_is) rfl rfl rfl | exact BindsTo.of_eq rfl); (case kB => exact locs rfl); (case c2 => exact rfl); (case c3 => exact rfl); (case c4 => exact rfl); (case c5 => decide); k_whole; intro g' L' h' FG' F' N' B' X' T' D'; (try dsimp only); (try k_lift B'); (try k_fold))))
local macro_rules | `(tactic| walk_at "compareOp In int ref") => `(tactic| (k_here; (with_reducible show wpAny _ _ (compareOp CmpOp.In (Value.int _ _) (Value.ref 78)) _ _ _); k_dflt (refine' inTab ?k1 ?k2 ?_; (case k1 => k_asm); (case k2 => k_asm)); (try dsimp only)))
local macro_rules | `(tactic| walk_at "subscriptTail Name Name ref int") => `(tactic| (k_here; (with_reducible show wpAny _ _ (subscriptTail _ _ (Value.ref 78) (Value.int _ _)) _ _ _); k_dflt (refine' itemTab ?k1 ?k2 ?k3 ?_ ?_ ?_ ?_ ?_; (case k1 => k_asm); (case k2 => k_asm); (case k3 => first | exact KindIn.out (by assumption) | omega | ((simp only [decide_eq_true_eq] at *); omega))); all_goals (intro e9; (try dsimp only))))
local macro_rules | `(tactic| walk_at "subscriptTail Name Constant ref int") => `(tactic| (k_here; (with_reducible show wpAny _ _ (subscriptTail _ _ (Value.ref _) (Value.int _ _)) _ _ _); (with_unfolding_all refine' itemLit ?k1 ?k2 ?k3 ?k4 ?_ ?k6; (case k1 => is_list); (case k2 => decide); (case k3 => decide); (case k4 => rfl); (case k6 => with_unfolding_all rfl); k_whole)))
theorem least_at {d t : Int} (h1 : 1 ≤ d) (h : (t = 1 ∨ t = 2 ∨ t = 4 ∨ t = 8 ∨ t = 16) ∧ d ≤ t ∧ (d ≤ 1 → t ≤ 1) ∧ (d ≤ 2 → t ≤ 2) ∧ (d ≤ 4 → t ≤ 4) ∧ (d ≤ 8 → t ≤ 8) ∧ t ≤ 16) : LeastOf [1, 2, 4, 8, 16] [d] t := by
  have e : maxOf [d] = d := by show max d 0 = d; omega
  refine ⟨by simp only [List.mem_cons, List.not_mem_nil, or_false]; omega, by rw [e]; omega, ?_⟩
  rw [e]
  intro x hx hm
  simp only [List.mem_cons, List.not_mem_nil, or_false] at hx
  omega
theorem any3 {d : Int} {b : Bool} (h : ([5, 6, 7].any fun x => x == d) = b) : b = decide (d = 5 ∨ d = 6 ∨ d = 7) := by
  rw [← h, Bool.eq_iff_iff, decide_eq_true_eq]; simp only [List.any_cons, List.any_nil, Bool.or_false, Bool.or_eq_true, beq_iff_eq]; omega
theorem told1 {d : Int} (h1 : 1 ≤ d) (h2 : d ≤ 16) (a : ([1, 2, 4, 8, 16].any fun x => x == d) = true) : LeastOf [1, 2, 4, 8, 16] [d] d := by
  have a := any5 a; simp only [Bool.true_eq, decide_eq_true_eq] at a
  exact least_at h1 (by omega)
theorem told2 {d : Int} (h1 : 1 ≤ d) (h2 : d ≤ 16) (a : ([1, 2, 4, 8, 16].any fun x => x == d) = false) (h : 8 < d) : LeastOf [1, 2, 4, 8, 16] [d] 16 ∧ d ≠ 16 := by
  have a := any5 a; simp only [Bool.false_eq, decide_eq_false_iff_not] at a
  exact ⟨least_at h1 (by omega), by omega⟩
theorem told3 {d : Int} (h1 : 1 ≤ d) (h : d = 3) : LeastOf [1, 2, 4, 8, 16] [d] 4 ∧ d ≠ 4 := ⟨least_at h1 (by omega), by omega⟩
theorem told4 {d : Int} (h1 : 1 ≤ d) (a : ([5, 6, 7].any fun x => x == d) = true) : LeastOf [1, 2, 4, 8, 16] [d] 8 ∧ d ≠ 8 := by
  have a := any3 a; simp only [Bool.true_eq, decide_eq_true_eq] at a
  exact ⟨least_at h1 (by omega), by omega⟩
theorem told5 {d : Int} (h1 : 1 ≤ d) (a : ([1, 2, 4, 8, 16].any fun x => x == d) = false) (b : ([5, 6, 7].any fun x => x == d) = false) (h8 : ¬ 8 < d) (h3 : ¬ d = 3) : False := by
  have a := any5 a; have b := any3 b; simp only [Bool.false_eq, decide_eq_false_iff_not] at a b
  omega
set_option maxRecDepth 100000 in
set_option maxHeartbeats 4000000 in
theorem segT0 {w : World} {mean : ExcName → Option Value} {mg mb : Str → Option Value} {h₀ : Heap} {L fa : Addr} {cd : Value} {m : Str → Option Value} {s : Shared} {Q : Flow → Shared → Prop} {E : Value → Shared → Prop} {o3 : Obj} {td : Tok} {u : Str → Option Value} {D : Addr} {nd : Nat} {d : Int} {b1 b2 b3 b4 b5 : Addr} {q1 q2 q3 q4 q5 : Obj}
    (K0 : Below callerA h₀ [] h₀) (KX : (hd.heap_39 w.params).In h₀) (T : Top hd.view_39 (looseW hd.view_39 [Str.ofString "_law_table"]) mean mg mb h₀)
    (F : Fr h₀ L s.heap (fun y => if y = Str.ofString "lets" then u y else if y = Str.ofString "alpha" then some (.bool false) else if y = Str.ofString "grey" then some (.bool true) else u y))
    (N : News h₀ L s.heap [(D, { cls := .type "tuple", data := .seq [Value.int d td].toArray nd }), (L + 1 + 1 + 1, o3), (b1, q1), (b2, q2), (b3, q3), (b4, q4), (b5, q5)])
    (c3 : o3.data = .cell (some (.ref D)))
    (hd1 : 1 ≤ d) (hd2 : d ≤ 16)
    (hA : ∀ h' tk P tt, LeastOf [1, 2, 4, 8, 16] [d] d → Fr h₀ L h' (fun y => if y = Str.ofString "told" then some (.ref P) else if y = Str.ofString "lets" then u y else if y = Str.ofString "alpha" then some (.bool false) else if y = Str.ofString "grey" then some (.bool true) else u y) → News h₀ L h' [(P, { cls := .type "tuple", data := .seq #[.int d tt, .none] }), (D, { cls := .type "tuple", data := .seq [Value.int d td].toArray nd }), (L + 1 + 1 + 1, o3), (b1, q1), (b2, q2), (b3, q3), (b4, q4), (b5, q5)] → Q .next { s with heap := h', toks := tk })
    (hB : ∀ h' tk P l q t tt t1 t2, LeastOf [1, 2, 4, 8, 16] [d] t ∧ d ≠ t → Fr h₀ L h' (fun y => if y = Str.ofString "told" then some (.ref P) else if y = Str.ofString "lets" then u y else if y = Str.ofString "alpha" then some (.bool false) else if y = Str.ofString "grey" then some (.bool true) else u y) →
      News h₀ L h' [(P, { cls := .type "tuple", data := .seq #[.int t tt, .ref l] }), (l, W.listOf #[.ref q] 0), (q, { cls := .type "tuple", data := .seq #[.int d t1, .int t t2] }), (D, { cls := .type "tuple", data := .seq [Value.int d td].toArray nd }), (L + 1 + 1 + 1, o3), (b1, q1), (b2, q2), (b3, q3), (b4, q4), (b5, q5)] → Q .next { s with heap := h', toks := tk }) :
    wpAny (model PySem.Challenge.rw_ax6024_01.row.prog w) (callerA.deeper (lawEnv L fa cd)) (execs (elseSeg 0 1) (lawEnv L fa cd)) Q E s := by
  dsimp only [seg, elseSeg, elseBody, thenBody, lawBody, lawEnv, lawScope, PySem.Challenge.pw_ax6024_01, List.drop, List.take]
  revert KX
  k_fill
  intro KX
  w_on
  w_strict k_steps
  all_goals first
    | (refine hA _ _ _ _ (told1 hd1 hd2 (by assumption)) (by k_asm) (cb_drop (by k_asm) (by kcj_all)); done)
    | (refine hB _ _ _ _ _ _ _ _ _ (told2 hd1 hd2 (by assumption) (by assumption)) (by k_asm) (cb_drop (by k_asm) (by kcj_all)); done)
    | (refine hB _ _ _ _ _ _ _ _ _ (told3 hd1 (by assumption)) (by k_asm) (cb_drop (by k_asm) (by kcj_all)); done)
    | (refine hB _ _ _ _ _ _ _ _ _ (told4 hd1 (by assumption)) (by k_asm) (cb_drop (by k_asm) (by kcj_all)); done)
    | (exfalso; exact told5 hd1 (by assumption) (by assumption) (by assumption) (by assumption))
end Mine

end
section
-- part SX1
open PySem PySem.W PyProof.Rows
set_option Elab.async false
set_option rowWalk.seconds 0
namespace Mine
/-- a table of eight places, as few small ints leave it -/
def tabOf (pl : Array Nat) (led : Bool) : SetTable := { mask := 7, place := pl, dummies := #[], finger := 0, led := led, moves := 0, plain := true }
def plOf (b : Nat) : Array Nat := ((List.range 8).filter fun i => b.testBit i).toArray
/-- the next place that a search looks at -/
def nextPl (j : Nat) : Nat := (j * 5 + 1) % 8
/-- the walk goes from place to place -/
def walkOk (pl : Array Nat) : Bool :=
  decide (SetTable.below pl 0 = 0) && (List.range pl.size).all fun i => decide (SetTable.below pl (pl.getD i 0 + 1) = i + 1)
theorem walk_all : ((List.range 256).all fun b => walkOk (plOf b)) = true := by decide +kernel
theorem slot_all : ((List.range 256).all fun b => decide (4 ≤ (plOf b).size) || ((List.range 8).all fun j => ((plOf b)[SetTable.below (plOf b) j]? == some j) == b.testBit j)) = true := by decide +kernel
def putOk (b j : Nat) : Bool := b.testBit j || (decide (SetTable.insertAt (plOf b) (SetTable.below (plOf b) j) j = plOf (b + 2 ^ j)) && decide (SetTable.below (plOf b) j ≤ (plOf b).size) && decide (b + 2 ^ j < 256) && decide ((plOf (b + 2 ^ j)).size = (plOf b).size + 1))
theorem put_all : ((List.range 256).all fun b => decide (4 ≤ (plOf b).size) || ((List.range 8).all fun j => putOk b j)) = true := by decide +kernel
theorem room_all : ((List.range 256).all fun b => decide (4 ≤ (plOf b).size) || ((List.range 8).all fun j => !(b.testBit j && b.testBit (nextPl j) && b.testBit (nextPl (nextPl j)) && b.testBit (nextPl (nextPl (nextPl j)))))) = true := by decide +kernel
theorem few {f : Nat → Nat → Bool} (h : ((List.range 256).all fun b => decide (4 ≤ (plOf b).size) || ((List.range 8).all fun j => f b j)) = true) {b j : Nat} (hb : b < 256) (hs : (plOf b).size ≤ 3) (hj : j < 8) : f b j = true := by
  have h := List.all_eq_true.mp h b (List.mem_range.mpr hb)
  rw [Bool.or_eq_true] at h
  rcases h with h | h
  · rw [decide_eq_true_eq] at h; omega
  · exact List.all_eq_true.mp h j (List.mem_range.mpr hj)
theorem slot_at {b j : Nat} (led : Bool) (hb : b < 256) (hs : (plOf b).size ≤ 3) (hj : j < 8) : (tabOf (plOf b) led).slot j = if b.testBit j = true then .live (SetTable.below (plOf b) j) else .empty := by
  have h := few slot_all hb hs hj
  have h := eq_of_beq h
  have hd : SetTable.has #[] j = false := by simp [SetTable.has]
  unfold SetTable.slot tabOf
  dsimp only
  rw [hd, h]
  rfl
theorem advance_at {t : SetTable} (ht : t.mask = 7) (j pert : Nat) : t.advance { j := j, more := 0, i := j, perturb := pert, dummy := none } = { j := (j * 5 + 1 + pert / 32) % 8, more := 0, i := (j * 5 + 1 + pert / 32) % 8, perturb := pert / 32, dummy := none } := by
  have e : ∀ i, SetTable.runEnd 7 i - i = 0 := fun i => by unfold SetTable.runEnd; rw [if_neg (by omega)]; omega
  unfold SetTable.advance SetTable.leap
  rw [ht]
  simp [e]
theorem go_step {t : SetTable} (ht : t.mask = 7) {h : Int} {fuel j pert : Nat} (q : t.slot j = .empty ∨ ∃ i, t.slot j = .live i) :
    SetTable.probe.go t (fun _ => h + 1) h (fuel + 1) { j := j, more := 0, i := j, perturb := pert, dummy := none } =
      if t.slot j = .empty then some (.empty j none) else SetTable.probe.go t (fun _ => h + 1) h fuel { j := (j * 5 + 1 + pert / 32) % 8, more := 0, i := (j * 5 + 1 + pert / 32) % 8, perturb := pert / 32, dummy := none } := by
  have hne : (h + 1 == h) = false := by simp only [beq_eq_false_iff_ne]; omega
  rcases q with q | ⟨i, q⟩
  · rw [if_pos q, SetTable.probe.go]
    simp only [q]
  · rw [if_neg (by rw [q]; exact fun e => by cases e), SetTable.probe.go]
    simp only [q, hne, Bool.false_eq_true, if_false]
    rw [advance_at ht]
theorem bits_small {d : Int} (h1 : 1 ≤ d) (h2 : d ≤ 16) : SetTable.bits d = d.toNat := by
  unfold SetTable.bits
  rw [Int.emod_eq_of_lt (by omega) (by omega)]
/-- a free place is found -/
theorem free_at {b : Nat} {led : Bool} {d : Int} (hb : b < 256) (hs : (plOf b).size ≤ 3) (h1 : 1 ≤ d) (h2 : d ≤ 16) : ∃ j, j < 8 ∧ b.testBit j = false ∧ (tabOf (plOf b) led).freeSlot d = some (j, false) := by
  have lt8 : ∀ i, nextPl i < 8 := fun i => Nat.mod_lt _ (by omega)
  have hq : ∀ j, j < 8 → (tabOf (plOf b) led).slot j = .empty ∨ ∃ i, (tabOf (plOf b) led).slot j = .live i := fun j hj => by
    rw [slot_at led hb hs hj]
    split
    · exact .inr ⟨_, rfl⟩
    · exact .inl rfl
  have hE : ∀ j, j < 8 → ((tabOf (plOf b) led).slot j = .empty ↔ b.testBit j = false) := fun j hj => by
    rw [slot_at led hb hs hj]
    cases b.testBit j with
    | true => simp
    | false => simp
  have e : ∀ i, SetTable.runEnd 7 i - i = 0 := fun i => by unfold SetTable.runEnd; rw [if_neg (by omega)]; omega
  have hp : d.toNat / 32 = 0 := by omega
  have hstart : (tabOf (plOf b) led).probeStart d = { j := d.toNat % 8, more := 0, i := d.toNat % 8, perturb := d.toNat, dummy := none } := by
    unfold SetTable.probeStart tabOf
    simp [bits_small h1 h2, e]
  have hfree : (tabOf (plOf b) led).freeSlot d = match SetTable.probe.go (tabOf (plOf b) led) (fun _ => d + 1) d (216 + 1 + 1 + 1 + 1) { j := d.toNat % 8, more := 0, i := d.toNat % 8, perturb := d.toNat, dummy := none } with
      | some (.empty j dummy) => some (dummy.getD j, dummy.isSome)
      | _ => none := by
    unfold SetTable.freeSlot SetTable.probe
    rw [hstart]
    rfl
  have hj0 : d.toNat % 8 < 8 := Nat.mod_lt _ (by omega)
  generalize d.toNat % 8 = j0 at hfree hj0
  have room := few room_all hb hs hj0
  rw [hfree, go_step rfl (hq _ hj0), hp, Nat.add_zero, show (j0 * 5 + 1) % 8 = nextPl j0 from rfl]
  by_cases c0 : b.testBit j0 = false
  · rw [if_pos ((hE _ hj0).mpr c0)]; exact ⟨j0, hj0, c0, rfl⟩
  rw [if_neg (fun h => c0 ((hE _ hj0).mp h)), go_step rfl (hq _ (lt8 _)), Nat.zero_div, Nat.add_zero, show (nextPl j0 * 5 + 1) % 8 = nextPl (nextPl j0) from rfl]
  by_cases c1 : b.testBit (nextPl j0) = false
  · rw [if_pos ((hE _ (lt8 _)).mpr c1)]; exact ⟨_, lt8 _, c1, rfl⟩
  rw [if_neg (fun h => c1 ((hE _ (lt8 _)).mp h)), go_step rfl (hq _ (lt8 _)), Nat.zero_div, Nat.add_zero, show (nextPl (nextPl j0) * 5 + 1) % 8 = nextPl (nextPl (nextPl j0)) from rfl]
  by_cases c2 : b.testBit (nextPl (nextPl j0)) = false
  · rw [if_pos ((hE _ (lt8 _)).mpr c2)]; exact ⟨_, lt8 _, c2, rfl⟩
  rw [if_neg (fun h => c2 ((hE _ (lt8 _)).mp h)), go_step rfl (hq _ (lt8 _)), Nat.zero_div, Nat.add_zero]
  by_cases c3 : b.testBit (nextPl (nextPl (nextPl j0))) = false
  · rw [if_pos ((hE _ (lt8 _)).mpr c3)]; exact ⟨_, lt8 _, c3, rfl⟩
  · simp only [Bool.not_eq_false] at c0 c1 c2 c3
    rw [c0, c1, c2, c3] at room
    cases room
end Mine

end
section
-- part SX2
open PySem PySem.W PyProof.Rows
set_option Elab.async false
set_option rowWalk.seconds 0
namespace Mine
theorem hash_small {d : Int} (h1 : 1 ≤ d) (h2 : d ≤ 16) : hashInt d = d := by
  have : ∀ k : Fin 16, hashInt ((k.val : Int) + 1) = (k.val : Int) + 1 := by decide +kernel
  have h := this ⟨(d - 1).toNat, by omega⟩
  simp only at h
  rw [show (((d - 1).toNat : Nat) : Int) + 1 = d from by omega] at h
  exact h
theorem ints_find {es : List (Int × Value)} {ms : List Int} (h : IntsAre (es.map (·.2)) ms) (k : Int) : (∃ e ∈ es, Value.isInt k e.2 = true) ↔ k ∈ ms := by
  induction es generalizing ms with
  | nil => cases h; simp
  | cons e r ih =>
    obtain ⟨h0, v⟩ := e
    cases h with
    | cons n t h' =>
      have := ih h'
      simp only [List.mem_cons, exists_eq_or_imp, this]
      have e : Value.isInt k (.int n t) = decide (n = k) := by first | rfl | (simp [Value.isInt])
      show Value.isInt k (.int n t) = true ∨ _ ↔ _
      rw [e, decide_eq_true_eq]
      constructor
      · rintro (rfl | h)
        · exact .inl rfl
        · exact .inr h
      · rintro (rfl | h)
        · exact .inl rfl
        · exact .inr h
theorem tab_fits {b n : Nat} {led : Bool} (h : (plOf b).size = n) (h4 : n ≤ 4) : (tabOf (plOf b) led).fits n = true := by
  unfold SetTable.fits SetTable.fill tabOf
  simp only [Bool.and_eq_true, beq_iff_eq, decide_eq_true_eq]
  exact ⟨h, by show (plOf b).size + 0 ≤ 7; omega⟩
theorem ins_size {α : Type} {es : Array α} {p : Nat} {x : α} (hpp : p ≤ es.size) : (SetTable.insertAt es p x).size = es.size + 1 := by
  rw [← Array.length_toList, SetTable.toList_insertAt]
  simp only [List.length_append, List.length_cons, List.length_take, List.length_drop, Array.length_toList]
  omega
theorem lay_new {b : Nat} {led : Bool} {es : Array (Int × Value)} {x : Value} {d : Int} (hb : b < 256) (hpl : (plOf b).size = es.size) (hes : es.size ≤ 3) (h1 : 1 ≤ d) (h2 : d ≤ 16) :
    ∃ p b', layNew (tabOf (plOf b) led) es d x = (SetTable.insertAt es p (d, x), tabOf (plOf b') led, false, false) ∧ p ≤ es.size ∧ b' < 256 ∧ (plOf b').size = es.size + 1 := by
  obtain ⟨j, hj, hbit, hfs⟩ := free_at (led := led) hb (by omega) h1 h2
  have hp := few put_all hb (by omega) hj
  unfold putOk at hp
  rw [hbit] at hp
  simp only [Bool.false_or, Bool.and_eq_true, decide_eq_true_eq] at hp
  obtain ⟨⟨⟨hpl', hpp⟩, hb'⟩, hsz⟩ := hp
  rw [hpl] at hpp hsz
  have hput : (tabOf (plOf b) led).put j = (tabOf (plOf (b + 2 ^ j)) led, SetTable.below (plOf b) j) := by
    have hd : SetTable.has #[] j = false := by simp [SetTable.has]
    unfold SetTable.put tabOf
    dsimp only
    rw [hd, hpl']
    rfl
  have hfit : (tabOf (plOf (b + 2 ^ j)) led).fits (es.size + 1) = true := tab_fits hsz (by omega)
  refine ⟨SetTable.below (plOf b) j, b + 2 ^ j, ?_, hpp, hb', hsz⟩
  unfold layNew
  rw [hfs]
  dsimp only
  rw [hput]
  dsimp only
  rw [ins_size hpp, hfit, SetTable.orStandIn, if_pos hfit]
  rfl
section
variable {prog : Program} {w : World} {A : Around} {E : Value → Shared → Prop} {s : Shared}
/-- a set of few small ints, as a call makes it: led as the world says, its places rising -/
def SetIs (prog : Program) (w : World) (h : Heap) (S : Addr) (led : Bool) (ms : List Int) : Prop :=
  ∃ es ep b, h.get? S = some { cls := .type "set", dict := none, data := .set es ep (tabOf (plOf b) led), slots := #[] } ∧ b < 256 ∧ (plOf b).size = es.size ∧ es.size ≤ 4 ∧ IntsAre (es.toList.map (·.2)) ms ∧ ElemsOf (intKind prog w) es.toList ∧ ms.Nodup
theorem SetIs.len {h : Heap} {S : Addr} {led : Bool} {ms : List Int} (H : SetIs prog w h S led ms) : ms.length ≤ 4 := by
  obtain ⟨es, ep, b, _, _, _, h4, hi, _⟩ := H
  have := hi.length
  simp only [List.length_map, Array.length_toList] at this
  omega
theorem SetIs.keeps {h h' : Heap} {S : Addr} {led : Bool} {ms : List Int} (H : SetIs prog w h S led ms) (k : ∀ o, h.get? S = some o → h'.get? S = some o) : SetIs prog w h' S led ms := by
  obtain ⟨es, ep, b, ho, r⟩ := H
  exact ⟨es, ep, b, k _ ho, r⟩
theorem set_add {S : Addr} {led : Bool} {ms : List Int} {d : Int} {t : Tok} {Q : Bool → Shared → Prop} (H : SetIs prog w s.heap S led ms) (h1 : 1 ≤ d) (h2 : d ≤ 16) (hl : ms.length ≤ 3)
    (h : ∀ h' ms' b, Heap.SameBut S s.heap h' → SetIs prog w h' S led ms' → (∀ k, k ∈ ms' ↔ k ∈ ms ∨ k = d) → ms'.length ≤ ms.length + 1 → Q b { s with heap := h' }) :
    wpAny (model prog w) A (setAddHashed S (.int d t) (hashInt d)) Q E s := by
  obtain ⟨es, ep, b, ho, hb, hpl, h4, hi, hel, hnd⟩ := H
  have hes : es.size ≤ 3 := by have := hi.length; simp only [List.length_map, Array.length_toList] at this; omega
  have hf : (tabOf (plOf b) led).fits es.size = true := tab_fits hpl h4
  have hkey : (intKind prog w).is d (.int d t) = true := intKind_is prog w d t
  have hsc : (Value.int d t).scannable = true := rfl
  unfold setAddHashed setAddHashedIn
  refine wpAny_holding (wpAny_bind (wpAny_setState_of ho rfl hf ?_))
  dsimp only
  rw [byScan_of hsc (by unfold scanBound; omega) hel]
  simp only [↓reduceIte]
  unfold setAddByScan
  refine wpAny_bind ?_
  refine wpAny_bind (wpAny_rule ?_)
  refine wpAny_bind (wpAny_setScan_of (knd := intKind prog w) hkey ho rfl hf hel ?_)
  cases hr : List.findIdx? (fun e => (intKind prog w).is d e.2) es.toList with
  | some j =>
    dsimp only
    obtain ⟨hj, hpj, _⟩ := List.findIdx?_eq_some_iff_getElem.mp hr
    have hm : d ∈ ms := (ints_find hi d).mp ⟨es.toList[j], List.getElem_mem hj, hpj⟩
    refine wpAny_pure (wpAny_pure ?_)
    exact h s.heap ms false (Heap.SameBut.refl S s.heap) ⟨es, ep, b, ho, hb, hpl, h4, hi, hel, hnd⟩ (fun k => ⟨.inl, fun x => x.elim id (fun e => e ▸ hm)⟩) (Nat.le_succ _)
  | none =>
    dsimp only
    have hm : d ∉ ms := fun hm => by
      obtain ⟨e, he, hp⟩ := (ints_find hi d).mpr hm
      have := List.findIdx?_eq_none_iff.mp hr e he
      rw [show (intKind prog w).is d e.2 = Value.isInt d e.2 from rfl, hp] at this; exact Bool.noConfusion this
    have hgw : ∀ (b : Bool) {s₁ : Shared} {Q' : Unit → Shared → Prop}, Q' () s₁ → wpAny (model prog w) A (match b with | true => rule "set.scan.the-table-gave-way" | false => pure ()) Q' E s₁ :=
      fun b s₁ Q' hq => by cases b <;> first | exact wpAny_pure hq | exact wpAny_rule hq
    obtain ⟨p, b', he, hpp, hb', hps⟩ := lay_new (b := b) (led := led) (es := es) (x := Value.int d t) hb hpl hes h1 h2
    rw [hash_small h1 h2, he]
    dsimp only
    refine wpAny_bind (wpAny_of_eq (a := ()) rfl ?_)
    rw [if_pos (show (tabOf (plOf b') led).plain = true from rfl)]
    refine wpAny_bind ?_
    rw [hashByValue_scannable 8 hsc]
    refine wpAny_pure ?_
    rw [show plainKind (Value.int d t) = true from rfl, if_pos rfl]
    have hsz1 : (SetTable.insertAt es p (d, Value.int d t)).size = es.size + 1 := ins_size hpp
    have hnf : (tabOf (plOf b') led).tooFull = false := by
      unfold SetTable.tooFull SetTable.fill tabOf
      simp only [decide_eq_false_iff_not]
      show ¬ (((plOf b').size + 0) * 5 ≥ 7 * 3)
      omega
    refine wpAny_bind (wpAny_storeSet_of ho rfl ?_ (by rw [hsz1, sizeLine_eq]; omega))
    rw [hnf]
    simp only [Bool.not_false, Bool.and_false, Bool.false_eq_true, ↓reduceIte]
    refine wpAny_pure ?_
    dsimp only
    refine wpAny_pure ?_
    have hg : (s.heap.update S (Obj.putSet (SetTable.insertAt es p (d, Value.int d t)) (tabOf (plOf b') led))).get? S = some { cls := .type "set", dict := none, data := .set (SetTable.insertAt es p (d, Value.int d t)) (ep + 1) (tabOf (plOf b') led), slots := #[] } := by
      have := Heap.get?_update_self (Obj.putSet (SetTable.insertAt es p (d, Value.int d t)) (tabOf (plOf b') led)) ho rfl
      rw [putSet_of _ _ rfl] at this
      exact this
    have hperm : List.Perm (ms.take p ++ d :: ms.drop p) (d :: ms) := by
      refine List.perm_middle.trans ?_
      rw [List.take_append_drop]
    have hints : IntsAre ((SetTable.insertAt es p (d, Value.int d t)).toList.map (·.2)) (ms.take p ++ d :: ms.drop p) := by
      rw [SetTable.toList_insertAt, List.map_append, List.map_cons, List.map_take, List.map_drop]
      exact (hi.take p).append (.cons d t (hi.drop p))
    refine h _ (ms.take p ++ d :: ms.drop p) true (Heap.SameBut.update s.heap S _) ⟨_, _, _, hg, hb', by rw [hsz1]; exact hps, by rw [hsz1]; omega, hints, ?_, ?_⟩ (fun k => ?_) (by rw [hperm.length_eq]; exact Nat.le_refl _)
    · intro e he
      rw [SetTable.toList_insertAt] at he
      rcases List.mem_append.mp he with he | he
      · exact hel e (List.mem_of_mem_take he)
      · rcases List.mem_cons.mp he with rfl | he
        · exact ⟨⟨d, hkey, (hash_small h1 h2).symm⟩, rfl⟩
        · exact hel e (List.mem_of_mem_drop he)
    · exact hperm.nodup_iff.mpr (List.nodup_cons.mpr ⟨hm, hnd⟩)
    · rw [hperm.mem_iff, List.mem_cons]; exact ⟨fun x => x.elim .inr .inl, fun x => x.elim .inr .inl⟩
end
end Mine

end
section
-- part SX3
open PySem PySem.W PyProof.Rows PySem.Spec PySem.Calls
set_option Elab.async false
set_option maxRecDepth 100000
namespace Mine
theorem sub_tuple_set : isSubtype (.type "tuple") (.type "set") = pure false := by rw [isSubtype_type]; kernel_rfl
theorem sub_tuple_frozenset : isSubtype (.type "tuple") (.type "frozenset") = pure false := by rw [isSubtype_type]; kernel_rfl
/-- how the world has sets led -/
def ledOf (w : World) : Bool := !(w.params.followText "set-order")
section
variable {prog : Program} {w : World} {A : Around} {R : Result → Shared → Prop} {I : Addr} {fp wr : List Addr} {G : Array GenState → Array GenState → Prop} {n : Nat} {P : Nat → Value → Prop} {St : Nat → Shared → Prop}
theorem update_loop (W : WalksS prog w A.in1 I fp wr G n P St) (S : Addr) (hSf : S ∉ fp) (led : Bool)
    (val : Nat → Int) (hval : ∀ i v, P i v → ∃ t, v = .int (val i) t) (hb : ∀ i, i < n → 1 ≤ val i ∧ val i ≤ 16) (h4 : n ≤ 4) :
    ∀ (k i : Nat) (s : Shared) (ms : List Int), n - i = k → i ≤ n → St i s →
      SetIs prog w s.heap S led ms → ms.length ≤ i → (∀ x, x ∈ ms ↔ ∃ j, j < i ∧ val j = x) →
      (∀ s' ms', Moved (S :: wr) G s s' → SetIs prog w s'.heap S led ms' → (∀ x, x ∈ ms' ↔ ∃ j, j < n ∧ val j = x) → R (.ok (.ret .none)) s') →
      codeAny (model prog w) A (.builtin "set.update.loop" ⟨[.ref S, .ref I], []⟩) R s := by
  have hSw : S ∉ wr := fun h => hSf (W.sub _ h)
  have hsub : ∀ b ∈ wr, b ∈ S :: wr := fun b hb => List.mem_cons_of_mem _ hb
  intro k
  induction k with
  | zero =>
    intro i s ms hk hi hst hS hl hm hR
    have hin : i = n := by omega
    subst hin
    refine codeAny_builtin F.entry_set_update_loop ?_
    rw [Around.under_plainId F.plain_set_update_loop _]
    show wpAny _ A.in1 (pyNext (.ref I) >>= _) _ _ s
    refine wpAny_bind (W.done s _ _ hst fun s' hmv => ?_)
    show wpAny _ A.in1 (ret Value.none) _ _ s'
    exact wpAny_pure (hR s' ms (hmv.mono hsub) (hS.keeps fun o e => hmv.heap S _ hSw e) hm)
  | succ k ih =>
    intro i s ms hk hi hst hS hl hm hR
    have hlt : i < n := by omega
    refine codeAny_builtin F.entry_set_update_loop ?_
    rw [Around.under_plainId F.plain_set_update_loop _]
    show wpAny _ A.in1 (pyNext (.ref I) >>= _) _ _ s
    refine wpAny_bind (W.item i s _ _ hlt hst fun v s' hP hst' hmv => ?_)
    obtain ⟨t, rfl⟩ := hval i v hP
    have hS' : SetIs prog w s'.heap S led ms := hS.keeps fun o e => hmv.heap S _ hSw e
    show wpAny _ A.in1 (holding [Value.int (val i) t] (setAdd S (.int (val i) t)) >>= _) _ _ s'
    refine wpAny_bind (wpAny_holding ?_)
    unfold setAdd
    refine wpAny_holding ?_
    refine wpAny_bind ((intKind prog w).pyHash (k := val i) (intKind_is _ _ _ _) ?_)
    refine set_add (s := { s' with toks := s'.toks + 1 }) hS' (hb i hlt).1 (hb i hlt).2 (by omega) fun h' ms' _ hsb hS2 hm2 hl2 => ?_
    refine wpAny_pure ⟨plainId_quiet F.plain_set_update_loop _, ih (i + 1) _ ms' (by omega) hlt (W.frame _ s' _ _ hst' (Nat.le_succ _) fun b hb o e => ?_) hS2 (by omega) (fun x => ?_) fun s'' ms'' hm'' hS'' hx'' => ?_⟩
    · rw [hsb.2 b (fun h : b = S => hSf (by rw [← h]; exact hb))]; exact e
    · rw [hm2, hm]
      constructor
      · rintro (⟨j, hj, e⟩ | rfl)
        · exact ⟨j, by omega, e⟩
        · exact ⟨i, by omega, rfl⟩
      · rintro ⟨j, hj, e⟩
        by_cases hji : j = i
        · subst hji; exact .inr e.symm
        · exact .inl ⟨j, by omega, e⟩
    · refine hR s'' ms'' (Moved.trans W.gtrans ((hmv.mono hsub).then_heap (Nat.le_succ _) fun b o hb e => ?_) hm'') hS'' hx''
      rw [hsb.2 b (fun h : b = S => hb (by rw [h]; exact List.mem_cons_self))]; exact e
end
section
variable {prog : Program} {w : World} {A : Around} {E : Value → Shared → Prop} {s : Shared}
theorem code_set_new (a : Value) {Q₁ : Value → Shared → Prop}
    (h : Q₁ (.ref s.heap.objs.size) { s with heap := s.heap.push { cls := .type "set", dict := none, data := .set #[] 0 (tabOf (plOf 0) (ledOf w)) } }) :
    codeAny (model prog w) A (.call (.builtin "set.__new__") ⟨[.type "set", a], []⟩) (wants Q₁ E) s := by
  refine codeAny_of_tree ?_
  show wpAny _ A.in1 (do checkBuiltinCall "set.__new__" ⟨[.type "set", a], []⟩; again (.builtin "set.__new__" ⟨[.type "set", a], []⟩)) _ _ s
  refine wpAny_bind (wpAny_of_eq (F.newCall_set_1 a) (wpAny_pure ⟨plainId_quiet F.plain_set_new _, codeAny_builtin F.entry_set_new ?_⟩))
  rw [Around.under_plainId F.plain_set_new _]
  unfold Builtin.«set.__new__» Builtin.Frozenset.newClass
  have hsub := sub_set_self
  obtain ⟨hp, g, d, tk, os⟩ := s
  dsimp only
  wp_walk
  refine wpAny_askSetting (wpAny_pure ?_)
  dsimp only
  simp only [newObj]
  refine wpAny_bind (wpAny_alloc (wpAny_pure ?_))
  exact wpAny_pure h
set_option maxHeartbeats 3200000 in
theorem call_set_tuple {l : Addr} {items : Array Value} {ns : List Int} {Q : Value → Shared → Prop}
    (hh : A.handled = none) (hl : s.heap.IsTuple l items) (hi : IntsAre items.toList ns) (hn : ns.length ≤ 4) (hr : ∀ x ∈ ns, 1 ≤ x ∧ x ≤ 16)
    (h : ∀ (h' : Heap) (tk : Nat) (ms : List Int), SetIs prog w h' s.heap.objs.size (ledOf w) ms → (∀ x, x ∈ ms ↔ x ∈ ns) →
      (∀ b o, b < s.heap.objs.size → s.heap.get? b = some o → h'.get? b = some o) → Q (.ref s.heap.objs.size) { s with heap := h', toks := tk }) :
    wpAny (model prog w) A (call (.type "set") [.ref l]) Q E s := by
  have hsz : items.size = ns.length := by have := hi.length; simpa using this
  have hvb : ∀ i, i < items.size → 1 ≤ ns.getD i 0 ∧ ns.getD i 0 ≤ 16 := fun i hlt => by
    have hlt' : i < ns.length := by omega
    rw [List.getD_eq_getElem?_getD, List.getElem?_eq_getElem hlt', Option.getD_some]
    exact hr _ (List.getElem_mem hlt')
  obtain ⟨c, tl, hmro⟩ := F.called_set.mro
  have hmade := F.called_set.made
  have hsub := F.called_set.sub
  refine wpAny_call (codeAny_of_tree ?_)
  show wpAny _ _ (callAny (.type "set") _) _ _ _
  refine wpAny_pure ⟨Code.quiet_builtin _ (by decide +kernel), codeAny_builtin F.entry_type_call ?_⟩
  rw [Around.under_plain (weight_type_call_type "set" [.ref l] []) rfl]
  have h1 := F.called_set.notType
  have h2 := F.called_set.canCreate
  have hct := F.typeCall_set_1 (.ref l)
  repeat (any_goals (first | assumption | wp_step))
  refine codeAny_mono (code_set_new (.ref l) (E := E) (Q₁ := fun obj s₁ => obj = .ref s.heap.objs.size ∧ s₁ = { s with heap := s.heap.push { cls := .type "set", dict := none, data := .set #[] 0 (tabOf (plOf 0) (ledOf w)) } }) ⟨rfl, rfl⟩) fun r s₁ hr1 => ?_
  cases r with
  | error e => exact hr1
  | ok fl =>
    cases fl with
    | ret obj =>
      obtain ⟨rfl, rfl⟩ := hr1
      have hS : (s.heap.push { cls := .type "set", dict := none, data := .set #[] 0 (tabOf (plOf 0) (ledOf w)) }).get? s.heap.objs.size = some { cls := .type "set", dict := none, data := .set #[] 0 (tabOf (plOf 0) (ledOf w)) } := Heap.get?_push_size _ rfl
      have hT : Shared.TypeIs { s with heap := s.heap.push { cls := .type "set", dict := none, data := .set #[] 0 (tabOf (plOf 0) (ledOf w)) } } (.ref s.heap.objs.size) "set" := ⟨_, hS, rfl⟩
      have hli := F.called_set.init.lookup
      have hbi := F.called_set.init.bind (.ref s.heap.objs.size)
      repeat (any_goals (first | assumption | wp_step))
      refine codeAny_mono (codeAny_call_builtin (R := wants (fun r s₂ => r = .none ∧ ∃ h' tk ms, s₂ = { s with heap := h', toks := tk } ∧
          SetIs prog w h' s.heap.objs.size (ledOf w) ms ∧ (∀ x, x ∈ ms ↔ x ∈ ns) ∧
          (∀ b o, b < s.heap.objs.size → s.heap.get? b = some o → h'.get? b = some o)) E) F.called_set.init.plain F.entry_set_init (check_set_init_1 hT ?_)) fun r₂ s₂ hr₂ => ?_
      · obtain ⟨ol, hol, hcl, nl, hdl⟩ := hl
        obtain ⟨ocls, odict, odata, oslots⟩ := ol
        simp only at hcl hdl
        subst hcl; subst hdl
        have hol' : (s.heap.push { cls := .type "set", dict := none, data := .set #[] 0 (tabOf (plOf 0) (ledOf w)) }).get? l = some { cls := .type "tuple", dict := odict, data := .seq items nl, slots := oslots } := Heap.get?_push_of_some _ hol
        have hsls := sub_tuple_set
        have hslf := sub_tuple_frozenset
        have hne : (Value.type "tuple" == Value.type "dict") = false := by decide
        have hl1 : (s.heap.push { cls := .type "set", dict := none, data := .set #[] 0 (tabOf (plOf 0) (ledOf w)) }).IsTuple l items := ⟨_, hol', rfl, nl, rfl⟩
        unfold Builtin.«set.__init__» noKeywords Builtin.Frozenset.updateFrom
        generalize hPI : pyIter = PI
        wp_walk
        subst hPI
        refine wpAny_pyIter_tuple hl1 ?_
        refine wpAny_bind (wpAny_runValue ?_)
        have hlS : l < s.heap.objs.size := Heap.lt_size hol
        have hh3 : A.in1.in1.in1.handled = none := by simp [hh]
        have hneI : l ≠ (s.heap.push { cls := .type "set", dict := none, data := .set #[] 0 (tabOf (plOf 0) (ledOf w)) }).objs.size := by
          rw [Heap.size_push]; exact Nat.ne_of_lt (Nat.lt_succ_of_lt hlS)
        have hSf : s.heap.objs.size ∉ [(s.heap.push { cls := .type "set", dict := none, data := .set #[] 0 (tabOf (plOf 0) (ledOf w)) }).objs.size, l] := by
          rw [Heap.size_push]; simp only [List.mem_cons, List.mem_singleton, List.not_mem_nil, or_false, not_or]
          exact ⟨Nat.ne_of_lt (Nat.lt_succ_self _), Nat.ne_of_gt hlS⟩
        have hval : ∀ (i : Nat) (v : Value), items[i]? = some v → ∃ t, v = .int ((fun i => ns.getD i 0) i) t := fun i v hv =>
          PyProof.Rows.IntsAre.int_at hi i v (by rw [Array.getElem?_toList]; exact hv)
        refine update_loop ((Walks.tuple hh3 _ l hneI items).toS) s.heap.objs.size
          hSf (ledOf w) (fun i => ns.getD i 0) hval hvb (by omega) (items.size - 0) 0 _ [] (by omega) (Nat.zero_le _)
          ⟨⟨_, Heap.get?_push_size _ rfl, rfl, rfl⟩, (hl1.push _)⟩ ?hS0 (Nat.le_refl _) (fun x => ?_) ?hR
        case hS0 =>
          have hget : ((s.heap.push { cls := .type "set", dict := none, data := .set #[] 0 (tabOf (plOf 0) (ledOf w)) }).push { cls := .type "tuple_iterator", data := .fields #[.ref l, .int 0 0] }).get? s.heap.objs.size
              = some { cls := .type "set", dict := none, data := .set #[] 0 (tabOf (plOf 0) (ledOf w)) } := Heap.get?_push_of_some _ hS
          exact ⟨#[], 0, 0, hget, by omega, by decide +kernel, Nat.zero_le _, .nil, fun e he => by simp at he, List.nodup_nil⟩
        · simp
        case hR =>
          intro s' ms hm hS' hx
          obtain ⟨h', g', d', tk', os'⟩ := s'
          have eg : g' = s.gens := hm.gens
          have ed : d' = s.drawn := hm.drawn
          have eo : os' = s.os := hm.os
          subst eg; subst ed; subst eo
          show wpAny _ _ _ _ _ _
          refine wpAny_pure ?_
          show wpAny _ _ (ret Value.none) _ _ _
          refine wpAny_pure ⟨rfl, h', tk', ms, rfl, hS', fun x => ?_, fun b o hb e => ?_⟩
          · rw [hx x, hsz]
            constructor
            · rintro ⟨j, hj, rfl⟩
              rw [List.getD_eq_getElem?_getD, List.getElem?_eq_getElem hj, Option.getD_some]
              exact List.getElem_mem hj
            · intro hmem
              obtain ⟨j, hj, e⟩ := List.mem_iff_getElem.mp hmem
              exact ⟨j, hj, by rw [List.getD_eq_getElem?_getD, List.getElem?_eq_getElem hj, Option.getD_some]; exact e⟩
          · have hb1 : b ≠ s.heap.objs.size := Nat.ne_of_lt hb
            have hb2 : b ≠ (s.heap.push { cls := .type "set", dict := none, data := .set #[] 0 (tabOf (plOf 0) (ledOf w)) }).objs.size := by
              rw [Heap.size_push]; exact Nat.ne_of_lt (Nat.lt_succ_of_lt hb)
            exact hm.heap b o (by simp only [List.mem_cons, List.mem_singleton, List.not_mem_nil, or_false, not_or]; exact ⟨hb1, hb2⟩) (Heap.get?_push_of_some _ (Heap.get?_push_of_some _ e))
      · cases r₂ with
        | error e => exact hr₂
        | ok fl₂ =>
          cases fl₂ with
          | ret r =>
            obtain ⟨rfl, h', tk, ms, rfl, hS', hx, hk'⟩ := hr₂
            repeat (any_goals (first | assumption | wp_step))
            exact h _ _ _ hS' hx hk'
          | _ => exact hr₂.elim
    | _ => exact hr1.elim
end
end Mine

end
section
-- part SX4
open PySem PySem.W PyProof.Rows PySem.Spec PySem.Calls
set_option Elab.async false
set_option maxRecDepth 100000
namespace Mine
theorem slot_set_iterator_next : Slot "set_iterator" "__next__" "set_iterator.__next__" :=
  .of (owner := "set_iterator") (n := "__next__") (by rw [typeLookup_type, builtinLookup_eq_fast]; kernel_rfl) (by decide +kernel) (by decide +kernel) (by decide +kernel)
    (by first | exact .inl (by decide +kernel) | exact .inr (by decide +kernel)) (by rw [isSubtype_type]; kernel_rfl)
theorem entry_set_iterator_next : entryFor table "set_iterator.__next__" = some Builtin.«set_iterator.__next__» := entryFor_of_tree (by kernel_rfl)
theorem owner_set_iterator : Manifest.owners.lookup (String.ofList ['r', 'o', 't', 'a', 'r', 'e', 't', 'i', '_', 't', 'e', 's'].reverse) = some Manifest.sig_set_iterator := by kernel_rfl
theorem args_set_iterator_next_1 (a : Value) : argsOk "set_iterator.__next__" ⟨[a], []⟩ := by
  unfold argsOk; rw [signature?_of (id := "set_iterator.__next__") (n := ['_', '_', 't', 'x', 'e', 'n', '_', '_']) (o := ['r', 'o', 't', 'a', 'r', 'e', 't', 'i', '_', 't', 'e', 's']) (by kernel_rfl) owner_set_iterator]; kernel_rfl
theorem slot_set_iterator_iter : Slot "set_iterator" "__iter__" "set_iterator.__iter__" :=
  .of (owner := "set_iterator") (n := "__iter__") (by rw [typeLookup_type, builtinLookup_eq_fast]; kernel_rfl) (by decide +kernel) (by decide +kernel) (by decide +kernel)
    (by first | exact .inl (by decide +kernel) | exact .inr (by decide +kernel)) (by rw [isSubtype_type]; kernel_rfl)
theorem entry_set_iterator_iter : entryFor table "set_iterator.__iter__" = some Builtin.«dict_keyiterator.__iter__» :=
  entryFor_alias (id' := "dict_keyiterator.__iter__") (by kernel_rfl) (by first | rfl | decide +kernel | (unfold String.splitOn; simp +decide [String.splitOnAux])) (by decide +kernel) (by kernel_rfl)
theorem args_set_iterator_iter_1 (a : Value) : argsOk "set_iterator.__iter__" ⟨[a], []⟩ := by
  unfold argsOk; rw [signature?_of (id := "set_iterator.__iter__") (n := ['_', '_', 'r', 'e', 't', 'i', '_', '_']) (o := ['r', 'o', 't', 'a', 'r', 'e', 't', 'i', '_', 't', 'e', 's']) (by kernel_rfl) owner_set_iterator]; kernel_rfl
theorem entry_set_iter : entryFor table "set.__iter__" = some Builtin.«frozenset.__iter__» :=
  entryFor_alias (id' := "frozenset.__iter__") (by kernel_rfl) rfl (by decide +kernel) (by kernel_rfl)
theorem erase_perm {α : Type} : ∀ (l : List α) (i : Nat) (h : i < l.length), List.Perm (l[i] :: l.eraseIdx i) l
  | a :: l, 0, _ => .rfl
  | a :: l, i + 1, h => by
    have := erase_perm l i (by simpa using h)
    exact (List.Perm.swap _ _ _).trans (this.cons a)
theorem pick_go {α : Type} (next : Nat → Nat) : ∀ (fuel k : Nat) (left : List α) (out : Array α), left.length ≤ fuel → List.Perm (pickOrder.go next fuel k left out).toList (out.toList ++ left)
  | 0, k, left, out, h => by
    have : left = [] := List.length_eq_zero_iff.mp (by omega)
    subst this; simp [pickOrder.go]
  | fuel + 1, k, left, out, h => by
    unfold pickOrder.go
    cases hx : left[next k % left.length]? with
    | none =>
      dsimp only
      rw [List.getElem?_eq_none_iff] at hx
      have h0 : left.length = 0 := by
        rcases Nat.eq_zero_or_pos left.length with e | e
        · exact e
        · have := Nat.mod_lt (next k) e; omega
      have : left = [] := List.length_eq_zero_iff.mp h0
      subst this; simp
    | some x =>
      dsimp only
      obtain ⟨hlt, e⟩ := List.getElem?_eq_some_iff.mp hx
      refine (pick_go next fuel (k + 1) _ (out.push x) (by rw [List.length_eraseIdx_of_lt hlt]; omega)).trans ?_
      rw [Array.toList_push, List.append_assoc]
      refine List.Perm.append_left _ ?_
      subst e
      exact erase_perm left _ hlt
theorem pick_perm {α : Type} (next : Nat → Nat) (xs : Array α) : List.Perm (pickOrder next xs).toList xs.toList := by
  have := pick_go next xs.size 0 xs.toList #[] (by simp)
  simpa [pickOrder] using this
theorem ints_perm {vs ws : List Value} (p : List.Perm ws vs) : ∀ {ns : List Int}, IntsAre vs ns → ∃ ms, IntsAre ws ms ∧ List.Perm ms ns := by
  induction p with
  | nil => intro ns h; exact ⟨ns, h, .rfl⟩
  | cons v _ ih => intro ns h; cases h with | cons n t h => obtain ⟨ms, hm, hp⟩ := ih h; exact ⟨n :: ms, .cons n t hm, hp.cons n⟩
  | swap a b r => intro ns h; cases h with | cons n t h => cases h with | cons n' t' h => exact ⟨_, .cons _ _ (.cons _ _ h), .swap _ _ _⟩
  | trans _ _ ih1 ih2 =>
    intro ns h
    obtain ⟨ms, hm, hp⟩ := ih2 h
    obtain ⟨ms', hm', hp'⟩ := ih1 hm
    exact ⟨ms', hm', hp'.trans hp⟩
theorem walk_ok {b : Nat} (hb : b < 256) : SetTable.below (plOf b) 0 = 0 ∧ ∀ i, i < (plOf b).size → SetTable.below (plOf b) ((plOf b).getD i 0 + 1) = i + 1 := by
  have h := List.all_eq_true.mp walk_all b (List.mem_range.mpr hb)
  unfold walkOk at h
  rw [Bool.and_eq_true, decide_eq_true_eq] at h
  exact ⟨h.1, fun i hi => by have := List.all_eq_true.mp h.2 i (List.mem_range.mpr hi); simpa using this⟩
/-- where the walk stands in the table -/
def slotAt (w : World) (b i : Nat) : Nat := if ledOf w = true then (if i = 0 then 0 else (plOf b).getD (i - 1) 0 + 1) else 0
theorem below_at {w : World} {b i : Nat} (hl : ledOf w = true) (hb : b < 256) (hi : i ≤ (plOf b).size) : SetTable.below (plOf b) (slotAt w b i) = i := by
  unfold slotAt
  rw [if_pos hl]
  by_cases h : i = 0
  · subst h; exact (walk_ok hb).1
  · rw [if_neg h, (walk_ok hb).2 (i - 1) (by omega)]; omega
/-- the order in which a world walks a set -/
def inOrder (w : World) (S ep : Nat) (es : Array (Int × Value)) : Array (Int × Value) := if ledOf w = true then es else pickOrder (w.params.setOrder S ep) es
theorem inOrder_perm (w : World) (S ep : Nat) (es : Array (Int × Value)) : List.Perm (inOrder w S ep es).toList es.toList := by
  unfold inOrder
  split
  · exact .rfl
  · exact pick_perm _ _
theorem inOrder_size (w : World) (S ep : Nat) (es : Array (Int × Value)) : (inOrder w S ep es).size = es.size := by
  have := (inOrder_perm w S ep es).length_eq
  simpa using this
def IsSetIter (w : World) (h : Heap) (it S : Addr) (b i n ep : Nat) : Prop :=
  ∃ o, h.get? it = some o ∧ o.cls = .type "set_iterator" ∧ o.data = .fields #[.int (slotAt w b i) 0, .int i 0, .ref S, .int n 0, .int ep 0]
section
variable {prog : Program} {w : World} {A : Around} {E : Value → Shared → Prop} {s : Shared} {S it : Addr} {es : Array (Int × Value)} {ep b : Nat} {led : Bool}
def SetAt (h : Heap) (S : Addr) (es : Array (Int × Value)) (ep b : Nat) (led : Bool) : Prop :=
  h.get? S = some { cls := .type "set", dict := none, data := .set es ep (tabOf (plOf b) led), slots := #[] } ∧ b < 256 ∧ (plOf b).size = es.size ∧ es.size ≤ 4
theorem SetAt.typeIs (H : SetAt s.heap S es ep b led) : s.TypeIs (.ref S) "set" := ⟨_, H.1, rfl⟩
theorem SetAt.fits (H : SetAt s.heap S es ep b led) : (tabOf (plOf b) led).fits es.size = true := tab_fits H.2.2.1 H.2.2.2
theorem IsSetIter.typeIs {i n : Nat} (H : IsSetIter w s.heap it S b i n ep) : s.TypeIs (.ref it) "set_iterator" := let ⟨o, ho, hc, _⟩ := H; ⟨o, ho, hc⟩
theorem pyIter_set {Q : Value → Shared → Prop} (H : SetAt s.heap S es ep b led)
    (hQ : Q (.ref s.heap.objs.size) { s with heap := s.heap.push { cls := .type "set_iterator", data := .fields #[.int 0 0, .int 0 0, .ref S, .int es.size 0, .int ep 0] } }) :
    wpAny (model prog w) A (pyIter (.ref S)) Q E s := by
  refine wpAny_pyIter_slot H.typeIs F.slot_set_iter (wpAny_call_entry F.slot_set_iter H.typeIs entry_set_iter ?_ (F.args_set_iter_1 _))
  unfold Builtin.«frozenset.__iter__» Builtin.Frozenset.slot0 slotArgs
  simp only [List.isEmpty_nil, Bool.not_true, Bool.false_eq_true, ↓reduceIte, bind_assoc, List.length_nil, bne_self_eq_false]
  unfold Builtin.Frozenset.addrOf Builtin.Frozenset.sizeOf
  refine wpAny_bind (wpAny_pure ?_)
  try dsimp only
  refine wpAny_bind (wpAny_pure ?_)
  refine wpAny_bind (wpAny_bind (wpAny_setEntries_of H.1 rfl H.fits (wpAny_pure ?_)))
  unfold setDrawn
  refine wpAny_bind (wpAny_bind (wpAny_setState_of H.1 rfl H.fits ?_))
  dsimp only
  unfold setsByText
  refine wpAny_bind (wpAny_bind (wpAny_askSetting (wpAny_pure ?_)))
  refine wpAny_pure ?_
  refine wpAny_ite_split (fun h9 => by rw [Bool.and_eq_true] at h9; exact absurd (show (false : Bool) = true from h9.2) Bool.false_ne_true) (fun _ => ?_)
  refine wpAny_bind (wpAny_pure ?_)
  unfold setEpoch
  refine wpAny_bind (wpAny_bind (wpAny_setState_of H.1 rfl H.fits (wpAny_pure ?_)))
  exact wpAny_bind (wpAny_newObj_type (wpAny_pure ⟨_, rfl, "set_iterator", _, ⟨_, Heap.get?_push_size _ rfl, rfl⟩, slot_set_iterator_next.lookup, hQ⟩))
theorem pyNext_set_item {i : Nat} {x : Int × Value} {Q : Option Value → Shared → Prop} (hit : IsSetIter w s.heap it S b i es.size ep) (H : SetAt s.heap S es ep b (ledOf w))
    (hx : (inOrder w S ep es)[i]? = some x) (hQ : ∀ h', IsSetIter w h' it S b (i + 1) es.size ep → Heap.SameBut it s.heap h' → Q (some x.2) { s with heap := h' }) :
    wpAny (model prog w) A (pyNext (.ref it)) Q E s := by
  obtain ⟨o, ho, hc, hd⟩ := id hit
  have hi : i < es.size := by
    have := (Array.getElem?_eq_some_iff.mp hx).1
    rw [inOrder_size] at this; exact this
  unfold pyNext
  refine wpAny_bind (wpAny_attempt (wpAny_callSpecial?_slot (name := Str.ofString "__next__") hit.typeIs slot_set_iterator_next
    (wpAny_call_entry slot_set_iterator_next hit.typeIs entry_set_iterator_next ?_ (args_set_iterator_next_1 _))))
  unfold Builtin.«set_iterator.__next__»
  refine wpAny_bind (wpAny_pure ?_)
  refine wpAny_bind (wpAny_fieldsOf ho hd ?_)
  dsimp only
  refine wpAny_bind (wpAny_setEntries_of H.1 rfl H.fits ?_)
  rw [if_neg (by simp)]
  refine wpAny_bind ?_
  have fin : wpAny (model prog w) A.in1 (setNext S (Int.toNat (slotAt w b i : Nat)) (Int.toNat (i : Nat)) (Int.toNat (ep : Nat))) (fun r s' => r = some (x.2, slotAt w b (i + 1)) ∧ s' = s) (fun _ _ => False) s := by
    unfold setNext
    refine wpAny_bind (wpAny_setState_of H.1 rfl H.fits ?_)
    dsimp only
    unfold setsByText
    refine wpAny_bind (wpAny_bind (wpAny_askSetting (wpAny_pure ?_)))
    dsimp only
    by_cases hb : (model prog w).w.params.followText "set-order" = true
    · have hl : ledOf w = false := by unfold ledOf; rw [show w.params.followText "set-order" = true from hb]; rfl
      rw [if_pos hb, if_neg (by simp)]
      unfold setWalk
      refine wpAny_bind (wpAny_bind (wpAny_setState_of H.1 rfl H.fits ?_))
      dsimp only
      unfold setsByText
      refine wpAny_bind (wpAny_bind (wpAny_askSetting (wpAny_pure ?_)))
      dsimp only
      rw [if_pos hb]
      refine wpAny_bind (wpAny_askSetting ?_)
      refine wpAny_pure ?_
      unfold inOrder at hx
      rw [if_neg (by rw [hl]; decide)] at hx
      refine wpAny_pure ⟨?_, rfl⟩
      simp only [Int.toNat_natCast]
      rw [show (pickOrder ((model prog w).w.params.setOrder S ep) es)[i]? = some x from hx]
      unfold slotAt
      rw [if_neg (by rw [hl]; decide), if_neg (by rw [hl]; decide)]
      rfl
    · have hl : ledOf w = true := by unfold ledOf; rw [show w.params.followText "set-order" = false from Bool.not_eq_true _ ▸ hb]; rfl
      rw [if_neg hb]
      refine wpAny_ite_split (fun h9 => absurd (show (false : Bool) = true from h9) Bool.false_ne_true) (fun _ => ?_)
      refine wpAny_bind (wpAny_of_eq (a := ()) (by rw [hl]; rfl) ?_)
      have hbel : SetTable.below (tabOf (plOf b) (ledOf w)).place (Int.toNat (slotAt w b i : Nat)) = i := by
        rw [Int.toNat_natCast]; exact below_at hl H.2.1 (by rw [H.2.2.1]; omega)
      simp only [hbel]
      unfold inOrder at hx
      rw [if_pos hl] at hx
      have hpi : i < (plOf b).size := by rw [H.2.2.1]; exact hi
      rw [hx, show (tabOf (plOf b) (ledOf w)).place[i]? = some ((plOf b).getD i 0) from by
        show (plOf b)[i]? = _
        rw [Array.getElem?_eq_getElem hpi, Array.getD_eq_getD_getElem?, Array.getElem?_eq_getElem hpi]; rfl]
      refine wpAny_pure ⟨?_, rfl⟩
      unfold slotAt
      rw [if_pos hl, if_neg (by omega)]
      rfl
  refine wpAny_mono fin (fun r s' hr => ?_) fun _ _ e => e.elim
  obtain ⟨rfl, rfl⟩ := hr
  dsimp only
  refine wpAny_bind (wpAny_setField ho hd (by simp) ?_)
  have ho1 := Heap.get?_update_self (Obj.mapFields (·.setIfInBounds 0 (rawInt (slotAt w b (i + 1) : Nat)))) ho (Obj.isFreed_of_fields (Obj.data_mapFields hd _))
  have hd1 := Obj.data_mapFields hd (·.setIfInBounds 0 (rawInt (slotAt w b (i + 1) : Nat)))
  refine wpAny_bind (wpAny_setField ho1 hd1 (by simp) ?_)
  refine wpAny_pure ⟨_, rfl, wpAny_pure (hQ _ ⟨_, Heap.get?_update_self _ ho1 (Obj.isFreed_of_fields (Obj.data_mapFields hd1 _)), (Obj.cls_mapFields ..).trans ((Obj.cls_mapFields ..).trans hc), ?_⟩ ((Heap.SameBut.update ..).trans (Heap.SameBut.update ..)))⟩
  rw [Obj.data_mapFields hd1]; simp [rawInt]
theorem pyNext_set_end {n : Nat} {Q : Option Value → Shared → Prop} (hh : A.handled = none) (hn : n = es.size) (hit : IsSetIter w s.heap it S b n es.size ep) (H : SetAt s.heap S es ep b (ledOf w))
    (hQ : ∀ h', Heap.ExtBut it s.heap h' → Q none { s with heap := h' }) :
    wpAny (model prog w) A (pyNext (.ref it)) Q E s := by
  subst hn
  obtain ⟨o, ho, hc, hd⟩ := id hit
  unfold pyNext
  refine wpAny_bind (wpAny_attempt (wpAny_callSpecial?_slot (name := Str.ofString "__next__") hit.typeIs slot_set_iterator_next
    (wpAny_call_entry slot_set_iterator_next hit.typeIs entry_set_iterator_next ?_ (args_set_iterator_next_1 _))))
  unfold Builtin.«set_iterator.__next__»
  refine wpAny_bind (wpAny_pure ?_)
  refine wpAny_bind (wpAny_fieldsOf ho hd ?_)
  dsimp only
  refine wpAny_bind (wpAny_setEntries_of H.1 rfl H.fits ?_)
  rw [if_neg (by simp)]
  refine wpAny_bind ?_
  have fin : wpAny (model prog w) A.in1 (setNext S (Int.toNat (slotAt w b es.size : Nat)) (Int.toNat (es.size : Nat)) (Int.toNat (ep : Nat))) (fun r s' => r = none ∧ s' = s) (fun _ _ => False) s := by
    unfold setNext
    refine wpAny_bind (wpAny_setState_of H.1 rfl H.fits ?_)
    dsimp only
    unfold setsByText
    refine wpAny_bind (wpAny_bind (wpAny_askSetting (wpAny_pure ?_)))
    dsimp only
    by_cases hb : (model prog w).w.params.followText "set-order" = true
    · have hl : ledOf w = false := by unfold ledOf; rw [show w.params.followText "set-order" = true from hb]; rfl
      rw [if_pos hb, if_neg (by simp)]
      unfold setWalk
      refine wpAny_bind (wpAny_bind (wpAny_setState_of H.1 rfl H.fits ?_))
      dsimp only
      unfold setsByText
      refine wpAny_bind (wpAny_bind (wpAny_askSetting (wpAny_pure ?_)))
      dsimp only
      rw [if_pos hb]
      refine wpAny_bind (wpAny_askSetting ?_)
      refine wpAny_pure ?_
      have hsz := inOrder_size w S ep es
      unfold inOrder at hsz
      rw [if_neg (by rw [hl]; decide)] at hsz
      refine wpAny_pure ⟨?_, rfl⟩
      simp only [Int.toNat_natCast]
      rw [show (pickOrder ((model prog w).w.params.setOrder S ep) es)[es.size]? = none from Array.getElem?_eq_none (Nat.le_of_eq hsz)]
      rfl
    · have hl : ledOf w = true := by unfold ledOf; rw [show w.params.followText "set-order" = false from Bool.not_eq_true _ ▸ hb]; rfl
      rw [if_neg hb]
      refine wpAny_ite_split (fun h9 => absurd (show (false : Bool) = true from h9) Bool.false_ne_true) (fun _ => ?_)
      refine wpAny_bind (wpAny_of_eq (a := ()) (by rw [hl]; rfl) ?_)
      have hbel : SetTable.below (tabOf (plOf b) (ledOf w)).place (Int.toNat (slotAt w b es.size : Nat)) = es.size := by
        rw [Int.toNat_natCast]; exact below_at hl H.2.1 (by rw [H.2.2.1]; omega)
      simp only [hbel]
      rw [Array.getElem?_eq_none (Nat.le_refl _)]
      exact wpAny_pure ⟨rfl, rfl⟩
  refine wpAny_mono fin (fun r s' hr => ?_) fun _ _ e => e.elim
  obtain ⟨rfl, rfl⟩ := hr
  dsimp only
  refine wpAny_bind (wpAny_setField ho hd (by simp) ?_)
  show wpAny _ _ (newExc (.type "StopIteration") [] >>= _) _ _ _
  refine wpAny_bind ?_
  simp only [newExc, newTuple]
  refine wpAny_bind (wpAny_newObj_type ?_ (by size_fits))
  refine wpAny_bind (m := firstArgMember _ _) (wpAny_of_eq (a := Value.none) (by first | rfl | (simp only [firstArgMember]; rfl)) ?_)
  refine wpAny_newObj_type ?_ (by size_fits)
  simp only [raiseNew]
  refine wpAny_bind (wpAny_handled ?_)
  first | rw [show A.in1.handled = none from hh] | rw [hh]
  refine wpAny_bind (wpAny_pure (wpAny_throw ?_))
  refine wpAny_bind (wpAny_isInstance (T := "StopIteration") (b := true) ⟨_, Heap.get?_push_size _ rfl, rfl⟩ isSubtype_stop ?_)
  exact wpAny_pure (hQ _ (((Heap.SameBut.update ..).extBut.push _).push _))
end
end Mine

end
section
-- part SX5
open PySem PySem.W PyProof.Rows PySem.Spec PySem.Calls
open AutoSeq1 (wpAny_loadPart')
set_option Elab.async false
set_option maxRecDepth 100000
namespace Mine
section
variable {prog : Program} {w : World} {A : Around} {E : Value → Shared → Prop} {s : Shared}
theorem hint_set {r : Addr} {Q : Bool → Shared → Prop} (hT : s.TypeIs (.ref r) "set") (h : Q false s) : wpAny (model prog w) A (Builtin.List.listLengthHint (.ref r)) Q E s := by
  unfold Builtin.List.listLengthHint
  refine wpAny_bind (wpAny_specialOf hT PySem.F.slot_set_len.lookup ?_)
  generalize hid : ("set.__len__" : String) = id0
  wp_delta
  rw [show splitId id0 = some ("set", "__len__") from by subst hid; decide +kernel]
  subst hid
  refine wpAny_bind (wpAny_isInstance (T := "set") (b := true) hT (by rw [isSubtype_type]; kernel_rfl) ?_)
  refine wpAny_ite_split (fun hab => absurd hab (by decide)) (fun _ => ?_)
  refine wpAny_ite_split (fun _ => ?_) (fun hab => absurd (by decide +kernel) hab)
  refine wpAny_bind (wpAny_typeOf hT ?_)
  exact wpAny_pure h
theorem slot_zero {w : World} {b : Nat} : slotAt w b 0 = 0 := by unfold slotAt; split <;> rfl
theorem walks_set (hh : A.handled = none) (I S : Addr) (hne : S ≠ I) (es : Array (Int × Value)) (ep b : Nat) :
    Walks prog w A I [I, S] [I] es.size (fun i v => ∃ h, (inOrder w S ep es)[i]? = some (h, v)) (fun i h => IsSetIter w h I S b i es.size ep ∧ SetAt h S es ep b (ledOf w)) where
  sub := fun b hb => by simp at hb; simp [hb]
  frame := fun _ _ _ st hk => ⟨let ⟨o, ho, r⟩ := st.1; ⟨o, hk I (by simp) o ho, r⟩, hk S (by simp) _ st.2.1, st.2.2⟩
  item := fun i s Q E hi st hQ => by
    have hi' : i < (inOrder w S ep es).size := by rw [inOrder_size]; exact hi
    refine pyNext_set_item st.1 st.2 (x := (inOrder w S ep es)[i]) (by simp [hi']) fun h' hit' hs' => ?_
    exact hQ _ h' s.toks ⟨_, by simp [hi']; rfl⟩ ⟨hit', hs'.extBut _ _ hne st.2.1, st.2.2⟩ fun b o hb e => hs'.extBut b o (fun h => hb (by simp [h])) e
  done := fun s Q E st hQ => pyNext_set_end hh rfl st.1 st.2 fun h' he' => hQ h' s.toks fun b o hb e => he' b o (fun h => hb (by simp [h])) e
  self := fun i s Q E st hQ => by
    refine wpAny_pyIter_slot st.1.typeIs slot_set_iterator_iter (wpAny_call_entry slot_set_iterator_iter st.1.typeIs entry_set_iterator_iter ?_ (args_set_iterator_iter_1 _))
    show wpAny _ _ (ret (.ref I)) _ _ s
    exact wpAny_pure ⟨_, rfl, "set_iterator", _, st.1.typeIs, slot_set_iterator_next.lookup, hQ⟩
theorem src_set {S : Addr} {es : Array (Int × Value)} {ep b : Nat} : KdlSrc prog w "set" S S es.size (fun i v => ∃ h, (inOrder w S ep es)[i]? = some (h, v)) (fun h => SetAt h S es ep b (ledOf w)) where
  type := fun _ hm => hm.typeIs
  there := fun _ hm => ⟨Heap.lt_size hm.1, Heap.lt_size hm.1⟩
  keep := fun _ _ hm hk => ⟨hk S (.inl rfl) _ hm.1, hm.2⟩
  notList := by decide
  notTuple := by decide
  hint := fun _ _ _ _ hm hq => hint_set hm.typeIs hq
  iter := fun _ _ hh hm => ⟨_, _, (fun _ _ hq => pyIter_set hm hq), walks_set hh _ S (Nat.ne_of_lt (Heap.lt_size hm.1)) es ep b, ⟨⟨_, Heap.get?_push_size _ rfl, rfl, by rw [slot_zero]; rfl⟩, Heap.get?_push_of_some _ hm.1, hm.2⟩⟩
theorem meets_tuple_set {S : Addr} {led : Bool} {ms : List Int} (hled : led = ledOf w) :
    MeetsIn prog w (Builtin.«tuple.__new__» ⟨[.type "tuple", .ref S], []⟩) (fun A R s => A.handled = none ∧ SetIs prog w s.heap S led ms ∧
      ∀ (h' : Heap) (tk : Nat) (vs : List Value) (us : List Int), (∀ b o', s.heap.get? b = some o' → h'.get? b = some o') → IntsAre vs us → List.Perm us ms → R (.ok (.ret (.ref h'.objs.size))) { s with heap := h'.push { cls := .type "tuple", data := .seq vs.toArray }, toks := tk }) :=
  .of_wp fun A R s ⟨hh, hS, h⟩ => by
    subst hled
    obtain ⟨hp, g, d, tk, os⟩ := s
    obtain ⟨es, ep, b, ho, hb, hpl, h4, hi, hel, hnd⟩ := id hS
    have H : SetAt hp S es ep b (ledOf w) := ⟨ho, hb, hpl, h4⟩
    have hsub := sub_tuple_self
    have hinit := init_tuple_lookup
    have hmh := madeHere_tuple
    have hT : Shared.TypeIs ⟨hp, g, d, tk, os⟩ (.ref S) "set" := H.typeIs
    obtain ⟨us, hus, hup⟩ := ints_perm ((inOrder_perm w S ep es).map (·.2)) hi
    unfold Builtin.«tuple.__new__»
    generalize hPC : collect = PC
    wp_walk using wpAny_loadPart' ho, wpAny_typeOf hT
    subst hPC
    refine kdu_collect (A := A.in1) (s := ⟨hp, g, d, tk, os⟩) (src_set (prog := prog) (w := w) (S := S) (es := es) (ep := ep) (b := b)) hh H (by rw [sizeLine_eq]; omega) fun h' tk acc hk hacc => ?_
    have hacc' : acc.toList = (inOrder w S ep es).toList.map (·.2) := by
      refine List.ext_getElem? fun j => ?_
      rw [List.getElem?_map, Array.getElem?_toList, Array.getElem?_toList]
      by_cases hj : j < acc.size
      · obtain ⟨hh, e⟩ := hacc.2 j _ (Array.getElem?_eq_getElem hj)
        rw [e, Array.getElem?_eq_getElem hj]; rfl
      · rw [Array.getElem?_eq_none (by omega), Array.getElem?_eq_none (by rw [inOrder_size]; rw [hacc.1] at hj; omega)]; rfl
    show wpAny _ _ (Builtin.Tuple.tupleExact acc.toList.toArray >>= fun v => ret v) _ _ _
    unfold Builtin.Tuple.tupleExact
    refine wpAny_bind (wpAny_newObj_type ?_ (by show acc.toList.toArray.size ≤ sizeLine; rw [sizeLine_eq]; simp only [Array.toArray_toList]; rw [hacc.1]; omega))
    exact wpAny_pure ⟨_, rfl, h h' tk acc.toList us hk (by rw [hacc']; exact hus) hup⟩
end
end Mine

end
section
-- part SX6
open PySem PySem.W PyProof.Rows PySem.Spec PySem.Calls
set_option Elab.async false
set_option maxRecDepth 100000
namespace Mine
/-- a set's object: the law's few small ints, no double -/
def SetObj (prog : Program) (w : World) (o : Obj) (ms : List Int) : Prop :=
  ∃ es ep b, o = { cls := .type "set", dict := none, data := .set es ep (tabOf (plOf b) (ledOf w)), slots := #[] } ∧ b < 256 ∧ (plOf b).size = es.size ∧ es.size ≤ 4 ∧ IntsAre (es.toList.map (·.2)) ms ∧ ElemsOf (intKind prog w) es.toList ∧ ms.Nodup
section
variable {prog : Program} {w : World} {A : Around} {E : Value → Shared → Prop} {s : Shared} {h₀ : Heap} {L l : Addr} {m : Str → Option Value} {news : List (Addr × Obj)} {Q : Value → Shared → Prop}
theorem setOf {vs : List Value} {ns : List Int} (F : Fr h₀ L s.heap m) (N : News h₀ L s.heap news) (hh : A.handled = none) (hl : IsTup s.heap l vs.toArray) (hi : IntsAre vs ns) (hn : ns.length ≤ 4) (hr : ∀ x ∈ ns, 1 ≤ x ∧ x ≤ 16)
    (h : ∀ S h' tk o ms, Fr h₀ L h' m → News h₀ L h' ((S, o) :: news) → SetObj prog w o ms → (∀ x, x ∈ ms ↔ x ∈ ns) → (∀ p ∈ news, p.1 < S) → Q (.ref S) { s with heap := h', toks := tk }) :
    wpAny (model prog w) A (call (.type "set") [.ref l]) Q E s := by
  obtain ⟨ol, hol, hcl, nl, hdl⟩ := hl
  refine call_set_tuple hh ⟨ol, hol, hcl, nl, hdl⟩ (by simpa using hi) hn hr fun h' tk ms hS hm hk => ?_
  obtain ⟨es, ep, b, ho, r⟩ := hS
  obtain ⟨oL, _, _, hL, _⟩ := F.ns
  have hLlt : L < s.heap.objs.size := Heap.lt_size hL
  refine h s.heap.objs.size h' tk _ ms ⟨F.ns.at' fun o' e => hk L o' hLlt e, fun b o' e => hk b o' (Heap.lt_size (F.keep b o' e)) (F.keep b o' e), F.above⟩ (fun p hp => ?_) ⟨es, ep, b, rfl, r⟩ hm (fun p hp => Heap.lt_size (N p hp).1)
  rcases List.mem_cons.mp hp with rfl | hp
  · refine ⟨ho, Nat.ne_of_gt hLlt, ?_⟩
    cases hq : h₀.get? s.heap.objs.size with
    | none => rfl
    | some o' => exact absurd (Heap.lt_size (F.keep _ _ hq)) (Nat.lt_irrefl _)
  · exact ⟨hk _ _ (Heap.lt_size (N p hp).1) (N p hp).1, (N p hp).2.1, (N p hp).2.2⟩
theorem tupleOfSet {o : Obj} {ms : List Int} (Fm : Fr h₀ L s.heap m) (N : News h₀ L s.heap news) (hh : A.handled = none) (hl : s.heap.get? l = some o) (ho : SetObj prog w o ms)
    (h : ∀ P h' tk vs us, Fr h₀ L h' m → News h₀ L h' ((P, { cls := .type "tuple", data := .seq vs.toArray }) :: news) → IntsAre vs us → List.Perm us ms → us.Nodup → (∀ p ∈ news, p.1 < P) → Q (.ref P) { s with heap := h', toks := tk }) :
    wpAny (model prog w) A (call (.type "tuple") [.ref l]) Q E s := by
  obtain ⟨es, ep, b, rfl, r⟩ := ho
  refine callType_codes (Q₁ := fun obj s₁ => s₁.TypeIs obj "tuple" ∧ Q obj s₁) F.called_tuple (F.typeCall_tuple_1 _) F.entry_object_init
    (codeAny_call_builtin F.called_tuple.plain F.entry_tuple_new (wpAny_of_eq (F.newCall_tuple_1 _) (meets_tuple_set (S := l) (led := ledOf w) (ms := ms) rfl A.in1 (wants (fun obj s₁ => s₁.TypeIs obj "tuple" ∧ Q obj s₁) E) s ⟨hh, ⟨es, ep, b, hl, r⟩, fun h' tk vs us hk hi hp => ?_⟩))) fun obj s₁ h₁ => ?_
  · refine ⟨⟨_, Heap.get?_push_size _ rfl, rfl⟩, ?_⟩
    have F' : Fr h₀ L h' m := Fm.keeps hk
    have N' : News h₀ L h' news := fun p hp => ⟨hk _ _ (N p hp).1, (N p hp).2⟩
    exact h _ _ tk vs us (F'.push _) (N'.push F' _) hi hp (hp.nodup_iff.mpr r.2.2.2.2.2) fun p hp => Heap.lt_size (N' p hp).1
  · exact ⟨h₁.1, F.args_object_init_2 obj _, object_init_meets F.called_tuple.init.lookup F.called_tuple.made (by decide) prog w A.in1 _ s₁ ⟨h₁.1, rfl, h₁.2⟩⟩
end
end Mine

end
section
-- part PC
open PySem PySem.W PyProof.Rows PySem.Spec PySem.Calls PyProof.Rows.LCg PyProof.Rows.LCt
set_option Elab.async false
set_option maxRecDepth 100000
namespace Mine
abbrev tupO (its : Array Value) (n : Nat) : Obj := { cls := .type "tuple", data := .seq its n }
/-- the source is a tuple of the ledger -/
def SrcTup (ax : Addr) (its : Array Value) (news : List (Addr × Obj)) : Prop := ∃ n, (ax, tupO its n) ∈ news
section
variable {prog : Program} {w : World} {A : Around} {E : Value → Shared → Prop} {s : Shared} {h₀ : Heap} {L ax : Addr} {m : Str → Option Value} {env : Env} {news : List (Addr × Obj)} {its : Array Value}
theorem SrcTup.tup {h : Heap} (x : SrcTup ax its news) (N : News h₀ L h news) : h.IsTuple ax its := let ⟨n, hm⟩ := x; ⟨_, (N _ hm).1, rfl, n, rfl⟩
theorem tup_st {I : Addr} : ∀ i (h h' : Heap) (o : Obj) (nw : List (Addr × Obj)), (h.IsTupleIter I ax i ∧ h.IsTuple ax its) → h.get? I = some o → h'.get? I = some o → (∀ b o, h₀.get? b = some o → h'.get? b = some o) → News h₀ L h' nw → SrcTup ax its nw → (h'.IsTupleIter I ax i ∧ h'.IsTuple ax its) :=
  fun i h h' o nw st e e' _ N S => ⟨by obtain ⟨o', q, r⟩ := st.1; rw [e] at q; cases q; exact ⟨o, e', r⟩, S.tup N⟩
theorem comp_ends {s₁ : Shared} {Q : Value → Shared → Prop} {D C : Addr} {h : Heap} {tk : Nat} {m' : Str → Option Value} {ys : List Value} {news' : List (Addr × Obj)} (F' : Fr h₀ L h m) (N' : News h₀ L h ((D, lst ys) :: news')) (o1 : Off1 D news') (hn : h.Ns C m')
    (hC₀ : h₀.get? C = none) (hCL : C ≠ L) (hCD : C ≠ D) (offC : ∀ p ∈ news', p.1 ≠ C) (fin : FinE h₀ L m s₁ Q ys news') :
    ∃ m'', h.Ns C m'' ∧ ∀ h'', Heap.SameBut C h h'' → Q (.ref D) { s₁ with heap := h'', toks := tk } := by
  refine ⟨m', hn, fun h'' hs'' => fin D h'' tk (F'.change hs'' hCL hC₀) (fun p hp => ?_) o1⟩
  refine ⟨hs''.extBut _ _ ?_ (N' p hp).1, (N' p hp).2⟩
  rcases List.mem_cons.mp hp with rfl | hp
  · exact Ne.symm hCD
  · exact offC p hp
theorem comp_tup {elt iter : Expr} {x : Str} {px : Pos} {scope : Scope} {cl : List (Str × Addr)} {pos : Pos} {Q : Value → Shared → Prop} {n : Nat} (F : Fr h₀ L s.heap m) (N : News h₀ L s.heap news) (hh : A.handled = none)
    (hclos : closureFor scope env = pure cl) (hcell : ∀ y ∈ scope.names, y.2 ≠ .cell) (hkind : scope.kind = .function)
    (hnames : ∀ y ∈ scope.names, y.2 = .local → scope.names.lookup y.1 = some .local) (hx : scope.names.lookup x = some .local)
    (hit : ∀ (Q' : Value → Shared → Prop), Q' (.ref ax) s → wpAny (model prog w) A (eval iter env) Q' E s) (hm : (ax, tupO its n) ∈ news) (hsz : its.size ≤ sizeLine)
    (R : ∀ g, CompRest prog w A h₀ L m env elt x scope cl { s with heap := g } (SrcTup ax its) (fun i v => its[i]? = some v) (FinE h₀ L m { s with heap := g } Q) its.size 0 [] news)
    (hs : ∀ x, foldedSetIterable iter env x = pure x := by intro _; rfl) :
    wpAny (model prog w) A (eval (.ListComp elt [⟨.Name x px, iter, [], 0⟩] scope pos) env) Q E s := by
  rw [eval_ListComp]
  refine wpAny_comprehension_free (use := none) rfl hs hclos hkind hnames (hit _ ?_)
  have S : SrcTup ax its news := ⟨n, hm⟩
  have hl := S.tup N
  have hlt : ax < s.heap.objs.size := by obtain ⟨_, e, _⟩ := hl; exact Heap.lt_size e
  refine wpAny_pyIter_tuple hl ?_
  have up : ∀ b o, s.heap.get? b = some o → (s.heap.push { cls := .type "tuple_iterator", data := .fields #[.ref ax, .int 0 0] }).get? b = some o := fun b o e => Heap.get?_push_of_some _ e
  refine block_U (Walks.tuple hh s.heap.objs.size ax (Nat.ne_of_lt hlt) its) hsz (fun i h st => by obtain ⟨o, e, _⟩ := st.1; exact ⟨o, e⟩) tup_st hcell hkind hx ⟨⟨_, Heap.get?_push_size _ rfl, rfl, rfl⟩, hl.push _⟩ (fun b hb => ?_)
    (F.keeps up) (N.grown up) (Nat.ne_of_lt F.ns.lt) (next_is_new F) (fun p hp => Nat.ne_of_lt (Heap.lt_size (N p hp).1)) S (R _) ?_
  · show b < (s.heap.push _).objs.size
    rw [Heap.size_push]
    rcases List.mem_cons.mp hb with rfl | hb
    · exact Nat.lt_succ_self _
    · rw [List.mem_singleton.mp hb]; exact Nat.lt_succ_of_lt hlt
  · intro D C h tk m' ys news' F' N' o1 hn hC₀ hD₀ hCL hDL hCD offC fin
    exact comp_ends F' N' o1 hn hC₀ hCL hCD offC fin
theorem comp_tupT {ct elt iter : Expr} {x : Str} {px : Pos} {scope : Scope} {cl : List (Str × Addr)} {pos : Pos} {Q : Value → Shared → Prop} {n : Nat} (F : Fr h₀ L s.heap m) (N : News h₀ L s.heap news) (hh : A.handled = none)
    (hclos : closureFor scope env = pure cl) (hcell : ∀ y ∈ scope.names, y.2 ≠ .cell) (hkind : scope.kind = .function)
    (hnames : ∀ y ∈ scope.names, y.2 = .local → scope.names.lookup y.1 = some .local) (hx : scope.names.lookup x = some .local)
    (hit : ∀ (Q' : Value → Shared → Prop), Q' (.ref ax) s → wpAny (model prog w) A (eval iter env) Q' E s) (hm : (ax, tupO its n) ∈ news) (hsz : its.size ≤ sizeLine)
    (R : ∀ g, CompRestT prog w A h₀ L m env ct elt x scope cl { s with heap := g } (SrcTup ax its) (fun i v => its[i]? = some v) (FinE h₀ L m { s with heap := g } Q) its.size 0 [] news)
    (hs : ∀ x, foldedSetIterable iter env x = pure x := by intro _; rfl) :
    wpAny (model prog w) A (eval (.ListComp elt [⟨.Name x px, iter, [ct], 0⟩] scope pos) env) Q E s := by
  rw [eval_ListComp]
  refine wpAny_comprehension_free (use := none) rfl hs hclos hkind hnames (hit _ ?_)
  have S : SrcTup ax its news := ⟨n, hm⟩
  have hl := S.tup N
  have hlt : ax < s.heap.objs.size := by obtain ⟨_, e, _⟩ := hl; exact Heap.lt_size e
  refine wpAny_pyIter_tuple hl ?_
  have up : ∀ b o, s.heap.get? b = some o → (s.heap.push { cls := .type "tuple_iterator", data := .fields #[.ref ax, .int 0 0] }).get? b = some o := fun b o e => Heap.get?_push_of_some _ e
  refine block_T (Walks.tuple hh s.heap.objs.size ax (Nat.ne_of_lt hlt) its) hsz (fun i h st => by obtain ⟨o, e, _⟩ := st.1; exact ⟨o, e⟩) tup_st hcell hkind hx ⟨⟨_, Heap.get?_push_size _ rfl, rfl, rfl⟩, hl.push _⟩ (fun b hb => ?_)
    (F.keeps up) (N.grown up) (Nat.ne_of_lt F.ns.lt) (next_is_new F) (fun p hp => Nat.ne_of_lt (Heap.lt_size (N p hp).1)) S (R _) ?_
  · show b < (s.heap.push _).objs.size
    rw [Heap.size_push]
    rcases List.mem_cons.mp hb with rfl | hb
    · exact Nat.lt_succ_self _
    · rw [List.mem_singleton.mp hb]; exact Nat.lt_succ_of_lt hlt
  · intro D C h tk m' ys news' F' N' o1 hn hC₀ hD₀ hCL hDL hCD offC fin
    exact comp_ends F' N' o1 hn hC₀ hCL hCD offC fin
end
end Mine

end
section
-- part PC2
open PySem PySem.W PyProof.Rows PySem.Spec PySem.Calls PyProof.Rows.LCg PyProof.Rows.LCt
set_option Elab.async false
set_option maxRecDepth 100000
namespace Mine
def PairAt (rows : List (Addr × Obj)) (t : Int) (v : Value) (d : Int) : Prop := ∃ q t1 t2 n, v = .ref q ∧ (q, tupO #[.int d t1, .int t t2] n) ∈ rows
inductive PairsIn (rows : List (Addr × Obj)) (t : Int) : List Value → List Int → Prop
  | nil : PairsIn rows t [] []
  | cons {v : Value} {d : Int} {vs : List Value} {ds : List Int} : PairAt rows t v d → PairsIn rows t vs ds → PairsIn rows t (v :: vs) (d :: ds)
theorem PairsIn.mono {rows rows' : List (Addr × Obj)} {t : Int} {vs : List Value} {ds : List Int} (h : PairsIn rows t vs ds) (k : ∀ p ∈ rows, p ∈ rows') : PairsIn rows' t vs ds := by
  induction h with
  | nil => exact .nil
  | cons a _ ih => obtain ⟨q, t1, t2, n, e, m⟩ := a; exact .cons ⟨q, t1, t2, n, e, k _ m⟩ ih
theorem PairsIn.snoc {rows : List (Addr × Obj)} {t : Int} {vs : List Value} {ds : List Int} {v : Value} {d : Int} (h : PairsIn rows t vs ds) (a : PairAt rows t v d) : PairsIn rows t (vs ++ [v]) (ds ++ [d]) := by
  induction h with
  | nil => exact .cons a .nil
  | cons b _ ih => exact .cons b ih
theorem PairsIn.reads {rows : List (Addr × Obj)} {h : Heap} {t : Int} {vs : List Value} {ds : List Int} (H : PairsIn rows t vs ds) (k : ∀ p ∈ rows, h.get? p.1 = some p.2) : ReadsAll h vs (ds.map fun d => PyData.tuple [.int d, .int t]) [] := by
  induction H with
  | nil => exact .nil
  | cons a _ ih =>
    obtain ⟨q, t1, t2, n, rfl, m⟩ := a
    exact .cons (as := []) (bs := []) (.tuple (k _ m) rfl rfl (.cons (as := []) (bs := []) (.int _ _) (.cons (as := []) (bs := []) (.int _ _) .nil))) ih
section
variable {prog : Program} {w : World} {A : Around} {E : Value → Shared → Prop} {s : Shared} {h₀ : Heap} {L ax c : Addr} {m : Str → Option Value} {env : Env} {news : List (Addr × Obj)} {vs : List Value} {ks : List Int} {t : Int} {tt : Tok} {oc : Obj}
theorem pairs_comp {iter : Expr} {x y : Str} {px p1 p2 p3 pos : Pos} {kx : Nat} {scope : Scope} {cl : List (Str × Addr)} {Q : Value → Shared → Prop} {n : Nat} (F : Fr h₀ L s.heap m) (N : News h₀ L s.heap news) (hh : A.handled = none)
    (hclos : closureFor scope env = pure cl) (hcell : ∀ y ∈ scope.names, y.2 ≠ .cell) (hkind : scope.kind = .function)
    (hnames : ∀ y ∈ scope.names, y.2 = .local → scope.names.lookup y.1 = some .local) (hx : scope.names.lookup x = some .local)
    (hit : ∀ (Q' : Value → Shared → Prop), Q' (.ref ax) s → wpAny (model prog w) A (eval iter env) Q' E s) (hm : (ax, tupO vs.toArray n) ∈ news) (hi : IntsAre vs ks) (hl : ks.length ≤ 64)
    (hcl : cl.lookup y = some c) (hc : (c, oc) ∈ news) (hd : oc.data = .cell (some (.int t tt)))
    (hkk : ∀ C, (compEnvC scope cl C env).scope.kind = .function) (hkx : ∀ C, (compEnvC scope cl C env).kindOf x = some .local) (hky : ∀ C, (compEnvC scope cl C env).kindOf y = some .cell)
    (hdx : (x == ("__debug__" : Str)) = false) (hdy : (y == ("__debug__" : Str)) = false)
    (h : ∀ D h' tk' ys rows, Fr h₀ L h' m → News h₀ L h' ((D, lst ys) :: (rows ++ news)) → PairsIn rows t ys ks → (∀ p ∈ rows ++ news, p.1 ≠ D) → Q (.ref D) { s with heap := h', toks := tk' })
    (hs : ∀ x, foldedSetIterable iter env x = pure x := by intro _; rfl) :
    wpAny (model prog w) A (eval (.ListComp (.Tuple [.Name x p1, .Name y p2] kx p3) [⟨.Name x px, iter, [], 0⟩] scope pos) env) Q E s := by
  have hlen : vs.length = ks.length := hi.length
  refine comp_tup F N hh hclos hcell hkind hnames hx hit hm (by rw [List.size_toArray, sizeLine_eq]; omega) (fun g => ?_) hs
  have key : ∀ (j i : Nat) (ys : List Value) (rows : List (Addr × Obj)), i + j = vs.toArray.size → PairsIn rows t ys (ks.take i) →
      CompRest prog w A h₀ L m env (.Tuple [.Name x p1, .Name y p2] kx p3) x scope cl { s with heap := g } (SrcTup ax vs.toArray) (fun i v => vs.toArray[i]? = some v) (FinE h₀ L m { s with heap := g } Q) j i ys (rows ++ news) := by
    intro j
    induction j with
    | zero =>
      intro i ys rows hij P
      rw [List.size_toArray] at hij
      rw [List.take_of_length_le (by omega)] at P
      exact CompRest.zero fun D h' tk F' N' o1 => h D h' tk ys rows F' N' P fun p hp => by
        have : ∀ {l : List (Addr × Obj)}, Off1 D l → ∀ p ∈ l, p.1 ≠ D := by
          intro l
          induction l with
          | nil => intro _ p hp; cases hp
          | cons a r ih => intro o p hp; rcases List.mem_cons.mp hp with rfl | hp; exact o.1; exact ih o.2 p hp
        exact this o1 p hp
    | succ j ih =>
      intro i ys rows hij P
      rw [List.size_toArray] at hij
      refine CompRest.succ ?_
      intro v I oI C oC D m₂ h1 tk E' hv hC hx1 F1 N1 off ne
      obtain ⟨k, t1, rfl, hk⟩ := IntsAre.at hi i v (by simpa using hv)
      have N3 : News h₀ L h1 (rows ++ news) := fun p hp => N1 p (.tail _ (.tail _ (.tail _ hp)))
      refine wpAny_Tuple (wpAny_items_cons (wpAny_Name (wpAny_loadName_local (hkk C) (hkx C) (hC.ns (N1 (C, oC) (.tail _ (.head _))).1) hx1 ?_) hdx))
      refine wpAny_items_cons (kcf_cell (s := { s with heap := h1, toks := tk }) N3 hcl (List.mem_append_right _ hc) hd ?_ (hkk C) (hky C) hdy)
      refine wpAny_items_nil ⟨by rw [sizeLine_eq]; simp, ?_⟩
      refine LCg.CompEnd.intro (s₁ := { s with heap := h1, toks := tk }) (tk := tk) (F1.push _) (N1.push F1 _) ((h1.objs.size, tupO #[.int k t1, .int t tt] 0) :: (rows ++ news)) (fun p hp => ?_) ⟨⟨?_, ?_, ?_⟩, off⟩ ⟨n, .tail _ (List.mem_append_right _ hm)⟩ ?_
      · rcases List.mem_cons.mp hp with rfl | hp
        · exact .tail _ (.head _)
        rcases List.mem_cons.mp hp with rfl | hp
        · exact .tail _ (.tail _ (.head _))
        rcases List.mem_cons.mp hp with rfl | hp
        · exact .tail _ (.tail _ (.tail _ (.head _)))
        rcases List.mem_cons.mp hp with rfl | hp
        · exact .head _
        · exact .tail _ (.tail _ (.tail _ (.tail _ hp)))
      · exact Nat.ne_of_gt (Heap.lt_size (N1 (I, oI) (.head _)).1)
      · exact Nat.ne_of_gt (Heap.lt_size (N1 (C, oC) (.tail _ (.head _))).1)
      · exact Nat.ne_of_gt (Heap.lt_size (N1 (D, lst ys) (.tail _ (.tail _ (.head _)))).1)
      · refine ih (i + 1) _ ((h1.objs.size, tupO #[.int k t1, .int t tt] 0) :: rows) (by rw [List.size_toArray]; omega) ?_
        rw [List.take_add_one, hk]
        exact (P.mono fun p hp => .tail _ hp).snoc ⟨h1.objs.size, t1, tt, 0, rfl, .head _⟩
  exact key vs.toArray.size 0 [] [] (by omega) .nil
theorem filter_comp {iter : Expr} {x y : Str} {px p1 p2 p3 p4 pos : Pos} {scope : Scope} {cl : List (Str × Addr)} {Q : Value → Shared → Prop} {n : Nat} (F : Fr h₀ L s.heap m) (N : News h₀ L s.heap news) (hh : A.handled = none)
    (hclos : closureFor scope env = pure cl) (hcell : ∀ y ∈ scope.names, y.2 ≠ .cell) (hkind : scope.kind = .function)
    (hnames : ∀ y ∈ scope.names, y.2 = .local → scope.names.lookup y.1 = some .local) (hx : scope.names.lookup x = some .local)
    (hit : ∀ (Q' : Value → Shared → Prop), Q' (.ref ax) s → wpAny (model prog w) A (eval iter env) Q' E s) (hm : (ax, tupO vs.toArray n) ∈ news) (hi : IntsAre vs ks) (hl : ks.length ≤ 64)
    (hcl : cl.lookup y = some c) (hc : (c, oc) ∈ news) (hd : oc.data = .cell (some (.int t tt)))
    (hkk : ∀ C, (compEnvC scope cl C env).scope.kind = .function) (hkx : ∀ C, (compEnvC scope cl C env).kindOf x = some .local) (hky : ∀ C, (compEnvC scope cl C env).kindOf y = some .cell)
    (hdx : (x == ("__debug__" : Str)) = false) (hdy : (y == ("__debug__" : Str)) = false)
    (h : ∀ D h' tk' ys, Fr h₀ L h' m → News h₀ L h' ((D, lst ys) :: news) → IntsAre ys (ks.filter (fun k => k != t)) → (∀ p ∈ news, p.1 ≠ D) → Q (.ref D) { s with heap := h', toks := tk' })
    (hs : ∀ x, foldedSetIterable iter env x = pure x := by intro _; rfl) :
    wpAny (model prog w) A (eval (.ListComp (.Name x p1) [⟨.Name x px, iter, [.Compare (.Name x p2) [.NotEq] [.Name y p3] p4], 0⟩] scope pos) env) Q E s := by
  have hlen : vs.length = ks.length := hi.length
  refine comp_tupT F N hh hclos hcell hkind hnames hx hit hm (by rw [List.size_toArray, sizeLine_eq]; omega) (fun g => ?_) hs
  have key : ∀ (j i : Nat) (ys : List Value), i + j = vs.toArray.size → IntsAre ys ((ks.take i).filter (fun k => k != t)) →
      CompRestT prog w A h₀ L m env (.Compare (.Name x p2) [.NotEq] [.Name y p3] p4) (.Name x p1) x scope cl { s with heap := g } (SrcTup ax vs.toArray) (fun i v => vs.toArray[i]? = some v) (FinE h₀ L m { s with heap := g } Q) j i ys news := by
    intro j
    induction j with
    | zero =>
      intro i ys hij P
      rw [List.size_toArray] at hij
      rw [List.take_of_length_le (by omega)] at P
      exact CompRestT.zero fun D h' tk F' N' o1 => h D h' tk ys F' N' P fun p hp => by
        have : ∀ {l : List (Addr × Obj)}, Off1 D l → ∀ p ∈ l, p.1 ≠ D := by
          intro l
          induction l with
          | nil => intro _ p hp; cases hp
          | cons a r ih => intro o p hp; rcases List.mem_cons.mp hp with rfl | hp; exact o.1; exact ih o.2 p hp
        exact this o1 p hp
    | succ j ih =>
      intro i ys hij P
      rw [List.size_toArray] at hij
      refine CompRestT.succ ?_
      intro v I oI C oC D m₂ h1 tk E' hv hC hx1 F1 N1 off ne
      obtain ⟨k, t1, rfl, hk⟩ := IntsAre.at hi i v (by simpa using hv)
      have N3 : News h₀ L h1 news := fun p hp => N1 p (.tail _ (.tail _ (.tail _ hp)))
      have hC1 := hC.ns (N1 (C, oC) (.tail _ (.head _))).1
      have htake : (ks.take (i + 1)).filter (fun k => k != t) = (ks.take i).filter (fun k => k != t) ++ (if k != t then [k] else []) := by
        rw [List.take_add_one, hk, List.filter_append]
        by_cases e : (k != t) = true
        · simp [e]
        · simp [e]
      refine wpAny_isTrue_Compare1 (wpAny_Name (wpAny_loadName_local (hkk C) (hkx C) hC1 hx1 ?_) hdx)
      refine kcf_cell (s := { s with heap := h1, toks := tk }) N3 hcl hc hd ?_ (hkk C) (hky C) hdy
      refine IsLeap.wpAny_ne_int (wpAny_truthy_bool ?_)
      split
      · rename_i e
        refine wpAny_Name (wpAny_loadName_local (hkk C) (hkx C) hC1 hx1 ?_) hdx
        refine LCg.CompEnd.intro (s₁ := { s with heap := h1, toks := tk }) (tk := tk) F1 N1 news (fun p hp => hp) off ⟨n, hm⟩ ?_
        refine ih (i + 1) _ (by rw [List.size_toArray]; omega) ?_
        rw [htake, if_pos e]
        exact P.append (.cons k t1 .nil)
      · rename_i e
        refine LCg.CompEnd.intro (s₁ := { s with heap := h1, toks := tk }) (tk := tk) F1 N1 news (fun p hp => hp) off ⟨n, hm⟩ ?_
        refine ih (i + 1) _ (by rw [List.size_toArray]; omega) ?_
        rw [htake, if_neg e, List.append_nil]
        exact P
  exact key vs.toArray.size 0 [] (by omega) .nil
end
end Mine

end
section
-- part PC3
open PySem PySem.W PyProof.Rows PySem.Spec PySem.Calls PyProof.Rows.LCg PyProof.Rows.LCt
set_option Elab.async false
set_option maxRecDepth 100000
namespace Mine
section
variable {M : Model} {A : Around} {E : Value → Shared → Prop} {s : Shared} {h₀ : Heap} {L c : Addr} {m : Str → Option Value} {env : Env} {news : List (Addr × Obj)} {v : Value} {x : Str} {p : Pos} {o : Obj}
theorem name_loc (F : Fr h₀ L s.heap m) (hL : env.locals = L) (hk : env.scope.kind = .function) (hl : env.kindOf x = some .local) (hv : m x = some v) (hd : (x == ("__debug__" : Str)) = false := by decide) :
    ∀ Q' : Value → Shared → Prop, Q' v s → wpAny M A (eval (.Name x p) env) Q' E s := fun Q' q => by
  subst hL
  exact wpAny_Name (wpAny_loadName_local hk hl F.ns hv q) hd
theorem name_cell (N : News h₀ L s.heap news) (hk : env.scope.kind = .function) (hl : env.kindOf x = some .cell) (hc : env.cells.lookup x = some c) (hm : (c, o) ∈ news) (hv : o.data = .cell (some v)) (hd : (x == ("__debug__" : Str)) = false := by decide) :
    ∀ Q' : Value → Shared → Prop, Q' v s → wpAny M A (eval (.Name x p) env) Q' E s := fun Q' q =>
  wpAny_Name (wpAny_loadName_cell hk hl hc ⟨o, N.get hm, hv⟩ q) hd
theorem news_turn {h : Heap} {a : Addr × Obj} {rows : List (Addr × Obj)} (N : News h₀ L h (a :: (rows ++ news))) : News h₀ L h (a :: (news ++ rows)) := fun q hq => by
  rcases List.mem_cons.mp hq with rfl | hq
  · exact N _ (.head _)
  · refine N q (.tail _ ?_)
    rcases List.mem_append.mp hq with hq | hq
    · exact List.mem_append_right _ hq
    · exact List.mem_append_left _ hq
/-- the pairs' cells are above whatever stood -/
theorem rows_apart {h : Heap} {D : Addr} {rows : List (Addr × Obj)} (o : ∀ p ∈ rows ++ news, p.1 ≠ D) : ∀ p ∈ rows, p.1 ≠ D := fun p hp => o p (List.mem_append_left _ hp)
theorem pair_rows_ne {h : Heap} {a : Addr} {ob : Obj} {v : Option Value} {all : List (Addr × Obj)} (N : News h₀ L h all) (hm : (a, ob) ∈ all) (hd : ob.data = .cell v) {p : Addr × Obj} (hp : p ∈ all) (hq : ∃ its n, p.2.data = .seq its n) : p.1 ≠ a := by
  intro e
  obtain ⟨its, n, hs⟩ := hq
  have h1 := (N _ hm).1
  have h2 := (N p hp).1
  rw [e] at h2
  rw [h1] at h2
  cases h2
  rw [hd] at hs; cases hs
end
end Mine

end
section
-- part T2r
open PySem PySem.W PyProof.Rows
set_option Elab.async false
set_option rowWalk.seconds 0
namespace Mine
/-- neither eights alone nor sixteens alone -/
def NoneAlone (us : List Int) : Prop := us ≠ [8] ∧ us ≠ [16]
section
variable {prog : Program} {w : World} {A : Around} {E : Value → Shared → Prop} {s : Shared} {h₀ : Heap} {L : Addr} {m : Str → Option Value} {news : List (Addr × Obj)} {Q : Value → Shared → Prop} {vs : List Value} {us : List Int}
theorem inMenu {P l a b : Addr} {n nl na nb : Nat} {ta tb : Tok} (N : News h₀ L s.heap news) (hP : (P, tupO vs.toArray n) ∈ news) (hi : IntsAre vs us) (hl : (l, ({ cls := .type "list", data := .seq #[.ref a, .ref b] nl } : Obj)) ∈ news)
    (ha : (a, tupO #[.int 8 ta] na) ∈ news) (hb : (b, tupO #[.int 16 tb] nb) ∈ news) (hu : A.units + 64 < cLine)
    (h8 : ∀ t, vs = [.int 8 t] → us = [8] → Q (.bool true) s) (h16 : ∀ t, vs = [.int 16 t] → us = [16] → Q (.bool true) s) (hno : NoneAlone us → Q (.bool false) s) :
    wpAny (model prog w) A (compareOp .In (.ref P) (.ref l)) Q E s := by
  have rc : Reads s.heap (.ref l) (.list [.tuple [.int 8], .tuple [.int 16]]) [l] := by
    refine .list (as := []) (N _ hl).1 rfl rfl (.cons (as := []) (bs := []) ?_ (.cons (as := []) (bs := []) ?_ .nil))
    · exact .tuple (N _ ha).1 rfl rfl (.cons (as := []) (bs := []) (.int _ _) .nil)
    · exact .tuple (N _ hb).1 rfl rfl (.cons (as := []) (bs := []) (.int _ _) .nil)
  have rx : Reads s.heap (.ref P) (.tuple (us.map PyData.int)) [] := .tuple (N _ hP).1 rfl rfl ((ke_carried hi).reads s.heap)
  refine SeqAt.in_list_reads rc rx (by decide) (by show PyData.canLayAll0 (us.map PyData.int) = true; exact ke_canLayAll0 us) ?_ ?_
  · have : PyData.depthAll [PyData.tuple [.int 8], PyData.tuple [.int 16]] ≤ 4 := by decide
    have h2 := Nat.min_le_left (PyData.depthAll [PyData.tuple [.int 8], PyData.tuple [.int 16]]) (PyData.tuple (us.map PyData.int)).depth
    omega
  · have e8 : PyData.eqv (.tuple [.int 8]) (.tuple (us.map PyData.int)) = decide ([8] = us) := ked_eqvAll [8] us
    have e16 : PyData.eqv (.tuple [.int 16]) (.tuple (us.map PyData.int)) = decide ([16] = us) := ked_eqvAll [16] us
    simp only [List.any_cons, List.any_nil, e8, e16, Bool.or_false]
    by_cases h1 : us = [8]
    · subst h1
      cases hi with
      | cons _ t hr => cases hr; exact h8 t rfl rfl
    by_cases h2 : us = [16]
    · subst h2
      cases hi with
      | cons _ t hr => cases hr; exact h16 t rfl rfl
    rw [decide_eq_false (fun e => h1 e.symm), decide_eq_false (fun e => h2 e.symm)]
    exact hno ⟨h1, h2⟩
end
section
variable {prog : Program} {w : World} {A : Around} {E : Value → Shared → Prop} {s : Shared} {t : Addr} {x0 x1 : Value} {Q : Value → Shared → Prop}
theorem bool_index : typeLookup (.type "bool") "__index__" = pure (some (.builtin "int.__index__")) := by rw [typeLookup_type, builtinLookup_eq_fast]; kernel_rfl
theorem getItem_bool {b : Bool} (ht : IsTup s.heap t #[x0, x1]) (h : Q (if b = true then x1 else x0) s) : wpAny (model prog w) A (getItem (.ref t) (.bool b)) Q E s := by
  unfold getItem
  try with_reducible refine wpAny_holding ?_
  first | refine wpAny_bind (wpAny_pure ?_) | skip
  refine wpAny_bind (wpAny_sequenceKey ht.typeIs (by decide) ?_)
  refine wpAny_bind (wpAny_callSpecial?_slot (name := Str.ofString "__getitem__") ht.typeIs slot_tuple_getitem
    (wpAny_call_entry slot_tuple_getitem ht.typeIs entry_tuple_getitem ?_ (args_tuple_getitem _ _)))
  show wpAny _ _ (Builtin.Tuple.tupleItemsOf (.ref t) >>= _) _ _ s
  refine wpAny_bind (tupleItemsOf_ ht ?_)
  have hT : s.TypeIs (.bool b) "bool" := by first | rfl | exact typeIs_bool s b
  refine wpAny_bind (wpAny_typeOf hT ?_)
  rw [if_neg (by decide)]
  refine wpAny_bind (wpAny_specialOf (T := "bool") hT bool_index ?_)
  rw [if_neg (by simp)]
  cases b
  · refine wpAny_bind (wpAny_of_eq (a := 0) rfl ?_)
    rw [if_neg (by decide)]
    exact wpAny_pure ⟨_, rfl, wpAny_pure h⟩
  · refine wpAny_bind (wpAny_of_eq (a := 1) rfl ?_)
    rw [if_neg (by decide)]
    exact wpAny_pure ⟨_, rfl, wpAny_pure h⟩
theorem itemBool {value slice : PySem.Expr} {b : Bool} (ht : IsTup s.heap t #[x0, x1]) (h1 : b = true → Q x1 s) (h0 : b = false → Q x0 s)
    (hs : subscripted slice false (.ref t) (.bool b) = operate [.ref t, .bool b] (getItem (.ref t) (.bool b)) := by with_unfolding_all rfl) :
    wpAny (model prog w) A (subscriptTail value slice (.ref t) (.bool b)) Q E s :=
  tail_any ht.typeIs slot_tuple_getitem.lookup (getItem_bool ht (by cases b; exact h0 rfl; exact h1 rfl)) hs
end
/-- plain facts of the depths told -/
theorem set_all {us ms ds : List Int} {t : Int} (hp : List.Perm us ms) (hm : ∀ x, x ∈ ms ↔ x ∈ ds) (e : us = [t]) : ∀ d ∈ ds, d = t := fun d hd => by
  have := hp.mem_iff.mpr ((hm d).mpr hd)
  rw [e] at this
  exact List.mem_singleton.mp this
theorem all_set {us ms ds : List Int} {t : Int} (hp : List.Perm us ms) (hn : us.Nodup) (hm : ∀ x, x ∈ ms ↔ x ∈ ds) (hne : 0 < ds.length) (h : ∀ d ∈ ds, d = t) : us = [t] := by
  have ha : ∀ x ∈ us, x = t := fun x hx => h x ((hm x).mp (hp.mem_iff.mp hx))
  obtain ⟨d, hd⟩ := List.exists_mem_of_length_pos hne
  have ht : t ∈ us := by have := hp.mem_iff.mpr ((hm d).mpr hd); rw [h d hd] at this; exact this
  cases us with
  | nil => cases ht
  | cons a r =>
    have e := ha a (.head _)
    subst e
    cases r with
    | nil => rfl
    | cons b r =>
      have e2 := ha b (.tail _ (.head _))
      subst e2
      simp at hn
theorem maxOf_mem : ∀ {ns : List Int}, 0 < ns.length → (∀ d ∈ ns, 0 ≤ d) → maxOf ns ∈ ns
  | [a], _, h => by
    have e : maxOf [a] = max a 0 := rfl
    have := h a (.head _)
    rw [e, show max a 0 = a from by omega]; exact .head _
  | a :: b :: r, _, h => by
    have e : maxOf (a :: b :: r) = max a (maxOf (b :: r)) := rfl
    have ih := maxOf_mem (ns := b :: r) (by simp) fun d hd => h d (.tail _ hd)
    rw [e]
    rcases Int.le_total a (maxOf (b :: r)) with q | q
    · rw [Int.max_eq_right q]; exact .tail _ ih
    · rw [Int.max_eq_left q]; exact .head _
theorem least_all {ds : List Int} {t : Int} (ht : t = 8 ∨ t = 16) (hne : 0 < ds.length) (h : ∀ d ∈ ds, d = t) : LeastOf [8, 16] ds t := by
  have hm : maxOf ds = t := by
    have := maxOf_mem hne (fun d hd => by rw [h d hd]; omega)
    exact h _ this
  refine ⟨by rcases ht with rfl | rfl <;> decide, by rw [hm]; omega, fun x hx q => by rw [hm] at q; exact q⟩
theorem least_8 {ds : List Int} (hr : ∀ x ∈ ds, 1 ≤ x ∧ x ≤ 16) (q : ¬ 8 < maxOf ds) : LeastOf [8, 16] ds 8 :=
  ⟨by decide, by omega, fun x hx _ => by simp only [List.mem_cons, List.not_mem_nil, or_false] at hx; omega⟩
theorem least_16 {ds : List Int} (hr : ∀ x ∈ ds, 1 ≤ x ∧ x ≤ 16) (q : 8 < maxOf ds) : LeastOf [8, 16] ds 16 :=
  ⟨by decide, maxOf_le (by decide) fun a ha => (hr a ha).2, fun x hx h => by simp only [List.mem_cons, List.not_mem_nil, or_false] at hx; omega⟩
theorem some_other {us ms ds : List Int} {t : Int} (ht : t = 8 ∨ t = 16) (hp : List.Perm us ms) (hn : us.Nodup) (hm : ∀ x, x ∈ ms ↔ x ∈ ds) (hne : 0 < ds.length) (no : NoneAlone us) : ¬ ∀ d ∈ ds, d = t := fun h => by
  have e := all_set hp hn hm hne h
  rcases ht with rfl | rfl
  · exact no.1 e
  · exact no.2 e
end Mine

end
section
-- part T2
open PySem PySem.W PyProof.Rows
set_option Elab.async false
set_option rowWalk.seconds 0
namespace Mine
local macro_rules | `(tactic| walk_at "call ref") => `(tactic| (k_here; (with_reducible show wpAny _ (Around.deeper callerA _) _ _ _ _); kts_any; k_dflt (refine wpAny_call ?_; refine' enterX ?k1 ?k2 ?k3 ?k4 ?k5 ?kA ?kf ?kk ?k6 ?k7 ?k8 ?k9 ?kB ?_ ?c2 ?c3 ?c4 ?c5; (case kA => exact rfl); (case kf => exact rfl); (case kk => exact rfl); (case k2 => k_asm); (case k1 => k_asm); (case k3 => k_asm); (case k4 => k_asm); (case k5 => k_asm); (case k6 => k_is); (case k7 => k_is); (case k8 => k_room); (case k9 => first | exact binds_K (by k_in) rfl (by k_is) rfl rfl rfl | exact BindsTo.of_eq rfl); (case kB => exact locs rfl); (case c2 => exact rfl); (case c3 => exact rfl); (case c4 => exact rfl); (case c5 => decide); k_whole; intro g' L' h' FG' F' N' B' X' T' D'; (try dsimp only); (try k_lift B'); (try k_fold))))
local macro_rules | `(tactic| walk_at "call builtin:max") => `(tactic| (k_here; (with_reducible show wpAny _ _ (call (Value.builtin "max") [Value.ref _]) _ _ _); k_dflt (refine' maxCan ?h ?F ?N ?l ?i ?n ?p ?_; (case F => k_asm); (case N => k_asm); (case l => exact News.isTup (by k_asm) (by k_mem)); (case i => assumption); (case n => assumption); (case p => assumption); (case h => with_unfolding_all rfl)); intro h' t' k' F' N'; (try k_sweep)))
local macro_rules | `(tactic| walk_at "call type:set") => `(tactic| (k_here; (with_reducible show wpAny _ _ (call (Value.type _) [Value.ref _]) _ _ _); k_dflt (refine' setOf ?zF ?zN ?zh ?zl ?zi ?zn ?zr ?_; (case zF => k_asm); (case zN => k_asm); (case zl => exact News.isTup (by k_asm) (by k_mem)); (case zi => assumption); (case zn => assumption); (case zr => assumption); (case zh => with_unfolding_all rfl)); intro S' h' tk' oS' ms' F' N' hS' hm' l1; (try k_lt l1); (try k_sweep)))
local macro_rules | `(tactic| walk_at "call type:tuple") => `(tactic| (k_here; (with_reducible show wpAny _ _ (call (Value.type _) [Value.ref _]) _ _ _); (rename SetObj _ _ _ _ => i9); k_dflt (refine' tupleOfSet ?zF ?zN ?zh ?zl i9 ?_; (case zF => k_asm); (case zN => k_asm); (case zl => exact News.get (by k_asm) (by k_mem)); (case zh => with_unfolding_all rfl)); intro P' h' tk' vs' us' F' N' hi' hp' hn' l1; (try k_lt l1); (try k_sweep)))
local macro_rules | `(tactic| walk_at "compareOp In ref ref") => `(tactic| (k_here; (with_reducible show wpAny _ _ (compareOp CmpOp.In (Value.ref _) (Value.ref _)) _ _ _); (rename List.Nodup _ => n9); (rename IntsAre _ _ => i9); (focus (k_dflt (refine' inMenu ?zN ?zp i9 ?zl ?za ?zb ?zu ?_ ?_ ?_; (case zN => k_asm); (case zp => k_mem); (case zl => k_mem); (case za => k_mem); (case zb => k_mem); (case zu => ke_room)); (intro t8 e8 e9; (have e7 : _ = _ := e8); clear e8; subst e7); rotate_left; (intro t8 e8 e9; (have e7 : _ = _ := e8); clear e8; subst e7); rotate_left; intro no9; rotate_left))))
local macro_rules | `(tactic| walk_at "eval ListComp") => `(tactic| (k_here; (with_reducible show wpAny _ _ (eval (PySem.Expr.ListComp (PySem.Expr.Tuple _ _ _) _ _ _) _) _ _ _); k_dflt (refine' pairs_comp ?zF ?zN ?zh ?zc1 ?zc2 ?zc3 ?zc4 ?zc5 ?zit ?zm ?zi ?zn ?zcl ?zc ?zd ?zk1 ?zk2 ?zk3 ?zx1 ?zx2 ?_ ?zs; (case zF => k_asm); (case zN => k_asm); (case zh => with_unfolding_all rfl); (case zc1 => with_unfolding_all rfl); (case zc2 => decide); (case zc3 => rfl); (case zc4 => decide); (case zc5 => rfl); (case zit => first | exact name_loc (by k_asm) rfl rfl rfl (by rfl) | exact name_cell (by k_asm) rfl rfl rfl (by k_mem) (by k_asm)); (case zm => k_mem); (case zi => assumption); (case zn => omega); (case zcl => rfl); (case zc => k_mem); (case zd => k_asm); (case zk1 => intro C9; rfl); (case zk2 => intro C9; rfl); (case zk3 => intro C9; rfl); (case zx1 => decide); (case zx2 => decide); (case zs => intro x9; rfl)); intro l' h' tk' ys' rows' F' N' P' o'; (have N' := news_turn N'); (try (simp only [List.cons_append, List.nil_append] at N'))))
local macro_rules | `(tactic| walk_at "last subscriptTail") => `(tactic| (k_here; (with_reducible show wpAny _ _ (subscriptTail _ _ (Value.ref _) (Value.bool _)) _ _ _); (focus (k_dflt (refine' itemBool ?zl ?_ ?_ ?zs; (case zl => exact News.isTup (by k_asm) (by k_mem)); (case zs => rfl)); (intro b9; (have b9 := of_decide_eq_true b9)); rotate_left; (intro b9; (have b9 := of_decide_eq_false b9)); rotate_left))))
set_option maxRecDepth 100000 in
set_option maxHeartbeats 4000000 in
theorem segT2 {w : World} {mean : ExcName → Option Value} {mg mb : Str → Option Value} {h₀ : Heap} {L fa : Addr} {cd : Value} {m : Str → Option Value} {s : Shared} {Q : Flow → Shared → Prop} {E : Value → Shared → Prop} {o3 : Obj} {u : Str → Option Value} {D : Addr} {nd : Nat} {dvs : List Value} {ds : List Int} {b1 b2 b3 b4 b5 : Addr} {q1 q2 q3 q4 q5 : Obj} {g al : Bool}
    (K0 : Below callerA h₀ [] h₀) (KX : (hd.heap_39 w.params).In h₀) (T : Top hd.view_39 (looseW hd.view_39 [Str.ofString "_law_table"]) mean mg mb h₀)
    (F : Fr h₀ L s.heap (fun y => if y = Str.ofString "lets" then u y else if y = Str.ofString "alpha" then some (.bool al) else if y = Str.ofString "grey" then some (.bool g) else u y))
    (N : News h₀ L s.heap [(D, { cls := .type "tuple", data := .seq dvs.toArray nd }), (L + 1 + 1 + 1, o3), (b1, q1), (b2, q2), (b3, q3), (b4, q4), (b5, q5)])
    (c3 : o3.data = .cell (some (.ref D))) (hg : g = false ∨ al = true)
    (hds : IntsAre dvs ds) (hn : ds.length ≤ 4) (hne : 0 < ds.length) (hp0 : ∀ d ∈ ds, 0 ≤ d) (hr : ∀ x ∈ ds, 1 ≤ x ∧ x ≤ 16)
    (hA : ∀ h' tk P t tt, LeastOf [8, 16] ds t → (∀ d ∈ ds, d = t) → Fr h₀ L h' (fun y => if y = Str.ofString "told" then some (.ref P) else if y = Str.ofString "lets" then u y else if y = Str.ofString "alpha" then some (.bool al) else if y = Str.ofString "grey" then some (.bool g) else u y) →
      News h₀ L h' [(P, { cls := .type "tuple", data := .seq #[.int t tt, .none] }), (D, { cls := .type "tuple", data := .seq dvs.toArray nd }), (L + 1 + 1 + 1, o3), (b1, q1), (b2, q2), (b3, q3), (b4, q4), (b5, q5)] → Q .next { s with heap := h', toks := tk })
    (hB : ∀ h' tk P l t tt ys nl rows, LeastOf [8, 16] ds t → (¬ ∀ d ∈ ds, d = t) → PairsIn rows t ys ds → Fr h₀ L h' (fun y => if y = Str.ofString "told" then some (.ref P) else if y = Str.ofString "lets" then u y else if y = Str.ofString "alpha" then some (.bool al) else if y = Str.ofString "grey" then some (.bool g) else u y) →
      News h₀ L h' ((P, { cls := .type "tuple", data := .seq #[.int t tt, .ref l] }) :: (l, { cls := .type "list", data := .seq ys.toArray nl }) :: (D, { cls := .type "tuple", data := .seq dvs.toArray nd }) :: (L + 1 + 1 + 1, o3) :: (b1, q1) :: (b2, q2) :: (b3, q3) :: (b4, q4) :: (b5, q5) :: rows) → Q .next { s with heap := h', toks := tk }) :
    wpAny (model PySem.Challenge.rw_ax6024_01.row.prog w) (callerA.deeper (lawEnv L fa cd)) (execs (elseSeg 0 1) (lawEnv L fa cd)) Q E s := by
  dsimp only [seg, elseSeg, elseBody, thenBody, lawBody, lawEnv, lawScope, PySem.Challenge.pw_ax6024_01, List.drop, List.take]
  revert KX
  k_fill
  intro KX
  w_on
  obtain ⟨rfl, rfl⟩ | ⟨rfl, rfl⟩ | ⟨rfl, rfl⟩ : (g = false ∧ al = false) ∨ (g = false ∧ al = true) ∨ (g = true ∧ al = true) := by cases g <;> cases al <;> simp_all
  all_goals clear hg
  all_goals (w_strict k_steps)
  all_goals first
    | (refine hA _ _ _ _ _ (least_all (.inl rfl) hne (set_all (by assumption) (by assumption) (by assumption))) (set_all (by assumption) (by assumption) (by assumption)) (by k_asm) (cb_drop (by k_asm) (by kcj_all)); done)
    | (refine hA _ _ _ _ _ (least_all (.inr rfl) hne (set_all (by assumption) (by assumption) (by assumption))) (set_all (by assumption) (by assumption) (by assumption)) (by k_asm) (cb_drop (by k_asm) (by kcj_all)); done)
    | (refine' hB _ _ _ _ _ _ _ _ _ (least_16 hr (by assumption)) (some_other (.inr rfl) (by assumption) (by assumption) (by assumption) hne (by assumption)) (by assumption) (by k_asm) (cb_drop (by k_asm) ?zmem); (case zmem => repeat' (first | (refine List.forall_mem_cons.mpr ⟨?_, ?_⟩; (focus k_mem)) | (intro _ h9; repeat' (first | exact h9 | refine List.Mem.tail _ ?_)))); done)
    | (refine' hB _ _ _ _ _ _ _ _ _ (least_8 hr (by assumption)) (some_other (.inl rfl) (by assumption) (by assumption) (by assumption) hne (by assumption)) (by assumption) (by k_asm) (cb_drop (by k_asm) ?zmem); (case zmem => repeat' (first | (refine List.forall_mem_cons.mpr ⟨?_, ?_⟩; (focus k_mem)) | (intro _ h9; repeat' (first | exact h9 | refine List.Mem.tail _ ?_)))); done)
end Mine

end
section
-- part AK
open PySem PySem.W PyProof.Rows
set_option Elab.async false
set_option rowWalk.seconds 0
namespace Mine
local macro_rules | `(tactic| walk_at "eval ListComp") => `(tactic| (k_here; (with_reducible show wpAny _ _ (eval (PySem.Expr.ListComp (PySem.Expr.Name _ _) _ _ _) _) _ _ _); k_dflt (refine' filter_comp ?zF ?zN ?zh ?zc1 ?zc2 ?zc3 ?zc4 ?zc5 ?zit ?zm ?zi ?zn ?zcl ?zc ?zd ?zk1 ?zk2 ?zk3 ?zx1 ?zx2 ?_ ?zs; (case zF => k_asm); (case zN => k_asm); (case zh => with_unfolding_all rfl); (case zc1 => with_unfolding_all rfl); (case zc2 => decide); (case zc3 => rfl); (case zc4 => decide); (case zc5 => rfl); (case zit => first | exact name_loc (by k_asm) rfl rfl rfl (by rfl) | exact name_cell (by k_asm) rfl rfl rfl (by k_mem) (by k_asm)); (case zm => k_mem); (case zi => assumption); (case zn => omega); (case zcl => rfl); (case zc => k_mem); (case zd => k_asm); (case zk1 => intro C9; rfl); (case zk2 => intro C9; rfl); (case zk3 => intro C9; rfl); (case zx1 => decide); (case zx2 => decide); (case zs => intro x9; rfl)); intro l' h' tk' ys' F' N' i' o'))
theorem end_alike {ds : List Int} {t : Int} : decide (ds.filter (fun k => k != t) = []) = true ↔ ∀ d ∈ ds, d = t := by
  rw [decide_eq_true_eq, List.filter_eq_nil_iff]
  simp
set_option maxRecDepth 100000 in
set_option maxHeartbeats 2000000 in
theorem segK {w : World} {mean : ExcName → Option Value} {mg mb : Str → Option Value} {h₀ : Heap} {L fa : Addr} {cd : Value} {m : Str → Option Value} {s : Shared} {Q : Flow → Shared → Prop} {E : Value → Shared → Prop} {o3 o4 : Obj} {t4 : Tok} {u : Str → Option Value} {D : Addr} {nd : Nat} {dvs : List Value} {ds : List Int} {t : Int} {rest : List (Addr × Obj)}
    (K0 : Below callerA h₀ [] h₀) (KX : (hd.heap_39 w.params).In h₀) (T : Top hd.view_39 (looseW hd.view_39 [Str.ofString "_law_table"]) mean mg mb h₀)
    (F : Fr h₀ L s.heap u)
    (N : News h₀ L s.heap ((D, { cls := .type "tuple", data := .seq dvs.toArray nd }) :: (L + 1 + 1 + 1 + 1, o4) :: (L + 1 + 1 + 1, o3) :: rest))
    (c3 : o3.data = .cell (some (.ref D))) (c4 : o4.data = .cell (some (.int t t4)))
    (hds : IntsAre dvs ds) (hn : ds.length ≤ 4)
    (hQ : ∀ h' tk b, (b = true ↔ ∀ d ∈ ds, d = t) → Fr h₀ L h' (fun y => if y = Str.ofString "alike" then some (.bool b) else u y) →
      News h₀ L h' ((D, { cls := .type "tuple", data := .seq dvs.toArray nd }) :: (L + 1 + 1 + 1 + 1, o4) :: (L + 1 + 1 + 1, o3) :: rest) → Q .next { s with heap := h', toks := tk }) :
    wpAny (model PySem.Challenge.rw_ax6024_01.row.prog w) (callerA.deeper (lawEnv L fa cd)) (execs (elseSeg 2 1) (lawEnv L fa cd)) Q E s := by
  dsimp only [seg, elseSeg, elseBody, thenBody, lawBody, lawEnv, lawScope, PySem.Challenge.pw_ax6024_01, List.drop, List.take]
  revert KX
  k_fill
  intro KX
  w_on
  w_strict k_steps
  all_goals first
    | (refine hQ _ _ _ end_alike (by k_asm) (cb_drop (by k_asm) (by kcj_all)); done)
end Mine

end
section
-- part EF
open PySem PySem.W PyProof.Rows
set_option Elab.async false
set_option rowWalk.seconds 0
namespace Mine
local macro_rules | `(tactic| walk_at "compareOp In int ref") => `(tactic| (k_here; (with_reducible show wpAny _ _ (compareOp CmpOp.In (Value.int _ _) (Value.ref 78)) _ _ _); k_dflt (refine' inTab ?k1 ?k2 ?_; (case k1 => k_asm); (case k2 => k_asm)); (try dsimp only)))
local macro_rules | `(tactic| walk_at "subscriptTail Name Name ref int") => `(tactic| (k_here; (with_reducible show wpAny _ _ (subscriptTail _ _ (Value.ref 78) (Value.int _ _)) _ _ _); k_dflt (refine' itemTab ?k1 ?k2 ?k3 ?_ ?_ ?_ ?_ ?_; (case k1 => k_asm); (case k2 => k_asm); (case k3 => first | exact KindIn.out (by assumption) | omega | ((simp only [decide_eq_true_eq] at *); omega))); all_goals (intro e9; (try dsimp only))))
local macro_rules | `(tactic| walk_at "subscriptTail Name Constant ref int") => `(tactic| (k_here; (with_reducible show wpAny _ _ (subscriptTail _ _ (Value.ref _) (Value.int _ _)) _ _ _); (with_unfolding_all refine' itemLit ?k1 ?k2 ?k3 ?k4 ?_ ?k6; (case k1 => is_list); (case k2 => decide); (case k3 => decide); (case k4 => rfl); (case k6 => with_unfolding_all rfl); k_whole)))
section
theorem pd_lay (t : Int) : ∀ ds : List Int, PyData.canLayAll0 (ds.map fun d => PyData.tuple [.int d, .int t]) = true
  | [] => rfl
  | d :: r => by
    have := pd_lay t r
    simp only [List.map_cons, PyData.canLayAll0, this, Bool.and_true]
    rfl
theorem pd_depth (t : Int) : ∀ ds : List Int, PyData.depthAll (ds.map fun d => PyData.tuple [.int d, .int t]) ≤ 4
  | [] => Nat.zero_le _
  | d :: r => by
    have := pd_depth t r
    have h1 : (PyData.tuple [.int d, .int t]).depth ≤ 4 := by
      have e : (PyData.tuple [.int d, .int t]).depth = (PyData.tuple [.int 0, .int 0]).depth := rfl
      rw [e]; decide
    simp only [List.map_cons, PyData.depthAll]
    exact Nat.max_le.mpr ⟨h1, this⟩
theorem pd_eqv (t : Int) : ∀ ds : List Int, PyData.eqvAll (ds.map fun d => PyData.tuple [.int d, .int t]) (ds.map fun d => PyData.tuple [.int d, .int t]) = true
  | [] => rfl
  | d :: r => by
    have := pd_eqv t r
    simp [PyData.eqvAll, PyData.eqv, this]
theorem pd_shaped (t : Int) (ds : List Int) : SeqAt.shaped (.list (ds.map fun d => PyData.tuple [.int d, .int t])) = true := by
  unfold SeqAt.shaped
  rw [Bool.and_eq_true, decide_eq_true_eq]
  refine ⟨pd_lay t ds, ?_⟩
  have := pd_depth t ds
  simp only [PyData.depth]
  omega
variable {prog : Program} {w : World} {A : Around} {E : Value → Shared → Prop} {s : Shared} {h₀ : Heap} {L : Addr} {news r1 r2 : List (Addr × Obj)} {Q : Value → Shared → Prop} {ys ys2 : List Value} {ds : List Int} {t : Int}
theorem nePairs {l l2 : Addr} {nl n2 : Nat} (N : News h₀ L s.heap news) (hl : (l, ({ cls := .type "list", data := .seq ys.toArray nl } : Obj)) ∈ news) (hl2 : (l2, ({ cls := .type "list", data := .seq ys2.toArray n2 } : Obj)) ∈ news)
    (P1 : PairsIn r1 t ys ds) (k1 : ∀ p ∈ r1, p ∈ news) (P2 : PairsIn r2 t ys2 ds) (k2 : ∀ p ∈ r2, p ∈ news) (hu : A.units + 64 < cLine) (h : Q (.bool false) s) : wpAny (model prog w) A (compareOp .NotEq (.ref l) (.ref l2)) Q E s := by
  have R1 : Reads s.heap (.ref l) (.list (ds.map fun d => PyData.tuple [.int d, .int t])) [l] := .list (N _ hl).1 rfl rfl (by simpa using P1.reads fun p hp => (N p (k1 p hp)).1)
  have R2 : Reads s.heap (.ref l2) (.list (ds.map fun d => PyData.tuple [.int d, .int t])) [l2] := .list (N _ hl2).1 rfl rfl (by simpa using P2.reads fun p hp => (N p (k2 p hp)).1)
  refine ne_dataH R1 R2 (pd_shaped t ds) (pd_shaped t ds) hu ?_
  rw [show PyData.eqv (.list (ds.map fun d => PyData.tuple [.int d, .int t])) (.list (ds.map fun d => PyData.tuple [.int d, .int t])) = true from by simp only [PyData.eqv]; exact pd_eqv t ds]
  exact h
end
local macro_rules | `(tactic| walk_at "eval ListComp") => `(tactic| (k_here; (with_reducible show wpAny _ _ (eval (PySem.Expr.ListComp (PySem.Expr.Tuple _ _ _) _ _ _) _) _ _ _); k_dflt (refine' pairs_comp ?zF ?zN ?zh ?zc1 ?zc2 ?zc3 ?zc4 ?zc5 ?zit ?zm ?zi ?zn ?zcl ?zc ?zd ?zk1 ?zk2 ?zk3 ?zx1 ?zx2 ?_ ?zs; (case zF => k_asm); (case zN => k_asm); (case zh => with_unfolding_all rfl); (case zc1 => with_unfolding_all rfl); (case zc2 => decide); (case zc3 => rfl); (case zc4 => decide); (case zc5 => rfl); (case zit => first | exact name_loc (by k_asm) rfl rfl rfl (by rfl) | exact name_cell (by k_asm) rfl rfl rfl (by k_mem) (by k_asm)); (case zm => k_mem); (case zi => assumption); (case zn => omega); (case zcl => rfl); (case zc => k_mem); (case zd => k_asm); (case zk1 => intro C9; rfl); (case zk2 => intro C9; rfl); (case zk3 => intro C9; rfl); (case zx1 => decide); (case zx2 => decide); (case zs => intro x9; rfl)); intro l' h' tk' ys' rows' F' N' P' o'; (have N' := news_turn N'); (try (simp only [List.cons_append, List.nil_append] at N'))))
local macro_rules | `(tactic| walk_at "compareOp NotEq ref ref") => `(tactic| (k_here; (with_reducible show wpAny _ _ (compareOp CmpOp.NotEq (Value.ref _) (Value.ref _)) _ _ _); k_dflt (refine' nePairs ?zN ?zl ?zl2 ?zp1 ?zk1 ?zp2 ?zk2 ?zu ?_; (case zN => k_asm); (case zl => k_mem); (case zl2 => k_mem); (case zp1 => assumption); (case zk1 => intro _ h9; repeat' (first | exact h9 | exact List.mem_append_left _ h9 | exact List.mem_append_right _ h9 | refine List.Mem.tail _ ?_)); (case zp2 => assumption); (case zk2 => intro _ h9; repeat' (first | exact h9 | exact List.mem_append_left _ h9 | exact List.mem_append_right _ h9 | refine List.Mem.tail _ ?_)); (case zu => ke_room))))
set_option maxRecDepth 100000 in
set_option maxHeartbeats 2000000 in
theorem segIA {w : World} {mean : ExcName → Option Value} {mg mb : Str → Option Value} {h₀ : Heap} {L fa : Addr} {cd : Value} {m : Str → Option Value} {s : Shared} {Q : Flow → Shared → Prop} {E : Value → Shared → Prop} {o3 o4 : Obj} {t4 tt : Tok} {u : Str → Option Value} {D P : Addr} {t : Int} {rest : List (Addr × Obj)}
    (K0 : Below callerA h₀ [] h₀) (KX : (hd.heap_39 w.params).In h₀) (T : Top hd.view_39 (looseW hd.view_39 [Str.ofString "_law_table"]) mean mg mb h₀)
    (F : Fr h₀ L s.heap (fun y => if y = Str.ofString "alike" then some (.bool true) else if y = Str.ofString "told" then some (.ref P) else u y))
    (N : News h₀ L s.heap ((P, { cls := .type "tuple", data := .seq #[.int t tt, .none] }) :: (L + 1 + 1 + 1 + 1, o4) :: (L + 1 + 1 + 1, o3) :: rest))
    (c3 : o3.data = .cell (some (.ref D))) (c4 : o4.data = .cell (some (.int t t4)))
    (hQ : ∀ h' tk u', Fr h₀ L h' u' → News h₀ L h' ((L + 1 + 1 + 1 + 1, o4) :: (L + 1 + 1 + 1, o3) :: rest) → Q .next { s with heap := h', toks := tk }) :
    wpAny (model PySem.Challenge.rw_ax6024_01.row.prog w) (callerA.deeper (lawEnv L fa cd)) (execs (elseSeg 3 1) (lawEnv L fa cd)) Q E s := by
  dsimp only [seg, elseSeg, elseBody, thenBody, lawBody, lawEnv, lawScope, PySem.Challenge.pw_ax6024_01, List.drop, List.take]
  revert KX
  k_fill
  intro KX
  w_on
  w_strict k_steps
  all_goals first
    | (refine hQ _ _ _ (by k_asm) (cb_drop (by k_asm) (by kcj_all)); done)
    | (exfalso; first | (rename (_ ≠ _) => h9; exact h9 rfl) | (rename ((_ != _) = true) => h9; simp at h9) | (rename (¬ (_ = _)) => h9; exact h9 rfl); done)
set_option maxRecDepth 100000 in
set_option maxHeartbeats 2000000 in
theorem segIB {w : World} {mean : ExcName → Option Value} {mg mb : Str → Option Value} {h₀ : Heap} {L fa : Addr} {cd : Value} {m : Str → Option Value} {s : Shared} {Q : Flow → Shared → Prop} {E : Value → Shared → Prop} {o3 o4 : Obj} {t4 tt : Tok} {u : Str → Option Value} {D P l : Addr} {t : Int} {nd nl : Nat} {dvs ys : List Value} {ds : List Int} {rest : List (Addr × Obj)}
    (K0 : Below callerA h₀ [] h₀) (KX : (hd.heap_39 w.params).In h₀) (T : Top hd.view_39 (looseW hd.view_39 [Str.ofString "_law_table"]) mean mg mb h₀)
    (F : Fr h₀ L s.heap (fun y => if y = Str.ofString "alike" then some (.bool false) else if y = Str.ofString "told" then some (.ref P) else u y))
    (N : News h₀ L s.heap ((P, { cls := .type "tuple", data := .seq #[.int t tt, .ref l] }) :: (l, { cls := .type "list", data := .seq ys.toArray nl }) :: (D, { cls := .type "tuple", data := .seq dvs.toArray nd }) :: (L + 1 + 1 + 1 + 1, o4) :: (L + 1 + 1 + 1, o3) :: rest))
    (c3 : o3.data = .cell (some (.ref D))) (c4 : o4.data = .cell (some (.int t t4)))
    (hds : IntsAre dvs ds) (hn : ds.length ≤ 4) (hP : PairsIn rest t ys ds)
    (hQ : ∀ h' tk u', Fr h₀ L h' u' → News h₀ L h' ((L + 1 + 1 + 1 + 1, o4) :: (L + 1 + 1 + 1, o3) :: rest) → Q .next { s with heap := h', toks := tk }) :
    wpAny (model PySem.Challenge.rw_ax6024_01.row.prog w) (callerA.deeper (lawEnv L fa cd)) (execs (elseSeg 3 1) (lawEnv L fa cd)) Q E s := by
  dsimp only [seg, elseSeg, elseBody, thenBody, lawBody, lawEnv, lawScope, PySem.Challenge.pw_ax6024_01, List.drop, List.take]
  revert KX
  k_fill
  intro KX
  w_on
  w_strict k_steps
  all_goals first
    | (refine' hQ _ _ _ (by k_asm) (cb_drop (by k_asm) ?zmem); (case zmem => repeat' (first | (refine List.forall_mem_cons.mpr ⟨?_, ?_⟩; (focus k_mem)) | (intro _ h9; repeat' (first | exact h9 | exact List.mem_append_left _ h9 | refine List.Mem.tail _ ?_)))); done)
    | (exfalso; first | (rename (_ ≠ _) => h9; exact h9 rfl) | (rename ((_ != _) = true) => h9; simp at h9) | (rename (¬ (_ = _)) => h9; exact h9 rfl); done)
end Mine

end
section
-- part RC
open PySem PySem.W PyProof.Rows PySem.Spec PySem.Calls
set_option Elab.async false
set_option maxRecDepth 100000
namespace Mine
-- an own exception is raised in a frame with cells
section
variable {prog : Program} {w : World} {A : Around} {E : Value → Shared → Prop} {s : Shared} {L : Addr} {h₀ : Heap} {m mg : Str → Option Value} {env : Env}
  {x : Str} {C : Addr} {B newId initId : String} {bm : List Value} {np cpos pos : Pos} {Q : Flow → Shared → Prop}
theorem raiseX {e₀ : Expr} {rest : List Expr} (F : Fr h₀ L s.heap m) (hg : h₀.Ns mainGlobals mg) (O : OwnCls x C bm newId mg h₀) (FB : ExcBaseFacts B newId initId bm) (hh : A.handled = none)
    (h : wpAny (model prog w) A (spliced (backTo cpos (starEach (e₀ :: rest) env))) (fun vs s₂ => vs.length ≤ sizeLine ∧ (∀ b o, h₀.get? b = some o → s₂.heap.get? b = some o) ∧
      ∀ h' e, Heap.MadeExcOf s₂.heap h' e (.ref C) vs → E (.ref e) { s₂ with heap := h' }) E s)
    (he : starEach (e₀ :: rest) env = (false, eval e₀ env) :: starEach rest env)
    (hplain : (backTo cpos (starEach rest env)).any (·.1) = false)
    (hglo : env.globals = mainGlobals) (hk : env.scope.kind = .function) (hx : env.kindOf x = some .globalImplicit) (hd : (x == ("__debug__" : Str)) = false) :
    wpAny (model prog w) A (exec (.Raise (some (.Call (.Name x np) (e₀ :: rest) [] cpos)) none pos) env) Q E s := by
  obtain ⟨tl, N, nm, q, bs, hdct, sn, sub, ab, col, dd, k0, k1, k2, k3, k5, mN, hC, hN, hni, T⟩ := O.obj
  refine wpAny_Raise_call_subT (C := C) (nm := nm) (q := q) (N := N) (bs := bs) (bm := tl) (hdct := hdct) (sn := sn) (sub := sub) (ab := ab) (col := col) (dd := dd) (k0 := k0) (k1 := k1) (k2 := k2) (k3 := k3) (k5 := k5)
    FB (mN := mN) (T.hasType FB.hasBase) hh (by rw [he]; show (false || (backTo cpos (starEach rest env)).any (·.1)) = false; rw [hplain]; rfl) hni
    (Calls.Name_function_global hk hx (Calls.loadGlobal_global (hglo ▸ (hg.keeps F.keep)) O.bound ⟨rfl, ?_⟩) hd)
  rw [he] at h ⊢
  exact Calls.evalArgs_plain (wpAny_mono h (fun vs s₂ h₂ => ⟨rfl, h₂.1, h₂.2.1 _ _ hC, hN.keeps h₂.2.1, T.keeps h₂.2.1, h₂.2.2⟩) fun _ _ y => y)
end
section
variable {M : Model} {A : Around} {E : Value → Shared → Prop} {s' : Shared} {base g g₂ h : Heap} {outer : List Env} {L e t : Addr} {m : Str → Option Value} {env : Env} {Q : Unit → Shared → Prop} {news : List (Addr × Obj)}
theorem pushX (K : Below A base outer g) (F : Fr g L h m) (hf : env.frame = some L) (hk : env.scope.kind = .function) : Below (A.deeper env) base (env :: outer) h := by
  have hnew : base.get? L = none := by
    cases hq : base.get? L with
    | none => rfl
    | some o => exact absurd (Nat.lt_of_lt_of_le (Heap.lt_size (K.stays L o hq)) F.above) (Nat.lt_irrefl _)
  refine ⟨Around.frames_deeper K.stack, fun b o e => F.keep b o (K.stays b o e), ?_⟩
  exact .cons (by rw [hk]; decide) hf F.ns hnew (K.frames.of_keeps fun b o e _ => ⟨o, F.keep b o e, rfl⟩)
theorem leaveX {cls : Value} {vs : List Value} (K : Below A base outer g) (hx : Heap.MadeExcOf h s'.heap e cls vs) (F : Fr g L h m) (N : News g L h news) (hf : env.frame = some L) (hk : env.scope.kind = .function)
    (hQ : ∀ h' t, RaisedS base g outer e cls t vs news h' → RaisedK base outer e cls t vs news h' → g.UpToSlots h' → Q () { s' with heap := h' }) :
    wpAny M (A.deeper env) (leaving env (.ref e)) Q E s' := by
  have K' := pushX (env := env) K F hf hk
  have hin : ∀ e' ∈ (env :: outer), ∀ b, e'.frame = some b → b ∈ (env :: outer).filterMap (·.frame) := fun e' he b hb => List.mem_filterMap.mpr ⟨e', he, hb⟩
  have st : base.StaysIn (hideAll h ((env :: outer).filterMap (·.frame))) := fun b o q => hideAll_get _ (K'.stays b o q) fun hm => by
    rw [(K'.frames.mem hm).1] at q; cases q
  have sg : ∀ b o, g.get? b = some o → b ∉ outer.filterMap (·.frame) → (hideAll h ((env :: outer).filterMap (·.frame))).get? b = some o := fun b o q nm => hideAll_get _ (F.keep b o q) fun hm => by
    obtain ⟨e', he', hf'⟩ := List.mem_filterMap.mp hm
    rcases List.mem_cons.mp he' with rfl | he'
    · obtain rfl : L = b := Option.some.inj (hf.symm.trans hf')
      rw [kts_self F] at q
      cases q
    · exact nm (List.mem_filterMap.mpr ⟨e', he', hf'⟩)
  have hl : ∀ q ∈ news, (hideAll h ((env :: outer).filterMap (·.frame))).get? q.1 = some q.2 ∧ g.get? q.1 = none ∧ base.get? q.1 = none := fun q hq => by
    refine ⟨hideAll_get _ (N q hq).1 fun hm => ?_, (N q hq).2.2, fresh_of_stays K.stays (N q hq).2.2⟩
    obtain ⟨e', he, hf'⟩ := List.mem_filterMap.mp hm
    rcases List.mem_cons.mp he with rfl | he
    · exact (N q hq).2.1 (Option.some.inj (hf.symm.trans hf')).symm
    · obtain ⟨o, ho, _⟩ := (K.frames.mem (List.mem_filterMap.mpr ⟨e', he, hf'⟩)).2
      rw [(N q hq).2.2] at ho; cases ho
  exact wpAny_leaves_madeW K'.stack hf (fun b o q => of_hideAll _ q) (funFrames_hide K'.frames hin) hx fun h' t x1 x2 x3 x4 =>
    have R : RaisedS base g outer e cls t vs news h' := ⟨⟨_, st, sg, hl, x1, x3⟩, x2⟩
    hQ h' t R R.toK (((Heap.UpToSlots.of_keeps F.keep).trans (Heap.UpToSlots.of_keeps hx.keeps)).trans x4)
end
end Mine

end
section
-- part PT
open PySem PySem.W PyProof.Rows
set_option Elab.async false
set_option rowWalk.seconds 0
namespace Mine
local macro_rules | `(tactic| walk_at "call ref") => `(tactic| (k_here; (with_reducible show wpAny _ (Around.deeper callerA _) _ _ _ _); kts_any; k_dflt (refine wpAny_call ?_; refine' enterX ?k1 ?k2 ?k3 ?k4 ?k5 ?kA ?kf ?kk ?k6 ?k7 ?k8 ?k9 ?kB ?_ ?c2 ?c3 ?c4 ?c5; (case kA => exact rfl); (case kf => exact rfl); (case kk => exact rfl); (case k2 => k_asm); (case k1 => k_asm); (case k3 => k_asm); (case k4 => k_asm); (case k5 => k_asm); (case k6 => k_is); (case k7 => k_is); (case k8 => k_room); (case k9 => first | exact binds_K (by k_in) rfl (by k_is) rfl rfl rfl | exact BindsTo.of_eq rfl); (case kB => exact locs rfl); (case c2 => exact rfl); (case c3 => exact rfl); (case c4 => exact rfl); (case c5 => decide); k_whole; intro g' L' h' FG' F' N' B' X' T' D'; (try dsimp only); (try k_lift B'); (try k_fold))))
theorem truthyTwo {prog : Program} {w : World} {A : Around} {E : Value → Shared → Prop} {s : Shared} {h₀ : Heap} {L l : Addr} {news : List (Addr × Obj)} {v0 v1 : Value} {n : Nat} {Q : Bool → Shared → Prop} (N : News h₀ L s.heap news) (hm : (l, W.listOf #[v0, v1] n) ∈ news) (h : Q true { s with toks := s.toks + 1 + 1 }) : wpAny (model prog w) A (truthy (.ref l)) Q E s :=
  wpAny_truthy_list (items := #[v0, v1]) ⟨_, (N _ hm).1, rfl, n, rfl⟩ (by show ((2 : Nat) : Int) < 2 ^ 63; decide) h
local macro_rules | `(tactic| walk_at "truthy ref") => `(tactic| (k_here; (with_reducible show wpAny _ _ (truthy (Value.ref _)) _ _ _); k_dflt (refine' truthyTwo ?zN ?zm ?_; (case zN => k_asm); (case zm => k_mem))))
local macro_rules | `(tactic| walk_at "exec Raise some none") => `(tactic| (k_here; (with_reducible show wpAny _ _ (exec (Stmt.Raise (some (Expr.Call (Expr.Name _ _) (_ :: _) [] _)) none _) (envOfC _ _ _ _ _)) _ _ _); k_dflt (refine' raiseX ?zF ?zg ?zO PySem.F.excBase_Exception ?zh ?_ ?za ?zb ?zc ?zd ?ze ?zf; (case zF => k_asm); (case zg => exact TopRead.g (by k_asm)); (case zO => exact own_of_in (by k_asm) (by k_asm) (by k_is) (by k_exc)); (case zh => first | rfl | assumption); (case za => rfl); (case zb => rfl); (case zc => rfl); (case zd => rfl); (case ze => rfl); (case zf => decide); k_whole)))
local macro_rules | `(tactic| walk_at "leaving ref") => `(tactic| (k_here; (with_reducible show wpAny _ _ (leaving (envOfC _ _ _ _ _) (Value.ref _)) _ _ _); (refine' leaveX ?z1 ?z0 ?z2 ?z3 ?z4 ?z5 ?_; (case z0 => first | assumption | exact Heap.MadeExc.of (by assumption)); (case z2 => assumption); (case z1 => assumption); (case z3 => k_asm); (case z4 => rfl); (case z5 => rfl); k_whole; intro h' t' S' R' U'; (try dsimp only at S' R' U' ⊢))))
set_option maxRecDepth 100000 in
set_option maxHeartbeats 4000000 in
theorem pal2 {w : World} {mean : ExcName → Option Value} {mg mb : Str → Option Value} {h₀ : Heap} {cn : Str} {ns : List (Str × NameKind)} {mm} {L a : Addr} {ccd : Value} {cl} {m : Str → Option Value} {news : List (Addr × Obj)} {s : Shared} {Q E : Value → Shared → Prop} {H D : Addr} {x0 x1 tv : Value} {r0 r1 : Addr} {nd : Nat} {b g : Bool}
   (K0 : Below callerA h₀ [] h₀) (KX : (hd.heap_39 w.params).In h₀) (T : Top hd.view_39 (looseW hd.view_39 [Str.ofString "_law_table"]) mean mg mb h₀) (F : Fr h₀ L s.heap m)
   (N : News h₀ L s.heap ((H, W.listOf #[.ref r0, .ref r1] 0) :: (D, { cls := .type "tuple", data := .seq #[x0, x1] nd }) :: news))
   (hN : ∀ h' tk', Fr h₀ L h' m → News h₀ L h' ((H, W.listOf #[.ref r0, .ref r1] 0) :: (D, { cls := .type "tuple", data := .seq #[x0, x1] nd }) :: news) → Q .none {s with heap := h', toks := tk'}) :
  wpAny (model PySem.Challenge.rw_ax6024_01.row.prog w) (callerA.deeper (envX cn { kind := .function, names := ns, isGenerator := false, isCoroutine := false, more := mm } L a ccd cl)) (call (.ref 102) [.ref H, .ref D, tv, .bool b, .bool g]) Q E s := by
  revert KX
  k_fill
  intro KX
  w_on
  w_strict k_steps
  all_goals first
    | (refine hN _ _ (by k_asm) (cb_drop (by k_asm) (by kcj_all)); done)
theorem noA {P q r : Prop} {z : Tok} : ¬ (P ∧ (Value.int 0 z = Value.none ∧ q ∧ r)) := fun h => by cases h.2.1
theorem noB {P q r : Prop} : ¬ (P ∧ (q ∧ (true = false) ∧ r)) := fun h => by cases h.2.2.1
theorem noC {P q r : Prop} : ¬ (P ∧ (q ∧ r ∧ (true = false))) := fun h => by cases h.2.2.2
theorem noD {b : Bool} {q : Prop} (h : b = false) : ¬ (b = true ∧ q) := fun x => by rw [h] at x; cases x.1
set_option maxRecDepth 100000 in
set_option maxHeartbeats 4000000 in
theorem pal1 {w : World} {mean : ExcName → Option Value} {mg mb : Str → Option Value} {h₀ : Heap} {cn : Str} {ns : List (Str × NameKind)} {mm} {L a : Addr} {ccd : Value} {cl} {m : Str → Option Value} {news : List (Addr × Obj)} {s : Shared} {Q E : Value → Shared → Prop} {H D : Addr} {tv : Value} {d : Int} {td tz : Tok} {r0 r1 : Addr} {nd : Nat} {b g : Bool}
   (K0 : Below callerA h₀ [] h₀) (KX : (hd.heap_39 w.params).In h₀) (T : Top hd.view_39 (looseW hd.view_39 [Str.ofString "_law_table"]) mean mg mb h₀) (F : Fr h₀ L s.heap m)
   (N : News h₀ L s.heap ((H, W.listOf #[.ref r0, .ref r1] 0) :: (D, { cls := .type "tuple", data := .seq #[.int d td] nd }) :: news))
   (hv : (tv = .none ∧ b = false ∧ g = false) ∨ (tv = .int 0 tz ∧ b = false ∧ g = false) ∨ (tv = .none ∧ b = true ∧ g = false) ∨ (tv = .none ∧ b = false ∧ g = true))
   (hS : ([1, 2, 4, 8].any fun x => x == d) = true → (tv = .none ∧ b = false ∧ g = false) → ∀ h' tk' P tt, Fr h₀ L h' m → News h₀ L h' ((P, { cls := .type "tuple", data := .seq #[.int d tt, .none] }) :: (H, W.listOf #[.ref r0, .ref r1] 0) :: (D, { cls := .type "tuple", data := .seq #[.int d td] nd }) :: news) → Q (.ref P) {s with heap := h', toks := tk'})
   (hN : ¬ (([1, 2, 4, 8].any fun x => x == d) = true ∧ (tv = .none ∧ b = false ∧ g = false)) → ∀ h' tk', Fr h₀ L h' m → News h₀ L h' ((H, W.listOf #[.ref r0, .ref r1] 0) :: (D, { cls := .type "tuple", data := .seq #[.int d td] nd }) :: news) → Q .none {s with heap := h', toks := tk'}) :
  wpAny (model PySem.Challenge.rw_ax6024_01.row.prog w) (callerA.deeper (envX cn { kind := .function, names := ns, isGenerator := false, isCoroutine := false, more := mm } L a ccd cl)) (call (.ref 102) [.ref H, .ref D, tv, .bool b, .bool g]) Q E s := by
  revert KX
  k_fill
  intro KX
  w_on
  obtain ⟨rfl, rfl, rfl⟩ | ⟨rfl, rfl, rfl⟩ | ⟨rfl, rfl, rfl⟩ | ⟨rfl, rfl, rfl⟩ := hv
  all_goals (w_strict k_steps)
  all_goals first
    | (refine hS (by assumption) ⟨rfl, rfl, rfl⟩ _ _ _ _ (by k_asm) (cb_drop (by k_asm) (by kcj_all)); done)
    | (refine hN (noD (by assumption)) _ _ (by k_asm) (cb_drop (by k_asm) (by kcj_all)); done)
    | (refine hN noA _ _ (by k_asm) (cb_drop (by k_asm) (by kcj_all)); done)
    | (refine hN noB _ _ (by k_asm) (cb_drop (by k_asm) (by kcj_all)); done)
    | (refine hN noC _ _ (by k_asm) (cb_drop (by k_asm) (by kcj_all)); done)
end Mine

end
section
-- part PA
open PySem PySem.W PyProof.Rows
set_option Elab.async false
set_option rowWalk.seconds 0
namespace Mine
local macro_rules | `(tactic| walk_at "compareOp In int ref") => `(tactic| (k_here; (with_reducible show wpAny _ _ (compareOp CmpOp.In (Value.int _ _) (Value.ref 78)) _ _ _); k_dflt (refine' inTab ?k1 ?k2 ?_; (case k1 => k_asm); (case k2 => k_asm)); (try dsimp only)))
local macro_rules | `(tactic| walk_at "subscriptTail Name Name ref int") => `(tactic| (k_here; (with_reducible show wpAny _ _ (subscriptTail _ _ (Value.ref 78) (Value.int _ _)) _ _ _); k_dflt (refine' itemTab ?k1 ?k2 ?k3 ?_ ?_ ?_ ?_ ?_; (case k1 => k_asm); (case k2 => k_asm); (case k3 => first | exact KindIn.out (by assumption) | omega | ((simp only [decide_eq_true_eq] at *); omega))); all_goals (intro e9; (try dsimp only))))
local macro_rules | `(tactic| walk_at "subscriptTail Name Constant ref int") => `(tactic| (k_here; (with_reducible show wpAny _ _ (subscriptTail _ _ (Value.ref _) (Value.int _ _)) _ _ _); (with_unfolding_all refine' itemLit ?k1 ?k2 ?k3 ?k4 ?_ ?k6; (case k1 => is_list); (case k2 => decide); (case k3 => decide); (case k4 => rfl); (case k6 => with_unfolding_all rfl); k_whole)))
section
variable {prog : Program} {w : World} {A : Around} {E : Value → Shared → Prop} {s : Shared} {a b c : Int} {t u : Tok} {Q : Value → Shared → Prop}
theorem modTo (hb : b ≠ 0) (h : a.fmod b = c) (q : Q (.int c s.toks) { s with toks := s.toks + 1 }) : wpAny (model prog w) A (binaryOp .Mod (.int a t) (.int b u)) Q E s := mod_int' hb (by rw [h]; exact q)
theorem eqSmall (h : c < 4) (hb : ¬ b < 4) (q : Q (.bool false) s) : wpAny (model prog w) A (compareOp .Eq (.int c t) (.int b u)) Q E s := by
  refine IsLeap.wpAny_eq_int' ?_
  rw [show (c == b) = false from by simp only [beq_eq_false_iff_ne]; omega]
  exact q
theorem ltSmall (h : c < b) (q : Q (.bool true) s) : wpAny (model prog w) A (compareOp .Lt (.int c t) (.int b u)) Q E s := by
  refine lt_int ?_
  rw [show decide (c < b) = true from decide_eq_true h]
  exact q
end
theorem news_top2 {h₀ h : Heap} {L : Addr} {all : List (Addr × Obj)} {p q : Addr × Obj} (N : News h₀ L h all) (h1 : p ∈ all) (h2 : q ∈ all) : News h₀ L h (p :: q :: all) := fun r hr => by
  rcases List.mem_cons.mp hr with rfl | hr
  · exact N _ h1
  rcases List.mem_cons.mp hr with rfl | hr
  · exact N _ h2
  · exact N _ hr
section
variable {w : World} {mean : ExcName → Option Value} {mg mb : Str → Option Value} {h₀ : Heap} {cn : Str} {ns : List (Str × NameKind)} {mm : List (Str × Const)} {L a : Addr} {ccd : Value} {cl : List (Str × Addr)} {m : Str → Option Value} {all : List (Addr × Obj)} {s : Shared} {Q E : Value → Shared → Prop} {H D : Addr} {tv x0 x1 : Value} {d : Int} {td tz : Tok} {r0 r1 : Addr} {nd : Nat} {b g : Bool}
theorem callTold2
   (K0 : Below callerA h₀ [] h₀) (KX : (hd.heap_39 w.params).In h₀) (T : Top hd.view_39 (looseW hd.view_39 [Str.ofString "_law_table"]) mean mg mb h₀) (F : Fr h₀ L s.heap m) (N : News h₀ L s.heap all)
   (h1 : (H, W.listOf #[.ref r0, .ref r1] 0) ∈ all) (h2 : (D, ({ cls := .type "tuple", data := .seq #[x0, x1] nd } : Obj)) ∈ all)
   (hN : ∀ h' tk', Fr h₀ L h' m → News h₀ L h' all → Q .none {s with heap := h', toks := tk'}) :
  wpAny (model PySem.Challenge.rw_ax6024_01.row.prog w) (callerA.deeper (envX cn { kind := .function, names := ns, isGenerator := false, isCoroutine := false, more := mm } L a ccd cl)) (call (.ref 102) [.ref H, .ref D, tv, .bool b, .bool g]) Q E s :=
  pal2 (K0 := K0) (KX := KX) (T := T) (F := F) (N := news_top2 N h1 h2) (hN := fun h' tk' F' N' => hN h' tk' F' fun p hp => N' p (.tail _ (.tail _ hp)))
theorem callToldNo
   (K0 : Below callerA h₀ [] h₀) (KX : (hd.heap_39 w.params).In h₀) (T : Top hd.view_39 (looseW hd.view_39 [Str.ofString "_law_table"]) mean mg mb h₀) (F : Fr h₀ L s.heap m) (N : News h₀ L s.heap all)
   (h1 : (H, W.listOf #[.ref r0, .ref r1] 0) ∈ all) (h2 : (D, ({ cls := .type "tuple", data := .seq #[.int d td] nd } : Obj)) ∈ all)
   (hv : (tv = .int 0 tz ∧ b = false ∧ g = false) ∨ (tv = .none ∧ b = true ∧ g = false) ∨ (tv = .none ∧ b = false ∧ g = true))
   (hN : ∀ h' tk', Fr h₀ L h' m → News h₀ L h' all → Q .none {s with heap := h', toks := tk'}) :
  wpAny (model PySem.Challenge.rw_ax6024_01.row.prog w) (callerA.deeper (envX cn { kind := .function, names := ns, isGenerator := false, isCoroutine := false, more := mm } L a ccd cl)) (call (.ref 102) [.ref H, .ref D, tv, .bool b, .bool g]) Q E s := by
  refine pal1 (K0 := K0) (KX := KX) (T := T) (F := F) (N := news_top2 N h1 h2) (hv := Or.inr hv) (hS := fun _ e => ?_) (hN := fun _ h' tk' F' N' => hN h' tk' F' fun p hp => N' p (.tail _ (.tail _ hp)))
  obtain ⟨e1, e2, e3⟩ := e
  subst e1 e2 e3
  rcases hv with h | h | h
  · cases h.1
  · cases h.2.1
  · cases h.2.2
theorem callToldOk
   (K0 : Below callerA h₀ [] h₀) (KX : (hd.heap_39 w.params).In h₀) (T : Top hd.view_39 (looseW hd.view_39 [Str.ofString "_law_table"]) mean mg mb h₀) (F : Fr h₀ L s.heap m) (N : News h₀ L s.heap all)
   (h1 : (H, W.listOf #[.ref r0, .ref r1] 0) ∈ all) (h2 : (D, ({ cls := .type "tuple", data := .seq #[.int d td] nd } : Obj)) ∈ all)
   (hS : ([1, 2, 4, 8].any fun x => x == d) = true → ∀ h' tk' P tt, Fr h₀ L h' m → News h₀ L h' ((P, { cls := .type "tuple", data := .seq #[.int d tt, .none] }) :: all) → Q (.ref P) {s with heap := h', toks := tk'})
   (hN : ([1, 2, 4, 8].any fun x => x == d) = false → ∀ h' tk', Fr h₀ L h' m → News h₀ L h' all → Q .none {s with heap := h', toks := tk'}) :
  wpAny (model PySem.Challenge.rw_ax6024_01.row.prog w) (callerA.deeper (envX cn { kind := .function, names := ns, isGenerator := false, isCoroutine := false, more := mm } L a ccd cl)) (call (.ref 102) [.ref H, .ref D, .none, .bool false, .bool false]) Q E s := by
  refine pal1 (tz := 0) (K0 := K0) (KX := KX) (T := T) (F := F) (N := news_top2 N h1 h2) (hv := Or.inl ⟨rfl, rfl, rfl⟩) (hS := fun e _ h' tk' P tt F' N' => hS e h' tk' P tt F' ?_) (hN := fun e h' tk' F' N' => hN ?_ h' tk' F' fun p hp => N' p (.tail _ (.tail _ hp)))
  · intro p hp
    rcases List.mem_cons.mp hp with rfl | hp
    · exact N' _ (.head _)
    · exact N' p (.tail _ (.tail _ (.tail _ hp)))
  · cases q : ([1, 2, 4, 8].any fun x => x == d) with
    | false => rfl
    | true => exact absurd ⟨q, rfl, rfl, rfl⟩ e
end
end Mine

end
section
-- part PA2
open PySem PySem.W PyProof.Rows
set_option Elab.async false
set_option rowWalk.seconds 0
namespace Mine
local macro_rules | `(tactic| walk_at "compareOp In int ref") => `(tactic| (k_here; (with_reducible show wpAny _ _ (compareOp CmpOp.In (Value.int _ _) (Value.ref 78)) _ _ _); k_dflt (refine' inTab ?k1 ?k2 ?_; (case k1 => k_asm); (case k2 => k_asm)); (try dsimp only)))
local macro_rules | `(tactic| walk_at "subscriptTail Name Name ref int") => `(tactic| (k_here; (with_reducible show wpAny _ _ (subscriptTail _ _ (Value.ref 78) (Value.int _ _)) _ _ _); k_dflt (refine' itemTab ?k1 ?k2 ?k3 ?_ ?_ ?_ ?_ ?_; (case k1 => k_asm); (case k2 => k_asm); (case k3 => first | exact KindIn.out (by assumption) | omega | ((simp only [decide_eq_true_eq] at *); omega))); all_goals (intro e9; (try dsimp only))))
local macro_rules | `(tactic| walk_at "subscriptTail Name Constant ref int") => `(tactic| (k_here; (with_reducible show wpAny _ _ (subscriptTail _ _ (Value.ref _) (Value.int _ _)) _ _ _); (with_unfolding_all refine' itemLit ?k1 ?k2 ?k3 ?k4 ?_ ?k6; (case k1 => is_list); (case k2 => decide); (case k3 => decide); (case k4 => rfl); (case k6 => with_unfolding_all rfl); k_whole)))
local macro_rules | `(tactic| walk_at "call ref") => `(tactic| (k_here; (with_reducible show wpAny _ (Around.deeper callerA _) (call (Value.ref 102) _) _ _ _); k_dflt (refine' callTold2 ?z1 ?z2 ?z3 ?z4 ?z5 ?z6 ?z7 ?_; (case z4 => k_asm); (case z5 => k_asm); (case z1 => k_asm); (case z2 => k_asm); (case z3 => k_asm); (case z6 => k_mem); (case z7 => k_mem)); intro h' tk' F' N'; (try dsimp only)))
local macro_rules | `(tactic| walk_at "call ref") => `(tactic| (k_here; (with_reducible show wpAny _ (Around.deeper callerA _) (call (Value.ref 102) _) _ _ _); k_dflt (refine' callToldNo (tz := 0) ?z1 ?z2 ?z3 ?z4 ?z5 ?z6 ?z7 ?z8 ?_; (case z4 => k_asm); (case z5 => k_asm); (case z1 => k_asm); (case z2 => k_asm); (case z3 => k_asm); (case z6 => k_mem); (case z7 => k_mem); (case z8 => first | exact Or.inr (Or.inl ⟨rfl, rfl, rfl⟩) | exact Or.inr (Or.inr ⟨rfl, rfl, rfl⟩))); intro h' tk' F' N'; (try dsimp only)))
local macro_rules | `(tactic| walk_at "call ref") => `(tactic| (k_here; (with_reducible show wpAny _ (Around.deeper callerA _) (call (Value.ref 102) _) _ _ _); k_dflt (refine' callToldNo ?z1 ?z2 ?z3 ?z4 ?z5 ?z6 ?z7 ?z8 ?_; (case z4 => k_asm); (case z5 => k_asm); (case z1 => k_asm); (case z2 => k_asm); (case z3 => k_asm); (case z6 => k_mem); (case z7 => k_mem); (case z8 => exact Or.inl ⟨rfl, rfl, rfl⟩)); intro h' tk' F' N'; (try dsimp only)))
local macro_rules | `(tactic| walk_at "call ref") => `(tactic| (k_here; (with_reducible show wpAny _ (Around.deeper callerA _) (call (Value.ref 102) _) _ _ _); (focus (k_dflt (refine' callToldOk ?z1 ?z2 ?z3 ?z4 ?z5 ?z6 ?z7 ?_ ?_; (case z4 => k_asm); (case z5 => k_asm); (case z1 => k_asm); (case z2 => k_asm); (case z3 => k_asm); (case z6 => k_mem); (case z7 => k_mem)); (intro e9 h' tk' P' tt' F' N'; (try dsimp only)); rotate_left; (intro e9 h' tk' F' N'; (try dsimp only)); rotate_left))))
local macro_rules | `(tactic| walk_at "binaryOp Mod int int") => `(tactic| (k_here; k_dflt (refine modTo (by decide) (by assumption) ?_)))
local macro_rules | `(tactic| walk_at "compareOp Eq int int") => `(tactic| (k_here; k_dflt (refine eqSmall (by assumption) (by decide) ?_)))
local macro_rules | `(tactic| walk_at "compareOp Lt int int") => `(tactic| (k_here; k_dflt (refine ltSmall (by assumption) ?_)))
local macro_rules | `(tactic| walk_at "binaryOp Add ref ref") => `(tactic| (k_here; (with_reducible show wpAny _ _ (binaryOp Operator.Add (Value.ref _) (Value.ref _)) _ _ _); k_dflt (refine' kde_addT ?zF ?zN ?zt ?zb ?zv ?zw ?zz ?ze ?_; (case zF => k_asm); (case zN => k_asm); (case zt => exact News.isTup (by k_asm) (by k_mem)); (case zb => exact News.isTup (by k_asm) (by k_mem)); (case ze => rfl); (case zv => simp); (case zw => simp); (case zz => simp)); intro D' h' F' N' l1; (try k_lt l1); (try k_sweep)))
set_option maxRecDepth 100000 in
set_option maxHeartbeats 4000000 in
theorem segPA {w : World} {mean : ExcName → Option Value} {mg mb : Str → Option Value} {h₀ : Heap} {L fa : Addr} {cd : Value} {m : Str → Option Value} {s : Shared} {Q : Flow → Shared → Prop} {E : Value → Shared → Prop} {Fd nf : Nat} {a0 a1 a2 a3 a4 a5 a6 a7 a8 : Int} {t0 t1 t2 t3 t4 t5 t6 t7 t8 : Tok} {o1 o2 o3 o4 : Obj} {td : Tok} {u : Str → Option Value} {D Ld : Addr} {nd : Nat} {d way : Int} {ys : List Value} {v4 : Option Value}
    (K0 : Below callerA h₀ [] h₀) (KX : (hd.heap_39 w.params).In h₀) (T : Top hd.view_39 (looseW hd.view_39 [Str.ofString "_law_table"]) mean mg mb h₀)
    (F : Fr h₀ L s.heap (fun y => if y = Str.ofString "lets" then some (.ref Ld) else u y))
    (N : News h₀ L s.heap [(Ld, LCg.lst ys), (D, { cls := .type "tuple", data := .seq [Value.int d td].toArray nd }), (Fd, W.listOf [Value.int a0 t0, Value.int a1 t1, Value.int a2 t2, Value.int a3 t3, Value.int a4 t4, Value.int a5 t5, Value.int a6 t6, Value.int a7 t7, Value.int a8 t8].toArray nf), (L + 1 + 1 + 1 + 1, o4), (L + 1 + 1 + 1, o3), (L + 1 + 1, o2), (L + 1, o1)])
    (c1 : o1.data = .cell (some (.ref Fd))) (c3 : o3.data = .cell (some (.ref D))) (c4 : o4.data = .cell v4)
    (hys : IntsAre ys [1, 2, 4, 8]) (hd1 : 1 ≤ d) (hd2 : d ≤ 16) (hw : a6.fmod 8 = way) (hway : way < 4 ∨ way = 4 ∨ way = 5 ∨ way = 6 ∨ way = 7)
    (hQ : ∀ h' tk u' o3', Fr h₀ L h' u' → News h₀ L h' [(Fd, W.listOf [Value.int a0 t0, Value.int a1 t1, Value.int a2 t2, Value.int a3 t3, Value.int a4 t4, Value.int a5 t5, Value.int a6 t6, Value.int a7 t7, Value.int a8 t8].toArray nf), (L + 1 + 1 + 1 + 1, o4), (L + 1 + 1 + 1, o3'), (L + 1 + 1, o2), (L + 1, o1)] → Q .next { s with heap := h', toks := tk }) :
    wpAny (model PySem.Challenge.rw_ax6024_01.row.prog w) (callerA.deeper (lawEnv L fa cd)) (execs thenBody (lawEnv L fa cd)) Q E s := by
  dsimp only [seg, elseSeg, elseBody, thenBody, lawBody, lawEnv, lawScope, PySem.Challenge.pw_ax6024_01, List.drop, List.take]
  revert KX
  k_fill
  intro KX
  w_on
  have n1 : @Ne Nat (L + 1 + 1 + 1) Ld := news_ne N (by k_mem) (.head _) (by rw [c3]; exact fun e => by cases e)
  have n2 : @Ne Nat (L + 1 + 1 + 1) D := news_ne N (by k_mem) (.tail _ (.head _)) (by rw [c3]; exact fun e => by cases e)
  have n3 : @Ne Nat (L + 1 + 1 + 1) Fd := news_ne N (by k_mem) (.tail _ (.tail _ (.head _))) (by rw [c3]; exact fun e => by cases e)
  obtain hway | rfl | rfl | rfl | rfl := hway
  all_goals (w_strict k_steps)
  all_goals first
      | (refine hQ _ _ _ _ (by k_asm) (cb_drop (by k_asm) (by kcj_all)); done)
end Mine

end
section
-- part EE
open PySem PySem.W PyProof.Rows
set_option Elab.async false
set_option rowWalk.seconds 0
namespace Mine
theorem fr_at {h₀ h : Heap} {L : Addr} {m : Str → Option Value} {x : Str} {v : Value} (F : Fr h₀ L h m) (e : m x = some v) : Fr h₀ L h (fun y => if y = x then some v else m y) := by
  have e' : (fun y => if y = x then some v else m y) = m := by
    funext y
    split
    · rename_i h; rw [h, e]
    · rfl
  rw [e']; exact F
theorem fr_at2 {h₀ h : Heap} {L : Addr} {m : Str → Option Value} {x z : Str} {u v : Value} (F : Fr h₀ L h (fun y => if y = z then some u else m y)) (e : m x = some v) : Fr h₀ L h (fun y => if y = z then some u else if y = x then some v else m y) := by
  have e' : (fun y => if y = z then some u else if y = x then some v else m y) = (fun y => if y = z then some u else m y) := by
    funext y
    split
    · rfl
    split
    · rename_i h; rw [h, e]
    · rfl
  rw [e']; exact F
theorem PairsIn.tidy {rows : List (Addr × Obj)} {t : Int} {vs : List Value} {ds : List Int} (h : PairsIn rows t vs ds) : ∃ rows', (∀ p ∈ rows', p ∈ rows ∧ ∃ its n, p.2.data = .seq its n) ∧ PairsIn rows' t vs ds := by
  induction h with
  | nil => exact ⟨[], (fun p hp => by cases hp), .nil⟩
  | cons a _ ih =>
    obtain ⟨rows', h1, h2⟩ := ih
    obtain ⟨q, t1, t2, n, e, m⟩ := a
    refine ⟨(q, tupO #[.int _ t1, .int t t2] n) :: rows', fun p hp => ?_, .cons ⟨q, t1, t2, n, e, .head _⟩ (h2.mono fun p hp => .tail _ hp)⟩
    rcases List.mem_cons.mp hp with rfl | hp
    · exact ⟨m, _, _, rfl⟩
    · exact h1 p hp
theorem least_one {lt ds : List Int} {t t' : Int} (h : LeastOf lt ds t) (h' : LeastOf lt ds t') : t = t' := Int.le_antisymm (h.2.2 _ h'.1 h'.2.1) (h'.2.2 _ h.1 h.2.1)
theorem else_cut : elseBody = elseSeg 0 1 ++ (elseSeg 1 1 ++ (elseSeg 2 1 ++ elseSeg 3 1)) := rfl
end Mine

end
section
-- part EE2
open PySem PySem.W PyProof.Rows
set_option Elab.async false
set_option rowWalk.seconds 0
namespace Mine
set_option maxRecDepth 100000
theorem tailK {w : World} {mean : ExcName → Option Value} {mg mb : Str → Option Value} {h₀ : Heap} {L fa : Addr} {cd : Value} {m : Str → Option Value} {s : Shared} {Q : Flow → Shared → Prop} {E : Value → Shared → Prop} {o3 o4 : Obj} {u : Str → Option Value} {D Ld P : Addr} {nd : Nat} {ys dvs : List Value} {lt ds : List Int} {t : Int} {v4 : Option Value} {rest : List (Addr × Obj)}
    (K0 : Below callerA h₀ [] h₀) (KX : (hd.heap_39 w.params).In h₀) (T : Top hd.view_39 (looseW hd.view_39 [Str.ofString "_law_table"]) mean mg mb h₀)
    (F : Fr h₀ L s.heap (fun y => if y = Str.ofString "told" then some (.ref P) else if y = Str.ofString "lets" then some (.ref Ld) else u y))
    (N : News h₀ L s.heap ((L + 1 + 1 + 1 + 1, o4) :: (Ld, LCg.lst ys) :: (D, { cls := .type "tuple", data := .seq dvs.toArray nd }) :: (L + 1 + 1 + 1, o3) :: rest)) (hrest : ∀ p ∈ rest, p.1 ≠ L + 1 + 1 + 1 + 1)
    (c3 : o3.data = .cell (some (.ref D))) (c4 : o4.data = .cell v4)
    (hl5 : lt.length ≤ 5) (hys : IntsAre ys lt) (hds : IntsAre dvs ds) (hn : ds.length ≤ 4) (hne : 0 < ds.length) (hp : ∀ d ∈ ds, 0 ≤ d)
    (hL : LeastOf lt ds t)
    (hE : ∀ h' tk o4' t4 b (u' : Str → Option Value), (b = true ↔ ∀ d ∈ ds, d = t) → Fr h₀ L h' (fun y => if y = Str.ofString "alike" then some (.bool b) else if y = Str.ofString "told" then some (.ref P) else u' y) →
      News h₀ L h' ((D, { cls := .type "tuple", data := .seq dvs.toArray nd }) :: (L + 1 + 1 + 1 + 1, o4') :: (L + 1 + 1 + 1, o3) :: (Ld, LCg.lst ys) :: rest) → o4'.data = .cell (some (.int t t4)) →
      wpAny (model PySem.Challenge.rw_ax6024_01.row.prog w) (callerA.deeper (lawEnv L fa cd)) (execs (elseSeg 3 1) (lawEnv L fa cd)) Q E { s with heap := h', toks := tk }) :
    wpAny (model PySem.Challenge.rw_ax6024_01.row.prog w) (callerA.deeper (lawEnv L fa cd)) (execs (elseSeg 1 1 ++ (elseSeg 2 1 ++ elseSeg 3 1)) (lawEnv L fa cd)) Q E s := by
  refine execs_cut ?_
  refine segL (m := fun _ => none) (Fd := 0) (fo := o3) K0 KX T (fr_at F (by rfl)) N hrest c3 c4 (by rw [hys.length]; exact hl5) hys hds hne hp ⟨t, hL.1, hL.2.1⟩ fun h1 tk1 t1 tt1 o41 hL1 F1 N1 c41 => ?_
  obtain rfl := least_one hL hL1
  refine execs_cut ?_
  refine segK (m := fun _ => none) (nd := nd) (s := { s with heap := h1, toks := tk1 }) (rest := (Ld, LCg.lst ys) :: rest) K0 KX T F1 (fun p hp' => N1 p ?_) c3 c41 hds hn fun h2 tk2 b hb F2 N2 => ?_
  · rcases List.mem_cons.mp hp' with rfl | hp'
    · exact .tail _ (.tail _ (.head _))
    rcases List.mem_cons.mp hp' with rfl | hp'
    · exact .head _
    rcases List.mem_cons.mp hp' with rfl | hp'
    · exact .tail _ (.tail _ (.tail _ (.head _)))
    rcases List.mem_cons.mp hp' with rfl | hp'
    · exact .tail _ (.head _)
    · exact .tail _ (.tail _ (.tail _ (.tail _ hp')))
  · exact hE h2 tk2 o41 tt1 b _ hb (fr_at2 F2 (by rfl)) N2 c41
theorem rest_ne {h₀ h : Heap} {L a : Addr} {ob : Obj} {v : Option Value} {all : List (Addr × Obj)} (N : News h₀ L h all) (hm : (a, ob) ∈ all) (hd : ob.data = .cell v) : ∀ rest : List (Addr × Obj), (∀ p ∈ rest, p ∈ all) → (∀ p ∈ rest, p.1 ≠ a ∨ ∃ its n, p.2.data = .seq its n) → ∀ p ∈ rest, p.1 ≠ a := fun rest h1 h2 p hp => by
  rcases h2 p hp with h | h
  · exact h
  · exact pair_rows_ne N hm hd (h1 p hp) h
/-- form A: nothing is to be rescaled -/
theorem tailA {w : World} {mean : ExcName → Option Value} {mg mb : Str → Option Value} {h₀ : Heap} {L fa : Addr} {cd : Value} {m : Str → Option Value} {s : Shared} {Q : Flow → Shared → Prop} {E : Value → Shared → Prop} {o1 o2 o3 o4 fo : Obj} {u : Str → Option Value} {D Ld P Fd : Addr} {nd : Nat} {ys dvs : List Value} {lt ds : List Int} {t : Int} {tt : Tok} {v4 : Option Value}
    (K0 : Below callerA h₀ [] h₀) (KX : (hd.heap_39 w.params).In h₀) (T : Top hd.view_39 (looseW hd.view_39 [Str.ofString "_law_table"]) mean mg mb h₀)
    (F : Fr h₀ L s.heap (fun y => if y = Str.ofString "told" then some (.ref P) else if y = Str.ofString "lets" then some (.ref Ld) else u y))
    (N : News h₀ L s.heap [(P, { cls := .type "tuple", data := .seq #[.int t tt, .none] }), (D, { cls := .type "tuple", data := .seq dvs.toArray nd }), (L + 1 + 1 + 1, o3), (Ld, LCg.lst ys), (L + 1 + 1 + 1 + 1, o4), (Fd, fo), (L + 1 + 1, o2), (L + 1, o1)])
    (c3 : o3.data = .cell (some (.ref D))) (c4 : o4.data = .cell v4) (cf : ∃ its n, fo.data = .seq its n)
    (hl5 : lt.length ≤ 5) (hys : IntsAre ys lt) (hds : IntsAre dvs ds) (hn : ds.length ≤ 4) (hne : 0 < ds.length) (hp : ∀ d ∈ ds, 0 ≤ d)
    (hL : LeastOf lt ds t) (hall : ∀ d ∈ ds, d = t)
    (hQ : ∀ h' tk u' o4', Fr h₀ L h' u' → News h₀ L h' [(Fd, fo), (L + 1 + 1 + 1 + 1, o4'), (L + 1 + 1 + 1, o3), (L + 1 + 1, o2), (L + 1, o1)] → Q .next { s with heap := h', toks := tk }) :
    wpAny (model PySem.Challenge.rw_ax6024_01.row.prog w) (callerA.deeper (lawEnv L fa cd)) (execs (elseSeg 1 1 ++ (elseSeg 2 1 ++ elseSeg 3 1)) (lawEnv L fa cd)) Q E s := by
  refine tailK (m := fun _ => none) (t := t) (u := u) (rest := [(P, { cls := .type "tuple", data := .seq #[.int t tt, .none] }), (Fd, fo), (L + 1 + 1, o2), (L + 1, o1)]) K0 KX T F (cb_drop N (by kcj_all)) ?_ c3 c4 hl5 hys hds hn hne hp hL fun h1 tk1 o41 t4 b u1 hb F1 N1 c41 => ?_
  · refine rest_ne N (by k_mem) c4 _ (by kcj_all) fun p hp => ?_
    simp only [List.mem_cons, List.not_mem_nil, or_false] at hp
    rcases hp with rfl | rfl | rfl | rfl
    · exact .inr ⟨_, _, rfl⟩
    · exact .inr cf
    · exact .inl (by show L + 1 + 1 ≠ L + 1 + 1 + 1 + 1; exact Nat.ne_of_lt (by omega))
    · exact .inl (by show L + 1 ≠ L + 1 + 1 + 1 + 1; exact Nat.ne_of_lt (by omega))
  · obtain rfl := hb.mpr hall
    exact segIA (m := fun _ => none) (s := { s with heap := h1, toks := tk1 }) (rest := [(Fd, fo), (L + 1 + 1, o2), (L + 1, o1)]) K0 KX T F1 (cb_drop N1 (by kcj_all)) c3 c41 fun h2 tk2 u2 F2 N2 => hQ h2 tk2 u2 o41 F2 (cb_drop N2 (by kcj_all))
/-- form B: each channel's depth beside the one to be stored -/
theorem tailB {w : World} {mean : ExcName → Option Value} {mg mb : Str → Option Value} {h₀ : Heap} {L fa : Addr} {cd : Value} {m : Str → Option Value} {s : Shared} {Q : Flow → Shared → Prop} {E : Value → Shared → Prop} {o1 o2 o3 o4 fo : Obj} {u : Str → Option Value} {D Ld P l Fd : Addr} {nd nl : Nat} {ys dvs zs : List Value} {lt ds : List Int} {t : Int} {tt : Tok} {v4 : Option Value} {rows : List (Addr × Obj)}
    (K0 : Below callerA h₀ [] h₀) (KX : (hd.heap_39 w.params).In h₀) (T : Top hd.view_39 (looseW hd.view_39 [Str.ofString "_law_table"]) mean mg mb h₀)
    (F : Fr h₀ L s.heap (fun y => if y = Str.ofString "told" then some (.ref P) else if y = Str.ofString "lets" then some (.ref Ld) else u y))
    (N : News h₀ L s.heap ((P, { cls := .type "tuple", data := .seq #[.int t tt, .ref l] }) :: (l, { cls := .type "list", data := .seq zs.toArray nl }) :: (D, { cls := .type "tuple", data := .seq dvs.toArray nd }) :: (L + 1 + 1 + 1, o3) :: (Ld, LCg.lst ys) :: (L + 1 + 1 + 1 + 1, o4) :: (Fd, fo) :: (L + 1 + 1, o2) :: (L + 1, o1) :: rows))
    (c3 : o3.data = .cell (some (.ref D))) (c4 : o4.data = .cell v4) (cf : ∃ its n, fo.data = .seq its n)
    (hl5 : lt.length ≤ 5) (hys : IntsAre ys lt) (hds : IntsAre dvs ds) (hn : ds.length ≤ 4) (hne : 0 < ds.length) (hp : ∀ d ∈ ds, 0 ≤ d)
    (hL : LeastOf lt ds t) (hall : ¬ ∀ d ∈ ds, d = t) (hP0 : PairsIn rows t zs ds)
    (hQ : ∀ h' tk u' o4', Fr h₀ L h' u' → News h₀ L h' [(Fd, fo), (L + 1 + 1 + 1 + 1, o4'), (L + 1 + 1 + 1, o3), (L + 1 + 1, o2), (L + 1, o1)] → Q .next { s with heap := h', toks := tk }) :
    wpAny (model PySem.Challenge.rw_ax6024_01.row.prog w) (callerA.deeper (lawEnv L fa cd)) (execs (elseSeg 1 1 ++ (elseSeg 2 1 ++ elseSeg 3 1)) (lawEnv L fa cd)) Q E s := by
  obtain ⟨rs, hrs, hP⟩ := hP0.tidy
  have N' : News h₀ L s.heap ((L + 1 + 1 + 1 + 1, o4) :: (Ld, LCg.lst ys) :: (D, { cls := .type "tuple", data := .seq dvs.toArray nd }) :: (L + 1 + 1 + 1, o3) :: (P, { cls := .type "tuple", data := .seq #[.int t tt, .ref l] }) :: (l, { cls := .type "list", data := .seq zs.toArray nl }) :: (Fd, fo) :: (L + 1 + 1, o2) :: (L + 1, o1) :: rs) := by
    refine cb_drop N ?_
    repeat' (first | (refine List.forall_mem_cons.mpr ⟨?_, ?_⟩; (focus k_mem)) | (intro _ h9; have h9 := (hrs _ h9).1; repeat' (first | exact h9 | refine List.Mem.tail _ ?_)))
  refine tailK (m := fun _ => none) (t := t) (u := u) (rest := (P, { cls := .type "tuple", data := .seq #[.int t tt, .ref l] }) :: (l, { cls := .type "list", data := .seq zs.toArray nl }) :: (Fd, fo) :: (L + 1 + 1, o2) :: (L + 1, o1) :: rs) K0 KX T F N' ?_ c3 c4 hl5 hys hds hn hne hp hL fun h1 tk1 o41 t4 b u1 hb F1 N1 c41 => ?_
  · refine rest_ne N' (by k_mem) c4 _ (fun p hp => .tail _ (.tail _ (.tail _ (.tail _ hp)))) fun p hp => ?_
    simp only [List.mem_cons] at hp
    rcases hp with rfl | rfl | rfl | rfl | rfl | hp
    · exact .inr ⟨_, _, rfl⟩
    · exact .inr ⟨_, _, rfl⟩
    · exact .inr cf
    · exact .inl (by show L + 1 + 1 ≠ L + 1 + 1 + 1 + 1; exact Nat.ne_of_lt (by omega))
    · exact .inl (by show L + 1 ≠ L + 1 + 1 + 1 + 1; exact Nat.ne_of_lt (by omega))
    · exact .inr (hrs p hp).2
  · have hb' : b = false := by
      cases q : b with
      | false => rfl
      | true => exact absurd (hb.mp q) hall
    subst hb'
    have N2 : News h₀ L h1 ((P, { cls := .type "tuple", data := .seq #[.int t tt, .ref l] }) :: (l, { cls := .type "list", data := .seq zs.toArray nl }) :: (D, { cls := .type "tuple", data := .seq dvs.toArray nd }) :: (L + 1 + 1 + 1 + 1, o41) :: (L + 1 + 1 + 1, o3) :: (Fd, fo) :: (L + 1 + 1, o2) :: (L + 1, o1) :: rs) := by
      refine cb_drop N1 ?_
      repeat' (first | (refine List.forall_mem_cons.mpr ⟨?_, ?_⟩; (focus k_mem)) | (intro _ h9; repeat' (first | exact h9 | refine List.Mem.tail _ ?_)))
    exact segIB (m := fun _ => none) (s := { s with heap := h1, toks := tk1 }) (rest := (Fd, fo) :: (L + 1 + 1, o2) :: (L + 1, o1) :: rs) K0 KX T F1 N2 c3 c41 hds hn (hP.mono fun p hp => .tail _ (.tail _ (.tail _ hp))) fun h2 tk2 u2 F2 N3 => hQ h2 tk2 u2 o41 F2 (cb_drop N3 (by kcj_all))
end Mine

end
section
-- part EE3
open PySem PySem.W PyProof.Rows
set_option Elab.async false
set_option rowWalk.seconds 0
namespace Mine
set_option maxRecDepth 100000
theorem one_of {dvs : List Value} {ds : List Int} (h : IntsAre dvs ds) (h1 : ds.length = 1) : ∃ d td, dvs = [Value.int d td] ∧ ds = [d] := by
  cases h with
  | nil => cases h1
  | cons d td h => cases h with
    | nil => exact ⟨d, td, rfl, rfl⟩
    | cons _ _ _ => simp at h1
theorem segElse {w : World} {mean : ExcName → Option Value} {mg mb : Str → Option Value} {h₀ : Heap} {L fa : Addr} {cd : Value} {m : Str → Option Value} {s : Shared} {Q : Flow → Shared → Prop} {E : Value → Shared → Prop} {Fd nf : Nat} {a0 a1 a2 a3 a4 a5 a6 a7 a8 : Int} {t0 t1 t2 t3 t4 t5 t6 t7 t8 : Tok} {o1 o2 o3 o4 : Obj} {u : Str → Option Value} {D Ld : Addr} {nd : Nat} {ys dvs : List Value} {ds : List Int} {v4 : Option Value} {k n : Int} {g al : Bool}
    (K0 : Below callerA h₀ [] h₀) (KX : (hd.heap_39 w.params).In h₀) (T : Top hd.view_39 (looseW hd.view_39 [Str.ofString "_law_table"]) mean mg mb h₀)
    (F : Fr h₀ L s.heap (fun y => if y = Str.ofString "lets" then some (.ref Ld) else if y = Str.ofString "alpha" then some (.bool al) else if y = Str.ofString "grey" then some (.bool g) else u y))
    (N : News h₀ L s.heap [(Ld, LCg.lst ys), (D, { cls := .type "tuple", data := .seq dvs.toArray nd }), (Fd, W.listOf [Value.int a0 t0, Value.int a1 t1, Value.int a2 t2, Value.int a3 t3, Value.int a4 t4, Value.int a5 t5, Value.int a6 t6, Value.int a7 t7, Value.int a8 t8].toArray nf), (L + 1 + 1 + 1 + 1, o4), (L + 1 + 1 + 1, o3), (L + 1 + 1, o2), (L + 1, o1)])
    (c3 : o3.data = .cell (some (.ref D))) (c4 : o4.data = .cell v4)
    (hk : Kinds k g al n) (hk3 : k ≠ 3) (hys : IntsAre ys (tabList k)) (hds : IntsAre dvs ds) (hdn : (ds.length : Int) = n) (hr : ∀ d ∈ ds, 1 ≤ d ∧ d ≤ 16)
    (hQ : ∀ h' tk u' o4', Fr h₀ L h' u' → News h₀ L h' [(Fd, W.listOf [Value.int a0 t0, Value.int a1 t1, Value.int a2 t2, Value.int a3 t3, Value.int a4 t4, Value.int a5 t5, Value.int a6 t6, Value.int a7 t7, Value.int a8 t8].toArray nf), (L + 1 + 1 + 1 + 1, o4'), (L + 1 + 1 + 1, o3), (L + 1 + 1, o2), (L + 1, o1)] → Q .next { s with heap := h', toks := tk }) :
    wpAny (model PySem.Challenge.rw_ax6024_01.row.prog w) (callerA.deeper (lawEnv L fa cd)) (execs elseBody (lawEnv L fa cd)) Q E s := by
  have hp0 : ∀ d ∈ ds, 0 ≤ d := fun d hd => by have := (hr d hd).1; omega
  have hn4 : ds.length ≤ 4 := by unfold Kinds at hk; omega
  have hne : 0 < ds.length := by unfold Kinds at hk; omega
  rw [else_cut]
  refine execs_cut ?_
  by_cases h0 : k = 0
  · subst h0
    have hg : g = true ∧ al = false ∧ n = 1 := by unfold Kinds at hk; simpa using hk
    obtain ⟨rfl, rfl, rfl⟩ := hg
    obtain ⟨d, td, rfl, rfl⟩ := one_of hds (by omega)
    have hd := hr d (.head _)
    have hys' : IntsAre ys [1, 2, 4, 8, 16] := hys
    refine segT0 (m := fun _ => none) (u := fun y => if y = Str.ofString "lets" then some (.ref Ld) else u y) (q1 := LCg.lst ys) (q2 := o4) (q3 := W.listOf [Value.int a0 t0, Value.int a1 t1, Value.int a2 t2, Value.int a3 t3, Value.int a4 t4, Value.int a5 t5, Value.int a6 t6, Value.int a7 t7, Value.int a8 t8].toArray nf) (q4 := o2) (q5 := o1) (b1 := Ld) (b2 := L + 1 + 1 + 1 + 1) (b3 := Fd) (b4 := L + 1 + 1) (b5 := L + 1) (nd := nd) K0 KX T ?_ (cb_drop N (by kcj_all)) c3 hd.1 hd.2 ?_ ?_
    · have e : (fun y => if y = Str.ofString "lets" then (if y = Str.ofString "lets" then some (Value.ref Ld) else u y) else if y = Str.ofString "alpha" then some (.bool false) else if y = Str.ofString "grey" then some (.bool true) else (if y = Str.ofString "lets" then some (Value.ref Ld) else u y)) = (fun y => if y = Str.ofString "lets" then some (.ref Ld) else if y = Str.ofString "alpha" then some (.bool false) else if y = Str.ofString "grey" then some (.bool true) else u y) := by
        funext y
        by_cases h : y = Str.ofString "lets" <;> simp [h]
      rw [e]; exact F
    · intro h1 tk1 P tt hL F1 N1
      exact tailA (m := fun _ => none) (s := { s with heap := h1, toks := tk1 }) (tt := tt) (nd := nd) (v4 := v4) (lt := [1, 2, 4, 8, 16]) K0 KX T (fr_at2 F1 (by rfl)) N1 c3 c4 ⟨_, _, rfl⟩ (by decide) hys' (.cons d td .nil) (show 1 ≤ 4 by omega) (show 0 < 1 by omega) hp0 hL (fun x hx => List.mem_singleton.mp hx) fun h2 tk2 u2 o4' F2 N2 => hQ h2 tk2 u2 o4' F2 N2
    · intro h1 tk1 P l q t tt t1 t2 hL F1 N1
      exact tailB (m := fun _ => none) (s := { s with heap := h1, toks := tk1 }) (P := P) (l := l) (tt := tt) (nd := nd) (nl := 0) (v4 := v4) (lt := [1, 2, 4, 8, 16]) (zs := [.ref q]) (rows := [(q, { cls := .type "tuple", data := .seq #[.int d t1, .int t t2] })]) K0 KX T (fr_at2 F1 (by rfl)) (cb_drop N1 (by kcj_all)) c3 c4 ⟨_, _, rfl⟩ (by decide) hys' (.cons d td .nil) (show 1 ≤ 4 by omega) (show 0 < 1 by omega) hp0 hL.1 (fun h => hL.2 (h d (.head _))) (.cons ⟨q, t1, t2, 0, rfl, .head _⟩ .nil) fun h2 tk2 u2 o4' F2 N2 => hQ h2 tk2 u2 o4' F2 N2
  · have hg : g = false ∨ al = true := by
      unfold Kinds at hk
      rcases hk with h | h | h | h | h
      · exact absurd h.1 h0
      · exact .inl h.2.1
      · exact absurd h.1 hk3
      · exact .inr h.2.2.1
      · exact .inl h.2.1
    have hys' : IntsAre ys [8, 16] := by
      have e : tabList k = [8, 16] := by unfold tabList; rw [if_neg h0, if_neg hk3]
      rw [e] at hys; exact hys
    refine segT2 (m := fun _ => none) (u := fun y => if y = Str.ofString "lets" then some (.ref Ld) else u y) (q1 := LCg.lst ys) (q2 := o4) (q3 := W.listOf [Value.int a0 t0, Value.int a1 t1, Value.int a2 t2, Value.int a3 t3, Value.int a4 t4, Value.int a5 t5, Value.int a6 t6, Value.int a7 t7, Value.int a8 t8].toArray nf) (q4 := o2) (q5 := o1) (b1 := Ld) (b2 := L + 1 + 1 + 1 + 1) (b3 := Fd) (b4 := L + 1 + 1) (b5 := L + 1) (nd := nd) (al := al) (g := g) K0 KX T ?_ (cb_drop N (by kcj_all)) c3 hg hds hn4 hne hp0 hr ?_ ?_
    · have e : (fun y => if y = Str.ofString "lets" then (if y = Str.ofString "lets" then some (Value.ref Ld) else u y) else if y = Str.ofString "alpha" then some (.bool al) else if y = Str.ofString "grey" then some (.bool g) else (if y = Str.ofString "lets" then some (Value.ref Ld) else u y)) = (fun y => if y = Str.ofString "lets" then some (.ref Ld) else if y = Str.ofString "alpha" then some (.bool al) else if y = Str.ofString "grey" then some (.bool g) else u y) := by
        funext y
        by_cases h : y = Str.ofString "lets" <;> simp [h]
      rw [e]; exact F
    · intro h1 tk1 P t tt hL hall F1 N1
      exact tailA (m := fun _ => none) (s := { s with heap := h1, toks := tk1 }) (tt := tt) (nd := nd) (v4 := v4) (lt := [8, 16]) K0 KX T (fr_at2 F1 (by rfl)) N1 c3 c4 ⟨_, _, rfl⟩ (by decide) hys' hds hn4 hne hp0 hL hall fun h2 tk2 u2 o4' F2 N2 => hQ h2 tk2 u2 o4' F2 N2
    · intro h1 tk1 P l t tt zs nl rows hL hall hP F1 N1
      exact tailB (m := fun _ => none) (s := { s with heap := h1, toks := tk1 }) (P := P) (l := l) (tt := tt) (nd := nd) (nl := nl) (v4 := v4) (lt := [8, 16]) (zs := zs) (rows := rows) K0 KX T (fr_at2 F1 (by rfl)) N1 c3 c4 ⟨_, _, rfl⟩ (by decide) hys' hds hn4 hne hp0 hL hall hP fun h2 tk2 u2 o4' F2 N2 => hQ h2 tk2 u2 o4' F2 N2
end Mine

end
section
-- part EE4
open PySem PySem.W PyProof.Rows
set_option Elab.async false
set_option rowWalk.seconds 0
namespace Mine
set_option maxRecDepth 100000
theorem beq_of_eq {a b : Int} (h : a = b) : (a == b) = true := by subst h; exact beq_self_eq_true a
set_option maxHeartbeats 4000000 in
theorem segIf {w : World} {mean : ExcName → Option Value} {mg mb : Str → Option Value} {h₀ : Heap} {L fa : Addr} {cd : Value} {m : Str → Option Value} {s : Shared} {Q : Flow → Shared → Prop} {E : Value → Shared → Prop} {o2 : Obj} {k : Int} {tk9 : Tok} {all : List (Addr × Obj)}
    (N : News h₀ L s.heap all) (m2 : (L + 1 + 1, o2) ∈ all) (c2 : o2.data = .cell (some (.int k tk9)))
    (hT : k = 3 → ∀ tk, wpAny (model PySem.Challenge.rw_ax6024_01.row.prog w) (callerA.deeper (lawEnv L fa cd)) (execs thenBody (lawEnv L fa cd)) Q E { s with toks := tk })
    (hE : k ≠ 3 → ∀ tk, wpAny (model PySem.Challenge.rw_ax6024_01.row.prog w) (callerA.deeper (lawEnv L fa cd)) (execs elseBody (lawEnv L fa cd)) Q E { s with toks := tk }) :
    wpAny (model PySem.Challenge.rw_ax6024_01.row.prog w) (callerA.deeper (lawEnv L fa cd)) (execs (seg 7 1) (lawEnv L fa cd)) Q E s := by
  obtain ⟨p1, p2, p3, p4, e⟩ : ∃ p1 p2 p3 p4, seg 7 1 = [.If (.Compare (.Name (Str.ofString "kind") p1) [.Eq] [.Constant (.int 3) 0 p2] p3) thenBody elseBody p4] := ⟨_, _, _, _, rfl⟩
  rw [e]
  clear e
  generalize thenBody = TB at *
  generalize elseBody = EB at *
  refine wpAny_execs_cons (wpAny_If (wpAny_isTrue_Compare1 (name_cell N (by rfl) (by rfl) (by rfl) m2 c2 (by decide) _ (wpAny_Constant_int (IsLeap.wpAny_eq_int' (wpAny_truthy_bool ?_))))))
  generalize lawEnv L fa cd = env at *
  split
  · rename_i h
    exact wpAny_mono (hT (eq_of_beq h) _) (fun fl s' hq => by cases fl <;> first | exact hq | exact wpAny_execs_nil hq) fun _ _ x => x
  · rename_i h
    exact wpAny_mono (hE (fun q => h (beq_of_eq q)) _) (fun fl s' hq => by cases fl <;> first | exact hq | exact wpAny_execs_nil hq) fun _ _ x => x
end Mine

end
section
-- part EE5
open PySem PySem.W PyProof.Rows
set_option Elab.async false
set_option rowWalk.seconds 0
namespace Mine
set_option maxRecDepth 100000
theorem law_cut : lawBody = seg 0 1 ++ (seg 1 2 ++ (seg 3 2 ++ (seg 5 2 ++ (seg 7 1 ++ seg 8 3)))) := rfl
theorem kinds_in {k n : Int} {g al : Bool} (h : Kinds k g al n) : KindIn k ∧ 0 ≤ k ∧ k ≤ 8 ∧ (n = 1 ∨ n = 2 ∨ n = 3 ∨ n = 4) := by
  unfold Kinds at h
  unfold KindIn
  omega
theorem ways (a : Int) : a.fmod 8 < 4 ∨ a.fmod 8 = 4 ∨ a.fmod 8 = 5 ∨ a.fmod 8 = 6 ∨ a.fmod 8 = 7 := by
  have h1 : 0 ≤ a.fmod 8 := Int.fmod_nonneg_of_pos a (by decide)
  have h2 : a.fmod 8 < 8 := Int.fmod_lt_of_pos a (by decide)
  omega
set_option maxHeartbeats 2000000 in
theorem segSeven {w : World} {mean : ExcName → Option Value} {mg mb : Str → Option Value} {h₀ : Heap} {L fa : Addr} {cd : Value} {m : Str → Option Value} {s : Shared} {Q : Flow → Shared → Prop} {E : Value → Shared → Prop} {Fd nf : Nat} {a0 a1 a2 a3 a4 a5 a6 a7 a8 : Int} {t0 t1 t2 t3 t4 t5 t6 t7 t8 : Tok} {o1 o2 o3 o4 : Obj} {u : Str → Option Value} {D Ld : Addr} {nd : Nat} {ys dvs : List Value} {ds : List Int} {v4 : Option Value} {k n : Int} {g al : Bool} {tk9 : Tok}
    (K0 : Below callerA h₀ [] h₀) (KX : (hd.heap_39 w.params).In h₀) (T : Top hd.view_39 (looseW hd.view_39 [Str.ofString "_law_table"]) mean mg mb h₀)
    (F : Fr h₀ L s.heap (fun y => if y = Str.ofString "lets" then some (.ref Ld) else if y = Str.ofString "alpha" then some (.bool al) else if y = Str.ofString "grey" then some (.bool g) else u y))
    (N : News h₀ L s.heap [(Ld, LCg.lst ys), (D, { cls := .type "tuple", data := .seq dvs.toArray nd }), (Fd, W.listOf [Value.int a0 t0, Value.int a1 t1, Value.int a2 t2, Value.int a3 t3, Value.int a4 t4, Value.int a5 t5, Value.int a6 t6, Value.int a7 t7, Value.int a8 t8].toArray nf), (L + 1 + 1 + 1 + 1, o4), (L + 1 + 1 + 1, o3), (L + 1 + 1, o2), (L + 1, o1)])
    (c1 : o1.data = .cell (some (.ref Fd))) (c2 : o2.data = .cell (some (.int k tk9))) (c3 : o3.data = .cell (some (.ref D))) (c4 : o4.data = .cell v4)
    (hk : Kinds k g al n) (hys : IntsAre ys (tabList k)) (hds : IntsAre dvs ds) (hdn : (ds.length : Int) = n) (hr : ∀ d ∈ ds, 1 ≤ d ∧ d ≤ 16)
    (hQ : ∀ h' tk u' o3' o4', Fr h₀ L h' u' → News h₀ L h' [(Fd, W.listOf [Value.int a0 t0, Value.int a1 t1, Value.int a2 t2, Value.int a3 t3, Value.int a4 t4, Value.int a5 t5, Value.int a6 t6, Value.int a7 t7, Value.int a8 t8].toArray nf), (L + 1 + 1 + 1 + 1, o4'), (L + 1 + 1 + 1, o3'), (L + 1 + 1, o2), (L + 1, o1)] → Q .next { s with heap := h', toks := tk }) :
    wpAny (model PySem.Challenge.rw_ax6024_01.row.prog w) (callerA.deeper (lawEnv L fa cd)) (execs (seg 7 1) (lawEnv L fa cd)) Q E s := by
  refine segIf (m := fun _ => none) (mean := mean) (mg := mg) (mb := mb) N (.tail _ (.tail _ (.tail _ (.tail _ (.tail _ (.head _)))))) c2 (fun h3 tk => ?_) (fun h3 tk => ?_)
  · subst h3
    have hn1 : n = 1 := by unfold Kinds at hk; omega
    obtain ⟨d, td, rfl, rfl⟩ := one_of hds (by omega)
    have hd := hr d (.head _)
    exact segPA (m := fun _ => none) (s := { s with toks := tk }) (nd := nd) (v4 := v4) (u := fun y => if y = Str.ofString "alpha" then some (.bool al) else if y = Str.ofString "grey" then some (.bool g) else u y) K0 KX T F N c1 c3 c4 hys hd.1 hd.2 rfl (ways a6) fun h1 tk1 u1 o3' F1 N1 => hQ h1 tk1 u1 o3' o4 F1 N1
  · exact segElse (m := fun _ => none) (s := { s with toks := tk }) (nd := nd) (v4 := v4) (k := k) (n := n) K0 KX T F N c3 c4 hk h3 hys hds hdn hr fun h1 tk1 u1 o4' F1 N1 => hQ h1 tk1 u1 o3 o4' F1 N1
set_option maxHeartbeats 2000000 in
theorem law_body {w : World} {mean : ExcName → Option Value} {mg mb : Str → Option Value} {h₀ : Heap} {L fa : Addr} {cd : Value} {m : Str → Option Value} {s : Shared} {Q : Flow → Shared → Prop} {E : Value → Shared → Prop} {l : Addr} {vs : List Value} {script : List Int} {o1 o2 o3 o4 : Obj} {v1 v2 v3 v4 : Option Value} {u : Str → Option Value}
    (K0 : Below callerA h₀ [] h₀) (KX : (hd.heap_39 w.params).In h₀) (T : Top hd.view_39 (looseW hd.view_39 [Str.ofString "_law_table"]) mean mg mb h₀)
    (F : Fr h₀ L s.heap (fun y => if y = Str.ofString "script" then some (.ref l) else u y))
    (hL : h₀.IsList l vs.toArray) (hI : IntsAre vs script) (hlen : script.length ≤ 63)
    (N : News h₀ L s.heap [(L + 1 + 1 + 1 + 1, o4), (L + 1 + 1 + 1, o3), (L + 1 + 1, o2), (L + 1, o1)])
    (c1 : o1.data = .cell v1) (c2 : o2.data = .cell v2) (c3 : o3.data = .cell v3) (c4 : o4.data = .cell v4)
    (hQ : ∀ h' tk m', Fr h₀ L h' m' → Q (.ret (.bool true)) { s with heap := h', toks := tk }) :
    wpAny (model PySem.Challenge.rw_ax6024_01.row.prog w) (callerA.deeper (lawEnv L fa cd)) (execs lawBody (lawEnv L fa cd)) Q E s := by
  rw [law_cut]
  refine execs_cut ?_
  refine segA (m := fun _ => none) K0 KX T F hL hI hlen N c1 c2 c3 c4 fun h1 tk1 Fd nf a0 a1 a2 a3 a4 a5 a6 a7 a8 t0 t1 t2 t3 t4 t5 t6 t7 t8 o1' F1 N1 c1' => ?_
  refine execs_cut ?_
  refine segB (s := { s with heap := h1, toks := tk1 }) K0 KX T F1 N1 c1' c2 c3 c4 fun h2 tk2 k g al n tn tk' o2' u2 hk F2 N2 c2' => ?_
  refine execs_cut ?_
  refine segC (m := fun _ => none) (s := { s with heap := h2, toks := tk2 }) K0 KX T F2 N2 c1' c2' c3 c4 (kinds_in hk).2.2.2 fun h3 tk3 D nd dvs ds o3' hds hdn hr F3 N3 c3' => ?_
  refine execs_cut ?_
  refine segD (m := fun _ => none) (s := { s with heap := h3, toks := tk3 }) (al := al) (g := g) K0 KX T (fr2 F3 (by rfl) (by rfl)) N3 c2' (kinds_in hk).1 (kinds_in hk).2.1 (kinds_in hk).2.2.1 fun h4 tk4 Ld ys u4 hys F4 N4 => ?_
  refine execs_cut ?_
  refine segSeven (m := fun _ => none) (s := { s with heap := h4, toks := tk4 }) K0 KX T F4 N4 c1' c2' c3' c4 hk hys hds hdn hr fun h5 tk5 u5 o3'' o4'' F5 N5 => ?_
  exact segF (s := { s with heap := h5, toks := tk5 }) K0 KX T F5 N5 c1' fun h6 tk6 m6 F6 => hQ h6 tk6 m6 F6
end Mine

end
open PySem PySem.W PyProof.Rows
set_option Elab.async false
set_option rowWalk.seconds 0
open Mine
set_option maxRecDepth 100000 in
set_option maxHeartbeats 8000000 in
theorem PySem.Challenge.cw_ax6024_01_holds : PySem.Challenge.rw_ax6024_01.Holds := by
  exact hd (by w_strict (k_go0; (all_goals try k_fold); (rename Below _ _ _ _ => kb); (rename News _ _ _ _ => kn); (rename Fr _ _ _ _ => kf); (rename Frag.In _ _ => kx); (rename Top _ _ _ _ _ _ => kt); (rename IntsAre _ _ => ki); (rename Heap.IsList _ _ _ => kl); (refine' law_body (m := fun _ => none) (u := fun _ => none) kb kx kt kf kl ki (by omega) kn ?c1 ?c2 ?c3 ?c4 ?hq); (case c1 => assumption); (case c2 => assumption); (case c3 => assumption); (case c4 => assumption); (case hq => (intro h' tk' m' F'; k_steps))))
