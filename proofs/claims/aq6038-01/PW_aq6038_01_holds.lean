import PyProof.Rows.All
import Wide.All
import OpenK.AllK
import Wide.FinOn
import PySem.Challenge.RW_aq6038_01
open PySem PySem.W PyProof.Rows
set_option Elab.async false
set_option maxRecDepth 100000
set_option maxHeartbeats 8000000 in
open_top Mine.hd for PySem.Challenge.rw_aq6038_01
open PySem.Spec PySem.Calls
namespace Mine

/-- the walk's lines for a law's top are put off again -/
theorem top_off : True := by
  w_top off
  trivial


/-- news without the entry at d -/
inductive Out1 (d : Addr) (o : Obj) : List (Addr × Obj) → List (Addr × Obj) → Prop
  | head {r : List (Addr × Obj)} : (∀ p ∈ r, p.1 ≠ d) → Out1 d o ((d, o) :: r) r
  | tail {p : Addr × Obj} {r r' : List (Addr × Obj)} : p.1 ≠ d → Out1 d o r r' → Out1 d o (p :: r) (p :: r')

theorem Out1.mem {d : Addr} {o : Obj} : ∀ {l r : List (Addr × Obj)}, Out1 d o l r → (d, o) ∈ l
  | _, _, .head _ => .head _
  | _, _, .tail _ h => .tail _ h.mem
theorem Out1.sub {d : Addr} {o : Obj} : ∀ {l r : List (Addr × Obj)}, Out1 d o l r → ∀ p ∈ r, p ∈ l ∧ p.1 ≠ d
  | _, _, .head h, p, hp => ⟨.tail _ hp, h p hp⟩
  | _, _, .tail hne h, p, hp => by
    cases hp with
    | head => exact ⟨.head _, hne⟩
    | tail _ hp => exact ⟨.tail _ (h.sub p hp).1, (h.sub p hp).2⟩

section
variable {prog : Program} {w : World} {A A₀ : Around} {s : Shared} {K : Frag} {L : Addr} {h₀ base : Heap} {m mg mb : Str → Option Value} {own rest news : List (Addr × Obj)} {p : Program} {loose : List Str} {mean : ExcName → Option Value}

/-- as code_def, but the callee sees the entries own alone; the others (rest) are kept and come back -/
theorem code_defR {env : Env} {outer : List Env} {R : Result → Shared → Prop} {name qual : Str} {params : Arguments} {body : List Stmt} {scope : Scope} {dV kV doc pm cdv ct oc : Value} {an od : Option Addr} {osl : Array (Option Value)} {f : Addr} {args : Args} {binds : List (Str × Value)}
    (B : Below A₀ base outer h₀) (F : Fr h₀ L s.heap m) (X₀ : K.In h₀) (N₀ : News h₀ L s.heap news) (hown : ∀ q ∈ own, q ∈ news) (hrest : ∀ q ∈ rest, q ∈ news ∧ ∀ z ∈ own, q.1 ≠ z.1)
    (T : Top p loose mean mg mb h₀) (hA : A.frames = some (env :: outer)) (hf : env.frame = some L) (hke : env.scope.kind = .function)
    (ho : K.lookup f = some ⟨oc, od, .func (fnOf name qual params body scope dV kV doc pm an cdv ct), osl⟩) (hcd : codeIn K cdv qual = true) (hroom : A.depth < recursionLimit)
    (hbind : BindsTo s (fnOf name qual params body scope dV kV doc pm an cdv ct) args binds) (hloc : ∀ y ∈ binds, scope.names.lookup y.1 = some .local)
    (h : ∀ g L' h₁, Fr h₀ L g m → Fr g L' h₁ (fun y => binds.reverse.lookup y) → News g L' h₁ own → Below A base (env :: outer) g → K.In g → Top p loose mean mg mb g →
      wpAny (model prog w) (A.deeper (envOf qual scope L' f cdv)) (execs body (envOf qual scope L' f cdv))
        (fun fl s' => LeaveK h₀ L m g (fun r s'' => News h₀ L s''.heap rest → R r s'') (match fl with | .ret v => v | _ => .none) s')
        (fun e s' => wpAny (model prog w) (A.deeper (envOf qual scope L' f cdv)) (leaving (envOf qual scope L' f cdv) e) (fun _ s'' => R (.error e) s'') (fun e' s'' => R (.error e') s'') s')
        { s with heap := h₁, toks := s.toks + binds.length })
    (hco : scope.isCoroutine = false) (hgen : scope.isGenerator = false) (hk : scope.kind = .function)
    (hcell : ∀ x ∈ scope.names, x.2 ≠ .cell) : codeAny (model prog w) A (.call (.ref f) args) R s := by
  have N : News h₀ L s.heap own := fun q hq => N₀ q (hown q hq)
  obtain ⟨FG, BG, st, _⟩ := groundX (R := R) B F N hA hf hke
  have X := X₀.keeps F.keep
  refine codeAny_call_def (fd := fnOf name qual params body scope dV kV doc pm an cdv ct) (body := body) (binds := binds) hroom (X _ _ ho) rfl (T.nolimit.keeps F.keep) (codeRec_of X hcd) rfl hbind hcell hloc (fun h₁ hns hk₁ => ?_) hco hgen hk
  refine wpAny_mono (h _ s.heap.objs.size h₁ FG ⟨hns, fun b o e => hk₁ b o (of_hideAll _ e), Nat.le_of_eq (hideAll_size _ _)⟩
    (fun p hp => ⟨hk₁ _ _ (N p hp).1, Nat.ne_of_lt (Heap.lt_size (N p hp).1), hideAll_none _ (List.mem_map_of_mem hp)⟩) BG (X₀.keeps st) (T.keeps st)) (fun fl s' hl => ?_) fun _ _ y => y
  have hrg : ∀ q ∈ rest, (hideAll s.heap (own.map (·.1))).get? q.1 = some q.2 := fun q hq => by
    refine hideAll_get _ (N₀ q (hrest q hq).1).1 fun hc => ?_
    obtain ⟨z, hz, e⟩ := List.mem_map.mp hc
    exact (hrest q hq).2 z hz e.symm
  obtain ⟨L', m', news', F', N', k⟩ := hl
  obtain ⟨oL, es, ep, hL, hLd, hLk, hLf⟩ := F.ns
  have nL : L ∉ own.map (·.1) := fun q => by
    obtain ⟨p, hp, e⟩ := List.mem_map.mp q
    exact (N p hp).2.1 e
  have hLg := hideAll_get (own.map (·.1)) hL nL
  refine k ⟨⟨oL, es, ep, F'.keep L oL hLg, hLd, hLk, hLf⟩, fun b o e => F'.keep b o (st b o e), F.above⟩ (fun p hp => ⟨(N' p hp).1, fun q => ?_, ?_⟩) fun q hq => ⟨F'.keep _ _ (hrg q hq), (N₀ q (hrest q hq).1).2⟩
  · have := (N' p hp).2.2; rw [q, hLg] at this; cases this
  · cases q : h₀.get? p.1 with
    | none => rfl
    | some o => have := (N' p hp).2.2; rw [st _ _ q] at this; cases this
end

/-- what a draw's list holds -/
structure Drawn (vs : List Value) (sd : Int) : Prop where
  nums : ∃ ns, IntsAre vs ns ∧ ∀ n ∈ ns, 0 ≤ n
  len60 : vs.length ≤ 60
  lo : 0 ≤ sd
  hi : sd < 2147483647

theorem news_join {h₀ h : Heap} {L : Addr} {l own rest : List (Addr × Obj)} (N : News h₀ L h l) (R : News h₀ L h rest) (hs : ∀ p ∈ own, p ∈ l) : News h₀ L h (own ++ rest) := fun p hp => by
  rcases List.mem_append.mp hp with hp | hp
  · exact N p (hs p hp)
  · exact R p hp
theorem news_sub {h₀ h : Heap} {L : Addr} {l own : List (Addr × Obj)} (N : News h₀ L h l) (hs : ∀ p ∈ own, p ∈ l) : News h₀ L h own := fun p hp => N p (hs p hp)
theorem fmod_lo (a : Int) {b : Int} (hb : 0 < b) : 0 ≤ a.fmod b := by
  rw [Int.fmod_eq_emod_of_nonneg a (Int.le_of_lt hb)]; exact Int.emod_nonneg a (Int.ne_of_gt hb)
theorem fmod_hi (a : Int) {b : Int} (hb : 0 < b) : a.fmod b < b := by
  rw [Int.fmod_eq_emod_of_nonneg a (Int.le_of_lt hb)]; exact Int.emod_lt_of_pos a hb

section
variable {prog : Program} {w : World} {A : Around} {E : Value → Shared → Prop} {s : Shared} {h₀ : Heap} {L D : Addr} {m : Str → Option Value} {news news' : List (Addr × Obj)} {vs : List Value} {n : Nat} {k : Int} {u : Tok}
/-- a store into a list of the ledger, whatever the list holds -/
theorem set_any {x : Value} {Q : Unit → Shared → Prop} (F : Fr h₀ L s.heap m) (N : News h₀ L s.heap news) (U : Upd D (listOf vs.toArray n) (listOf (vs.set k.toNat x).toArray n) news news') (h0 : 0 ≤ k) (h1 : k < vs.length) (hfit : k < 2 ^ 63)
    (h : ∀ h', Fr h₀ L h' m → News h₀ L h' news' → Q () { s with heap := h' }) :
    wpAny (model prog w) A (setItem (.ref D) (.int k u) x) Q E s := by
  obtain ⟨pre, post, rfl, rfl, a, b⟩ := U.split
  have z := N (D, listOf vs.toArray n) (List.mem_append.mpr (.inr (.head _)))
  refine ki_setAt z.1 h0 hfit (by rw [List.size_toArray]; exact h1) (h _ (F.change (Heap.SameBut.update ..) z.2.1 z.2.2) (ki_turn _ N a b ?_ ?_))
  · show vs.toArray.setIfInBounds k.toNat x = (vs.set k.toNat x).toArray
    apply Array.toList_inj.mp
    simp
  · simp
/-- pop(0) of a list of the ledger that is not empty -/
theorem pop_first {y : Value} {Q : Value → Shared → Prop} (F : Fr h₀ L s.heap m) (N : News h₀ L s.heap news) (U : Upd D (listOf (y :: vs).toArray n) (listOf vs.toArray (n + 1)) news news') (hz : vs.length ≤ 60)
    (h : ∀ h', Fr h₀ L h' m → News h₀ L h' news' → Q y { s with heap := h' }) : wpAny (model prog w) A (call (.builtin "list.pop") [.ref D, .int 0 u]) Q E s := by
  refine kl_popAt (its := (y :: vs).toArray) (i := 0) (k := 0) (p := []) (q := vs) F N (by decide +kernel) ?_ rfl U ?_ h
  · unfold seqIndex?
    simp
  · show (y :: vs).length ≤ sizeLine
    rw [sizeLine_eq, List.length_cons]
    omega
end

theorem nameG_B {M : Model} {A : Around} {E : Value → Shared → Prop} {s : Shared} {K : Frag} {h₀ : Heap} {L : Addr} {m mg mb : Str → Option Value} {env : Env} {p : Program} {loose : List Str} {x : Str} {pos : Pos} {v : Value} {Q : Value → Shared → Prop}
    (F : Fr h₀ L s.heap m) (X : K.In h₀) (T : TopRead p loose mg mb h₀) (e : nsIn K mainGlobals x = some none) (hv : bootBuiltins x = some v) (hn : x ≠ "__name__") (h : Q v s)
    (hg : env.globals = mainGlobals) (hb : env.builtins = builtinsNs) (hk : env.scope.kind = .function) (hx : env.kindOf x = some .globalImplicit) (hd : (x == ("__debug__" : Str)) = false) :
    wpAny M A (eval (.Name x pos) env) Q E s :=
  Name_function_global hk hx (loadGlobal_builtin (env := env) (by rw [hg]; exact T.g.keeps F.keep) (mg_none_of X T.g e) (by rw [hb]; exact T.b.keeps F.keep) ((T.builtins x hn).trans hv) h) hd

section
open LCg LCt
variable {prog : Program} {w : World} {A : Around} {h₀ : Heap} {L : Addr} {m : Str → Option Value} {env : Env} {ct elt : Expr} {x : Str} {scope : Scope} {cl : List (Str × Addr)} {s : Shared} {S : List (Addr × Obj) → Prop} {P : Nat → Value → Prop}
  {Fin : List Value → List (Addr × Obj) → Prop} {news : List (Addr × Obj)}

theorem ints_snoc {n : Int} {t : Tok} : ∀ {vs : List Value} {ns : List Int}, IntsAre vs ns → IntsAre (vs ++ [.int n t]) (ns ++ [n])
  | _, _, .nil => .cons n t .nil
  | _, _, .cons a b r => .cons a b (ints_snoc r)

/-- a comprehension whose element is an int's int: the turns one by one -/
theorem compRest_map (f : Int → Int) (val : Nat → Int) (N0 : Nat) (hP : ∀ i v, P i v → ∃ t, v = .int (val i) t) (hS : S news)
    (hel : ∀ (n : Int) (t : Tok) (I : Addr) (oI : Obj) (C : Addr) (oC : Obj) (D : Addr) (ys : List Value) (m₂ : Str → Option Value) (h : Heap) (tk : Nat) (Q' E' : Value → Shared → Prop), NsObj oC m₂ → m₂ x = some (.int n t) → Fr h₀ L h m →
      News h₀ L h ((I, oI) :: (C, oC) :: (D, lst ys) :: news) → (∀ t' tk', Q' (.int (f n) t') { s with heap := h, toks := tk' }) → wpAny (model prog w) A (eval elt (compEnvC scope cl C env)) Q' E' { s with heap := h, toks := tk })
    (hfin : ∀ ys, IntsAre ys ((List.range N0).map fun i => f (val i)) → Fin ys news) :
    ∀ (k i : Nat) (ys : List Value), k + i = N0 → IntsAre ys ((List.range i).map fun i => f (val i)) → CompRest prog w A h₀ L m env elt x scope cl s S P Fin k i ys news := by
  intro k
  induction k with
  | zero =>
    intro i ys hki hys
    obtain rfl : i = N0 := by omega
    exact hfin ys hys
  | succ k ih =>
    intro i ys hki hys
    refine CompRest.succ fun v I oI C oC D m₂ h tk E' hv hC hx F N off ne => ?_
    obtain ⟨t, rfl⟩ := hP i v hv
    refine hel _ _ I oI C oC D ys m₂ h tk _ E' hC hx F N fun t' tk' => ?_
    refine CompEnd.intro F N news (fun p hp => hp) off hS (ih (i + 1) _ (by omega) ?_)
    rw [List.range_succ, List.map_append]
    exact ints_snoc hys

/-- a comprehension with a test, its element the int itself -/
theorem compRest_filter (p : Int → Bool) (val : Nat → Int) (N0 : Nat) (hP : ∀ i v, P i v → ∃ t, v = .int (val i) t) (hS : S news)
    (hct : ∀ (i : Nat) (n : Int) (t : Tok) (I : Addr) (oI : Obj) (C : Addr) (oC : Obj) (D : Addr) (ys : List Value) (m₂ : Str → Option Value) (h : Heap) (tk : Nat) (Q' : Bool → Shared → Prop) (E' : Value → Shared → Prop), i < N0 → n = val i → NsObj oC m₂ → m₂ x = some (.int n t) → Fr h₀ L h m →
      News h₀ L h ((I, oI) :: (C, oC) :: (D, lst ys) :: news) → (∀ tk', Q' (p n) { s with heap := h, toks := tk' }) → wpAny (model prog w) A (isTrue ct (compEnvC scope cl C env) (eval ct (compEnvC scope cl C env))) Q' E' { s with heap := h, toks := tk })
    (hel : ∀ (n : Int) (t : Tok) (I : Addr) (oI : Obj) (C : Addr) (oC : Obj) (D : Addr) (ys : List Value) (m₂ : Str → Option Value) (h : Heap) (tk : Nat) (Q' E' : Value → Shared → Prop), NsObj oC m₂ → m₂ x = some (.int n t) → Fr h₀ L h m →
      News h₀ L h ((I, oI) :: (C, oC) :: (D, lst ys) :: news) → (∀ t' tk', Q' (.int n t') { s with heap := h, toks := tk' }) → wpAny (model prog w) A (eval elt (compEnvC scope cl C env)) Q' E' { s with heap := h, toks := tk })
    (hfin : ∀ ys, IntsAre ys (((List.range N0).map val).filter p) → Fin ys news) :
    ∀ (k i : Nat) (ys : List Value), k + i = N0 → IntsAre ys (((List.range i).map val).filter p) → CompRestT prog w A h₀ L m env ct elt x scope cl s S P Fin k i ys news := by
  intro k
  induction k with
  | zero =>
    intro i ys hki hys
    obtain rfl : i = N0 := by omega
    exact hfin ys hys
  | succ k ih =>
    intro i ys hki hys
    refine CompRestT.succ fun v I oI C oC D m₂ h tk E' hv hC hx F N off ne => ?_
    obtain ⟨t, rfl⟩ := hP i v hv
    refine hct i _ _ I oI C oC D ys m₂ h tk _ E' (by omega) rfl hC hx F N fun tk' => ?_
    by_cases hp : p (val i) = true
    · rw [if_pos hp]
      refine hel _ _ I oI C oC D ys m₂ h tk' _ E' hC hx F N fun t' tk'' => ?_
      refine CompEnd.intro F N news (fun p hp => hp) off hS (ih (i + 1) _ (by omega) ?_)
      rw [List.range_succ, List.map_append, List.filter_append]
      simp only [List.map_cons, List.map_nil, List.filter_cons, hp, if_true, List.filter_nil]
      exact ints_snoc hys
    · rw [if_neg hp]
      refine CompEnd.intro F N news (fun p hp => hp) off hS (ih (i + 1) _ (by omega) ?_)
      rw [List.range_succ, List.map_append, List.filter_append]
      simp only [List.map_cons, List.map_nil, List.filter_cons, hp, Bool.false_eq_true, if_false, List.filter_nil, List.append_nil]
      exact hys
end

/-- a goal at which the walk is to halt -/
def MStop (P : Prop) : Prop := P
theorem MStop.out {P : Prop} (h : MStop P) : P := h
theorem MStop.mk {P : Prop} (h : P) : MStop P := h

theorem ints_at {us : List Value} {ms : List Int} (hI : IntsAre us ms) (i : Nat) (v : Value) (hv : us.toArray[i]? = some v) : ∃ t, v = .int (ms.getD i 0) t := IntsAre.int_at hI i v (by simpa using hv)
-- surroundings: depth and units of an unknown caller
local macro_rules | `(tactic| units_room) => `(tactic| (have hcL9 := cLine_is; (try simp only [units_in1, units_deeper, Around.mark_units, units_caller, Around.in1, Around.deeper]); (try dsimp only [ktrTop]); omega))
local macro_rules | `(tactic| k_units) => `(tactic| units_room)
local macro_rules | `(tactic| ktr_room) => `(tactic| ((try simp only [depth_under_make, depth_under_kw, depth_in1, depth_deeper, depth_caller]); (try dsimp only [ktrTop]); (simp only [recursionLimit]); omega))
local macro_rules | `(tactic| k_room) => `(tactic| ktr_room)
-- entering a def with a frame
local macro_rules | `(tactic| walk_at "mine enter") => `(tactic| (refine' code_defR ?k1 ?k2 ?k3 ?k4 ?o1 ?o2 ?k5 ?kA ?kF ?kK ?k6 ?k7 ?k8 ?k9 ?kB ?_ ?c2 ?c3 ?c4 ?c5; (case kA => exact rfl); (case kF => exact rfl); (case kK => first | assumption | exact rfl); (case k1 => k_asm); (case k2 => k_asm); (case k3 => k_asm); (case k4 => k_asm); (case k5 => k_asm); (case k6 => k_is); (case k7 => k_is); (case k8 => ktr_room); (case k9 => first | exact BindsTo.of_eq rfl | exact binds_K (by k_in) rfl (by k_is) rfl rfl rfl); (case c5 => decide); (case kB => exact locs rfl); (case c2 => exact rfl); (case c3 => exact rfl); (case c4 => exact rfl); (case o1 => assumption); (case o2 => assumption); intro g' L' h' FG' F' N' B' X' T'; (try dsimp only); (try k_lift B'); (try k_fold)))
local macro_rules | `(tactic| walk_at "setItem ref int") => `(tactic| (k_here; k_dflt (refine' set_any ?k1 ?k2 ?k3 ?k4 ?k5 ?k6 ?_; (case k1 => k_asm); (case k2 => k_asm); (case k3 => k_upd); (case k4 => decide); (case k5 => decide); (case k6 => decide)); intro h' F' N'; (try k_sweep)))
local macro_rules | `(tactic| walk_at "call builtin:list.pop") => `(tactic| (k_here; k_dflt (refine' pop_first ?k1 ?k2 ?k3 ?k4 ?_; (case k1 => k_asm); (case k2 => k_asm); (case k3 => k_upd); (case k4 => (simp only [List.length_cons] at *; omega))); intro h' F' N'; (try k_sweep)))
-- a built-in's name, in a frame or in a comprehension's block (names left open in the end)
local macro_rules | `(tactic| walk_at "eval Name") => `(tactic| (k_here; (with_reducible rename Fr _ _ _ _ => kF); k_dflt (refine' nameG_B kF ?k1 ?k2 ?k3 ?k4 ?k5 ?_ ?k6 ?k7 ?k8 ?k9 ?k10; (case k6 => rfl); (case k7 => rfl); (case k8 => rfl); (case k9 => rfl); (case k10 => decide); (case k5 => decide); (case k1 => k_asm); (case k2 => k_asm); (case k3 => k_is); (case k4 => boot_by_name))))


section
set_option maxHeartbeats 8000000 in
theorem take_c {w : World} {mean : ExcName → Option Value} {mg mb : Str → Option Value} {dp un : Nat} {gd : Option (List Code)} {cn : Str} {cs : Scope} {a : Addr} {ccd : Value} {cl : List (Str × Addr)} {outer : List Env} {A₀ : Around} {base h₀ : Heap} {L : Addr} {m : Str → Option Value} {s : Shared} {Q E : Value → Shared → Prop}
    {news rest : List (Addr × Obj)} {D A : Addr} {vs : List Value} {nA nD : Nat} {sd : Int} {t tm : Tok} {mny : Int}
    (B : Below A₀ base outer h₀) (F : Fr h₀ L s.heap m) (X : (Mine.hd.heap_39 w.params).In h₀) (N : News h₀ L s.heap news)
    (T : Top Mine.hd.view_39 (looseW Mine.hd.view_39 [Str.ofString "_date_and_delta", Str.ofString "_THOUSANDS_SEPARATOR", Str.ofString "_DECIMAL_SEPARATOR"]) mean mg mb h₀)
    (hk : cs.kind = .function)
    (hown : ∀ q ∈ [(D, listOf #[.ref A, .int sd t] nD), (A, listOf vs.toArray nA)], q ∈ news)
    (hrest : ∀ q ∈ rest, q ∈ news ∧ ∀ z ∈ [(D, listOf #[.ref A, .int sd t] nD), (A, listOf vs.toArray nA)], q.1 ≠ z.1)
    (hne : @Ne Nat D A)
    (hv : Drawn vs sd) (hm0 : 0 < mny) (hm : mny < 2 ^ 62)
    (hd : dp < 800) (hu : un < 1000)
    (h : ∀ (v : Int) (t' t'' : Tok) (vs' : List Value) (nA' nD' : Nat) (sd' : Int) (h' : Heap) (tk' : Nat), Fr h₀ L h' m →
      News h₀ L h' ((D, listOf #[.ref A, .int sd' t''] nD') :: (A, listOf vs'.toArray nA') :: rest) → Drawn vs' sd' → 0 ≤ v → v < mny →
      Q (.int v t') { s with heap := h', toks := tk' }) :
    wpAny (model PySem.Challenge.rw_aq6038_01.row.prog w) (ktrTop dp un gd cn cs L a ccd cl outer) (call (.ref 205) [.ref D, .int mny tm]) Q E s := by
  revert X; k_fill; intro X
  obtain ⟨⟨ns, hI, hpos⟩, hlen, hlo, hhi⟩ := hv
  cases hI with
  | nil =>
    refine wpAny_call ?_
    k_dflt (walk_at "mine enter")
    k_steps
    all_goals (rename News _ _ _ rest => kR; rename News h₀ L _ (_ :: _) => kN; exact h _ _ _ _ _ _ _ _ _ (by assumption) (news_join (own := [_, _]) kN kR (by kcj_all)) ⟨⟨[], .nil, fun n hn => nomatch hn⟩, by decide, fmod_lo _ (by decide), fmod_hi _ (by decide)⟩ (fmod_lo _ hm0) (fmod_hi _ hm0))
  | cons n tn hr =>
    refine wpAny_call ?_
    k_dflt (walk_at "mine enter")
    k_steps
    · (rename News _ _ _ rest => kR; rename News h₀ L _ (_ :: _) => kN; exact h _ _ _ _ _ _ _ _ _ (by assumption) (news_join (own := [_, _]) kN kR (by kcj_all)) ⟨⟨_, .cons n tn hr, hpos⟩, hlen, fmod_lo _ (by decide), fmod_hi _ (by decide)⟩ (fmod_lo _ hm0) (fmod_hi _ hm0))
    · (rename News _ _ _ rest => kR; rename News h₀ L _ (_ :: _) => kN; exact h _ _ _ _ _ _ _ _ _ (by assumption) (news_join (own := [_, _]) kN kR (by kcj_all)) ⟨⟨_, hr, fun k hk => hpos k (.tail _ hk)⟩, by rw [List.length_cons] at hlen; omega, hlo, hhi⟩ (fmod_lo _ hm0) (fmod_hi _ hm0))

end
local macro_rules | `(tactic| walk_at "no such key") => `(tactic| skip)
local macro_rules | `(tactic| walk_at "no such key") => `(tactic| skip)
local macro_rules | `(tactic| walk_at "no such key") => `(tactic| skip)
local macro_rules | `(tactic| walk_at "no such key") => `(tactic| skip)
local macro_rules | `(tactic| walk_at "no such key") => `(tactic| skip)
local macro_rules | `(tactic| walk_at "no such key") => `(tactic| skip)

section
local macro_rules | `(tactic| walk_at "mine absComp") => `(tactic| (k_dflt (refine LCg.ListComp_U (F₀ := by k_asm) (by rfl) (by decide) (by rfl) (by decide) (by rfl) ?_); k_dflt lcg_toSrc; k_dflt (refine LCg.CompSrc.base (by rfl) (by k_asm) (by k_asm) (by assumption) (by (rw [List.size_toArray, sizeLine_eq]; (have hLn := IntsAre.length (by assumption)); omega)) ?_); intro g0'))
local macro_rules | `(tactic| walk_at "eval ListComp") => `(tactic| (k_here; refine MStop.out ?_))
theorem fold_bound (g : Int → Int → Int) : ∀ (ms : List Int) (a : Int), 0 ≤ a → a < 2147483647 →
    0 ≤ (ms.foldl (fun (σ : Int × Unit) n => ((g σ.1 n).fmod 2147483647, ())) (a, ())).1 ∧ (ms.foldl (fun (σ : Int × Unit) n => ((g σ.1 n).fmod 2147483647, ())) (a, ())).1 < 2147483647
  | [], _, h0, h1 => ⟨h0, h1⟩
  | n :: r, a, _, _ => fold_bound g r _ (fmod_lo _ (by decide)) (fmod_hi _ (by decide))
theorem fold_seed (g : Int → Int → Int) (ms : List Int) :
    0 ≤ (ms.foldl (fun (σ : Int × Unit) n => ((g σ.1 n).fmod 2147483647, ())) (7, ())).1 ∧ (ms.foldl (fun (σ : Int × Unit) n => ((g σ.1 n).fmod 2147483647, ())) (7, ())).1 < 2147483647 := fold_bound g ms 7 (by decide) (by decide)
theorem abs_take {k N : Nat} (val : Nat → Int) : ∀ n ∈ ((List.range N).map fun i => if val i < 0 then -val i else val i).take k, 0 ≤ n := fun n hn => by
  obtain ⟨i, _, rfl⟩ := List.mem_map.mp (List.mem_of_mem_take hn)
  split <;> omega

set_option maxHeartbeats 8000000 in
theorem draw_c {w : World} {mean : ExcName → Option Value} {mg mb : Str → Option Value} {dp un : Nat} {gd : Option (List Code)} {cn : Str} {cs : Scope} {a : Addr} {ccd : Value} {cl : List (Str × Addr)} {outer : List Env} {A₀ : Around} {base h₀ : Heap} {L : Addr} {m : Str → Option Value} {s : Shared} {Q E : Value → Shared → Prop}
    {S : Addr} {us : List Value} {ms : List Int}
    (B : Below A₀ base outer h₀) (F : Fr h₀ L s.heap m) (X : (Mine.hd.heap_39 w.params).In h₀) (N : News h₀ L s.heap [])
    (T : Top Mine.hd.view_39 (looseW Mine.hd.view_39 [Str.ofString "_date_and_delta", Str.ofString "_THOUSANDS_SEPARATOR", Str.ofString "_DECIMAL_SEPARATOR"]) mean mg mb h₀)
    (hk : cs.kind = .function)
    (hl : base.IsList S us.toArray) (hI : IntsAre us ms) (hlen : ms.length ≤ 63)
    (hd : dp < 800) (hu : un < 1000)
    (h : ∀ (D A : Addr) (t : Tok) (vs : List Value) (nA nD : Nat) (sd : Int) (h' : Heap) (tk' : Nat), Fr h₀ L h' m →
      News h₀ L h' [(D, listOf #[.ref A, .int sd t] nD), (A, listOf vs.toArray nA)] → Drawn vs sd → @Ne Nat D A →
      Q (.ref D) { s with heap := h', toks := tk' }) :
    wpAny (model PySem.Challenge.rw_aq6038_01.row.prog w) (ktrTop dp un gd cn cs L a ccd cl outer) (call (.ref 198) [.ref S]) Q E s := by
  revert X; k_fill; intro X
  have hown : ∀ q ∈ ([] : List (Addr × Obj)), q ∈ ([] : List (Addr × Obj)) := fun q hq => hq
  have hrest : ∀ q ∈ ([] : List (Addr × Obj)), q ∈ ([] : List (Addr × Obj)) ∧ ∀ z ∈ ([] : List (Addr × Obj)), q.1 ≠ z.1 := fun q hq => nomatch hq
  refine wpAny_call ?_
  k_dflt (walk_at "mine enter")
  k_steps
  all_goals (try refine MStop.mk ?_)
  · k_dflt (refine LCg.ListComp_U (F₀ := by k_asm) (by rfl) (by decide) (by rfl) (by decide) (by rfl) ?_)
    walk1
    k_dflt (refine LCg.CompSrc.base (by rfl) (by k_asm) (by k_asm) (by assumption) (by (rw [List.size_toArray, sizeLine_eq]; (have hLn := IntsAre.length (by assumption)); omega)) ?_)
    intro g0'
    refine compRest_map (fun n => if n < 0 then -n else n) (fun i => ms.getD i 0) us.toArray.size (fun i v hv => ints_at (by assumption) i v hv) (.inl (by assumption)) ?_ ?_ _ 0 [] rfl .nil
    · intro n t I oI C oC D ys m₂ h tk Q' E' hC hx F N hq
      iterate 7 walk1
      exact hq _ _
    · intro ys hys
      have hyl : ys.length ≤ 63 := by
        have h1 := IntsAre.length hys
        have h2 := IntsAre.length (by assumption : IntsAre us ms)
        rw [List.length_map, List.length_range, List.size_toArray] at h1
        omega
      unfold LCg.FinE
      intro D' h' tk' F' N' o1'
      (try simp only [LCg.Off1, and_true] at o1')
      (try dsimp only)
      k_steps
      rename IntsAre _ (List.take _ _) => hT
      rename News h₀ L _ (_ :: _) => kN
      have hTl := IntsAre.length hT
      refine h _ _ _ _ _ _ _ _ _ (by assumption) (news_sub (own := [_, _]) kN (by lcg_sub)) ⟨⟨_, hT, fun n hn => abs_take _ n hn⟩, ?_, (fold_seed (fun a n => a * 48271 + (if n < 0 then -n else n).fmod 65521 + 1) ms).1, (fold_seed (fun a n => a * 48271 + (if n < 0 then -n else n).fmod 65521 + 1) ms).2⟩ (by k_ne)
      rw [hTl]
      exact List.length_take_le _ _

end
local macro_rules | `(tactic| walk_at "no such key") => `(tactic| skip)
local macro_rules | `(tactic| walk_at "no such key") => `(tactic| skip)
local macro_rules | `(tactic| walk_at "no such key") => `(tactic| skip)
local macro_rules | `(tactic| walk_at "no such key") => `(tactic| skip)
local macro_rules | `(tactic| walk_at "no such key") => `(tactic| skip)
local macro_rules | `(tactic| walk_at "no such key") => `(tactic| skip)

section
open SetTable
theorem asc_lt {l : List Nat} (h : l.Pairwise (· < ·)) {i j : Nat} {a b : Nat} (hij : i < j) (ha : l[i]? = some a) (hb : l[j]? = some b) : a < b := by
  obtain ⟨hi, rfl⟩ := List.getElem?_eq_some_iff.mp ha
  obtain ⟨hj, rfl⟩ := List.getElem?_eq_some_iff.mp hb
  exact (List.pairwise_iff_getElem.mp h) i j hi hj hij

theorem below_go (xs : Array Nat) (j : Nat) (asc : xs.toList.Pairwise (· < ·)) : ∀ (fuel lo hi : Nat), hi - lo ≤ fuel → lo ≤ hi → hi ≤ xs.size →
    (∀ i x, i < lo → xs[i]? = some x → x < j) → (∀ i x, hi ≤ i → xs[i]? = some x → j ≤ x) →
    below.go xs j fuel lo hi ≤ xs.size ∧ (∀ i x, i < below.go xs j fuel lo hi → xs[i]? = some x → x < j) ∧ (∀ i x, below.go xs j fuel lo hi ≤ i → xs[i]? = some x → j ≤ x) := by
  intro fuel
  induction fuel with
  | zero =>
    intro lo hi h1 h2 h3 h4 h5
    obtain rfl : lo = hi := by omega
    unfold below.go
    exact ⟨h3, h4, h5⟩
  | succ fuel ih =>
    intro lo hi h1 h2 h3 h4 h5
    unfold below.go
    by_cases hlt : lo < hi
    · rw [if_pos hlt]
      dsimp only
      have hm : (lo + hi) / 2 < xs.size := by omega
      have hg : xs[(lo + hi) / 2]? = some (xs.getD ((lo + hi) / 2) j) := by
        rw [Array.getD_eq_getD_getElem?, Array.getElem?_eq_getElem hm]; rfl
      by_cases hc : xs.getD ((lo + hi) / 2) j < j
      · rw [if_pos hc]
        refine ih _ _ (by omega) (by omega) h3 (fun i x hi' hx => ?_) h5
        rcases Nat.lt_or_ge i ((lo + hi) / 2) with q | q
        · have := asc_lt asc q (by rw [Array.getElem?_toList]; exact hx) (by rw [Array.getElem?_toList]; exact hg)
          omega
        · obtain rfl : i = (lo + hi) / 2 := by omega
          rw [hg] at hx; cases hx; exact hc
      · rw [if_neg hc]
        refine ih _ _ (by omega) (by omega) (by omega) h4 (fun i x hi' hx => ?_)
        rcases Nat.lt_or_ge ((lo + hi) / 2) i with q | q
        · have := asc_lt asc q (by rw [Array.getElem?_toList]; exact hg) (by rw [Array.getElem?_toList]; exact hx)
          omega
        · obtain rfl : i = (lo + hi) / 2 := by omega
          rw [hg] at hx; cases hx; omega
    · rw [if_neg hlt]
      obtain rfl : lo = hi := by omega
      exact ⟨h3, h4, h5⟩
theorem below_spec (xs : Array Nat) (j : Nat) (asc : xs.toList.Pairwise (· < ·)) :
    below xs j ≤ xs.size ∧ (∀ i x, i < below xs j → xs[i]? = some x → x < j) ∧ (∀ i x, below xs j ≤ i → xs[i]? = some x → j ≤ x) :=
  below_go xs j asc _ 0 _ (by omega) (by omega) (by omega) (fun i x h => absurd h (Nat.not_lt_zero i)) (fun i x h hx => by
    rw [Array.getElem?_eq_none h] at hx; cases hx)

/-- the entries of a set of small ints: the hash is the int -/
inductive EntsAre : List (Int × Value) → List Nat → Prop
  | nil : EntsAre [] []
  | cons (k : Nat) (t : Tok) {l : List (Int × Value)} {ks : List Nat} : EntsAre l ks → EntsAre (((k : Int), .int k t) :: l) (k :: ks)
theorem EntsAre.len : ∀ {l ks}, EntsAre l ks → l.length = ks.length
  | _, _, .nil => rfl
  | _, _, .cons _ _ h => by rw [List.length_cons, List.length_cons, h.len]
theorem EntsAre.take : ∀ {l ks}, EntsAre l ks → ∀ n, EntsAre (l.take n) (ks.take n)
  | _, _, h, 0 => by rw [List.take_zero, List.take_zero]; exact .nil
  | _, _, .nil, n + 1 => .nil
  | _, _, .cons k t h, n + 1 => .cons k t (h.take n)
theorem EntsAre.drop : ∀ {l ks}, EntsAre l ks → ∀ n, EntsAre (l.drop n) (ks.drop n)
  | _, _, h, 0 => h
  | _, _, .nil, n + 1 => .nil
  | _, _, .cons k t h, n + 1 => h.drop n
theorem EntsAre.append : ∀ {l ks l' ks'}, EntsAre l ks → EntsAre l' ks' → EntsAre (l ++ l') (ks ++ ks')
  | _, _, _, _, .nil, h => h
  | _, _, _, _, .cons k t h, h' => .cons k t (h.append h')
theorem EntsAre.mem : ∀ {l ks}, EntsAre l ks → ∀ e ∈ l, ∃ k t, k ∈ ks ∧ e = ((k : Int), Value.int k t)
  | _, _, .cons k t h, e, he => by
    rcases List.mem_cons.mp he with rfl | he
    · exact ⟨k, t, .head _, rfl⟩
    · obtain ⟨k', t', hk, e'⟩ := h.mem e he
      exact ⟨k', t', .tail _ hk, e'⟩
theorem EntsAre.ofMem : ∀ {l ks}, EntsAre l ks → ∀ k ∈ ks, ∃ t, ((k : Int), Value.int k t) ∈ l
  | _, _, .cons k t h, k', hk => by
    rcases List.mem_cons.mp hk with rfl | hk
    · exact ⟨t, .head _⟩
    · obtain ⟨t', h'⟩ := h.ofMem k' hk
      exact ⟨t', .tail _ h'⟩
theorem EntsAre.hashes : ∀ {l ks}, EntsAre l ks → l.map (·.1) = ks.map fun k : Nat => (k : Int)
  | _, _, .nil => rfl
  | _, _, .cons k t h => by rw [List.map_cons, List.map_cons, h.hashes]
theorem EntsAre.intsAre : ∀ {l ks}, EntsAre l ks → IntsAre (l.map (·.2)) (ks.map fun k : Nat => (k : Int))
  | _, _, .nil => .nil
  | _, _, .cons k t h => .cons _ t h.intsAre

/-- a set of ints below 8 as the model keeps it -/
structure Inv8 (led : Bool) (ks : List Nat) (es : Array (Int × Value)) (t : SetTable) : Prop where
  asc : ks.Pairwise (· < ·)
  small : ∀ k ∈ ks, k < 8
  place : t.place.toList = ks
  dum : t.dummies = #[]
  ents : EntsAre es.toList ks
  mask : (t.mask = 7 ∧ ks.length ≤ 4) ∨ t.mask = 15 ∨ t.mask = 31
  led : t.led = led
  plain : t.plain = true

/-- an ascending list below 8 is one of the 256 -/
theorem asc_eq : ∀ {a b : List Nat}, a.Pairwise (· < ·) → b.Pairwise (· < ·) → (∀ x, x ∈ a ↔ x ∈ b) → a = b
  | [], [], _, _, _ => rfl
  | [], y :: _, _, _, h => absurd ((h y).mpr (.head _)) (List.not_mem_nil)
  | x :: _, [], _, _, h => absurd ((h x).mp (.head _)) (List.not_mem_nil)
  | x :: a, y :: b, ha, hb, h => by
    obtain ⟨hx, ha'⟩ := List.pairwise_cons.mp ha
    obtain ⟨hy, hb'⟩ := List.pairwise_cons.mp hb
    have e : x = y := by
      rcases List.mem_cons.mp ((h x).mp (.head _)) with e | e
      · exact e
      · rcases List.mem_cons.mp ((h y).mpr (.head _)) with e' | e'
        · exact e'.symm
        · have h1 := hy x e
          have h2 := hx y e'
          omega
    subst e
    rw [asc_eq ha' hb' fun z => ?_]
    constructor
    · intro hz
      rcases List.mem_cons.mp ((h z).mp (.tail _ hz)) with e | e
      · have := hx z hz; omega
      · exact e
    · intro hz
      rcases List.mem_cons.mp ((h z).mpr (.tail _ hz)) with e | e
      · have := hy z hz; omega
      · exact e
def sel (b0 b1 b2 b3 b4 b5 b6 b7 : Bool) : List Nat := (List.range 8).filter fun i => [b0, b1, b2, b3, b4, b5, b6, b7].getD i false
theorem asc_range (n : Nat) : (List.range n).Pairwise (· < ·) := List.pairwise_lt_range
theorem sel_of {ks : List Nat} (asc : ks.Pairwise (· < ·)) (small : ∀ k ∈ ks, k < 8) :
    ks = sel (decide (0 ∈ ks)) (decide (1 ∈ ks)) (decide (2 ∈ ks)) (decide (3 ∈ ks)) (decide (4 ∈ ks)) (decide (5 ∈ ks)) (decide (6 ∈ ks)) (decide (7 ∈ ks)) := by
  refine asc_eq asc ((asc_range 8).filter _) fun x => ?_
  unfold sel
  rw [List.mem_filter, List.mem_range]
  constructor
  · intro hx
    have h8 := small x hx
    refine ⟨h8, ?_⟩
    match x, h8, hx with
    | 0, _, hx | 1, _, hx | 2, _, hx | 3, _, hx | 4, _, hx | 5, _, hx | 6, _, hx | 7, _, hx => simpa using hx
  · rintro ⟨h8, hx⟩
    match x, h8, hx with
    | 0, _, hx | 1, _, hx | 2, _, hx | 3, _, hx | 4, _, hx | 5, _, hx | 6, _, hx | 7, _, hx => simpa using hx

section
variable {led : Bool} {ks : List Nat} {es : Array (Int × Value)} {t : SetTable}
theorem Inv8.size (h : Inv8 led ks es t) : es.size = ks.length := by rw [← Array.length_toList, h.ents.len]
theorem Inv8.psize (h : Inv8 led ks es t) : t.place.size = ks.length := by rw [← Array.length_toList, h.place]
theorem Inv8.fill (h : Inv8 led ks es t) : t.fill = ks.length := by
  unfold SetTable.fill
  rw [h.dum, h.psize]; rfl
theorem asc_len {ks : List Nat} (asc : ks.Pairwise (· < ·)) : ∀ {n : Nat}, (∀ k ∈ ks, k < n) → ks.length ≤ n := by
  intro n hn
  have h := (List.nodup_range (n := n)).length_le_of_subset (l₂ := ks)
  have hnd : ks.Nodup := asc.imp fun h => Nat.ne_of_lt h
  have := hnd.length_le_of_subset (l₂ := List.range n) fun x hx => List.mem_range.mpr (hn x hx)
  rwa [List.length_range] at this
theorem Inv8.len8 (h : Inv8 led ks es t) : ks.length ≤ 8 := asc_len h.asc h.small
theorem Inv8.fits (h : Inv8 led ks es t) : t.fits es.size = true := by
  unfold SetTable.fits
  rw [h.size, h.psize, h.fill]
  simp only [beq_self_eq_true, Bool.true_and, decide_eq_true_eq]
  have := h.len8
  rcases h.mask with ⟨a, b⟩ | a | a <;> omega
theorem Inv8.elems (h : Inv8 led ks es t) {prog : Program} {w : World} : ElemsOf (intKind prog w) es.toList := fun e he => by
  obtain ⟨k, t', hk, rfl⟩ := h.ents.mem e he
  refine ⟨⟨(k : Int), intKind_is _ _ _ _, ?_⟩, rfl⟩
  have := h.small k hk
  match k, this with
  | 0, _ | 1, _ | 2, _ | 3, _ | 4, _ | 5, _ | 6, _ | 7, _ => rfl
end

end
local macro_rules | `(tactic| walk_at "no such key") => `(tactic| skip)
local macro_rules | `(tactic| walk_at "no such key") => `(tactic| skip)
local macro_rules | `(tactic| walk_at "no such key") => `(tactic| skip)
local macro_rules | `(tactic| walk_at "no such key") => `(tactic| skip)
local macro_rules | `(tactic| walk_at "no such key") => `(tactic| skip)
local macro_rules | `(tactic| walk_at "no such key") => `(tactic| skip)

section
open SetTable
section
variable {led : Bool} {ks : List Nat} {es : Array (Int × Value)} {t : SetTable}

theorem slot_empty (h : Inv8 led ks es t) {k : Nat} (hn : k ∉ ks) : t.slot k = .empty := by
  unfold SetTable.slot
  have h1 : (t.place[below t.place k]? == some k) = false := by
    cases e : t.place[below t.place k]? with
    | none => rfl
    | some x =>
      have hx : x ∈ ks := by
        rw [← h.place]
        exact Array.mem_toList_iff.mpr (Array.mem_of_getElem? e)
      have : x ≠ k := fun q => hn (q ▸ hx)
      simpa using this
  have h2 : SetTable.has t.dummies k = false := by
    rw [h.dum]; unfold SetTable.has; simp
  dsimp only
  rw [h1, h2]
  simp

theorem bits_small {k : Nat} (hk : k < 8) : bits (k : Int) = k := by
  unfold SetTable.bits
  have : ((k : Int) % (2 ^ 64 : Int)) = k := by
    rw [Int.emod_eq_of_lt] <;> omega
  rw [this]; rfl

theorem freeSlot_new (h : Inv8 led ks es t) {k : Nat} (hk : k < 8) (hn : k ∉ ks) : t.freeSlot (k : Int) = some (k, false) := by
  unfold SetTable.freeSlot SetTable.probe
  have hj : (t.probeStart (k : Int)).j = k := by
    unfold SetTable.probeStart
    dsimp only
    rw [bits_small hk]
    rcases h.mask with ⟨a, b⟩ | a | a <;> rw [a] <;> omega
  have hd : (t.probeStart (k : Int)).dummy = none := rfl
  obtain ⟨f, hf⟩ : ∃ f, 10 * turns t.mask = f + 1 := ⟨10 * turns t.mask - 1, by unfold SetTable.turns; omega⟩
  rw [hf]
  unfold SetTable.probe.go
  rw [hj, slot_empty h hn, hd]
  rfl

/-- where a new int goes -/
theorem put_new (h : Inv8 led ks es t) (k : Nat) : t.put k = ({ t with place := insertAt t.place (below t.place k) k }, below t.place k) := by
  unfold SetTable.put
  have h2 : SetTable.has t.dummies k = false := by
    rw [h.dum]; unfold SetTable.has; simp
  dsimp only
  rw [h2]
  simp

theorem take_lt {l : List Nat} {p k : Nat} (h : ∀ i x, i < p → l[i]? = some x → x < k) : ∀ x ∈ l.take p, x < k := fun x hx => by
  obtain ⟨i, hi⟩ := List.mem_iff_getElem?.mp hx
  rw [List.getElem?_take] at hi
  split at hi
  · exact h i x (by assumption) hi
  · cases hi
theorem drop_gt {l : List Nat} {p k : Nat} (hn : k ∉ l) (h : ∀ i x, p ≤ i → l[i]? = some x → k ≤ x) : ∀ x ∈ l.drop p, k < x := fun x hx => by
  obtain ⟨i, hi⟩ := List.mem_iff_getElem?.mp hx
  rw [List.getElem?_drop] at hi
  have h1 := h (p + i) x (Nat.le_add_right _ _) hi
  have : x ≠ k := fun q => hn (q ▸ List.mem_of_getElem? hi)
  omega
theorem insert_asc {l : List Nat} {p k : Nat} (asc : l.Pairwise (· < ·)) (h1 : ∀ x ∈ l.take p, x < k) (h2 : ∀ x ∈ l.drop p, k < x) : (l.take p ++ k :: l.drop p).Pairwise (· < ·) := by
  refine List.pairwise_append.mpr ⟨asc.sublist (List.take_sublist _ _), List.pairwise_cons.mpr ⟨h2, asc.sublist (List.drop_sublist _ _)⟩, fun a ha b hb => ?_⟩
  rcases List.mem_cons.mp hb with rfl | hb
  · exact h1 a ha
  · exact Nat.lt_trans (h1 a ha) (h2 b hb)

/-- the list with one int more, in its place -/
def insK (ks : List Nat) (k : Nat) : List Nat := ks.filter (· < k) ++ k :: ks.filter (k < ·)
theorem insK_mem {ks : List Nat} {k x : Nat} : x ∈ insK ks k ↔ x ∈ ks ∨ x = k := by
  unfold insK
  rw [List.mem_append, List.mem_cons, List.mem_filter, List.mem_filter]
  simp only [decide_eq_true_eq]
  constructor
  · rintro (⟨a, _⟩ | rfl | ⟨a, _⟩)
    · exact .inl a
    · exact .inr rfl
    · exact .inl a
  · rintro (a | rfl)
    · rcases Nat.lt_trichotomy x k with q | q | q
      · exact .inl ⟨a, q⟩
      · exact .inr (.inl q)
      · exact .inr (.inr ⟨a, q⟩)
    · exact .inr (.inl rfl)
theorem insK_asc {ks : List Nat} {k : Nat} (asc : ks.Pairwise (· < ·)) : (insK ks k).Pairwise (· < ·) := by
  refine List.pairwise_append.mpr ⟨asc.filter _, List.pairwise_cons.mpr ⟨fun x hx => ?_, asc.filter _⟩, fun a ha b hb => ?_⟩
  · have := (List.mem_filter.mp hx).2; simpa using this
  · have h1 : a < k := by have := (List.mem_filter.mp ha).2; simpa using this
    rcases List.mem_cons.mp hb with rfl | hb
    · exact h1
    · have h2 : k < b := by have := (List.mem_filter.mp hb).2; simpa using this
      exact Nat.lt_trans h1 h2

theorem lay_new (h : Inv8 led ks es t) {k : Nat} {x : Tok} (hk : k < 8) (hn : k ∉ ks) :
    ∃ es' t', layNew t es (k : Int) (.int k x) = (es', t', false, false) ∧ EntsAre es'.toList (insK ks k) ∧ t'.place.toList = insK ks k ∧ t'.dummies = #[] ∧ t'.mask = t.mask ∧ t'.led = t.led ∧ t'.plain = t.plain := by
  unfold layNew
  rw [freeSlot_new h hk hn]
  dsimp only
  rw [put_new h k]
  dsimp only
  have asc : t.place.toList.Pairwise (· < ·) := h.place ▸ h.asc
  obtain ⟨b1, b2, b3⟩ := below_spec t.place k asc
  have hn' : k ∉ t.place.toList := by rw [h.place]; exact hn
  have t1 := take_lt (l := t.place.toList) fun i x hi hx => b2 i x hi (by rw [← Array.getElem?_toList]; exact hx)
  have t2 := drop_gt hn' fun i x hi hx => b3 i x hi (by rw [← Array.getElem?_toList]; exact hx)
  have e : t.place.toList.take (below t.place k) ++ k :: t.place.toList.drop (below t.place k) = insK ks k := by
    refine asc_eq (insert_asc asc t1 t2) (insK_asc h.asc) fun z => ?_
    rw [insK_mem, List.mem_append, List.mem_cons, ← h.place]
    constructor
    · rintro (q | q | q)
      · exact .inl (List.mem_of_mem_take q)
      · exact .inr q
      · exact .inl (List.mem_of_mem_drop q)
    · rintro (q | q)
      · have := List.take_append_drop (below t.place k) t.place.toList
        rw [← this] at q
        rcases List.mem_append.mp q with q | q
        · exact .inl q
        · exact .inr (.inr q)
      · exact .inr (.inl q)
  have hp' : (insertAt t.place (below t.place k) k).toList = insK ks k := by rw [SetTable.toList_insertAt]; exact e
  have hE : EntsAre (insertAt es (below t.place k) ((k : Int), Value.int k x)).toList (insK ks k) := by
    rw [SetTable.toList_insertAt, ← e, h.place]
    exact (h.ents.take _).append (.cons k x (h.ents.drop _))
  have hl : (insK ks k).length = ks.length + 1 := by
    rw [← e, List.length_append, List.length_cons, List.length_take, List.length_drop, h.place]
    have := h.psize
    omega
  have hfit : SetTable.fits { t with place := insertAt t.place (below t.place k) k } (insertAt es (below t.place k) ((k : Int), Value.int k x)).size = true := by
    unfold SetTable.fits SetTable.fill
    dsimp only
    rw [h.dum, ← Array.length_toList, ← Array.length_toList, hp', hE.len]
    simp only [beq_self_eq_true, Bool.true_and, decide_eq_true_eq]
    show (insK ks k).length + 0 ≤ t.mask
    have := h.len8
    rcases h.mask with ⟨a, b⟩ | a | a <;> omega
  refine ⟨_, { t with place := insertAt t.place (below t.place k) k }, ?_, hE, hp', h.dum, rfl, rfl, rfl⟩
  rw [hfit]
  unfold SetTable.orStandIn
  rw [if_pos hfit]
  rfl

/-- what laying anew gives, over the masks and lists that are met -/
def laidOk (mask : Nat) (ks : List Nat) : Bool := match layClean mask (ks.map fun k : Nat => (k : Int)).toArray with
  | some owner => let live := (List.range (mask + 1)).filterMap fun j => (owner.getD j none).map (j, ·); decide (live.map (·.1) = ks ∧ live.map (·.2) = List.range ks.length)
  | none => false
theorem laidOk_all : ∀ b0 b1 b2 b3 b4 b5 b6 b7 : Bool, (!decide (5 ≤ (sel b0 b1 b2 b3 b4 b5 b6 b7).length) || (laidOk 15 (sel b0 b1 b2 b3 b4 b5 b6 b7) && (!decide ((sel b0 b1 b2 b3 b4 b5 b6 b7).length = 5) || laidOk 31 (sel b0 b1 b2 b3 b4 b5 b6 b7)))) = true := by decide +kernel
theorem laid_of {mask : Nat} (hl : laidOk mask ks = true) (finger moves : Nat) (led plain : Bool) :
    SetTable.laid mask finger moves led plain (ks.map fun k : Nat => (k : Int)).toArray = some ({ mask, place := ks.toArray, dummies := #[], finger, led, moves, plain }, (List.range ks.length).toArray) := by
  unfold laidOk at hl
  unfold SetTable.laid
  split at hl
  · rename_i owner ho
    rw [ho]
    have := of_decide_eq_true hl
    simp only [Option.bind_eq_bind, Option.bind_some, Option.pure_def]
    rw [this.1, this.2]
  · cases hl
end

end
local macro_rules | `(tactic| walk_at "no such key") => `(tactic| skip)
local macro_rules | `(tactic| walk_at "no such key") => `(tactic| skip)
local macro_rules | `(tactic| walk_at "no such key") => `(tactic| skip)
local macro_rules | `(tactic| walk_at "no such key") => `(tactic| skip)
local macro_rules | `(tactic| walk_at "no such key") => `(tactic| skip)
local macro_rules | `(tactic| walk_at "no such key") => `(tactic| skip)

section
open SetTable
abbrev setObj (es : Array (Int × Value)) (ep : Nat) (t : SetTable) : Obj := { cls := .type "set", dict := none, data := .set es ep t }
/-- the object is a set of the small ints ks (ascending) -/
def IsSet8 (led : Bool) (ks : List Nat) (o : Obj) : Prop := ∃ es ep t, o = setObj es ep t ∧ Inv8 led ks es t
/-- the ints after one more -/
def addK (ks : List Nat) (k : Nat) : List Nat := if k ∈ ks then ks else insK ks k
theorem addK_mem {ks : List Nat} {k x : Nat} : x ∈ addK ks k ↔ x ∈ ks ∨ x = k := by
  unfold addK
  split
  · rename_i h
    exact ⟨.inl, fun q => q.elim id fun e => e ▸ h⟩
  · exact insK_mem
theorem addK_asc {ks : List Nat} {k : Nat} (asc : ks.Pairwise (· < ·)) : (addK ks k).Pairwise (· < ·) := by
  unfold addK
  split
  · exact asc
  · exact insK_asc asc
theorem insK_len {ks : List Nat} {k : Nat} (asc : ks.Pairwise (· < ·)) (hn : k ∉ ks) : (insK ks k).length = ks.length + 1 := by
  have p : (insK ks k).Perm (k :: ks) := by
    refine (List.perm_ext_iff_of_nodup ((insK_asc asc).imp Nat.ne_of_lt) (List.nodup_cons.mpr ⟨hn, asc.imp Nat.ne_of_lt⟩)).mpr fun x => ?_
    rw [insK_mem, List.mem_cons]
    exact ⟨fun h => h.symm, fun h => h.symm⟩
  rw [p.length_eq, List.length_cons]

section
variable {led : Bool} {ks : List Nat} {es : Array (Int × Value)} {t : SetTable}
theorem relay5 {mask : Nat} (hl : laidOk mask ks = true) (hE : EntsAre es.toList ks) (hm : ks.length ≤ mask) (wanted : Nat) (hw : sizeAbove wanted - 1 = mask) :
    relayAll t es wanted = (es, { mask, place := ks.toArray, dummies := #[], finger := t.finger, led := t.led, moves := t.movedTo mask, plain := t.plain }, false) := by
  have hh : es.map (·.1) = (ks.map fun k : Nat => (k : Int)).toArray := by
    apply Array.toList_inj.mp
    rw [Array.toList_map, hE.hashes]
  have hsz : es.size = ks.length := by rw [← Array.length_toList, hE.len]
  unfold relayAll SetTable.relaid
  rw [hh, hw, laid_of hl]
  dsimp only
  have e : (List.range ks.length).toArray.filterMap (fun i => es[i]?) = es := by
    apply Array.toList_inj.mp
    rw [Array.toList_filterMap, ← hsz, filterMap_getElem?_range]
  rw [e, if_pos]
  rw [Bool.and_eq_true]
  refine ⟨?_, ?_⟩
  · unfold coversAll
    rw [hsz]
    exact List.isPerm_iff.mpr (List.Perm.refl _)
  · unfold SetTable.fits SetTable.fill
    simp [hsz, hm]

theorem add_pure (h : Inv8 led ks es t) {k : Nat} (x : Tok) (hk : k < 8) (hn : k ∉ ks) :
    ∃ es1 t1, layNew t es (k : Int) (.int k x) = (es1, t1, false, false) ∧ EntsAre es1.toList (insK ks k) ∧ t1.plain = true ∧
      (if t1.tooFull = true then ∃ es2 t2, relayAll t1 es1 (grown es1.size) = (es2, t2, false) ∧ Inv8 led (insK ks k) es2 t2 else Inv8 led (insK ks k) es1 t1) := by
  obtain ⟨es1, t1, e1, hE, hp, hd, hm, hl, hpl⟩ := lay_new h (x := x) hk hn
  have asc := insK_asc (k := k) h.asc
  have small : ∀ z ∈ insK ks k, z < 8 := fun z hz => (insK_mem.mp hz).elim (h.small z) fun e => e ▸ hk
  have len := insK_len h.asc hn
  have len8 := asc_len asc small
  have hfill : t1.fill = ks.length + 1 := by
    unfold SetTable.fill
    rw [hd, ← Array.length_toList, hp, len]; rfl
  have hsz : es1.size = ks.length + 1 := by rw [← Array.length_toList, hE.len, len]
  refine ⟨es1, t1, e1, hE, hpl.trans h.plain, ?_⟩
  unfold SetTable.tooFull
  rw [hfill, hm]
  split
  · rename_i q
    have q' : (ks.length + 1) * 5 ≥ t.mask * 3 := of_decide_eq_true q
    have h5 : t.mask = 7 ∧ ks.length = 4 := by
      rcases h.mask with ⟨a, b⟩ | a | a
      · exact ⟨a, by omega⟩
      · omega
      · omega
    have l31 : laidOk 31 (insK ks k) = true := by
      have := sel_of asc small
      rw [this]
      have hall := laidOk_all (decide (0 ∈ insK ks k)) (decide (1 ∈ insK ks k)) (decide (2 ∈ insK ks k)) (decide (3 ∈ insK ks k)) (decide (4 ∈ insK ks k)) (decide (5 ∈ insK ks k)) (decide (6 ∈ insK ks k)) (decide (7 ∈ insK ks k))
      rw [← this] at hall ⊢
      have hlen : (insK ks k).length = 5 := by rw [len, h5.2]
      simp only [hlen, Nat.le_refl, decide_true, Bool.not_true, Bool.false_or, Bool.and_eq_true] at hall
      exact hall.2
    refine ⟨es1, _, relay5 (mask := 31) l31 hE (by omega) _ (by rw [hsz, h5.2]; decide), asc, small, by simp, rfl, hE, .inr (.inr rfl), hl.trans h.led, hpl.trans h.plain⟩
  · rename_i q
    have q' : ¬ (ks.length + 1) * 5 ≥ t.mask * 3 := fun z => q (decide_eq_true z)
    refine ⟨asc, small, hp, hd, hE, ?_, hl.trans h.led, hpl.trans h.plain⟩
    rw [hm, len]
    rcases h.mask with ⟨a, b⟩ | a | a
    · exact .inl ⟨a, by omega⟩
    · exact .inr (.inl a)
    · exact .inr (.inr a)
end

end
local macro_rules | `(tactic| walk_at "no such key") => `(tactic| skip)
local macro_rules | `(tactic| walk_at "no such key") => `(tactic| skip)
local macro_rules | `(tactic| walk_at "no such key") => `(tactic| skip)
local macro_rules | `(tactic| walk_at "no such key") => `(tactic| skip)
local macro_rules | `(tactic| walk_at "no such key") => `(tactic| skip)
local macro_rules | `(tactic| walk_at "no such key") => `(tactic| skip)

section
open SetTable
section
variable {prog : Program} {w : World} {A : Around} {E : Value → Shared → Prop} {s : Shared} {led : Bool} {ks : List Nat} {a : Addr} {o : Obj}

theorem Inv8.setObjOf {es : Array (Int × Value)} {t : SetTable} (h : Inv8 led ks es t) (ep : Nat) : (setObj es ep t).SetObjOf (intKind prog w) (fun k => decide (∃ n ∈ ks, k = (n : Int))) ks.length := by
  refine ⟨⟨rfl, rfl, rfl⟩, es, ep, t, rfl, h.elems, fun k => ?_, h.size, h.fits⟩
  rw [decide_eq_true_eq]
  constructor
  · rintro ⟨n, hn, rfl⟩
    obtain ⟨t', ht⟩ := h.ents.ofMem n hn
    exact ⟨_, ht, intKind_is _ _ _ _⟩
  · rintro ⟨e, he, hp⟩
    obtain ⟨n, t', hn, rfl⟩ := h.ents.mem e he
    exact ⟨n, hn, (intKind prog w).inj _ k n hp (intKind_is _ _ _ _)⟩
theorem IsSet8.setObjOf (h : IsSet8 led ks o) : o.SetObjOf (intKind prog w) (fun k => decide (∃ n ∈ ks, k = (n : Int))) ks.length := by
  obtain ⟨es, ep, t, rfl, I⟩ := h
  exact I.setObjOf ep

theorem hash_small {k : Nat} (hk : k < 8) : (intKind prog w).hash (k : Int) = k := by
  match k, hk with
  | 0, _ | 1, _ | 2, _ | 3, _ | 4, _ | 5, _ | 6, _ | 7, _ => rfl

theorem put_at {es es' : Array (Int × Value)} {ep : Nat} {t t' : SetTable} {h : Heap} (ho : h.get? a = some (setObj es ep t)) :
    (h.update a (Obj.putSet es' t')).get? a = some (setObj es' (ep + 1) t') := by
  have := Heap.get?_update_self (Obj.putSet es' t') ho (by rw [putSet_of es' t' rfl]; rfl)
  rw [putSet_of es' t' rfl] at this
  exact this

/-- one int more into a set of small ints -/
theorem add8 {k : Nat} {x : Tok} {Q : Bool → Shared → Prop} (ho : s.heap.get? a = some o) (hS : IsSet8 led ks o) (hk : k < 8)
    (h : ∀ h' o', Heap.SameBut a s.heap h' → h'.get? a = some o' → IsSet8 led (addK ks k) o' → Q (!decide (k ∈ ks)) { s with heap := h' }) :
    wpAny (model prog w) A (setAddHashed a (.int k x) ((intKind prog w).hash (k : Int))) Q E s := by
  obtain ⟨es, ep, t, rfl, I⟩ := hS
  have hkey : (intKind prog w).is (k : Int) (.int k x) = true := intKind_is _ _ _ _
  have hf := I.fits
  have hel : ElemsOf (intKind prog w) es.toList := I.elems
  have hb : es.size < scanBound := by rw [I.size]; have := I.len8; unfold scanBound; omega
  have hsc : (Value.int k x).scannable = true := rfl
  unfold setAddHashed setAddHashedIn
  refine wpAny_holding (wpAny_bind (wpAny_setState_of ho rfl hf ?_))
  dsimp only
  rw [byScan_of hsc hb hel]
  simp only [↓reduceIte]
  unfold setAddByScan
  refine wpAny_bind ?_
  refine wpAny_bind (wpAny_rule ?_)
  refine wpAny_bind (wpAny_setScan_of hkey ho rfl hf hel ?_)
  have hmem := (I.setObjOf (prog := prog) (w := w) ep)
  obtain ⟨_, es_, _, _, hd_, _, hmem, _⟩ := hmem
  cases hd_
  have hmk := hmem (k : Int)
  rw [decide_eq_true_eq] at hmk
  cases hr : List.findIdx? (fun e => (intKind prog w).is (k : Int) e.2) es.toList with
  | some j =>
    dsimp only
    obtain ⟨hj, hpj, _⟩ := List.findIdx?_eq_some_iff_getElem.mp hr
    have hin : k ∈ ks := by
      obtain ⟨n, hn, e⟩ := hmk.mpr ⟨es.toList[j], List.getElem_mem hj, hpj⟩
      have : k = n := by omega
      exact this ▸ hn
    refine wpAny_pure (wpAny_pure ?_)
    have e : s = { s with heap := s.heap } := by cases s; rfl
    have := h s.heap _ (Heap.SameBut.refl a s.heap) ho ⟨es, ep, t, rfl, by unfold addK; rw [if_pos hin]; exact I⟩
    rw [decide_eq_true hin] at this
    rw [e]; exact this
  | none =>
    dsimp only
    have hn : k ∉ ks := fun hin => by
      obtain ⟨e, he, hp⟩ := hmk.mp ⟨k, hin, rfl⟩
      have := List.findIdx?_eq_none_iff.mp hr e he
      rw [hp] at this; exact Bool.noConfusion this
    obtain ⟨es1, t1, eL, hE, hpl, hT⟩ := add_pure I x hk hn
    rw [hash_small hk, eL]
    dsimp only
    refine wpAny_bind (wpAny_pure ?_)
    rw [hpl]
    simp only [↓reduceIte]
    rw [hashByValue_scannable 8 hsc]
    refine wpAny_bind (wpAny_pure ?_)
    have hpk : plainKind (Value.int k x) = true := rfl
    rw [if_pos hpk]
    have hsz1 : es1.size ≤ sizeLine := by
      rw [← Array.length_toList, hE.len, insK_len I.asc hn, sizeLine_eq]
      have := I.len8
      omega
    have fin : ∀ h' o', Heap.SameBut a s.heap h' → h'.get? a = some o' → IsSet8 led (insK ks k) o' → Q true { s with heap := h' } := fun h' o' hsb ho' hS' => by
      have := h h' o' hsb ho' (by unfold addK; rw [if_neg hn]; exact hS')
      rw [decide_eq_false hn] at this
      exact this
    refine wpAny_bind (wpAny_storeSet_of ho rfl ?_ hsz1)
    have hsb1 := Heap.SameBut.update s.heap a (Obj.putSet es1 t1)
    have ho1 := put_at (es' := es1) (t' := t1) ho
    simp only [Bool.not_false, Bool.true_and]
    by_cases hfull : t1.tooFull = true
    · rw [if_pos hfull] at hT
      obtain ⟨es2, t2, eR, I2⟩ := hT
      rw [if_pos hfull, eR]
      dsimp only
      refine wpAny_bind (wpAny_pure ?_)
      refine wpAny_bind (wpAny_storeSet_of ho1 rfl ?_ (by rw [I2.size, sizeLine_eq]; have := I2.len8; omega))
      exact wpAny_pure (wpAny_pure (fin _ _ (hsb1.trans (Heap.SameBut.update _ a _)) (put_at ho1) ⟨es2, _, t2, rfl, I2⟩))
    · rw [if_neg hfull] at hT
      rw [if_neg hfull]
      exact wpAny_pure (wpAny_pure (fin _ _ hsb1 ho1 ⟨es1, _, t1, rfl, hT⟩))

theorem typeIs8 (ho : s.heap.get? a = some o) (hS : IsSet8 led ks o) : s.TypeIs (.ref a) "set" := by
  obtain ⟨es, ep, t, rfl, _⟩ := hS
  exact ⟨_, ho, rfl⟩
theorem call_add8 {k : Nat} {x : Tok} {Q : Value → Shared → Prop} (ho : s.heap.get? a = some o) (hS : IsSet8 led ks o) (hk : k < 8)
    (h : ∀ h' o', Heap.SameBut a s.heap h' → h'.get? a = some o' → IsSet8 led (addK ks k) o' → Q .none { s with heap := h', toks := s.toks + 1 }) :
    wpAny (model prog w) A (call (.builtin "set.add") [.ref a, .int k x]) Q E s := by
  refine wpAny_call_entry F.slot_set_add (typeIs8 ho hS) F.entry_set_add ?_ (F.args_set_add_2 _ _)
  unfold Builtin.«set.add» Builtin.Frozenset.oneOther
  simp only [List.isEmpty_nil, bind_assoc]
  unfold Builtin.Frozenset.addrOf setAdd
  refine wpAny_bind (wpAny_pure ?_)
  try dsimp only
  refine wpAny_bind (wpAny_pure ?_)
  try dsimp only
  refine wpAny_bind ?_
  refine wpAny_holding ?_
  refine wpAny_bind ((intKind prog w).pyHash (k := (k : Int)) (intKind_is _ _ _ _) ?_)
  refine add8 (s := { s with toks := s.toks + 1 }) ho hS hk fun h' o' hsb ho' hS' => ?_
  show wpAny _ _ (ret Value.none) _ _ _
  exact wpAny_pure ⟨_, rfl, h h' o' hsb ho' hS'⟩
end

/-- the ints met so far, as a list -/
def addsK (val : Nat → Nat) (ks : List Nat) : Nat → List Nat
  | 0 => ks
  | i + 1 => addK (addsK val ks i) (val i)
theorem addsK_mem (val : Nat → Nat) (ks : List Nat) : ∀ (i x : Nat), x ∈ addsK val ks i ↔ x ∈ ks ∨ ∃ j < i, val j = x
  | 0, x => ⟨.inl, fun h => h.elim id fun ⟨j, hj, _⟩ => absurd hj (Nat.not_lt_zero _)⟩
  | i + 1, x => by
    unfold addsK
    rw [addK_mem, addsK_mem val ks i x]
    constructor
    · rintro ((h | ⟨j, hj, e⟩) | rfl)
      · exact .inl h
      · exact .inr ⟨j, by omega, e⟩
      · exact .inr ⟨i, by omega, rfl⟩
    · rintro (h | ⟨j, hj, e⟩)
      · exact .inl (.inl h)
      · by_cases q : j = i
        · subst q; exact .inr e.symm
        · exact .inl (.inr ⟨j, by omega, e⟩)
theorem addsK_asc (val : Nat → Nat) {ks : List Nat} (asc : ks.Pairwise (· < ·)) : ∀ i, (addsK val ks i).Pairwise (· < ·)
  | 0 => asc
  | i + 1 => addK_asc (addsK_asc val asc i)

section
variable {prog : Program} {w : World} {A : Around} {R : Result → Shared → Prop} {I : Addr} {fp wr : List Addr} {G : Array GenState → Array GenState → Prop} {n : Nat} {P : Nat → Value → Prop} {St : Nat → Shared → Prop} {led : Bool} {ks : List Nat}

theorem update_loop8 (W : WalksS prog w A.in1 I fp wr G n P St) (S : Addr) (hSf : S ∉ fp)
    (val : Nat → Nat) (hval : ∀ i v, P i v → ∃ t, v = .int (val i : Nat) t) (h8 : ∀ i, i < n → val i < 8) :
    ∀ (k i : Nat) (s : Shared) (o : Obj), n - i = k → i ≤ n → St i s →
      s.heap.get? S = some o → IsSet8 led (addsK val ks i) o →
      (∀ s' o', Moved (S :: wr) G s s' → s'.heap.get? S = some o' → IsSet8 led (addsK val ks n) o' → R (.ok (.ret .none)) s') →
      codeAny (model prog w) A (.builtin "set.update.loop" ⟨[.ref S, .ref I], []⟩) R s := by
  have hSw : S ∉ wr := fun h => hSf (W.sub _ h)
  have hsub : ∀ b ∈ wr, b ∈ S :: wr := fun b hb => List.mem_cons_of_mem _ hb
  intro k
  induction k with
  | zero =>
    intro i s o hk hi hst ho hS hR
    have hin : i = n := by omega
    subst hin
    refine codeAny_builtin PyProof.Rows.F.entry_set_update_loop ?_
    rw [Around.under_plainId PyProof.Rows.F.plain_set_update_loop _]
    show wpAny _ A.in1 (pyNext (.ref I) >>= _) _ _ s
    refine wpAny_bind (W.done s _ _ hst fun s' hm => ?_)
    show wpAny _ A.in1 (ret Value.none) _ _ s'
    exact wpAny_pure (hR s' o (hm.mono hsub) (hm.heap S _ hSw ho) hS)
  | succ k ih =>
    intro i s o hk hi hst ho hS hR
    have hlt : i < n := by omega
    refine codeAny_builtin PyProof.Rows.F.entry_set_update_loop ?_
    rw [Around.under_plainId PyProof.Rows.F.plain_set_update_loop _]
    show wpAny _ A.in1 (pyNext (.ref I) >>= _) _ _ s
    refine wpAny_bind (W.item i s _ _ hlt hst fun v s' hP hst' hm => ?_)
    obtain ⟨t, rfl⟩ := hval i v hP
    have ho' := hm.heap S _ hSw ho
    show wpAny _ A.in1 (holding [Value.int (val i : Nat) t] (setAdd S (.int (val i : Nat) t)) >>= _) _ _ s'
    refine wpAny_bind (wpAny_holding ?_)
    unfold setAdd
    refine wpAny_holding ?_
    refine wpAny_bind ((intKind prog w).pyHash (k := (val i : Nat)) (intKind_is _ _ _ _) ?_)
    refine add8 (s := { s' with toks := s'.toks + 1 }) ho' hS (h8 i hlt) fun h' o' hsb ho2 hS2 => ?_
    refine wpAny_pure ⟨plainId_quiet PyProof.Rows.F.plain_set_update_loop _, ih (i + 1) _ o' (by omega) hlt (W.frame _ s' _ _ hst' (Nat.le_succ _) fun b hb o e => ?_) ho2 hS2 fun s'' o'' hm'' ho'' hS'' => ?_⟩
    · rw [hsb.2 b (fun h : b = S => hSf (by rw [← h]; exact hb))]; exact e
    · refine hR s'' o'' (Moved.trans W.gtrans ((hm.mono hsub).then_heap (Nat.le_succ _) fun b o hb e => ?_) hm'') ho'' hS''
      rw [hsb.2 b (fun h : b = S => hb (by rw [h]; exact List.mem_cons_self))]; exact e
end

end
local macro_rules | `(tactic| walk_at "no such key") => `(tactic| skip)
local macro_rules | `(tactic| walk_at "no such key") => `(tactic| skip)
local macro_rules | `(tactic| walk_at "no such key") => `(tactic| skip)
local macro_rules | `(tactic| walk_at "no such key") => `(tactic| skip)
local macro_rules | `(tactic| walk_at "no such key") => `(tactic| skip)
local macro_rules | `(tactic| walk_at "no such key") => `(tactic| skip)

section
open SetTable
/-- are sets' makers led (do they not go by the world's text)? -/
def ledOf (w : World) : Bool := !w.params.followText "set-order"
theorem inv8_fresh (w : World) : Inv8 (ledOf w) [] #[] (.fresh 0 0 (ledOf w)) where
  asc := .nil
  small := fun _ h => nomatch h
  place := rfl
  dum := rfl
  ents := .nil
  mask := .inl ⟨rfl, by decide⟩
  led := rfl
  plain := rfl
section
variable {prog : Program} {w : World} {A : Around} {E : Value → Shared → Prop} {s : Shared}

theorem code_new8 (a : Value) {Q₁ : Value → Shared → Prop}
    (h : Q₁ (.ref s.heap.objs.size) { s with heap := s.heap.push (setObj #[] 0 (.fresh 0 0 (ledOf w))) }) :
    codeAny (model prog w) A (.call (.builtin "set.__new__") ⟨[.type "set", a], []⟩) (wants Q₁ E) s := by
  refine codeAny_of_tree ?_
  show wpAny _ A.in1 (do checkBuiltinCall "set.__new__" ⟨[.type "set", a], []⟩; again (.builtin "set.__new__" ⟨[.type "set", a], []⟩)) _ _ s
  refine wpAny_bind (wpAny_of_eq (F.newCall_set_1 a) (wpAny_pure ⟨plainId_quiet F.plain_set_new _, codeAny_builtin F.entry_set_new ?_⟩))
  rw [Around.under_plainId F.plain_set_new _]
  unfold Builtin.«set.__new__» Builtin.Frozenset.newClass
  have hsub := sub_set_self
  obtain ⟨hp, g, d, tk, os⟩ := s
  dsimp only
  wp_walk
  refine wpAny_askSetting (wpAny_pure ?_)
  dsimp only
  simp only [newObj]
  refine wpAny_bind (wpAny_alloc (wpAny_pure ?_))
  exact wpAny_pure h

set_option maxHeartbeats 3200000 in
/-- set(v): the new set, then what the update does -/
theorem call_set8 {v : Value} {Q : Value → Shared → Prop} (hh : A.handled = none)
    (hup : ∀ (A' : Around) (E' : Value → Shared → Prop), A'.handled = none →
      wpAny (model prog w) A' (Builtin.Frozenset.updateFrom "set.__init__" s.heap.objs.size v) (fun _ s₂ => Q (.ref s.heap.objs.size) s₂) E' { s with heap := s.heap.push (setObj #[] 0 (.fresh 0 0 (ledOf w))) }) :
    wpAny (model prog w) A (call (.type "set") [v]) Q E s := by
  obtain ⟨c, tl, hmro⟩ := F.called_set.mro
  have hmade := F.called_set.made
  have hsub := F.called_set.sub
  refine wpAny_call (codeAny_of_tree ?_)
  show wpAny _ _ (callAny (.type "set") _) _ _ _
  refine wpAny_pure ⟨Code.quiet_builtin _ (by decide +kernel), codeAny_builtin F.entry_type_call ?_⟩
  rw [Around.under_plain (weight_type_call_type "set" [v] []) rfl]
  have h1 := F.called_set.notType
  have h2 := F.called_set.canCreate
  have hct := F.typeCall_set_1 v
  repeat (any_goals (first | assumption | wp_step))
  refine codeAny_mono (code_new8 v (E := E) (Q₁ := fun obj s₁ => obj = .ref s.heap.objs.size ∧ s₁ = { s with heap := s.heap.push (setObj #[] 0 (.fresh 0 0 (ledOf w))) }) ⟨rfl, rfl⟩) fun r s₁ hr => ?_
  cases r with
  | error e => exact hr
  | ok fl =>
    cases fl with
    | ret obj =>
      obtain ⟨rfl, rfl⟩ := hr
      have hS : (s.heap.push (setObj #[] 0 (.fresh 0 0 (ledOf w)))).get? s.heap.objs.size = some (setObj #[] 0 (.fresh 0 0 (ledOf w))) := Heap.get?_push_size _ rfl
      have hT : Shared.TypeIs { s with heap := s.heap.push (setObj #[] 0 (.fresh 0 0 (ledOf w))) } (.ref s.heap.objs.size) "set" := ⟨_, hS, rfl⟩
      have hli := F.called_set.init.lookup
      have hbi := F.called_set.init.bind (.ref s.heap.objs.size)
      repeat (any_goals (first | assumption | wp_step))
      refine codeAny_mono (codeAny_call_builtin (R := wants (fun r s₂ => r = .none ∧ Q (.ref s.heap.objs.size) s₂) E) F.called_set.init.plain F.entry_set_init (check_set_init_1 hT ?_)) fun r₂ s₂ hr₂ => ?_
      · unfold Builtin.«set.__init__» noKeywords
        generalize hUF : Builtin.Frozenset.updateFrom = UF
        wp_walk
        subst hUF
        exact wpAny_mono (hup _ _ (by simp [hh])) (fun _ s₂ hq => wpAny_pure ⟨rfl, hq⟩) fun _ _ e => e
      · cases r₂ with
        | error e => exact hr₂
        | ok fl₂ =>
          cases fl₂ with
          | ret r =>
            obtain ⟨rfl, hq⟩ := hr₂
            repeat (any_goals (first | assumption | wp_step))
          | _ => exact hr₂.elim
    | _ => exact hr.elim
end

end
local macro_rules | `(tactic| walk_at "no such key") => `(tactic| skip)
local macro_rules | `(tactic| walk_at "no such key") => `(tactic| skip)
local macro_rules | `(tactic| walk_at "no such key") => `(tactic| skip)
local macro_rules | `(tactic| walk_at "no such key") => `(tactic| skip)
local macro_rules | `(tactic| walk_at "no such key") => `(tactic| skip)
local macro_rules | `(tactic| walk_at "no such key") => `(tactic| skip)

section
open SetTable
section
variable {prog : Program} {w : World} {A : Around} {E : Value → Shared → Prop} {s : Shared}
theorem ints_val : ∀ {vs : List Value} {ks : List Nat}, IntsAre vs (ks.map fun k : Nat => (k : Int)) → ∀ (i : Nat) (v : Value), vs[i]? = some v → ∃ t, v = .int (ks.getD i 0 : Nat) t
  | _, [], .nil, i, v, h => by simp at h
  | _, k :: ks, .cons _ t hr, 0, v, h => by simp at h; exact ⟨t, by rw [← h]; rfl⟩
  | _, k :: ks, .cons _ t hr, i + 1, v, h => by
    simp only [List.getElem?_cons_succ] at h
    obtain ⟨t', e⟩ := ints_val hr i v h
    exact ⟨t', by rw [e]; rfl⟩
theorem isAny_list {l : Addr} {items : Array Value} {Q : Bool → Shared → Prop} (hl : s.heap.IsList l items) (h : Q false s) : wpAny (model prog w) A (Builtin.Frozenset.isAnySet (.ref l)) Q E s := by
  unfold Builtin.Frozenset.isAnySet
  refine wpAny_bind (wpAny_isInstance hl.typeIs F.sub_list_set ?_)
  show wpAny _ _ (isInstance (.ref l) (.type "frozenset")) _ _ _
  exact wpAny_isInstance hl.typeIs F.sub_list_frozenset h
/-- set(l) of a list of ints below 8 -/
theorem call_set_list8 {l : Addr} {vs : List Value} {ks : List Nat} {Q : Value → Shared → Prop} (hh : A.handled = none) (hl : s.heap.IsList l vs.toArray) (hi : IntsAre vs (ks.map fun k : Nat => (k : Int))) (h8 : ∀ k ∈ ks, k < 8)
    (h : ∀ h' tk o, h'.get? s.heap.objs.size = some o → IsSet8 (ledOf w) (addsK (fun i => ks.getD i 0) [] ks.length) o → (∀ b x, s.heap.get? b = some x → h'.get? b = some x) → Q (.ref s.heap.objs.size) { s with heap := h', toks := tk }) :
    wpAny (model prog w) A (call (.type "set") [.ref l]) Q E s := by
  refine call_set8 hh fun A' E' hA' => ?_
  generalize hs₁ : ({ s with heap := s.heap.push (setObj #[] 0 (.fresh 0 0 (ledOf w))) } : Shared) = s₁
  have hg : s₁.heap.get? s.heap.objs.size = some (setObj #[] 0 (.fresh 0 0 (ledOf w))) := by rw [← hs₁]; exact Heap.get?_push_size _ rfl
  have up : ∀ b x, s.heap.get? b = some x → s₁.heap.get? b = some x := fun b x e => by rw [← hs₁]; exact Heap.get?_push_of_some _ e
  have hl₁ : s₁.heap.IsList l vs.toArray := hl.at fun o e => up _ o e
  have hlt : l < s.heap.objs.size := by obtain ⟨_, e, _⟩ := hl; exact Heap.lt_size e
  have hsz₁ : s₁.heap.objs.size = s.heap.objs.size + 1 := by rw [← hs₁]; exact Heap.size_push _ _
  have hlen : vs.length = ks.length := by rw [IntsAre.length hi, List.length_map]
  unfold Builtin.Frozenset.updateFrom
  refine wpAny_bind (isAny_list hl₁ ?_)
  rw [if_neg Bool.false_ne_true]
  refine wpAny_bind (wpAny_typeOf hl₁.typeIs ?_)
  have hne : (Value.type "list" == Value.type "dict") = false := by decide
  rw [if_neg (by rw [hne]; exact Bool.false_ne_true)]
  refine wpAny_bind (wpAny_pyIter_list hl₁ ?_)
  refine wpAny_bind (wpAny_runValue ?_)
  have hneI : l ≠ s₁.heap.objs.size := by rw [hsz₁]; exact Nat.ne_of_lt (Nat.lt_succ_of_lt hlt)
  have hSf : s.heap.objs.size ∉ [s₁.heap.objs.size, l] := by
    rw [hsz₁]; simp only [List.mem_cons, List.not_mem_nil, or_false, not_or]
    exact ⟨Nat.ne_of_lt (Nat.lt_succ_self _), Nat.ne_of_gt hlt⟩
  refine update_loop8 (led := ledOf w) (ks := []) ((Walks.list (by simp [hA']) _ l hneI vs.toArray).toS) s.heap.objs.size hSf (fun i => ks.getD i 0) (fun i v hv => ints_val hi i v (by simpa using hv)) (fun i hi' => ?_)
    (vs.toArray.size - 0) 0 _ (setObj #[] 0 (.fresh 0 0 (ledOf w))) (by omega) (Nat.zero_le _) ⟨⟨_, Heap.get?_push_size _ rfl, rfl, rfl⟩, hl₁.push _⟩ (Heap.get?_push_of_some _ hg) ⟨_, _, _, rfl, inv8_fresh w⟩ ?_
  · rw [List.size_toArray, hlen] at hi'
    have e : ks.getD i 0 = ks[i] := by rw [List.getD_eq_getElem?_getD, List.getElem?_eq_getElem hi']; rfl
    show ks.getD i 0 < 8
    rw [e]
    exact h8 _ (List.getElem_mem hi')
  · intro s' o' hm ho' hS'
    rw [List.size_toArray, hlen] at hS'
    refine wpAny_pure ?_
    obtain ⟨h', g', d', tk', os'⟩ := s'
    have eg : g' = s₁.gens := hm.gens
    have ed : d' = s₁.drawn := hm.drawn
    have eo : os' = s₁.os := hm.os
    subst eg; subst ed; subst eo
    have := h h' tk' o' ho' hS' fun b x e => by
      have hb := Heap.lt_size e
      refine hm.heap b x ?_ (Heap.get?_push_of_some _ (up b x e))
      rw [hsz₁]
      simp only [List.mem_cons, List.not_mem_nil, or_false, not_or]
      exact ⟨Nat.ne_of_lt hb, Nat.ne_of_lt (Nat.lt_succ_of_lt hb)⟩
    rw [← hs₁]
    exact this
end

end
local macro_rules | `(tactic| walk_at "no such key") => `(tactic| skip)
local macro_rules | `(tactic| walk_at "no such key") => `(tactic| skip)
local macro_rules | `(tactic| walk_at "no such key") => `(tactic| skip)
local macro_rules | `(tactic| walk_at "no such key") => `(tactic| skip)
local macro_rules | `(tactic| walk_at "no such key") => `(tactic| skip)
local macro_rules | `(tactic| walk_at "no such key") => `(tactic| skip)

section
open SetTable
theorem laidMore_all : ∀ b0 b1 b2 b3 b4 b5 b6 b7 : Bool, (!decide ((sel b0 b1 b2 b3 b4 b5 b6 b7).length ≤ 4) || laidOk 7 (sel b0 b1 b2 b3 b4 b5 b6 b7)) = true ∧ (!decide ((sel b0 b1 b2 b3 b4 b5 b6 b7).length = 8) || laidOk 31 (sel b0 b1 b2 b3 b4 b5 b6 b7)) = true := by decide +kernel
/-- the mask of a set made for n elements -/
def maskFor (n : Nat) : Nat := if n ≤ 4 then 7 else if n ≤ 7 then 15 else 31
section
variable {led : Bool} {ks : List Nat} {es : Array (Int × Value)} {t : SetTable}
theorem laid_for (asc : ks.Pairwise (· < ·)) (small : ∀ k ∈ ks, k < 8) : laidOk (maskFor ks.length) ks = true := by
  have e := sel_of asc small
  have l8 := asc_len asc small
  unfold maskFor
  split
  · have := laidMore_all (decide (0 ∈ ks)) (decide (1 ∈ ks)) (decide (2 ∈ ks)) (decide (3 ∈ ks)) (decide (4 ∈ ks)) (decide (5 ∈ ks)) (decide (6 ∈ ks)) (decide (7 ∈ ks))
    rw [← e] at this
    rename_i h4
    simpa [h4] using this.1
  · split
    · have := laidOk_all (decide (0 ∈ ks)) (decide (1 ∈ ks)) (decide (2 ∈ ks)) (decide (3 ∈ ks)) (decide (4 ∈ ks)) (decide (5 ∈ ks)) (decide (6 ∈ ks)) (decide (7 ∈ ks))
      rw [← e] at this
      have h5 : 5 ≤ ks.length := by omega
      simp only [h5, decide_true, Bool.not_true, Bool.false_or, Bool.and_eq_true] at this
      exact this.1
    · have := laidMore_all (decide (0 ∈ ks)) (decide (1 ∈ ks)) (decide (2 ∈ ks)) (decide (3 ∈ ks)) (decide (4 ∈ ks)) (decide (5 ∈ ks)) (decide (6 ∈ ks)) (decide (7 ∈ ks))
      rw [← e] at this
      have h8 : ks.length = 8 := by omega
      simpa [h8] using this.2

theorem laid_nil7 : laidOk 15 [] = true ∧ laidOk 31 [] = true := by decide +kernel
theorem relaid_nil {fi mo wanted : Nat} {ld : Bool} (hw : sizeAbove wanted - 1 = 15 ∨ sizeAbove wanted - 1 = 31) :
    SetTable.relaid (.fresh fi mo ld) #[] wanted = some ({ mask := sizeAbove wanted - 1, place := #[], dummies := #[], finger := fi, led := ld, moves := (SetTable.fresh fi mo ld).movedTo (sizeAbove wanted - 1), plain := true }, #[]) := by
  unfold SetTable.relaid
  have h15 := laid_of (ks := []) (mask := 15) laid_nil7.1
  have h31 := laid_of (ks := []) (mask := 31) laid_nil7.2
  rcases hw with e | e
  · rw [e]; exact h15 _ _ _ _
  · rw [e]; exact h31 _ _ _ _
end

section
variable {prog : Program} {w : World} {A : Around} {E : Value → Shared → Prop} {s : Shared} {ks : List Nat} {a D : Addr} {o : Obj}
/-- room in a fresh set for n elements -/
theorem room8 {n ep : Nat} {ld : Bool} {Q : Unit → Shared → Prop} (hD : s.heap.get? D = some (setObj #[] ep (.fresh 0 0 ld))) (hn : n ≤ 8)
    (h : ∀ h' ep' t', Heap.SameBut D s.heap h' → h'.get? D = some (setObj #[] ep' t') → t'.mask = maskFor n → t'.place = #[] → t'.dummies = #[] → t'.led = ld → t'.plain = true → t'.finger = 0 → Q () { s with heap := h' }) :
    wpAny (model prog w) A (setRoomFor D n) Q E s := by
  unfold setRoomFor
  refine wpAny_bind (wpAny_setState_of hD rfl (by rfl) ?_)
  dsimp only
  have hfill : (SetTable.fresh 0 0 ld).fill = 0 := rfl
  by_cases h4 : n ≤ 4
  · have : (SetTable.fresh 0 0 ld).roomFor n = none := by
      unfold SetTable.roomFor
      rw [hfill]
      have hm : (SetTable.fresh 0 0 ld).mask = 7 := rfl
      rw [hm, if_neg (by omega)]
    rw [this]
    dsimp only
    have e : s = { s with heap := s.heap } := by cases s; rfl
    rw [e]
    exact wpAny_pure (h s.heap ep _ (Heap.SameBut.refl D s.heap) hD (by unfold maskFor; rw [if_pos h4]; rfl) rfl rfl rfl rfl rfl)
  · have : (SetTable.fresh 0 0 ld).roomFor n = some (n * 2) := by
      unfold SetTable.roomFor
      rw [hfill]
      have hm : (SetTable.fresh 0 0 ld).mask = 7 := rfl
      have hp : (SetTable.fresh 0 0 ld).place.size = 0 := rfl
      rw [hm, hp, if_pos (by omega), Nat.zero_add]
    rw [this]
    dsimp only
    have hw : sizeAbove (n * 2) - 1 = maskFor n := by
      match n, hn, h4 with
      | 5, _, _ | 6, _, _ | 7, _, _ | 8, _, _ => decide
      | 0, _, h | 1, _, h | 2, _, h | 3, _, h | 4, _, h => omega
    have hw' : maskFor n = 15 ∨ maskFor n = 31 := by
      unfold maskFor
      rw [if_neg h4]
      split
      · exact .inl rfl
      · exact .inr rfl
    unfold setRelay
    refine wpAny_bind (wpAny_setState_of hD rfl (by rfl) ?_)
    dsimp only
    rw [if_neg (by rw [sizeLine_eq]; omega)]
    have hr := relaid_nil (fi := 0) (mo := 0) (ld := ld) (wanted := n * 2) (by rw [hw]; exact hw')
    have hmap : (#[] : Array (Int × Value)).map (·.1) = #[] := Array.map_empty
    rw [hmap, hr]
    refine wpAny_bind ?_
    refine wpAny_pure ?_
    dsimp only
    have hfm : Array.filterMap (fun x : Nat => (#[] : Array (Int × Value))[x]?) (#[] : Array Nat) = #[] := by simp
    rw [hfm]
    exact wpAny_storeSet_of hD rfl (h _ _ _ (Heap.SameBut.update s.heap D _) (put_at hD) hw rfl rfl rfl rfl rfl) (Nat.zero_le _)

/-- a fresh set takes over another one's elements -/
theorem merge8 {ld : Bool} {Q : Unit → Shared → Prop} {each : Sem Unit} (hne : D ≠ a) (ho : s.heap.get? a = some o) (hS : IsSet8 ld ks o) (hD : s.heap.get? D = some (setObj #[] 0 (.fresh 0 0 ld)))
    (h : ∀ h' o', Heap.SameBut D s.heap h' → h'.get? D = some o' → IsSet8 ld ks o' → Q () { s with heap := h' }) :
    wpAny (model prog w) A (setMerge D a each) Q E s := by
  obtain ⟨es, ep, t, rfl, I⟩ := hS
  have hsz := I.size
  unfold setMerge
  have hb : (D == a) = false := by simpa using hne
  rw [if_neg (by rw [hb]; exact Bool.false_ne_true)]
  refine wpAny_bind (wpAny_setState_of ho rfl I.fits ?_)
  dsimp only
  by_cases h0 : es.isEmpty = true
  · rw [if_pos h0]
    have e0 : es = #[] := Array.isEmpty_iff.mp h0
    have ek : ks = [] := by
      have : ks.length = 0 := by rw [← hsz, e0]; rfl
      exact List.eq_nil_of_length_eq_zero this
    subst ek
    have e : s = { s with heap := s.heap } := by cases s; rfl
    rw [e]
    exact wpAny_pure (h s.heap _ (Heap.SameBut.refl D s.heap) hD ⟨_, _, _, rfl, { asc := .nil, small := (fun _ h => nomatch h), place := rfl, dum := rfl, ents := .nil, mask := .inl ⟨rfl, by decide⟩, led := rfl, plain := rfl }⟩)
  · rw [if_neg h0]
    have hn8 : es.size ≤ 8 := by rw [hsz]; exact I.len8
    refine wpAny_bind (room8 hD hn8 fun h₁ ep₁ t₁ hsb₁ hD₁ hm₁ hp₁ hd₁ hl₁ hpl₁ hf₁ => ?_)
    have hfit₁ : t₁.fits (#[] : Array (Int × Value)).size = true := by
      unfold SetTable.fits SetTable.fill
      rw [hp₁, hd₁]
      simp
    refine wpAny_bind (wpAny_setState_of (s := { s with heap := h₁ }) hD₁ rfl hfit₁ ?_)
    dsimp only
    have hfill₁ : t₁.fill = 0 := by
      unfold SetTable.fill
      rw [hp₁, hd₁]; rfl
    unfold SetTable.road
    rw [hfill₁]
    have hb0 : ((0 : Nat) != 0) = false := rfl
    rw [if_neg (by rw [hb0]; exact Bool.false_ne_true)]
    have hmk : (t₁.mask = 7 ∧ ks.length ≤ 4) ∨ t₁.mask = 15 ∨ t₁.mask = 31 := by
      rw [hm₁, hsz]
      unfold maskFor
      split
      · exact .inl ⟨rfl, by assumption⟩
      · split
        · exact .inr (.inl rfl)
        · exact .inr (.inr rfl)
    have hzs : es.size ≤ sizeLine := by rw [sizeLine_eq]; omega
    by_cases hr : (t₁.mask == t.mask && t.dummies.isEmpty) = true
    · rw [if_pos hr]
      dsimp only
      have hmm : t₁.mask = t.mask := by
        rw [Bool.and_eq_true] at hr
        exact beq_iff_eq.mp hr.1
      refine wpAny_storeSet_of (s := { s with heap := h₁ }) hD₁ rfl (h _ _ (hsb₁.trans (Heap.SameBut.update h₁ D _)) (put_at hD₁) ⟨_, _, _, rfl, ?_⟩) hzs
      exact { asc := I.asc, small := I.small, place := I.place, dum := I.dum, ents := I.ents, mask := I.mask, led := by show (t₁.led && t.led) = ld; rw [hl₁, I.led, Bool.and_self], plain := by show (t₁.plain && t.plain) = true; rw [hpl₁, I.plain]; rfl }
    · rw [if_neg hr]
      dsimp only
      have hl := laid_for I.asc I.small
      rw [← hsz, ← hm₁] at hl
      have hh : es.map (·.1) = (ks.map fun k : Nat => (k : Int)).toArray := by
        apply Array.toList_inj.mp
        rw [Array.toList_map, I.ents.hashes]
      rw [hh, laid_of hl]
      have e : (List.range ks.length).toArray.filterMap (fun i => es[i]?) = es := by
        apply Array.toList_inj.mp
        rw [Array.toList_filterMap, ← hsz, filterMap_getElem?_range]
      refine wpAny_bind ?_
      have hne2 : (((List.range ks.length).toArray.filterMap (fun i => es[i]?)).size != es.size) = false := by rw [e]; simp
      show wpAny _ _ (if (((List.range ks.length).toArray.filterMap (fun i => es[i]?)).size != es.size) = true then _ else _) _ _ _
      rw [if_neg (by rw [hne2]; exact Bool.false_ne_true), e]
      refine wpAny_pure ?_
      dsimp only
      refine wpAny_storeSet_of (s := { s with heap := h₁ }) hD₁ rfl (h _ _ (hsb₁.trans (Heap.SameBut.update h₁ D _)) (put_at hD₁) ⟨_, _, _, rfl, ?_⟩) hzs
      exact { asc := I.asc, small := I.small, place := by simp, dum := rfl, ents := I.ents, mask := hmk, led := by show (t₁.led && t.led) = ld; rw [hl₁, I.led, Bool.and_self], plain := by show (t₁.plain && t.plain) = true; rw [hpl₁, I.plain]; rfl }
end

end
local macro_rules | `(tactic| walk_at "no such key") => `(tactic| skip)
local macro_rules | `(tactic| walk_at "no such key") => `(tactic| skip)
local macro_rules | `(tactic| walk_at "no such key") => `(tactic| skip)
local macro_rules | `(tactic| walk_at "no such key") => `(tactic| skip)
local macro_rules | `(tactic| walk_at "no such key") => `(tactic| skip)
local macro_rules | `(tactic| walk_at "no such key") => `(tactic| skip)

section
open SetTable
theorem slot_setiter_next : Slot "set_iterator" "__next__" "set_iterator.__next__" :=
  .of (owner := "set_iterator") (n := "__next__") (by rw [typeLookup_type, builtinLookup_eq_fast]; kernel_rfl) (by decide +kernel) (by decide +kernel) (by decide +kernel)
    (by first | exact .inl (by decide +kernel) | exact .inr (by decide +kernel)) (by rw [isSubtype_type]; kernel_rfl)
theorem entry_setiter_next : entryFor table "set_iterator.__next__" = some Builtin.«set_iterator.__next__» := entryFor_of_fast (by kernel_rfl)
theorem args_setiter_next (a : Value) : argsOk "set_iterator.__next__" ⟨[a], []⟩ := by unfold argsOk; kernel_rfl
theorem slot_setiter_iter : Slot "set_iterator" "__iter__" "set_iterator.__iter__" :=
  .of (owner := "set_iterator") (n := "__iter__") (by rw [typeLookup_type, builtinLookup_eq_fast]; kernel_rfl) (by decide +kernel) (by decide +kernel) (by decide +kernel)
    (by first | exact .inl (by decide +kernel) | exact .inr (by decide +kernel)) (by rw [isSubtype_type]; kernel_rfl)
theorem entry_setiter_iter : entryFor table "set_iterator.__iter__" = some Builtin.«dict_keyiterator.__iter__» :=
  entryFor_alias (id' := "dict_keyiterator.__iter__") (by kernel_rfl) rfl (by decide +kernel) (by kernel_rfl)
theorem args_setiter_iter (a : Value) : argsOk "set_iterator.__iter__" ⟨[a], []⟩ := by unfold argsOk; kernel_rfl
theorem entry_set_iter : entryFor table "set.__iter__" = some Builtin.«frozenset.__iter__» :=
  entryFor_alias (id' := "frozenset.__iter__") (by kernel_rfl) rfl (by decide +kernel) (by kernel_rfl)

theorem erase_perm {α : Type} {l : List α} {i : Nat} (h : i < l.length) : (l[i] :: l.eraseIdx i).Perm l := by
  rw [List.eraseIdx_eq_take_drop_succ]
  have e : l = l.take i ++ l[i] :: l.drop (i + 1) := by
    rw [List.getElem_cons_drop h, List.take_append_drop]
  exact (List.perm_middle.symm).trans (List.Perm.of_eq e.symm)
theorem pick_go {α : Type} (next : Nat → Nat) : ∀ (n k : Nat) (left : List α) (out : Array α), left.length = n → (pickOrder.go next n k left out).toList.Perm (out.toList ++ left) := by
  intro n
  induction n with
  | zero =>
    intro k left out hl
    have : left = [] := List.eq_nil_of_length_eq_zero hl
    subst this
    unfold pickOrder.go
    rw [List.append_nil]
  | succ n ih =>
    intro k left out hl
    unfold pickOrder.go
    have hlt : next k % left.length < left.length := Nat.mod_lt _ (by omega)
    rw [List.getElem?_eq_getElem hlt]
    dsimp only
    refine (ih (k + 1) _ _ (by rw [List.length_eraseIdx_of_lt hlt]; omega)).trans ?_
    rw [Array.toList_push, List.append_assoc]
    refine List.Perm.append_left _ ?_
    exact erase_perm hlt
theorem pick_perm {α : Type} (next : Nat → Nat) (xs : Array α) : (pickOrder next xs).toList.Perm xs.toList := by
  unfold pickOrder
  have := pick_go next xs.size 0 xs.toList #[] (by simp)
  simpa using this

/-- the order in which a set is walked -/
def ordOf (w : World) (a : Addr) (ep : Nat) (es : Array (Int × Value)) : Array (Int × Value) := if w.params.followText "set-order" = true then pickOrder (w.params.setOrder a ep) es else es
theorem ord_perm (w : World) (a : Addr) (ep : Nat) (es : Array (Int × Value)) : (ordOf w a ep es).toList.Perm es.toList := by
  unfold ordOf
  split
  · exact pick_perm _ _
  · exact .refl _

abbrev itObj (slot i : Int) (a : Value) (n ep : Int) : Obj := { cls := .type "set_iterator", data := .fields #[.int slot 0, .int i 0, a, .int n 0, .int ep 0] }
/-- the iterator stands at place i -/
def ItAt (w : World) (I a : Addr) (es : Array (Int × Value)) (ep : Nat) (t : SetTable) (i : Nat) (h : Heap) : Prop :=
  (∃ slot : Nat, h.get? I = some (itObj slot i (.ref a) es.size ep) ∧ (w.params.followText "set-order" = false → below t.place slot = i)) ∧ h.get? a = some (setObj es ep t)

section
variable {prog : Program} {w : World} {A : Around} {E : Value → Shared → Prop} {s : Shared} {ks : List Nat} {a I : Addr} {es : Array (Int × Value)} {ep : Nat} {t : SetTable}

theorem byText_of {Q : Bool → Shared → Prop} (h : Q (w.params.followText "set-order") s) : wpAny (model prog w) A setsByText Q E s := by
  unfold setsByText
  exact wpAny_bind (wpAny_askSetting (wpAny_pure h))

theorem walk_of {Q : Array (Int × Value) → Shared → Prop} (ho : s.heap.get? a = some (setObj es ep t)) (In : Inv8 (ledOf w) ks es t) (h : Q (ordOf w a ep es) s) : wpAny (model prog w) A (setWalk a) Q E s := by
  unfold setWalk
  refine wpAny_bind (wpAny_setState_of ho rfl In.fits ?_)
  dsimp only
  refine wpAny_bind (byText_of ?_)
  unfold ordOf at h
  by_cases hb : w.params.followText "set-order" = true
  · rw [if_pos hb] at h ⊢
    exact wpAny_bind (wpAny_askSetting (wpAny_pure h))
  · rw [if_neg hb] at h ⊢
    have hl : ledOf w = true := by unfold ledOf; simpa using hb
    have hd : (!t.plain && decide (es.size > 1)) = false := by rw [In.plain]; rfl
    refine (?_ : wpAny _ _ (if (!t.plain && decide (es.size > 1)) = true then _ else _) _ _ _)
    rw [if_neg (by rw [hd]; exact Bool.false_ne_true)]
    refine wpAny_bind ?_
    have hm : (!t.led && decide (es.size > 1)) = false := by rw [In.led, hl]; rfl
    refine (?_ : wpAny _ _ (if (!t.led && decide (es.size > 1)) = true then _ else _) _ _ _)
    rw [if_neg (by rw [hm]; exact Bool.false_ne_true)]
    exact wpAny_pure (wpAny_pure h)

theorem next_of {slot i : Nat} {x : Int × Value} {Q : Option (Value × Nat) → Shared → Prop} (ho : s.heap.get? a = some (setObj es ep t)) (In : Inv8 (ledOf w) ks es t)
    (hs : w.params.followText "set-order" = false → below t.place slot = i) (hx : (ordOf w a ep es)[i]? = some x)
    (h : ∀ slot', (w.params.followText "set-order" = false → below t.place slot' = i + 1) → Q (some (x.2, slot')) s) : wpAny (model prog w) A (setNext a slot i ep) Q E s := by
  unfold setNext
  refine wpAny_bind (wpAny_setState_of ho rfl In.fits ?_)
  dsimp only
  refine wpAny_bind (byText_of ?_)
  by_cases hb : w.params.followText "set-order" = true
  · rw [if_pos hb, if_neg (by simp)]
    refine wpAny_bind (walk_of ho In ?_)
    rw [hx]
    exact wpAny_pure (h slot fun e => by rw [e] at hb; cases hb)
  · have hb' : w.params.followText "set-order" = false := by simpa using hb
    rw [if_neg hb]
    have hl : ledOf w = true := by unfold ledOf; rw [hb']; rfl
    have hd : (!t.plain && decide (es.size > 1)) = false := by rw [In.plain]; rfl
    refine (?_ : wpAny _ _ (if (!t.plain && decide (es.size > 1)) = true then _ else _) _ _ _)
    rw [if_neg (by rw [hd]; exact Bool.false_ne_true)]
    refine wpAny_bind ?_
    have hm : (!t.led && !es.isEmpty) = false := by rw [In.led, hl]; rfl
    refine (?_ : wpAny _ _ (if (!t.led && !es.isEmpty) = true then _ else _) _ _ _)
    rw [if_neg (by rw [hm]; exact Bool.false_ne_true)]
    refine wpAny_pure ?_
    rw [hs hb']
    unfold ordOf at hx
    rw [if_neg hb] at hx
    rw [hx]
    obtain ⟨hi, rfl⟩ := Array.getElem?_eq_some_iff.mp hx
    have hip : i < t.place.size := by rw [In.psize, ← In.size]; exact hi
    rw [Array.getElem?_eq_getElem hip]
    dsimp only
    refine wpAny_pure (h _ fun _ => ?_)
    have asc : t.place.toList.Pairwise (· < ·) := In.place ▸ In.asc
    obtain ⟨b1, b2, b3⟩ := below_spec t.place (t.place[i] + 1) asc
    rcases Nat.lt_trichotomy (below t.place (t.place[i] + 1)) (i + 1) with q | q | q
    · have := b3 i t.place[i] (by omega) (Array.getElem?_eq_getElem hip)
      omega
    · exact q
    · have h1 : i + 1 < t.place.size := by omega
      have := b2 (i + 1) t.place[i + 1] q (Array.getElem?_eq_getElem h1)
      have h2 := asc_lt asc (i := i) (j := i + 1) (a := t.place[i]) (b := t.place[i + 1]) (by omega) (by rw [Array.getElem?_toList]; exact Array.getElem?_eq_getElem hip) (by rw [Array.getElem?_toList]; exact Array.getElem?_eq_getElem h1)
      omega

theorem next_end {slot i : Nat} {Q : Option (Value × Nat) → Shared → Prop} (ho : s.heap.get? a = some (setObj es ep t)) (In : Inv8 (ledOf w) ks es t)
    (hs : w.params.followText "set-order" = false → below t.place slot = i) (hi : i = es.size)
    (h : Q none s) : wpAny (model prog w) A (setNext a slot i ep) Q E s := by
  unfold setNext
  refine wpAny_bind (wpAny_setState_of ho rfl In.fits ?_)
  dsimp only
  refine wpAny_bind (byText_of ?_)
  by_cases hb : w.params.followText "set-order" = true
  · rw [if_pos hb, if_neg (by simp)]
    refine wpAny_bind (walk_of ho In ?_)
    have hx : (ordOf w a ep es)[i]? = none := by
      refine Array.getElem?_eq_none ?_
      have := (ord_perm w a ep es).length_eq
      rw [Array.length_toList, Array.length_toList] at this
      omega
    rw [hx]
    exact wpAny_pure h
  · have hb' : w.params.followText "set-order" = false := by simpa using hb
    rw [if_neg hb]
    have hl : ledOf w = true := by unfold ledOf; rw [hb']; rfl
    have hd : (!t.plain && decide (es.size > 1)) = false := by rw [In.plain]; rfl
    refine (?_ : wpAny _ _ (if (!t.plain && decide (es.size > 1)) = true then _ else _) _ _ _)
    rw [if_neg (by rw [hd]; exact Bool.false_ne_true)]
    refine wpAny_bind ?_
    have hm : (!t.led && !es.isEmpty) = false := by rw [In.led, hl]; rfl
    refine (?_ : wpAny _ _ (if (!t.led && !es.isEmpty) = true then _ else _) _ _ _)
    rw [if_neg (by rw [hm]; exact Bool.false_ne_true)]
    refine wpAny_pure ?_
    rw [hs hb', Array.getElem?_eq_none (by omega)]
    dsimp only
    exact wpAny_pure h
end

end
local macro_rules | `(tactic| walk_at "no such key") => `(tactic| skip)
local macro_rules | `(tactic| walk_at "no such key") => `(tactic| skip)
local macro_rules | `(tactic| walk_at "no such key") => `(tactic| skip)
local macro_rules | `(tactic| walk_at "no such key") => `(tactic| skip)
local macro_rules | `(tactic| walk_at "no such key") => `(tactic| skip)
local macro_rules | `(tactic| walk_at "no such key") => `(tactic| skip)

section
open SetTable
section
variable {prog : Program} {w : World} {A : Around} {E : Value → Shared → Prop} {s : Shared} {ks : List Nat} {a I : Addr} {es : Array (Int × Value)} {ep : Nat} {t : SetTable}

theorem set_fields {fs : Array Value} {h : Heap} {i : Nat} {x : Value} (hi : h.get? I = some { cls := .type "set_iterator", data := .fields fs }) :
    (h.update I (Obj.mapFields (·.setIfInBounds i x))).get? I = some { cls := .type "set_iterator", data := .fields (fs.setIfInBounds i x) } :=
  Heap.get?_update_self _ hi rfl

theorem it_item {i : Nat} {x : Int × Value} {Q : Option Value → Shared → Prop} (hne : a ≠ I) (In : Inv8 (ledOf w) ks es t) (hst : ItAt w I a es ep t i s.heap) (hx : (ordOf w a ep es)[i]? = some x)
    (h : ∀ h', ItAt w I a es ep t (i + 1) h' → Heap.SameBut I s.heap h' → Q (some x.2) { s with heap := h' }) : wpAny (model prog w) A (pyNext (.ref I)) Q E s := by
  obtain ⟨⟨slot, hI, hslot⟩, ha⟩ := hst
  have hT : s.TypeIs (.ref I) "set_iterator" := ⟨_, hI, rfl⟩
  unfold pyNext
  refine wpAny_bind (wpAny_attempt (wpAny_callSpecial?_slot (name := Str.ofString "__next__") hT slot_setiter_next
    (wpAny_call_entry slot_setiter_next hT entry_setiter_next ?_ (args_setiter_next _))))
  show wpAny _ _ (fieldsOf (.ref I) >>= _) _ _ s
  refine wpAny_bind (wpAny_fieldsOf hI rfl ?_)
  dsimp only
  refine wpAny_bind (wpAny_setEntries_of ha rfl In.fits ?_)
  rw [if_neg (by simp)]
  refine wpAny_bind (next_of (slot := slot) (i := i) ha In hslot hx fun slot' hs' => ?_)
  dsimp only
  refine wpAny_bind (wpAny_setField hI rfl (by simp) ?_)
  have h1 := set_fields (i := 0) (x := rawInt slot') hI
  refine wpAny_bind (wpAny_setField h1 rfl (by simp) ?_)
  have h2 := set_fields (i := 1) (x := rawInt ((i : Int) + 1)) h1
  have sb : Heap.SameBut I s.heap ((s.heap.update I (Obj.mapFields (·.setIfInBounds 0 (rawInt slot')))).update I (Obj.mapFields (·.setIfInBounds 1 (rawInt ((i : Int) + 1))))) := (Heap.SameBut.update ..).trans (Heap.SameBut.update ..)
  refine wpAny_pure ⟨_, rfl, wpAny_pure (h _ ⟨⟨slot', ?_, hs'⟩, (sb.2 a hne).trans ha⟩ sb)⟩
  exact h2

theorem it_end {i : Nat} {Q : Option Value → Shared → Prop} (hh : A.handled = none) (In : Inv8 (ledOf w) ks es t) (hst : ItAt w I a es ep t i s.heap) (hi : i = es.size)
    (h : ∀ h', Heap.ExtBut I s.heap h' → Q none { s with heap := h' }) : wpAny (model prog w) A (pyNext (.ref I)) Q E s := by
  obtain ⟨⟨slot, hI, hslot⟩, ha⟩ := hst
  have hT : s.TypeIs (.ref I) "set_iterator" := ⟨_, hI, rfl⟩
  unfold pyNext
  refine wpAny_bind (wpAny_attempt (wpAny_callSpecial?_slot (name := Str.ofString "__next__") hT slot_setiter_next
    (wpAny_call_entry slot_setiter_next hT entry_setiter_next ?_ (args_setiter_next _))))
  show wpAny _ _ (fieldsOf (.ref I) >>= _) _ _ s
  refine wpAny_bind (wpAny_fieldsOf hI rfl ?_)
  dsimp only
  refine wpAny_bind (wpAny_setEntries_of ha rfl In.fits ?_)
  rw [if_neg (by simp)]
  refine wpAny_bind (next_end (slot := slot) (i := i) ha In hslot hi ?_)
  dsimp only
  refine wpAny_bind (wpAny_setField hI rfl (by simp) ?_)
  show wpAny _ _ (newExc (.type "StopIteration") [] >>= _) _ _ _
  refine wpAny_bind ?_
  simp only [newExc, newTuple]
  refine wpAny_bind (wpAny_newObj_type ?_ (by size_fits))
  refine wpAny_bind (m := firstArgMember _ _) (wpAny_of_eq (a := Value.none) (by first | rfl | (simp only [firstArgMember]; rfl)) ?_)
  refine wpAny_newObj_type ?_ (by size_fits)
  simp only [raiseNew]
  refine wpAny_bind (wpAny_handled ?_)
  rw [show A.in1.handled = none from hh]
  refine wpAny_bind (wpAny_pure (wpAny_throw ?_))
  refine wpAny_bind (wpAny_isInstance (T := "StopIteration") (b := true) ⟨_, Heap.get?_push_size _ rfl, rfl⟩ isSubtype_stop ?_)
  exact wpAny_pure (h _ (((Heap.SameBut.update ..).extBut.push _).push _))

theorem it_self {i : Nat} {Q : Value → Shared → Prop} (hst : ItAt w I a es ep t i s.heap) (h : Q (.ref I) s) : wpAny (model prog w) A (pyIter (.ref I)) Q E s := by
  obtain ⟨⟨slot, hI, hslot⟩, ha⟩ := hst
  have hT : s.TypeIs (.ref I) "set_iterator" := ⟨_, hI, rfl⟩
  refine wpAny_pyIter_slot hT slot_setiter_iter (wpAny_call_entry slot_setiter_iter hT entry_setiter_iter ?_ (args_setiter_iter _))
  show wpAny _ _ (ret (.ref I)) _ _ s
  exact wpAny_pure ⟨_, rfl, "set_iterator", _, hT, slot_setiter_next.lookup, h⟩

theorem walks8 (hh : A.handled = none) (hne : a ≠ I) (In : Inv8 (ledOf w) ks es t) :
    Walks prog w A I [I, a] [I] es.size (fun i v => ((ordOf w a ep es)[i]?).map (·.2) = some v) (ItAt w I a es ep t) where
  sub := fun b hb => by simp at hb; simp [hb]
  frame := fun i h h' st hk => by
    obtain ⟨⟨slot, hI, hslot⟩, ha⟩ := st
    exact ⟨⟨slot, hk I (by simp) _ hI, hslot⟩, hk a (by simp) _ ha⟩
  item := fun i s Q E hi st hQ => by
    have hsz : (ordOf w a ep es).size = es.size := by
      have := (ord_perm w a ep es).length_eq
      rwa [Array.length_toList, Array.length_toList] at this
    have hx : (ordOf w a ep es)[i]? = some (ordOf w a ep es)[i] := Array.getElem?_eq_getElem (by omega)
    refine it_item hne In st hx fun h' st' sb => ?_
    exact hQ _ h' s.toks (by rw [hx]; rfl) st' fun b o hb e => sb.extBut b o (fun h => hb (by simp [h])) e
  done := fun s Q E st hQ => it_end hh In st rfl fun h' he' => hQ h' s.toks fun b o hb e => he' b o (fun h => hb (by simp [h])) e
  self := fun _ _ _ _ st hQ => it_self st hQ

theorem iter8 {Q : Value → Shared → Prop} (ha : s.heap.get? a = some (setObj es ep t)) (In : Inv8 (ledOf w) ks es t)
    (h : ItAt w s.heap.objs.size a es ep t 0 (s.heap.push (itObj 0 0 (.ref a) es.size ep)) → Q (.ref s.heap.objs.size) { s with heap := s.heap.push (itObj 0 0 (.ref a) es.size ep) }) :
    wpAny (model prog w) A (pyIter (.ref a)) Q E s := by
  have hT : s.TypeIs (.ref a) "set" := ⟨_, ha, rfl⟩
  refine wpAny_pyIter_slot hT F.slot_set_iter (wpAny_call_entry F.slot_set_iter hT entry_set_iter ?_ (F.args_set_iter_1 _))
  unfold Builtin.«frozenset.__iter__» Builtin.Frozenset.slot0 slotArgs
  simp only [List.isEmpty_nil, Bool.not_true, Bool.false_eq_true, ↓reduceIte, bind_assoc, List.length_nil, bne_self_eq_false]
  unfold Builtin.Frozenset.addrOf Builtin.Frozenset.sizeOf
  refine wpAny_bind (wpAny_pure ?_)
  try dsimp only
  refine wpAny_bind (wpAny_pure ?_)
  refine wpAny_bind (wpAny_bind (wpAny_setEntries_of ha rfl In.fits (wpAny_pure ?_)))
  unfold setDrawn
  refine wpAny_bind (wpAny_bind (wpAny_setState_of ha rfl In.fits ?_))
  dsimp only
  refine wpAny_bind (byText_of (wpAny_pure ?_))
  have hd : (!w.params.followText "set-order" && (!t.plain && decide (es.size > 1))) = false := by rw [In.plain]; simp
  refine (?_ : wpAny _ _ (if (!w.params.followText "set-order" && (!t.plain && decide (es.size > 1))) = true then _ else _) _ _ _)
  rw [if_neg (by rw [hd]; exact Bool.false_ne_true)]
  refine wpAny_bind (wpAny_pure ?_)
  refine wpAny_bind (wpAny_setEpoch_of ha rfl In.fits ?_)
  refine wpAny_bind (wpAny_newObj_type (wpAny_pure ⟨_, rfl, "set_iterator", _, ⟨_, Heap.get?_push_size _ rfl, rfl⟩, slot_setiter_next.lookup, h ⟨⟨0, Heap.get?_push_size _ rfl, fun _ => ?_⟩, Heap.get?_push_of_some _ ha⟩⟩))
  have asc : t.place.toList.Pairwise (· < ·) := In.place ▸ In.asc
  obtain ⟨b1, b2, b3⟩ := below_spec t.place 0 asc
  rcases Nat.eq_zero_or_pos (below t.place 0) with q | q
  · exact q
  · have h0 : 0 < t.place.size := by omega
    have := b2 0 t.place[0] q (Array.getElem?_eq_getElem h0)
    omega

theorem items_perm {acc : Array Value} (hacc : ItemsOf (fun i v => ((ordOf w a ep es)[i]?).map (·.2) = some v) acc es.size) : acc.toList = (ordOf w a ep es).toList.map (·.2) := by
  have hsz : (ordOf w a ep es).size = es.size := by
    have := (ord_perm w a ep es).length_eq
    rwa [Array.length_toList, Array.length_toList] at this
  apply List.ext_getElem?
  intro i
  rw [List.getElem?_map, Array.getElem?_toList, Array.getElem?_toList]
  by_cases hi : i < acc.size
  · rw [Array.getElem?_eq_getElem hi]
    exact (hacc.2 i acc[i] (Array.getElem?_eq_getElem hi)).symm
  · rw [Array.getElem?_eq_none (by omega), Array.getElem?_eq_none (by rw [hsz, ← hacc.1]; omega)]
    rfl
theorem ints_perm : ∀ {us vs : List Value} {ns : List Int}, us.Perm vs → IntsAre vs ns → ∃ ms, IntsAre us ms ∧ ms.Perm ns := by
  intro us vs ns p
  induction p generalizing ns with
  | nil => intro h; cases h; exact ⟨[], .nil, .refl _⟩
  | cons x _ ih =>
    intro h
    cases h with
    | cons n t hr =>
      obtain ⟨ms, h1, h2⟩ := ih hr
      exact ⟨n :: ms, .cons n t h1, h2.cons n⟩
  | swap x y l =>
    intro h
    cases h with
    | cons n t hr =>
      cases hr with
      | cons n' t' hr => exact ⟨n' :: n :: _, .cons n' t' (.cons n t hr), List.Perm.swap _ _ _⟩
  | trans _ _ ih1 ih2 =>
    intro h
    obtain ⟨ms, h1, h2⟩ := ih2 h
    obtain ⟨ms', h1', h2'⟩ := ih1 h1
    exact ⟨ms', h1', h2'.trans h2⟩

/-- all the items of a set, in some order -/
theorem collect8 {o : Obj} {Q : List Value → Shared → Prop} (hh : A.handled = none) (ha : s.heap.get? a = some o) (hS : IsSet8 (ledOf w) ks o)
    (h : ∀ h' tk vs ns, s.heap.objs.size ≤ h'.objs.size → IntsAre vs ns → ns.Perm (ks.map fun k : Nat => (k : Int)) → vs.length ≤ 8 → (∀ b x, s.heap.get? b = some x → h'.get? b = some x) → Q vs { s with heap := h', toks := tk }) :
    wpAny (model prog w) A (collect (.ref a)) Q E s := by
  obtain ⟨es, ep, t, rfl, In⟩ := hS
  unfold collect
  refine wpAny_bind (wpAny_runValue (codeAny_builtin PySem.F.entry_proto_collect ?_))
  rw [Around.under_plainId PySem.F.plain_proto_collect _]
  show wpAny _ A.in1 (newList [] >>= fun l => again (.builtin "list.__iadd__" ⟨[l, .ref a], []⟩)) _ _ s
  refine wpAny_bind (wpAny_newObj_type ?_)
  refine wpAny_pure ⟨plainId_quiet PySem.F.plain_list_iadd _, codeAny_builtin PySem.F.entry_list_iadd ?_⟩
  rw [Around.under_plainId PySem.F.plain_list_iadd _]
  generalize hs₁ : ({ s with heap := s.heap.push { cls := .type "list", data := .seq ([] : List Value).toArray } } : Shared) = s₁
  have hlt : a < s.heap.objs.size := Heap.lt_size ha
  have ha₁ : s₁.heap.get? a = some (setObj es ep t) := by rw [← hs₁]; exact Heap.get?_push_of_some _ ha
  have hL₁ : s₁.heap.get? s.heap.objs.size = some { cls := .type "list", data := .seq ([] : List Value).toArray } := by rw [← hs₁]; exact Heap.get?_push_size _ rfl
  have hsz₁ : s₁.heap.objs.size = s.heap.objs.size + 1 := by rw [← hs₁]; exact Heap.size_push _ _
  have hT₁ : s₁.TypeIs (.ref a) "set" := ⟨_, ha₁, rfl⟩
  show wpAny _ A.in1 (Builtin.List.listExtendWith (.ref s.heap.objs.size) (.ref a) (.ref s.heap.objs.size)) _ _ _
  unfold Builtin.List.listExtendWith
  refine wpAny_bind (wpAny_typeOf hT₁ ?_)
  have h1 : Builtin.List.listSameRef (.ref s.heap.objs.size) (.ref a) = false := by simp [Builtin.List.listSameRef, Nat.ne_of_gt hlt]
  have h2 : (Value.type "set" == Value.type "list") = false := by decide
  have h3 : (Value.type "set" == Value.type "tuple") = false := by decide
  simp only [h1, h2, h3, Bool.or_false, Bool.false_eq_true, if_false]
  refine wpAny_bind (iter8 ha₁ In fun hst => ?_)
  refine wpAny_bind (wpAny_holding ?_)
  have hT₂ : Shared.TypeIs { s₁ with heap := s₁.heap.push (itObj 0 0 (.ref a) es.size ep) } (.ref a) "set" := ⟨_, Heap.get?_push_of_some _ ha₁, rfl⟩
  unfold Builtin.List.listLengthHint
  refine wpAny_bind (wpAny_specialOf hT₂ PySem.F.slot_set_len.lookup ?_)
  have hsp : splitId "set.__len__" = some ("set", "__len__") := by decide +kernel
  dsimp only
  rw [hsp]
  dsimp only
  refine wpAny_bind (wpAny_isInstance hT₂ PySem.sub_set_self ?_)
  rw [if_neg (by decide)]
  rw [if_pos (by decide +kernel)]
  refine wpAny_bind (wpAny_typeOf hT₂ ?_)
  refine wpAny_pure ?_
  rw [if_pos (by decide +kernel)]
  refine wpAny_bind (wpAny_rule ?_)
  generalize hs₂ : ({ s₁ with heap := s₁.heap.push (itObj 0 0 (.ref a) es.size ep) } : Shared) = s₂ at hT₂
  have hst₂ : ItAt w s₁.heap.objs.size a es ep t 0 s₂.heap := by rw [← hs₂]; exact hst
  have hL₂ : s₂.heap.get? s.heap.objs.size = some { cls := .type "list", data := .seq ([] : List Value).toArray } := by rw [← hs₂]; exact Heap.get?_push_of_some _ hL₁
  have hsz₂ : s₂.heap.objs.size = s.heap.objs.size + 1 + 1 := by rw [← hs₂, ← hsz₁]; exact Heap.size_push _ _
  refine wpAny_bind ?_
  show wpAny _ A.in1 (updateSeq s.heap.objs.size (·.push .none) >>= fun _ => updateSeq s.heap.objs.size (·.pop)) _ _ _
  refine wpAny_bind (wpAny_updateSeq hL₂ rfl ?_)
  have hL₃ := Heap.get?_update_self (Obj.mapSeq (·.push Value.none)) hL₂ rfl
  refine wpAny_updateSeq hL₃ rfl ?_
  have hL₄ := Heap.get?_update_self (Obj.mapSeq (·.pop)) hL₃ rfl
  have oth : ∀ b o, b ≠ s.heap.objs.size → s₂.heap.get? b = some o →
      ((s₂.heap.update s.heap.objs.size (Obj.mapSeq (·.push Value.none))).update s.heap.objs.size (Obj.mapSeq (·.pop))).get? b = some o :=
    fun b o hb e => (Heap.get?_update_other _ _ (Ne.symm hb)).trans ((Heap.get?_update_other _ _ (Ne.symm hb)).trans e)
  have hneI : a ≠ s₁.heap.objs.size := by rw [hsz₁]; exact Nat.ne_of_lt (Nat.lt_succ_of_lt hlt)
  have hSf : s.heap.objs.size ∉ [s₁.heap.objs.size, a] := by
    rw [hsz₁]; simp only [List.mem_cons, List.not_mem_nil, or_false, not_or]
    exact ⟨Nat.ne_of_lt (Nat.lt_succ_self _), Nat.ne_of_gt hlt⟩
  have hn8 : es.size ≤ 8 := by rw [In.size]; exact In.len8
  refine wpAny_pure ⟨plainId_quiet PySem.F.plain_extend_loop _, codeAny_extend_loopS ((walks8 (A := A.in1) (by simp [hh]) hneI In).toS) (by rw [sizeLine_eq]; omega) s.heap.objs.size hSf (.ref s.heap.objs.size) es.size 0 _ _ _ rfl (Nat.zero_le _)
    ((walks8 (prog := prog) (A := A.in1) (by simp [hh]) hneI In).frame 0 s₂.heap _ hst₂ fun b hb o e => oth b o (fun q => hSf (q ▸ hb)) e) hL₄ (ItemsOf.nil _) fun s' acc' c' hm hS' hacc => ?_⟩
  show wpAny _ A (load s.heap.objs.size >>= _) _ _ s'
  refine wpAny_bind (wpAny_load hS' ?_)
  refine wpAny_pure ?_
  obtain ⟨h', g', d', tk', os'⟩ := s'
  have eg : g' = s₂.gens := hm.gens
  have ed : d' = s₂.drawn := hm.drawn
  have eo : os' = s₂.os := hm.os
  subst eg; subst ed; subst eo
  obtain ⟨ns, hI, hp⟩ := ints_perm (us := acc'.toList) (by rw [items_perm hacc]; exact (ord_perm w a ep es).map _) In.ents.intsAre
  have keep : ∀ b x, s.heap.get? b = some x → h'.get? b = some x := fun b x e => by
    have hb := Heap.lt_size e
    have e₂ : s₂.heap.get? b = some x := by rw [← hs₂, ← hs₁]; exact Heap.get?_push_of_some _ (Heap.get?_push_of_some _ e)
    refine hm.heap b x ?_ (oth b x (Nat.ne_of_lt hb) e₂)
    rw [hsz₁]
    simp only [List.mem_cons, List.not_mem_nil, or_false, not_or]
    exact ⟨Nat.ne_of_lt hb, Nat.ne_of_lt (Nat.lt_succ_of_lt hb)⟩
  have hge : s.heap.objs.size ≤ h'.objs.size := Nat.le_of_lt (Heap.lt_size hS')
  have := h h' tk' acc'.toList ns hge hI hp (by rw [Array.length_toList, hacc.1]; exact hn8) keep
  rw [← hs₂, ← hs₁]
  exact this
end

end
local macro_rules | `(tactic| walk_at "no such key") => `(tactic| skip)
local macro_rules | `(tactic| walk_at "no such key") => `(tactic| skip)
local macro_rules | `(tactic| walk_at "no such key") => `(tactic| skip)
local macro_rules | `(tactic| walk_at "no such key") => `(tactic| skip)
local macro_rules | `(tactic| walk_at "no such key") => `(tactic| skip)
local macro_rules | `(tactic| walk_at "no such key") => `(tactic| skip)

section
open SetTable
section
variable {prog : Program} {w : World} {A : Around} {E : Value → Shared → Prop} {s : Shared} {ks : List Nat} {a : Addr} {o : Obj}
theorem asc_int {ks : List Nat} (h : ks.Pairwise (· < ·)) : (ks.map fun k : Nat => (k : Int)).Pairwise (· ≤ ·) := by
  rw [List.pairwise_map]
  exact h.imp fun h => by omega
theorem sorted_eq : ∀ {xs ys : List Int}, xs.Perm ys → xs.Pairwise (· ≤ ·) → ys.Pairwise (· ≤ ·) → xs = ys
  | [], [], _, _, _ => rfl
  | [], y :: ys, p, _, _ => by have := p.length_eq; simp at this
  | x :: xs, [], p, _, _ => by have := p.length_eq; simp at this
  | x :: xs, y :: ys, p, hx, hy => by
    obtain ⟨h1, h2⟩ := List.pairwise_cons.mp hx
    obtain ⟨h3, h4⟩ := List.pairwise_cons.mp hy
    have e : x = y := by
      have a1 : x ≤ y := by
        rcases List.mem_cons.mp (p.mem_iff.mpr (.head _ : y ∈ y :: ys)) with e | e
        · omega
        · exact h1 y e
      have a2 : y ≤ x := by
        rcases List.mem_cons.mp (p.mem_iff.mp (.head _ : x ∈ x :: xs)) with e | e
        · omega
        · exact h3 x e
      omega
    subst e
    rw [sorted_eq (List.Perm.cons_inv p) h2 h4]

/-- sorted(a) of a set of small ints -/
theorem sorted8 {Q : Value → Shared → Prop} (hh : A.handled = none) (ha : s.heap.get? a = some o) (hS : IsSet8 (ledOf w) ks o)
    (h : ∀ h' tk l vs e, s.heap.objs.size ≤ l → h'.get? l = some (seqObj "list" vs.toArray e) → IntsAre vs (ks.map fun k : Nat => (k : Int)) → (∀ b x, s.heap.get? b = some x → h'.get? b = some x) → Q (.ref l) { s with heap := h', toks := tk }) :
    wpAny (model prog w) A (call (.builtin "sorted") [.ref a]) Q E s := by
  obtain ⟨es, ep, t, rfl, In⟩ := hS
  refine Calls.call_function_entry kind_sorted plain_sorted entry_sorted (args_sorted1 _) ?_
  unfold Builtin.«sorted»
  refine wpAny_bind (m := checkCount "sorted" 1 1 _) (wpAny_pure ?_)
  refine wpAny_bind (collect8 (by simp [hh]) ha ⟨es, ep, t, rfl, In⟩ fun h₁ tk₁ vs ns hge hI hp h8 keep => ?_)
  refine wpAny_bind (wpAny_newList ?_)
  have hoL : (h₁.push (seqObj "list" vs.toArray 0)).get? h₁.objs.size = some (seqObj "list" vs.toArray 0) := Heap.get?_push_size _ rfl
  refine wpAny_bind (wpAny_holding (wpAny_call_entry slot_list_sort ⟨_, hoL, rfl⟩ entry_list_sort (list_sort_tree hoL hI (by omega) fun out ns' a1 a2 a3 => ⟨_, rfl, ?_⟩) (args_list_sort _)))
  obtain ⟨e, he⟩ := sortedHeap_at (out := out) hoL
  have en : ns' = ks.map fun k : Nat => (k : Int) := sorted_eq (a2.trans hp) a3 (asc_int In.asc)
  refine wpAny_pure ⟨_, rfl, h _ tk₁ h₁.objs.size out.toList e hge he (en ▸ a1) fun b x ex => ?_⟩
  have hb := Heap.lt_size (keep b x ex)
  refine (sortedHeap_old (h := h₁.push (seqObj "list" vs.toArray 0)) (Nat.ne_of_lt hb) (by rw [size_push']; exact Nat.lt_succ_of_lt hb)).trans ?_
  exact Heap.get?_push_of_some _ (keep b x ex)

/-- set(a) of a set of small ints -/
theorem call_set_set8 {Q : Value → Shared → Prop} (hh : A.handled = none) (ha : s.heap.get? a = some o) (hS : IsSet8 (ledOf w) ks o)
    (h : ∀ h' o', h'.get? s.heap.objs.size = some o' → IsSet8 (ledOf w) ks o' → (∀ b x, s.heap.get? b = some x → h'.get? b = some x) → Q (.ref s.heap.objs.size) { s with heap := h' }) :
    wpAny (model prog w) A (call (.type "set") [.ref a]) Q E s := by
  refine call_set8 hh fun A' E' hA' => ?_
  generalize hs₁ : ({ s with heap := s.heap.push (setObj #[] 0 (.fresh 0 0 (ledOf w))) } : Shared) = s₁
  have hg : s₁.heap.get? s.heap.objs.size = some (setObj #[] 0 (.fresh 0 0 (ledOf w))) := by rw [← hs₁]; exact Heap.get?_push_size _ rfl
  have up : ∀ b x, s.heap.get? b = some x → s₁.heap.get? b = some x := fun b x e => by rw [← hs₁]; exact Heap.get?_push_of_some _ e
  have ha₁ := up _ _ ha
  have hlt := Heap.lt_size ha
  unfold Builtin.Frozenset.updateFrom
  refine wpAny_bind ?_
  unfold Builtin.Frozenset.isAnySet
  refine wpAny_bind (wpAny_isInstance (typeIs8 ha₁ hS) PySem.sub_set_self ?_)
  refine wpAny_pure ?_
  rw [if_pos rfl]
  refine wpAny_bind ?_
  show wpAny _ _ (pure a) _ _ _
  refine wpAny_pure ?_
  unfold Builtin.Frozenset.merge
  have hS' := hS
  obtain ⟨es, ep, t, rfl, In⟩ := hS
  refine wpAny_bind (wpAny_setEpoch_of ha₁ rfl In.fits ?_)
  refine merge8 (s := s₁) (Nat.ne_of_gt hlt) ha₁ hS' hg fun h' o' hsb ho' hS'' => ?_
  have := h h' o' ho' hS'' fun b x e => (hsb.2 b (Nat.ne_of_lt (Heap.lt_size e))).trans (up b x e)
  rw [← hs₁]
  exact this
end

end
local macro_rules | `(tactic| walk_at "no such key") => `(tactic| skip)
local macro_rules | `(tactic| walk_at "no such key") => `(tactic| skip)
local macro_rules | `(tactic| walk_at "no such key") => `(tactic| skip)
local macro_rules | `(tactic| walk_at "no such key") => `(tactic| skip)
local macro_rules | `(tactic| walk_at "no such key") => `(tactic| skip)
local macro_rules | `(tactic| walk_at "no such key") => `(tactic| skip)

section
def hasZ (ks : List Nat) (k : Int) : Bool := decide (∃ n ∈ ks, k = ((n : Nat) : Int))
theorem hasZ_iff {ks : List Nat} {k : Int} : hasZ ks k = true ↔ ∃ n ∈ ks, k = ((n : Nat) : Int) := by unfold hasZ; exact decide_eq_true_iff
theorem hasZ_nat {ks : List Nat} {k : Nat} : hasZ ks (k : Int) = true ↔ k ∈ ks := by
  rw [hasZ_iff]
  constructor
  · rintro ⟨n, hn, e⟩
    have : k = n := by omega
    exact this ▸ hn
  · exact fun h => ⟨k, h, rfl⟩
section
variable {prog : Program} {w : World} {A : Around} {E : Value → Shared → Prop} {s : Shared} {h₀ : Heap} {L a l : Addr} {m : Str → Option Value} {news : List (Addr × Obj)} {ks : List Nat} {o : Obj} {n : Nat} {vs : List Value}
theorem list_to_set {Q : Value → Shared → Prop} (hh : A.handled = none) (F : Fr h₀ L s.heap m) (N : News h₀ L s.heap news) (hm : (l, listOf vs.toArray n) ∈ news) (hi : IntsAre vs (ks.map fun k : Nat => (k : Int))) (h8 : ∀ k ∈ ks, k < 8)
    (h : ∀ D h' o tk, Fr h₀ L h' m → News h₀ L h' ((D, o) :: news) → (∀ p ∈ news, p.1 < D) → IsSet8 (ledOf w) (addsK (fun i => ks.getD i 0) [] ks.length) o → Q (.ref D) { s with heap := h', toks := tk }) :
    wpAny (model prog w) A (call (.type "set") [.ref l]) Q E s :=
  call_set_list8 hh (N.isList hm) hi h8 fun h' tk o ho hS keep => h _ h' o tk (F.kept keep) (News.kept_cons F N keep (Nat.le_refl _) ho) (fun p hp => Heap.lt_size (N p hp).1) hS
theorem set_to_set {Q : Value → Shared → Prop} (hh : A.handled = none) (F : Fr h₀ L s.heap m) (N : News h₀ L s.heap news) (hm : (a, o) ∈ news) (hS : IsSet8 (ledOf w) ks o)
    (h : ∀ D h' o', Fr h₀ L h' m → News h₀ L h' ((D, o') :: news) → (∀ p ∈ news, p.1 < D) → IsSet8 (ledOf w) ks o' → Q (.ref D) { s with heap := h' }) :
    wpAny (model prog w) A (call (.type "set") [.ref a]) Q E s :=
  call_set_set8 hh (N _ hm).1 hS fun h' o' ho hS' keep => h _ h' o' (F.kept keep) (News.kept_cons F N keep (Nat.le_refl _) ho) (fun p hp => Heap.lt_size (N p hp).1) hS'
theorem set_sorted {Q : Value → Shared → Prop} (hh : A.handled = none) (F : Fr h₀ L s.heap m) (N : News h₀ L s.heap news) (hm : (a, o) ∈ news) (hS : IsSet8 (ledOf w) ks o)
    (h : ∀ D h' tk vs e, Fr h₀ L h' m → News h₀ L h' ((D, listOf vs.toArray e) :: news) → (∀ p ∈ news, p.1 < D) → IntsAre vs (ks.map fun k : Nat => (k : Int)) → Q (.ref D) { s with heap := h', toks := tk }) :
    wpAny (model prog w) A (call (.builtin "sorted") [.ref a]) Q E s :=
  sorted8 hh (N _ hm).1 hS fun h' tk D vs e hge hl hI keep => h D h' tk vs e (F.kept keep) (News.kept_cons F N keep hge hl) (fun p hp => Nat.lt_of_lt_of_le (Heap.lt_size (N p hp).1) hge) hI
theorem set_len8 (hS : IsSet8 (ledOf w) ks o) : ks.length < scanBound := by
  obtain ⟨es, ep, t, rfl, In⟩ := hS
  have := In.len8
  unfold scanBound
  omega
theorem set_in {k : Int} {t : Tok} {Q : Value → Shared → Prop} (N : News h₀ L s.heap news) (hm : (a, o) ∈ news) (hS : IsSet8 (ledOf w) ks o) (h : Q (.bool (hasZ ks k)) { s with toks := s.toks + 1 }) :
    wpAny (model prog w) A (compareOp .In (.int k t) (.ref a)) Q E s :=
  wpAny_inSet_of (knd := intKind prog w) (intKind_is _ _ _ _) rfl (hS.setObjOf.setOf (N _ hm).1 (set_len8 hS)) h
theorem set_notin {k : Int} {t : Tok} {Q : Value → Shared → Prop} (N : News h₀ L s.heap news) (hm : (a, o) ∈ news) (hS : IsSet8 (ledOf w) ks o) (h : Q (.bool (!hasZ ks k)) { s with toks := s.toks + 1 }) :
    wpAny (model prog w) A (compareOp .NotIn (.int k t) (.ref a)) Q E s :=
  wpAny_notInSet_of (knd := intKind prog w) (intKind_is _ _ _ _) rfl (hS.setObjOf.setOf (N _ hm).1 (set_len8 hS)) h
theorem set_addMeth {pl : Sem Bool} {Q : Value × List Value → Shared → Prop} (N : News h₀ L s.heap news) (hm : (a, o) ∈ news) (hS : IsSet8 (ledOf w) ks o) (h : Q (.builtin "set.add", [.ref a]) s) :
    wpAny (model prog w) A (getMethod (.ref a) "add" pl) Q E s :=
  getMethod_set_add (knd := intKind prog w) (hS.setObjOf.setOf (N _ hm).1 (set_len8 hS)) h
theorem set_add {k : Nat} {z : Int} {t : Tok} {g : Obj → List (Addr × Obj)} {Q : Value → Shared → Prop} (F : Fr h₀ L s.heap m) (N : News h₀ L s.heap news) (U : UpdF a o news g) (hS : IsSet8 (ledOf w) ks o) (hz : z = (k : Int)) (hk : k < 8)
    (h : ∀ h' o', Fr h₀ L h' m → News h₀ L h' (g o') → IsSet8 (ledOf w) (addK ks k) o' → Q .none { s with heap := h', toks := s.toks + 1 }) :
    wpAny (model prog w) A (call (.builtin "set.add") [.ref a, .int z t]) Q E s := by
  subst hz
  obtain ⟨pre, post, rfl, hg, h1, h2⟩ := U.split
  have z := N (a, o) (List.mem_append.mpr (.inr (.head _)))
  exact call_add8 z.1 hS hk fun h' o' hsb ho hS' => h h' o' (F.change hsb z.2.1 z.2.2) (hg o' ▸ News.setAt N h1 h2 hsb ho) hS'
end

end
local macro_rules | `(tactic| walk_at "no such key") => `(tactic| skip)
local macro_rules | `(tactic| walk_at "no such key") => `(tactic| skip)
local macro_rules | `(tactic| walk_at "no such key") => `(tactic| skip)
local macro_rules | `(tactic| walk_at "no such key") => `(tactic| skip)
local macro_rules | `(tactic| walk_at "no such key") => `(tactic| skip)
local macro_rules | `(tactic| walk_at "no such key") => `(tactic| skip)

section
section
open PySem.Calls
variable {prog : Program} {w : World} {A : Around} {E : Value → Shared → Prop} {s : Shared} {K : Frag} {x C L f : Addr} {h₀ : Heap} {m : Str → Option Value} {ox : Obj} {od : Option Obj}
/-- abs of an instance of a class of the text's own -/
theorem abs_own {Q : Value → Shared → Prop} (F : Fr h₀ L s.heap m) (X₀ : K.In h₀) (I : InstAt s.heap x ox C od) (hs : findIn K (.ref C) "__abs__" = some (some (.ref f))) (hf : isFn K (.ref f) = true)
    (h : wpAny (model prog w) A.in1 (call (.ref f) [.ref x]) Q E s) : wpAny (model prog w) A (call (.builtin "abs") [.ref x]) Q E s := by
  refine Calls.call_function_entry kind_abs plain_abs entry_abs (args_abs _) ?_
  unfold Builtin.«abs»
  refine wpAny_bind (m := oneArg "abs" _) (wpAny_pure ?_)
  refine wpAny_bind (m := callSpecial? (.ref x) (Str.ofString "__abs__")) (special_fn (X₀.keeps F.keep) I hs (beq_iff_eq.mp hf) (wpAny_mono h (fun r s' hr => ?_) fun _ _ y => y))
  exact wpAny_pure ⟨_, rfl, hr⟩
/-- round of what has no __round__ -/
theorem round_miss {Q : Value → Shared → Prop} {v : Value} {T : String} (hT : s.TypeIs v T) (hl : typeLookup (.type T) (Str.ofString "__round__") = pure none) (hn : (Value.type T == Value.type "builtin_function_or_method") = false)
    (hm : ((toString "type " ++ toString (shownName T) ++ toString " doesn't define __round__ method" : String) : Str).length ≤ sizeLine) (hh : A.handled = none)
    (h : ∀ h' tk e, Heap.NewExc s.heap h' e "TypeError" → E (.ref e) { s with heap := h', toks := tk }) :
    wpAny (model prog w) A (call (.builtin "round") [v]) Q E s := by
  refine call_function_entry pv_kind_round pv_plain_round pv_entry_round (pv_args_round _) ?_
  unfold Builtin.«round»
  refine wpAny_bind (wpAny_pure ?_)
  dsimp only
  refine wpAny_bind (wpAny_callSpecial?_none hT hl ?_)
  dsimp only
  refine wpAny_bind (wpAny_rule ?_)
  refine wpAny_bind (wpAny_typeNameOf' hT hn ?_)
  exact wpAny_raiseErrorMade plainExc_TypeError hh h hm
theorem rl_str : typeLookup (.type "str") (Str.ofString "__round__") = pure none := by rw [typeLookup_type, builtinLookup_eq_fast]; kernel_rfl
theorem rl_list : typeLookup (.type "list") (Str.ofString "__round__") = pure none := by rw [typeLookup_type, builtinLookup_eq_fast]; kernel_rfl
theorem rl_none : typeLookup (.type "NoneType") (Str.ofString "__round__") = pure none := by rw [typeLookup_type, builtinLookup_eq_fast]; kernel_rfl
theorem rm_str : ((toString "type " ++ toString (shownName "str") ++ toString " doesn't define __round__ method" : String) : Str).length ≤ sizeLine := by size_fits
theorem rm_list : ((toString "type " ++ toString (shownName "list") ++ toString " doesn't define __round__ method" : String) : Str).length ≤ sizeLine := by size_fits
theorem rm_none : ((toString "type " ++ toString (shownName "NoneType") ++ toString " doesn't define __round__ method" : String) : Str).length ≤ sizeLine := by size_fits
theorem round_str {Q : Value → Shared → Prop} {y : Str} {t : Tok} (hh : A.handled = none) (h : ∀ h' tk e, Heap.NewExc s.heap h' e "TypeError" → E (.ref e) { s with heap := h', toks := tk }) :
    wpAny (model prog w) A (call (.builtin "round") [.str y t]) Q E s := round_miss (typeIs_str _ _ _) rl_str (by decide) rm_str hh h
theorem round_none {Q : Value → Shared → Prop} (hh : A.handled = none) (h : ∀ h' tk e, Heap.NewExc s.heap h' e "TypeError" → E (.ref e) { s with heap := h', toks := tk }) :
    wpAny (model prog w) A (call (.builtin "round") [.none]) Q E s := round_miss (T := "NoneType") rfl rl_none (by decide) rm_none hh h
theorem round_list {Q : Value → Shared → Prop} {l : Addr} {items : Array Value} (hh : A.handled = none) (hl : s.heap.IsList l items) (h : ∀ h' tk e, Heap.NewExc s.heap h' e "TypeError" → E (.ref e) { s with heap := h', toks := tk }) :
    wpAny (model prog w) A (call (.builtin "round") [.ref l]) Q E s := round_miss hl.typeIs rl_list (by decide) rm_list hh h
end

end
local macro_rules | `(tactic| walk_at "no such key") => `(tactic| skip)
local macro_rules | `(tactic| walk_at "no such key") => `(tactic| skip)
local macro_rules | `(tactic| walk_at "no such key") => `(tactic| skip)
local macro_rules | `(tactic| walk_at "no such key") => `(tactic| skip)
local macro_rules | `(tactic| walk_at "no such key") => `(tactic| skip)
local macro_rules | `(tactic| walk_at "no such key") => `(tactic| skip)

section
section
variable {prog : Program} {w : World} {A : Around} {E : Value → Shared → Prop} {s : Shared} {K : Frag} {x C C2 L f : Addr} {h₀ : Heap} {m : Str → Option Value} {ox : Obj} {od : Option Obj} {cd cd2 : ClassData} {rest : List Value}
/-- a class of the text's own, of plain base, that has neither the operator nor its mirror -/
theorem fills_no {M : Model} {h : Heap} {nm : String} (X : K.In h) (hc : clsIn K C = some cd) (hm : cd.mro = [.ref C, .type "object"]) (h1 : findIn K (.ref C) (PySem.dunder nm) = some none) (h2 : findIn K (.ref C) (dunderR nm) = some none)
    (h3 : findIn K (.type "object") (PySem.dunder nm) = some none) (h4 : findIn K (.type "object") (dunderR nm) = some none) : Looks M h (fillsNumberSlot (.ref C) nm) false := by
  intro A Q E s k q
  unfold fillsNumberSlot
  refine wpAny_bind ((looks_clsIn X hc).andThen (f := fun cd => pure cd.mro) .now A _ E s k ?_)
  rw [hm, List.anyM_cons]
  refine wpAny_bind ?_
  show wpAny M A (List.anyM _ [PySem.dunder nm, dunderR nm]) _ _ _
  rw [List.anyM_cons]
  refine wpAny_bind (wpAny_bind (looks_findIn X h1 A _ E s k ?_))
  dsimp only
  refine wpAny_pure ?_
  rw [if_neg Bool.false_ne_true, List.anyM_cons]
  refine wpAny_bind (wpAny_bind (looks_findIn X h2 A _ E s k ?_))
  dsimp only
  refine wpAny_pure ?_
  rw [if_neg Bool.false_ne_true, List.anyM_nil]
  refine wpAny_pure ?_
  rw [if_neg Bool.false_ne_true, List.anyM_cons]
  refine wpAny_bind ?_
  dsimp only
  refine wpAny_bind (looks_findIn X h3 A _ E s k ?_)
  refine wpAny_bind (looks_findIn X h4 A _ E s k ?_)
  refine wpAny_pure ?_
  show wpAny M A (if false = true then _ else _) _ _ _
  rw [if_neg Bool.false_ne_true, List.anyM_nil]
  exact wpAny_pure q
/-- an operator of the left instance's class, the right one's class having none -/
theorem binop_own2 {op : Operator} {b : Value} {Q : Value → Shared → Prop} (F : Fr h₀ L s.heap m) (X₀ : K.In h₀) (I : InstAt s.heap x ox C od) (hb : Looks (model prog w) s.heap (typeOf b) (.ref C2)) (hC : clsIn K C = some cd) (hM : cd.mro = .ref C :: rest)
    (hs : findIn K (.ref C) (PySem.dunder op.info.2) = some (some (.ref f))) (hf : isFn K (.ref f) = true) (hne : (Value.ref C == Value.ref C2) = false)
    (hc : clsIn K C2 = some cd2) (hm : cd2.mro = [.ref C2, .type "object"]) (h1 : findIn K (.ref C2) (PySem.dunder op.info.2) = some none) (h2 : findIn K (.ref C2) (dunderR op.info.2) = some none)
    (h3 : findIn K (.type "object") (PySem.dunder op.info.2) = some none) (h4 : findIn K (.type "object") (dunderR op.info.2) = some none)
    (h : wpAny (model prog w) A (call (.ref f) [.ref x, b]) (W.CmpBack Q) E s) : wpAny (model prog w) A (binaryOp op (.ref x) b) Q E s := by
  have X := X₀.keeps F.keep
  unfold binaryOp
  refine wpAny_holding (wpAny_bind ?_)
  unfold binaryOp1
  refine wpAny_bind (I.type.here (wpAny_bind (hb.here (wpAny_bind ((fills_K X hC hM hs).here ?_)))))
  simp only [hne, Bool.false_eq_true, if_false]
  refine wpAny_bind ((fills_no X hc hm h1 h2 h3 h4).here ?_)
  simp only [Bool.and_false, Bool.false_eq_true, if_false, Bool.false_and]
  refine wpAny_bind (wpAny_pure ?_)
  simp only [Bool.false_eq_true, if_false, if_true]
  refine wpAny_bind (m := tryMethod (.ref x) _ b) ?_
  unfold tryMethod
  refine wpAny_bind (special_fn X I hs (beq_iff_eq.mp hf) (wpAny_mono h (fun v s' hv => ?_) fun _ _ e => e))
  cases v <;> first | exact hv.elim | exact wpAny_pure (wpAny_pure (wpAny_pure hv))
end

end
local macro_rules | `(tactic| walk_at "no such key") => `(tactic| skip)
local macro_rules | `(tactic| walk_at "no such key") => `(tactic| skip)
local macro_rules | `(tactic| walk_at "no such key") => `(tactic| skip)
local macro_rules | `(tactic| walk_at "no such key") => `(tactic| skip)
local macro_rules | `(tactic| walk_at "no such key") => `(tactic| skip)
local macro_rules | `(tactic| walk_at "no such key") => `(tactic| skip)

section
section
variable {prog : Program} {w : World} {A₀ : Around} {E : Value → Shared → Prop} {s' : Shared} {base g h : Heap} {outer : List Env} {L a e : Addr} {m : Str → Option Value} {name : Str} {scope : Scope} {cd : Value}
  {hs : List ExceptHandler} {Q : Flow → Shared → Prop} {news : List (Addr × Obj)} {X : String}
/-- an exception raised in the frame that has the try -/
theorem noted_self (K : Below A₀ base outer g) (F : Fr g L h m) (N : News g L h news) (hx : Heap.NewExc h s'.heap e X)
    (k : ∀ G h', Fr g L G m → RaisedSN base G (envOf name scope L a cd :: outer) e (.type X) news h' → G.UpToSlots h' → wpAny (model prog w) (A₀.deeper (envOf name scope L a cd)) (handleBy (.ref e) (envOf name scope L a cd) hs) Q E { s' with heap := h' })
    (hk : scope.kind = .function := by rfl) :
    wpAny (model prog w) (A₀.deeper (envOf name scope L a cd)) (noteFrame (.ref e) (envOf name scope L a cd))
      (fun _ s₂ => wpAny (model prog w) (A₀.deeper (envOf name scope L a cd)) (setFlight (.ref e) none) (fun _ s₃ =>
        wpAny (model prog w) (A₀.deeper (envOf name scope L a cd)) (handleBy (.ref e) (envOf name scope L a cd) hs) Q E s₃) E s₂) E s' := by
  have K' := K.push (name := name) (a := a) (cd := cd) F hk
  have hin : ∀ env ∈ (envOf name scope L a cd :: outer), ∀ b, env.frame = some b → b ∈ (envOf name scope L a cd :: outer).filterMap (·.frame) := fun env he b hb => List.mem_filterMap.mpr ⟨env, he, hb⟩
  have st : base.StaysIn (hideAll h ((envOf name scope L a cd :: outer).filterMap (·.frame))) := fun b o q => hideAll_get _ (K'.stays b o q) fun hm => by
    rw [(K'.frames.mem hm).1] at q; cases q
  have sg : ∀ b o, (hideAll h (news.map (·.1))).get? b = some o → b ∉ (envOf name scope L a cd :: outer).filterMap (·.frame) → (hideAll h ((envOf name scope L a cd :: outer).filterMap (·.frame))).get? b = some o := fun b o q nm => hideAll_get _ (of_hideAll _ q) nm
  have hl : ∀ q ∈ news, (hideAll h ((envOf name scope L a cd :: outer).filterMap (·.frame))).get? q.1 = some q.2 ∧ (hideAll h (news.map (·.1))).get? q.1 = none ∧ base.get? q.1 = none := fun q hq => by
    refine ⟨hideAll_get _ (N q hq).1 fun hm => ?_, hideAll_none _ (List.mem_map_of_mem hq), fresh_of_stays K.stays (N q hq).2.2⟩
    obtain ⟨env, he, hf⟩ := List.mem_filterMap.mp hm
    rcases List.mem_cons.mp he with rfl | he
    · exact (N q hq).2.1 (Option.some.inj hf).symm
    · obtain ⟨o, ho, _⟩ := (K.frames.mem (List.mem_filterMap.mpr ⟨env, he, hf⟩)).2
      rw [(N q hq).2.2] at ho; cases ho
  have FG : Fr g L (hideAll h (news.map (·.1))) m := by
    obtain ⟨oL, es, ep, hL, hLd, hLk, hLf⟩ := F.ns
    refine ⟨⟨oL, es, ep, hideAll_get _ hL fun q => ?_, hLd, hLk, hLf⟩, fun b o q => hideAll_get _ (F.keep b o q) fun z => ?_, F.above⟩
    · obtain ⟨p, hp, e⟩ := List.mem_map.mp q
      exact (N p hp).2.1 e
    · obtain ⟨p, hp, e⟩ := List.mem_map.mp z
      have z' := (N p hp).2.2
      rw [e, q] at z'
      cases z'
  obtain ⟨ob, tp, he, hcls, hd⟩ := hx.there
  have hen : (hideAll h ((envOf name scope L a cd :: outer).filterMap (·.frame))).get? e = none := by
    cases q : (hideAll h ((envOf name scope L a cd :: outer).filterMap (·.frame))).get? e with
    | none => rfl
    | some o => have := of_hideAll _ q; rw [hx.new] at this; cases this
  unfold noteFrame
  simp only [show (envOf name scope L a cd).frame = some L from rfl]
  refine wpAny_bind (wpAny_field he hd (x := .none) rfl ?_)
  rw [if_neg (by decide)]
  refine wpAny_entryW (a0 := tp) (Around.frames_deeper K.stack) ((funFrames_hide K'.frames hin).of_keeps fun b o hb _ => ⟨o, hx.keeps b o hb, rfl⟩) rfl he (fun b o hb => hx.keeps b o (of_hideAll _ hb)) hen hd (by show 1 < 6; decide) rfl fun h' hN => ?_
  obtain ⟨k1, k2, k3, k4⟩ := hN
  refine wpAny_landsW (cls := .type X) (a0 := tp) ⟨k1, hen, k2, by rw [← hcls]; exact k3⟩ fun h₅ hfl hsm => ?_
  exact k _ h₅ FG ⟨_, tp, st, sg, hl, hfl⟩ ((((Heap.UpToSlots.of_keeps fun b o q => of_hideAll _ q).trans (Heap.UpToSlots.of_keeps hx.keeps)).trans k4).trans hsm)
end

end
local macro_rules | `(tactic| walk_at "no such key") => `(tactic| skip)
local macro_rules | `(tactic| walk_at "no such key") => `(tactic| skip)
local macro_rules | `(tactic| walk_at "no such key") => `(tactic| skip)
local macro_rules | `(tactic| walk_at "no such key") => `(tactic| skip)
local macro_rules | `(tactic| walk_at "no such key") => `(tactic| skip)
local macro_rules | `(tactic| walk_at "no such key") => `(tactic| skip)

section
section
variable {prog : Program} {w : World} {A : Around} {E : Value → Shared → Prop} {s : Shared}
theorem ga_miss : typeLookup (.type "NoneType") (Str.ofString "locale") = pure none := by rw [typeLookup_type, builtinLookup_eq_fast]; kernel_rfl
theorem ga_args (a b c : Value) : argsOk "getattr" ⟨[a, b, c], []⟩ := by unfold argsOk; kernel_rfl
theorem getBy_none {t : Tok} {Q : Value → Shared → Prop} (hA : A.handled = none)
    (h : ∀ h' tk e, Heap.NewExcOf s.heap h' e "AttributeError" → E (.ref e) { s with heap := h', toks := tk }) :
    wpAny (model prog w) A (getAttrBy .none (.str (Str.ofString "locale") t) false) Q E s := by
  obtain ⟨hp, g, d, tk, os⟩ := s
  have hT : ∀ s' : Shared, s'.TypeIs (.none) "NoneType" := fun _ => rfl
  have f1 := sub_AttributeError
  have f3 := F.slot_NoneType_getattribute.lookup
  have f4 := F.slot_NoneType_getattribute.bind (.none)
  have f5 := am_none_getattr_none
  unfold getAttrBy
  repeat (any_goals (first | assumption | ((with_reducible show wpAny _ _ (call (Value.builtin "object.__getattribute__") _ _) _ _ _); refine call_meets F.slot_NoneType_getattribute (hT _) F.entry_object_getattribute (F.args_object_getattribute_2 _ _) (meets_getattribute_miss_none (Str.ofString "locale") _ ga_miss (by size_fits)) ⟨hA, fun h' tk' e hx => ?_⟩) | wp_step))
  obtain ⟨t', u', he⟩ := hx.there
  show wpAny _ _ (getattributeRaised _ _ _ _ _ _ _) _ _ _
  unfold getattributeRaised
  repeat (any_goals (first | assumption | wp_step))
  exact h _ _ _ hx.of
theorem getattr3_none {t : Tok} {Q : Value → Shared → Prop} (hA : A.handled = none) (h : ∀ h' tk, (∀ b o, s.heap.get? b = some o → h'.get? b = some o) → Q .none { s with heap := h', toks := tk }) :
    wpAny (model prog w) A (call (.builtin "getattr") [.none, .str (Str.ofString "locale") t, .none]) Q E s := by
  refine Calls.call_function_entry KB.kind_getattr KB.plain_getattr KB.entry_getattr (ga_args _ _ _) ?_
  unfold Builtin.«getattr»
  refine wpAny_bind (wpAny_of_eq (a := [.none, .str (Str.ofString "locale") t, .none]) (by first | rfl | kernel_rfl) ?_)
  dsimp only
  refine wpAny_bind (wpAny_of_eq (a := ()) (by first | rfl | kernel_rfl) ?_)
  refine wpAny_bind (wpAny_of_eq (a := none) (by first | rfl | kernel_rfl) ?_)
  dsimp only
  refine wpAny_bind (wpAny_of_eq (a := 0) (by first | rfl | kernel_rfl) ?_)
  rw [if_neg (by decide)]
  refine wpAny_bind ?_
  unfold getAttrBy?
  refine wpAny_bind (wpAny_attempt (getBy_none hA fun h' tk e hx => ?_))
  dsimp only
  obtain ⟨ob, vs, hob, hcls, _, _⟩ := hx.there
  refine wpAny_bind (wpAny_isInstance (T := "AttributeError") ⟨ob, hob, hcls⟩ sub_AttributeError ?_)
  rw [if_pos rfl]
  refine wpAny_pure ?_
  dsimp only
  rw [if_neg (by decide)]
  exact wpAny_pure ⟨_, rfl, h _ _ hx.keeps⟩
theorem getattr_K {t : Tok} {Q : Value → Shared → Prop} {h₀ : Heap} {L : Addr} {m : Str → Option Value} {news : List (Addr × Obj)} (hA : A.handled = none) (F : Fr h₀ L s.heap m) (N : News h₀ L s.heap news)
    (h : ∀ h' tk, Fr h₀ L h' m → News h₀ L h' news → Q .none { s with heap := h', toks := tk }) :
    wpAny (model prog w) A (call (.builtin "getattr") [.none, .str (Str.ofString "locale") t, .none]) Q E s :=
  getattr3_none hA fun h' tk k => by
    obtain ⟨oL, es, ep, hL, hLd, hLk, hLf⟩ := F.ns
    exact h h' tk ⟨⟨oL, es, ep, k _ _ hL, hLd, hLk, hLf⟩, fun b o e => k b o (F.keep b o e), F.above⟩ fun p hp => ⟨k _ _ (N p hp).1, (N p hp).2⟩
end

end
local macro_rules | `(tactic| walk_at "no such key") => `(tactic| skip)
local macro_rules | `(tactic| walk_at "no such key") => `(tactic| skip)
local macro_rules | `(tactic| walk_at "no such key") => `(tactic| skip)
local macro_rules | `(tactic| walk_at "no such key") => `(tactic| skip)
local macro_rules | `(tactic| walk_at "no such key") => `(tactic| skip)
local macro_rules | `(tactic| walk_at "no such key") => `(tactic| skip)

section
section
variable {prog : Program} {w : World} {A : Around} {E : Value → Shared → Prop} {s : Shared}
theorem none_type (s : Shared) : s.TypeIs .none "NoneType" := rfl
theorem hash_none {Q : Int → Shared → Prop} (h : Q 0xFCA86420 { s with toks := s.toks + 1 }) : wpAny (model prog w) A (pyHash .none) Q E s := by
  unfold pyHash pyHashByItsType
  have hv : [Value.none].any Value.onHeap = false := rfl
  refine wpAny_bind ?_
  rw [cRoomFor, if_neg (by rw [hv]; exact Bool.false_ne_true)]; refine wpAny_pure ?_
  refine wpAny_bind (wpAny_specialOf (none_type s) F.slot_NoneType_hash.lookup ?_)
  show wpAny _ _ (if (some (Value.builtin "NoneType.__hash__") == some Value.none) = true then _ else _) Q E s
  rw [if_neg (by decide)]
  refine wpAny_bind (wpAny_specialOf (none_type s) F.slot_NoneType_hash.lookup ?_)
  show wpAny _ _ (callSpecialIfBoundUnlessNone? .none "__hash__" _ >>= _) Q E s
  refine wpAny_bind (wpAny_callSpecialIfBoundUnlessNone?_slot (none_type s) F.slot_NoneType_hash
    (wpAny_call_entry F.slot_NoneType_hash (none_type s) F.entry_NoneType_hash
      (show wpAny _ _ (do ret (← mkInt 0xFCA86420)) _ _ s from wpAny_ret_mkInt ?_) (F.args_NoneType_hash_1 _)))
  show wpAny _ _ (if (decide (-(2 : Int) ^ 63 ≤ 0xFCA86420) && decide ((0xFCA86420 : Int) < 2 ^ 63)) = true then _ else _) Q E _
  rw [if_pos (by decide)]
  exact wpAny_pure h
theorem eqb_none_str {x : Str} {t : Tok} {Q : Bool → Shared → Prop} (h : Q false s) : wpAny (model prog w) A (eqBool .none (.str x t)) Q E s := by
  unfold eqBool
  refine wpAny_holding ?_
  rw [if_neg (fun e => by cases eq_of_beq e)]
  exact wpAny_bind (show wpAny (model prog w) _ (compareOp .Eq .none (.str x t)) _ E s from EqNone.eq_none_str (wpAny_truthy_bool h))
theorem eqb_str_none {x : Str} {t : Tok} {Q : Bool → Shared → Prop} (h : Q false s) : wpAny (model prog w) A (eqBool (.str x t) .none) Q E s := by
  unfold eqBool
  refine wpAny_holding ?_
  rw [if_neg (fun e => by cases eq_of_beq e)]
  exact wpAny_bind (show wpAny (model prog w) _ (compareOp .Eq (.str x t) .none) _ E s from EqNone.eq_str_none (wpAny_truthy_bool h))
theorem eqb_none_none {Q : Bool → Shared → Prop} (h : Q true s) : wpAny (model prog w) A (eqBool .none .none) Q E s := by
  unfold eqBool
  refine wpAny_holding ?_
  rw [if_pos (by decide)]
  exact wpAny_bind (wpAny_rule (wpAny_pure h))
end
def isOptStr : Option Str → Value → Bool
  | some x, v => Value.isStrOf x v
  | none, .none => true
  | none, _ => false
theorem isOptStr_none {v : Value} (h : isOptStr none v = true) : v = .none := by
  cases v <;> first | rfl | cases h
theorem isOptStr_some {x : Str} {v : Value} (h : isOptStr (some x) v = true) : ∃ t, v = .str x t := Value.isStrOf_shape h
/-- texts and None as keys -/
def optKind (prog : Program) (w : World) : KeyKind prog w (Option Str) where
  is := isOptStr
  hash := fun k => match k with | some x => hashStr w x | none => 0xFCA86420
  inj := fun v a b ha hb => by
    cases a with
    | none =>
      obtain rfl := isOptStr_none ha
      cases b with
      | none => rfl
      | some y => obtain ⟨t, e⟩ := isOptStr_some hb; cases e
    | some x =>
      obtain ⟨t, rfl⟩ := isOptStr_some ha
      cases b with
      | none => cases isOptStr_none hb
      | some y => obtain ⟨u, e⟩ := isOptStr_some hb; cases e; rfl
  byValue := fun k v h => by
    cases k with
    | none => obtain rfl := isOptStr_none h; rfl
    | some x => obtain ⟨t, rfl⟩ := isOptStr_some h; rfl
  pyHash := fun {A E s k v Q} hv h => by
    cases k with
    | none => obtain rfl := isOptStr_none hv; exact hash_none h
    | some x => obtain ⟨t, rfl⟩ := isOptStr_some hv; exact wpAny_pyHash_str h
  eqBool := fun {A E s a b u v Q} hu hv h => by
    cases a with
    | none =>
      obtain rfl := isOptStr_none hu
      cases b with
      | none => obtain rfl := isOptStr_none hv; exact eqb_none_none (by simpa using h)
      | some y => obtain ⟨t, rfl⟩ := isOptStr_some hv; exact eqb_none_str (by simpa using h)
    | some x =>
      obtain ⟨t, rfl⟩ := isOptStr_some hu
      cases b with
      | none => obtain rfl := isOptStr_none hv; exact eqb_str_none (by simpa using h)
      | some y => obtain ⟨t', rfl⟩ := isOptStr_some hv; exact wpAny_eqBool_str (by simpa using h)
  «strs» := fun k x t v h => by
    cases k with
    | none => cases isOptStr_none h
    | some y =>
      obtain ⟨u, hu⟩ := isOptStr_some h
      injection hu with hx
      subst hx
      cases v <;> rfl

section
variable {prog : Program} {w : World} {A : Around} {E : Value → Shared → Prop} {s : Shared} {h₀ : Heap} {L d : Addr} {m : Str → Option Value} {D : List (PyData × PyData)}
/-- d.get(None, dflt) of a table of texts -/
theorem get_none_tab {Q : Value → Shared → Prop} {dflt : Value} (F : Fr h₀ L s.heap m) (T : StrTab prog w h₀ d D) (h : Q dflt { s with toks := s.toks + 1 }) :
    wpAny (model prog w) A (call (.builtin "dict.get") [.ref d, .none, dflt]) Q E s := by
  obtain ⟨lo, kvs, ⟨o, es, ep, ho, hx, hd, hK, hP, hn⟩, hf⟩ := T
  have ho' := F.keep _ _ ho
  have hM : s.heap.MapOf (optKind prog w) d (findBy (optKind prog w).is es) := ⟨o, es, ep, ho', hx, hd, fun e he => by
    obtain ⟨k, h1, h2⟩ := hK e he
    exact ⟨some k, h1, h2⟩, fun _ => rfl⟩
  have hf : findBy (optKind prog w).is es none = none := by
    unfold findBy
    rw [Option.map_eq_none_iff, Array.find?_eq_none]
    intro e he
    obtain ⟨k, h1, _⟩ := hK e he
    obtain ⟨t, ht⟩ := Value.isStrOf_shape h1
    rw [ht]
    exact Bool.false_ne_true
  refine call_meetsIn PySem.F.slot_dict_get ⟨o, ho', hx.1⟩ PySem.F.entry_dict_get (PySem.F.args_dict_get_3 _ _ _) (meets_dict_get_default (optKind prog w) d (k := none) rfl lo dflt) ⟨_, hM, ?_⟩
  rw [hf]
  exact h
end

end
local macro_rules | `(tactic| walk_at "no such key") => `(tactic| skip)
local macro_rules | `(tactic| walk_at "no such key") => `(tactic| skip)
local macro_rules | `(tactic| walk_at "no such key") => `(tactic| skip)
local macro_rules | `(tactic| walk_at "no such key") => `(tactic| skip)
local macro_rules | `(tactic| walk_at "no such key") => `(tactic| skip)
local macro_rules | `(tactic| walk_at "no such key") => `(tactic| skip)

section
/-- leaving a def that may have caught an exception: the ground may have turned in the frames' slots -/
def LeaveT (fs : List Addr) (A₀ : Around) (base : Heap) (outer : List Env) (K : Frag) (p : Program) (loose : List Str) (mean : ExcName → Option Value) (mg mb : Str → Option Value) (h₀ : Heap) (L : Addr) (m : Str → Option Value) (g : Heap) (rest : List (Addr × Obj)) (R : Result → Shared → Prop) (v : Value) (s' : Shared) : Prop :=
  ∃ g' L' m' news', KtsTurn fs g g' ∧ Fr g' L' s'.heap m' ∧ News g' L' s'.heap news' ∧ ∀ h₀', KtsTurn (outer.filterMap (·.frame)) h₀ h₀' → Fr h₀' L s'.heap m → News h₀' L s'.heap (news' ++ rest) → Below A₀ base outer h₀' → K.In h₀' → Top p loose mean mg mb h₀' →
    KtsDicts (outer.filterMap (·.frame)) h₀' → R (.ok (.ret v)) s'
def LeaveT0 (fs : List Addr) (h₀ : Heap) (L : Addr) (m : Str → Option Value) (g : Heap) (rest : List (Addr × Obj)) (R : Result → Shared → Prop) (v : Value) (s' : Shared) : Prop :=
  ∃ g' L' m' news', KtsTurn fs g g' ∧ Fr g' L' s'.heap m' ∧ News g' L' s'.heap news' ∧ (Fr h₀ L s'.heap m → News h₀ L s'.heap (news' ++ rest) → R (.ok (.ret v)) s')
section
variable {prog : Program} {w : World} {A₀ A : Around} {s : Shared} {base h₀ : Heap} {outer : List Env} {L a : Addr} {m : Str → Option Value} {cn : Str} {cs : Scope} {ccd : Value} {news own rest : List (Addr × Obj)} {K : Frag} {p : Program} {loose : List Str} {mean : ExcName → Option Value} {mg mb : Str → Option Value}
    {R : Result → Shared → Prop} {name qual : Str} {params : Arguments} {body : List Stmt} {scope : Scope} {dV kV doc pm cdv ct oc : Value} {an od : Option Addr} {osl : Array (Option Value)} {f : Addr} {args : Args} {binds : List (Str × Value)}
theorem leaveT_ {fs : List Addr} {g g' : Heap} {L' : Addr} {m' : Str → Option Value} {news' : List (Addr × Obj)} {v : Value} {s' : Shared}
    (T : KtsTurn fs g g') (F' : Fr g' L' s'.heap m') (N' : News g' L' s'.heap news')
    (k : ∀ h₀', KtsTurn (outer.filterMap (·.frame)) h₀ h₀' → Fr h₀' L s'.heap m → News h₀' L s'.heap (news' ++ rest) → Below A₀ base outer h₀' → K.In h₀' → Top p loose mean mg mb h₀' → KtsDicts (outer.filterMap (·.frame)) h₀' → R (.ok (.ret v)) s') :
    LeaveT fs A₀ base outer K p loose mean mg mb h₀ L m g rest R v s' := ⟨g', L', m', news', T, F', N', k⟩
theorem leaveT0_ {fs : List Addr} {g g' : Heap} {L' : Addr} {m' : Str → Option Value} {news' : List (Addr × Obj)} {v : Value} {s' : Shared}
    (T : KtsTurn fs g g') (F' : Fr g' L' s'.heap m') (N' : News g' L' s'.heap news')
    (k : Fr h₀ L s'.heap m → News h₀ L s'.heap (news' ++ rest) → R (.ok (.ret v)) s') :
    LeaveT0 fs h₀ L m g rest R v s' := ⟨g', L', m', news', T, F', N', k⟩

theorem kts_memX {env : Env} {L b : Addr} {outer : List Env} (hf : env.frame = some L) (hm : b ∈ (env :: outer).filterMap (·.frame)) : b = L ∨ b ∈ outer.filterMap (·.frame) := by
  obtain ⟨e, he, hfe⟩ := List.mem_filterMap.mp hm
  rcases List.mem_cons.mp he with rfl | he
  · rw [hf] at hfe
    exact .inl (Option.some.inj hfe).symm
  · exact .inr (List.mem_filterMap.mpr ⟨e, he, hfe⟩)
theorem kts_enterX {env : Env} (B : Below A₀ base outer h₀) (F : Fr h₀ L s.heap m) (N : News h₀ L s.heap news) (hA : A.frames = some (env :: outer)) (hf : env.frame = some L) (hke : env.scope.kind = .function) :
    ∃ oL es ep, (hideAll s.heap (news.map (·.1))).get? L = some oL ∧ oL.data = .dict es ep ∧ (∀ h', h'.get? L = some oL → Heap.Ns h' L m) ∧ (∀ (sl : Array (Option Value)) h', h'.get? L = some { oL with slots := sl } → Heap.Ns h' L m) ∧
      h₀.StaysIn (hideAll s.heap (news.map (·.1))) ∧ Below A base (env :: outer) (hideAll s.heap (news.map (·.1))) := by
  obtain ⟨_, BG, st, _⟩ := groundX (R := fun _ _ => True) B F N hA hf hke
  obtain ⟨oL, es, ep, hL, hLd, hLk, hLf⟩ := F.ns
  have nL : L ∉ news.map (·.1) := fun q => by
    obtain ⟨p, hp, e⟩ := List.mem_map.mp q
    exact (N p hp).2.1 e
  exact ⟨oL, es, ep, hideAll_get _ hL nL, hLd, fun h' e => ⟨oL, es, ep, e, hLd, hLk, hLf⟩, fun sl h' e => ⟨_, es, ep, e, hLd, hLk, hLf⟩, st, BG⟩
theorem rest_in (N₀ : News h₀ L s.heap news) (hrest : ∀ q ∈ rest, q ∈ news ∧ ∀ z ∈ own, q.1 ≠ z.1) : ∀ q ∈ rest, (hideAll s.heap (own.map (·.1))).get? q.1 = some q.2 := fun q hq => by
  refine hideAll_get _ (N₀ q (hrest q hq).1).1 fun hc => ?_
  obtain ⟨z, hz, e⟩ := List.mem_map.mp hc
  exact (hrest q hq).2 z hz e.symm

theorem code_defT {env : Env} (B : Below A₀ base outer h₀) (F : Fr h₀ L s.heap m) (X₀ : K.In h₀) (N₀ : News h₀ L s.heap news) (hown : ∀ q ∈ own, q ∈ news) (hrest : ∀ q ∈ rest, q ∈ news ∧ ∀ z ∈ own, q.1 ≠ z.1)
    (T : Top p loose mean mg mb h₀) (XB : K.In base) (TB : Top p loose mean mg mb base) (D : KtsDicts (outer.filterMap (·.frame)) h₀)
    (hA : A.frames = some (env :: outer)) (hf : env.frame = some L) (hke : env.scope.kind = .function)
    (ho : K.lookup f = some ⟨oc, od, .func (fnOf name qual params body scope dV kV doc pm an cdv ct), osl⟩) (hcd : codeIn K cdv qual = true) (hroom : A.depth < recursionLimit)
    (hbind : BindsTo s (fnOf name qual params body scope dV kV doc pm an cdv ct) args binds) (hloc : ∀ y ∈ binds, scope.names.lookup y.1 = some .local)
    (h : ∀ g L' h₁, Fr h₀ L g m → Fr g L' h₁ (fun y => binds.reverse.lookup y) → News g L' h₁ own → Below A base (env :: outer) g → K.In g → Top p loose mean mg mb g → KtsDicts ((env :: outer).filterMap (·.frame)) g →
      wpAny (model prog w) (A.deeper (envOf qual scope L' f cdv)) (execs body (envOf qual scope L' f cdv))
        (fun fl s' => LeaveT ((env :: outer).filterMap (·.frame)) A₀ base outer K p loose mean mg mb h₀ L m g rest R (match fl with | .ret v => v | _ => .none) s')
        (fun e s' => wpAny (model prog w) (A.deeper (envOf qual scope L' f cdv)) (leaving (envOf qual scope L' f cdv) e) (fun _ s'' => R (.error e) s'') (fun e' s'' => R (.error e') s'') s')
        { s with heap := h₁, toks := s.toks + binds.length })
    (hco : scope.isCoroutine = false) (hgen : scope.isGenerator = false) (hk : scope.kind = .function)
    (hcell : ∀ x ∈ scope.names, x.2 ≠ .cell) : codeAny (model prog w) A (.call (.ref f) args) R s := by
  have N : News h₀ L s.heap own := fun q hq => N₀ q (hown q hq)
  have X := X₀.keeps F.keep
  refine codeAny_call_def (fd := fnOf name qual params body scope dV kV doc pm an cdv ct) (body := body) (binds := binds) hroom (X _ _ ho) rfl (T.nolimit.keeps F.keep) (codeRec_of X hcd) rfl hbind hcell hloc (fun h₁ hns hk₁ => ?_) hco hgen hk
  obtain ⟨oL, es, ep, hLg, hLd, hN, hNs, st, B₂⟩ := kts_enterX B F N hA hf hke
  refine wpAny_mono (h _ s.heap.objs.size h₁ ⟨hN _ hLg, st, F.above⟩ ⟨hns, fun b o e => hk₁ b o (of_hideAll _ e), Nat.le_of_eq (hideAll_size _ _)⟩
    (fun p hp => ⟨hk₁ _ _ (N p hp).1, Nat.ne_of_lt (Heap.lt_size (N p hp).1), hideAll_none _ (List.mem_map_of_mem hp)⟩) B₂ (X₀.keeps st) (T.keeps st) (fun b hb => by
      rcases kts_memX hf hb with rfl | hb
      · exact ⟨oL, es, ep, hLg, hLd⟩
      · obtain ⟨o, es', n', ho', hd'⟩ := D b hb
        exact ⟨o, es', n', st b o ho', hd'⟩)) (fun fl s' hl => ?_) fun _ _ y => y
  have nL₀ : h₀.get? L = none := kts_self F
  have hrg := rest_in (s := s) N₀ hrest
  obtain ⟨g', L', m', news', T', F', N', k⟩ := hl
  obtain ⟨sl, hs⟩ := T'.up hLg
  obtain ⟨T₁, S₁⟩ := kts_turn_at (h := s'.heap) (fs := outer.filterMap (·.frame)) (g := h₀)
    (fun b hb => by
      obtain ⟨_, o, ho', _⟩ := B.frames.mem hb
      exact ⟨o, ho'⟩)
    (fun b o e nmem => F'.keep b o (T'.other b o (st b o e) (fun q => by
      rcases kts_memX hf q with z | z
      · rw [z, nL₀] at e
        cases e
      · exact nmem z)))
    (fun b o e hm => by
      obtain ⟨sl', hs'⟩ := T'.up (st b o e)
      exact ⟨sl', F'.keep _ _ hs'⟩)
  have B₃ : Below A₀ base outer (ktsHeap s'.heap (outer.filterMap (·.frame)) h₀) := ⟨B.stack, fun b o e => T₁.other b o (B.stays b o e) (fun hm => by
    rw [(B.frames.mem hm).1] at e
    cases e), B.frames.of_keeps fun b o e _ => by
    obtain ⟨sl', hs'⟩ := T₁.up e
    exact ⟨_, hs', rfl⟩⟩
  refine k _ T₁ ⟨hNs sl _ (F'.keep _ _ hs), S₁, by rw [T₁.size]; exact F.above⟩ (fun p hp => ?_) B₃ (XB.keeps B₃.stays) (TB.keeps B₃.stays) (D.turn T₁)
  rcases List.mem_append.mp hp with hp | hp
  · refine ⟨(N' p hp).1, fun q => ?_, ?_⟩
    · have := (N' p hp).2.2; rw [q, hs] at this; cases this
    · refine T₁.none_ _ ?_
      cases q : h₀.get? p.1 with
      | none => rfl
      | some o =>
        obtain ⟨sl', hs'⟩ := T'.up (st _ _ q)
        have := (N' p hp).2.2
        rw [hs'] at this
        cases this
  · have z := N₀ p (hrest p hp).1
    refine ⟨F'.keep _ _ (T'.other _ _ (hrg p hp) fun hm => ?_), z.2.1, T₁.none_ _ z.2.2⟩
    rcases kts_memX hf hm with q | q
    · exact z.2.1 q
    · obtain ⟨_, o, ho', _⟩ := B.frames.mem q
      rw [z.2.2] at ho'
      cases ho'

theorem code_defT0 {env : Env} (B : Below A₀ base [] h₀) (F : Fr h₀ L s.heap m) (X₀ : K.In h₀) (N₀ : News h₀ L s.heap news) (hown : ∀ q ∈ own, q ∈ news) (hrest : ∀ q ∈ rest, q ∈ news ∧ ∀ z ∈ own, q.1 ≠ z.1)
    (T : Top p loose mean mg mb h₀) (hA : A.frames = some [env]) (hf : env.frame = some L) (hke : env.scope.kind = .function)
    (ho : K.lookup f = some ⟨oc, od, .func (fnOf name qual params body scope dV kV doc pm an cdv ct), osl⟩) (hcd : codeIn K cdv qual = true) (hroom : A.depth < recursionLimit)
    (hbind : BindsTo s (fnOf name qual params body scope dV kV doc pm an cdv ct) args binds) (hloc : ∀ y ∈ binds, scope.names.lookup y.1 = some .local)
    (h : ∀ g L' h₁, Fr h₀ L g m → Fr g L' h₁ (fun y => binds.reverse.lookup y) → News g L' h₁ own → Below A base [env] g → K.In g → Top p loose mean mg mb g → KtsDicts ([env].filterMap (·.frame)) g →
      wpAny (model prog w) (A.deeper (envOf qual scope L' f cdv)) (execs body (envOf qual scope L' f cdv))
        (fun fl s' => LeaveT0 ([env].filterMap (·.frame)) h₀ L m g rest R (match fl with | .ret v => v | _ => .none) s')
        (fun e s' => wpAny (model prog w) (A.deeper (envOf qual scope L' f cdv)) (leaving (envOf qual scope L' f cdv) e) (fun _ s'' => R (.error e) s'') (fun e' s'' => R (.error e') s'') s')
        { s with heap := h₁, toks := s.toks + binds.length })
    (hco : scope.isCoroutine = false) (hgen : scope.isGenerator = false) (hk : scope.kind = .function)
    (hcell : ∀ x ∈ scope.names, x.2 ≠ .cell) : codeAny (model prog w) A (.call (.ref f) args) R s := by
  have N : News h₀ L s.heap own := fun q hq => N₀ q (hown q hq)
  have X := X₀.keeps F.keep
  refine codeAny_call_def (fd := fnOf name qual params body scope dV kV doc pm an cdv ct) (body := body) (binds := binds) hroom (X _ _ ho) rfl (T.nolimit.keeps F.keep) (codeRec_of X hcd) rfl hbind hcell hloc (fun h₁ hns hk₁ => ?_) hco hgen hk
  obtain ⟨oL, es, ep, hLg, hLd, hN, hNs, st, B₂⟩ := kts_enterX B F N hA hf hke
  refine wpAny_mono (h _ s.heap.objs.size h₁ ⟨hN _ hLg, st, F.above⟩ ⟨hns, fun b o e => hk₁ b o (of_hideAll _ e), Nat.le_of_eq (hideAll_size _ _)⟩
    (fun p hp => ⟨hk₁ _ _ (N p hp).1, Nat.ne_of_lt (Heap.lt_size (N p hp).1), hideAll_none _ (List.mem_map_of_mem hp)⟩) B₂ (X₀.keeps st) (T.keeps st) (fun b hb => by
      rcases kts_memX hf hb with rfl | z
      · exact ⟨oL, es, ep, hLg, hLd⟩
      · simp at z)) (fun fl s' hl => ?_) fun _ _ y => y
  have nL₀ : h₀.get? L = none := kts_self F
  have hrg := rest_in (s := s) N₀ hrest
  obtain ⟨g', L', m', news', T', F', N', k⟩ := hl
  obtain ⟨sl, hs⟩ := T'.up hLg
  refine k ⟨hNs sl _ (F'.keep _ _ hs), fun b o e => F'.keep b o (T'.other b o (st b o e) (fun q => by
    rcases kts_memX hf q with z | z
    · rw [z, nL₀] at e
      cases e
    · simp at z)), F.above⟩ fun p hp => ?_
  rcases List.mem_append.mp hp with hp | hp
  · refine ⟨(N' p hp).1, fun q => ?_, ?_⟩
    · have := (N' p hp).2.2; rw [q, hs] at this; cases this
    · cases q : h₀.get? p.1 with
      | none => rfl
      | some o =>
        obtain ⟨sl', hs'⟩ := T'.up (st _ _ q)
        have := (N' p hp).2.2
        rw [hs'] at this
        cases this
  · have z := N₀ p (hrest p hp).1
    refine ⟨F'.keep _ _ (T'.other _ _ (hrg p hp) fun hm => ?_), z.2⟩
    rcases kts_memX hf hm with q | q
    · exact z.2.1 q
    · simp at q
end

end
local macro_rules | `(tactic| walk_at "no such key") => `(tactic| skip)
local macro_rules | `(tactic| walk_at "no such key") => `(tactic| skip)
local macro_rules | `(tactic| walk_at "no such key") => `(tactic| skip)
local macro_rules | `(tactic| walk_at "no such key") => `(tactic| skip)
local macro_rules | `(tactic| walk_at "no such key") => `(tactic| skip)
local macro_rules | `(tactic| walk_at "no such key") => `(tactic| skip)

section
/-- what a turn that stores only the names of the bracket hands on -/
def WordJ (P : Nat → Prop) (stored : List Str) (x : Str) (m₀ : Str → Option Value) (news : List (Addr × Obj)) (i : Nat) (m' : Str → Option Value) (nx : List (Addr × Obj)) : Prop :=
  nx = news ∧ P i ∧ ∀ z, z ≠ x → stored.contains z = false → m' z = m₀ z
/-- the same where one object of the ledger turns -/
def WordO (P : Nat → Obj → Prop) (stored : List Str) (x : Str) (m₀ : Str → Option Value) (pre post : List (Addr × Obj)) (d : Addr) (i : Nat) (m' : Str → Option Value) (nx : List (Addr × Obj)) : Prop :=
  (∃ o, nx = pre ++ (d, o) :: post ∧ P i o) ∧ ∀ z, z ≠ x → stored.contains z = false → m' z = m₀ z
section
variable {prog : Program} {w : World} {A : Around} {E : Value → Shared → Prop} {s : Shared} {env : Env} {h₀ : Heap} {x : Str} {body : List Stmt} {Q : Flow → Shared → Prop}
  {r : Addr} {a₀ b₀ : Int} {t₀ u₀ v₀ : Tok} {n : Nat} {m₀ : Str → Option Value} {news : List (Addr × Obj)}
theorem word_map {m m₀ : Str → Option Value} {x : Str} {stored : List Str} (hm : ∀ z, z ≠ x → stored.contains z = false → m z = m₀ z) (v : Option Value) :
    (fun z => if z = x then v else m z) = fun z => if z = x then v else if stored.contains z then m z else m₀ z := by
  funext z
  by_cases h1 : z = x
  · simp [h1]
  · simp only [if_neg h1]
    by_cases h2 : stored.contains z = true
    · rw [if_pos h2]
    · rw [if_neg h2]
      exact hm z h1 (by simpa using h2)
theorem range_word (P : Nat → Prop) (stored : List Str) (hh : A.handled = none) (hr : IsRange s.heap r a₀ b₀ 1 t₀ u₀ v₀) (hsmall : Builtin.Range.small a₀ b₀ 1 = true) (hn : Builtin.Range.rangeSize a₀ b₀ 1 = (n : Int))
    (F : Fr h₀ env.locals s.heap m₀) (N : News h₀ env.locals s.heap news) (hP : P 0)
    (turn : ∀ (i : Nat) (k : Int) t (u : Str → Option Value) h tk own, i < n → k = a₀ + (i : Int) → P i → OwnOff own (news.map (·.1)) → Fr h₀ env.locals h (fun z => if z = x then some (.int k t) else if stored.contains z then u z else m₀ z) → News h₀ env.locals h (news ++ own) →
      wpAny (model prog w) A (execs body env) (InvPostN h₀ env.locals (WordJ P stored x m₀ news (i + 1)) own (news.map (·.1)) { s with heap := h, toks := tk } Q) E { s with heap := h, toks := tk })
    (done : ∀ (u : Str → Option Value) h tk, P n → Fr h₀ env.locals h (fun z => if z = x then u z else if stored.contains z then u z else m₀ z) → News h₀ env.locals h news → Q .next { s with heap := h, toks := tk }) :
    wpAny (model prog w) A (pyIter (.ref r)) (fun it s₂ => LoopAtV prog w A h₀ env x body Q E it s₂) E s := by
  refine kpr_invN (WordJ P stored x m₀ news) hh hr hsmall hn F N ⟨rfl, hP, fun _ _ _ => rfl⟩ ?_ ?_
  · rintro i k t m₁ nx h tk own hk hoff ⟨rfl, hPi, hm⟩ F₁ N₁
    have hk' : i < n ∧ k = a₀ + (i : Int) := by
      by_cases hi : i < n
      · have : (rangeKs a₀ n)[i]? = some (a₀ + (i : Int)) := by simp [rangeKs, hi]
        rw [this] at hk
        exact ⟨hi, (Option.some.inj hk).symm⟩
      · have : (rangeKs a₀ n)[i]? = none := by simp [rangeKs]; omega
        rw [this] at hk
        cases hk
    rw [word_map hm] at F₁
    exact turn i k t m₁ h tk own hk'.1 hk'.2 hPi hoff F₁ N₁
  · rintro m₁ nx h tk ⟨rfl, hPn, hm⟩ F₁ N₁
    rw [rangeKs_length] at hPn
    refine done m₁ h tk hPn ?_ N₁
    have e := word_map hm (m₁ x)
    have e2 : m₁ = fun z => if z = x then m₁ x else m₁ z := by
      funext z
      by_cases h1 : z = x
      · rw [if_pos h1, h1]
      · rw [if_neg h1]
    rw [e2, e] at F₁
    have e3 : (fun z => if z = x then m₁ x else if stored.contains z then m₁ z else m₀ z) = fun z => if z = x then m₁ z else if stored.contains z then m₁ z else m₀ z := by
      funext z
      by_cases h1 : z = x
      · rw [if_pos h1, if_pos h1, h1]
      · rw [if_neg h1, if_neg h1]
    rw [e3] at F₁
    exact F₁
theorem range_obj (P : Nat → Obj → Prop) (stored : List Str) {pre post : List (Addr × Obj)} {d : Addr} {o₀ : Obj} (hh : A.handled = none) (hr : IsRange s.heap r a₀ b₀ 1 t₀ u₀ v₀) (hsmall : Builtin.Range.small a₀ b₀ 1 = true) (hn : Builtin.Range.rangeSize a₀ b₀ 1 = (n : Int))
    (F : Fr h₀ env.locals s.heap m₀) (N : News h₀ env.locals s.heap (pre ++ (d, o₀) :: post)) (hP : P 0 o₀)
    (turn : ∀ (i : Nat) (k : Int) t o (u : Str → Option Value) h tk own, i < n → k = a₀ + (i : Int) → P i o → OwnOff own (pre.map (·.1) ++ d :: post.map (·.1)) → Fr h₀ env.locals h (fun z => if z = x then some (.int k t) else if stored.contains z then u z else m₀ z) → News h₀ env.locals h ((pre ++ (d, o) :: post) ++ own) →
      wpAny (model prog w) A (execs body env) (InvPostN h₀ env.locals (WordO P stored x m₀ pre post d (i + 1)) own (pre.map (·.1) ++ d :: post.map (·.1)) { s with heap := h, toks := tk } Q) E { s with heap := h, toks := tk })
    (done : ∀ o (u : Str → Option Value) h tk, P n o → Fr h₀ env.locals h (fun z => if z = x then u z else if stored.contains z then u z else m₀ z) → News h₀ env.locals h (pre ++ (d, o) :: post) → Q .next { s with heap := h, toks := tk }) :
    wpAny (model prog w) A (pyIter (.ref r)) (fun it s₂ => LoopAtV prog w A h₀ env x body Q E it s₂) E s := by
  have em : ∀ o, (pre ++ (d, o) :: post).map (·.1) = pre.map (·.1) ++ d :: post.map (·.1) := fun o => by rw [List.map_append, List.map_cons]
  refine kpr_invN (WordO P stored x m₀ pre post d) hh hr hsmall hn F N ⟨⟨o₀, rfl, hP⟩, fun _ _ _ => rfl⟩ ?_ ?_
  · rintro i k t m₁ nx h tk own hk hoff ⟨⟨o, rfl, hPi⟩, hm⟩ F₁ N₁
    have hk' : i < n ∧ k = a₀ + (i : Int) := by
      by_cases hi : i < n
      · have : (rangeKs a₀ n)[i]? = some (a₀ + (i : Int)) := by simp [rangeKs, hi]
        rw [this] at hk
        exact ⟨hi, (Option.some.inj hk).symm⟩
      · have : (rangeKs a₀ n)[i]? = none := by simp [rangeKs]; omega
        rw [this] at hk
        cases hk
    rw [word_map hm] at F₁
    rw [em] at hoff ⊢
    exact turn i k t o m₁ h tk own hk'.1 hk'.2 hPi hoff F₁ N₁
  · rintro m₁ nx h tk ⟨⟨o, rfl, hPn⟩, hm⟩ F₁ N₁
    rw [rangeKs_length] at hPn
    refine done o m₁ h tk hPn ?_ N₁
    have e := word_map hm (m₁ x)
    have e2 : m₁ = fun z => if z = x then m₁ x else m₁ z := by
      funext z
      by_cases h1 : z = x
      · rw [if_pos h1, h1]
      · rw [if_neg h1]
    rw [e2, e] at F₁
    have e3 : (fun z => if z = x then m₁ x else if stored.contains z then m₁ z else m₀ z) = fun z => if z = x then m₁ z else if stored.contains z then m₁ z else m₀ z := by
      funext z
      by_cases h1 : z = x
      · rw [if_pos h1, if_pos h1, h1]
      · rw [if_neg h1, if_neg h1]
    rw [e3] at F₁
    exact F₁
end

/-- a word for the walk: what holds between a loop's turns -/
inductive TheWord (P : Nat → Prop) (stored : List Str) : Prop
  | mk
inductive TheWordO (P : Nat → Obj → Prop) (stored : List Str) : Prop
  | mk
/-- a goal that the walk is to leave to us -/
def MWord (P : Prop) : Prop := P
theorem wordJ_intro {P : Nat → Prop} {stored : List Str} {x : Str} {m₀ m' : Str → Option Value} {news : List (Addr × Obj)} {i : Nat} (hP : P i) (hs : ∀ z, z ≠ x → stored.contains z = false → m' z = m₀ z) : WordJ P stored x m₀ news i m' news := ⟨rfl, hP, hs⟩
theorem wordO_intro {P : Nat → Obj → Prop} {stored : List Str} {x : Str} {m₀ m' : Str → Option Value} {pre post : List (Addr × Obj)} {d : Addr} {i : Nat} {o : Obj} (hP : P i o) (hs : ∀ z, z ≠ x → stored.contains z = false → m' z = m₀ z) : WordO P stored x m₀ pre post d i m' (pre ++ (d, o) :: post) := ⟨⟨o, rfl, hP⟩, hs⟩
section
variable {prog : Program} {w : World} {A : Around} {E : Value → Shared → Prop} {s : Shared} {env : Env} {h₀ : Heap} {x : Str} {body : List Stmt} {Q : Flow → Shared → Prop}
  {r : Addr} {a₀ b₀ : Int} {t₀ u₀ v₀ : Tok} {n : Nat} {m₀ : Str → Option Value} {news : List (Addr × Obj)}
theorem range_said {P : Nat → Prop} {stored : List Str} (_hw : TheWord P stored) (hh : A.handled = none) (hr : IsRange s.heap r a₀ b₀ 1 t₀ u₀ v₀) (hsmall : Builtin.Range.small a₀ b₀ 1 = true) (hn : Builtin.Range.rangeSize a₀ b₀ 1 = (n : Int))
    (F : Fr h₀ env.locals s.heap m₀) (N : News h₀ env.locals s.heap news) (hP : MWord (P 0))
    (turn : ∀ (i : Nat) (k : Int) t (u : Str → Option Value) h tk own, i < n → k = a₀ + (i : Int) → MWord (P i) → OwnOff own (news.map (·.1)) → Fr h₀ env.locals h (fun z => if z = x then some (.int k t) else if stored.contains z then u z else m₀ z) → News h₀ env.locals h (news ++ own) →
      wpAny (model prog w) A (execs body env) (InvPostN h₀ env.locals (WordJ (fun i => MWord (P i)) stored x m₀ news (i + 1)) own (news.map (·.1)) { s with heap := h, toks := tk } Q) E { s with heap := h, toks := tk })
    (done : ∀ (u : Str → Option Value) h tk, MWord (P n) → Fr h₀ env.locals h (fun z => if z = x then u z else if stored.contains z then u z else m₀ z) → News h₀ env.locals h news → Q .next { s with heap := h, toks := tk }) :
    wpAny (model prog w) A (pyIter (.ref r)) (fun it s₂ => LoopAtV prog w A h₀ env x body Q E it s₂) E s :=
  range_word (fun i => MWord (P i)) stored hh hr hsmall hn F N hP turn done
theorem range_saidO {P : Nat → Obj → Prop} {stored : List Str} {post : List (Addr × Obj)} {d : Addr} {o₀ : Obj} (_hw : TheWordO P stored) (hh : A.handled = none) (hr : IsRange s.heap r a₀ b₀ 1 t₀ u₀ v₀) (hsmall : Builtin.Range.small a₀ b₀ 1 = true) (hn : Builtin.Range.rangeSize a₀ b₀ 1 = (n : Int))
    (F : Fr h₀ env.locals s.heap m₀) (N : News h₀ env.locals s.heap ((d, o₀) :: post)) (hP : MWord (P 0 o₀))
    (turn : ∀ (i : Nat) (k : Int) t o (u : Str → Option Value) h tk own, i < n → k = a₀ + (i : Int) → MWord (P i o) → OwnOff own (d :: post.map (·.1)) → Fr h₀ env.locals h (fun z => if z = x then some (.int k t) else if stored.contains z then u z else m₀ z) → News h₀ env.locals h ((d, o) :: (post ++ own)) →
      wpAny (model prog w) A (execs body env) (InvPostN h₀ env.locals (WordO (fun i o => MWord (P i o)) stored x m₀ [] post d (i + 1)) own (d :: post.map (·.1)) { s with heap := h, toks := tk } Q) E { s with heap := h, toks := tk })
    (done : ∀ o (u : Str → Option Value) h tk, MWord (P n o) → Fr h₀ env.locals h (fun z => if z = x then u z else if stored.contains z then u z else m₀ z) → News h₀ env.locals h ((d, o) :: post) → Q .next { s with heap := h, toks := tk }) :
    wpAny (model prog w) A (pyIter (.ref r)) (fun it s₂ => LoopAtV prog w A h₀ env x body Q E it s₂) E s :=
  range_obj (fun i o => MWord (P i o)) stored (pre := []) hh hr hsmall hn F N hP turn done
end

end
local macro_rules | `(tactic| walk_at "no such key") => `(tactic| skip)
local macro_rules | `(tactic| walk_at "no such key") => `(tactic| skip)
local macro_rules | `(tactic| walk_at "no such key") => `(tactic| skip)
local macro_rules | `(tactic| walk_at "no such key") => `(tactic| skip)
local macro_rules | `(tactic| walk_at "no such key") => `(tactic| skip)
local macro_rules | `(tactic| walk_at "no such key") => `(tactic| skip)

section
section
variable {prog : Program} {w : World} {A₀ A : Around} {s : Shared} {base h₀ : Heap} {outer : List Env} {L a : Addr} {m : Str → Option Value} {news own rest : List (Addr × Obj)} {K : Frag} {p : Program} {loose : List Str} {mean : ExcName → Option Value} {mg mb : Str → Option Value}
    {R : Result → Shared → Prop} {name qual : Str} {params : Arguments} {body : List Stmt} {scope : Scope} {dV kV doc pm cdv ct oc : Value} {an od : Option Addr} {osl : Array (Option Value)} {f : Addr} {args : Args} {binds : List (Str × Value)} {env : Env}

/-- the frame of a def with cells, on entering: the shared part of the two rules below -/
theorem enter_cells (B : Below A₀ base outer h₀) (F : Fr h₀ L s.heap m) (X₀ : K.In h₀) (N : News h₀ L s.heap own)
    (T : Top p loose mean mg mb h₀) (hA : A.frames = some (env :: outer)) (hf : env.frame = some L) (hke : env.scope.kind = .function)
    (ho : K.lookup f = some ⟨oc, od, .func (fnOf name qual params body scope dV kV doc pm an cdv ct), osl⟩) (hcd : codeIn K cdv qual = true) (hroom : A.depth < recursionLimit)
    (hbind : BindsTo s (fnOf name qual params body scope dV kV doc pm an cdv ct) args binds) (hkind : (binds.all fun y => scope.names.lookup y.1 == some .local || scope.names.lookup y.1 == some .cell) = true)
    (hnd : ((cellsFrom 0 scope.names []).map (·.1)).Nodup)
    (h : ∀ L' h₁ tk cells, L' = s.heap.objs.size → Fr (hideAll s.heap (own.map (·.1))) L' h₁ (bindL (envOfC qual scope L' f cdv).kindOf binds fun _ => none) → News (hideAll s.heap (own.map (·.1))) L' h₁ (cells ++ own) →
      CellsAre (bindC (envOfC qual scope L' f cdv).kindOf binds fun _ => none) (cellsFrom (L' + 1) scope.names []) cells →
      wpAny (model prog w) (A.deeper (envOfC qual scope L' f cdv)) (execs body (envOfC qual scope L' f cdv))
        (fun fl s' => R (.ok (.ret (match fl with | .ret v => v | _ => .none))) s')
        (fun e s' => wpAny (model prog w) (A.deeper (envOfC qual scope L' f cdv)) (leaving (envOfC qual scope L' f cdv) e) (fun _ s'' => R (.error e) s'') (fun e' s'' => R (.error e') s'') s')
        { s with heap := h₁, toks := tk })
    (hco : scope.isCoroutine = false) (hgen : scope.isGenerator = false) (hk : scope.kind = .function) : codeAny (model prog w) A (.call (.ref f) args) R s := by
  have X := X₀.keeps F.keep
  refine codeAny_call_function hroom (X _ _ ho) rfl hco hgen rfl (codeRec_of X hcd) (hbind _ _ _ _ ?_)
  refine wpAny_newFunctionEnv_cells hk (kindsX hkind _) fun env' he s' x => ?_
  subst he
  refine ⟨(T.nolimit.keeps F.keep).keeps x.toInCall.keep, codeAny_func ?_⟩
  obtain ⟨h₁, tk, rfl, _⟩ := x.done
  have hk₁ := x.toInCall.keep
  obtain ⟨cells, NC, Y⟩ := Cl.news (h₀ := s.heap) (Nat.le_refl _) fun n c hm => ⟨x.cell n c (lookup_of_mem_nodup (cellsFrom_names scope.names 0 (s.heap.objs.size + 1) [] [] rfl ▸ hnd) hm), x.above n c hm⟩
  refine h s.heap.objs.size h₁ tk cells rfl ⟨x.toInCall.ns, fun b o e => hk₁ b o (of_hideAll _ e), Nat.le_of_eq (hideAll_size _ _)⟩ (fun p hp => ?_) Y
  rcases List.mem_append.mp hp with hp | hp
  · refine ⟨(NC p hp).1, (NC p hp).2.1, ?_⟩
    cases q : (hideAll s.heap (own.map (·.1))).get? p.1 with
    | none => rfl
    | some o => have := of_hideAll _ q; rw [(NC p hp).2.2] at this; cases this
  · exact ⟨hk₁ _ _ (N p hp).1, Nat.ne_of_lt (Heap.lt_size (N p hp).1), hideAll_none _ (List.mem_map_of_mem hp)⟩

theorem code_defRC (B : Below A₀ base outer h₀) (F : Fr h₀ L s.heap m) (X₀ : K.In h₀) (N₀ : News h₀ L s.heap news) (hown : ∀ q ∈ own, q ∈ news) (hrest : ∀ q ∈ rest, q ∈ news ∧ ∀ z ∈ own, q.1 ≠ z.1)
    (T : Top p loose mean mg mb h₀) (hA : A.frames = some (env :: outer)) (hf : env.frame = some L) (hke : env.scope.kind = .function)
    (ho : K.lookup f = some ⟨oc, od, .func (fnOf name qual params body scope dV kV doc pm an cdv ct), osl⟩) (hcd : codeIn K cdv qual = true) (hroom : A.depth < recursionLimit)
    (hbind : BindsTo s (fnOf name qual params body scope dV kV doc pm an cdv ct) args binds) (hkind : (binds.all fun y => scope.names.lookup y.1 == some .local || scope.names.lookup y.1 == some .cell) = true)
    (hnd : ((cellsFrom 0 scope.names []).map (·.1)).Nodup)
    (h : ∀ g L' h₁ tk cells, Fr h₀ L g m → Fr g L' h₁ (bindL (envOfC qual scope L' f cdv).kindOf binds fun _ => none) → News g L' h₁ (cells ++ own) →
      CellsAre (bindC (envOfC qual scope L' f cdv).kindOf binds fun _ => none) (cellsFrom (L' + 1) scope.names []) cells → Below A base (env :: outer) g → K.In g → Top p loose mean mg mb g → (∀ p ∈ own, p.1 < L') →
      wpAny (model prog w) (A.deeper (envOfC qual scope L' f cdv)) (execs body (envOfC qual scope L' f cdv))
        (fun fl s' => LeaveK h₀ L m g (fun r s'' => News h₀ L s''.heap rest → R r s'') (match fl with | .ret v => v | _ => .none) s')
        (fun e s' => wpAny (model prog w) (A.deeper (envOfC qual scope L' f cdv)) (leaving (envOfC qual scope L' f cdv) e) (fun _ s'' => R (.error e) s'') (fun e' s'' => R (.error e') s'') s')
        { s with heap := h₁, toks := tk })
    (hco : scope.isCoroutine = false) (hgen : scope.isGenerator = false) (hk : scope.kind = .function) : codeAny (model prog w) A (.call (.ref f) args) R s := by
  have N : News h₀ L s.heap own := fun q hq => N₀ q (hown q hq)
  obtain ⟨FG, BG, st, lv⟩ := groundX (R := R) B F N hA hf hke
  refine enter_cells B F X₀ N T hA hf hke ho hcd hroom hbind hkind hnd (fun L' h₁ tk cells hL' F' N' Y => ?_) hco hgen hk
  refine wpAny_mono (h _ L' h₁ tk cells FG F' N' Y BG (X₀.keeps st) (T.keeps st) (fun p hp => hL' ▸ Heap.lt_size (N p hp).1)) (fun fl s' hl => ?_) fun _ _ y => y
  have hrg := rest_in (s := s) N₀ hrest
  obtain ⟨L₂, m', news', F₂, N₂, k⟩ := hl
  obtain ⟨oL, es, ep, hL, hLd, hLk, hLf⟩ := F.ns
  have nL : L ∉ own.map (·.1) := fun q => by
    obtain ⟨p, hp, e⟩ := List.mem_map.mp q
    exact (N p hp).2.1 e
  have hLg := hideAll_get (own.map (·.1)) hL nL
  refine k ⟨⟨oL, es, ep, F₂.keep L oL hLg, hLd, hLk, hLf⟩, fun b o e => F₂.keep b o (st b o e), F.above⟩ (fun p hp => ⟨(N₂ p hp).1, fun q => ?_, ?_⟩) fun q hq => ⟨F₂.keep _ _ (hrg q hq), (N₀ q (hrest q hq).1).2⟩
  · have := (N₂ p hp).2.2; rw [q, hLg] at this; cases this
  · cases q : h₀.get? p.1 with
    | none => rfl
    | some o => have := (N₂ p hp).2.2; rw [st _ _ q] at this; cases this

theorem code_defT0C (B : Below A₀ base [] h₀) (F : Fr h₀ L s.heap m) (X₀ : K.In h₀) (N₀ : News h₀ L s.heap news) (hown : ∀ q ∈ own, q ∈ news) (hrest : ∀ q ∈ rest, q ∈ news ∧ ∀ z ∈ own, q.1 ≠ z.1)
    (T : Top p loose mean mg mb h₀) (hA : A.frames = some [env]) (hf : env.frame = some L) (hke : env.scope.kind = .function)
    (ho : K.lookup f = some ⟨oc, od, .func (fnOf name qual params body scope dV kV doc pm an cdv ct), osl⟩) (hcd : codeIn K cdv qual = true) (hroom : A.depth < recursionLimit)
    (hbind : BindsTo s (fnOf name qual params body scope dV kV doc pm an cdv ct) args binds) (hkind : (binds.all fun y => scope.names.lookup y.1 == some .local || scope.names.lookup y.1 == some .cell) = true)
    (hnd : ((cellsFrom 0 scope.names []).map (·.1)).Nodup)
    (h : ∀ g L' h₁ tk cells, Fr h₀ L g m → Fr g L' h₁ (bindL (envOfC qual scope L' f cdv).kindOf binds fun _ => none) → News g L' h₁ (cells ++ own) →
      CellsAre (bindC (envOfC qual scope L' f cdv).kindOf binds fun _ => none) (cellsFrom (L' + 1) scope.names []) cells → Below A base [env] g → K.In g → Top p loose mean mg mb g → (∀ p ∈ own, p.1 < L') → KtsDicts ([env].filterMap (·.frame)) g →
      wpAny (model prog w) (A.deeper (envOfC qual scope L' f cdv)) (execs body (envOfC qual scope L' f cdv))
        (fun fl s' => LeaveT0 ([env].filterMap (·.frame)) h₀ L m g rest R (match fl with | .ret v => v | _ => .none) s')
        (fun e s' => wpAny (model prog w) (A.deeper (envOfC qual scope L' f cdv)) (leaving (envOfC qual scope L' f cdv) e) (fun _ s'' => R (.error e) s'') (fun e' s'' => R (.error e') s'') s')
        { s with heap := h₁, toks := tk })
    (hco : scope.isCoroutine = false) (hgen : scope.isGenerator = false) (hk : scope.kind = .function) : codeAny (model prog w) A (.call (.ref f) args) R s := by
  have N : News h₀ L s.heap own := fun q hq => N₀ q (hown q hq)
  obtain ⟨oL, es, ep, hLg, hLd, hN, hNs, st, B₂⟩ := kts_enterX B F N hA hf hke
  refine enter_cells B F X₀ N T hA hf hke ho hcd hroom hbind hkind hnd (fun L' h₁ tk cells hL' F' N' Y => ?_) hco hgen hk
  refine wpAny_mono (h _ L' h₁ tk cells ⟨hN _ hLg, st, F.above⟩ F' N' Y B₂ (X₀.keeps st) (T.keeps st) (fun p hp => hL' ▸ Heap.lt_size (N p hp).1) (fun b hb => by
      rcases kts_memX hf hb with rfl | z
      · exact ⟨oL, es, ep, hLg, hLd⟩
      · simp at z)) (fun fl s' hl => ?_) fun _ _ y => y
  have nL₀ : h₀.get? L = none := kts_self F
  have hrg := rest_in (s := s) N₀ hrest
  obtain ⟨g', L₂, m', news', T', F₂, N₂, k⟩ := hl
  obtain ⟨sl, hs⟩ := T'.up hLg
  refine k ⟨hNs sl _ (F₂.keep _ _ hs), fun b o e => F₂.keep b o (T'.other b o (st b o e) (fun q => by
    rcases kts_memX hf q with z | z
    · rw [z, nL₀] at e
      cases e
    · simp at z)), F.above⟩ fun p hp => ?_
  rcases List.mem_append.mp hp with hp | hp
  · refine ⟨(N₂ p hp).1, fun q => ?_, ?_⟩
    · have := (N₂ p hp).2.2; rw [q, hs] at this; cases this
    · cases q : h₀.get? p.1 with
      | none => rfl
      | some o =>
        obtain ⟨sl', hs'⟩ := T'.up (st _ _ q)
        have := (N₂ p hp).2.2
        rw [hs'] at this
        cases this
  · have z := N₀ p (hrest p hp).1
    refine ⟨F₂.keep _ _ (T'.other _ _ (hrg p hp) fun hm => ?_), z.2⟩
    rcases kts_memX hf hm with q | q
    · exact z.2.1 q
    · simp at q
end

end
local macro_rules | `(tactic| walk_at "no such key") => `(tactic| skip)
local macro_rules | `(tactic| walk_at "no such key") => `(tactic| skip)
local macro_rules | `(tactic| walk_at "no such key") => `(tactic| skip)
local macro_rules | `(tactic| walk_at "no such key") => `(tactic| skip)
local macro_rules | `(tactic| walk_at "no such key") => `(tactic| skip)
local macro_rules | `(tactic| walk_at "no such key") => `(tactic| skip)
-- sets of small ints
local macro_rules | `(tactic| walk_at "call type:set") => `(tactic| (k_here; (with_reducible show wpAny _ _ (call (Value.type "set") [Value.ref _]) _ _ _); k_dflt (refine' set_to_set ?hh ?F ?N ?hm ?hS ?_; (case hh => rfl); (case F => k_asm); (case N => k_asm); (case hm => k_mem); (case hS => assumption)); intro d' h' o' F' N' l1 hS'; (try k_lt l1); (try k_sweep)))
local macro_rules | `(tactic| walk_at "call builtin:sorted") => `(tactic| (k_here; (with_reducible show wpAny _ _ (call (Value.builtin "sorted") [Value.ref _]) _ _ _); k_dflt (refine' set_sorted ?hh ?F ?N ?hm ?hS ?_; (case hh => rfl); (case F => k_asm); (case N => k_asm); (case hm => k_mem); (case hS => assumption)); intro d' h' tk' vs' e' F' N' l1 hI'; (try k_lt l1); (try k_sweep)))
local macro_rules | `(tactic| walk_at "compareOp In int ref") => `(tactic| (k_here; k_dflt (refine' set_in ?N ?hm ?hS ?_; (case N => k_asm); (case hm => k_mem); (case hS => assumption)); (try dsimp only)))
local macro_rules | `(tactic| walk_at "compareOp NotIn int ref") => `(tactic| (k_here; k_dflt (refine' set_notin ?N ?hm ?hS ?_; (case N => k_asm); (case hm => k_mem); (case hS => assumption)); (try dsimp only)))
local macro_rules | `(tactic| walk_at "getMethod ref") => `(tactic| (k_here; (with_reducible show wpAny _ _ (getMethod (Value.ref _) (Str.ofString "add") _) _ _ _); k_dflt (refine' set_addMeth ?N ?hm ?hS ?_; (case N => k_asm); (case hm => k_mem); (case hS => assumption))))
local macro_rules | `(tactic| walk_at "call builtin:set.add") => `(tactic| (k_here; k_dflt (refine' set_add ?F ?N ?U ?hS ?hz ?hk ?_; (case F => k_asm); (case N => k_asm); (case U => k_updF); (case hS => assumption); (case hz => (first | exact (rfl : (0 : Int) = ((0 : Nat) : Int)) | exact (rfl : (1 : Int) = ((1 : Nat) : Int)) | exact (rfl : (2 : Int) = ((2 : Nat) : Int)) | exact (rfl : (3 : Int) = ((3 : Nat) : Int)) | exact (rfl : (4 : Int) = ((4 : Nat) : Int)) | exact (rfl : (5 : Int) = ((5 : Nat) : Int)) | exact (rfl : (6 : Int) = ((6 : Nat) : Int)) | exact (rfl : (7 : Int) = ((7 : Nat) : Int)))); (case hk => decide)); intro h' o' F' N' hS'; (try dsimp only at N')))
-- defs that catch
local macro_rules | `(tactic| walk_at "mine enterT") => `(tactic| (refine' code_defT ?k1 ?k2 ?k3 ?k4 ?o1 ?o2 ?k5 ?xb ?tb ?kd ?kA ?kF ?kK ?k6 ?k7 ?k8 ?k9 ?kB ?_ ?c2 ?c3 ?c4 ?c5; (case kA => exact rfl); (case kF => exact rfl); (case kK => first | assumption | exact rfl); (case k1 => k_asm); (case k2 => k_asm); (case k3 => k_asm); (case k4 => k_asm); (case k5 => k_asm); (case xb => assumption); (case tb => assumption); (case kd => assumption); (case k6 => k_is); (case k7 => k_is); (case k8 => ktr_room); (case k9 => first | exact BindsTo.of_eq rfl | exact binds_K (by k_in) rfl (by k_is) rfl rfl rfl); (case c5 => decide); (case kB => exact locs rfl); (case c2 => exact rfl); (case c3 => exact rfl); (case c4 => exact rfl); (case o1 => assumption); (case o2 => assumption); intro g' L' h' FG' F' N' B' X' T' kD'; (try dsimp only); (try k_lift B'); (try k_fold)))
local macro_rules | `(tactic| walk_at "LeaveT") => `(tactic| (k_dflt (refine' leaveT_ ?T ?F ?N ?_; (case T => first | assumption | exact KtsTurn.refl); (case F => k_asm); (case N => k_asm)); intro kg kT kF kN kB kX₀ kP kD; (try simp only [List.cons_append, List.nil_append] at kN); (try dsimp only)))
-- a range loop by a word in the context
local macro_rules | `(tactic| walk_at "pyIter ref") => `(tactic| (k_here; (with_reducible show wpAny _ _ (pyIter (Value.ref _)) (fun it s₂ => LoopAtV _ _ _ _ _ _ _ _ _ it s₂) _ _); k_dflt (refine' range_said (n := 8) ?hw ?hh ?hr ?hs ?hn ?F ?N ?hP ?turn ?done; (case hw => assumption); (case hh => rfl); (case hr => assumption); (case hs => decide); (case hn => first | rfl | decide); (case F => k_asm); (case N => k_asm)); (case' turn => (intro i' k' t' u' h' tk' own' hi' hk' hP' off' F' N'; (try simp only [List.nil_append, List.cons_append, List.map_cons, List.map_nil] at N' off'); (try k_sweep); (try k_fold))); (case' done => (intro u' h' tk' hP' F' N'; (try k_sweep); (try dsimp only)))))
local macro_rules | `(tactic| walk_at "InvEndN") => `(tactic| (refine InvEndN.intro (by assumption) (by assumption) (wordJ_intro ?wP ?wS) (by rfl) (by (with_unfolding_all ((try simp only [List.nil_append, List.cons_append]); k_allIn))) (by (intro p hp; k_ownIn)); (case wS => (intro z h1 h2; first | rfl | (simp only [if_neg h1]; done) | (simp only [if_neg h1]; rfl) | (simp [h1, h2]; done) | (simp_all; done)))))
local macro_rules | `(tactic| walk_at "mine enterC") => `(tactic| (refine' code_defRC ?k1 ?k2 ?k3 ?k4 ?o1 ?o2 ?k5 ?kA ?kF ?kK ?k6 ?k7 ?k8 ?k9 ?kB ?kD ?_ ?c2 ?c3 ?c4; (case kA => exact rfl); (case kF => exact rfl); (case kK => first | assumption | exact rfl); (case k1 => k_asm); (case k2 => k_asm); (case k3 => k_asm); (case k4 => k_asm); (case k5 => k_asm); (case k6 => k_is); (case k7 => k_is); (case k8 => ktr_room); (case k9 => first | exact BindsTo.of_eq rfl | exact binds_K (by k_in) rfl (by k_is) rfl rfl rfl); (case kB => exact rfl); (case kD => decide +kernel); (case c2 => exact rfl); (case c3 => exact rfl); (case c4 => exact rfl); (case o1 => assumption); (case o2 => assumption); intro g' L' h' tk' cells' FG' F' N' Y' B' X' T' l1; (try k_lt l1); k_cells Y'; (try simp only [List.cons_append, List.nil_append] at N'); (try dsimp only); (try k_lift B'); (try k_fold)))


section
/-- the unit that is told -/
def due (u : Nat) (ks : List Nat) : Option Nat := if u ∈ ks then ((List.range 8).filter fun i => decide (u < i) && decide (i ∉ ks)).head? else some u
inductive IsOpt : Value → Option Nat → Prop
  | none : IsOpt .none none
  | some (n : Nat) (t : Tok) : IsOpt (.int (n : Int) t) (some n)
theorem isOpt_int {z : Int} {n : Nat} {t : Tok} {r : Option Nat} (hz : z = (n : Int)) (hr : r = some n) : IsOpt (.int z t) r := by subst hz; subst hr; exact .some n t
theorem isOpt_none {r : Option Nat} (hr : r = none) : IsOpt .none r := by subst hr; exact .none

theorem news_app {h₀ h : Heap} {L : Addr} {p : Addr × Obj} {rest : List (Addr × Obj)} (N : News h₀ L h ([p] ++ rest)) : News h₀ L h (p :: rest) := N
theorem news_mid {h₀ h : Heap} {L : Addr} {p : Addr × Obj} {own rest : List (Addr × Obj)} (N : News h₀ L h (p :: (own ++ rest))) : News h₀ L h (p :: rest) := fun q hq => by
  rcases List.mem_cons.mp hq with rfl | hq
  · exact N _ (.head _)
  · exact N q (.tail _ (List.mem_append_right _ hq))
theorem told_step0 (u : Nat) (ks : List Nat) : MWord (∀ j, u < j → j < 0 → j ∈ ks) := fun j _ h => absurd h (Nat.not_lt_zero j)
theorem told_step {u i : Nat} {z k : Int} {ks : List Nat} (hP : MWord (∀ j, u < j → j < i → j ∈ ks)) (hz : z = (u : Int)) (hk : k = 0 + (i : Int)) (hgt : ¬ z < k) : MWord (∀ j, u < j → j < i + 1 → j ∈ ks) := fun j h1 h2 => by
  rcases Nat.lt_or_ge j i with h | h
  · exact hP j h1 h
  · omega
theorem told_stepIn {u i : Nat} {k : Int} {ks : List Nat} (hP : MWord (∀ j, u < j → j < i → j ∈ ks)) (hk : k = 0 + (i : Int)) (hin : hasZ ks k = true) : MWord (∀ j, u < j → j < i + 1 → j ∈ ks) := fun j h1 h2 => by
  rcases Nat.lt_or_ge j i with h | h
  · exact hP j h1 h
  · have : j = i := by omega
    subst this
    rw [hk, Int.zero_add] at hin
    exact hasZ_nat.mp hin
theorem hasZ_no {ks : List Nat} {k : Nat} (h : hasZ ks (k : Int) = false) : k ∉ ks := fun q => by rw [hasZ_nat.mpr q] at h; cases h
theorem told_self {u : Nat} {z : Int} {t : Tok} {ks : List Nat} (hz : z = (u : Int)) (h : hasZ ks z = false) : IsOpt (.int z t) (due u ks) := by
  subst hz
  refine isOpt_int rfl ?_
  unfold due
  rw [if_neg (hasZ_no h)]
theorem told_none {u : Nat} {z : Int} {ks : List Nat} (hz : z = (u : Int)) (h : hasZ ks z = true) (hP : MWord (∀ j, u < j → j < 8 → j ∈ ks)) : IsOpt .none (due u ks) := by
  subst hz
  refine isOpt_none ?_
  unfold due
  rw [if_pos (hasZ_nat.mp h), List.head?_filter, List.find?_eq_none]
  intro j hj
  have h8 := List.mem_range.mp hj
  by_cases hu : u < j
  · simp [hP j hu h8]
  · simp [hu]
theorem told_next {u i : Nat} {z k : Int} {t : Tok} {ks : List Nat} (hz : z = (u : Int)) (h : hasZ ks z = true) (hi : i < 8) (hk : k = 0 + (i : Int)) (hP : MWord (∀ j, u < j → j < i → j ∈ ks)) (hgt : z < k) (hn : hasZ ks k = false) : IsOpt (.int k t) (due u ks) := by
  subst hz
  rw [Int.zero_add] at hk
  subst hk
  refine isOpt_int rfl ?_
  unfold due
  rw [if_pos (hasZ_nat.mp h), List.head?_filter, List.find?_range_eq_some]
  have hn' := hasZ_no hn
  refine ⟨by simp [hn']; omega, List.mem_range.mpr hi, fun j hj => ?_⟩
  by_cases hu : u < j
  · simp [hP j hu hj]
  · simp [hu]

set_option maxHeartbeats 8000000 in
theorem told_c {w : World} {mean : ExcName → Option Value} {mg mb : Str → Option Value} {dp un : Nat} {gd : Option (List Code)} {cn : Str} {cs : Scope} {a : Addr} {ccd : Value} {cl : List (Str × Addr)} {outer : List Env} {A₀ : Around} {base h₀ : Heap} {L : Addr} {m : Str → Option Value} {s : Shared} {Q E : Value → Shared → Prop}
    {news rest : List (Addr × Obj)} {W : Addr} {o : Obj} {ks : List Nat} {u : Nat} {z : Int} {t : Tok}
    (B : Below A₀ base outer h₀) (F : Fr h₀ L s.heap m) (X : (Mine.hd.heap_39 w.params).In h₀) (N : News h₀ L s.heap news)
    (T : Top Mine.hd.view_39 (looseW Mine.hd.view_39 [Str.ofString "_date_and_delta", Str.ofString "_THOUSANDS_SEPARATOR", Str.ofString "_DECIMAL_SEPARATOR"]) mean mg mb h₀)
    (XB : (Mine.hd.heap_39 w.params).In base)
    (TB : Top Mine.hd.view_39 (looseW Mine.hd.view_39 [Str.ofString "_date_and_delta", Str.ofString "_THOUSANDS_SEPARATOR", Str.ofString "_DECIMAL_SEPARATOR"]) mean mg mb base)
    (kd : KtsDicts (outer.filterMap (·.frame)) h₀)
    (hk : cs.kind = .function)
    (hown : ∀ q ∈ [(W, o)], q ∈ news) (hrest : ∀ q ∈ rest, q ∈ news ∧ ∀ z ∈ [(W, o)], q.1 ≠ z.1)
    (hS : IsSet8 (ledOf w) ks o) (hz : z = (u : Int)) (hu8 : u < 8)
    (hd : dp < 800) (hu : un < 1000)
    (h : ∀ (v : Value) (h' g' : Heap) (tk' : Nat), IsOpt v (due u ks) → KtsTurn (outer.filterMap (·.frame)) h₀ g' → Fr g' L h' m → News g' L h' ((W, o) :: rest) → Below A₀ base outer g' → (Mine.hd.heap_39 w.params).In g' →
      Top Mine.hd.view_39 (looseW Mine.hd.view_39 [Str.ofString "_date_and_delta", Str.ofString "_THOUSANDS_SEPARATOR", Str.ofString "_DECIMAL_SEPARATOR"]) mean mg mb g' → KtsDicts (outer.filterMap (·.frame)) g' → Q v { s with heap := h', toks := tk' }) :
    wpAny (model PySem.Challenge.rw_aq6038_01.row.prog w) (ktrTop dp un gd cn cs L a ccd cl outer) (call (.ref 217) [.int z t, .ref W]) Q E s := by
  revert X; k_fill; intro X
  have hW : TheWord (fun i => ∀ j, u < j → j < i → j ∈ ks) [] := .mk
  refine wpAny_call ?_
  k_dflt (walk_at "mine enterT")
  k_steps
  all_goals (try walk_at "InvEndN")
  all_goals first
    | exact told_step0 _ _
    | exact told_step (by assumption) (by assumption) (by assumption) (by assumption)
    | exact told_stepIn (by assumption) (by assumption) (by assumption)
    | exact h _ _ _ _ (told_self hz (by assumption)) (by assumption) (by assumption) (by first | assumption | exact news_app (by assumption) | exact news_mid (by assumption)) (by assumption) (by assumption) (by assumption) (by assumption)
    | exact h _ _ _ _ (told_none hz (by assumption) (by assumption)) (by assumption) (by assumption) (by first | assumption | exact news_app (by assumption) | exact news_mid (by assumption)) (by assumption) (by assumption) (by assumption) (by assumption)
    | exact h _ _ _ _ (told_next hz (by assumption) (by assumption) (by assumption) (by assumption) (by assumption) (by assumption)) (by assumption) (by assumption) (by first | assumption | exact news_app (by assumption) | exact news_mid (by assumption)) (by assumption) (by assumption) (by assumption) (by assumption)

end
local macro_rules | `(tactic| walk_at "no such key") => `(tactic| skip)
local macro_rules | `(tactic| walk_at "no such key") => `(tactic| skip)
local macro_rules | `(tactic| walk_at "no such key") => `(tactic| skip)
local macro_rules | `(tactic| walk_at "no such key") => `(tactic| skip)
local macro_rules | `(tactic| walk_at "no such key") => `(tactic| skip)
local macro_rules | `(tactic| walk_at "no such key") => `(tactic| skip)

section
theorem small_from {u : Nat} (h : u < 8) : Builtin.Range.small ((u : Int) + 1) 8 1 = true := by
  match u, h with
  | 0, _ | 1, _ | 2, _ | 3, _ | 4, _ | 5, _ | 6, _ | 7, _ => decide
theorem size_from {u : Nat} (h : u < 8) : Builtin.Range.rangeSize ((u : Int) + 1) 8 1 = ((7 - u : Nat) : Int) := by
  match u, h with
  | 0, _ | 1, _ | 2, _ | 3, _ | 4, _ | 5, _ | 6, _ | 7, _ => decide

theorem any_mem {ks : List Nat} {k : Nat} : ((ks.map fun k : Nat => (k : Int)).any (· == (k : Int))) = decide (k ∈ ks) := by
  by_cases h : k ∈ ks
  · rw [decide_eq_true h, List.any_eq_true]
    exact ⟨(k : Int), List.mem_map.mpr ⟨k, h, rfl⟩, by simp⟩
  · rw [decide_eq_false h]
    rw [← Bool.not_eq_true, List.any_eq_true]
    rintro ⟨x, hx, e⟩
    obtain ⟨j, hj, rfl⟩ := List.mem_map.mp hx
    have : (j : Int) = (k : Int) := by simpa using e
    have : j = k := by omega
    exact h (this ▸ hj)
/-- the units behind u that are not left out, as the law reckons them -/
theorem filt_eq {u : Nat} {ks : List Nat} (hu : u < 8) : (((List.range (7 - u)).map fun i : Nat => (u : Int) + 1 + (i : Int)).filter fun k => !((ks.map fun k : Nat => (k : Int)).any (· == k))) = ((List.range 8).filter fun i => decide (u < i) && decide (i ∉ ks)).map fun k : Nat => (k : Int) := by
  have e8 : 8 = (u + 1) + (7 - u) := by omega
  have er : List.range 8 = List.range (u + 1) ++ (List.range (7 - u)).map (u + 1 + ·) := by
    conv => lhs; rw [e8]
    exact List.range_add
  rw [er, List.filter_append]
  have e0 : (List.range (u + 1)).filter (fun i => decide (u < i) && decide (i ∉ ks)) = [] := by
    rw [List.filter_eq_nil_iff]
    intro j hj
    have := List.mem_range.mp hj
    have h : ¬ u < j := by omega
    simp [h]
  rw [e0, List.nil_append, List.filter_map, List.filter_map, List.map_map]
  have e1 : ((fun i : Nat => (u : Int) + 1 + (i : Int))) = ((fun k : Nat => (k : Int)) ∘ (u + 1 + ·)) := by
    funext i
    simp only [Function.comp_apply]
    omega
  rw [e1]
  congr 1
  refine List.filter_congr fun i _ => ?_
  simp only [Function.comp_apply]
  rw [any_mem]
  have h : u < u + 1 + i := by omega
  simp [h]
theorem dueL_self {u : Nat} {ks : List Nat} {t : Tok} (h : ((ks.map fun k : Nat => (k : Int)).any (· == (u : Int))) = false) : IsOpt (.int (u : Int) t) (due u ks) := by
  rw [any_mem] at h
  refine isOpt_int rfl ?_
  unfold due
  rw [if_neg (of_decide_eq_false h)]
theorem dueL_nil {u : Nat} {ks : List Nat} (hu : u < 8) (h : ((ks.map fun k : Nat => (k : Int)).any (· == (u : Int))) = true) (hns : (((List.range (7 - u)).map fun i : Nat => (u : Int) + 1 + (i : Int)).filter fun k => !((ks.map fun k : Nat => (k : Int)).any (· == k))) = []) : IsOpt .none (due u ks) := by
  rw [any_mem] at h
  rw [filt_eq hu] at hns
  refine isOpt_none ?_
  unfold due
  rw [if_pos (of_decide_eq_true h), List.map_eq_nil_iff.mp hns]
  rfl
theorem dueL_cons {u : Nat} {ks : List Nat} {n : Int} {ns : List Int} {t : Tok} (hu : u < 8) (h : ((ks.map fun k : Nat => (k : Int)).any (· == (u : Int))) = true) (hns : (((List.range (7 - u)).map fun i : Nat => (u : Int) + 1 + (i : Int)).filter fun k => !((ks.map fun k : Nat => (k : Int)).any (· == k))) = n :: ns) :
    IsOpt (.int ((n :: ns).getD (Int.toNat 0) 0) t) (due u ks) := by
  rw [any_mem] at h
  rw [filt_eq hu] at hns
  obtain ⟨k, r, e, rfl, rfl⟩ := List.map_eq_cons_iff.mp hns
  refine isOpt_int rfl ?_
  unfold due
  rw [if_pos (of_decide_eq_true h), e]
  rfl

local macro_rules | `(tactic| walk_at "compareOp NotIn int ref") => `(tactic| (k_here; k_dflt (refine' notin_list_ints ?l ?i ?_; (case l => exact News.isList (by k_asm) (by k_mem)); (case i => assumption)); (try dsimp only)))
local macro_rules | `(tactic| walk_at "exec Assign cons ListComp") => `(tactic| (k_here; refine MStop.out ?_))
local macro_rules | `(tactic| walk_at "CompSrcT") => `(tactic| (k_here; refine MStop.out ?_))
set_option maxHeartbeats 8000000 in
theorem unitL_c {w : World} {mean : ExcName → Option Value} {mg mb : Str → Option Value} {dp un : Nat} {gd : Option (List Code)} {cn : Str} {cs : Scope} {a : Addr} {ccd : Value} {cl : List (Str × Addr)} {outer : List Env} {A₀ : Around} {base h₀ : Heap} {L : Addr} {m : Str → Option Value} {s : Shared} {Q E : Value → Shared → Prop}
    {news rest : List (Addr × Obj)} {W : Addr} {nW : Nat} {vs : List Value} {ks : List Nat} {u : Nat} {z : Int} {t : Tok}
    (B : Below A₀ base outer h₀) (F : Fr h₀ L s.heap m) (X : (Mine.hd.heap_39 w.params).In h₀) (N : News h₀ L s.heap news)
    (T : Top Mine.hd.view_39 (looseW Mine.hd.view_39 [Str.ofString "_date_and_delta", Str.ofString "_THOUSANDS_SEPARATOR", Str.ofString "_DECIMAL_SEPARATOR"]) mean mg mb h₀)
    (hk : cs.kind = .function)
    (hown : ∀ q ∈ [(W, listOf vs.toArray nW)], q ∈ news) (hrest : ∀ q ∈ rest, q ∈ news ∧ ∀ z ∈ [(W, listOf vs.toArray nW)], q.1 ≠ z.1)
    (hI : IntsAre vs (ks.map fun k : Nat => (k : Int))) (hz : z = (u : Int)) (hu8 : u < 8)
    (hd : dp < 800) (hu : un < 1000)
    (h : ∀ (v : Value) (h' : Heap) (tk' : Nat), IsOpt v (due u ks) → Fr h₀ L h' m → News h₀ L h' ((W, listOf vs.toArray nW) :: rest) → Q v { s with heap := h', toks := tk' }) :
    wpAny (model PySem.Challenge.rw_aq6038_01.row.prog w) (ktrTop dp un gd cn cs L a ccd cl outer) (call (.ref 210) [.int z t, .ref W]) Q E s := by
  revert X; k_fill; intro X
  subst hz
  refine wpAny_call ?_
  k_dflt (walk_at "mine enterC")
  k_steps
  all_goals (try refine MStop.mk ?_)
  · k_dflt (refine LCt.Assign_ListComp_T (F₀ := by k_asm) (by rfl) (by with_unfolding_all rfl) (by with_unfolding_all rfl) (by decide) (by rfl) (by decide) (by rfl) (by rfl) (by rfl) ?_)
    k_steps
    refine MStop.mk ?_
    k_dflt (refine LCt.CompSrcT.range (n := 7 - u) (by rfl) (by k_asm) (by k_asm) (by assumption) (small_from hu8) (size_from hu8) (by rw [sizeLine_eq]; omega) ?_)
    intro g0'
    refine compRest_filter (fun k => !((ks.map fun k : Nat => (k : Int)).any (· == k))) (fun i => (u : Int) + 1 + (i : Int)) (7 - u) (fun i v hv => hv) trivial ?_ ?_ ?_ _ 0 [] (Nat.add_zero _) .nil
    · intro i n t I oI C oC D ys m₂ h tk Q' E' hi hn hC hx F N hq
      k_steps
      exact hq _
    · intro n t I oI C oC D ys m₂ h tk Q' E' hC hx F N hq
      k_steps
      exact hq _ _
    · intro ys hys
      generalize hns : List.filter _ _ = ns at hys
      cases hys with
      | nil =>
        unfold LCg.FinA
        intro D' h' tk' F' N' o1'
        (try simp only [LCg.Off1, and_true] at o1')
        (try dsimp only)
        k_steps
        all_goals first
          | (rename News _ _ _ rest => kR; rename News h₀ L _ (_ :: _) => kN; exact h _ _ _ (dueL_nil hu8 (by assumption) hns) (by assumption) (news_join (own := [_]) kN kR (by lcg_sub)))
          | (exfalso; simp at *; done)
      | cons n tn hr =>
        unfold LCg.FinA
        intro D' h' tk' F' N' o1'
        (try simp only [LCg.Off1, and_true] at o1')
        (try dsimp only)
        k_steps
        all_goals first
          | (rename News _ _ _ rest => kR; rename News h₀ L _ (_ :: _) => kN; exact h _ _ _ (dueL_cons hu8 (by assumption) hns) (by assumption) (news_join (own := [_]) kN kR (by lcg_sub)))
          | exact absurd (of_decide_eq_true (by assumption)) (List.cons_ne_nil _ _)
  · rename News _ _ _ rest => kR
    rename News h₀ L _ (_ :: _) => kN
    exact h _ _ _ (dueL_self (by assumption)) (by assumption) (news_join (own := [_]) kN kR (by lcg_sub))

end
local macro_rules | `(tactic| walk_at "no such key") => `(tactic| skip)
local macro_rules | `(tactic| walk_at "no such key") => `(tactic| skip)
local macro_rules | `(tactic| walk_at "no such key") => `(tactic| skip)
local macro_rules | `(tactic| walk_at "no such key") => `(tactic| skip)
local macro_rules | `(tactic| walk_at "no such key") => `(tactic| skip)
local macro_rules | `(tactic| walk_at "no such key") => `(tactic| skip)

section
theorem suppr_0 {led : Bool} {u : Nat} {ks : List Nat} {o : Obj} (h : IsSet8 led ks o) : MWord (0 ≤ u ∧ IsSet8 led (addsK (fun j => j) ks 0) o) := ⟨Nat.zero_le _, h⟩
theorem suppr_step {led : Bool} {u i : Nat} {ks : List Nat} {o : Obj} {z k : Int} (hz : z = (u : Int)) (hk : k = 0 + (i : Int)) (hne : ¬ k = z) (hle : i ≤ u) (h : IsSet8 led (addK (addsK (fun j => j) ks i) i) o) : MWord (i + 1 ≤ u ∧ IsSet8 led (addsK (fun j => j) ks (i + 1)) o) := ⟨by omega, h⟩
theorem suppr_at {led : Bool} {u i : Nat} {ks : List Nat} {o : Obj} {z k : Int} (hz : z = (u : Int)) (hk : k = 0 + (i : Int)) (he : k = z) (h : IsSet8 led (addsK (fun j => j) ks i) o) : IsSet8 led (addsK (fun j => j) ks u) o := by
  have : i = u := by omega
  exact this ▸ h
local macro_rules | `(tactic| walk_at "call builtin:set.add") => `(tactic| (k_here; k_dflt (refine' set_add ?F ?N ?U ?hS ?hz ?hk ?_; (case F => k_asm); (case N => k_asm); (case U => k_updF); (case hS => assumption); (case hz => (rename (_ = 0 + _) => hkk; exact hkk.trans (Int.zero_add _))); (case hk => assumption)); intro h' o' F' N' hS'; (try dsimp only at N')))
local macro_rules | `(tactic| walk_at "pyIter ref") => `(tactic| (k_here; (with_reducible show wpAny _ _ (pyIter (Value.ref _)) (fun it s₂ => LoopAtV _ _ _ _ _ _ _ _ _ it s₂) _ _); refine MStop.out ?_))
local macro_rules | `(tactic| walk_at "InvEndN") => `(tactic| (refine InvEndN.intro (by assumption) (by assumption) (wordO_intro (pre := []) ?wP ?wS) (by rfl) (by (with_unfolding_all ((try simp only [List.nil_append, List.cons_append]); k_allIn))) (by (intro p hp; k_ownIn)); (case wS => (intro z h1 h2; first | rfl | (simp only [if_neg h1]; done) | (simp only [if_neg h1]; rfl) | (simp [h1, h2]; done) | (simp_all; done)))))

set_option maxHeartbeats 8000000 in
theorem suppr_c {w : World} {mean : ExcName → Option Value} {mg mb : Str → Option Value} {dp un : Nat} {gd : Option (List Code)} {cn : Str} {cs : Scope} {a : Addr} {ccd : Value} {cl : List (Str × Addr)} {outer : List Env} {A₀ : Around} {base h₀ : Heap} {L : Addr} {m : Str → Option Value} {s : Shared} {Q E : Value → Shared → Prop}
    {news rest : List (Addr × Obj)} {W : Addr} {o : Obj} {ks : List Nat} {u : Nat} {z : Int} {t : Tok}
    (B : Below A₀ base outer h₀) (F : Fr h₀ L s.heap m) (X : (Mine.hd.heap_39 w.params).In h₀) (N : News h₀ L s.heap news)
    (T : Top Mine.hd.view_39 (looseW Mine.hd.view_39 [Str.ofString "_date_and_delta", Str.ofString "_THOUSANDS_SEPARATOR", Str.ofString "_DECIMAL_SEPARATOR"]) mean mg mb h₀)
    (hk : cs.kind = .function)
    (hown : ∀ q ∈ [(W, o)], q ∈ news) (hrest : ∀ q ∈ rest, q ∈ news ∧ ∀ z ∈ [(W, o)], q.1 ≠ z.1)
    (hS : IsSet8 (ledOf w) ks o) (hz : z = (u : Int)) (hu8 : u < 8)
    (hd : dp < 800) (hu : un < 1000)
    (h : ∀ (D : Addr) (o' : Obj) (h' : Heap) (tk' : Nat), IsSet8 (ledOf w) (addsK (fun j => j) ks u) o' → @Ne Nat D W → Fr h₀ L h' m → News h₀ L h' ((D, o') :: (W, o) :: rest) → Q (.ref D) { s with heap := h', toks := tk' }) :
    wpAny (model PySem.Challenge.rw_aq6038_01.row.prog w) (ktrTop dp un gd cn cs L a ccd cl outer) (call (.ref 128) [.int z t, .ref W]) Q E s := by
  revert X; k_fill; intro X
  have hW : TheWordO (fun i o => i ≤ u ∧ IsSet8 (ledOf w) (addsK (fun j => j) ks i) o) [] := .mk
  refine wpAny_call ?_
  k_dflt (walk_at "mine enter")
  k_steps
  all_goals (try refine MStop.mk ?_)
  k_dflt (refine' range_saidO (n := 8) ?hw ?hh ?hr ?hs ?hn ?F ?N ?hP ?turn ?done; (case hw => assumption); (case hh => rfl); (case hr => assumption); (case hs => decide); (case hn => first | rfl | decide); (case F => k_asm); (case N => k_asm))
  (case' turn => (intro i' k' t' ob' u' h' tk' own' hi' hk' hP' off' F' N'; (obtain ⟨hle', hS'⟩ := hP'); (try simp only [List.nil_append, List.cons_append, List.map_cons, List.map_nil] at N' off'); (try k_sweep); (try k_fold)))
  (case' done => (intro ob' u' h' tk' hP' F' N'; (obtain ⟨hle', hS'⟩ := hP'); (try k_sweep); (try dsimp only)))
  all_goals k_steps
  all_goals (try walk_at "InvEndN")
  all_goals first
    | exact suppr_0 (by assumption)
    | exact suppr_step hz (by assumption) (by assumption) (by assumption) (by assumption)
    | (exfalso; omega)
    | (rename News _ _ _ rest => kR; rename News h₀ L _ (_ :: _) => kN; exact h _ _ _ _ (suppr_at hz (by assumption) (by assumption) (by assumption)) (by k_ne) (by assumption) (news_join (own := [_, _]) kN kR (by lcg_sub)))

end
local macro_rules | `(tactic| walk_at "no such key") => `(tactic| skip)
local macro_rules | `(tactic| walk_at "no such key") => `(tactic| skip)
local macro_rules | `(tactic| walk_at "no such key") => `(tactic| skip)
local macro_rules | `(tactic| walk_at "no such key") => `(tactic| skip)
local macro_rules | `(tactic| walk_at "no such key") => `(tactic| skip)
local macro_rules | `(tactic| walk_at "no such key") => `(tactic| skip)

section
set_option maxHeartbeats 8000000 in
theorem rnd_c {w : World} {mean : ExcName → Option Value} {mg mb : Str → Option Value} {dp un : Nat} {gd : Option (List Code)} {cn : Str} {cs : Scope} {a : Addr} {ccd : Value} {cl : List (Str × Addr)} {outer : List Env} {A₀ : Around} {base h₀ : Heap} {L : Addr} {m : Str → Option Value} {s : Shared} {Q E : Value → Shared → Prop}
    {news rest : List (Addr × Obj)} {v : Int} {t t' : Tok}
    (B : Below A₀ base outer h₀) (F : Fr h₀ L s.heap m) (X : (Mine.hd.heap_39 w.params).In h₀) (N : News h₀ L s.heap news)
    (T : Top Mine.hd.view_39 (looseW Mine.hd.view_39 [Str.ofString "_date_and_delta", Str.ofString "_THOUSANDS_SEPARATOR", Str.ofString "_DECIMAL_SEPARATOR"]) mean mg mb h₀)
    (hk : cs.kind = .function)
    (hown : ∀ q ∈ ([] : List (Addr × Obj)), q ∈ news) (hrest : ∀ q ∈ rest, q ∈ news ∧ ∀ z ∈ ([] : List (Addr × Obj)), q.1 ≠ z.1)
    (hv0 : 0 ≤ v) (hv : v < 1000000)
    (hd : dp < 800) (hu : un < 1000)
    (h : ∀ (t'' : Tok) (h' : Heap) (tk' : Nat), Fr h₀ L h' m → News h₀ L h' rest → Q (.int v t'') { s with heap := h', toks := tk' }) :
    wpAny (model PySem.Challenge.rw_aq6038_01.row.prog w) (ktrTop dp un gd cn cs L a ccd cl outer) (call (.ref 135) [.str (Str.ofString "%d") t, .int v t']) Q E s := by
  revert X; k_fill; intro X
  refine wpAny_call ?_
  k_dflt (walk_at "mine enter")
  k_steps
  rename News _ _ _ rest => kR
  exact h _ _ _ (by assumption) kR

end
local macro_rules | `(tactic| walk_at "no such key") => `(tactic| skip)
local macro_rules | `(tactic| walk_at "no such key") => `(tactic| skip)
local macro_rules | `(tactic| walk_at "no such key") => `(tactic| skip)
local macro_rules | `(tactic| walk_at "no such key") => `(tactic| skip)
local macro_rules | `(tactic| walk_at "no such key") => `(tactic| skip)
local macro_rules | `(tactic| walk_at "no such key") => `(tactic| skip)

section
open PySem.Float64 in
theorem rep {M s : Nat} (h0 : 0 < M) (hM : M < 2 ^ 53) (hs : 52 ≤ s) : ∃ t, V t = M * 2 ^ s := by
  have h1 := Nat.log2_self_le (Nat.ne_of_gt h0)
  have h2 : M < 2 ^ (M.log2 + 1) := Nat.lt_log2_self
  have h3 : M.log2 ≤ 52 := by
    rcases Nat.lt_or_ge 52 M.log2 with q | q
    · have : 2 ^ 53 ≤ 2 ^ M.log2 := Nat.pow_le_pow_right (by decide) q
      omega
    · exact q
  have e1 : 2 ^ (52 - M.log2) * 2 ^ M.log2 = 2 ^ 52 := by rw [← Nat.pow_add]; congr 1; omega
  have e2 : 2 ^ (52 - M.log2) * 2 ^ (M.log2 + 1) = 2 ^ 53 := by rw [← Nat.pow_add]; congr 1; omega
  have hlo : 2 ^ 52 ≤ M * 2 ^ (52 - M.log2) := by
    rw [Nat.mul_comm, ← e1]; exact Nat.mul_le_mul_left _ h1
  have hhi : M * 2 ^ (52 - M.log2) ≤ 2 ^ 53 := by
    rw [Nat.mul_comm, ← e2]; exact Nat.mul_le_mul_left _ (Nat.le_of_lt h2)
  refine ⟨(s - (52 - M.log2)) * 2 ^ 52 + M * 2 ^ (52 - M.log2), ?_⟩
  rw [V_at hhi (.inl hlo), Nat.mul_assoc, ← Nat.pow_add]
  congr 2
  omega

open PySem.Float64 in
theorem trunc_val {m : Nat} {e : Int} {W : Nat} (he : -1074 ≤ e) (hW : m * 2 ^ (e + 1074).toNat = W) : truncOf false m e = ((W / 2 ^ 1074 : Nat) : Int) := by
  unfold truncOf floorOf sgn
  simp only [Bool.false_eq_true, if_false]
  subst hW
  by_cases h : e ≥ 0
  · rw [if_pos h]
    have e1 : (e + 1074).toNat = e.toNat + 1074 := by omega
    rw [e1, Nat.pow_add, ← Nat.mul_assoc, Nat.mul_div_cancel _ (Nat.pow_pos (by decide))]
    simp
  · rw [if_neg h]
    have e1 : 1074 = (e + 1074).toNat + (-e).toNat := by omega
    have e2 : 2 ^ 1074 = 2 ^ (e + 1074).toNat * 2 ^ (-e).toNat := by rw [← Nat.pow_add, ← e1]
    rw [e2, Nat.mul_comm m, Nat.mul_div_mul_left _ _ (Nat.pow_pos (by decide))]
    rw [Int.fdiv_eq_ediv_of_nonneg _ (by exact_mod_cast Nat.zero_le _)]
    norm_cast

open PySem.Float64 in
theorem near {n d K y Vt : Nat} (hd : 0 < d) (h : dist (n * K) (d * Vt) ≤ dist (n * K) (d * y)) : (d * y ≤ n * K → y ≤ Vt) ∧ (n * K ≤ d * y → Vt ≤ y ∨ n * K ≤ d * Vt ∧ d * Vt ≤ d * y) := by
  unfold dist at h
  constructor
  · intro h1
    rcases Nat.lt_or_ge Vt y with q | q
    · have : d * Vt < d * y := Nat.mul_lt_mul_of_pos_left q hd
      omega
    · exact q
  · intro h1
    rcases Nat.lt_or_ge y Vt with q | q
    · have : d * y < d * Vt := Nat.mul_lt_mul_of_pos_left q hd
      omega
    · exact .inl q

open PySem.Float64 in
/-- the float quotient, cut, is the int quotient -/
theorem trunc_div {v d : Nat} (hd : 0 < d) (hd2 : d ≤ 3600) (hv : v < 2 ^ 20) : ∃ m e, decode (ofFrac false v d) = .fin false m e ∧ truncOf false m e = ((v / d : Nat) : Int) := by
  by_cases hov : roundMag v d < infMag
  · obtain ⟨m, e, h1, h3⟩ := decode_pack false hov
    have h2 := decode_ge h1
    refine ⟨m, e, by unfold ofFrac; exact h1, ?_⟩
    rw [trunc_val h2 h3]
    congr 1
    have hdiv := Nat.div_add_mod v d
    have hr := Nat.mod_lt v hd
    have hq : v / d ≤ v := Nat.div_le_self _ _
    generalize v / d = q at *
    generalize v % d = r at *
    have hK : 0 < 2 ^ 1074 := Nat.pow_pos (by decide)
    have eK : 2 ^ 1074 = 2 ^ 13 * 2 ^ 1061 := by rw [← Nat.pow_add]
    -- from below
    have lo : q * 2 ^ 1074 ≤ V (roundMag v d) := by
      rcases Nat.eq_zero_or_pos q with hq0 | hq0
      · rw [hq0, Nat.zero_mul]; exact Nat.zero_le _
      · obtain ⟨t, ht⟩ := rep hq0 (by omega) (s := 1074) (by decide)
        have := (roundMag_right hd hov t).1
        rw [ht] at this
        refine (near hd this).1 ?_
        rw [← Nat.mul_assoc]
        exact Nat.mul_le_mul_right _ (by rw [← hdiv]; exact Nat.le_add_right _ _)
    -- from above
    have hi : V (roundMag v d) < (q + 1) * 2 ^ 1074 := by
      obtain ⟨t, ht⟩ := rep (M := (q + 1) * 2 ^ 13 - 1) (by omega) (by omega) (s := 1061) (by decide)
      have := (roundMag_right hd hov t).1
      rw [ht] at this
      have hle : v * 2 ^ 1074 ≤ d * (((q + 1) * 2 ^ 13 - 1) * 2 ^ 1061) := by
        rw [eK, ← Nat.mul_assoc, ← Nat.mul_assoc]
        refine Nat.mul_le_mul_right _ ?_
        rw [← hdiv, Nat.mul_sub, Nat.mul_one, Nat.add_mul q 1, Nat.mul_add, Nat.add_mul]
        have e3 : d * (q * 2 ^ 13) = d * q * 2 ^ 13 := by rw [Nat.mul_assoc]
        rw [e3, Nat.one_mul]
        omega
      have hy : ((q + 1) * 2 ^ 13 - 1) * 2 ^ 1061 < (q + 1) * 2 ^ 1074 := by
        rw [eK, ← Nat.mul_assoc]
        exact Nat.mul_lt_mul_of_pos_right (by omega) (Nat.pow_pos (by decide))
      rcases (near hd this).2 hle with h | ⟨_, h⟩
      · exact Nat.lt_of_le_of_lt h hy
      · exact Nat.lt_of_le_of_lt (Nat.le_of_mul_le_mul_left h hd) hy
    exact Nat.div_eq_of_lt_le lo hi
  · exfalso
    have h := (roundMag_over (n := v) hd).mp (by have := roundMag_le v d; omega)
    have : 2 * (v * 2 ^ 1074) < d * ((2 ^ 54 - 1) * 2 ^ 2045) := by
      have e5 : 2 ^ 2045 = 2 ^ 971 * 2 ^ 1074 := by rw [← Nat.pow_add]
      rw [e5]
      have a1 : 2 * (v * 2 ^ 1074) = (2 * v) * 2 ^ 1074 := by rw [Nat.mul_assoc]
      have a2 : d * ((2 ^ 54 - 1) * (2 ^ 971 * 2 ^ 1074)) = (d * ((2 ^ 54 - 1) * 2 ^ 971)) * 2 ^ 1074 := by rw [Nat.mul_assoc, Nat.mul_assoc]
      rw [a1, a2]
      refine Nat.mul_lt_mul_of_pos_right ?_ (Nat.pow_pos (by decide))
      have b1 : (2 ^ 54 - 1) * 2 ^ 971 ≤ d * ((2 ^ 54 - 1) * 2 ^ 971) := Nat.le_mul_of_pos_left _ hd
      have b2 : 2 * v < 2 ^ 21 := by omega
      have b3 : (2 : Nat) ^ 21 ≤ (2 ^ 54 - 1) * 2 ^ 971 := by decide
      omega
    omega

end
local macro_rules | `(tactic| walk_at "no such key") => `(tactic| skip)
local macro_rules | `(tactic| walk_at "no such key") => `(tactic| skip)
local macro_rules | `(tactic| walk_at "no such key") => `(tactic| skip)
local macro_rules | `(tactic| walk_at "no such key") => `(tactic| skip)
local macro_rules | `(tactic| walk_at "no such key") => `(tactic| skip)
local macro_rules | `(tactic| walk_at "no such key") => `(tactic| skip)

section
namespace Pct

theorem lk_int : typeLookup (.type "float") "__int__" = pure (some (.builtin "float.__int__")) := by rw [typeLookup_type, builtinLookup_eq_fast]; kernel_rfl
theorem lk_index : typeLookup (.type "float") "__index__" = pure none := by rw [typeLookup_type, builtinLookup_eq_fast]; kernel_rfl
theorem lk_float : typeLookup (.type "float") "__float__" = pure (some (.builtin "float.__float__")) := by rw [typeLookup_type, builtinLookup_eq_fast]; kernel_rfl
theorem lk_trunc : typeLookup (.type "float") "__trunc__" = pure (some (.builtin "float.__trunc__")) := by rw [typeLookup_type, builtinLookup_eq_fast]; kernel_rfl
section
variable {prog : Program} {w : World} {A : Around} {E : Value → Shared → Prop} {s : Shared} {x : UInt64} {u t : Tok}
set_option maxHeartbeats 4000000 in
theorem pint_float {sg : Bool} {m : Nat} {e : Int} {Q : Int → Shared → Prop} (hd : Float64.decode x = .fin sg m e) (h : ∀ k, Q (Float64.truncOf sg m e) { s with toks := k }) : wpAny (model prog w) A (PySem.Builtin.Str.percentIntOf 100 (.float x u)) Q E s := by
  have hT : s.TypeIs (.float x u) "float" := rfl
  have f0 : asInt? (.float x u) = pure none := rfl
  have f1 : specialOf (.float x u) "__int__" = pure (some (.builtin "float.__int__")) := lk_int
  have f2 : specialOf (.float x u) "__index__" = pure none := lk_index
  have f3 : specialOf (.float x u) "__float__" = pure (some (.builtin "float.__float__")) := lk_float
  have f4 : specialOf (.float x u) "__trunc__" = pure (some (.builtin "float.__trunc__")) := lk_trunc
  unfold PySem.Builtin.Str.percentIntOf
  simp only [f0, f1, f2, f3, f4, pure_bind, Option.isSome]
  simp only [beq_self_eq_true, Bool.true_or, Bool.true_and, Bool.not_true, Bool.false_and, Bool.false_eq_true, if_false, if_true, pure_bind]
  refine wpAny_bind (wpAny_attempt (wpAny_bind ?_))
  refine wpAny_callSpecial?_slot (name := Str.ofString "__int__") hT F.slot_float_int ?_
  refine call_gives F.slot_float_int hT F.entry_float_int (F.args_float_int_1 _) (gives_float_int x u hd) ?_
  dsimp only [Made.post]
  exact wpAny_pure (wpAny_pure (h _))
set_option maxHeartbeats 4000000 in
theorem meets_dF {n : Int} {sg : Bool} {m : Nat} {e : Int} (hd : Float64.decode x = .fin sg m e) (hn : Float64.truncOf sg m e = n) (h0 : 0 ≤ n) (h1 : n < 10 ^ 10) (hb : n.natAbs.log2 < 1920) :
    Meets (PySem.Builtin.«str.__mod__» ⟨[.str ⟨#[37, 100]⟩ t, .float x u], []⟩) (fun _ R s => ∀ t' k, R (.ok (.ret (.str (PySem.Str.ofString (toString n)) t'))) { s with toks := k }) := by
  apply KPc.meets_of
  intro _ _ _ _ _ _ _
  rw [KPt.entry_is_f]
  unfold PySem.Builtin.Str.percentFormat
  refine wpAny_bind (wpAny_isInstance (AutoFloatOps.typeIs_float _ _ _) F.sub_float_tuple ?_)
  refine wpAny_bind (wpAny_of_eq (a := none) rfl ?_)
  refine wpAny_bind (wpAny_of_eq (KPt.fills_float _ _) ?_)
  kpc_if
  refine wpAny_bind (wpAny_pure ?_)
  refine wpAny_bind ?_
  rw [KPc.range_list]
  refine KPc.start ?_
  intro _ _
  refine KPc.turn ?_
  kpc_check
  (repeat kpc_if)
  refine wpAny_bind ?_
  refine wpAny_holding ?_
  (repeat kpc_if)
  refine wpAny_bind (pint_float hd ?_)
  intro _
  rw [hn]
  (repeat kpc_if)
  refine wpAny_bind (wpAny_mkInt ?_)
  refine wpAny_bind (call_gives F.slot_int_repr (typeIs_int _ _ _) F.entry_int_repr (F.args_int_repr_1 _) (gives_int_repr _ _ (KPt.hd2 hb)) ⟨int_text_fits (KPt.hd2 hb), ?_⟩)
  refine wpAny_bind (wpAny_of_eq (a := some _) rfl ?_)
  refine wpAny_pure ?_
  refine wpAny_pure ?_
  kpt_piece
  kpt_turns
def f5 : PySem.Builtin.Str.Percent := { width := some 5, type := 100 }
def pad5 (n : Nat) : List Nat := (PySem.Builtin.Str.percentField f5 true ((toString n).toList.map Char.toNat)).getD []
theorem fact5 : ∀ n : Fin 99, PySem.Builtin.Str.percentField f5 true (PySem.Builtin.Str.percentInt f5 (decide ((n.val : Int) < 0)) (PySem.Str.ofString (toString (((n.val : Int).natAbs : Nat) : Int))).cps.toList) = some (pad5 n.val) := by decide +kernel
theorem len5 : ∀ n : Fin 99, (pad5 n.val).length ≤ 10 := by decide +kernel
theorem read5 : ∀ n : Fin 99, PySem.intText? ⟨(pad5 n.val).toArray⟩ = some (n.val : Int) := by decide +kernel
def str5 (n : Nat) : PySem.Str := ⟨(pad5 n).toArray⟩
set_option maxHeartbeats 4000000 in
theorem wpAny_match_field {M : Model} {A : Around} {E : Value → Shared → Prop} {s : Shared} {β : Type} {o : Option (List Nat)} {l : List Nat} {X : Sem β} {Y : List Nat → Sem β} {Q : β → Shared → Prop} (he : o = some l) (h : wpAny M A (Y l) Q E s) :
    wpAny M A (match o with | none => X | some l => Y l) Q E s := by
  subst he
  exact h
set_option maxHeartbeats 4000000 in
theorem meets_5d {n : Nat} (h1 : n < 99) (hb : (n : Int).natAbs.log2 < 1920) :
    Meets (PySem.Builtin.«str.__mod__» ⟨[.str ⟨#[37, 53, 100]⟩ t, .int (n : Int) u], []⟩) (fun _ R s => ∀ t' k, R (.ok (.ret (.str (str5 n) t'))) { s with toks := k }) := by
  apply KPc.meets_of
  intro _ _ _ _ _ _ _
  rw [KPc.entry_is]
  unfold PySem.Builtin.Str.percentFormat
  refine wpAny_bind (wpAny_isInstance (typeIs_int _ _ _) F.sub_int_tuple ?_)
  refine wpAny_bind (wpAny_of_eq (a := none) rfl ?_)
  refine wpAny_bind (wpAny_of_eq (KPc.fills _ _) ?_)
  kpc_if
  refine wpAny_bind (wpAny_pure ?_)
  refine wpAny_bind ?_
  rw [KPc.range_list]
  refine KPc.start ?_
  intro _ _
  refine KPc.turn ?_
  kpc_check
  (repeat kpc_if)
  refine wpAny_bind ?_
  refine wpAny_holding ?_
  (repeat kpc_if)
  refine wpAny_bind (wpAny_of_eq (a := _) rfl ?_)
  (repeat kpc_if)
  refine wpAny_bind (wpAny_mkInt ?_)
  refine wpAny_bind (call_gives F.slot_int_repr (typeIs_int _ _ _) F.entry_int_repr (F.args_int_repr_1 _) (gives_int_repr _ _ (KPt.hd2 hb)) ⟨int_text_fits (KPt.hd2 hb), ?_⟩)
  refine wpAny_bind (wpAny_of_eq (a := some _) rfl ?_)
  refine wpAny_pure ?_
  have e5 := fact5 ⟨n, h1⟩
  unfold f5 at e5
  simp only [List.reverse_nil, List.contains_nil]
  refine wpAny_match_field e5 ?_
  refine wpAny_pure ?_
  refine KPc.after_add0 (by kpc_g) (y := str5 n) rfl (KPc.obj_none rfl) ?_
  intro _ g5
  have g6 := KPc.good_mono g5 (K := 10) (by rw [Nat.zero_add]; unfold str5 PySem.Str.length; rw [List.size_toArray]; exact len5 ⟨n, h1⟩)
  clear g5
  kpt_turns
end
end Pct

end
local macro_rules | `(tactic| walk_at "no such key") => `(tactic| skip)
local macro_rules | `(tactic| walk_at "no such key") => `(tactic| skip)
local macro_rules | `(tactic| walk_at "no such key") => `(tactic| skip)
local macro_rules | `(tactic| walk_at "no such key") => `(tactic| skip)
local macro_rules | `(tactic| walk_at "no such key") => `(tactic| skip)
local macro_rules | `(tactic| walk_at "no such key") => `(tactic| skip)

section
namespace Pct
section
variable {prog : Program} {w : World} {A : Around} {E : Value → Shared → Prop} {s : Shared} {x : UInt64} {u t : Tok} {X : PySem.Str} {n : Nat} {Q : Value → Shared → Prop}
theorem mod5 (hX : X = ⟨#[37, 53, 100]⟩) (hn : n < 99) (h : ∀ t' k, Q (.str (str5 n) t') { s with toks := k }) : wpAny (model prog w) A (binaryOp .Mod (.str X t) (.int (n : Int) u)) Q E s :=
  KPc.mod_lit hX (shown (N := 2 ^ 1920) (by omega) (by omega) (Int.le_refl _)) (fun hd _ => meets_5d hn hd) h
theorem int5 (hn : n < 99) (h : Q (.int (n : Int) s.toks) { s with toks := s.toks + 1 }) : wpAny (model prog w) A (call (.type "int") [.str (str5 n) t]) Q E s :=
  KIN.call_text (read5 ⟨n, hn⟩) (Nat.le_trans (by unfold str5 PySem.Str.length; rw [List.size_toArray]; exact len5 ⟨n, hn⟩) (by decide : 10 ≤ 640)) h
theorem modF {v d : Nat} (hX : X = ⟨#[37, 100]⟩) (hv : v < 2 ^ 20) (hd0 : 0 < d) (hd : d ≤ 3600) (hx : x = Float64.ofFrac false v d) (h : ∀ t' k, Q (.str (PySem.Str.ofString (toString ((v / d : Nat) : Int))) t') { s with toks := k }) :
    wpAny (model prog w) A (binaryOp .Mod (.str X t) (.float x u)) Q E s := by
  subst hx
  obtain ⟨m, e, h1, h2⟩ := trunc_div hd0 hd hv
  have h3 : v / d ≤ v := Nat.div_le_self _ _
  generalize v / d = q at h h2 h3
  exact KPt.mod_float hX (meets_dF h1 h2 (by omega) (by omega) (shown (N := 2 ^ 1920) (by omega) (by omega) (Int.le_refl _))) h
theorem modQ {v d : Nat} (hX : X = ⟨#[37, 100]⟩) (hv : v < 2 ^ 20) (hd0 : 0 < d) (hd : d ≤ 3600) (hx : x = Float64.ofFrac false v d) (h : ∀ (q : Int), q = (v : Int).fdiv (d : Int) → 0 ≤ q → q < 2 ^ 20 → ∀ t' k, Q (.str (PySem.Str.ofString (toString q)) t') { s with toks := k }) :
    wpAny (model prog w) A (binaryOp .Mod (.str X t) (.float x u)) Q E s :=
  modF hX hv hd0 hd hx (h ((v / d : Nat) : Int) (by rw [Int.fdiv_eq_ediv_of_nonneg _ (by omega)]; rfl) (Int.natCast_nonneg _) (by have := Nat.div_le_self v d; generalize v / d = q at this ⊢; omega))
end
end Pct
section
local macro_rules | `(tactic| walk_at "binaryOp Mod str int") => `(tactic| (k_here; k_dflt (refine' Pct.mod5 ?hX ?hn ?_; (case hX => kpc_eq); (case hn => assumption)); intro _ _))
local macro_rules | `(tactic| walk_at "call type:int") => `(tactic| (k_here; (with_reducible show wpAny _ _ (call (Value.type "int") [Value.str _ _]) _ _ _); k_dflt (refine' Pct.int5 ?hn ?_; (case hn => assumption))))
set_option maxHeartbeats 8000000 in
theorem rnd5_c {w : World} {mean : ExcName → Option Value} {mg mb : Str → Option Value} {dp un : Nat} {gd : Option (List Code)} {cn : Str} {cs : Scope} {a : Addr} {ccd : Value} {cl : List (Str × Addr)} {outer : List Env} {A₀ : Around} {base h₀ : Heap} {L : Addr} {m : Str → Option Value} {s : Shared} {Q E : Value → Shared → Prop}
    {news rest : List (Addr × Obj)} {v : Int} {t t' : Tok}
    (B : Below A₀ base outer h₀) (F : Fr h₀ L s.heap m) (X : (Mine.hd.heap_39 w.params).In h₀) (N : News h₀ L s.heap news)
    (T : Top Mine.hd.view_39 (looseW Mine.hd.view_39 [Str.ofString "_date_and_delta", Str.ofString "_THOUSANDS_SEPARATOR", Str.ofString "_DECIMAL_SEPARATOR"]) mean mg mb h₀)
    (hk : cs.kind = .function)
    (hown : ∀ q ∈ ([] : List (Addr × Obj)), q ∈ news) (hrest : ∀ q ∈ rest, q ∈ news ∧ ∀ z ∈ ([] : List (Addr × Obj)), q.1 ≠ z.1)
    (hv0 : 0 ≤ v) (hv : v < 99)
    (hd : dp < 800) (hu : un < 1000)
    (h : ∀ (t'' : Tok) (h' : Heap) (tk' : Nat), Fr h₀ L h' m → News h₀ L h' rest → Q (.int v t'') { s with heap := h', toks := tk' }) :
    wpAny (model PySem.Challenge.rw_aq6038_01.row.prog w) (ktrTop dp un gd cn cs L a ccd cl outer) (call (.ref 135) [.str (Str.ofString "%5d") t, .int v t']) Q E s := by
  revert X; k_fill; intro X
  obtain ⟨n, rfl⟩ : ∃ n : Nat, v = (n : Int) := ⟨v.toNat, by omega⟩
  have hn : n < 99 := by omega
  refine wpAny_call ?_
  k_dflt (walk_at "mine enter")
  k_steps
  rename News _ _ _ rest => kR
  exact h _ _ _ (by assumption) kR
end
section
local macro_rules | `(tactic| walk_at "binaryOp Mod str float") => `(tactic| (k_here; k_dflt (refine' Pct.modF ?hX ?hv ?h0 ?hd ?hx ?_; (case hX => kpt_eq); (case hx => assumption); (case hv => assumption); (case h0 => assumption); (case hd => assumption)); intro _ _))
set_option maxHeartbeats 8000000 in
theorem rndf_c {w : World} {mean : ExcName → Option Value} {mg mb : Str → Option Value} {dp un : Nat} {gd : Option (List Code)} {cn : Str} {cs : Scope} {a : Addr} {ccd : Value} {cl : List (Str × Addr)} {outer : List Env} {A₀ : Around} {base h₀ : Heap} {L : Addr} {m : Str → Option Value} {s : Shared} {Q E : Value → Shared → Prop}
    {news rest : List (Addr × Obj)} {v d : Nat} {x : UInt64} {t t' : Tok}
    (B : Below A₀ base outer h₀) (F : Fr h₀ L s.heap m) (X : (Mine.hd.heap_39 w.params).In h₀) (N : News h₀ L s.heap news)
    (T : Top Mine.hd.view_39 (looseW Mine.hd.view_39 [Str.ofString "_date_and_delta", Str.ofString "_THOUSANDS_SEPARATOR", Str.ofString "_DECIMAL_SEPARATOR"]) mean mg mb h₀)
    (hk : cs.kind = .function)
    (hown : ∀ q ∈ ([] : List (Addr × Obj)), q ∈ news) (hrest : ∀ q ∈ rest, q ∈ news ∧ ∀ z ∈ ([] : List (Addr × Obj)), q.1 ≠ z.1)
    (hv : v < 2 ^ 20) (hd0 : 0 < d) (hd36 : d ≤ 3600) (hx : x = Float64.ofFrac false v d)
    (hd : dp < 800) (hu : un < 1000)
    (h : ∀ (t'' : Tok) (h' : Heap) (tk' : Nat), Fr h₀ L h' m → News h₀ L h' rest → Q (.int ((v / d : Nat) : Int) t'') { s with heap := h', toks := tk' }) :
    wpAny (model PySem.Challenge.rw_aq6038_01.row.prog w) (ktrTop dp un gd cn cs L a ccd cl outer) (call (.ref 135) [.str (Str.ofString "%d") t, .float x t']) Q E s := by
  revert X; k_fill; intro X
  have hdv : v / d < 2 ^ 20 := Nat.lt_of_le_of_lt (Nat.div_le_self _ _) hv
  generalize hq : v / d = q at h hdv
  refine wpAny_call ?_
  k_dflt (walk_at "mine enter")
  k_steps
  subst hq
  rename News _ _ _ rest => kR
  exact h _ _ _ (by assumption) kR
end

end
local macro_rules | `(tactic| walk_at "no such key") => `(tactic| skip)
local macro_rules | `(tactic| walk_at "no such key") => `(tactic| skip)
local macro_rules | `(tactic| walk_at "no such key") => `(tactic| skip)
local macro_rules | `(tactic| walk_at "no such key") => `(tactic| skip)
local macro_rules | `(tactic| walk_at "no such key") => `(tactic| skip)
local macro_rules | `(tactic| walk_at "no such key") => `(tactic| skip)

section
theorem ofFrac_nat {v d : Nat} : Float64.ofFrac (decide (((v : Nat) : Int) < 0) != decide (((d : Nat) : Int) < 0)) ((v : Nat) : Int).natAbs ((d : Nat) : Int).natAbs = Float64.ofFrac false v d := by
  rw [decide_eq_false (by omega), decide_eq_false (by omega)]
  rfl
def quot (v d one unit : Int) (ks : List Nat) : Int × Int := if one = unit then (v.fdiv d, 0) else if hasZ ks one = true then (0, v) else (v.fdiv d, v.fmod d)
theorem quot_1 {v d one unit q : Int} {ks : List Nat} (h : one = unit) (hq : q = v.fdiv d) : (q, (0 : Int)) = quot v d one unit ks := by unfold quot; rw [if_pos h, hq]
theorem quot_2 {v d one unit : Int} {ks : List Nat} (h : ¬ one = unit) (hq : hasZ ks one = true) : ((0 : Int), v) = quot v d one unit ks := by unfold quot; rw [if_neg h, if_pos hq]
theorem quot_3 {v d one unit : Int} {ks : List Nat} (h : ¬ one = unit) (hq : hasZ ks one = false) : (v.fdiv d, v.fmod d) = quot v d one unit ks := by unfold quot; rw [if_neg h, if_neg (by rw [hq]; decide)]
section
local macro_rules | `(tactic| walk_at "binaryOp Mod str float") => `(tactic| (k_here; k_dflt (refine' Pct.modQ ?hX ?hv ?h0 ?hd ?hx ?_; (case hX => kpt_eq); (case hx => exact ofFrac_nat); (case hv => assumption); (case h0 => assumption); (case hd => assumption)); intro _ _ _ _ _ _))
set_option maxHeartbeats 8000000 in
theorem quot_c {w : World} {mean : ExcName → Option Value} {mg mb : Str → Option Value} {dp un : Nat} {gd : Option (List Code)} {cn : Str} {cs : Scope} {a : Addr} {ccd : Value} {cl : List (Str × Addr)} {outer : List Env} {A₀ : Around} {base h₀ : Heap} {L : Addr} {m : Str → Option Value} {s : Shared} {Q E : Value → Shared → Prop}
    {news rest : List (Addr × Obj)} {v d : Nat} {one unit : Int} {W : Addr} {o : Obj} {ks : List Nat} {t1 t2 t3 t4 t5 : Tok}
    (B : Below A₀ base outer h₀) (F : Fr h₀ L s.heap m) (X : (Mine.hd.heap_39 w.params).In h₀) (N : News h₀ L s.heap news)
    (T : Top Mine.hd.view_39 (looseW Mine.hd.view_39 [Str.ofString "_date_and_delta", Str.ofString "_THOUSANDS_SEPARATOR", Str.ofString "_DECIMAL_SEPARATOR"]) mean mg mb h₀)
    (hk : cs.kind = .function)
    (hown : ∀ q ∈ [(W, o)], q ∈ news) (hrest : ∀ q ∈ rest, q ∈ news ∧ ∀ z ∈ [(W, o)], q.1 ≠ z.1)
    (hS : IsSet8 (ledOf w) ks o)
    (hv : v < 2 ^ 20) (hd0 : 0 < d) (hd36 : d ≤ 3600)
    (hd : dp < 800) (hu : un < 1000)
    (h : ∀ (D : Addr) (x y : Int) (tx ty : Tok) (h' : Heap) (tk' : Nat), (x, y) = quot v d one unit ks → @LT.lt Nat _ W D → Fr h₀ L h' m → News h₀ L h' ((D, ({ cls := .type "tuple", data := .seq #[.int x tx, .int y ty] } : Obj)) :: (W, o) :: rest) → Q (.ref D) { s with heap := h', toks := tk' }) :
    wpAny (model PySem.Challenge.rw_aq6038_01.row.prog w) (ktrTop dp un gd cn cs L a ccd cl outer) (call (.ref 114) [.int (v : Int) t1, .int (d : Int) t2, .int one t3, .int unit t4, .ref W, .str (Str.ofString "%d") t5]) Q E s := by
  revert X; k_fill; intro X
  refine wpAny_call ?_
  k_dflt (walk_at "mine enter")
  k_steps
  all_goals (rename News _ _ _ rest => kR)
  all_goals (rename News h₀ L _ (_ :: _) => kN)
  · exact h _ _ _ _ _ _ _ (quot_1 (by assumption) (by assumption)) (by assumption) (by assumption) (news_join (own := [_, _]) kN kR (by lcg_sub))
  · exact h _ _ _ _ _ _ _ (quot_2 (by first | assumption | (intro q; simp_all)) (by first | assumption | simp_all)) (by assumption) (by assumption) (news_join (own := [_, _]) kN kR (by lcg_sub))
  · exact h _ _ _ _ _ _ _ (quot_3 (by first | assumption | (intro q; simp_all)) (by first | assumption | simp_all)) (by rename _ ∧ _ => hl; exact hl.2) (by assumption) (news_join (own := [_, _]) kN kR (by lcg_sub))
end

end
local macro_rules | `(tactic| walk_at "no such key") => `(tactic| skip)
local macro_rules | `(tactic| walk_at "no such key") => `(tactic| skip)
local macro_rules | `(tactic| walk_at "no such key") => `(tactic| skip)
local macro_rules | `(tactic| walk_at "no such key") => `(tactic| skip)
local macro_rules | `(tactic| walk_at "no such key") => `(tactic| skip)
local macro_rules | `(tactic| walk_at "no such key") => `(tactic| skip)

section
/-- what is left of a ledger beside own -/
inductive Part (own : List (Addr × Obj)) : List (Addr × Obj) → List (Addr × Obj) → Prop
  | nil : Part own [] []
  | skip {p : Addr × Obj} {r r' : List (Addr × Obj)} : p ∈ own → Part own r r' → Part own (p :: r) r'
  | keep {p : Addr × Obj} {r r' : List (Addr × Obj)} : (∀ z ∈ own, z.1 ≠ p.1) → Part own r r' → Part own (p :: r) (p :: r')
  | tail {r : List (Addr × Obj)} : (∀ p ∈ r, ∀ z ∈ own, p.1 ≠ z.1) → Part own r r
theorem Part.rest {own news rest : List (Addr × Obj)} (h : Part own news rest) : ∀ q ∈ rest, q ∈ news ∧ ∀ z ∈ own, q.1 ≠ z.1 := by
  induction h with
  | tail ht => exact fun q hq => ⟨hq, ht q hq⟩
  | nil => exact fun q hq => absurd hq (List.not_mem_nil)
  | skip _ _ ih => exact fun q hq => ⟨List.mem_cons_of_mem _ (ih q hq).1, (ih q hq).2⟩
  | keep hne _ ih =>
    intro q hq
    rcases List.mem_cons.mp hq with e | hq
    · subst e
      exact ⟨List.mem_cons_self, fun z hz e' => hne z hz e'.symm⟩
    · exact ⟨List.mem_cons_of_mem _ (ih q hq).1, (ih q hq).2⟩
theorem Part.tailOf {z : Addr × Obj} {r : List (Addr × Obj)} {adr : List Addr} (h : OwnOff r adr) (hb : z.1 ∈ adr) : Part [z] r r := .tail fun p hp x hx => by
  have e := List.mem_singleton.mp hx
  subst e
  exact h p hp _ hb
theorem all_cons {α : Type} {P : α → Prop} {a : α} {l : List α} (h : P a) (r : ∀ x ∈ l, P x) : ∀ x ∈ a :: l, P x := List.forall_mem_cons.mpr ⟨h, r⟩
theorem all_nil {α : Type} {P : α → Prop} : ∀ x ∈ ([] : List α), P x := fun _ h => nomatch h
section
variable {w : World} {mean : ExcName → Option Value} {mg mb : Str → Option Value} {dp un : Nat} {gd : Option (List Code)} {cn : Str} {cs : Scope} {a : Addr} {ccd : Value} {cl : List (Str × Addr)} {outer : List Env} {A₀ : Around} {base h₀ : Heap} {L : Addr} {m : Str → Option Value} {s : Shared} {Q E : Value → Shared → Prop}
    {news rest : List (Addr × Obj)} {D A : Addr} {vs : List Value} {nA nD : Nat} {sd : Int} {t tm : Tok} {mny : Int}
theorem take_u
    (B : Below A₀ base outer h₀) (F : Fr h₀ L s.heap m) (X : (Mine.hd.heap_39 w.params).In h₀) (N : News h₀ L s.heap news)
    (T : Top Mine.hd.view_39 (looseW Mine.hd.view_39 [Str.ofString "_date_and_delta", Str.ofString "_THOUSANDS_SEPARATOR", Str.ofString "_DECIMAL_SEPARATOR"]) mean mg mb h₀)
    (hk : cs.kind = .function)
    (hD : (D, listOf #[.ref A, .int sd t] nD) ∈ news) (hA : (A, listOf vs.toArray nA) ∈ news)
    (hrest : Part [(D, listOf #[.ref A, .int sd t] nD), (A, listOf vs.toArray nA)] news rest)
    (hne : @Ne Nat D A)
    (hv : Drawn vs sd) (hm0 : 0 < mny) (hm : mny < 2 ^ 62)
    (hd : dp < 800) (hu : un < 1000)
    (h : ∀ (v : Int) (t' t'' : Tok) (vs' : List Value) (nA' nD' : Nat) (sd' : Int) (h' : Heap) (tk' : Nat), Fr h₀ L h' m →
      News h₀ L h' ((D, listOf #[.ref A, .int sd' t''] nD') :: (A, listOf vs'.toArray nA') :: rest) → Drawn vs' sd' → 0 ≤ v → v < mny →
      Q (.int v t') { s with heap := h', toks := tk' }) :
    wpAny (model PySem.Challenge.rw_aq6038_01.row.prog w) (ktrTop dp un gd cn cs L a ccd cl outer) (call (.ref 205) [.ref D, .int mny tm]) Q E s :=
  take_c B F X N T hk (all_cons hD (all_cons hA all_nil)) hrest.rest hne hv hm0 hm hd hu h
theorem told_u {W : Addr} {o : Obj} {ks : List Nat} {z : Int}
    (B : Below A₀ base outer h₀) (F : Fr h₀ L s.heap m) (X : (Mine.hd.heap_39 w.params).In h₀) (N : News h₀ L s.heap news)
    (T : Top Mine.hd.view_39 (looseW Mine.hd.view_39 [Str.ofString "_date_and_delta", Str.ofString "_THOUSANDS_SEPARATOR", Str.ofString "_DECIMAL_SEPARATOR"]) mean mg mb h₀)
    (hk : cs.kind = .function)
    (XB : (Mine.hd.heap_39 w.params).In base) (TB : Top Mine.hd.view_39 (looseW Mine.hd.view_39 [Str.ofString "_date_and_delta", Str.ofString "_THOUSANDS_SEPARATOR", Str.ofString "_DECIMAL_SEPARATOR"]) mean mg mb base) (kd : KtsDicts (outer.filterMap (·.frame)) h₀)
    (hW : (W, o) ∈ news) (hrest : Part [(W, o)] news rest)
    (hS : IsSet8 (ledOf w) ks o) (hz0 : 0 ≤ z) (hz8 : z < 8) (hd : dp < 800) (hu : un < 1000)
    (h : ∀ (v : Value) (h' g' : Heap) (tk' : Nat), IsOpt v (due z.toNat ks) → KtsTurn (outer.filterMap (·.frame)) h₀ g' → Fr g' L h' m → News g' L h' ((W, o) :: rest) → Below A₀ base outer g' → (Mine.hd.heap_39 w.params).In g' →
      Top Mine.hd.view_39 (looseW Mine.hd.view_39 [Str.ofString "_date_and_delta", Str.ofString "_THOUSANDS_SEPARATOR", Str.ofString "_DECIMAL_SEPARATOR"]) mean mg mb g' → KtsDicts (outer.filterMap (·.frame)) g' → Q v { s with heap := h', toks := tk' }) :
    wpAny (model PySem.Challenge.rw_aq6038_01.row.prog w) (ktrTop dp un gd cn cs L a ccd cl outer) (call (.ref 217) [.int z t, .ref W]) Q E s :=
  told_c B F X N T XB TB kd hk (all_cons hW all_nil) hrest.rest hS (Int.toNat_of_nonneg hz0).symm (by omega) hd hu h
theorem unitL_u {W : Addr} {nW : Nat} {ks : List Nat} {z : Int}
    (B : Below A₀ base outer h₀) (F : Fr h₀ L s.heap m) (X : (Mine.hd.heap_39 w.params).In h₀) (N : News h₀ L s.heap news)
    (T : Top Mine.hd.view_39 (looseW Mine.hd.view_39 [Str.ofString "_date_and_delta", Str.ofString "_THOUSANDS_SEPARATOR", Str.ofString "_DECIMAL_SEPARATOR"]) mean mg mb h₀)
    (hk : cs.kind = .function)
    (hW : (W, listOf vs.toArray nW) ∈ news) (hrest : Part [(W, listOf vs.toArray nW)] news rest)
    (hI : IntsAre vs (ks.map fun k : Nat => (k : Int))) (hz0 : 0 ≤ z) (hz8 : z < 8) (hd : dp < 800) (hu : un < 1000)
    (h : ∀ (v : Value) (h' : Heap) (tk' : Nat), IsOpt v (due z.toNat ks) → Fr h₀ L h' m → News h₀ L h' ((W, listOf vs.toArray nW) :: rest) → Q v { s with heap := h', toks := tk' }) :
    wpAny (model PySem.Challenge.rw_aq6038_01.row.prog w) (ktrTop dp un gd cn cs L a ccd cl outer) (call (.ref 210) [.int z t, .ref W]) Q E s :=
  unitL_c B F X N T hk (all_cons hW all_nil) hrest.rest hI (Int.toNat_of_nonneg hz0).symm (by omega) hd hu h
theorem suppr_u {W : Addr} {o : Obj} {ks : List Nat} {z : Int}
    (B : Below A₀ base outer h₀) (F : Fr h₀ L s.heap m) (X : (Mine.hd.heap_39 w.params).In h₀) (N : News h₀ L s.heap news)
    (T : Top Mine.hd.view_39 (looseW Mine.hd.view_39 [Str.ofString "_date_and_delta", Str.ofString "_THOUSANDS_SEPARATOR", Str.ofString "_DECIMAL_SEPARATOR"]) mean mg mb h₀)
    (hk : cs.kind = .function)
    (hW : (W, o) ∈ news) (hrest : Part [(W, o)] news rest)
    (hS : IsSet8 (ledOf w) ks o) (hz0 : 0 ≤ z) (hz8 : z < 8) (hd : dp < 800) (hu : un < 1000)
    (h : ∀ (D : Addr) (o' : Obj) (h' : Heap) (tk' : Nat), IsSet8 (ledOf w) (addsK (fun j => j) ks z.toNat) o' → @Ne Nat D W → Fr h₀ L h' m → News h₀ L h' ((D, o') :: (W, o) :: rest) → Q (.ref D) { s with heap := h', toks := tk' }) :
    wpAny (model PySem.Challenge.rw_aq6038_01.row.prog w) (ktrTop dp un gd cn cs L a ccd cl outer) (call (.ref 128) [.int z t, .ref W]) Q E s :=
  suppr_c B F X N T hk (all_cons hW all_nil) hrest.rest hS (Int.toNat_of_nonneg hz0).symm (by omega) hd hu h
theorem quot_u {W : Addr} {o : Obj} {ks : List Nat} {v d one unit : Int} {t1 t2 t3 t4 t5 : Tok}
    (B : Below A₀ base outer h₀) (F : Fr h₀ L s.heap m) (X : (Mine.hd.heap_39 w.params).In h₀) (N : News h₀ L s.heap news)
    (T : Top Mine.hd.view_39 (looseW Mine.hd.view_39 [Str.ofString "_date_and_delta", Str.ofString "_THOUSANDS_SEPARATOR", Str.ofString "_DECIMAL_SEPARATOR"]) mean mg mb h₀)
    (hk : cs.kind = .function)
    (hW : (W, o) ∈ news) (hrest : Part [(W, o)] news rest)
    (hS : IsSet8 (ledOf w) ks o) (hv0 : 0 ≤ v) (hv : v < 1000000) (hd0 : 0 < d) (hd36 : d ≤ 3600) (hd : dp < 800) (hu : un < 1000)
    (h : ∀ (D : Addr) (x y : Int) (tx ty : Tok) (h' : Heap) (tk' : Nat), (x, y) = quot v d one unit ks → @LT.lt Nat _ W D → Fr h₀ L h' m → News h₀ L h' ((D, ({ cls := .type "tuple", data := .seq #[.int x tx, .int y ty] } : Obj)) :: (W, o) :: rest) → Q (.ref D) { s with heap := h', toks := tk' }) :
    wpAny (model PySem.Challenge.rw_aq6038_01.row.prog w) (ktrTop dp un gd cn cs L a ccd cl outer) (call (.ref 114) [.int v t1, .int d t2, .int one t3, .int unit t4, .ref W, .str (Str.ofString "%d") t5]) Q E s := by
  obtain ⟨v', rfl⟩ : ∃ n : Nat, v = (n : Int) := ⟨v.toNat, by omega⟩
  obtain ⟨d', rfl⟩ : ∃ n : Nat, d = (n : Int) := ⟨d.toNat, by omega⟩
  exact quot_c B F X N T hk (all_cons hW all_nil) hrest.rest hS (by omega) (by omega) (by omega) hd hu h
theorem rnd_u {v : Int} {t' : Tok}
    (B : Below A₀ base outer h₀) (F : Fr h₀ L s.heap m) (X : (Mine.hd.heap_39 w.params).In h₀) (N : News h₀ L s.heap news)
    (T : Top Mine.hd.view_39 (looseW Mine.hd.view_39 [Str.ofString "_date_and_delta", Str.ofString "_THOUSANDS_SEPARATOR", Str.ofString "_DECIMAL_SEPARATOR"]) mean mg mb h₀)
    (hk : cs.kind = .function)
    (hv0 : 0 ≤ v) (hv : v < 1000000) (hd : dp < 800) (hu : un < 1000)
    (h : ∀ (t'' : Tok) (h' : Heap) (tk' : Nat), Fr h₀ L h' m → News h₀ L h' news → Q (.int v t'') { s with heap := h', toks := tk' }) :
    wpAny (model PySem.Challenge.rw_aq6038_01.row.prog w) (ktrTop dp un gd cn cs L a ccd cl outer) (call (.ref 135) [.str (Str.ofString "%d") t, .int v t']) Q E s :=
  rnd_c B F X N T hk all_nil (fun _ hq => ⟨hq, all_nil⟩) hv0 hv hd hu h
theorem rnd5_u {v : Int} {t' : Tok}
    (B : Below A₀ base outer h₀) (F : Fr h₀ L s.heap m) (X : (Mine.hd.heap_39 w.params).In h₀) (N : News h₀ L s.heap news)
    (T : Top Mine.hd.view_39 (looseW Mine.hd.view_39 [Str.ofString "_date_and_delta", Str.ofString "_THOUSANDS_SEPARATOR", Str.ofString "_DECIMAL_SEPARATOR"]) mean mg mb h₀)
    (hk : cs.kind = .function)
    (hv0 : 0 ≤ v) (hv : v < 99) (hd : dp < 800) (hu : un < 1000)
    (h : ∀ (t'' : Tok) (h' : Heap) (tk' : Nat), Fr h₀ L h' m → News h₀ L h' news → Q (.int v t'') { s with heap := h', toks := tk' }) :
    wpAny (model PySem.Challenge.rw_aq6038_01.row.prog w) (ktrTop dp un gd cn cs L a ccd cl outer) (call (.ref 135) [.str (Str.ofString "%5d") t, .int v t']) Q E s :=
  rnd5_c B F X N T hk all_nil (fun _ hq => ⟨hq, all_nil⟩) hv0 hv hd hu h
end
theorem foldl_sel (p : Int → Prop) [DecidablePred p] : ∀ (l acc : List Int), l.foldl (fun l' k' => if p k' then l' ++ [k'] else l') acc = acc ++ l.filter fun k => decide (p k)
  | [], acc => by simp
  | k :: l, acc => by
    rw [List.foldl_cons, foldl_sel p l, List.filter_cons]
    by_cases h : p k
    · rw [if_pos h, if_pos (decide_eq_true h), List.append_assoc]
      rfl
    · rw [if_neg h, if_neg (by simpa using h)]
theorem mask_ks (p : Int → Prop) [DecidablePred p] : ∃ ks : List Nat, (rangeKs 0 (8 - 0 : Int).toNat).foldl (fun l' k' => if p k' then l' ++ [k'] else l') [] = ks.map (fun k : Nat => (k : Int)) ∧ ks.Pairwise (· < ·) ∧ ∀ k ∈ ks, k < 8 := by
  refine ⟨(List.range 8).filter fun k => decide (p (k : Int)), ?_, (asc_range 8).filter _, fun k hk => List.mem_range.mp (List.mem_filter.mp hk).1⟩
  rw [foldl_sel, List.nil_append]
  unfold rangeKs
  rw [List.filter_map]
  simp only [Function.comp_def, Int.zero_add]
  rfl
theorem mask_is {p : Int → Prop} {I : DecidablePred p} {vs : List Value} (h : IntsAre vs ((rangeKs 0 (8 - 0 : Int).toNat).foldl (fun l' k' => if p k' then l' ++ [k'] else l') [])) : ∃ ks : List Nat, IntsAre vs (ks.map fun k : Nat => (k : Int)) ∧ ks.Pairwise (· < ·) ∧ ∀ k ∈ ks, k < 8 := by
  obtain ⟨ks, e, h1, h2⟩ := mask_ks p
  exact ⟨ks, e ▸ h, h1, h2⟩
theorem addsK_self {ks : List Nat} (asc : ks.Pairwise (· < ·)) : addsK (fun i => ks.getD i 0) [] ks.length = ks := by
  refine asc_eq (addsK_asc _ List.Pairwise.nil _) asc fun x => ?_
  rw [addsK_mem]
  constructor
  · rintro (h | ⟨j, hj, rfl⟩)
    · exact absurd h List.not_mem_nil
    · have e : ks.getD j 0 = ks[j] := by simp [List.getD_eq_getElem?_getD, List.getElem?_eq_getElem hj]
      rw [e]
      exact List.getElem_mem hj
  · intro h
    obtain ⟨j, hj, e⟩ := List.getElem_of_mem h
    have e' : ks.getD j 0 = ks[j] := by simp [List.getD_eq_getElem?_getD, List.getElem?_eq_getElem hj]
    exact .inr ⟨j, hj, by rw [e']; exact e⟩
section
variable {prog : Program} {w : World} {A : Around} {E : Value → Shared → Prop} {s : Shared} {h₀ : Heap} {L a l : Addr} {m : Str → Option Value} {news : List (Addr × Obj)} {ks : List Nat} {o : Obj} {n : Nat} {vs : List Value}
theorem list_to_setA {Q : Value → Shared → Prop} (hh : A.handled = none) (F : Fr h₀ L s.heap m) (N : News h₀ L s.heap news) (hm : (l, listOf vs.toArray n) ∈ news) (hi : IntsAre vs (ks.map fun k : Nat => (k : Int))) (h8 : ∀ k ∈ ks, k < 8) (asc : ks.Pairwise (· < ·))
    (h : ∀ D h' o tk, Fr h₀ L h' m → News h₀ L h' ((D, o) :: news) → (∀ p ∈ news, p.1 < D) → IsSet8 (ledOf w) ks o → Q (.ref D) { s with heap := h', toks := tk }) :
    wpAny (model prog w) A (call (.type "set") [.ref l]) Q E s :=
  list_to_set hh F N hm hi h8 fun D h' o tk F' N' l1 hS => h D h' o tk F' N' l1 (addsK_self asc ▸ hS)
end
section
variable {prog : Program} {w : World} {A : Around} {E : Value → Shared → Prop} {s : Shared} {Q : Value → Shared → Prop}
theorem ne_opt {v1 v2 : Value} {r : Option Nat} (h1 : IsOpt v1 r) (h2 : IsOpt v2 r) (h : ∀ k, Q (.bool false) { s with toks := k }) : wpAny (model prog w) A (compareOp .NotEq v1 v2) Q E s := by
  cases h1 with
  | none =>
    cases h2
    exact EqNone.ne_none_none (h _)
  | some n t =>
    cases h2
    refine ne_int ?_
    rw [bne_self_eq_false]
    exact h _
end
theorem cast_app {ks : List Nat} {z : Int} : (ks.map fun k : Nat => (k : Int)) ++ rangeKs 0 (z - 0).toNat = (ks ++ List.range z.toNat).map fun k : Nat => (k : Int) := by
  unfold rangeKs
  rw [List.map_append, Int.sub_zero]
  simp only [Int.zero_add]
theorem small_app {ks : List Nat} {z : Int} (h : ∀ k ∈ ks, k < 8) (hz : z < 8) : ∀ k ∈ ks ++ List.range z.toNat, k < 8 := fun k hk => by
  rcases List.mem_append.mp hk with hk | hk
  · exact h k hk
  · have := List.mem_range.mp hk; omega
section
variable {prog : Program} {w : World} {A : Around} {E : Value → Shared → Prop} {s : Shared} {h₀ : Heap} {L a b : Addr} {m : Str → Option Value} {news : List (Addr × Obj)} {ks : List Nat} {o : Obj} {vs ws : List Value} {z : Int} {Q : Value → Shared → Prop}
theorem add_range (F : Fr h₀ L s.heap m) (N : News h₀ L s.heap news) (ha : s.heap.IsList a vs.toArray) (hb : s.heap.IsList b ws.toArray) (hi : IntsAre vs (ks.map fun k : Nat => (k : Int))) (hj : IntsAre ws (rangeKs 0 (z - 0).toNat)) (hS : IsSet8 (ledOf w) ks o) (hz : z < 8)
    (h : ∀ D us h', Fr h₀ L h' m → News h₀ L h' ((D, listOf (List.toArray us) 0) :: news) → (∀ p ∈ news, p.1 < D) → IntsAre us ((ks ++ List.range z.toNat).map fun k : Nat => (k : Int)) → Q (.ref D) { s with heap := h' }) :
    wpAny (model prog w) A (binaryOp .Add (.ref a) (.ref b)) Q E s :=
  kmk_add_ints F N ha hb hi hj (fun D us h' F' N' l1 hI => h D us h' F' N' l1 (cast_app ▸ hI)) (by
    have := set_len8 hS
    unfold scanBound at this
    rw [List.length_map, rangeKs_length, sizeLine_eq]
    omega)
end
theorem sup_eq {ks : List Nat} {n : Nat} (asc : ks.Pairwise (· < ·)) : addsK (fun i => (ks ++ List.range n).getD i 0) [] (ks ++ List.range n).length = addsK (fun j => j) ks n := by
  refine asc_eq (addsK_asc _ List.Pairwise.nil _) (addsK_asc _ asc _) fun x => ?_
  rw [addsK_mem, addsK_mem]
  constructor
  · rintro (h | ⟨j, hj, rfl⟩)
    · exact absurd h List.not_mem_nil
    · have e : (ks ++ List.range n).getD j 0 = (ks ++ List.range n)[j] := by simp [List.getD_eq_getElem?_getD, List.getElem?_eq_getElem hj]
      rw [e]
      rcases List.mem_append.mp (List.getElem_mem hj) with h | h
      · exact .inl h
      · exact .inr ⟨_, List.mem_range.mp h, rfl⟩
  · intro h
    have hx : x ∈ ks ++ List.range n := by
      rcases h with h | ⟨j, hj, rfl⟩
      · exact List.mem_append_left _ h
      · exact List.mem_append_right _ (List.mem_range.mpr hj)
    obtain ⟨j, hj, e⟩ := List.getElem_of_mem hx
    have e' : (ks ++ List.range n).getD j 0 = (ks ++ List.range n)[j] := by simp [List.getD_eq_getElem?_getD, List.getElem?_eq_getElem hj]
    exact .inr ⟨j, hj, by rw [e']; exact e⟩
def keepB {α : Type} : List Bool → List α → List α
  | true :: bs, x :: xs => x :: keepB bs xs
  | false :: bs, _ :: xs => keepB bs xs
  | _, _ => []
theorem keepB_mem {α : Type} : ∀ (bs : List Bool) (l : List α), ∀ x ∈ keepB bs l, x ∈ l
  | true :: bs, y :: ys, x, h => by
    unfold keepB at h
    rcases List.mem_cons.mp h with e | h
    · exact e ▸ List.mem_cons_self
    · exact List.mem_cons_of_mem _ (keepB_mem bs ys x h)
  | false :: bs, y :: ys, x, h => by
    unfold keepB at h
    exact List.mem_cons_of_mem _ (keepB_mem bs ys x h)
  | [], _, x, h => by
    unfold keepB at h
    exact absurd h List.not_mem_nil
  | true :: _, [], x, h => by
    unfold keepB at h
    exact absurd h List.not_mem_nil
  | false :: _, [], x, h => by
    unfold keepB at h
    exact absurd h List.not_mem_nil
theorem news_keep {h₀ h : Heap} {L : Addr} {l : List (Addr × Obj)} (bs : List Bool) (N : News h₀ L h l) : News h₀ L h (keepB bs l) := fun p hp => N p (keepB_mem bs l p hp)
theorem split5 {g h : Heap} {L : Addr} {p1 p2 p3 p4 p5 : Addr × Obj} (_N : News g L h [p1, p2, p3, p4, p5]) : ∃ W K L1 : Addr, W = p1.1 ∧ K = p2.1 ∧ L1 = L := ⟨_, _, _, rfl, rfl, rfl⟩
section
variable {prog : Program} {w : World} {A : Around} {E : Value → Shared → Prop} {s : Shared} {h₀ : Heap} {L l : Addr} {news : List (Addr × Obj)} {n : Nat} {k : Int} {u t1 t2 t3 t4 t5 t6 : Tok} {value slice : Expr} {Q : Value → Shared → Prop}
theorem pick6 (N : News h₀ L s.heap news) (hm : (l, listOf #[.int 1 t1, .int 7 t2, .int 60 t3, .int 365 t4, .int 3600 t5, .int 1000 t6] n) ∈ news) (h0 : 0 ≤ k) (h6 : k < 6)
    (h : ∀ (d : Int) t, 0 < d → d ≤ 3600 → Q (.int d t) s)
    (hs : subscripted slice false (.ref l) (.int k u) = operate [.ref l, .int k u] (getItem (.ref l) (.int k u)) := by with_unfolding_all rfl) :
    wpAny (model prog w) A (subscriptTail value slice (.ref l) (.int k u)) Q E s := by
  have hL := N.isList hm
  obtain ⟨i, rfl⟩ : ∃ i : Nat, k = (i : Int) := ⟨k.toNat, by omega⟩
  have hi : i = 0 ∨ i = 1 ∨ i = 2 ∨ i = 3 ∨ i = 4 ∨ i = 5 := by omega
  rcases hi with rfl | rfl | rfl | rfl | rfl | rfl <;> exact tail_any hL.typeIs slot_list_getitem.lookup (wpAny_getItem_list hL h0 (by decide) (by rfl) (h _ _ (by decide) (by decide))) hs
end
theorem any_hasZ {ks : List Nat} {k : Int} : ((ks.map fun k : Nat => (k : Int)).any fun x => x == k) = hasZ ks k := by
  rw [Bool.eq_iff_iff, hasZ_iff, List.any_eq_true]
  constructor
  · rintro ⟨x, hx, e⟩
    obtain ⟨n, hn, rfl⟩ := List.mem_map.mp hx
    exact ⟨n, hn, (eq_of_beq e).symm⟩
  · rintro ⟨n, hn, rfl⟩
    exact ⟨_, List.mem_map.mpr ⟨n, hn, rfl⟩, beq_self_eq_true _⟩
theorem quot_no1 {x y v d k u : Int} {ks : List Nat} (hq : (x, y) = quot v d k u ks) (h : k = u) (hb : (x == v.fdiv d && y == 0) = false) : False := by
  unfold quot at hq
  rw [if_pos h] at hq
  cases hq
  simp at hb
theorem quot_no2 {x y v d k u : Int} {ks : List Nat} (hq : (x, y) = quot v d k u ks) (h : k ≠ u) (ha : ((ks.map fun k : Nat => (k : Int)).any fun x => x == k) = true) (hb : (x == 0 && y == v) = false) : False := by
  unfold quot at hq
  rw [if_neg h, if_pos (any_hasZ ▸ ha)] at hq
  cases hq
  simp at hb
theorem quot_no3 {x y v d k u : Int} {ks : List Nat} (hq : (x, y) = quot v d k u ks) (h : k ≠ u) (ha : ((ks.map fun k : Nat => (k : Int)).any fun x => x == k) = false) (hb : (x == v.fdiv d && y == v.fmod d) = false) : False := by
  unfold quot at hq
  rw [if_neg h, if_neg (by rw [← any_hasZ, ha]; decide)] at hq
  cases hq
  simp at hb

end
local macro_rules | `(tactic| walk_at "no such key") => `(tactic| skip)
local macro_rules | `(tactic| walk_at "no such key") => `(tactic| skip)
local macro_rules | `(tactic| walk_at "no such key") => `(tactic| skip)
local macro_rules | `(tactic| walk_at "no such key") => `(tactic| skip)
local macro_rules | `(tactic| walk_at "no such key") => `(tactic| skip)
local macro_rules | `(tactic| walk_at "no such key") => `(tactic| skip)

section
section
variable {prog : Program} {w : World} {A : Around} {E : Value → Shared → Prop} {s : Shared} {a b : Int} {t u : Tok} {Q : Value → Shared → Prop} {h₀ : Heap} {L : Addr} {m : Str → Option Value} {news : List (Addr × Obj)}
theorem divmod_K (F : Fr h₀ L s.heap m) (N : News h₀ L s.heap news) (hb : b ≠ 0) (hp : Builtin.divisionGoesByPylong a b = false)
    (h : ∀ D h' t1 t2 tk, Fr h₀ L h' m → News h₀ L h' ((D, ({ cls := .type "tuple", data := .seq #[.int (a.fdiv b) t1, .int (a.fmod b) t2] } : Obj)) :: news) → (∀ p ∈ news, p.1 < D) →
      Q (.ref D) { s with heap := h', toks := tk }) :
    wpAny (model prog w) A (call (.builtin "divmod") [.int a t, .int b u]) Q E s :=
  divmod_N F N hb (fun h' F' N' => h _ _ _ _ _ F' N' fun p hp => Heap.lt_size (N p hp).1) (.inl hp)
end

section
variable {prog : Program} {w : World} {A : Around} {K : Frag} {C x : Addr} {s : Shared} {h₀ : Heap} {L : Addr} {m : Str → Option Value} {news : List (Addr × Obj)} {Q E : Value → Shared → Prop}
theorem fr_lt {h₀ h : Heap} {L : Addr} {m : Str → Option Value} (F : Fr h₀ L h m) : L < h.objs.size := by
  obtain ⟨oL, es, ep, hL, _⟩ := F.ns
  exact Heap.lt_size hL
/-- an instance made: it lies above the frame too -/
theorem cls_L {pos : List Value} {kw : List (Str × Value)} {fI : Addr} (F : Fr h₀ L s.heap m) (X₀ : K.In h₀) (N : News h₀ L s.heap news) (hm : makesIn K C = true) (hi : findIn K (.ref C) "__init__" = some (some (.ref fI))) (hf : isFn K (.ref fI) = true)
    (h : ∀ x dx h', Fr h₀ L h' m → News h₀ L h' ((x, instObj C dx) :: (dx, dictOf [] 0) :: news) → (∀ p ∈ news, p.1 < dx) → @LT.lt Nat _ L dx → @LT.lt Nat _ dx x →
      codeAny (model prog w) (A.under (.builtin "type.__call__" ⟨.ref C :: pos, kw⟩)) (.call (.ref fI) ⟨.ref x :: pos, kw⟩) (InitBack x fun r s' => match r with | .ok (.ret v) => Q v s' | .ok _ => False | .error e => E e s') { s with heap := h' }) :
    wpAny (model prog w) A (call (.ref C) pos kw) Q E s := by
  obtain ⟨hh, g, d, t, os⟩ := s
  have X := X₀.keeps F.keep
  have NN := (N.push F emptyDict).push (F.push _) (instObj C hh.objs.size)
  rw [Heap.size_push] at NN
  exact wpAny_call (make_core (makes_of X hm) (looks_findIn X hi) (fun self => bind_fn X self (beq_iff_eq.mp hf)) (.inl rfl) (h _ hh.objs.size _ ((F.push _).push _) NN (fun p hp => Heap.lt_size (N p hp).1) (fr_lt F) (Nat.lt_succ_self _)))
end
section
variable {prog : Program} {w : World} {A A₀ : Around} {s : Shared} {K : Frag} {L : Addr} {h₀ base : Heap} {m mg mb : Str → Option Value} {own rest news : List (Addr × Obj)} {p : Program} {loose : List Str} {mean : ExcName → Option Value}
/-- as code_defR; the callee's frame lies above all that was -/
theorem code_defL {env : Env} {outer : List Env} {R : Result → Shared → Prop} {name qual : Str} {params : Arguments} {body : List Stmt} {scope : Scope} {dV kV doc pm cdv ct oc : Value} {an od : Option Addr} {osl : Array (Option Value)} {f : Addr} {args : Args} {binds : List (Str × Value)}
    (B : Below A₀ base outer h₀) (F : Fr h₀ L s.heap m) (X₀ : K.In h₀) (N₀ : News h₀ L s.heap news) (hown : ∀ q ∈ own, q ∈ news) (hrest : ∀ q ∈ rest, q ∈ news ∧ ∀ z ∈ own, q.1 ≠ z.1)
    (T : Top p loose mean mg mb h₀) (hA : A.frames = some (env :: outer)) (hf : env.frame = some L) (hke : env.scope.kind = .function)
    (ho : K.lookup f = some ⟨oc, od, .func (fnOf name qual params body scope dV kV doc pm an cdv ct), osl⟩) (hcd : codeIn K cdv qual = true) (hroom : A.depth < recursionLimit)
    (hbind : BindsTo s (fnOf name qual params body scope dV kV doc pm an cdv ct) args binds) (hloc : ∀ y ∈ binds, scope.names.lookup y.1 = some .local)
    (h : ∀ g L' h₁, Fr h₀ L g m → Fr g L' h₁ (fun y => binds.reverse.lookup y) → News g L' h₁ own → Below A base (env :: outer) g → K.In g → Top p loose mean mg mb g → (∀ q ∈ news, @LT.lt Nat _ q.1 L') → @LT.lt Nat _ L L' →
      wpAny (model prog w) (A.deeper (envOf qual scope L' f cdv)) (execs body (envOf qual scope L' f cdv))
        (fun fl s' => LeaveK h₀ L m g (fun r s'' => News h₀ L s''.heap rest → R r s'') (match fl with | .ret v => v | _ => .none) s')
        (fun e s' => wpAny (model prog w) (A.deeper (envOf qual scope L' f cdv)) (leaving (envOf qual scope L' f cdv) e) (fun _ s'' => R (.error e) s'') (fun e' s'' => R (.error e') s'') s')
        { s with heap := h₁, toks := s.toks + binds.length })
    (hco : scope.isCoroutine = false) (hgen : scope.isGenerator = false) (hk : scope.kind = .function)
    (hcell : ∀ x ∈ scope.names, x.2 ≠ .cell) : codeAny (model prog w) A (.call (.ref f) args) R s := by
  have N : News h₀ L s.heap own := fun q hq => N₀ q (hown q hq)
  obtain ⟨FG, BG, st, _⟩ := groundX (R := R) B F N hA hf hke
  have X := X₀.keeps F.keep
  refine codeAny_call_def (fd := fnOf name qual params body scope dV kV doc pm an cdv ct) (body := body) (binds := binds) hroom (X _ _ ho) rfl (T.nolimit.keeps F.keep) (codeRec_of X hcd) rfl hbind hcell hloc (fun h₁ hns hk₁ => ?_) hco hgen hk
  refine wpAny_mono (h _ s.heap.objs.size h₁ FG ⟨hns, fun b o e => hk₁ b o (of_hideAll _ e), Nat.le_of_eq (hideAll_size _ _)⟩
    (fun p hp => ⟨hk₁ _ _ (N p hp).1, Nat.ne_of_lt (Heap.lt_size (N p hp).1), hideAll_none _ (List.mem_map_of_mem hp)⟩) BG (X₀.keeps st) (T.keeps st) (fun q hq => Heap.lt_size (N₀ q hq).1) (fr_lt F)) (fun fl s' hl => ?_) fun _ _ y => y
  have hrg : ∀ q ∈ rest, (hideAll s.heap (own.map (·.1))).get? q.1 = some q.2 := fun q hq => by
    refine hideAll_get _ (N₀ q (hrest q hq).1).1 fun hc => ?_
    obtain ⟨z, hz, e⟩ := List.mem_map.mp hc
    exact (hrest q hq).2 z hz e.symm
  obtain ⟨L', m', news', F', N', k⟩ := hl
  obtain ⟨oL, es, ep, hL, hLd, hLk, hLf⟩ := F.ns
  have nL : L ∉ own.map (·.1) := fun q => by
    obtain ⟨p, hp, e⟩ := List.mem_map.mp q
    exact (N p hp).2.1 e
  have hLg := hideAll_get (own.map (·.1)) hL nL
  refine k ⟨⟨oL, es, ep, F'.keep L oL hLg, hLd, hLk, hLf⟩, fun b o e => F'.keep b o (st b o e), F.above⟩ (fun p hp => ⟨(N' p hp).1, fun q => ?_, ?_⟩) fun q hq => ⟨F'.keep _ _ (hrg q hq), (N₀ q (hrest q hq).1).2⟩
  · have := (N' p hp).2.2; rw [q, hLg] at this; cases this
  · cases q : h₀.get? p.1 with
    | none => rfl
    | some o => have := (N' p hp).2.2; rw [st _ _ q] at this; cases this
end
theorem two_own {p q : Addr × Obj} {r : List (Addr × Obj)} : ∀ x ∈ [p, q], x ∈ p :: q :: r := fun x hx => by
  rcases List.mem_cons.mp hx with rfl | hx
  · exact .head _
  · rcases List.mem_cons.mp hx with rfl | hx
    · exact .tail _ (.head _)
    · exact absurd hx List.not_mem_nil
theorem two_rest {x dx : Addr} {o o' : Obj} {r : List (Addr × Obj)} (l1 : ∀ p ∈ r, p.1 < dx) (l2 : @LT.lt Nat _ dx x) : ∀ q ∈ r, q ∈ (x, o) :: (dx, o') :: r ∧ ∀ z ∈ [(x, o), (dx, o')], q.1 ≠ z.1 := fun q hq => by
  refine ⟨.tail _ (.tail _ hq), fun z hz => ?_⟩
  have hl := l1 q hq
  rcases List.mem_cons.mp hz with rfl | hz
  · exact Nat.ne_of_lt (Nat.lt_trans hl l2)
  · rcases List.mem_cons.mp hz with rfl | hz
    · exact Nat.ne_of_lt hl
    · exact absurd hz List.not_mem_nil
/-- a span's fields, a moment's -/
abbrev spanD (w : World) (z : Int) (n : Nat) (k1 u1 k2 u2 k3 u3 : Tok) : Obj := dictOf [{ hash := PyData.keyHash w.params (Str.ofString "days"), key := .str (Str.ofString "days") k1, val := .int (z.fdiv 86400000000) u1 }, { hash := PyData.keyHash w.params (Str.ofString "seconds"), key := .str (Str.ofString "seconds") k2, val := .int ((z.fmod 86400000000).fdiv 1000000) u2 }, { hash := PyData.keyHash w.params (Str.ofString "microseconds"), key := .str (Str.ofString "microseconds") k3, val := .int ((z.fmod 86400000000).fmod 1000000) u3 }] n
abbrev dayD (w : World) (z : Int) (n : Nat) (k1 u1 : Tok) : Obj := dictOf [{ hash := PyData.keyHash w.params (Str.ofString "microseconds"), key := .str (Str.ofString "microseconds") k1, val := .int z u1 }] n
theorem td_z3 (z : Int) : (0 * 86400 + 0) * 1000000 + z = z := by omega
theorem td_zs (z : Int) : (0 * 86400 + z) * 1000000 + 0 = z * 1000000 := by omega
theorem td_z1 : ((1 : Int) * 86400 + 0) * 1000000 + 0 = 86400000000 := by decide
local macro_rules | `(tactic| walk_at "call builtin:divmod") => `(tactic| (k_here; k_dflt (refine' divmod_K ?k1 ?k2 ?k3 ?k4 ?_; (case k1 => k_asm); (case k2 => k_asm); (case k3 => decide); (case k4 => exact PyProof.noPylong_of_log2 (by decide +kernel))); intro d' h' t1' t2' tk' F' N' l1; (try k_lt l1); (try k_sweep)))
set_option maxHeartbeats 8000000 in
theorem td_c {w : World} {mean : ExcName → Option Value} {mg mb : Str → Option Value} {dp un : Nat} {gd : Option (List Code)} {cn : Str} {cs : Scope} {a : Addr} {ccd : Value} {cl : List (Str × Addr)} {outer : List Env} {A₀ : Around} {base h₀ : Heap} {L : Addr} {m : Str → Option Value} {s : Shared} {Q E : Value → Shared → Prop} {news : List (Addr × Obj)} {z : Int} {t1 t2 t3 : Tok}
    (B : Below A₀ base outer h₀) (F : Fr h₀ L s.heap m) (X : (Mine.hd.heap_39 w.params).In h₀) (N : News h₀ L s.heap news) (T : Top Mine.hd.view_39 (looseW Mine.hd.view_39 [Str.ofString "_date_and_delta", Str.ofString "_THOUSANDS_SEPARATOR", Str.ofString "_DECIMAL_SEPARATOR"]) mean mg mb h₀) (hk : cs.kind = .function) (hz0 : -10 ^ 17 < z) (hz1 : z < 10 ^ 17)
    (hd : dp < 800) (hu : un < 1000)
    (h : ∀ (x dx : Addr) (n : Nat) (k1 u1 k2 u2 k3 u3 : Tok) (h' : Heap) (tk' : Nat), Fr h₀ L h' m → News h₀ L h' ((x, instObj 46 dx) :: (dx, spanD w (z) n k1 u1 k2 u2 k3 u3) :: news) → (∀ p ∈ news, p.1 < dx) → @LT.lt Nat _ L dx → @LT.lt Nat _ dx x → Q (.ref x) { s with heap := h', toks := tk' }) :
    wpAny (model PySem.Challenge.rw_aq6038_01.row.prog w) (ktrTop dp un gd cn cs L a ccd cl outer) (call (.ref 46) [.int 0 t1, .int 0 t2, .int z t3]) Q E s := by
  revert X; k_fill; intro X
  refine' cls_L F X N ?m1 ?m2 ?m3 ?_
  (case m1 => k_is); (case m2 => k_is); (case m3 => k_is)
  intro x' d' h' F' N' l1 l0 l2
  have hown := two_own (p := (x', instObj 46 d')) (q := (d', dictOf [] 0)) (r := news)
  have hrest := two_rest (o := instObj 46 d') (o' := dictOf [] 0) l1 l2
  k_dflt (walk_at "mine enter")
  k_steps
  rename News _ _ _ news => kR
  rename News h₀ L _ (_ :: _) => kN
  rw [td_z3] at kN
  exact h _ _ _ _ _ _ _ _ _ _ _ (by assumption) (news_join (own := [_, _]) kN kR (by lcg_sub)) l1 l0 l2
set_option maxHeartbeats 8000000 in
theorem tdS_c {w : World} {mean : ExcName → Option Value} {mg mb : Str → Option Value} {dp un : Nat} {gd : Option (List Code)} {cn : Str} {cs : Scope} {a : Addr} {ccd : Value} {cl : List (Str × Addr)} {outer : List Env} {A₀ : Around} {base h₀ : Heap} {L : Addr} {m : Str → Option Value} {s : Shared} {Q E : Value → Shared → Prop} {news : List (Addr × Obj)} {z : Int} {t1 : Tok}
    (B : Below A₀ base outer h₀) (F : Fr h₀ L s.heap m) (X : (Mine.hd.heap_39 w.params).In h₀) (N : News h₀ L s.heap news) (T : Top Mine.hd.view_39 (looseW Mine.hd.view_39 [Str.ofString "_date_and_delta", Str.ofString "_THOUSANDS_SEPARATOR", Str.ofString "_DECIMAL_SEPARATOR"]) mean mg mb h₀) (hk : cs.kind = .function) (hz0 : -1000000 < z) (hz1 : z < 1000000)
    (hd : dp < 800) (hu : un < 1000)
    (h : ∀ (x dx : Addr) (n : Nat) (k1 u1 k2 u2 k3 u3 : Tok) (h' : Heap) (tk' : Nat), Fr h₀ L h' m → News h₀ L h' ((x, instObj 46 dx) :: (dx, spanD w (z * 1000000) n k1 u1 k2 u2 k3 u3) :: news) → (∀ p ∈ news, p.1 < dx) → @LT.lt Nat _ L dx → @LT.lt Nat _ dx x → Q (.ref x) { s with heap := h', toks := tk' }) :
    wpAny (model PySem.Challenge.rw_aq6038_01.row.prog w) (ktrTop dp un gd cn cs L a ccd cl outer) (call (.ref 46) [] [(Str.ofString "seconds", .int z t1)]) Q E s := by
  revert X; k_fill; intro X
  refine' cls_L F X N ?m1 ?m2 ?m3 ?_
  (case m1 => k_is); (case m2 => k_is); (case m3 => k_is)
  intro x' d' h' F' N' l1 l0 l2
  have hown := two_own (p := (x', instObj 46 d')) (q := (d', dictOf [] 0)) (r := news)
  have hrest := two_rest (o := instObj 46 d') (o' := dictOf [] 0) l1 l2
  k_dflt (walk_at "mine enter")
  k_steps
  rename News _ _ _ news => kR
  rename News h₀ L _ (_ :: _) => kN
  rw [td_zs] at kN
  exact h _ _ _ _ _ _ _ _ _ _ _ (by assumption) (news_join (own := [_, _]) kN kR (by lcg_sub)) l1 l0 l2
set_option maxHeartbeats 8000000 in
theorem td1_c {w : World} {mean : ExcName → Option Value} {mg mb : Str → Option Value} {dp un : Nat} {gd : Option (List Code)} {cn : Str} {cs : Scope} {a : Addr} {ccd : Value} {cl : List (Str × Addr)} {outer : List Env} {A₀ : Around} {base h₀ : Heap} {L : Addr} {m : Str → Option Value} {s : Shared} {Q E : Value → Shared → Prop} {news : List (Addr × Obj)} {t1 : Tok}
    (B : Below A₀ base outer h₀) (F : Fr h₀ L s.heap m) (X : (Mine.hd.heap_39 w.params).In h₀) (N : News h₀ L s.heap news) (T : Top Mine.hd.view_39 (looseW Mine.hd.view_39 [Str.ofString "_date_and_delta", Str.ofString "_THOUSANDS_SEPARATOR", Str.ofString "_DECIMAL_SEPARATOR"]) mean mg mb h₀) (hk : cs.kind = .function) 
    (hd : dp < 800) (hu : un < 1000)
    (h : ∀ (x dx : Addr) (n : Nat) (k1 u1 k2 u2 k3 u3 : Tok) (h' : Heap) (tk' : Nat), Fr h₀ L h' m → News h₀ L h' ((x, instObj 46 dx) :: (dx, spanD w (86400000000) n k1 u1 k2 u2 k3 u3) :: news) → (∀ p ∈ news, p.1 < dx) → @LT.lt Nat _ L dx → @LT.lt Nat _ dx x → Q (.ref x) { s with heap := h', toks := tk' }) :
    wpAny (model PySem.Challenge.rw_aq6038_01.row.prog w) (ktrTop dp un gd cn cs L a ccd cl outer) (call (.ref 46) [.int 1 t1]) Q E s := by
  revert X; k_fill; intro X
  refine' cls_L F X N ?m1 ?m2 ?m3 ?_
  (case m1 => k_is); (case m2 => k_is); (case m3 => k_is)
  intro x' d' h' F' N' l1 l0 l2
  have hown := two_own (p := (x', instObj 46 d')) (q := (d', dictOf [] 0)) (r := news)
  have hrest := two_rest (o := instObj 46 d') (o' := dictOf [] 0) l1 l2
  k_dflt (walk_at "mine enter")
  k_steps
  rename News _ _ _ news => kR
  rename News h₀ L _ (_ :: _) => kN
  rw [td_z1] at kN
  exact h _ _ _ _ _ _ _ _ _ _ _ (by assumption) (news_join (own := [_, _]) kN kR (by lcg_sub)) l1 l0 l2
set_option maxHeartbeats 8000000 in
theorem dt_c {w : World} {mean : ExcName → Option Value} {mg mb : Str → Option Value} {dp un : Nat} {gd : Option (List Code)} {cn : Str} {cs : Scope} {a : Addr} {ccd : Value} {cl : List (Str × Addr)} {outer : List Env} {A₀ : Around} {base h₀ : Heap} {L : Addr} {m : Str → Option Value} {s : Shared} {Q E : Value → Shared → Prop} {news : List (Addr × Obj)} {z : Int} {t1 : Tok}
    (B : Below A₀ base outer h₀) (F : Fr h₀ L s.heap m) (X : (Mine.hd.heap_39 w.params).In h₀) (N : News h₀ L s.heap news) (T : Top Mine.hd.view_39 (looseW Mine.hd.view_39 [Str.ofString "_date_and_delta", Str.ofString "_THOUSANDS_SEPARATOR", Str.ofString "_DECIMAL_SEPARATOR"]) mean mg mb h₀) (hk : cs.kind = .function) (hz0 : 0 ≤ z) (hz1 : z < 10 ^ 17)
    (hd : dp < 800) (hu : un < 1000)
    (h : ∀ (x dx : Addr) (n : Nat) (k1 u1 : Tok) (h' : Heap) (tk' : Nat), Fr h₀ L h' m → News h₀ L h' ((x, instObj 81 dx) :: (dx, dayD w z n k1 u1) :: news) → (∀ p ∈ news, p.1 < dx) → @LT.lt Nat _ L dx → @LT.lt Nat _ dx x → Q (.ref x) { s with heap := h', toks := tk' }) :
    wpAny (model PySem.Challenge.rw_aq6038_01.row.prog w) (ktrTop dp un gd cn cs L a ccd cl outer) (call (.ref 81) [.int z t1]) Q E s := by
  revert X; k_fill; intro X
  refine' cls_L F X N ?m1 ?m2 ?m3 ?_
  (case m1 => k_is); (case m2 => k_is); (case m3 => k_is)
  intro x' d' h' F' N' l1 l0 l2
  have hown := two_own (p := (x', instObj 81 d')) (q := (d', dictOf [] 0)) (r := news)
  have hrest := two_rest (o := instObj 81 d') (o' := dictOf [] 0) l1 l2
  k_dflt (walk_at "mine enter")
  k_steps
  rename News _ _ _ news => kR
  rename News h₀ L _ (_ :: _) => kN
  exact h _ _ _ _ _ _ _ (by assumption) (news_join (own := [_, _]) kN kR (by lcg_sub)) l1 l0 l2

end
local macro_rules | `(tactic| walk_at "no such key") => `(tactic| skip)
local macro_rules | `(tactic| walk_at "no such key") => `(tactic| skip)
local macro_rules | `(tactic| walk_at "no such key") => `(tactic| skip)
local macro_rules | `(tactic| walk_at "no such key") => `(tactic| skip)
local macro_rules | `(tactic| walk_at "no such key") => `(tactic| skip)
local macro_rules | `(tactic| walk_at "no such key") => `(tactic| skip)
-- contracts as steps
local macro_rules | `(tactic| walk_at "off1") => `(tactic| (refine neN ?_; (try dsimp only); first | assumption | exact Nat.ne_of_lt (by assumption) | exact Nat.ne_of_gt (by assumption) | k_ne))
local macro_rules | `(tactic| walk_at "offs") => `(tactic| first | exact all_nil | (refine' all_cons ?oa ?ob; (case oa => walk_at "off1"); (case ob => walk_at "offs")))
local macro_rules | `(tactic| walk_at "part") => `(tactic| first | exact Part.nil | (refine' Part.tailOf ?ta ?tb; (case ta => assumption); (case tb => k_mem)) | (refine' Part.skip ?pa ?pb; (case pa => k_mem); (case pb => walk_at "part")) | (refine' Part.keep ?pa ?pb; (case pa => walk_at "offs"); (case pb => walk_at "part")))
local macro_rules | `(tactic| walk_at "room") => `(tactic| ((try simp only [depth_under_make, depth_under_kw, depth_in1, depth_deeper, depth_caller, units_in1, units_deeper, Around.mark_units, units_caller]); (try dsimp only [ktrTop]); omega))
local macro_rules | `(tactic| walk_at "call ref") => `(tactic| (k_here; (with_reducible show wpAny _ _ (call (Value.ref 205) [Value.ref _, Value.int _ _]) _ _ _); k_dflt (refine' take_u ?k1 ?k2 ?k3 ?k4 ?k5 ?k6 ?o1 ?o2 ?k7 ?k8 ?k9 ?m0 ?m1 ?d1 ?d2 ?_; (case k1 => assumption); (case k2 => k_asm); (case k3 => k_asm); (case k4 => k_asm); (case k5 => k_asm); (case k6 => rfl); (case o1 => k_mem); (case o2 => k_mem); (case k7 => walk_at "part"); (case k8 => (first | assumption | k_ne)); (case k9 => assumption); (case m0 => decide); (case m1 => decide); (case d1 => walk_at "room"); (case d2 => walk_at "room")); intro v' tv' tl' vs' nA' nD' sd' h' tk' F' N' hv' hlo' hhi'; (try k_sweep)))
local macro_rules | `(tactic| walk_at "call ref") => `(tactic| (k_here; (with_reducible show wpAny _ _ (call (Value.ref 217) [Value.int _ _, Value.ref _]) _ _ _); k_dflt (refine' told_u ?k1 ?k2 ?k3 ?k4 ?k5 ?k6 ?xb ?tb ?kd ?o1 ?k7 ?k8 ?m0 ?m1 ?d1 ?d2 ?_; (case k1 => assumption); (case k2 => k_asm); (case k3 => k_asm); (case k4 => k_asm); (case k5 => k_asm); (case k6 => rfl); (case xb => assumption); (case tb => assumption); (case kd => assumption); (case o1 => k_mem); (case k7 => walk_at "part"); (case k8 => assumption); (case m0 => assumption); (case m1 => assumption); (case d1 => walk_at "room"); (case d2 => walk_at "room")); intro v' h' g' tk' hO' KT' F' N' B' X' T' kD'; (try k_sweep)))
local macro_rules | `(tactic| walk_at "call ref") => `(tactic| (k_here; (with_reducible show wpAny _ _ (call (Value.ref 210) [Value.int _ _, Value.ref _]) _ _ _); k_dflt (refine' unitL_u ?k1 ?k2 ?k3 ?k4 ?k5 ?k6 ?o1 ?k7 ?k8 ?m0 ?m1 ?d1 ?d2 ?_; (case k1 => assumption); (case k2 => k_asm); (case k3 => k_asm); (case k4 => k_asm); (case k5 => k_asm); (case k6 => rfl); (case o1 => k_mem); (case k7 => walk_at "part"); (case k8 => assumption); (case m0 => assumption); (case m1 => assumption); (case d1 => walk_at "room"); (case d2 => walk_at "room")); intro v' h' tk' hO' F' N'; (try k_sweep)))
local macro_rules | `(tactic| walk_at "call ref") => `(tactic| (k_here; (with_reducible show wpAny _ _ (call (Value.ref 128) [Value.int _ _, Value.ref _]) _ _ _); k_dflt (refine' suppr_u ?k1 ?k2 ?k3 ?k4 ?k5 ?k6 ?o1 ?k7 ?k8 ?m0 ?m1 ?d1 ?d2 ?_; (case k1 => assumption); (case k2 => k_asm); (case k3 => k_asm); (case k4 => k_asm); (case k5 => k_asm); (case k6 => rfl); (case o1 => k_mem); (case k7 => walk_at "part"); (case k8 => assumption); (case m0 => assumption); (case m1 => assumption); (case d1 => walk_at "room"); (case d2 => walk_at "room")); intro D' o' h' tk' hS' l1 F' N'; (try k_sweep)))
local macro_rules | `(tactic| walk_at "call ref") => `(tactic| (k_here; (with_reducible show wpAny _ _ (call (Value.ref 114) [Value.int _ _, Value.int _ _, Value.int _ _, Value.int _ _, Value.ref _, Value.str _ _]) _ _ _); k_dflt (refine' quot_u ?k1 ?k2 ?k3 ?k4 ?k5 ?k6 ?o1 ?k7 ?k8 ?m0 ?m1 ?m2 ?m3 ?d1 ?d2 ?_; (case k1 => assumption); (case k2 => k_asm); (case k3 => k_asm); (case k4 => k_asm); (case k5 => k_asm); (case k6 => rfl); (case o1 => k_mem); (case k7 => walk_at "part"); (case k8 => assumption); (case m0 => assumption); (case m1 => assumption); (case m2 => (first | assumption | decide)); (case m3 => (first | assumption | decide)); (case d1 => walk_at "room"); (case d2 => walk_at "room")); intro D' x' y' tx' ty' h' tk' hq' l1 F' N'; (try k_sweep)))
local macro_rules | `(tactic| walk_at "call ref") => `(tactic| (k_here; (with_reducible show wpAny _ _ (call (Value.ref 135) [Value.str (Str.ofString "%d") _, Value.int _ _]) _ _ _); k_dflt (refine' rnd_u ?k1 ?k2 ?k3 ?k4 ?k5 ?k6 ?m0 ?m1 ?d1 ?d2 ?_; (case k1 => assumption); (case k2 => k_asm); (case k3 => k_asm); (case k4 => k_asm); (case k5 => k_asm); (case k6 => rfl); (case m0 => assumption); (case m1 => assumption); (case d1 => walk_at "room"); (case d2 => walk_at "room")); intro t' h' tk' F' N'; (try k_sweep)))
local macro_rules | `(tactic| walk_at "call ref") => `(tactic| (k_here; (with_reducible show wpAny _ _ (call (Value.ref 135) [Value.str (Str.ofString "%5d") _, Value.int _ _]) _ _ _); k_dflt (refine' rnd5_u ?k1 ?k2 ?k3 ?k4 ?k5 ?k6 ?m0 ?m1 ?d1 ?d2 ?_; (case k1 => assumption); (case k2 => k_asm); (case k3 => k_asm); (case k4 => k_asm); (case k5 => k_asm); (case k6 => rfl); (case m0 => exact fmod_lo _ (by decide)); (case m1 => exact fmod_hi _ (by decide)); (case d1 => walk_at "room"); (case d2 => walk_at "room")); intro t' h' tk' F' N'; (try k_sweep)))
local macro_rules | `(tactic| walk_at "LeaveT0") => `(tactic| (k_dflt (refine' leaveT0_ ?T ?F ?N ?_; (case T => first | assumption | exact KtsTurn.refl); (case F => k_asm); (case N => k_asm)); intro kF kN; (try simp only [List.cons_append, List.nil_append] at kN); (try dsimp only)))
local macro_rules | `(tactic| walk_at "call type:set") => `(tactic| (k_here; (with_reducible show wpAny _ _ (call (Value.type "set") [Value.ref _]) _ _ _); k_dflt (refine' list_to_set ?hh ?F ?N ?hm ?hi ?h8 ?_; (case hh => rfl); (case F => k_asm); (case N => k_asm); (case hm => k_mem); (case hi => assumption); (case h8 => exact small_app (by assumption) (by assumption))); intro d' h' o' tk' F' N' l1 hS'; (rw [sup_eq (by assumption)] at hS'); (try k_lt l1); (try k_sweep)))
local macro_rules | `(tactic| walk_at "call type:set") => `(tactic| (k_here; (with_reducible show wpAny _ _ (call (Value.type "set") [Value.ref _]) _ _ _); k_dflt (refine' list_to_setA ?hh ?F ?N ?hm ?hi ?h8 ?ha ?_; (case hh => rfl); (case F => k_asm); (case N => k_asm); (case hm => k_mem); (case hi => assumption); (case h8 => assumption); (case ha => assumption)); intro d' h' o' tk' F' N' l1 hS'; (try k_lt l1); (try k_sweep)))
local macro_rules | `(tactic| walk_at "binaryOp Add ref ref") => `(tactic| (k_here; k_dflt (refine' add_range ?F ?N ?a ?b ?i ?j ?hS ?z ?_; (case F => k_asm); (case N => k_asm); (case a => kmk_list); (case b => kmk_list); (case j => assumption); (case i => assumption); (case hS => assumption); (case z => assumption)); intro D' ws' h' F' N' l1 hI'; (try k_lt l1); (try k_sweep)))
local macro_rules | `(tactic| walk_at "subscriptTail") => `(tactic| (k_here; (with_reducible show wpAny _ _ (subscriptTail _ _ (Value.ref _) (Value.int _ _)) _ _ _); k_dflt (refine' pick6 ?N ?hm ?h0 ?h6 ?_ ?hs; (case N => k_asm); (case hm => k_mem); (case h0 => assumption); (case h6 => assumption); (case hs => with_unfolding_all rfl)); intro d' t' hd0' hd1'))


section
local macro_rules | `(tactic| walk_at "mine enterT0C") => `(tactic| (refine' code_defT0C ?k1 ?k2 ?k3 ?k4 ?o1 ?o2 ?k5 ?kA ?kF ?kK ?k6 ?k7 ?k8 ?k9 ?kB ?kD ?_ ?c2 ?c3 ?c4; (case kA => exact rfl); (case kF => exact rfl); (case kK => first | assumption | exact rfl); (case k1 => k_asm); (case k2 => k_asm); (case k3 => k_asm); (case k4 => k_asm); (case k5 => k_asm); (case k6 => k_is); (case k7 => k_is); (case k8 => ktr_room); (case k9 => first | exact BindsTo.of_eq rfl | exact binds_K (by k_in) rfl (by k_is) rfl rfl rfl); (case kB => exact rfl); (case kD => decide +kernel); (case c2 => exact rfl); (case c3 => exact rfl); (case c4 => exact rfl); (case o1 => assumption); (case o2 => assumption); intro g' L' h' tk' cells' FG' F' N' Y' B' X' T' l1 kD'; (try k_lt l1); k_cells Y'; (try simp only [List.cons_append, List.nil_append] at N'); (try dsimp only); (try k_lift B'); (try k_fold)))
local macro_rules | `(tactic| walk_at "call ref") => `(tactic| (k_here; (with_reducible show wpAny _ _ (call (Value.ref 205) [Value.ref _, Value.int 1000000 _]) _ _ _); refine MStop.out ?_))
local macro_rules | `(tactic| walk_at "takeN") => `(tactic| (k_dflt (refine' take_u ?k1 ?k2 ?k3 ?k4 ?k5 ?k6 ?o1 ?o2 ?k7 ?k8 ?k9 ?m0 ?m1 ?d1 ?d2 ?_; (case k1 => assumption); (case k2 => k_asm); (case k3 => k_asm); (case k4 => k_asm); (case k5 => k_asm); (case k6 => rfl); (case o1 => k_mem); (case o2 => k_mem); (case k7 => walk_at "part"); (case k8 => (first | assumption | k_ne)); (case k9 => assumption); (case m0 => decide); (case m1 => decide); (case d1 => walk_at "room"); (case d2 => walk_at "room")); intro v' tv' tl' vs' nA' nD' sd' h' tk' F' N' hv' hlo' hhi'; (try k_sweep)))
local macro_rules | `(tactic| walk_at "loopN") => `(tactic| (k_dflt (refine' range_said (n := 8) ?hw ?hh ?hr ?hs ?hn ?F ?N ?hP ?turn ?done; (case hw => assumption); (case hh => rfl); (case hr => assumption); (case hs => decide); (case hn => first | rfl | decide); (case F => k_asm); (case N => assumption); (case hP => exact True.intro)); (case' turn => (intro i' k' t' u' h' tk' own' hi' hk' hP' off' F' N'; (try simp only [List.nil_append, List.cons_append, List.map_cons, List.map_nil] at N' off'); (try k_sweep); (try k_fold))); (case' done => (intro u' h' tk' hP' F' N'; (try k_sweep); (try dsimp only)))))
local macro_rules | `(tactic| walk_at "pyIter ref") => `(tactic| (k_here; (with_reducible show wpAny _ _ (pyIter (Value.ref _)) (fun it s₂ => LoopAtV _ _ _ _ _ _ _ _ _ it s₂) _ _); refine MStop.out ?_))
theorem stored_ne {t z : Str} (h : [t].contains z = false) : z ≠ t := fun e => by
  subst e
  simp at h
theorem news_d3 {g h : Heap} {L : Addr} {a b c d e : Addr × Obj} {rest : List (Addr × Obj)} (N : News g L h (a :: b :: c :: d :: e :: rest)) : News g L h (a :: b :: rest) := news_sub N fun p hp => by
  rcases List.mem_cons.mp hp with q | hp
  · exact q ▸ .head _
  · rcases List.mem_cons.mp hp with q | hp
    · exact q ▸ .tail _ (.head _)
    · exact .tail _ (.tail _ (.tail _ (.tail _ (.tail _ hp))))
set_option maxHeartbeats 16000000 in
theorem units_c {w : World} {mean : ExcName → Option Value} {mg mb : Str → Option Value} {dp un : Nat} {gd : Option (List Code)} {cn : Str} {cs : Scope} {a : Addr} {ccd : Value} {cl : List (Str × Addr)} {A₀ : Around} {base h₀ : Heap} {L : Addr} {m : Str → Option Value} {s : Shared} {Q E : Value → Shared → Prop}
    {news rest : List (Addr × Obj)} {D A : Addr} {vs : List Value} {nA nD : Nat} {sd : Int} {t : Tok}
    (B : Below A₀ base [] h₀) (F : Fr h₀ L s.heap m) (X : (Mine.hd.heap_39 w.params).In h₀) (N : News h₀ L s.heap news)
    (T : Top Mine.hd.view_39 (looseW Mine.hd.view_39 [Str.ofString "_date_and_delta", Str.ofString "_THOUSANDS_SEPARATOR", Str.ofString "_DECIMAL_SEPARATOR"]) mean mg mb h₀)
    (XB : (Mine.hd.heap_39 w.params).In base)
    (TB : Top Mine.hd.view_39 (looseW Mine.hd.view_39 [Str.ofString "_date_and_delta", Str.ofString "_THOUSANDS_SEPARATOR", Str.ofString "_DECIMAL_SEPARATOR"]) mean mg mb base)
    (hk : cs.kind = .function)
    (hown : ∀ q ∈ [(D, listOf #[.ref A, .int sd t] nD), (A, listOf vs.toArray nA)], q ∈ news)
    (hrest : ∀ q ∈ rest, q ∈ news ∧ ∀ z ∈ [(D, listOf #[.ref A, .int sd t] nD), (A, listOf vs.toArray nA)], q.1 ≠ z.1)
    (hne : @Ne Nat D A)
    (hv : Drawn vs sd)
    (hd : dp < 700) (hu : un < 900)
    (h : ∀ (t'' : Tok) (vs' : List Value) (nA' nD' : Nat) (sd' : Int) (h' : Heap) (tk' : Nat), Fr h₀ L h' m →
      News h₀ L h' ((D, listOf #[.ref A, .int sd' t''] nD') :: (A, listOf vs'.toArray nA') :: rest) → Drawn vs' sd' →
      Q (.bool true) { s with heap := h', toks := tk' }) :
    wpAny (model PySem.Challenge.rw_aq6038_01.row.prog w) (ktrTop dp un gd cn cs L a ccd cl []) (call (.ref 222) [.ref D]) Q E s := by
  revert X; k_fill; intro X
  refine wpAny_call ?_
  k_dflt (walk_at "mine enterT0C")
  k_steps
  rename IntsAre _ _ => hI8
  rename (_ = List.length _) => kx
  clear kx
  replace hI8 := mask_is hI8
  obtain ⟨ks, hI8, asc, small⟩ := hI8
  k_steps
  k_dflt (refine ne_opt (by assumption) (by assumption) ?_)
  intro _
  try dsimp only
  k_steps
  refine MStop.mk ?_
  rename News _ _ _ _ => kN
  replace kN := news_keep [false, false, false, false, false, false, false, true, true, false, true, true, true] kN
  dsimp only [keepB] at kN
  obtain ⟨W0, K0, L1, e1, e2, e3⟩ := split5 kN
  dsimp only at e1 e2
  subst e1 e2 e3
  have f1 : @LT.lt Nat _ D W0 := by omega
  have f2 : @LT.lt Nat _ A W0 := by omega
  have f3 : @LT.lt Nat _ (L1 + 1) W0 := by omega
  have f4 : @LT.lt Nat _ W0 K0 := by omega
  have f5 : @LT.lt Nat _ D (L1 + 1) := by omega
  have f6 : @LT.lt Nat _ A (L1 + 1) := by omega
  have f7 : @LT.lt Nat _ D K0 := Nat.lt_trans f1 f4
  have f8 : @LT.lt Nat _ A K0 := Nat.lt_trans f2 f4
  have f9 : @LT.lt Nat _ (L1 + 1) K0 := Nat.lt_trans f3 f4
  (repeat (rename _ ∧ _ => kx; clear kx))
  rename @Ne Nat _ _ => kx
  clear kx
  have hW : TheWord (fun _ => True) [Str.ofString "told"] := .mk
  walk_at "takeN"
  k_steps
  refine MStop.mk ?_
  rename News _ _ _ _ => kN
  replace kN := news_keep [true, true, false, true, true, true] kN
  dsimp only [keepB] at kN
  walk_at "loopN"
  all_goals k_steps
  all_goals (try walk_at "InvEndN")
  all_goals first
    | exact True.intro
    | (simp only [beq_self_eq_true]; exact h _ _ _ _ _ _ _ (by assumption) (news_d3 (by assumption)) (by assumption))
    | exact absurd (quot_no1 (by assumption) (by assumption) (by assumption)) id
    | exact absurd (quot_no2 (by assumption) (by assumption) (by assumption) (by assumption)) id
    | exact absurd (quot_no3 (by assumption) (by assumption) (by assumption) (by assumption)) id
    | (refine InvEndN.intro (by assumption) (by assumption) (wordJ_intro ?wP ?wS) ?e1 ?e2 ?e3; (case e1 => rfl); (case wP => exact True.intro); (case wS => (intro z h1 h2; have hz := stored_ne h2; (try dsimp only); first | (rw [if_neg hz, if_neg h1, if_neg (by rw [h2]; decide)]; done) | (rw [if_neg hz, if_neg h1, if_neg (by rw [h2]; decide)]; rfl) | (simp only [if_neg hz, if_neg h1, h2, Bool.false_eq_true, if_false]; done))); (case e2 => first | (with_unfolding_all ((try simp only [List.nil_append, List.cons_append]); k_allIn))); (case e3 => first | (intro p hp; k_ownIn)))

end
local macro_rules | `(tactic| walk_at "no such key") => `(tactic| skip)
local macro_rules | `(tactic| walk_at "no such key") => `(tactic| skip)
local macro_rules | `(tactic| walk_at "no such key") => `(tactic| skip)
local macro_rules | `(tactic| walk_at "no such key") => `(tactic| skip)
local macro_rules | `(tactic| walk_at "no such key") => `(tactic| skip)
local macro_rules | `(tactic| walk_at "no such key") => `(tactic| skip)

section
theorem call_norm {M : Model} {A : Around} {E : Value → Shared → Prop} {s : Shared} {Q : Value → Shared → Prop} {f f' : Value} {a a' : List Value} {kw kw' : List (Str × Value)} (h1 : f = f') (h2 : a = a') (h3 : kw = kw') (h : wpAny M A (call f' a' kw') Q E s) : wpAny M A (call f a kw) Q E s := by
  subst h1; subst h2; subst h3; exact h
theorem whole_eq (z : Int) : (z.fdiv 86400000000 * 86400 + (z.fmod 86400000000).fdiv 1000000) * 1000000 + (z.fmod 86400000000).fmod 1000000 = z := by
  have h1 := Int.fmod_eq_emod_of_nonneg z (b := 86400000000) (by decide)
  have h2 := Int.fdiv_eq_ediv_of_nonneg z (b := 86400000000) (by decide)
  have h3 := Int.fmod_eq_emod_of_nonneg (z.fmod 86400000000) (b := 1000000) (by decide)
  have h4 := Int.fdiv_eq_ediv_of_nonneg (z.fmod 86400000000) (b := 1000000) (by decide)
  rw [h3, h4, h2, h1]
  omega
theorem Part.cover {own news rest : List (Addr × Obj)} (h : Part own news rest) : ∀ q ∈ news, q ∈ own ++ rest := by
  induction h with
  | nil => exact fun q hq => absurd hq List.not_mem_nil
  | tail ht => exact fun q hq => List.mem_append_right _ hq
  | skip hp _ ih =>
    intro q hq
    rcases List.mem_cons.mp hq with rfl | hq
    · exact List.mem_append_left _ hp
    · exact ih q hq
  | keep _ _ ih =>
    intro q hq
    rcases List.mem_cons.mp hq with rfl | hq
    · exact List.mem_append_right _ (.head _)
    · rcases List.mem_append.mp (ih q hq) with z | z
      · exact List.mem_append_left _ z
      · exact List.mem_append_right _ (.tail _ z)
theorem news_cov {h₀ h : Heap} {L : Addr} {own news rest : List (Addr × Obj)} (N : News h₀ L h own) (R : News h₀ L h rest) (hc : ∀ q ∈ news, q ∈ own ++ rest) : News h₀ L h news := fun q hq => by
  rcases List.mem_append.mp (hc q hq) with z | z
  · exact N q z
  · exact R q z
set_option maxHeartbeats 8000000 in
theorem whole_c {w : World} {mean : ExcName → Option Value} {mg mb : Str → Option Value} {dp un : Nat} {gd : Option (List Code)} {cn : Str} {cs : Scope} {a : Addr} {ccd : Value} {cl : List (Str × Addr)} {outer : List Env} {A₀ : Around} {base h₀ : Heap} {L : Addr} {m : Str → Option Value} {s : Shared} {Q E : Value → Shared → Prop} {news : List (Addr × Obj)} {rest : List (Addr × Obj)} {x dx : Addr} {z : Int} {n : Nat} {k1 u1 k2 u2 k3 u3 : Tok}
    (B : Below A₀ base outer h₀) (F : Fr h₀ L s.heap m) (X : (Mine.hd.heap_39 w.params).In h₀) (N : News h₀ L s.heap news) (T : Top Mine.hd.view_39 (looseW Mine.hd.view_39 [Str.ofString "_date_and_delta", Str.ofString "_THOUSANDS_SEPARATOR", Str.ofString "_DECIMAL_SEPARATOR"]) mean mg mb h₀) (hk : cs.kind = .function)
    (hown : ∀ q ∈ [(x, instObj 46 dx), (dx, spanD w z n k1 u1 k2 u2 k3 u3)], q ∈ news) (hrest : ∀ q ∈ rest, q ∈ news ∧ ∀ y ∈ [(x, instObj 46 dx), (dx, spanD w z n k1 u1 k2 u2 k3 u3)], q.1 ≠ y.1)
    (hcov : ∀ q ∈ news, q ∈ [(x, instObj 46 dx), (dx, spanD w z n k1 u1 k2 u2 k3 u3)] ++ rest) (hlt : @LT.lt Nat _ dx x)
    (hd : dp < 800) (hu : un < 1000)
    (h : ∀ (t' : Tok) (h' : Heap) (tk' : Nat), Fr h₀ L h' m → News h₀ L h' news → Q (.int z t') { s with heap := h', toks := tk' }) :
    wpAny (model PySem.Challenge.rw_aq6038_01.row.prog w) (ktrTop dp un gd cn cs L a ccd cl outer) (call (.ref 36) [.ref x]) Q E s := by
  revert X; k_fill; intro X
  refine wpAny_call ?_
  k_dflt (walk_at "mine enter")
  k_steps
  rename News _ _ _ rest => kR
  rename News h₀ L _ (_ :: _) => kN
  rw [whole_eq]
  exact h _ _ _ (by assumption) (news_cov (own := [_, _]) kN kR hcov)
theorem whole_u {w : World} {mean : ExcName → Option Value} {mg mb : Str → Option Value} {dp un : Nat} {gd : Option (List Code)} {cn : Str} {cs : Scope} {a : Addr} {ccd : Value} {cl : List (Str × Addr)} {outer : List Env} {A₀ : Around} {base h₀ : Heap} {L : Addr} {m : Str → Option Value} {s : Shared} {Q E : Value → Shared → Prop} {news : List (Addr × Obj)} {rest : List (Addr × Obj)} {x dx : Addr} {z : Int} {n : Nat} {k1 u1 k2 u2 k3 u3 : Tok}
    (B : Below A₀ base outer h₀) (F : Fr h₀ L s.heap m) (X : (Mine.hd.heap_39 w.params).In h₀) (N : News h₀ L s.heap news) (T : Top Mine.hd.view_39 (looseW Mine.hd.view_39 [Str.ofString "_date_and_delta", Str.ofString "_THOUSANDS_SEPARATOR", Str.ofString "_DECIMAL_SEPARATOR"]) mean mg mb h₀) (hk : cs.kind = .function) (hx : (x, instObj 46 dx) ∈ news) (hx' : (dx, spanD w z n k1 u1 k2 u2 k3 u3) ∈ news) (hrest : Part [(x, instObj 46 dx), (dx, spanD w z n k1 u1 k2 u2 k3 u3)] news rest) (hlt : @LT.lt Nat _ dx x)
    (hd : dp < 800) (hu : un < 1000)
    (h : ∀ (t' : Tok) (h' : Heap) (tk' : Nat), Fr h₀ L h' m → News h₀ L h' news → Q (.int z t') { s with heap := h', toks := tk' }) :
    wpAny (model PySem.Challenge.rw_aq6038_01.row.prog w) (ktrTop dp un gd cn cs L a ccd cl outer) (call (.ref 36) [.ref x]) Q E s :=
  whole_c B F X N T hk (all_cons hx (all_cons hx' all_nil)) hrest.rest hrest.cover hlt hd hu h

end
local macro_rules | `(tactic| walk_at "no such key") => `(tactic| skip)
local macro_rules | `(tactic| walk_at "no such key") => `(tactic| skip)
local macro_rules | `(tactic| walk_at "no such key") => `(tactic| skip)
local macro_rules | `(tactic| walk_at "no such key") => `(tactic| skip)
local macro_rules | `(tactic| walk_at "no such key") => `(tactic| skip)
local macro_rules | `(tactic| walk_at "no such key") => `(tactic| skip)
-- spans and moments: contracts as steps
local macro_rules | `(tactic| walk_at "mine enterL") => `(tactic| (refine' code_defL ?k1 ?k2 ?k3 ?k4 ?o1 ?o2 ?k5 ?kA ?kF ?kK ?k6 ?k7 ?k8 ?k9 ?kB ?_ ?c2 ?c3 ?c4 ?c5; (case kA => exact rfl); (case kF => exact rfl); (case kK => first | assumption | exact rfl); (case k1 => k_asm); (case k2 => k_asm); (case k3 => k_asm); (case k4 => k_asm); (case k5 => k_asm); (case k6 => k_is); (case k7 => k_is); (case k8 => ktr_room); (case k9 => first | exact BindsTo.of_eq rfl | exact binds_K (by k_in) rfl (by k_is) rfl rfl rfl | (refine' kp_binds ?kx ?ke; (case kx => k_in); (case ke => exact fun _ => rfl))); (case c5 => decide); (case kB => exact locs rfl); (case c2 => exact rfl); (case c3 => exact rfl); (case c4 => exact rfl); (case o1 => assumption); (case o2 => assumption); intro g' L' h' FG' F' N' B' X' T' hab' hLL'; (try dsimp only); (try k_lift B'); (try k_fold)))
local macro_rules | `(tactic| walk_at "span bound") => `(tactic| first | with_reducible assumption | omega)
local macro_rules | `(tactic| walk_at "lower") => `(tactic| first | with_reducible assumption | omega)
local macro_rules | `(tactic| walk_at "call builtin:abs") => `(tactic| (k_here; (with_reducible show wpAny _ _ (call (Value.builtin "abs") [Value.ref _]) _ _ _); k_dflt (refine' abs_own ?k1 ?k2 ?k3 ?k4 ?k5 ?_; (case k1 => k_asm); (case k2 => k_asm); (case k3 => k_inst); (case k4 => k_is); (case k5 => k_is); k_whole)))
local macro_rules | `(tactic| walk_at "call ref") => `(tactic| (k_here; (with_reducible refine' call_norm (f' := Value.ref 36) (a' := [Value.ref _]) (kw' := []) ?n1 ?n2 ?n3 ?_); k_dflt ((case n1 => exact rfl); (case n2 => exact rfl); (case n3 => exact rfl)); k_dflt (refine' whole_u ?k1 ?k2 ?k3 ?k4 ?k5 ?k6 ?o1 ?o2 ?k7 ?k8 ?d1 ?d2 ?_; (case k1 => assumption); (case k2 => k_asm); (case k3 => k_asm); (case k4 => k_asm); (case k5 => k_asm); (case k6 => rfl); (case o1 => k_mem); (case o2 => k_mem); (case k7 => walk_at "part"); (case k8 => walk_at "lower"); (case d1 => walk_at "room"); (case d2 => walk_at "room")); intro t' h' tk' F' N'; (try k_sweep)))
local macro_rules | `(tactic| walk_at "call ref") => `(tactic| (k_here; (with_reducible refine' call_norm (f' := Value.ref 46) (a' := [Value.int 0 _, Value.int 0 _, Value.int _ _]) (kw' := []) ?n1 ?n2 ?n3 ?_); k_dflt ((case n1 => exact rfl); (case n2 => exact rfl); (case n3 => exact rfl)); k_dflt (refine' td_c ?k1 ?k2 ?k3 ?k4 ?k5 ?k6 ?z0 ?z1 ?d1 ?d2 ?_; (case k1 => assumption); (case k2 => k_asm); (case k3 => k_asm); (case k4 => k_asm); (case k5 => k_asm); (case k6 => rfl); (case z0 => walk_at "span bound"); (case z1 => walk_at "span bound"); (case d1 => walk_at "room"); (case d2 => walk_at "room")); intro x' d' n' k1' u1' k2' u2' k3' u3' h' tk' F' N' l1 l0 l2; (try k_lt l1); (try k_sweep)))
local macro_rules | `(tactic| walk_at "call ref") => `(tactic| (k_here; (with_reducible refine' call_norm (f' := Value.ref 81) (a' := [Value.int _ _]) (kw' := []) ?n1 ?n2 ?n3 ?_); k_dflt ((case n1 => exact rfl); (case n2 => exact rfl); (case n3 => exact rfl)); k_dflt (refine' dt_c ?k1 ?k2 ?k3 ?k4 ?k5 ?k6 ?z0 ?z1 ?d1 ?d2 ?_; (case k1 => assumption); (case k2 => k_asm); (case k3 => k_asm); (case k4 => k_asm); (case k5 => k_asm); (case k6 => rfl); (case z0 => walk_at "span bound"); (case z1 => walk_at "span bound"); (case d1 => walk_at "room"); (case d2 => walk_at "room")); intro x' d' n' k1' u1' h' tk' F' N' l1 l0 l2; (try k_lt l1); (try k_sweep)))


section
theorem news_cov2 {h₀ h : Heap} {L : Addr} {a b : Addr × Obj} {own news rest r : List (Addr × Obj)} (N : News h₀ L h r) (R : News h₀ L h rest) (hs : ∀ q ∈ a :: b :: own, q ∈ r) (hc : ∀ q ∈ news, q ∈ own ++ rest) : News h₀ L h (a :: b :: news) := fun q hq => by
  rcases List.mem_cons.mp hq with rfl | hq
  · exact N _ (hs _ (.head _))
  · rcases List.mem_cons.mp hq with rfl | hq
    · exact N _ (hs _ (.tail _ (.head _)))
    · rcases List.mem_append.mp (hc q hq) with z | z
      · exact N q (hs _ (.tail _ (.tail _ z)))
      · exact R q z
theorem abs_lo {z b : Int} (h0 : -b < z) (h1 : z < b) : -b < (if z < 0 then -z else z) := by split <;> omega
theorem abs_hi {z b : Int} (h0 : -b < z) (h1 : z < b) : (if z < 0 then -z else z) < b := by split <;> omega
section
local macro_rules | `(tactic| walk_at "span bound") => `(tactic| first | exact abs_lo (by assumption) (by assumption) | exact abs_hi (by assumption) (by assumption))
set_option maxHeartbeats 8000000 in
theorem absd_c {w : World} {mean : ExcName → Option Value} {mg mb : Str → Option Value} {dp un : Nat} {gd : Option (List Code)} {cn : Str} {cs : Scope} {a : Addr} {ccd : Value} {cl : List (Str × Addr)} {outer : List Env} {A₀ : Around} {base h₀ : Heap} {L : Addr} {m : Str → Option Value} {s : Shared} {Q E : Value → Shared → Prop} {news : List (Addr × Obj)} {rest : List (Addr × Obj)} {x dx : Addr} {z : Int} {n : Nat} {k1 u1 k2 u2 k3 u3 : Tok}
    (B : Below A₀ base outer h₀) (F : Fr h₀ L s.heap m) (X : (Mine.hd.heap_39 w.params).In h₀) (N : News h₀ L s.heap news) (T : Top Mine.hd.view_39 (looseW Mine.hd.view_39 [Str.ofString "_date_and_delta", Str.ofString "_THOUSANDS_SEPARATOR", Str.ofString "_DECIMAL_SEPARATOR"]) mean mg mb h₀) (hk : cs.kind = .function)
    (hown : ∀ q ∈ [(x, instObj 46 dx), (dx, spanD w z n k1 u1 k2 u2 k3 u3)], q ∈ news) (hrest : ∀ q ∈ rest, q ∈ news ∧ ∀ v ∈ [(x, instObj 46 dx), (dx, spanD w z n k1 u1 k2 u2 k3 u3)], q.1 ≠ v.1)
    (hcov : ∀ q ∈ news, q ∈ [(x, instObj 46 dx), (dx, spanD w z n k1 u1 k2 u2 k3 u3)] ++ rest) (hlt : @LT.lt Nat _ dx x) (hz0 : -10 ^ 17 < z) (hz1 : z < 10 ^ 17)
    (hd : dp < 790) (hu : un < 990)
    (h : ∀ (x' dx' : Addr) (n' : Nat) (k1' u1' k2' u2' k3' u3' : Tok) (h' : Heap) (tk' : Nat), Fr h₀ L h' m → News h₀ L h' ((x', instObj 46 dx') :: (dx', spanD w (if z < 0 then -z else z) n' k1' u1' k2' u2' k3' u3') :: news) →
      (∀ p ∈ news, p.1 < dx') → @LT.lt Nat _ L dx' → @LT.lt Nat _ dx' x' → Q (.ref x') { s with heap := h', toks := tk' }) :
    wpAny (model PySem.Challenge.rw_aq6038_01.row.prog w) (ktrTop dp un gd cn cs L a ccd cl outer) (call (.ref 43) [.ref x]) Q E s := by
  revert X; k_fill; intro X
  refine wpAny_call ?_
  k_dflt (walk_at "mine enterL")
  k_steps
  rename News _ _ _ rest => kR
  rename News h₀ L _ (_ :: _) => kN
  rename (∀ q ∈ news, @LT.lt Nat _ q.1 _) => hab
  rename @LT.lt Nat _ L _ => hLL
  exact h _ _ _ _ _ _ _ _ _ _ _ (by assumption) (news_cov2 (own := [_, _]) kN kR (by lcg_sub) hcov) (fun q hq => Nat.lt_trans (hab q hq) (by assumption)) (Nat.lt_trans hLL (by assumption)) (by assumption)
end
set_option maxHeartbeats 8000000 in
theorem subT_c {w : World} {mean : ExcName → Option Value} {mg mb : Str → Option Value} {dp un : Nat} {gd : Option (List Code)} {cn : Str} {cs : Scope} {a : Addr} {ccd : Value} {cl : List (Str × Addr)} {outer : List Env} {A₀ : Around} {base h₀ : Heap} {L : Addr} {m : Str → Option Value} {s : Shared} {Q E : Value → Shared → Prop} {news : List (Addr × Obj)} {rest : List (Addr × Obj)} {x dx y dy : Addr} {z Z : Int} {n n1 : Nat} {k1 u1 k2 u2 k3 u3 k4 u4 : Tok}
    (B : Below A₀ base outer h₀) (F : Fr h₀ L s.heap m) (X : (Mine.hd.heap_39 w.params).In h₀) (N : News h₀ L s.heap news) (T : Top Mine.hd.view_39 (looseW Mine.hd.view_39 [Str.ofString "_date_and_delta", Str.ofString "_THOUSANDS_SEPARATOR", Str.ofString "_DECIMAL_SEPARATOR"]) mean mg mb h₀) (hk : cs.kind = .function)
    (hown : ∀ q ∈ [(x, instObj 46 dx), (dx, spanD w z n k1 u1 k2 u2 k3 u3), (y, instObj 81 dy), (dy, dayD w Z n1 k4 u4)], q ∈ news) (hrest : ∀ q ∈ rest, q ∈ news ∧ ∀ v ∈ [(x, instObj 46 dx), (dx, spanD w z n k1 u1 k2 u2 k3 u3), (y, instObj 81 dy), (dy, dayD w Z n1 k4 u4)], q.1 ≠ v.1)
    (hcov : ∀ q ∈ news, q ∈ [(x, instObj 46 dx), (dx, spanD w z n k1 u1 k2 u2 k3 u3), (y, instObj 81 dy), (dy, dayD w Z n1 k4 u4)] ++ rest) (hlt : @LT.lt Nat _ dx x) (hlt2 : @LT.lt Nat _ dy y) (hne : @Ne Nat x y) (hne2 : @Ne Nat dx y) (hne3 : @Ne Nat x dy) (hne4 : @Ne Nat dx dy) (hz0 : 0 ≤ Z - z) (hz1 : Z - z < 10 ^ 17)
    (hd : dp < 790) (hu : un < 990)
    (h : ∀ (x' dx' : Addr) (n' : Nat) (k1' u1' : Tok) (h' : Heap) (tk' : Nat), Fr h₀ L h' m → News h₀ L h' ((x', instObj 81 dx') :: (dx', dayD w (Z - z) n' k1' u1') :: news) → (∀ p ∈ news, p.1 < dx') → @LT.lt Nat _ L dx' → @LT.lt Nat _ dx' x' → Q (.ref x') { s with heap := h', toks := tk' }) :
    wpAny (model PySem.Challenge.rw_aq6038_01.row.prog w) (ktrTop dp un gd cn cs L a ccd cl outer) (call (.ref 71) [.ref y, .ref x]) Q E s := by
  revert X; k_fill; intro X
  refine wpAny_call ?_
  k_dflt (walk_at "mine enterL")
  k_steps
  rename News _ _ _ rest => kR
  rename News h₀ L _ (_ :: _) => kN
  rename (∀ q ∈ news, @LT.lt Nat _ q.1 _) => hab
  rename @LT.lt Nat _ L _ => hLL
  exact h _ _ _ _ _ _ _ (by assumption) (news_cov2 (own := [_, _, _, _]) kN kR (by lcg_sub) hcov) (fun q hq => Nat.lt_trans (hab q hq) (by assumption)) (Nat.lt_trans hLL (by assumption)) (by assumption)
set_option maxHeartbeats 8000000 in
theorem subD_c {w : World} {mean : ExcName → Option Value} {mg mb : Str → Option Value} {dp un : Nat} {gd : Option (List Code)} {cn : Str} {cs : Scope} {a : Addr} {ccd : Value} {cl : List (Str × Addr)} {outer : List Env} {A₀ : Around} {base h₀ : Heap} {L : Addr} {m : Str → Option Value} {s : Shared} {Q E : Value → Shared → Prop} {news : List (Addr × Obj)} {rest : List (Addr × Obj)} {x dx y dy : Addr} {Y Z : Int} {n n1 : Nat} {k1 u1 k4 u4 : Tok}
    (B : Below A₀ base outer h₀) (F : Fr h₀ L s.heap m) (X : (Mine.hd.heap_39 w.params).In h₀) (N : News h₀ L s.heap news) (T : Top Mine.hd.view_39 (looseW Mine.hd.view_39 [Str.ofString "_date_and_delta", Str.ofString "_THOUSANDS_SEPARATOR", Str.ofString "_DECIMAL_SEPARATOR"]) mean mg mb h₀) (hk : cs.kind = .function)
    (hown : ∀ q ∈ [(x, instObj 81 dx), (dx, dayD w Y n k1 u1), (y, instObj 81 dy), (dy, dayD w Z n1 k4 u4)], q ∈ news) (hrest : ∀ q ∈ rest, q ∈ news ∧ ∀ v ∈ [(x, instObj 81 dx), (dx, dayD w Y n k1 u1), (y, instObj 81 dy), (dy, dayD w Z n1 k4 u4)], q.1 ≠ v.1)
    (hcov : ∀ q ∈ news, q ∈ [(x, instObj 81 dx), (dx, dayD w Y n k1 u1), (y, instObj 81 dy), (dy, dayD w Z n1 k4 u4)] ++ rest) (hlt : @LT.lt Nat _ dx x) (hlt2 : @LT.lt Nat _ dy y) (hne : @Ne Nat x y) (hne2 : @Ne Nat dx y) (hne3 : @Ne Nat x dy) (hne4 : @Ne Nat dx dy) (hz0 : -10 ^ 17 < Z - Y) (hz1 : Z - Y < 10 ^ 17)
    (hd : dp < 790) (hu : un < 990)
    (h : ∀ (x' dx' : Addr) (n' : Nat) (k1' u1' k2' u2' k3' u3' : Tok) (h' : Heap) (tk' : Nat), Fr h₀ L h' m → News h₀ L h' ((x', instObj 46 dx') :: (dx', spanD w (Z - Y) n' k1' u1' k2' u2' k3' u3') :: news) → (∀ p ∈ news, p.1 < dx') → @LT.lt Nat _ L dx' → @LT.lt Nat _ dx' x' → Q (.ref x') { s with heap := h', toks := tk' }) :
    wpAny (model PySem.Challenge.rw_aq6038_01.row.prog w) (ktrTop dp un gd cn cs L a ccd cl outer) (call (.ref 71) [.ref y, .ref x]) Q E s := by
  revert X; k_fill; intro X
  refine wpAny_call ?_
  k_dflt (walk_at "mine enterL")
  k_steps
  rename News _ _ _ rest => kR
  rename News h₀ L _ (_ :: _) => kN
  rename (∀ q ∈ news, @LT.lt Nat _ q.1 _) => hab
  rename @LT.lt Nat _ L _ => hLL
  exact h _ _ _ _ _ _ _ _ _ _ _ (by assumption) (news_cov2 (own := [_, _, _, _]) kN kR (by lcg_sub) hcov) (fun q hq => Nat.lt_trans (hab q hq) (by assumption)) (Nat.lt_trans hLL (by assumption)) (by assumption)

end
local macro_rules | `(tactic| walk_at "no such key") => `(tactic| skip)
local macro_rules | `(tactic| walk_at "no such key") => `(tactic| skip)
local macro_rules | `(tactic| walk_at "no such key") => `(tactic| skip)
local macro_rules | `(tactic| walk_at "no such key") => `(tactic| skip)
local macro_rules | `(tactic| walk_at "no such key") => `(tactic| skip)
local macro_rules | `(tactic| walk_at "no such key") => `(tactic| skip)

section
theorem absd_u {w : World} {mean : ExcName → Option Value} {mg mb : Str → Option Value} {dp un : Nat} {gd : Option (List Code)} {cn : Str} {cs : Scope} {a : Addr} {ccd : Value} {cl : List (Str × Addr)} {outer : List Env} {A₀ : Around} {base h₀ : Heap} {L : Addr} {m : Str → Option Value} {s : Shared} {Q E : Value → Shared → Prop} {news : List (Addr × Obj)} {rest : List (Addr × Obj)} {x dx : Addr} {z : Int} {n : Nat} {k1 u1 k2 u2 k3 u3 : Tok}
    (B : Below A₀ base outer h₀) (F : Fr h₀ L s.heap m) (X : (Mine.hd.heap_39 w.params).In h₀) (N : News h₀ L s.heap news) (T : Top Mine.hd.view_39 (looseW Mine.hd.view_39 [Str.ofString "_date_and_delta", Str.ofString "_THOUSANDS_SEPARATOR", Str.ofString "_DECIMAL_SEPARATOR"]) mean mg mb h₀) (hk : cs.kind = .function) (h1 : (x, instObj 46 dx) ∈ news) (h2 : (dx, spanD w z n k1 u1 k2 u2 k3 u3) ∈ news) (hrest : Part [(x, instObj 46 dx), (dx, spanD w z n k1 u1 k2 u2 k3 u3)] news rest) (hlt : @LT.lt Nat _ dx x) (hz0 : -10 ^ 17 < z) (hz1 : z < 10 ^ 17)
    (hd : dp < 790) (hu : un < 990)
    (h : ∀ (x' dx' : Addr) (n' : Nat) (k1' u1' k2' u2' k3' u3' : Tok) (h' : Heap) (tk' : Nat), Fr h₀ L h' m → News h₀ L h' ((x', instObj 46 dx') :: (dx', spanD w (if z < 0 then -z else z) n' k1' u1' k2' u2' k3' u3') :: news) → (∀ p ∈ news, p.1 < dx') → @LT.lt Nat _ L dx' → @LT.lt Nat _ dx' x' → Q (.ref x') { s with heap := h', toks := tk' }) :
    wpAny (model PySem.Challenge.rw_aq6038_01.row.prog w) (ktrTop dp un gd cn cs L a ccd cl outer) (call (.ref 43) [.ref x]) Q E s :=
  absd_c B F X N T hk (all_cons h1 (all_cons h2 all_nil)) hrest.rest hrest.cover hlt hz0 hz1 hd hu h
theorem subT_u {w : World} {mean : ExcName → Option Value} {mg mb : Str → Option Value} {dp un : Nat} {gd : Option (List Code)} {cn : Str} {cs : Scope} {a : Addr} {ccd : Value} {cl : List (Str × Addr)} {outer : List Env} {A₀ : Around} {base h₀ : Heap} {L : Addr} {m : Str → Option Value} {s : Shared} {Q E : Value → Shared → Prop} {news : List (Addr × Obj)} {rest : List (Addr × Obj)} {x dx y dy : Addr} {z Z : Int} {n n1 : Nat} {k1 u1 k2 u2 k3 u3 k4 u4 : Tok}
    (B : Below A₀ base outer h₀) (F : Fr h₀ L s.heap m) (X : (Mine.hd.heap_39 w.params).In h₀) (N : News h₀ L s.heap news) (T : Top Mine.hd.view_39 (looseW Mine.hd.view_39 [Str.ofString "_date_and_delta", Str.ofString "_THOUSANDS_SEPARATOR", Str.ofString "_DECIMAL_SEPARATOR"]) mean mg mb h₀) (hk : cs.kind = .function) (h3 : (y, instObj 81 dy) ∈ news) (h4 : (dy, dayD w Z n1 k4 u4) ∈ news) (h1 : (x, instObj 46 dx) ∈ news) (h2 : (dx, spanD w z n k1 u1 k2 u2 k3 u3) ∈ news) (hrest : Part [(x, instObj 46 dx), (dx, spanD w z n k1 u1 k2 u2 k3 u3), (y, instObj 81 dy), (dy, dayD w Z n1 k4 u4)] news rest) (hlt : @LT.lt Nat _ dx x) (hlt2 : @LT.lt Nat _ dy y) (hne : @Ne Nat x y) (hne2 : @Ne Nat dx y) (hne3 : @Ne Nat x dy) (hne4 : @Ne Nat dx dy) (hz0 : 0 ≤ Z - z) (hz1 : Z - z < 10 ^ 17)
    (hd : dp < 790) (hu : un < 990)
    (h : ∀ (x' dx' : Addr) (n' : Nat) (k1' u1' : Tok) (h' : Heap) (tk' : Nat), Fr h₀ L h' m → News h₀ L h' ((x', instObj 81 dx') :: (dx', dayD w (Z - z) n' k1' u1') :: news) → (∀ p ∈ news, p.1 < dx') → @LT.lt Nat _ L dx' → @LT.lt Nat _ dx' x' → Q (.ref x') { s with heap := h', toks := tk' }) :
    wpAny (model PySem.Challenge.rw_aq6038_01.row.prog w) (ktrTop dp un gd cn cs L a ccd cl outer) (call (.ref 71) [.ref y, .ref x]) Q E s :=
  subT_c B F X N T hk (all_cons h1 (all_cons h2 (all_cons h3 (all_cons h4 all_nil)))) hrest.rest hrest.cover hlt hlt2 hne hne2 hne3 hne4 hz0 hz1 hd hu h
theorem subD_u {w : World} {mean : ExcName → Option Value} {mg mb : Str → Option Value} {dp un : Nat} {gd : Option (List Code)} {cn : Str} {cs : Scope} {a : Addr} {ccd : Value} {cl : List (Str × Addr)} {outer : List Env} {A₀ : Around} {base h₀ : Heap} {L : Addr} {m : Str → Option Value} {s : Shared} {Q E : Value → Shared → Prop} {news : List (Addr × Obj)} {rest : List (Addr × Obj)} {x dx y dy : Addr} {Y Z : Int} {n n1 : Nat} {k1 u1 k4 u4 : Tok}
    (B : Below A₀ base outer h₀) (F : Fr h₀ L s.heap m) (X : (Mine.hd.heap_39 w.params).In h₀) (N : News h₀ L s.heap news) (T : Top Mine.hd.view_39 (looseW Mine.hd.view_39 [Str.ofString "_date_and_delta", Str.ofString "_THOUSANDS_SEPARATOR", Str.ofString "_DECIMAL_SEPARATOR"]) mean mg mb h₀) (hk : cs.kind = .function) (h3 : (y, instObj 81 dy) ∈ news) (h4 : (dy, dayD w Z n1 k4 u4) ∈ news) (h1 : (x, instObj 81 dx) ∈ news) (h2 : (dx, dayD w Y n k1 u1) ∈ news) (hrest : Part [(x, instObj 81 dx), (dx, dayD w Y n k1 u1), (y, instObj 81 dy), (dy, dayD w Z n1 k4 u4)] news rest) (hlt : @LT.lt Nat _ dx x) (hlt2 : @LT.lt Nat _ dy y) (hne : @Ne Nat x y) (hne2 : @Ne Nat dx y) (hne3 : @Ne Nat x dy) (hne4 : @Ne Nat dx dy) (hz0 : -10 ^ 17 < Z - Y) (hz1 : Z - Y < 10 ^ 17)
    (hd : dp < 790) (hu : un < 990)
    (h : ∀ (x' dx' : Addr) (n' : Nat) (k1' u1' k2' u2' k3' u3' : Tok) (h' : Heap) (tk' : Nat), Fr h₀ L h' m → News h₀ L h' ((x', instObj 46 dx') :: (dx', spanD w (Z - Y) n' k1' u1' k2' u2' k3' u3') :: news) → (∀ p ∈ news, p.1 < dx') → @LT.lt Nat _ L dx' → @LT.lt Nat _ dx' x' → Q (.ref x') { s with heap := h', toks := tk' }) :
    wpAny (model PySem.Challenge.rw_aq6038_01.row.prog w) (ktrTop dp un gd cn cs L a ccd cl outer) (call (.ref 71) [.ref y, .ref x]) Q E s :=
  subD_c B F X N T hk (all_cons h1 (all_cons h2 (all_cons h3 (all_cons h4 all_nil)))) hrest.rest hrest.cover hlt hlt2 hne hne2 hne3 hne4 hz0 hz1 hd hu h

end
local macro_rules | `(tactic| walk_at "no such key") => `(tactic| skip)
local macro_rules | `(tactic| walk_at "no such key") => `(tactic| skip)
local macro_rules | `(tactic| walk_at "no such key") => `(tactic| skip)
local macro_rules | `(tactic| walk_at "no such key") => `(tactic| skip)
local macro_rules | `(tactic| walk_at "no such key") => `(tactic| skip)
local macro_rules | `(tactic| walk_at "no such key") => `(tactic| skip)
-- operators of spans and moments
local macro_rules | `(tactic| walk_at "apart") => `(tactic| first | with_reducible assumption | exact Nat.ne_of_lt (by assumption) | exact Nat.ne_of_gt (by assumption) | omega)
local macro_rules | `(tactic| walk_at "binaryOp Sub ref ref") => `(tactic| (k_here; (with_reducible show wpAny _ _ (binaryOp Operator.Sub (Value.ref _) (Value.ref _)) _ _ _); k_dflt (refine' binop_own2 (C2 := 46) ?k1 ?k2 ?k3 ?k4 ?a ?b ?k5 ?k6 ?k7 ?c ?d ?e1 ?e2 ?e3 ?e4 ?_; (case k1 => k_asm); (case k2 => k_asm); (case k3 => k_inst); (case k4 => k_typeOf); (case a => k_is); (case b => exact rfl); (case k5 => k_is); (case k6 => k_is); (case k7 => rfl); (case c => k_is); (case d => exact rfl); (case e1 => k_is); (case e2 => k_is); (case e3 => k_is); (case e4 => k_is); k_whole)))
local macro_rules | `(tactic| walk_at "call ref") => `(tactic| (k_here; (with_reducible refine' call_norm (f' := Value.ref 43) (a' := [Value.ref _]) (kw' := []) ?n1 ?n2 ?n3 ?_); k_dflt ((case n1 => exact rfl); (case n2 => exact rfl); (case n3 => exact rfl)); k_dflt (refine' absd_u ?k1 ?k2 ?k3 ?k4 ?k5 ?k6 ?o1 ?o2 ?k7 ?k8 ?z0 ?z1 ?d1 ?d2 ?_; (case k1 => assumption); (case k2 => k_asm); (case k3 => k_asm); (case k4 => k_asm); (case k5 => k_asm); (case k6 => rfl); (case o1 => k_mem); (case o2 => k_mem); (case k7 => walk_at "part"); (case k8 => walk_at "lower"); (case z0 => walk_at "span bound"); (case z1 => walk_at "span bound"); (case d1 => walk_at "room"); (case d2 => walk_at "room")); intro x' d' n' k1' u1' k2' u2' k3' u3' h' tk' F' N' l1 l0 l2; (try k_lt l1); (try k_sweep)))
local macro_rules | `(tactic| walk_at "call ref") => `(tactic| (k_here; (with_reducible refine' call_norm (f' := Value.ref 71) (a' := [Value.ref _, Value.ref _]) (kw' := []) ?n1 ?n2 ?n3 ?_); k_dflt ((case n1 => exact rfl); (case n2 => exact rfl); (case n3 => exact rfl)); k_dflt (refine' subT_u ?k1 ?k2 ?k3 ?k4 ?k5 ?k6 ?o3 ?o4 ?o1 ?o2 ?k7 ?k8 ?k9 ?e1 ?e2 ?e3 ?e4 ?z0 ?z1 ?d1 ?d2 ?_; (case k1 => assumption); (case k2 => k_asm); (case k3 => k_asm); (case k4 => k_asm); (case k5 => k_asm); (case k6 => rfl); (case o3 => k_mem); (case o4 => k_mem); (case o1 => k_mem); (case o2 => k_mem); (case k7 => walk_at "part"); (case k8 => walk_at "lower"); (case k9 => walk_at "lower"); (case e1 => walk_at "apart"); (case e2 => walk_at "apart"); (case e3 => walk_at "apart"); (case e4 => walk_at "apart"); (case z0 => walk_at "span bound"); (case z1 => walk_at "span bound"); (case d1 => walk_at "room"); (case d2 => walk_at "room")); intro x' d' n' k1' u1' h' tk' F' N' l1 l0 l2; (try k_lt l1); (try k_sweep)))
local macro_rules | `(tactic| walk_at "call ref") => `(tactic| (k_here; (with_reducible refine' call_norm (f' := Value.ref 71) (a' := [Value.ref _, Value.ref _]) (kw' := []) ?n1 ?n2 ?n3 ?_); k_dflt ((case n1 => exact rfl); (case n2 => exact rfl); (case n3 => exact rfl)); k_dflt (refine' subD_u ?k1 ?k2 ?k3 ?k4 ?k5 ?k6 ?o3 ?o4 ?o1 ?o2 ?k7 ?k8 ?k9 ?e1 ?e2 ?e3 ?e4 ?z0 ?z1 ?d1 ?d2 ?_; (case k1 => assumption); (case k2 => k_asm); (case k3 => k_asm); (case k4 => k_asm); (case k5 => k_asm); (case k6 => rfl); (case o3 => k_mem); (case o4 => k_mem); (case o1 => k_mem); (case o2 => k_mem); (case k7 => walk_at "part"); (case k8 => walk_at "lower"); (case k9 => walk_at "lower"); (case e1 => walk_at "apart"); (case e2 => walk_at "apart"); (case e3 => walk_at "apart"); (case e4 => walk_at "apart"); (case z0 => walk_at "span bound"); (case z1 => walk_at "span bound"); (case d1 => walk_at "room"); (case d2 => walk_at "room")); intro x' d' n' k1' u1' k2' u2' k3' u3' h' tk' F' N' l1 l0 l2; (try k_lt l1); (try k_sweep)))
local macro_rules | `(tactic| walk_at "CmpBack") => `(tactic| (unfold W.CmpBack; dsimp only))


section
theorem news_covN {h₀ h : Heap} {L : Addr} {new own news rest r : List (Addr × Obj)} (N : News h₀ L h r) (R : News h₀ L h rest) (hs : ∀ q ∈ new ++ own, q ∈ r) (hc : ∀ q ∈ news, q ∈ own ++ rest) : News h₀ L h (new ++ news) := fun q hq => by
  rcases List.mem_append.mp hq with hq | hq
  · exact N _ (hs _ (List.mem_append_left _ hq))
  · rcases List.mem_append.mp (hc q hq) with z | z
    · exact N q (hs _ (List.mem_append_right _ z))
    · exact R q z
local macro_rules | `(tactic| walk_at "call ref") => `(tactic| (k_here; k_dflt (show wpAny _ _ (call (Value.ref 46) [] [(Str.ofString "seconds", Value.int _ _)]) _ _ _); k_dflt (refine' tdS_c ?k1 ?k2 ?k3 ?k4 ?k5 ?k6 ?z0 ?z1 ?d1 ?d2 ?_; (case k1 => assumption); (case k2 => k_asm); (case k3 => k_asm); (case k4 => k_asm); (case k5 => k_asm); (case k6 => rfl); (case z0 => walk_at "span bound"); (case z1 => walk_at "span bound"); (case d1 => walk_at "room"); (case d2 => walk_at "room")); intro x' d' n' k1' u1' k2' u2' k3' u3' h' tk' F' N' l1 l0 l2; (try k_lt l1); (try k_sweep)))
set_option maxHeartbeats 8000000 in
theorem ddT_c {w : World} {mean : ExcName → Option Value} {mg mb : Str → Option Value} {dp un : Nat} {gd : Option (List Code)} {cn : Str} {cs : Scope} {a : Addr} {ccd : Value} {cl : List (Str × Addr)} {outer : List Env} {A₀ : Around} {base h₀ : Heap} {L : Addr} {m : Str → Option Value} {s : Shared} {Q E : Value → Shared → Prop} {news : List (Addr × Obj)} {rest : List (Addr × Obj)} {x dx y dy : Addr} {z Z : Int} {n n1 : Nat} {k1 u1 k2 u2 k3 u3 k4 u4 : Tok}
    (B : Below A₀ base outer h₀) (F : Fr h₀ L s.heap m) (X : (Mine.hd.heap_39 w.params).In h₀) (N : News h₀ L s.heap news) (T : Top Mine.hd.view_39 (looseW Mine.hd.view_39 [Str.ofString "_date_and_delta", Str.ofString "_THOUSANDS_SEPARATOR", Str.ofString "_DECIMAL_SEPARATOR"]) mean mg mb h₀) (hk : cs.kind = .function)
    (hown : ∀ q ∈ [(x, instObj 46 dx), (dx, spanD w z n k1 u1 k2 u2 k3 u3), (y, instObj 81 dy), (dy, dayD w Z n1 k4 u4)], q ∈ news) (hrest : ∀ q ∈ rest, q ∈ news ∧ ∀ v ∈ [(x, instObj 46 dx), (dx, spanD w z n k1 u1 k2 u2 k3 u3), (y, instObj 81 dy), (dy, dayD w Z n1 k4 u4)], q.1 ≠ v.1)
    (hcov : ∀ q ∈ news, q ∈ [(x, instObj 46 dx), (dx, spanD w z n k1 u1 k2 u2 k3 u3), (y, instObj 81 dy), (dy, dayD w Z n1 k4 u4)] ++ rest) (hlt : @LT.lt Nat _ dx x) (hlt2 : @LT.lt Nat _ dy y) (hne : @Ne Nat x y) (hne2 : @Ne Nat dx y) (hne3 : @Ne Nat x dy) (hne4 : @Ne Nat dx dy) (hz0 : 0 ≤ Z - z) (hz1 : Z - z < 10 ^ 17) (hz2 : -10 ^ 17 < z) (hz3 : z < 10 ^ 17)
    (hd : dp < 780) (hu : un < 980)
    (h : ∀ (T e de x' dx' : Addr) (n1' n2' : Nat) (k4' u4' k1' u1' k2' u2' k3' u3' : Tok) (h' : Heap) (tk' : Nat), Fr h₀ L h' m → News h₀ L h' ((T, ({ cls := .type "tuple", data := .seq #[.ref e, .ref x'] } : Obj)) :: (x', instObj 46 dx') :: (dx', spanD w (if z < 0 then -(z) else z) n1' k1' u1' k2' u2' k3' u3') :: (e, instObj 81 de) :: (de, dayD w (Z - z) n2' k4' u4') :: news) → (∀ p ∈ news, p.1 < de) → @LT.lt Nat _ L de → @LT.lt Nat _ de e → @LT.lt Nat _ e dx' → @LT.lt Nat _ dx' x' → @LT.lt Nat _ x' T → Q (.ref T) { s with heap := h', toks := tk' }) :
    wpAny (model PySem.Challenge.rw_aq6038_01.row.prog w) (ktrTop dp un gd cn cs L a ccd cl outer) (call (.ref 107) [.ref x] [(Str.ofString "now", .ref y)]) Q E s := by
  revert X; k_fill; intro X
  refine wpAny_call ?_
  k_dflt (walk_at "mine enterL")
  k_steps
  all_goals (rename News _ _ _ rest => kR)
  all_goals (rename News h₀ L _ (_ :: _) => kN)
  all_goals (rename (∀ q ∈ news, @LT.lt Nat _ q.1 _) => hab)
  all_goals (rename @LT.lt Nat _ L _ => hLL)
  all_goals (exact h _ _ _ _ _ _ _ _ _ _ _ _ _ _ _ _ _ (by assumption) (news_covN (new := [_, _, _, _, _]) (own := [_, _, _, _]) kN kR (by lcg_sub) hcov) (fun q hq => Nat.lt_trans (hab q hq) (by walk_at "lower")) (Nat.lt_trans hLL (by walk_at "lower")) (by walk_at "lower") (by walk_at "lower") (by walk_at "lower") (by walk_at "lower"))
set_option maxHeartbeats 8000000 in
theorem ddD_c {w : World} {mean : ExcName → Option Value} {mg mb : Str → Option Value} {dp un : Nat} {gd : Option (List Code)} {cn : Str} {cs : Scope} {a : Addr} {ccd : Value} {cl : List (Str × Addr)} {outer : List Env} {A₀ : Around} {base h₀ : Heap} {L : Addr} {m : Str → Option Value} {s : Shared} {Q E : Value → Shared → Prop} {news : List (Addr × Obj)} {rest : List (Addr × Obj)} {x dx y dy : Addr} {Y Z : Int} {n n1 : Nat} {k1 u1 k4 u4 : Tok}
    (B : Below A₀ base outer h₀) (F : Fr h₀ L s.heap m) (X : (Mine.hd.heap_39 w.params).In h₀) (N : News h₀ L s.heap news) (T : Top Mine.hd.view_39 (looseW Mine.hd.view_39 [Str.ofString "_date_and_delta", Str.ofString "_THOUSANDS_SEPARATOR", Str.ofString "_DECIMAL_SEPARATOR"]) mean mg mb h₀) (hk : cs.kind = .function)
    (hown : ∀ q ∈ [(x, instObj 81 dx), (dx, dayD w Y n k1 u1), (y, instObj 81 dy), (dy, dayD w Z n1 k4 u4)], q ∈ news) (hrest : ∀ q ∈ rest, q ∈ news ∧ ∀ v ∈ [(x, instObj 81 dx), (dx, dayD w Y n k1 u1), (y, instObj 81 dy), (dy, dayD w Z n1 k4 u4)], q.1 ≠ v.1)
    (hcov : ∀ q ∈ news, q ∈ [(x, instObj 81 dx), (dx, dayD w Y n k1 u1), (y, instObj 81 dy), (dy, dayD w Z n1 k4 u4)] ++ rest) (hlt : @LT.lt Nat _ dx x) (hlt2 : @LT.lt Nat _ dy y) (hne : @Ne Nat x y) (hne2 : @Ne Nat dx y) (hne3 : @Ne Nat x dy) (hne4 : @Ne Nat dx dy) (hz0 : -10 ^ 17 < Z - Y) (hz1 : Z - Y < 10 ^ 17)
    (hd : dp < 780) (hu : un < 980)
    (h : ∀ (T x' dx' : Addr) (n1' : Nat) (k1' u1' k2' u2' k3' u3' : Tok) (h' : Heap) (tk' : Nat), Fr h₀ L h' m → News h₀ L h' ((T, ({ cls := .type "tuple", data := .seq #[.ref x, .ref x'] } : Obj)) :: (x', instObj 46 dx') :: (dx', spanD w (if Z - Y < 0 then -(Z - Y) else Z - Y) n1' k1' u1' k2' u2' k3' u3') :: news) → (∀ p ∈ news, p.1 < dx') → @LT.lt Nat _ L dx' → @LT.lt Nat _ dx' x' → @LT.lt Nat _ x' T → Q (.ref T) { s with heap := h', toks := tk' }) :
    wpAny (model PySem.Challenge.rw_aq6038_01.row.prog w) (ktrTop dp un gd cn cs L a ccd cl outer) (call (.ref 107) [.ref x] [(Str.ofString "now", .ref y)]) Q E s := by
  revert X; k_fill; intro X
  refine wpAny_call ?_
  k_dflt (walk_at "mine enterL")
  k_steps
  all_goals (rename News _ _ _ rest => kR)
  all_goals (rename News h₀ L _ (_ :: _) => kN)
  all_goals (rename (∀ q ∈ news, @LT.lt Nat _ q.1 _) => hab)
  all_goals (rename @LT.lt Nat _ L _ => hLL)
  all_goals (exact h _ _ _ _ _ _ _ _ _ _ _ _ (by assumption) (news_covN (new := [_, _, _]) (own := [_, _, _, _]) kN kR (by lcg_sub) hcov) (fun q hq => Nat.lt_trans (hab q hq) (by walk_at "lower")) (Nat.lt_trans hLL (by walk_at "lower")) (by walk_at "lower") (by walk_at "lower"))
set_option maxHeartbeats 8000000 in
theorem ddI_c {w : World} {mean : ExcName → Option Value} {mg mb : Str → Option Value} {dp un : Nat} {gd : Option (List Code)} {cn : Str} {cs : Scope} {a : Addr} {ccd : Value} {cl : List (Str × Addr)} {outer : List Env} {A₀ : Around} {base h₀ : Heap} {L : Addr} {m : Str → Option Value} {s : Shared} {Q E : Value → Shared → Prop} {news : List (Addr × Obj)} {rest : List (Addr × Obj)} {y dy : Addr} {v Z : Int} {n1 : Nat} {k4 u4 tv : Tok} {b : Bool}
    (B : Below A₀ base outer h₀) (F : Fr h₀ L s.heap m) (X : (Mine.hd.heap_39 w.params).In h₀) (N : News h₀ L s.heap news) (T : Top Mine.hd.view_39 (looseW Mine.hd.view_39 [Str.ofString "_date_and_delta", Str.ofString "_THOUSANDS_SEPARATOR", Str.ofString "_DECIMAL_SEPARATOR"]) mean mg mb h₀) (hk : cs.kind = .function)
    (hown : ∀ q ∈ [(y, instObj 81 dy), (dy, dayD w Z n1 k4 u4)], q ∈ news) (hrest : ∀ q ∈ rest, q ∈ news ∧ ∀ v ∈ [(y, instObj 81 dy), (dy, dayD w Z n1 k4 u4)], q.1 ≠ v.1)
    (hcov : ∀ q ∈ news, q ∈ [(y, instObj 81 dy), (dy, dayD w Z n1 k4 u4)] ++ rest) (hlt2 : @LT.lt Nat _ dy y) (hv0 : -1000000 < v) (hv1 : v < 1000000) (hz0 : 0 ≤ Z - v * 1000000) (hz1 : Z - v * 1000000 < 10 ^ 17)
    (hd : dp < 780) (hu : un < 980)
    (h : ∀ (T e de x' dx' : Addr) (n1' n2' : Nat) (k4' u4' k1' u1' k2' u2' k3' u3' : Tok) (h' : Heap) (tk' : Nat), Fr h₀ L h' m → News h₀ L h' ((T, ({ cls := .type "tuple", data := .seq #[.ref e, .ref x'] } : Obj)) :: (x', instObj 46 dx') :: (dx', spanD w (if v * 1000000 < 0 then -(v * 1000000) else v * 1000000) n1' k1' u1' k2' u2' k3' u3') :: (e, instObj 81 de) :: (de, dayD w (Z - v * 1000000) n2' k4' u4') :: news) → (∀ p ∈ news, p.1 < de) → @LT.lt Nat _ L de → @LT.lt Nat _ de e → @LT.lt Nat _ e dx' → @LT.lt Nat _ dx' x' → @LT.lt Nat _ x' T → Q (.ref T) { s with heap := h', toks := tk' }) :
    wpAny (model PySem.Challenge.rw_aq6038_01.row.prog w) (ktrTop dp un gd cn cs L a ccd cl outer) (call (.ref 107) [.int v tv] [(Str.ofString "now", .ref y), (Str.ofString "precise", .bool b)]) Q E s := by
  revert X; k_fill; intro X
  refine wpAny_call ?_
  k_dflt (walk_at "mine enterL")
  k_steps
  all_goals (rename News _ _ _ rest => kR)
  all_goals (rename News h₀ L _ (_ :: _) => kN)
  all_goals (rename (∀ q ∈ news, @LT.lt Nat _ q.1 _) => hab)
  all_goals (rename @LT.lt Nat _ L _ => hLL)
  all_goals (exact h _ _ _ _ _ _ _ _ _ _ _ _ _ _ _ _ _ (by assumption) (news_covN (new := [_, _, _, _, _]) (own := [_, _]) kN kR (by lcg_sub) hcov) (fun q hq => Nat.lt_trans (hab q hq) (by walk_at "lower")) (Nat.lt_trans hLL (by walk_at "lower")) (by walk_at "lower") (by walk_at "lower") (by walk_at "lower") (by walk_at "lower"))
set_option maxHeartbeats 8000000 in
theorem ddN_c {w : World} {mean : ExcName → Option Value} {mg mb : Str → Option Value} {dp un : Nat} {gd : Option (List Code)} {cn : Str} {cs : Scope} {a : Addr} {ccd : Value} {cl : List (Str × Addr)} {outer : List Env} {A₀ : Around} {base h₀ : Heap} {L : Addr} {m : Str → Option Value} {s : Shared} {Q E : Value → Shared → Prop} {news : List (Addr × Obj)} {rest : List (Addr × Obj)} {x dx : Addr} {z : Int} {n : Nat} {k1 u1 k2 u2 k3 u3 : Tok}
    (B : Below A₀ base outer h₀) (F : Fr h₀ L s.heap m) (X : (Mine.hd.heap_39 w.params).In h₀) (N : News h₀ L s.heap news) (T : Top Mine.hd.view_39 (looseW Mine.hd.view_39 [Str.ofString "_date_and_delta", Str.ofString "_THOUSANDS_SEPARATOR", Str.ofString "_DECIMAL_SEPARATOR"]) mean mg mb h₀) (hk : cs.kind = .function)
    (hown : ∀ q ∈ [(x, instObj 46 dx), (dx, spanD w z n k1 u1 k2 u2 k3 u3)], q ∈ news) (hrest : ∀ q ∈ rest, q ∈ news ∧ ∀ v ∈ [(x, instObj 46 dx), (dx, spanD w z n k1 u1 k2 u2 k3 u3)], q.1 ≠ v.1)
    (hcov : ∀ q ∈ news, q ∈ [(x, instObj 46 dx), (dx, spanD w z n k1 u1 k2 u2 k3 u3)] ++ rest) (hlt : @LT.lt Nat _ dx x) (hz2 : -10 ^ 15 < z) (hz3 : z < 10 ^ 15)
    (hd : dp < 780) (hu : un < 980)
    (h : ∀ (T e de x' dx' : Addr) (n1' n2' : Nat) (k4' u4' k1' u1' k2' u2' k3' u3' : Tok) (h' : Heap) (tk' : Nat), Fr h₀ L h' m → News h₀ L h' ((T, ({ cls := .type "tuple", data := .seq #[.ref e, .ref x'] } : Obj)) :: (x', instObj 46 dx') :: (dx', spanD w (if z < 0 then -(z) else z) n1' k1' u1' k2' u2' k3' u3') :: (e, instObj 81 de) :: (de, dayD w (63902822400000000 - z) n2' k4' u4') :: news) → (∀ p ∈ news, p.1 < de) → @LT.lt Nat _ L de → @LT.lt Nat _ de e → @LT.lt Nat _ e dx' → @LT.lt Nat _ dx' x' → @LT.lt Nat _ x' T → Q (.ref T) { s with heap := h', toks := tk' }) :
    wpAny (model PySem.Challenge.rw_aq6038_01.row.prog w) (ktrTop dp un gd cn cs L a ccd cl outer) (call (.ref 107) [.ref x] []) Q E s := by
  revert X; k_fill; intro X
  refine wpAny_call ?_
  k_dflt (walk_at "mine enterL")
  k_steps
  all_goals (rename News _ _ _ rest => kR)
  all_goals (rename News h₀ L _ (_ :: _) => kN)
  all_goals (rename (∀ q ∈ news, @LT.lt Nat _ q.1 _) => hab)
  all_goals (rename @LT.lt Nat _ L _ => hLL)
  all_goals (exact h _ _ _ _ _ _ _ _ _ _ _ _ _ _ _ _ _ (by assumption) (news_covN (new := [_, _, _, _, _]) (own := [_, _]) kN kR (by lcg_sub) hcov) (fun q hq => Nat.lt_trans (hab q hq) (by walk_at "lower")) (Nat.lt_trans hLL (by walk_at "lower")) (by walk_at "lower") (by walk_at "lower") (by walk_at "lower") (by walk_at "lower"))

end
local macro_rules | `(tactic| walk_at "no such key") => `(tactic| skip)
local macro_rules | `(tactic| walk_at "no such key") => `(tactic| skip)
local macro_rules | `(tactic| walk_at "no such key") => `(tactic| skip)
local macro_rules | `(tactic| walk_at "no such key") => `(tactic| skip)
local macro_rules | `(tactic| walk_at "no such key") => `(tactic| skip)
local macro_rules | `(tactic| walk_at "no such key") => `(tactic| skip)

section
local macro_rules | `(tactic| walk_at "mine enterTk") => `(tactic| (refine' code_defT ?k1 ?k2 ?k3 ?k4 ?o1 ?o2 ?k5 ?xb ?tb ?kd ?kA ?kF ?kK ?k6 ?k7 ?k8 ?k9 ?kB ?_ ?c2 ?c3 ?c4 ?c5; (case kA => exact rfl); (case kF => exact rfl); (case kK => first | assumption | exact rfl); (case k1 => k_asm); (case k2 => k_asm); (case k3 => k_asm); (case k4 => k_asm); (case k5 => k_asm); (case xb => assumption); (case tb => assumption); (case kd => assumption); (case k6 => k_is); (case k7 => k_is); (case k8 => ktr_room); (case k9 => (refine' kp_binds ?kx ?ke; (case kx => k_in); (case ke => exact fun _ => rfl))); (case c5 => decide); (case kB => exact locs rfl); (case c2 => exact rfl); (case c3 => exact rfl); (case c4 => exact rfl); (case o1 => assumption); (case o2 => assumption); intro g' L' h' FG' F' N' B' X' T' kD'; (try dsimp only); (try k_lift B'); (try k_fold)))
local macro_rules | `(tactic| walk_at "call builtin:round") => `(tactic| (k_here; (with_reducible show wpAny _ _ (call (Value.builtin "round") [Value.str _ _]) _ _ _); (with_unfolding_all refine' round_str ?k0 ?_; (case k0 => rfl); k_whole); intro h' tk' e' x'))
local macro_rules | `(tactic| walk_at "call builtin:round") => `(tactic| (k_here; (with_reducible show wpAny _ _ (call (Value.builtin "round") [Value.none]) _ _ _); (with_unfolding_all refine' round_none ?k0 ?_; (case k0 => rfl); k_whole); intro h' tk' e' x'))
local macro_rules | `(tactic| walk_at "call builtin:round") => `(tactic| (k_here; (with_reducible show wpAny _ _ (call (Value.builtin "round") [Value.ref _]) _ _ _); (with_unfolding_all refine' round_list ?k0 ?k1 ?_; (case k0 => rfl); (case k1 => is_list); k_whole); intro h' tk' e' x'))
local macro_rules | `(tactic| walk_at "noteFrame ref") => `(tactic| (k_here; (with_reducible rename Heap.NewExc _ _ _ _ => nxX); k_dflt (refine' noted_self ?K ?F ?N nxX ?_; (case K => assumption); (case F => k_asm); (case N => k_asm)); clear nxX; intro G' h' FS' R' U'))
set_option maxHeartbeats 8000000 in
theorem ddS_c {w : World} {mean : ExcName → Option Value} {mg mb : Str → Option Value} {dp un : Nat} {gd : Option (List Code)} {cn : Str} {cs : Scope} {a : Addr} {ccd : Value} {cl : List (Str × Addr)} {outer : List Env} {A₀ : Around} {base h₀ : Heap} {L : Addr} {m : Str → Option Value} {s : Shared} {Q E : Value → Shared → Prop} {news : List (Addr × Obj)} {rest : List (Addr × Obj)} {y dy : Addr} {Z : Int} {n1 : Nat} {k4 u4 tv : Tok}
    (B : Below A₀ base outer h₀) (F : Fr h₀ L s.heap m) (X : (Mine.hd.heap_39 w.params).In h₀) (N : News h₀ L s.heap news) (T : Top Mine.hd.view_39 (looseW Mine.hd.view_39 [Str.ofString "_date_and_delta", Str.ofString "_THOUSANDS_SEPARATOR", Str.ofString "_DECIMAL_SEPARATOR"]) mean mg mb h₀) (hk : cs.kind = .function) (XB : (Mine.hd.heap_39 w.params).In base) (TB : Top Mine.hd.view_39 (looseW Mine.hd.view_39 [Str.ofString "_date_and_delta", Str.ofString "_THOUSANDS_SEPARATOR", Str.ofString "_DECIMAL_SEPARATOR"]) mean mg mb base) (kd : KtsDicts (outer.filterMap (·.frame)) h₀)
    (hown : ∀ q ∈ [(y, instObj 81 dy), (dy, dayD w Z n1 k4 u4)], q ∈ news) (hrest : ∀ q ∈ rest, q ∈ news ∧ ∀ v ∈ [(y, instObj 81 dy), (dy, dayD w Z n1 k4 u4)], q.1 ≠ v.1)
    (hlt2 : @LT.lt Nat _ dy y)
    (hd : dp < 780) (hu : un < 980)
    (h : ∀ (T : Addr) (h' g' : Heap) (tk' : Nat), KtsTurn (outer.filterMap (·.frame)) h₀ g' → Fr g' L h' m → News g' L h' ((T, ({ cls := .type "tuple", data := .seq #[.none, .str (Str.ofString "soon") tv] } : Obj)) :: (y, instObj 81 dy) :: (dy, dayD w Z n1 k4 u4) :: rest) → Below A₀ base outer g' → (Mine.hd.heap_39 w.params).In g' →
      Top Mine.hd.view_39 (looseW Mine.hd.view_39 [Str.ofString "_date_and_delta", Str.ofString "_THOUSANDS_SEPARATOR", Str.ofString "_DECIMAL_SEPARATOR"]) mean mg mb g' → KtsDicts (outer.filterMap (·.frame)) g' → Q (.ref T) { s with heap := h', toks := tk' }) :
    wpAny (model PySem.Challenge.rw_aq6038_01.row.prog w) (ktrTop dp un gd cn cs L a ccd cl outer) (call (.ref 107) [.str (Str.ofString "soon") tv] [(Str.ofString "now", .ref y)]) Q E s := by
  revert X; k_fill; intro X
  refine wpAny_call ?_
  k_dflt (walk_at "mine enterTk")
  k_steps
  exact h _ _ _ _ (by assumption) (by assumption) (by assumption) (by assumption) (by assumption) (by assumption) (by assumption)
set_option maxHeartbeats 8000000 in
theorem ddO_c {w : World} {mean : ExcName → Option Value} {mg mb : Str → Option Value} {dp un : Nat} {gd : Option (List Code)} {cn : Str} {cs : Scope} {a : Addr} {ccd : Value} {cl : List (Str × Addr)} {outer : List Env} {A₀ : Around} {base h₀ : Heap} {L : Addr} {m : Str → Option Value} {s : Shared} {Q E : Value → Shared → Prop} {news : List (Addr × Obj)} {rest : List (Addr × Obj)} {y dy : Addr} {Z : Int} {n1 : Nat} {k4 u4 : Tok}
    (B : Below A₀ base outer h₀) (F : Fr h₀ L s.heap m) (X : (Mine.hd.heap_39 w.params).In h₀) (N : News h₀ L s.heap news) (T : Top Mine.hd.view_39 (looseW Mine.hd.view_39 [Str.ofString "_date_and_delta", Str.ofString "_THOUSANDS_SEPARATOR", Str.ofString "_DECIMAL_SEPARATOR"]) mean mg mb h₀) (hk : cs.kind = .function) (XB : (Mine.hd.heap_39 w.params).In base) (TB : Top Mine.hd.view_39 (looseW Mine.hd.view_39 [Str.ofString "_date_and_delta", Str.ofString "_THOUSANDS_SEPARATOR", Str.ofString "_DECIMAL_SEPARATOR"]) mean mg mb base) (kd : KtsDicts (outer.filterMap (·.frame)) h₀)
    (hown : ∀ q ∈ [(y, instObj 81 dy), (dy, dayD w Z n1 k4 u4)], q ∈ news) (hrest : ∀ q ∈ rest, q ∈ news ∧ ∀ v ∈ [(y, instObj 81 dy), (dy, dayD w Z n1 k4 u4)], q.1 ≠ v.1)
    (hlt2 : @LT.lt Nat _ dy y)
    (hd : dp < 780) (hu : un < 980)
    (h : ∀ (T : Addr) (h' g' : Heap) (tk' : Nat), KtsTurn (outer.filterMap (·.frame)) h₀ g' → Fr g' L h' m → News g' L h' ((T, ({ cls := .type "tuple", data := .seq #[.none, .none] } : Obj)) :: (y, instObj 81 dy) :: (dy, dayD w Z n1 k4 u4) :: rest) → Below A₀ base outer g' → (Mine.hd.heap_39 w.params).In g' →
      Top Mine.hd.view_39 (looseW Mine.hd.view_39 [Str.ofString "_date_and_delta", Str.ofString "_THOUSANDS_SEPARATOR", Str.ofString "_DECIMAL_SEPARATOR"]) mean mg mb g' → KtsDicts (outer.filterMap (·.frame)) g' → Q (.ref T) { s with heap := h', toks := tk' }) :
    wpAny (model PySem.Challenge.rw_aq6038_01.row.prog w) (ktrTop dp un gd cn cs L a ccd cl outer) (call (.ref 107) [.none] [(Str.ofString "now", .ref y)]) Q E s := by
  revert X; k_fill; intro X
  refine wpAny_call ?_
  k_dflt (walk_at "mine enterTk")
  k_steps
  exact h _ _ _ _ (by assumption) (by assumption) (by assumption) (by assumption) (by assumption) (by assumption) (by assumption)
set_option maxHeartbeats 8000000 in
theorem ddL_c {w : World} {mean : ExcName → Option Value} {mg mb : Str → Option Value} {dp un : Nat} {gd : Option (List Code)} {cn : Str} {cs : Scope} {a : Addr} {ccd : Value} {cl : List (Str × Addr)} {outer : List Env} {A₀ : Around} {base h₀ : Heap} {L : Addr} {m : Str → Option Value} {s : Shared} {Q E : Value → Shared → Prop} {news : List (Addr × Obj)} {rest : List (Addr × Obj)} {l y dy : Addr} {Z : Int} {nl n1 : Nat} {t1 k4 u4 : Tok}
    (B : Below A₀ base outer h₀) (F : Fr h₀ L s.heap m) (X : (Mine.hd.heap_39 w.params).In h₀) (N : News h₀ L s.heap news) (T : Top Mine.hd.view_39 (looseW Mine.hd.view_39 [Str.ofString "_date_and_delta", Str.ofString "_THOUSANDS_SEPARATOR", Str.ofString "_DECIMAL_SEPARATOR"]) mean mg mb h₀) (hk : cs.kind = .function) (XB : (Mine.hd.heap_39 w.params).In base) (TB : Top Mine.hd.view_39 (looseW Mine.hd.view_39 [Str.ofString "_date_and_delta", Str.ofString "_THOUSANDS_SEPARATOR", Str.ofString "_DECIMAL_SEPARATOR"]) mean mg mb base) (kd : KtsDicts (outer.filterMap (·.frame)) h₀)
    (hown : ∀ q ∈ [(l, listOf #[.int 1 t1] nl), (y, instObj 81 dy), (dy, dayD w Z n1 k4 u4)], q ∈ news) (hrest : ∀ q ∈ rest, q ∈ news ∧ ∀ v ∈ [(l, listOf #[.int 1 t1] nl), (y, instObj 81 dy), (dy, dayD w Z n1 k4 u4)], q.1 ≠ v.1)
    (hlt2 : @LT.lt Nat _ dy y)
    (hd : dp < 780) (hu : un < 980)
    (h : ∀ (T : Addr) (h' g' : Heap) (tk' : Nat), KtsTurn (outer.filterMap (·.frame)) h₀ g' → Fr g' L h' m → News g' L h' ((T, ({ cls := .type "tuple", data := .seq #[.none, .ref l] } : Obj)) :: (l, listOf #[.int 1 t1] nl) :: (y, instObj 81 dy) :: (dy, dayD w Z n1 k4 u4) :: rest) → Below A₀ base outer g' → (Mine.hd.heap_39 w.params).In g' →
      Top Mine.hd.view_39 (looseW Mine.hd.view_39 [Str.ofString "_date_and_delta", Str.ofString "_THOUSANDS_SEPARATOR", Str.ofString "_DECIMAL_SEPARATOR"]) mean mg mb g' → KtsDicts (outer.filterMap (·.frame)) g' → Q (.ref T) { s with heap := h', toks := tk' }) :
    wpAny (model PySem.Challenge.rw_aq6038_01.row.prog w) (ktrTop dp un gd cn cs L a ccd cl outer) (call (.ref 107) [.ref l] [(Str.ofString "now", .ref y)]) Q E s := by
  revert X; k_fill; intro X
  refine wpAny_call ?_
  k_dflt (walk_at "mine enterTk")
  k_steps
  exact h _ _ _ _ (by assumption) (by assumption) (by assumption) (by assumption) (by assumption) (by assumption) (by assumption)

end
local macro_rules | `(tactic| walk_at "no such key") => `(tactic| skip)
local macro_rules | `(tactic| walk_at "no such key") => `(tactic| skip)
local macro_rules | `(tactic| walk_at "no such key") => `(tactic| skip)
local macro_rules | `(tactic| walk_at "no such key") => `(tactic| skip)
local macro_rules | `(tactic| walk_at "no such key") => `(tactic| skip)
local macro_rules | `(tactic| walk_at "no such key") => `(tactic| skip)

section
theorem abs_mul (v : Int) : (if v * 1000000 < 0 then -(v * 1000000) else v * 1000000) = (if v < 0 then -v else v) * 1000000 := by
  by_cases h : v < 0
  · rw [if_pos h, if_pos (by omega)]; omega
  · rw [if_neg h, if_neg (by omega)]
theorem ddT_u {w : World} {mean : ExcName → Option Value} {mg mb : Str → Option Value} {dp un : Nat} {gd : Option (List Code)} {cn : Str} {cs : Scope} {a : Addr} {ccd : Value} {cl : List (Str × Addr)} {outer : List Env} {A₀ : Around} {base h₀ : Heap} {L : Addr} {m : Str → Option Value} {s : Shared} {Q E : Value → Shared → Prop} {news : List (Addr × Obj)} {rest : List (Addr × Obj)} {x dx y dy : Addr} {z Z : Int} {n n1 : Nat} {k1 u1 k2 u2 k3 u3 k4 u4 : Tok}
    (B : Below A₀ base outer h₀) (F : Fr h₀ L s.heap m) (X : (Mine.hd.heap_39 w.params).In h₀) (N : News h₀ L s.heap news) (T : Top Mine.hd.view_39 (looseW Mine.hd.view_39 [Str.ofString "_date_and_delta", Str.ofString "_THOUSANDS_SEPARATOR", Str.ofString "_DECIMAL_SEPARATOR"]) mean mg mb h₀) (hk : cs.kind = .function) (h1 : (x, instObj 46 dx) ∈ news) (h2 : (dx, spanD w z n k1 u1 k2 u2 k3 u3) ∈ news) (h3 : (y, instObj 81 dy) ∈ news) (h4 : (dy, dayD w Z n1 k4 u4) ∈ news) (hlt : @LT.lt Nat _ dx x) (hlt2 : @LT.lt Nat _ dy y) (hne : @Ne Nat x y) (hne2 : @Ne Nat dx y) (hne3 : @Ne Nat x dy) (hne4 : @Ne Nat dx dy) (hz0 : 0 ≤ Z - z) (hz1 : Z - z < 10 ^ 17) (hz2 : -10 ^ 17 < z) (hz3 : z < 10 ^ 17)
    (hrest : Part [(x, instObj 46 dx), (dx, spanD w z n k1 u1 k2 u2 k3 u3), (y, instObj 81 dy), (dy, dayD w Z n1 k4 u4)] news rest) (hd : dp < 780) (hu : un < 980)
    (h : ∀ (T e de x' dx' : Addr) (n1' n2' : Nat) (k4' u4' k1' u1' k2' u2' k3' u3' : Tok) (h' : Heap) (tk' : Nat), Fr h₀ L h' m → News h₀ L h' ((T, ({ cls := .type "tuple", data := .seq #[.ref e, .ref x'] } : Obj)) :: (x', instObj 46 dx') :: (dx', spanD w (if z < 0 then -z else z) n1' k1' u1' k2' u2' k3' u3') :: (e, instObj 81 de) :: (de, dayD w (Z - z) n2' k4' u4') :: news) → (∀ p ∈ news, p.1 < de) → @LT.lt Nat _ L de → @LT.lt Nat _ de e → @LT.lt Nat _ e dx' → @LT.lt Nat _ dx' x' → @LT.lt Nat _ x' T → Q (.ref T) { s with heap := h', toks := tk' }) :
    wpAny (model PySem.Challenge.rw_aq6038_01.row.prog w) (ktrTop dp un gd cn cs L a ccd cl outer) (call (.ref 107) [.ref x] [(Str.ofString "now", .ref y)]) Q E s := ddT_c B F X N T hk (all_cons h1 (all_cons h2 (all_cons h3 (all_cons h4 all_nil)))) hrest.rest hrest.cover hlt hlt2 hne hne2 hne3 hne4 hz0 hz1 hz2 hz3 hd hu h
theorem ddD_u {w : World} {mean : ExcName → Option Value} {mg mb : Str → Option Value} {dp un : Nat} {gd : Option (List Code)} {cn : Str} {cs : Scope} {a : Addr} {ccd : Value} {cl : List (Str × Addr)} {outer : List Env} {A₀ : Around} {base h₀ : Heap} {L : Addr} {m : Str → Option Value} {s : Shared} {Q E : Value → Shared → Prop} {news : List (Addr × Obj)} {rest : List (Addr × Obj)} {x dx y dy : Addr} {Y Z z : Int} {n n1 : Nat} {k1 u1 k4 u4 : Tok}
    (B : Below A₀ base outer h₀) (F : Fr h₀ L s.heap m) (X : (Mine.hd.heap_39 w.params).In h₀) (N : News h₀ L s.heap news) (T : Top Mine.hd.view_39 (looseW Mine.hd.view_39 [Str.ofString "_date_and_delta", Str.ofString "_THOUSANDS_SEPARATOR", Str.ofString "_DECIMAL_SEPARATOR"]) mean mg mb h₀) (hk : cs.kind = .function) (h1 : (x, instObj 81 dx) ∈ news) (h2 : (dx, dayD w Y n k1 u1) ∈ news) (h3 : (y, instObj 81 dy) ∈ news) (h4 : (dy, dayD w Z n1 k4 u4) ∈ news) (hlt : @LT.lt Nat _ dx x) (hlt2 : @LT.lt Nat _ dy y) (hne : @Ne Nat x y) (hne2 : @Ne Nat dx y) (hne3 : @Ne Nat x dy) (hne4 : @Ne Nat dx dy) (hY : Y = Z - z) (hz0 : -10 ^ 17 < z) (hz1 : z < 10 ^ 17)
    (hrest : Part [(x, instObj 81 dx), (dx, dayD w Y n k1 u1), (y, instObj 81 dy), (dy, dayD w Z n1 k4 u4)] news rest) (hd : dp < 780) (hu : un < 980)
    (h : ∀ (T x' dx' : Addr) (n1' : Nat) (k1' u1' k2' u2' k3' u3' : Tok) (h' : Heap) (tk' : Nat), Fr h₀ L h' m → News h₀ L h' ((T, ({ cls := .type "tuple", data := .seq #[.ref x, .ref x'] } : Obj)) :: (x', instObj 46 dx') :: (dx', spanD w (if z < 0 then -z else z) n1' k1' u1' k2' u2' k3' u3') :: news) → (∀ p ∈ news, p.1 < dx') → @LT.lt Nat _ L dx' → @LT.lt Nat _ dx' x' → @LT.lt Nat _ x' T → Q (.ref T) { s with heap := h', toks := tk' }) :
    wpAny (model PySem.Challenge.rw_aq6038_01.row.prog w) (ktrTop dp un gd cn cs L a ccd cl outer) (call (.ref 107) [.ref x] [(Str.ofString "now", .ref y)]) Q E s := by
  have e : Z - Y = z := by omega
  refine ddD_c B F X N T hk (all_cons h1 (all_cons h2 (all_cons h3 (all_cons h4 all_nil)))) hrest.rest hrest.cover hlt hlt2 hne hne2 hne3 hne4 (by omega) (by omega) hd hu ?_
  rw [e]
  exact h
theorem ddI_u {w : World} {mean : ExcName → Option Value} {mg mb : Str → Option Value} {dp un : Nat} {gd : Option (List Code)} {cn : Str} {cs : Scope} {a : Addr} {ccd : Value} {cl : List (Str × Addr)} {outer : List Env} {A₀ : Around} {base h₀ : Heap} {L : Addr} {m : Str → Option Value} {s : Shared} {Q E : Value → Shared → Prop} {news : List (Addr × Obj)} {rest : List (Addr × Obj)} {y dy : Addr} {v Z : Int} {n1 : Nat} {k4 u4 tv : Tok} {b : Bool}
    (B : Below A₀ base outer h₀) (F : Fr h₀ L s.heap m) (X : (Mine.hd.heap_39 w.params).In h₀) (N : News h₀ L s.heap news) (T : Top Mine.hd.view_39 (looseW Mine.hd.view_39 [Str.ofString "_date_and_delta", Str.ofString "_THOUSANDS_SEPARATOR", Str.ofString "_DECIMAL_SEPARATOR"]) mean mg mb h₀) (hk : cs.kind = .function) (h3 : (y, instObj 81 dy) ∈ news) (h4 : (dy, dayD w Z n1 k4 u4) ∈ news) (hlt2 : @LT.lt Nat _ dy y) (hv0 : -1000000 < v) (hv1 : v < 1000000) (hz0 : 0 ≤ Z - v * 1000000) (hz1 : Z - v * 1000000 < 10 ^ 17)
    (hrest : Part [(y, instObj 81 dy), (dy, dayD w Z n1 k4 u4)] news rest) (hd : dp < 780) (hu : un < 980)
    (h : ∀ (T e de x' dx' : Addr) (n1' n2' : Nat) (k4' u4' k1' u1' k2' u2' k3' u3' : Tok) (h' : Heap) (tk' : Nat), Fr h₀ L h' m → News h₀ L h' ((T, ({ cls := .type "tuple", data := .seq #[.ref e, .ref x'] } : Obj)) :: (x', instObj 46 dx') :: (dx', spanD w ((if v < 0 then -v else v) * 1000000) n1' k1' u1' k2' u2' k3' u3') :: (e, instObj 81 de) :: (de, dayD w (Z - v * 1000000) n2' k4' u4') :: news) → (∀ p ∈ news, p.1 < de) → @LT.lt Nat _ L de → @LT.lt Nat _ de e → @LT.lt Nat _ e dx' → @LT.lt Nat _ dx' x' → @LT.lt Nat _ x' T → Q (.ref T) { s with heap := h', toks := tk' }) :
    wpAny (model PySem.Challenge.rw_aq6038_01.row.prog w) (ktrTop dp un gd cn cs L a ccd cl outer) (call (.ref 107) [.int v tv] [(Str.ofString "now", .ref y), (Str.ofString "precise", .bool b)]) Q E s := by
  refine ddI_c B F X N T hk (all_cons h3 (all_cons h4 all_nil)) hrest.rest hrest.cover hlt2 hv0 hv1 hz0 hz1 hd hu ?_
  rw [abs_mul]
  exact h
theorem ddN_u {w : World} {mean : ExcName → Option Value} {mg mb : Str → Option Value} {dp un : Nat} {gd : Option (List Code)} {cn : Str} {cs : Scope} {a : Addr} {ccd : Value} {cl : List (Str × Addr)} {outer : List Env} {A₀ : Around} {base h₀ : Heap} {L : Addr} {m : Str → Option Value} {s : Shared} {Q E : Value → Shared → Prop} {news : List (Addr × Obj)} {rest : List (Addr × Obj)} {x dx : Addr} {z : Int} {n : Nat} {k1 u1 k2 u2 k3 u3 : Tok}
    (B : Below A₀ base outer h₀) (F : Fr h₀ L s.heap m) (X : (Mine.hd.heap_39 w.params).In h₀) (N : News h₀ L s.heap news) (T : Top Mine.hd.view_39 (looseW Mine.hd.view_39 [Str.ofString "_date_and_delta", Str.ofString "_THOUSANDS_SEPARATOR", Str.ofString "_DECIMAL_SEPARATOR"]) mean mg mb h₀) (hk : cs.kind = .function) (h1 : (x, instObj 46 dx) ∈ news) (h2 : (dx, spanD w z n k1 u1 k2 u2 k3 u3) ∈ news) (hlt : @LT.lt Nat _ dx x) (hz2 : 0 ≤ z) (hz3 : z < 10 ^ 15)
    (hrest : Part [(x, instObj 46 dx), (dx, spanD w z n k1 u1 k2 u2 k3 u3)] news rest) (hd : dp < 780) (hu : un < 980)
    (h : ∀ (T e de x' dx' : Addr) (n1' n2' : Nat) (k4' u4' k1' u1' k2' u2' k3' u3' : Tok) (h' : Heap) (tk' : Nat), Fr h₀ L h' m → News h₀ L h' ((T, ({ cls := .type "tuple", data := .seq #[.ref e, .ref x'] } : Obj)) :: (x', instObj 46 dx') :: (dx', spanD w (z) n1' k1' u1' k2' u2' k3' u3') :: (e, instObj 81 de) :: (de, dayD w (63902822400000000 - z) n2' k4' u4') :: news) → (∀ p ∈ news, p.1 < de) → @LT.lt Nat _ L de → @LT.lt Nat _ de e → @LT.lt Nat _ e dx' → @LT.lt Nat _ dx' x' → @LT.lt Nat _ x' T → Q (.ref T) { s with heap := h', toks := tk' }) :
    wpAny (model PySem.Challenge.rw_aq6038_01.row.prog w) (ktrTop dp un gd cn cs L a ccd cl outer) (call (.ref 107) [.ref x] []) Q E s := by
  refine ddN_c B F X N T hk (all_cons h1 (all_cons h2 all_nil)) hrest.rest hrest.cover hlt (by omega) hz3 hd hu ?_
  rw [if_neg (by omega)]
  exact h
theorem ddS_u {w : World} {mean : ExcName → Option Value} {mg mb : Str → Option Value} {dp un : Nat} {gd : Option (List Code)} {cn : Str} {cs : Scope} {a : Addr} {ccd : Value} {cl : List (Str × Addr)} {outer : List Env} {A₀ : Around} {base h₀ : Heap} {L : Addr} {m : Str → Option Value} {s : Shared} {Q E : Value → Shared → Prop} {news : List (Addr × Obj)} {rest : List (Addr × Obj)} {y dy : Addr} {Z : Int} {n1 : Nat} {k4 u4 tv : Tok}
    (B : Below A₀ base outer h₀) (F : Fr h₀ L s.heap m) (X : (Mine.hd.heap_39 w.params).In h₀) (N : News h₀ L s.heap news) (T : Top Mine.hd.view_39 (looseW Mine.hd.view_39 [Str.ofString "_date_and_delta", Str.ofString "_THOUSANDS_SEPARATOR", Str.ofString "_DECIMAL_SEPARATOR"]) mean mg mb h₀) (hk : cs.kind = .function) (XB : (Mine.hd.heap_39 w.params).In base) (TB : Top Mine.hd.view_39 (looseW Mine.hd.view_39 [Str.ofString "_date_and_delta", Str.ofString "_THOUSANDS_SEPARATOR", Str.ofString "_DECIMAL_SEPARATOR"]) mean mg mb base) (kd : KtsDicts (outer.filterMap (·.frame)) h₀) (h3 : (y, instObj 81 dy) ∈ news) (h4 : (dy, dayD w Z n1 k4 u4) ∈ news) (hlt2 : @LT.lt Nat _ dy y)
    (hrest : Part [(y, instObj 81 dy), (dy, dayD w Z n1 k4 u4)] news rest) (hd : dp < 780) (hu : un < 980)
    (h : ∀ (T : Addr) (h' g' : Heap) (tk' : Nat), KtsTurn (outer.filterMap (·.frame)) h₀ g' → Fr g' L h' m → News g' L h' ((T, ({ cls := .type "tuple", data := .seq #[.none, .str (Str.ofString "soon") tv] } : Obj)) :: (y, instObj 81 dy) :: (dy, dayD w Z n1 k4 u4) :: rest) → Below A₀ base outer g' → (Mine.hd.heap_39 w.params).In g' → Top Mine.hd.view_39 (looseW Mine.hd.view_39 [Str.ofString "_date_and_delta", Str.ofString "_THOUSANDS_SEPARATOR", Str.ofString "_DECIMAL_SEPARATOR"]) mean mg mb g' → KtsDicts (outer.filterMap (·.frame)) g' → Q (.ref T) { s with heap := h', toks := tk' }) :
    wpAny (model PySem.Challenge.rw_aq6038_01.row.prog w) (ktrTop dp un gd cn cs L a ccd cl outer) (call (.ref 107) [.str (Str.ofString "soon") tv] [(Str.ofString "now", .ref y)]) Q E s := ddS_c B F X N T hk XB TB kd (all_cons h3 (all_cons h4 all_nil)) hrest.rest hlt2 hd hu h
theorem ddO_u {w : World} {mean : ExcName → Option Value} {mg mb : Str → Option Value} {dp un : Nat} {gd : Option (List Code)} {cn : Str} {cs : Scope} {a : Addr} {ccd : Value} {cl : List (Str × Addr)} {outer : List Env} {A₀ : Around} {base h₀ : Heap} {L : Addr} {m : Str → Option Value} {s : Shared} {Q E : Value → Shared → Prop} {news : List (Addr × Obj)} {rest : List (Addr × Obj)} {y dy : Addr} {Z : Int} {n1 : Nat} {k4 u4 : Tok}
    (B : Below A₀ base outer h₀) (F : Fr h₀ L s.heap m) (X : (Mine.hd.heap_39 w.params).In h₀) (N : News h₀ L s.heap news) (T : Top Mine.hd.view_39 (looseW Mine.hd.view_39 [Str.ofString "_date_and_delta", Str.ofString "_THOUSANDS_SEPARATOR", Str.ofString "_DECIMAL_SEPARATOR"]) mean mg mb h₀) (hk : cs.kind = .function) (XB : (Mine.hd.heap_39 w.params).In base) (TB : Top Mine.hd.view_39 (looseW Mine.hd.view_39 [Str.ofString "_date_and_delta", Str.ofString "_THOUSANDS_SEPARATOR", Str.ofString "_DECIMAL_SEPARATOR"]) mean mg mb base) (kd : KtsDicts (outer.filterMap (·.frame)) h₀) (h3 : (y, instObj 81 dy) ∈ news) (h4 : (dy, dayD w Z n1 k4 u4) ∈ news) (hlt2 : @LT.lt Nat _ dy y)
    (hrest : Part [(y, instObj 81 dy), (dy, dayD w Z n1 k4 u4)] news rest) (hd : dp < 780) (hu : un < 980)
    (h : ∀ (T : Addr) (h' g' : Heap) (tk' : Nat), KtsTurn (outer.filterMap (·.frame)) h₀ g' → Fr g' L h' m → News g' L h' ((T, ({ cls := .type "tuple", data := .seq #[.none, .none] } : Obj)) :: (y, instObj 81 dy) :: (dy, dayD w Z n1 k4 u4) :: rest) → Below A₀ base outer g' → (Mine.hd.heap_39 w.params).In g' → Top Mine.hd.view_39 (looseW Mine.hd.view_39 [Str.ofString "_date_and_delta", Str.ofString "_THOUSANDS_SEPARATOR", Str.ofString "_DECIMAL_SEPARATOR"]) mean mg mb g' → KtsDicts (outer.filterMap (·.frame)) g' → Q (.ref T) { s with heap := h', toks := tk' }) :
    wpAny (model PySem.Challenge.rw_aq6038_01.row.prog w) (ktrTop dp un gd cn cs L a ccd cl outer) (call (.ref 107) [.none] [(Str.ofString "now", .ref y)]) Q E s := ddO_c B F X N T hk XB TB kd (all_cons h3 (all_cons h4 all_nil)) hrest.rest hlt2 hd hu h
theorem ddL_u {w : World} {mean : ExcName → Option Value} {mg mb : Str → Option Value} {dp un : Nat} {gd : Option (List Code)} {cn : Str} {cs : Scope} {a : Addr} {ccd : Value} {cl : List (Str × Addr)} {outer : List Env} {A₀ : Around} {base h₀ : Heap} {L : Addr} {m : Str → Option Value} {s : Shared} {Q E : Value → Shared → Prop} {news : List (Addr × Obj)} {rest : List (Addr × Obj)} {l y dy : Addr} {Z : Int} {nl n1 : Nat} {t1 k4 u4 : Tok}
    (B : Below A₀ base outer h₀) (F : Fr h₀ L s.heap m) (X : (Mine.hd.heap_39 w.params).In h₀) (N : News h₀ L s.heap news) (T : Top Mine.hd.view_39 (looseW Mine.hd.view_39 [Str.ofString "_date_and_delta", Str.ofString "_THOUSANDS_SEPARATOR", Str.ofString "_DECIMAL_SEPARATOR"]) mean mg mb h₀) (hk : cs.kind = .function) (XB : (Mine.hd.heap_39 w.params).In base) (TB : Top Mine.hd.view_39 (looseW Mine.hd.view_39 [Str.ofString "_date_and_delta", Str.ofString "_THOUSANDS_SEPARATOR", Str.ofString "_DECIMAL_SEPARATOR"]) mean mg mb base) (kd : KtsDicts (outer.filterMap (·.frame)) h₀) (h0 : (l, listOf #[.int 1 t1] nl) ∈ news) (h3 : (y, instObj 81 dy) ∈ news) (h4 : (dy, dayD w Z n1 k4 u4) ∈ news) (hlt2 : @LT.lt Nat _ dy y)
    (hrest : Part [(l, listOf #[.int 1 t1] nl), (y, instObj 81 dy), (dy, dayD w Z n1 k4 u4)] news rest) (hd : dp < 780) (hu : un < 980)
    (h : ∀ (T : Addr) (h' g' : Heap) (tk' : Nat), KtsTurn (outer.filterMap (·.frame)) h₀ g' → Fr g' L h' m → News g' L h' ((T, ({ cls := .type "tuple", data := .seq #[.none, .ref l] } : Obj)) :: (l, listOf #[.int 1 t1] nl) :: (y, instObj 81 dy) :: (dy, dayD w Z n1 k4 u4) :: rest) → Below A₀ base outer g' → (Mine.hd.heap_39 w.params).In g' → Top Mine.hd.view_39 (looseW Mine.hd.view_39 [Str.ofString "_date_and_delta", Str.ofString "_THOUSANDS_SEPARATOR", Str.ofString "_DECIMAL_SEPARATOR"]) mean mg mb g' → KtsDicts (outer.filterMap (·.frame)) g' → Q (.ref T) { s with heap := h', toks := tk' }) :
    wpAny (model PySem.Challenge.rw_aq6038_01.row.prog w) (ktrTop dp un gd cn cs L a ccd cl outer) (call (.ref 107) [.ref l] [(Str.ofString "now", .ref y)]) Q E s := ddL_c B F X N T hk XB TB kd (all_cons h0 (all_cons h3 (all_cons h4 all_nil))) hrest.rest hlt2 hd hu h
section
variable {prog : Program} {w : World} {A : Around} {E : Value → Shared → Prop} {s : Shared} {h₀ : Heap} {L l : Addr} {news : List (Addr × Obj)} {n : Nat} {k : Int} {a b c : Value} {u t : Tok} {value slice : Expr} {Q : Value → Shared → Prop}
theorem pick3 (N : News h₀ L s.heap news) (hm : (l, listOf #[a, b, c] n) ∈ news) (h0 : 0 ≤ k) (h3 : k < 3) (ha : Q a s) (hb : Q b s) (hc : Q c s)
    (hs : subscripted slice false (.ref l) (.int k u) = operate [.ref l, .int k u] (getItem (.ref l) (.int k u)) := by with_unfolding_all rfl) :
    wpAny (model prog w) A (subscriptTail value slice (.ref l) (.int k u)) Q E s := by
  have hL := N.isList hm
  obtain ⟨i, rfl⟩ : ∃ i : Nat, k = (i : Int) := ⟨k.toNat, by omega⟩
  have hi : i = 0 ∨ i = 1 ∨ i = 2 := by omega
  rcases hi with rfl | rfl | rfl
  · exact tail_any hL.typeIs slot_list_getitem.lookup (wpAny_getItem_list hL h0 (by decide) (by rfl) ha) hs
  · exact tail_any hL.typeIs slot_list_getitem.lookup (wpAny_getItem_list hL h0 (by decide) (by rfl) hb) hs
  · exact tail_any hL.typeIs slot_list_getitem.lookup (wpAny_getItem_list hL h0 (by decide) (by rfl) hc) hs
theorem pow_13 (h : ∀ t tk, Q (.int 10000000000000 t) { s with toks := tk }) : wpAny (model prog w) A (binaryOp .Pow (.int 10 t) (.int 13 u)) Q E s := by
  refine pow_int_small (by decide) (by decide) (by decide) ?_
  rw [show (10 : Int) ^ Int.toNat 13 = 10000000000000 from by decide]
  exact h _ _
theorem pow_12 (h : ∀ t tk, Q (.int 1000000000000 t) { s with toks := tk }) : wpAny (model prog w) A (binaryOp .Pow (.int 10 t) (.int 12 u)) Q E s := by
  refine pow_int_small (by decide) (by decide) (by decide) ?_
  rw [show (10 : Int) ^ Int.toNat 12 = 1000000000000 from by decide]
  exact h _ _
theorem pow_6 (h : ∀ t tk, Q (.int 1000000 t) { s with toks := tk }) : wpAny (model prog w) A (binaryOp .Pow (.int 10 t) (.int 6 u)) Q E s := by
  refine pow_int_small (by decide) (by decide) (by decide) ?_
  rw [show (10 : Int) ^ Int.toNat 6 = 1000000 from by decide]
  exact h _ _
end

end
local macro_rules | `(tactic| walk_at "no such key") => `(tactic| skip)
local macro_rules | `(tactic| walk_at "no such key") => `(tactic| skip)
local macro_rules | `(tactic| walk_at "no such key") => `(tactic| skip)
local macro_rules | `(tactic| walk_at "no such key") => `(tactic| skip)
local macro_rules | `(tactic| walk_at "no such key") => `(tactic| skip)
local macro_rules | `(tactic| walk_at "no such key") => `(tactic| skip)

section
local macro_rules | `(tactic| walk_at "call builtin:getattr") => `(tactic| (k_here; (with_reducible show wpAny _ _ (call (Value.builtin "getattr") [Value.none, Value.str (Str.ofString "locale") _, Value.none]) _ _ _); k_dflt (refine' getattr_K ?k0 ?k1 ?k2 ?_; (case k0 => rfl); (case k1 => k_asm); (case k2 => k_asm)); intro h' tk' F' N'; (try k_sweep)))
local macro_rules | `(tactic| walk_at "call builtin:dict.get") => `(tactic| (k_here; (with_reducible show wpAny _ _ (call (Value.builtin "dict.get") [Value.ref _, Value.none, _]) _ _ _); k_dflt (refine' get_none_tab ?k1 ?k2 ?_; (case k1 => k_asm); (case k2 => assumption))))
set_option maxHeartbeats 8000000 in
theorem ts_c {w : World} {mean : ExcName → Option Value} {mg mb : Str → Option Value} {dp un : Nat} {gd : Option (List Code)} {cn : Str} {cs : Scope} {a : Addr} {ccd : Value} {cl : List (Str × Addr)} {outer : List Env} {A₀ : Around} {base h₀ : Heap} {L : Addr} {m : Str → Option Value} {s : Shared} {Q E : Value → Shared → Prop} {news : List (Addr × Obj)}
    (B : Below A₀ base outer h₀) (F : Fr h₀ L s.heap m) (X : (Mine.hd.heap_39 w.params).In h₀) (N : News h₀ L s.heap news) (T : Top Mine.hd.view_39 (looseW Mine.hd.view_39 [Str.ofString "_date_and_delta", Str.ofString "_THOUSANDS_SEPARATOR", Str.ofString "_DECIMAL_SEPARATOR"]) mean mg mb h₀) (hk : cs.kind = .function) (hd : dp < 780) (hu : un < 980)
    (h : ∀ (t' : Tok) (h' : Heap) (tk' : Nat), Fr h₀ L h' m → News h₀ L h' news → Q (.str (Str.ofString ",") t') { s with heap := h', toks := tk' }) :
    wpAny (model PySem.Challenge.rw_aq6038_01.row.prog w) (ktrTop dp un gd cn cs L a ccd cl outer) (call (.ref 186) []) Q E s := by
  revert X; k_fill; intro X
  have hown : ∀ q ∈ ([] : List (Addr × Obj)), q ∈ news := fun _ hq => absurd hq List.not_mem_nil
  have hrest : ∀ q ∈ news, q ∈ news ∧ ∀ v ∈ ([] : List (Addr × Obj)), q.1 ≠ v.1 := fun _ hq => ⟨hq, fun _ hv => absurd hv List.not_mem_nil⟩
  refine wpAny_call ?_
  k_dflt (walk_at "mine enterL")
  k_steps
  exact h _ _ _ (by assumption) (by assumption)
set_option maxHeartbeats 8000000 in
theorem ds_c {w : World} {mean : ExcName → Option Value} {mg mb : Str → Option Value} {dp un : Nat} {gd : Option (List Code)} {cn : Str} {cs : Scope} {a : Addr} {ccd : Value} {cl : List (Str × Addr)} {outer : List Env} {A₀ : Around} {base h₀ : Heap} {L : Addr} {m : Str → Option Value} {s : Shared} {Q E : Value → Shared → Prop} {news : List (Addr × Obj)}
    (B : Below A₀ base outer h₀) (F : Fr h₀ L s.heap m) (X : (Mine.hd.heap_39 w.params).In h₀) (N : News h₀ L s.heap news) (T : Top Mine.hd.view_39 (looseW Mine.hd.view_39 [Str.ofString "_date_and_delta", Str.ofString "_THOUSANDS_SEPARATOR", Str.ofString "_DECIMAL_SEPARATOR"]) mean mg mb h₀) (hk : cs.kind = .function) (hd : dp < 780) (hu : un < 980)
    (h : ∀ (t' : Tok) (h' : Heap) (tk' : Nat), Fr h₀ L h' m → News h₀ L h' news → Q (.str (Str.ofString ".") t') { s with heap := h', toks := tk' }) :
    wpAny (model PySem.Challenge.rw_aq6038_01.row.prog w) (ktrTop dp un gd cn cs L a ccd cl outer) (call (.ref 193) []) Q E s := by
  revert X; k_fill; intro X
  have hown : ∀ q ∈ ([] : List (Addr × Obj)), q ∈ news := fun _ hq => absurd hq List.not_mem_nil
  have hrest : ∀ q ∈ news, q ∈ news ∧ ∀ v ∈ ([] : List (Addr × Obj)), q.1 ≠ v.1 := fun _ hq => ⟨hq, fun _ hv => absurd hv List.not_mem_nil⟩
  refine wpAny_call ?_
  k_dflt (walk_at "mine enterL")
  k_steps
  exact h _ _ _ (by assumption) (by assumption)

end
local macro_rules | `(tactic| walk_at "no such key") => `(tactic| skip)
local macro_rules | `(tactic| walk_at "no such key") => `(tactic| skip)
local macro_rules | `(tactic| walk_at "no such key") => `(tactic| skip)
local macro_rules | `(tactic| walk_at "no such key") => `(tactic| skip)
local macro_rules | `(tactic| walk_at "no such key") => `(tactic| skip)
local macro_rules | `(tactic| walk_at "no such key") => `(tactic| skip)
-- date and delta: contracts as steps
local macro_rules | `(tactic| walk_at "call ref") => `(tactic| (k_here; (with_reducible refine' call_norm (f' := Value.ref 107) (a' := [Value.ref _]) (kw' := [(Str.ofString "now", Value.ref _)]) ?n1 ?n2 ?n3 ?_); k_dflt ((case n1 => exact rfl); (case n2 => exact rfl); (case n3 => exact rfl)); k_dflt (refine' ddL_u ?k1 ?k2 ?k3 ?k4 ?k5 ?k6 ?xb ?tb ?kd ?o0 ?o3 ?o4 ?k9 ?k7 ?d1 ?d2 ?_; (case k1 => assumption); (case k2 => k_asm); (case k3 => k_asm); (case k4 => k_asm); (case k5 => k_asm); (case k6 => rfl); (case xb => assumption); (case tb => assumption); (case kd => assumption); (case o0 => k_mem); (case o3 => k_mem); (case o4 => k_mem); (case k7 => walk_at "part"); (case k9 => walk_at "lower"); (case d1 => walk_at "room"); (case d2 => walk_at "room")); intro T' h' g' tk' KT' F' N' B' X' P' kD'; (try k_sweep)))
local macro_rules | `(tactic| walk_at "call ref") => `(tactic| (k_here; (with_reducible refine' call_norm (f' := Value.ref 107) (a' := [Value.ref _]) (kw' := [(Str.ofString "now", Value.ref _)]) ?n1 ?n2 ?n3 ?_); k_dflt ((case n1 => exact rfl); (case n2 => exact rfl); (case n3 => exact rfl)); k_dflt (refine' ddD_u ?k1 ?k2 ?k3 ?k4 ?k5 ?k6 ?o1 ?o2 ?o3 ?o4 ?k8 ?k9 ?e1 ?e2 ?e3 ?e4 ?hy ?z0 ?z1 ?k7 ?d1 ?d2 ?_; (case k1 => assumption); (case k2 => k_asm); (case k3 => k_asm); (case k4 => k_asm); (case k5 => k_asm); (case k6 => rfl); (case o1 => k_mem); (case o2 => k_mem); (case o3 => k_mem); (case o4 => k_mem); (case k7 => walk_at "part"); (case k8 => walk_at "lower"); (case k9 => walk_at "lower"); (case e1 => walk_at "apart"); (case e2 => walk_at "apart"); (case e3 => walk_at "apart"); (case e4 => walk_at "apart"); (case hy => rfl); (case z0 => walk_at "span bound"); (case z1 => walk_at "span bound"); (case d1 => walk_at "room"); (case d2 => walk_at "room")); intro T' x' dx' n1' k1' u1' k2' u2' k3' u3' h' tk' F' N' l1 l0 l2 l3; (try k_lt l1); (try k_sweep)))
local macro_rules | `(tactic| walk_at "call ref") => `(tactic| (k_here; (with_reducible refine' call_norm (f' := Value.ref 107) (a' := [Value.ref _]) (kw' := [(Str.ofString "now", Value.ref _)]) ?n1 ?n2 ?n3 ?_); k_dflt ((case n1 => exact rfl); (case n2 => exact rfl); (case n3 => exact rfl)); k_dflt (refine' ddT_u ?k1 ?k2 ?k3 ?k4 ?k5 ?k6 ?o1 ?o2 ?o3 ?o4 ?k8 ?k9 ?e1 ?e2 ?e3 ?e4 ?z0 ?z1 ?z2 ?z3 ?k7 ?d1 ?d2 ?_; (case k1 => assumption); (case k2 => k_asm); (case k3 => k_asm); (case k4 => k_asm); (case k5 => k_asm); (case k6 => rfl); (case o1 => k_mem); (case o2 => k_mem); (case o3 => k_mem); (case o4 => k_mem); (case k7 => walk_at "part"); (case k8 => walk_at "lower"); (case k9 => walk_at "lower"); (case e1 => walk_at "apart"); (case e2 => walk_at "apart"); (case e3 => walk_at "apart"); (case e4 => walk_at "apart"); (case z0 => walk_at "span bound"); (case z1 => walk_at "span bound"); (case z2 => walk_at "span bound"); (case z3 => walk_at "span bound"); (case d1 => walk_at "room"); (case d2 => walk_at "room")); intro T' e' de' x' dx' n1' n2' k4' u4' k1' u1' k2' u2' k3' u3' h' tk' F' N' l1 l0 l2 l3 l4 l5; (try k_lt l1); (try k_sweep)))
local macro_rules | `(tactic| walk_at "call ref") => `(tactic| (k_here; (with_reducible refine' call_norm (f' := Value.ref 107) (a' := [Value.int _ _]) (kw' := [(Str.ofString "now", Value.ref _), (Str.ofString "precise", Value.bool _)]) ?n1 ?n2 ?n3 ?_); k_dflt ((case n1 => exact rfl); (case n2 => exact rfl); (case n3 => exact rfl)); k_dflt (refine' ddI_u ?k1 ?k2 ?k3 ?k4 ?k5 ?k6 ?o3 ?o4 ?k9 ?z0 ?z1 ?z2 ?z3 ?k7 ?d1 ?d2 ?_; (case k1 => assumption); (case k2 => k_asm); (case k3 => k_asm); (case k4 => k_asm); (case k5 => k_asm); (case k6 => rfl); (case o3 => k_mem); (case o4 => k_mem); (case k7 => walk_at "part"); (case k9 => walk_at "lower"); (case z0 => walk_at "span bound"); (case z1 => walk_at "span bound"); (case z2 => walk_at "span bound"); (case z3 => walk_at "span bound"); (case d1 => walk_at "room"); (case d2 => walk_at "room")); intro T' e' de' x' dx' n1' n2' k4' u4' k1' u1' k2' u2' k3' u3' h' tk' F' N' l1 l0 l2 l3 l4 l5; (try k_lt l1); (try k_sweep)))
local macro_rules | `(tactic| walk_at "call ref") => `(tactic| (k_here; (with_reducible refine' call_norm (f' := Value.ref 107) (a' := [Value.ref _]) (kw' := []) ?n1 ?n2 ?n3 ?_); k_dflt ((case n1 => exact rfl); (case n2 => exact rfl); (case n3 => exact rfl)); k_dflt (refine' ddN_u ?k1 ?k2 ?k3 ?k4 ?k5 ?k6 ?o1 ?o2 ?k8 ?z2 ?z3 ?k7 ?d1 ?d2 ?_; (case k1 => assumption); (case k2 => k_asm); (case k3 => k_asm); (case k4 => k_asm); (case k5 => k_asm); (case k6 => rfl); (case o1 => k_mem); (case o2 => k_mem); (case k7 => walk_at "part"); (case k8 => walk_at "lower"); (case z2 => walk_at "span bound"); (case z3 => walk_at "span bound"); (case d1 => walk_at "room"); (case d2 => walk_at "room")); intro T' e' de' x' dx' n1' n2' k4' u4' k1' u1' k2' u2' k3' u3' h' tk' F' N' l1 l0 l2 l3 l4 l5; (try k_lt l1); (try k_sweep)))
local macro_rules | `(tactic| walk_at "call ref") => `(tactic| (k_here; (with_reducible refine' call_norm (f' := Value.ref 107) (a' := [Value.str _ _]) (kw' := [(Str.ofString "now", Value.ref _)]) ?n1 ?n2 ?n3 ?_); k_dflt ((case n1 => exact rfl); (case n2 => exact rfl); (case n3 => exact rfl)); k_dflt (refine' ddS_u ?k1 ?k2 ?k3 ?k4 ?k5 ?k6 ?xb ?tb ?kd ?o3 ?o4 ?k9 ?k7 ?d1 ?d2 ?_; (case k1 => assumption); (case k2 => k_asm); (case k3 => k_asm); (case k4 => k_asm); (case k5 => k_asm); (case k6 => rfl); (case xb => assumption); (case tb => assumption); (case kd => assumption); (case o3 => k_mem); (case o4 => k_mem); (case k7 => walk_at "part"); (case k9 => walk_at "lower"); (case d1 => walk_at "room"); (case d2 => walk_at "room")); intro T' h' g' tk' KT' F' N' B' X' P' kD'; (try k_sweep)))
local macro_rules | `(tactic| walk_at "call ref") => `(tactic| (k_here; (with_reducible refine' call_norm (f' := Value.ref 107) (a' := [Value.none]) (kw' := [(Str.ofString "now", Value.ref _)]) ?n1 ?n2 ?n3 ?_); k_dflt ((case n1 => exact rfl); (case n2 => exact rfl); (case n3 => exact rfl)); k_dflt (refine' ddO_u ?k1 ?k2 ?k3 ?k4 ?k5 ?k6 ?xb ?tb ?kd ?o3 ?o4 ?k9 ?k7 ?d1 ?d2 ?_; (case k1 => assumption); (case k2 => k_asm); (case k3 => k_asm); (case k4 => k_asm); (case k5 => k_asm); (case k6 => rfl); (case xb => assumption); (case tb => assumption); (case kd => assumption); (case o3 => k_mem); (case o4 => k_mem); (case k7 => walk_at "part"); (case k9 => walk_at "lower"); (case d1 => walk_at "room"); (case d2 => walk_at "room")); intro T' h' g' tk' KT' F' N' B' X' P' kD'; (try k_sweep)))
local macro_rules | `(tactic| walk_at "call ref") => `(tactic| (k_here; (with_reducible refine' call_norm (f' := Value.ref 46) (a' := [Value.int 1 _]) (kw' := []) ?n1 ?n2 ?n3 ?_); k_dflt ((case n1 => exact rfl); (case n2 => exact rfl); (case n3 => exact rfl)); k_dflt (refine' td1_c ?k1 ?k2 ?k3 ?k4 ?k5 ?k6 ?d1 ?d2 ?_; (case k1 => assumption); (case k2 => k_asm); (case k3 => k_asm); (case k4 => k_asm); (case k5 => k_asm); (case k6 => rfl); (case d1 => walk_at "room"); (case d2 => walk_at "room")); intro x' d' n' k1' u1' k2' u2' k3' u3' h' tk' F' N' l1 l0 l2; (try k_lt l1); (try k_sweep)))
local macro_rules | `(tactic| walk_at "subscriptTail") => `(tactic| (k_here; (with_reducible show wpAny _ _ (subscriptTail _ _ (Value.ref _) (Value.int _ _)) _ _ _); k_dflt (refine' pick3 ?N ?hm ?h0 ?h6 ?_ ?_ ?_ ?hs; (case N => k_asm); (case hm => k_mem); (case h0 => assumption); (case h6 => assumption); (case hs => with_unfolding_all rfl))))
local macro_rules | `(tactic| walk_at "binaryOp Pow int int") => `(tactic| (k_here; (first | (with_reducible refine pow_13 ?_) | (with_reducible refine pow_12 ?_) | (with_reducible refine pow_6 ?_)); intro _ _))


section
local macro_rules | `(tactic| k_in) => `(tactic| first | with_reducible assumption | exact Frag.In.keeps (by with_reducible assumption) (Fr.keep (by with_reducible assumption)))
local macro_rules | `(tactic| walk_at "mine enterT0") => `(tactic| (refine' code_defT0 ?k1 ?k2 ?k3 ?k4 ?o1 ?o2 ?k5 ?kA ?kF ?kK ?k6 ?k7 ?k8 ?k9 ?kB ?_ ?c2 ?c3 ?c4 ?c5; (case kA => exact rfl); (case kF => exact rfl); (case kK => first | assumption | exact rfl); (case k1 => k_asm); (case k2 => k_asm); (case k3 => k_asm); (case k4 => k_asm); (case k5 => k_asm); (case k6 => k_is); (case k7 => k_is); (case k8 => ktr_room); (case k9 => first | exact BindsTo.of_eq rfl | exact binds_K (by k_in) rfl (by k_is) rfl rfl rfl); (case c5 => decide); (case kB => exact locs rfl); (case c2 => exact rfl); (case c3 => exact rfl); (case c4 => exact rfl); (case o1 => assumption); (case o2 => assumption); intro g' L' h' FG' F' N' B' X' T' kD'; (try dsimp only); (try k_lift B'); (try k_fold)))
local macro_rules | `(tactic| walk_at "call ref") => `(tactic| (k_here; (with_reducible show wpAny _ _ (call (Value.ref 205) [Value.ref _, Value.int 1000000 _]) _ _ _); refine MStop.out ?_))
local macro_rules | `(tactic| walk_at "takeN") => `(tactic| (k_dflt (refine' take_u ?k1 ?k2 ?k3 ?k4 ?k5 ?k6 ?o1 ?o2 ?k7 ?k8 ?k9 ?m0 ?m1 ?d1 ?d2 ?_; (case k1 => assumption); (case k2 => k_asm); (case k3 => k_asm); (case k4 => k_asm); (case k5 => k_asm); (case k6 => rfl); (case o1 => k_mem); (case o2 => k_mem); (case k7 => walk_at "part"); (case k8 => (first | assumption | k_ne)); (case k9 => assumption); (case m0 => decide); (case m1 => decide); (case d1 => walk_at "room"); (case d2 => walk_at "room")); intro v' tv' tl' vs' nA' nD' sd' h' tk' F' N' hv' hlo' hhi'; (try k_sweep)))
theorem last4 {g h : Heap} {L : Addr} {p1 p2 p3 p4 : Addr × Obj} (_N : News g L h [p1, p2, p3, p4]) : ∃ x d : Addr, x = p3.1 ∧ d = p4.1 := ⟨_, _, rfl, rfl⟩
theorem news_two {h₀ h : Heap} {L : Addr} {a b : Addr × Obj} {l rest : List (Addr × Obj)} (N : News h₀ L h l) (hD : a ∈ l) (hA : b ∈ l) (hr : ∀ q ∈ rest, q ∈ l) : News h₀ L h (a :: b :: rest) := fun q hq => by
  rcases List.mem_cons.mp hq with rfl | hq
  · exact N _ hD
  · rcases List.mem_cons.mp hq with rfl | hq
    · exact N _ hA
    · exact N _ (hr q hq)
set_option maxHeartbeats 16000000 in
theorem spans_c {w : World} {mean : ExcName → Option Value} {mg mb : Str → Option Value} {dp un : Nat} {gd : Option (List Code)} {cn : Str} {cs : Scope} {a : Addr} {ccd : Value} {cl : List (Str × Addr)} {A₀ : Around} {base h₀ : Heap} {L : Addr} {m : Str → Option Value} {s : Shared} {Q E : Value → Shared → Prop} {news : List (Addr × Obj)} {rest : List (Addr × Obj)} {D A : Addr} {vs : List Value} {nA nD : Nat} {sd : Int} {t : Tok}
    (B : Below A₀ base [] h₀) (F : Fr h₀ L s.heap m) (X : (Mine.hd.heap_39 w.params).In h₀) (N : News h₀ L s.heap news) (T : Top Mine.hd.view_39 (looseW Mine.hd.view_39 [Str.ofString "_date_and_delta", Str.ofString "_THOUSANDS_SEPARATOR", Str.ofString "_DECIMAL_SEPARATOR"]) mean mg mb h₀) (hk : cs.kind = .function) (XB : (Mine.hd.heap_39 w.params).In base) (TB : Top Mine.hd.view_39 (looseW Mine.hd.view_39 [Str.ofString "_date_and_delta", Str.ofString "_THOUSANDS_SEPARATOR", Str.ofString "_DECIMAL_SEPARATOR"]) mean mg mb base)
    (hown : ∀ q ∈ [(D, listOf #[.ref A, .int sd t] nD), (A, listOf vs.toArray nA)], q ∈ news)
    (hrest : ∀ q ∈ rest, q ∈ news ∧ ∀ z ∈ [(D, listOf #[.ref A, .int sd t] nD), (A, listOf vs.toArray nA)], q.1 ≠ z.1)
    (hne : @Ne Nat D A)
    (hv : Drawn vs sd)
    (hd : dp < 700) (hu : un < 900)
    (h : ∀ (t'' : Tok) (vs' : List Value) (nA' nD' : Nat) (sd' : Int) (h' : Heap) (tk' : Nat), Fr h₀ L h' m →
      News h₀ L h' ((D, listOf #[.ref A, .int sd' t''] nD') :: (A, listOf vs'.toArray nA') :: rest) → Drawn vs' sd' →
      Q (.bool true) { s with heap := h', toks := tk' }) :
    wpAny (model PySem.Challenge.rw_aq6038_01.row.prog w) (ktrTop dp un gd cn cs L a ccd cl []) (call (.ref 229) [.ref D]) Q E s := by
  revert X; k_fill; intro X
  refine wpAny_call ?_
  k_dflt (walk_at "mine enterT0")
  k_steps
  refine MStop.mk ?_
  walk_at "takeN"
  k_steps
  all_goals (try exact absurd rfl (by assumption))
  refine MStop.mk ?_
  rename News _ _ _ _ => kN
  replace kN := news_keep [false, false, false, false, false, false, false, false, false, false, false, false, false, false, true, true, true, true] kN
  dsimp only [keepB] at kN
  obtain ⟨x0, d0, e1, e2⟩ := last4 kN
  dsimp only at e1 e2
  subst e1 e2
  have f1 : @LT.lt Nat _ D d0 := by omega
  have f2 : @LT.lt Nat _ A d0 := by omega
  have f3 : @LT.lt Nat _ d0 x0 := by omega
  (repeat (rename _ ∧ _ => kx; clear kx))
  walk_at "takeN"
  k_steps
  all_goals (try exact absurd rfl (by assumption))
  all_goals (rename News h₀ L _ (_ :: _) => kN)
  all_goals (refine' h _ _ _ _ _ _ _ ?f (news_two kN ?hD ?hA ?hr) ?hv; (case f => assumption); (case hD => k_mem); (case hA => k_mem); (case hr => (intro q hq; (repeat (first | exact hq | refine List.mem_cons_of_mem _ ?_)))); (case hv => assumption))

end
local macro_rules | `(tactic| walk_at "no such key") => `(tactic| skip)
local macro_rules | `(tactic| walk_at "no such key") => `(tactic| skip)
local macro_rules | `(tactic| walk_at "no such key") => `(tactic| skip)
local macro_rules | `(tactic| walk_at "no such key") => `(tactic| skip)
local macro_rules | `(tactic| walk_at "no such key") => `(tactic| skip)
local macro_rules | `(tactic| walk_at "no such key") => `(tactic| skip)

section
theorem units_u {w : World} {mean : ExcName → Option Value} {mg mb : Str → Option Value} {dp un : Nat} {gd : Option (List Code)} {cn : Str} {cs : Scope} {a : Addr} {ccd : Value} {cl : List (Str × Addr)} {A₀ : Around} {base h₀ : Heap} {L : Addr} {m : Str → Option Value} {s : Shared} {Q E : Value → Shared → Prop} {news : List (Addr × Obj)} {rest : List (Addr × Obj)} {D A : Addr} {vs : List Value} {nA nD : Nat} {sd : Int} {t : Tok}
    (B : Below A₀ base [] h₀) (F : Fr h₀ L s.heap m) (X : (Mine.hd.heap_39 w.params).In h₀) (N : News h₀ L s.heap news) (T : Top Mine.hd.view_39 (looseW Mine.hd.view_39 [Str.ofString "_date_and_delta", Str.ofString "_THOUSANDS_SEPARATOR", Str.ofString "_DECIMAL_SEPARATOR"]) mean mg mb h₀) (hk : cs.kind = .function) (XB : (Mine.hd.heap_39 w.params).In base) (TB : Top Mine.hd.view_39 (looseW Mine.hd.view_39 [Str.ofString "_date_and_delta", Str.ofString "_THOUSANDS_SEPARATOR", Str.ofString "_DECIMAL_SEPARATOR"]) mean mg mb base)
    (hD : (D, listOf #[.ref A, .int sd t] nD) ∈ news) (hA : (A, listOf vs.toArray nA) ∈ news) (hrest : Part [(D, listOf #[.ref A, .int sd t] nD), (A, listOf vs.toArray nA)] news rest)
    (hne : @Ne Nat D A) (hv : Drawn vs sd) (hd : dp < 700) (hu : un < 900)
    (h : ∀ (t'' : Tok) (vs' : List Value) (nA' nD' : Nat) (sd' : Int) (h' : Heap) (tk' : Nat), Fr h₀ L h' m →
      News h₀ L h' ((D, listOf #[.ref A, .int sd' t''] nD') :: (A, listOf vs'.toArray nA') :: rest) → Drawn vs' sd' → Q (.bool true) { s with heap := h', toks := tk' }) :
    wpAny (model PySem.Challenge.rw_aq6038_01.row.prog w) (ktrTop dp un gd cn cs L a ccd cl []) (call (.ref 222) [.ref D]) Q E s :=
  units_c B F X N T XB TB hk (all_cons hD (all_cons hA all_nil)) hrest.rest hne hv hd hu h
theorem spans_u {w : World} {mean : ExcName → Option Value} {mg mb : Str → Option Value} {dp un : Nat} {gd : Option (List Code)} {cn : Str} {cs : Scope} {a : Addr} {ccd : Value} {cl : List (Str × Addr)} {A₀ : Around} {base h₀ : Heap} {L : Addr} {m : Str → Option Value} {s : Shared} {Q E : Value → Shared → Prop} {news : List (Addr × Obj)} {rest : List (Addr × Obj)} {D A : Addr} {vs : List Value} {nA nD : Nat} {sd : Int} {t : Tok}
    (B : Below A₀ base [] h₀) (F : Fr h₀ L s.heap m) (X : (Mine.hd.heap_39 w.params).In h₀) (N : News h₀ L s.heap news) (T : Top Mine.hd.view_39 (looseW Mine.hd.view_39 [Str.ofString "_date_and_delta", Str.ofString "_THOUSANDS_SEPARATOR", Str.ofString "_DECIMAL_SEPARATOR"]) mean mg mb h₀) (hk : cs.kind = .function) (XB : (Mine.hd.heap_39 w.params).In base) (TB : Top Mine.hd.view_39 (looseW Mine.hd.view_39 [Str.ofString "_date_and_delta", Str.ofString "_THOUSANDS_SEPARATOR", Str.ofString "_DECIMAL_SEPARATOR"]) mean mg mb base)
    (hD : (D, listOf #[.ref A, .int sd t] nD) ∈ news) (hA : (A, listOf vs.toArray nA) ∈ news) (hrest : Part [(D, listOf #[.ref A, .int sd t] nD), (A, listOf vs.toArray nA)] news rest)
    (hne : @Ne Nat D A) (hv : Drawn vs sd) (hd : dp < 700) (hu : un < 900)
    (h : ∀ (t'' : Tok) (vs' : List Value) (nA' nD' : Nat) (sd' : Int) (h' : Heap) (tk' : Nat), Fr h₀ L h' m →
      News h₀ L h' ((D, listOf #[.ref A, .int sd' t''] nD') :: (A, listOf vs'.toArray nA') :: rest) → Drawn vs' sd' → Q (.bool true) { s with heap := h', toks := tk' }) :
    wpAny (model PySem.Challenge.rw_aq6038_01.row.prog w) (ktrTop dp un gd cn cs L a ccd cl []) (call (.ref 229) [.ref D]) Q E s :=
  spans_c B F X N T hk XB TB (all_cons hD (all_cons hA all_nil)) hrest.rest hne hv hd hu h

end
local macro_rules | `(tactic| walk_at "no such key") => `(tactic| skip)
local macro_rules | `(tactic| walk_at "no such key") => `(tactic| skip)
local macro_rules | `(tactic| walk_at "no such key") => `(tactic| skip)
local macro_rules | `(tactic| walk_at "no such key") => `(tactic| skip)
local macro_rules | `(tactic| walk_at "no such key") => `(tactic| skip)
local macro_rules | `(tactic| walk_at "no such key") => `(tactic| skip)
-- the law: contracts as steps
local macro_rules | `(tactic| walk_at "call ref") => `(tactic| (k_here; (with_reducible show wpAny _ _ (call (Value.ref 222) [Value.ref _]) _ _ _); k_dflt (refine' units_u ?k1 ?k2 ?k3 ?k4 ?k5 ?k6 ?xb ?tb ?o1 ?o2 ?k7 ?k8 ?k9 ?d1 ?d2 ?_; (case k1 => assumption); (case k2 => k_asm); (case k3 => k_asm); (case k4 => k_asm); (case k5 => k_asm); (case k6 => rfl); (case xb => assumption); (case tb => assumption); (case o1 => k_mem); (case o2 => k_mem); (case k7 => walk_at "part"); (case k8 => (first | assumption | k_ne)); (case k9 => assumption); (case d1 => walk_at "room"); (case d2 => walk_at "room")); intro tl' vs' nA' nD' sd' h' tk' F' N' hv'; (try k_sweep)))
local macro_rules | `(tactic| walk_at "call ref") => `(tactic| (k_here; (with_reducible show wpAny _ _ (call (Value.ref 229) [Value.ref _]) _ _ _); k_dflt (refine' spans_u ?k1 ?k2 ?k3 ?k4 ?k5 ?k6 ?xb ?tb ?o1 ?o2 ?k7 ?k8 ?k9 ?d1 ?d2 ?_; (case k1 => assumption); (case k2 => k_asm); (case k3 => k_asm); (case k4 => k_asm); (case k5 => k_asm); (case k6 => rfl); (case xb => assumption); (case tb => assumption); (case o1 => k_mem); (case o2 => k_mem); (case k7 => walk_at "part"); (case k8 => (first | assumption | k_ne)); (case k9 => assumption); (case d1 => walk_at "room"); (case d2 => walk_at "room")); intro tl' vs' nA' nD' sd' h' tk' F' N' hv'; (try k_sweep)))
local macro_rules | `(tactic| walk_at "call ref") => `(tactic| (k_here; (with_reducible show wpAny _ _ (call (Value.ref 198) [Value.ref _]) _ _ _); k_dflt (refine' draw_c ?k1 ?k2 ?k3 ?k4 ?k5 ?k6 ?hl ?hI ?hn ?d1 ?d2 ?_; (case k1 => assumption); (case k2 => k_asm); (case k3 => k_asm); (case k4 => k_asm); (case k5 => k_asm); (case k6 => rfl); (case hl => assumption); (case hI => assumption); (case hn => omega); (case d1 => walk_at "room"); (case d2 => walk_at "room")); intro d' a' tl' vs' nA' nD' sd' h' tk' F' N' hv' hne'; (try k_sweep)))
local macro_rules | `(tactic| walk_at "call ref") => `(tactic| (k_here; (with_reducible refine' call_norm (f' := Value.ref 186) (a' := []) (kw' := []) ?n1 ?n2 ?n3 ?_); k_dflt ((case n1 => exact rfl); (case n2 => exact rfl); (case n3 => exact rfl)); k_dflt (refine' ts_c ?k1 ?k2 ?k3 ?k4 ?k5 ?k6 ?d1 ?d2 ?_; (case k1 => assumption); (case k2 => k_asm); (case k3 => k_asm); (case k4 => k_asm); (case k5 => k_asm); (case k6 => rfl); (case d1 => walk_at "room"); (case d2 => walk_at "room")); intro t' h' tk' F' N'; (try k_sweep)))
local macro_rules | `(tactic| walk_at "call ref") => `(tactic| (k_here; (with_reducible refine' call_norm (f' := Value.ref 193) (a' := []) (kw' := []) ?n1 ?n2 ?n3 ?_); k_dflt ((case n1 => exact rfl); (case n2 => exact rfl); (case n3 => exact rfl)); k_dflt (refine' ds_c ?k1 ?k2 ?k3 ?k4 ?k5 ?k6 ?d1 ?d2 ?_; (case k1 => assumption); (case k2 => k_asm); (case k3 => k_asm); (case k4 => k_asm); (case k5 => k_asm); (case k6 => rfl); (case d1 => walk_at "room"); (case d2 => walk_at "room")); intro t' h' tk' F' N'; (try k_sweep)))


section
local macro_rules | `(tactic| k_in) => `(tactic| first | with_reducible assumption | exact Frag.In.keeps (by with_reducible assumption) (Fr.keep (by with_reducible assumption)))
theorem pick3s {prog : Program} {w : World} {A : Around} {E : Value → Shared → Prop} {s : Shared} {h₀ : Heap} {L l : Addr} {news : List (Addr × Obj)} {n : Nat} {k : Int} {a b c : Str} {t1 t2 t3 u : Tok} {value slice : Expr} {Q : Value → Shared → Prop}
    (N : News h₀ L s.heap news) (hm : (l, listOf #[.str a t1, .str b t2, .str c t3] n) ∈ news) (h0 : 0 ≤ k) (h3 : k < 3) (ha : PyData.strOk a = true) (hb : PyData.strOk b = true) (hc : PyData.strOk c = true) (h : ∀ (wd : Str) (t : Tok), PyData.strOk wd = true → Q (.str wd t) s)
    (hs : subscripted slice false (.ref l) (.int k u) = operate [.ref l, .int k u] (getItem (.ref l) (.int k u)) := by with_unfolding_all rfl) :
    wpAny (model prog w) A (subscriptTail value slice (.ref l) (.int k u)) Q E s := pick3 N hm h0 h3 (h _ _ ha) (h _ _ hb) (h _ _ hc) hs
theorem sh2 {a b : Str} (ha : PyData.strOk a = true) (hb : PyData.strOk b = true) : PySem.SeqAt.shaped (.tuple [.str a, .str b]) = true := by
  simp [PySem.SeqAt.shaped, PyData.canLay0, PyData.canLayAll0, PyData.depth, PyData.depthAll, ha, hb]
theorem sh3 {a b c : Str} (ha : PyData.strOk a = true) (hb : PyData.strOk b = true) (hc : PyData.strOk c = true) : PySem.SeqAt.shaped (.tuple [.str a, .str b, .str c]) = true := by
  simp [PySem.SeqAt.shaped, PyData.canLay0, PyData.canLayAll0, PyData.depth, PyData.depthAll, ha, hb, hc]
local macro_rules | `(tactic| walk_at "word ok") => `(tactic| first | with_reducible assumption | decide +kernel)
local macro_rules | `(tactic| walk_at "words ok") => `(tactic| first | exact sh2 (by walk_at "word ok") (by walk_at "word ok") | exact sh3 (by walk_at "word ok") (by walk_at "word ok") (by walk_at "word ok"))
local macro_rules | `(tactic| walk_at "compareOp Eq ref ref") => `(tactic| (k_here; (with_reducible show wpAny _ _ (compareOp CmpOp.Eq (Value.ref _) (Value.ref _)) _ _ _); k_dflt (refine eq_dataH (by ke_read) (by ke_read) (by walk_at "words ok") (by walk_at "words ok") (by ke_room) ?_); ke_norm))
local macro_rules | `(tactic| walk_at "compareOp NotEq ref ref") => `(tactic| (k_here; (with_reducible show wpAny _ _ (compareOp CmpOp.NotEq (Value.ref _) (Value.ref _)) _ _ _); k_dflt (refine ne_dataH (by ke_read) (by ke_read) (by walk_at "words ok") (by walk_at "words ok") (by ke_room) ?_); ke_norm))
local macro_rules | `(tactic| walk_at "subscriptTail") => `(tactic| (k_here; (with_reducible show wpAny _ _ (subscriptTail _ _ (Value.ref _) (Value.int _ _)) _ _ _); k_dflt (refine' pick3s ?N ?hm ?h0 ?h6 ?a ?b ?c ?_ ?hs; (case N => k_asm); (case hm => k_mem); (case h0 => assumption); (case h6 => assumption); (case hs => with_unfolding_all rfl); (case a => decide +kernel); (case b => decide +kernel); (case c => decide +kernel)); intro wd' tw' hw'))
set_option maxHeartbeats 16000000 in
theorem law_holds : PySem.Challenge.rw_aq6038_01.Holds := Mine.hd (by
  k_go0
  all_goals try k_fold
  k_steps)

end
local macro_rules | `(tactic| walk_at "no such key") => `(tactic| skip)
local macro_rules | `(tactic| walk_at "no such key") => `(tactic| skip)
local macro_rules | `(tactic| walk_at "no such key") => `(tactic| skip)
local macro_rules | `(tactic| walk_at "no such key") => `(tactic| skip)
local macro_rules | `(tactic| walk_at "no such key") => `(tactic| skip)
local macro_rules | `(tactic| walk_at "no such key") => `(tactic| skip)

end Mine
theorem PySem.Challenge.cw_aq6038_01_holds : PySem.Challenge.rw_aq6038_01.Holds :=
  Mine.law_holds
