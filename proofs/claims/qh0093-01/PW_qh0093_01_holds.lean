import PyProof.Rows.All
import Wide.All
import OpenK.AllK
import Wide.FinOn
import Lean
import PySem.Challenge.RW_qh0093_01
set_option Elab.async false
set_option rowWalk.seconds 0
section
local macro_rules | `(tactic| walk_at $s:str) => `(tactic| k_extra $s)
local macro_rules | `(tactic| k_ne) => `(tactic| (refine PySem.W.neN ?_; (try dsimp only); first | assumption | exact Ne.symm (by assumption)))

section
open PySem PySem.W PyProof.Rows
namespace Mine
set_option maxRecDepth 100000 in
set_option maxHeartbeats 8000000 in
open_top hd for PySem.Challenge.rw_qh0093_01
end Mine
end

section
open PySem PySem.W PyProof.Rows PySem.Calls PySem.Spec
set_option maxRecDepth 100000
set_option maxHeartbeats 4000000
namespace Mine

/-- the heap is kept -/
noncomputable def Kp (h h' : Heap) : Prop := ∀ b o, h.get? b = some o → h'.get? b = some o
theorem Kp.refl (h : Heap) : Kp h h := fun _ _ e => e
theorem Kp.trans {h h' h'' : Heap} (a : Kp h h') (b : Kp h' h'') : Kp h h'' := fun x o e => b x o (a x o e)
theorem Kp.fr {h₀ h h' : Heap} {L : Addr} {m : Str → Option Value} (k : Kp h h') (F : Fr h₀ L h m) : Fr h₀ L h' m := F.keeps k
theorem Kp.news {h₀ h h' : Heap} {L : Addr} {news : List (Addr × Obj)} (k : Kp h h') (N : News h₀ L h news) : News h₀ L h' news := N.grown k
theorem Kp.list {h h' : Heap} {l : Addr} {vs : Array Value} (k : Kp h h') (x : h.IsList l vs) : h'.IsList l vs := let ⟨o, ho, r⟩ := x; ⟨o, k l o ho, r⟩

/-- a called def's end: it keeps the ground -/
noncomputable def LeaveP (g : Heap) (R : Result → Shared → Prop) (v : Value) (s' : Shared) : Prop :=
  ∃ L' m', Fr g L' s'.heap m' ∧ (Kp g s'.heap → R (.ok (.ret v)) s')
theorem LeaveP.intro {g : Heap} {R : Result → Shared → Prop} {v : Value} {s' : Shared} {L' : Addr} {m' : Str → Option Value} (F : Fr g L' s'.heap m') (h : Kp g s'.heap → R (.ok (.ret v)) s') : LeaveP g R v s' := ⟨L', m', F, h⟩

section
variable {prog : Program} {w : World} {A₀ A : Around} {s : Shared} {base h₀ : Heap} {outer : List Env} {L : Addr} {m : Str → Option Value} {env : Env} {K : Frag} {p : Program} {loose : List Str} {mean : ExcName → Option Value} {mg mb : Str → Option Value}
  {R : Result → Shared → Prop} {name qual : Str} {params : Arguments} {body : List Stmt} {scope : Scope} {dV kV doc pm cdv ct oc : Value} {an od : Option Addr} {osl : Array (Option Value)} {f : Addr} {args : Args} {binds : List (Str × Value)}

theorem code_pure (B : Below A₀ base outer h₀) (F : Fr h₀ L s.heap m) (X₀ : K.In h₀) (T : Top p loose mean mg mb h₀) (hA : A.frames = some (env :: outer)) (hf : env.frame = some L) (hke : env.scope.kind = .function)
    (ho : K.lookup f = some ⟨oc, od, .func (fnOf name qual params body scope dV kV doc pm an cdv ct), osl⟩) (hcd : codeIn K cdv qual = true) (hroom : A.depth < recursionLimit)
    (hbind : BindsTo s (fnOf name qual params body scope dV kV doc pm an cdv ct) args binds) (hloc : ∀ y ∈ binds, scope.names.lookup y.1 = some .local)
    (h : ∀ g L' h₁, g = s.heap → Fr g L' h₁ (fun y => binds.reverse.lookup y) → News g L' h₁ [] → Below A base (env :: outer) g → K.In g → Top p loose mean mg mb g →
      wpAny (model prog w) (A.deeper (envOf qual scope L' f cdv)) (execs body (envOf qual scope L' f cdv))
        (fun fl s' => LeaveP g R (match fl with | .ret v => v | _ => .none) s')
        (fun e s' => wpAny (model prog w) (A.deeper (envOf qual scope L' f cdv)) (leaving (envOf qual scope L' f cdv) e) (fun _ s'' => R (.error e) s'') (fun e' s'' => R (.error e') s'') s')
        { s with heap := h₁, toks := s.toks + binds.length })
    (hco : scope.isCoroutine = false) (hgen : scope.isGenerator = false) (hk : scope.kind = .function)
    (hcell : ∀ x ∈ scope.names, x.2 ≠ .cell) : codeAny (model prog w) A (.call (.ref f) args) R s := by
  obtain ⟨FG, BG, st, lv⟩ := groundX (R := R) B F (News.nil (h₀ := h₀) (L := L) (h := s.heap)) hA hf hke
  simp only [List.map_nil, hideAll] at FG BG st lv
  refine codeAny_call_def (fd := fnX name qual params body scope [] dV kV doc pm an cdv ct) (body := body) (binds := binds) hroom ((X₀.keeps F.keep) _ _ ho) rfl (T.nolimit.keeps F.keep) (codeRec_of (X₀.keeps F.keep) hcd) rfl hbind hcell hloc (fun h₁ hns hk₁ => ?_) hco hgen hk
  exact wpAny_mono (h s.heap s.heap.objs.size h₁ rfl ⟨hns, fun b o e => hk₁ b o e, Nat.le_refl _⟩ News.nil BG (X₀.keeps st) (T.keeps st)) (fun fl s' hl => let ⟨_, _, F', k⟩ := hl; k F'.keep) fun _ _ y => y
end

/-- a def's theorem: called with these values, where Pre holds of the heap, it ends, keeps the heap and hands back R -/
noncomputable def Pure (w : World) (loose : List Str) (mean : ExcName → Option Value) (mg mb : Str → Option Value) (k : Nat) (f : Addr) (vs : List Value) (kw : List (Str × Value)) (Pre : Heap → Prop) (R : Tok → Value) : Prop :=
  ∀ (dp un : Nat) (gd : Option (List Code)) (env : Env) (outer : List Env) (A₀ : Around) (base h₀ : Heap) (L : Addr) (m : Str → Option Value) (s : Shared) (Q E : Value → Shared → Prop),
    Below A₀ base outer h₀ → Fr h₀ L s.heap m → (Mine.hd.heap_39 w.params).In h₀ → Top Mine.hd.view_39 loose mean mg mb h₀ → env.frame = some L → env.scope.kind = .function → Pre s.heap → dp + k < recursionLimit → un + 8 * k < cLine →
    (∀ (t : Tok) (h' : Heap) (tk' : Nat), Kp s.heap h' → Q (R t) { s with heap := h', toks := tk' }) →
    wpAny (model PySem.Challenge.rw_qh0093_01.row.prog w) { handled := none, depth := dp, frames := some (env :: outer), guards := gd, units := un } (call (.ref f) vs kw) Q E s

theorem Pure.use {w : World} {loose : List Str} {mean : ExcName → Option Value} {mg mb : Str → Option Value} {k : Nat} {f : Addr} {vs : List Value} {kw : List (Str × Value)} {Pre : Heap → Prop} {R : Tok → Value}
    {dp un : Nat} {gd : Option (List Code)} {env : Env} {outer : List Env} {A₀ A : Around} {base h₀ : Heap} {L : Addr} {m : Str → Option Value} {s : Shared} {Q E : Value → Shared → Prop} {news : List (Addr × Obj)}
    (C : Pure w loose mean mg mb k f vs kw Pre R) (B : Below A₀ base outer h₀) (F : Fr h₀ L s.heap m) (X : (Mine.hd.heap_39 w.params).In h₀) (N : News h₀ L s.heap news) (T : Top Mine.hd.view_39 loose mean mg mb h₀)
    (hA : A = { handled := none, depth := dp, frames := some (env :: outer), guards := gd, units := un }) (hf : env.frame = some L) (hke : env.scope.kind = .function) (hp : Pre s.heap) (hd : dp + k < recursionLimit) (hu : un + 8 * k < cLine)
    (h : ∀ (t : Tok) (h' : Heap) (tk' : Nat), Kp s.heap h' → Fr h₀ L h' m → News h₀ L h' news → Q (R t) { s with heap := h', toks := tk' }) :
    wpAny (model PySem.Challenge.rw_qh0093_01.row.prog w) A (call (.ref f) vs kw) Q E s := by
  subst hA
  exact C dp un gd env outer A₀ base h₀ L m s Q E B F X T hf hke hp hd hu fun t h' tk' kp => h t h' tk' kp (kp.fr F) (kp.news N)
end Mine
end

section
open PySem PySem.W PyProof.Rows PySem.Calls PySem.Spec
set_option maxRecDepth 100000
set_option maxHeartbeats 4000000
namespace Mine
theorem retI {g : Heap} {s : Shared} {Q : Value → Shared → Prop} {x y : Int} {t : Tok} {h' : Heap} {tk' : Nat} (hret : ∀ (t : Tok) (h' : Heap) (tk' : Nat), Kp g h' → Q (.int x t) { s with heap := h', toks := tk' }) (k : Kp g h') (e : y = x) : Q (.int y t) { s with heap := h', toks := tk' } := by
  subst e; exact hret t h' tk' k
theorem retS {g : Heap} {s : Shared} {Q : Value → Shared → Prop} {x y : Str} {t : Tok} {h' : Heap} {tk' : Nat} (hret : ∀ (t : Tok) (h' : Heap) (tk' : Nat), Kp g h' → Q (.str x t) { s with heap := h', toks := tk' }) (k : Kp g h') (e : y = x) : Q (.str y t) { s with heap := h', toks := tk' } := by
  subst e; exact hret t h' tk' k
theorem retY {g : Heap} {s : Shared} {Q : Value → Shared → Prop} {x y : Array UInt8} {t : Tok} {h' : Heap} {tk' : Nat} (hret : ∀ (t : Tok) (h' : Heap) (tk' : Nat), Kp g h' → Q (.bytes x t) { s with heap := h', toks := tk' }) (k : Kp g h') (e : y = x) : Q (.bytes y t) { s with heap := h', toks := tk' } := by
  subst e; exact hret t h' tk' k
theorem retB {g : Heap} {s : Shared} {Q : Value → Shared → Prop} {x y : Bool} {h' : Heap} {tk' : Nat} (hret : ∀ (t : Tok) (h' : Heap) (tk' : Nat), Kp g h' → Q (.bool x) { s with heap := h', toks := tk' }) (k : Kp g h') (e : y = x) : Q (.bool y) { s with heap := h', toks := tk' } := by
  subst e; exact hret 0 h' tk' k

noncomputable def b64v (c : Int) : Int := if 65 ≤ c ∧ c ≤ 90 then c - 65 else if 97 ≤ c ∧ c ≤ 122 then c - 71 else if 48 ≤ c ∧ c ≤ 57 then c + 4 else if c = 43 then 62 else if c = 47 then 63 else 64

noncomputable def TestPost (P : Prop) [Decidable P] (s : Shared) (b : Bool) (s' : Shared) : Prop := ∃ tk : Nat, b = decide P ∧ s' = { s with toks := tk }
theorem test_join {prog : Program} {w : World} {A : Around} {E : Value → Shared → Prop} {s : Shared} {tr : Sem Bool} {Q : Bool → Shared → Prop} (P : Prop) [Decidable P] (h : wpAny (model prog w) A tr (TestPost P s) E s)
    (h1 : P → ∀ tk : Nat, Q true { s with toks := tk }) (h2 : ¬ P → ∀ tk : Nat, Q false { s with toks := tk }) : wpAny (model prog w) A tr Q E s :=
  wpAny_mono h (fun _ _ ⟨tk, e, a⟩ => by
    subst e a
    by_cases hp : P
    · rw [decide_eq_true hp]; exact h1 hp tk
    · rw [decide_eq_false hp]; exact h2 hp tk) fun _ _ e => e
theorem testPost_t {P : Prop} [Decidable P] {s : Shared} {tk : Nat} (h : P) : TestPost P s true { s with toks := tk } := ⟨tk, (decide_eq_true h).symm, rfl⟩
theorem testPost_f {P : Prop} [Decidable P] {s : Shared} {tk : Nat} (h : ¬ P) : TestPost P s false { s with toks := tk } := ⟨tk, (decide_eq_false h).symm, rfl⟩
theorem testPost_d {P R : Prop} [Decidable P] [Decidable R] {s : Shared} {tk : Nat} (h : R ↔ P) : TestPost P s (decide R) { s with toks := tk } := ⟨tk, decide_eq_decide.mpr h, rfl⟩
section
variable {c : Int}
theorem b64v_1 (h : 65 ≤ c ∧ c ≤ 90) : c - 65 = b64v c := (if_pos h).symm
theorem b64v_2 (n1 : ¬ (65 ≤ c ∧ c ≤ 90)) (h : 97 ≤ c ∧ c ≤ 122) : c - 71 = b64v c := by unfold b64v; rw [if_neg n1, if_pos h]
theorem b64v_3 (n1 : ¬ (65 ≤ c ∧ c ≤ 90)) (n2 : ¬ (97 ≤ c ∧ c ≤ 122)) (h : 48 ≤ c ∧ c ≤ 57) : c + 4 = b64v c := by unfold b64v; rw [if_neg n1, if_neg n2, if_pos h]
theorem b64v_4 (n1 : ¬ (65 ≤ c ∧ c ≤ 90)) (n2 : ¬ (97 ≤ c ∧ c ≤ 122)) (n3 : ¬ (48 ≤ c ∧ c ≤ 57)) (h : c = 43) : 62 = b64v c := by unfold b64v; rw [if_neg n1, if_neg n2, if_neg n3, if_pos h]
theorem b64v_5 (n1 : ¬ (65 ≤ c ∧ c ≤ 90)) (n2 : ¬ (97 ≤ c ∧ c ≤ 122)) (n3 : ¬ (48 ≤ c ∧ c ≤ 57)) (n4 : c ≠ 43) (h : c = 47) : 63 = b64v c := by unfold b64v; rw [if_neg n1, if_neg n2, if_neg n3, if_neg n4, if_pos h]
theorem b64v_6 (n1 : ¬ (65 ≤ c ∧ c ≤ 90)) (n2 : ¬ (97 ≤ c ∧ c ≤ 122)) (n3 : ¬ (48 ≤ c ∧ c ≤ 57)) (n4 : c ≠ 43) (n5 : c ≠ 47) : 64 = b64v c := by unfold b64v; rw [if_neg n1, if_neg n2, if_neg n3, if_neg n4, if_neg n5]
end

theorem b64_value_pure {w : World} {loose mean mg mb} (c : Int) (t : Tok) : Pure w loose mean mg mb 1 63 [.int c t] [] (fun _ => True) (fun t => .int (b64v c) t) := by
  k_with_none
  w_top off
  (k_with "LeaveP" => ((refine LeaveP.intro (by assumption) ?_); intro kP; (try dsimp only)))
  (k_with "call type:type" => ((with_reducible show wpAny _ _ (call _ [Value.bytes _ _]) _ _ _); refine call_type_of (Tx := "bytes") rfl (by decide +kernel) ?_))
  (k_with "isTrue Compare" => (k_here; (fail_if_success (with_reducible show wpAny _ _ _ (TestPost _ _) _ _)); k_dflt (first
    | ((with_reducible show wpAny _ _ (isTrue (PySem.Expr.Compare (PySem.Expr.Constant (PySem.Const.int 65) _ _) _ _ _) _ _) _ _ _); refine' test_join (65 ≤ c ∧ c ≤ 90) ?_ ?_ ?_)
    | ((with_reducible show wpAny _ _ (isTrue (PySem.Expr.Compare (PySem.Expr.Constant (PySem.Const.int 97) _ _) _ _ _) _ _) _ _ _); refine' test_join (97 ≤ c ∧ c ≤ 122) ?_ ?_ ?_)
    | ((with_reducible show wpAny _ _ (isTrue (PySem.Expr.Compare (PySem.Expr.Constant (PySem.Const.int 48) _ _) _ _ _) _ _) _ _ _); refine' test_join (48 ≤ c ∧ c ≤ 57) ?_ ?_ ?_)); rotate_left; intro hP9 tk9; (try dsimp only); rotate_left; intro hP9 tk9; (try dsimp only); rotate_left))
  (k_with "TestPost" => (k_dflt (first | (refine testPost_d ?_; omega) | (refine testPost_t ?_; omega) | (refine testPost_f ?_; omega))))
  unfold Pure
  k_fill
  intro dp un gd env outer A₀ base h₀ L m s Q E B F X T hf hke hPre hd hu hret
  refine wpAny_call ?_
  k_dflt (refine' code_pure (binds := [(Str.ofString "c", .int c t)]) B F X T rfl hf hke ?k6 ?k7 ?k8 ?k9 ?kB ?_ ?c2 ?c3 ?c4 ?c5; (case k6 => k_is); (case k7 => k_is); (case k8 => (show dp < recursionLimit; omega)); (case k9 => first | exact BindsTo.of_eq rfl | exact binds_K (by k_in) rfl (by k_is) rfl rfl rfl); (case c5 => decide); (case kB => exact locs rfl); (case c2 => exact rfl); (case c3 => exact rfl); (case c4 => exact rfl))
  intro g' L' h' hg' F' N' B' X' T'
  clear B F X T
  rw [← hg'] at hret
  (try rw [← hg'] at hPre)
  (try dsimp only)
  (repeat' (first | (k_unfold; (try dsimp only)) | (k_end; wrow_close) | ((with_reducible show wpAny _ _ (execs _ _) _ _ _); k_fold) | walk1 | (dsimp only; walk1) | (leave1; walk_say "STEP leave1"; try dsimp only) | fail "no step"))
  all_goals (refine retI hret (by assumption) ?_; first | exact b64v_1 (by assumption) | exact b64v_2 (by assumption) (by assumption) | exact b64v_3 (by assumption) (by assumption) (by assumption) | exact b64v_4 (by assumption) (by assumption) (by assumption) (by assumption) | exact b64v_5 (by assumption) (by assumption) (by assumption) (by assumption) (by assumption) | exact b64v_6 (by assumption) (by assumption) (by assumption) (by assumption) (by assumption))

theorem truth_pure {w : World} {loose mean mg mb} : Pure w loose mean mg mb 1 56 [.bool false] [] (fun _ => True) (fun _ => .bool false) := by
  k_with_none
  w_top off
  (k_with "LeaveP" => ((refine LeaveP.intro (by assumption) ?_); intro kP; (try dsimp only)))
  (k_with "call type:type" => ((with_reducible show wpAny _ _ (call _ [Value.bytes _ _]) _ _ _); refine call_type_of (Tx := "bytes") rfl (by decide +kernel) ?_))
  (k_with "isTrue Compare" => (k_here; (fail_if_success (with_reducible show wpAny _ _ _ (TestPost _ _) _ _)); k_dflt (first
    | ((with_reducible show wpAny _ _ (isTrue (PySem.Expr.Compare (PySem.Expr.Constant (PySem.Const.int 65) _ _) _ _ _) _ _) _ _ _); refine' test_join (65 ≤ c ∧ c ≤ 90) ?_ ?_ ?_)
    | ((with_reducible show wpAny _ _ (isTrue (PySem.Expr.Compare (PySem.Expr.Constant (PySem.Const.int 97) _ _) _ _ _) _ _) _ _ _); refine' test_join (97 ≤ c ∧ c ≤ 122) ?_ ?_ ?_)
    | ((with_reducible show wpAny _ _ (isTrue (PySem.Expr.Compare (PySem.Expr.Constant (PySem.Const.int 48) _ _) _ _ _) _ _) _ _ _); refine' test_join (48 ≤ c ∧ c ≤ 57) ?_ ?_ ?_)); rotate_left; intro hP9 tk9; (try dsimp only); rotate_left; intro hP9 tk9; (try dsimp only); rotate_left))
  (k_with "TestPost" => (k_dflt (first | (refine testPost_d ?_; omega) | (refine testPost_t ?_; omega) | (refine testPost_f ?_; omega))))
  unfold Pure
  k_fill
  intro dp un gd env outer A₀ base h₀ L m s Q E B F X T hf hke hPre hd hu hret
  refine wpAny_call ?_
  k_dflt (refine' code_pure (binds := [(Str.ofString "x", .bool false)]) B F X T rfl hf hke ?k6 ?k7 ?k8 ?k9 ?kB ?_ ?c2 ?c3 ?c4 ?c5; (case k6 => k_is); (case k7 => k_is); (case k8 => (show dp < recursionLimit; omega)); (case k9 => first | exact BindsTo.of_eq rfl | exact binds_K (by k_in) rfl (by k_is) rfl rfl rfl); (case c5 => decide); (case kB => exact locs rfl); (case c2 => exact rfl); (case c3 => exact rfl); (case c4 => exact rfl))
  intro g' L' h' hg' F' N' B' X' T'
  clear B F X T
  rw [← hg'] at hret
  (try rw [← hg'] at hPre)
  (try dsimp only)
  (repeat' (first | (k_unfold; (try dsimp only)) | (k_end; wrow_close) | ((with_reducible show wpAny _ _ (execs _ _) _ _ _); k_fold) | walk1 | (dsimp only; walk1) | (leave1; walk_say "STEP leave1"; try dsimp only) | fail "no step"))
  all_goals (refine retB hret (by assumption) ?_; rfl)

theorem ascii_buffer_pure {w : World} {loose mean mg mb} (b : Array UInt8) (t : Tok) : Pure w loose mean mg mb 1 49 [.bytes b t] [] (fun _ => True) (fun t => .bytes b t) := by
  k_with_none
  w_top off
  (k_with "LeaveP" => ((refine LeaveP.intro (by assumption) ?_); intro kP; (try dsimp only)))
  (k_with "call type:type" => ((with_reducible show wpAny _ _ (call _ [Value.bytes _ _]) _ _ _); refine call_type_of (Tx := "bytes") rfl (by decide +kernel) ?_))
  (k_with "isTrue Compare" => (k_here; (fail_if_success (with_reducible show wpAny _ _ _ (TestPost _ _) _ _)); k_dflt (first
    | ((with_reducible show wpAny _ _ (isTrue (PySem.Expr.Compare (PySem.Expr.Constant (PySem.Const.int 65) _ _) _ _ _) _ _) _ _ _); refine' test_join (65 ≤ c ∧ c ≤ 90) ?_ ?_ ?_)
    | ((with_reducible show wpAny _ _ (isTrue (PySem.Expr.Compare (PySem.Expr.Constant (PySem.Const.int 97) _ _) _ _ _) _ _) _ _ _); refine' test_join (97 ≤ c ∧ c ≤ 122) ?_ ?_ ?_)
    | ((with_reducible show wpAny _ _ (isTrue (PySem.Expr.Compare (PySem.Expr.Constant (PySem.Const.int 48) _ _) _ _ _) _ _) _ _ _); refine' test_join (48 ≤ c ∧ c ≤ 57) ?_ ?_ ?_)); rotate_left; intro hP9 tk9; (try dsimp only); rotate_left; intro hP9 tk9; (try dsimp only); rotate_left))
  (k_with "TestPost" => (k_dflt (first | (refine testPost_d ?_; omega) | (refine testPost_t ?_; omega) | (refine testPost_f ?_; omega))))
  unfold Pure
  k_fill
  intro dp un gd env outer A₀ base h₀ L m s Q E B F X T hf hke hPre hd hu hret
  refine wpAny_call ?_
  k_dflt (refine' code_pure (binds := [(Str.ofString "data", .bytes b t)]) B F X T rfl hf hke ?k6 ?k7 ?k8 ?k9 ?kB ?_ ?c2 ?c3 ?c4 ?c5; (case k6 => k_is); (case k7 => k_is); (case k8 => (show dp < recursionLimit; omega)); (case k9 => first | exact BindsTo.of_eq rfl | exact binds_K (by k_in) rfl (by k_is) rfl rfl rfl); (case c5 => decide); (case kB => exact locs rfl); (case c2 => exact rfl); (case c3 => exact rfl); (case c4 => exact rfl))
  intro g' L' h' hg' F' N' B' X' T'
  clear B F X T
  rw [← hg'] at hret
  (try rw [← hg'] at hPre)
  (try dsimp only)
  (repeat' (first | (k_unfold; (try dsimp only)) | (k_end; wrow_close) | ((with_reducible show wpAny _ _ (execs _ _) _ _ _); k_fold) | walk1 | (dsimp only; walk1) | (leave1; walk_say "STEP leave1"; try dsimp only) | fail "no step"))
  all_goals (refine retY hret (by assumption) ?_; rfl)

theorem S_IFMT_pure {w : World} {loose mean mg mb} (c : Int) (t : Tok) : Pure w loose mean mg mb 1 86 [.int c t] [] (fun _ => True) (fun t => .int (Builtin.bitAnd c 61440) t) := by
  k_with_none
  w_top off
  (k_with "LeaveP" => ((refine LeaveP.intro (by assumption) ?_); intro kP; (try dsimp only)))
  (k_with "call type:type" => ((with_reducible show wpAny _ _ (call _ [Value.bytes _ _]) _ _ _); refine call_type_of (Tx := "bytes") rfl (by decide +kernel) ?_))
  (k_with "isTrue Compare" => (k_here; (fail_if_success (with_reducible show wpAny _ _ _ (TestPost _ _) _ _)); k_dflt (first
    | ((with_reducible show wpAny _ _ (isTrue (PySem.Expr.Compare (PySem.Expr.Constant (PySem.Const.int 65) _ _) _ _ _) _ _) _ _ _); refine' test_join (65 ≤ c ∧ c ≤ 90) ?_ ?_ ?_)
    | ((with_reducible show wpAny _ _ (isTrue (PySem.Expr.Compare (PySem.Expr.Constant (PySem.Const.int 97) _ _) _ _ _) _ _) _ _ _); refine' test_join (97 ≤ c ∧ c ≤ 122) ?_ ?_ ?_)
    | ((with_reducible show wpAny _ _ (isTrue (PySem.Expr.Compare (PySem.Expr.Constant (PySem.Const.int 48) _ _) _ _ _) _ _) _ _ _); refine' test_join (48 ≤ c ∧ c ≤ 57) ?_ ?_ ?_)); rotate_left; intro hP9 tk9; (try dsimp only); rotate_left; intro hP9 tk9; (try dsimp only); rotate_left))
  (k_with "TestPost" => (k_dflt (first | (refine testPost_d ?_; omega) | (refine testPost_t ?_; omega) | (refine testPost_f ?_; omega))))
  unfold Pure
  k_fill
  intro dp un gd env outer A₀ base h₀ L m s Q E B F X T hf hke hPre hd hu hret
  refine wpAny_call ?_
  k_dflt (refine' code_pure (binds := [(Str.ofString "mode", .int c t)]) B F X T rfl hf hke ?k6 ?k7 ?k8 ?k9 ?kB ?_ ?c2 ?c3 ?c4 ?c5; (case k6 => k_is); (case k7 => k_is); (case k8 => (show dp < recursionLimit; omega)); (case k9 => first | exact BindsTo.of_eq rfl | exact binds_K (by k_in) rfl (by k_is) rfl rfl rfl); (case c5 => decide); (case kB => exact locs rfl); (case c2 => exact rfl); (case c3 => exact rfl); (case c4 => exact rfl))
  intro g' L' h' hg' F' N' B' X' T'
  clear B F X T
  rw [← hg'] at hret
  (try rw [← hg'] at hPre)
  (try dsimp only)
  (repeat' (first | (k_unfold; (try dsimp only)) | (k_end; wrow_close) | ((with_reducible show wpAny _ _ (execs _ _) _ _ _); k_fold) | walk1 | (dsimp only; walk1) | (leave1; walk_say "STEP leave1"; try dsimp only) | fail "no step"))
  all_goals (refine retI hret (by assumption) rfl)
end Mine
end

section
open PySem PySem.W PyProof.Rows PySem.Calls PySem.Spec
namespace Mine
theorem bitOr_nat (a b : Nat) : Builtin.bitOr (a : Int) (b : Int) = ((a ||| b : Nat) : Int) := by
  have h1 : ¬ (0 ≤ Builtin.bitNot (a : Int)) := by unfold Builtin.bitNot; omega
  have h2 : ¬ (0 ≤ Builtin.bitNot (b : Int)) := by unfold Builtin.bitNot; omega
  unfold Builtin.bitOr Builtin.bitAnd
  rw [decide_eq_false h1, decide_eq_false h2]
  show Builtin.bitNot (Builtin.bitNot _) = _
  have e : ∀ x : Int, Builtin.bitNot (Builtin.bitNot x) = x := fun x => by unfold Builtin.bitNot; omega
  rw [e, e, e]
  rfl
theorem bitOr_low (k : Nat) {a b : Int} (ha : 0 ≤ a) (hb : 0 ≤ b) (hlt : b < 2 ^ k) : Builtin.bitOr (a * 2 ^ k) b = a * 2 ^ k + b := by
  obtain ⟨m, rfl⟩ := Int.eq_ofNat_of_zero_le ha
  obtain ⟨n, rfl⟩ := Int.eq_ofNat_of_zero_le hb
  have hn : n < 2 ^ k := by
    have : ((n : Nat) : Int) < ((2 ^ k : Nat) : Int) := by simpa using hlt
    exact Int.ofNat_lt.mp this
  have e : ((m : Int) * 2 ^ k) = ((2 ^ k * m : Nat) : Int) := by rw [Nat.mul_comm]; simp
  rw [e, bitOr_nat, ← Nat.two_pow_add_eq_or_of_lt hn]
  simp

noncomputable def a2bStep (st : List Int × Int × Int × Int) (c : Int) : List Int × Int × Int × Int :=
  if c = 61 then (st.1, st.2.1, st.2.2.1, st.2.2.2 + 1) else if 64 ≤ b64v c then st
  else if st.2.1 = 0 then (st.1, 1, b64v c, 0) else if st.2.1 = 1 then (st.1 ++ [st.2.2.1 * 4 + b64v c / 16], 2, b64v c % 16, 0)
  else if st.2.1 = 2 then (st.1 ++ [st.2.2.1 * 16 + b64v c / 4], 3, b64v c % 4, 0) else (st.1 ++ [st.2.2.1 * 64 + b64v c], 0, 0, 0)
theorem b64v_nonneg (c : Int) : 0 ≤ b64v c := by unfold b64v; (repeat' split) <;> omega
theorem b64v_le (c : Int) : b64v c ≤ 64 := by unfold b64v; (repeat' split) <;> omega
/-- the letters of a2b's loop -/
noncomputable def A2I (pre out : List Int) (q l p : Int) : Prop := (∀ x ∈ out, 0 ≤ x ∧ x < 256) ∧ (q = 1 → l < 64) ∧ (q = 2 → l < 16) ∧ (q = 3 → l < 4) ∧ (out, q, l, p) = pre.foldl a2bStep ([], 0, 0, 0)
noncomputable abbrev A2P (pre out : List Int) (q l p : Int) : Prop := 0 ≤ q ∧ q ≤ 3 ∧ 0 ≤ l ∧ l < 64 ∧ 0 ≤ p ∧ out.length ≤ pre.length ∧ A2I pre out q l p
theorem a2b_start : A2P [] [] 0 0 0 := by
  refine ⟨by omega, by omega, by omega, by omega, by omega, Nat.le_refl _, ?_⟩
  unfold A2I
  simp
theorem oct1 {l v : Int} (h2 : 0 ≤ l) (h3 : l < 64) (v0 : 0 ≤ v) (v1 : v < 64) : 0 ≤ l * 4 + v / 16 ∧ l * 4 + v / 16 < 256 := by omega
theorem oct2 {l v : Int} (h2 : 0 ≤ l) (h3 : l < 16) (v0 : 0 ≤ v) (v1 : v < 64) : 0 ≤ l * 16 + v / 4 ∧ l * 16 + v / 4 < 256 := by omega
theorem oct3 {l v : Int} (h2 : 0 ≤ l) (h3 : l < 4) (v0 : 0 ≤ v) (v1 : v < 64) : 0 ≤ l * 64 + v ∧ l * 64 + v < 256 := by omega
theorem in_more {out : List Int} {y : Int} (hx : ∀ x ∈ out, 0 ≤ x ∧ x < 256) (hy : 0 ≤ y ∧ y < 256) : ∀ x ∈ out ++ [y], 0 ≤ x ∧ x < 256 := fun x hm => (List.mem_append.mp hm).elim (hx x) fun hm => List.mem_singleton.mp hm ▸ hy
theorem mod_in (v : Int) {k : Int} (hk : 0 < k) : 0 ≤ v % k ∧ v % k < k := ⟨Int.emod_nonneg _ (Int.ne_of_gt hk), Int.emod_lt_of_pos _ hk⟩
theorem q_three {q : Int} (h0 : 0 ≤ q) (h1 : q ≤ 3) (n0 : q ≠ 0) (n1 : q ≠ 1) (n2 : q ≠ 2) : q = 3 :=
  have st : ∀ {a : Int}, a ≤ q → q ≠ a → a + 1 ≤ q := fun h g => Int.lt_iff_le_and_ne.mpr ⟨h, Ne.symm g⟩
  Int.le_antisymm h1 (st (st (st h0 n0) n1) n2)
theorem len_more {pre out : List Int} {n : Int} (h : out.length ≤ pre.length) : out.length ≤ (pre ++ [n]).length := Nat.le_trans h (by rw [List.length_append]; exact Nat.le_add_right ..)
theorem len_both {pre out : List Int} {n y : Int} (h : out.length ≤ pre.length) : (out ++ [y]).length ≤ (pre ++ [n]).length := by rw [List.length_append, List.length_append]; exact Nat.add_le_add_right h 1
noncomputable def okInt (k : Int) : Prop := k ≠ 61 ∧ b64v k < 64
theorem st_q0 {out : List Int} {l p k : Int} (h : okInt k) : a2bStep (out, 0, l, p) k = (out, 1, b64v k, 0) := by
  unfold a2bStep; rw [if_neg h.1, if_neg (Int.not_le.mpr h.2), if_pos rfl]
theorem st_q1 {out : List Int} {l p k : Int} (h : okInt k) : a2bStep (out, 1, l, p) k = (out ++ [l * 4 + b64v k / 16], 2, b64v k % 16, 0) := by
  unfold a2bStep; rw [if_neg h.1, if_neg (Int.not_le.mpr h.2), if_neg (show ¬ ((1 : Int) = 0) by decide), if_pos rfl]
theorem st_q2 {out : List Int} {l p k : Int} (h : okInt k) : a2bStep (out, 2, l, p) k = (out ++ [l * 16 + b64v k / 4], 3, b64v k % 4, 0) := by
  unfold a2bStep; rw [if_neg h.1, if_neg (Int.not_le.mpr h.2), if_neg (show ¬ ((2 : Int) = 0) by decide), if_neg (show ¬ ((2 : Int) = 1) by decide), if_pos rfl]
theorem st_q3 {out : List Int} {l p k : Int} (h : okInt k) : a2bStep (out, 3, l, p) k = (out ++ [l * 64 + b64v k], 0, 0, 0) := by
  unfold a2bStep; rw [if_neg h.1, if_neg (Int.not_le.mpr h.2), if_neg (show ¬ ((3 : Int) = 0) by decide), if_neg (show ¬ ((3 : Int) = 1) by decide), if_neg (show ¬ ((3 : Int) = 2) by decide)]
theorem st_pad {out : List Int} {q l p : Int} : a2bStep (out, q, l, p) 61 = (out, q, l, p + 1) := by
  unfold a2bStep; rw [if_pos rfl]
theorem st_junk {st : List Int × Int × Int × Int} {k : Int} (h : k ≠ 61) (h2 : 64 ≤ b64v k) : a2bStep st k = st := by
  unfold a2bStep; rw [if_neg h, if_pos h2]
theorem a2b_put {pre out o' : List Int} {q l p n q' l' p' : Int} {st : List Int × Int × Int × Int} (es : a2bStep (out, q, l, p) n = st) (hf : (out, q, l, p) = pre.foldl a2bStep ([], 0, 0, 0)) (e : a2bStep (out, q, l, p) n = (o', q', l', p'))
    (hq0 : 0 ≤ q') (hq3 : q' ≤ 3) (hl0 : 0 ≤ l') (hl : l' < 64) (hp : 0 ≤ p') (hlen : o'.length ≤ (pre ++ [n]).length) (hx : ∀ x ∈ o', 0 ≤ x ∧ x < 256) (h2 : q' = 2 → l' < 16) (h3 : q' = 3 → l' < 4) : A2P (pre ++ [n]) st.1 st.2.1 st.2.2.1 st.2.2.2 := by
  rw [← es, e]
  exact ⟨hq0, hq3, hl0, hl, hp, hlen, hx, fun _ => hl, h2, h3, by rw [List.foldl_append, ← hf]; exact e.symm⟩
theorem no_int {a b : Int} {P : Prop} (h : decide (a = b) = false) (e : a = b) : P := absurd e (of_decide_eq_false h)
theorem a2b_next {pre out : List Int} {q l p n : Int} {st : List Int × Int × Int × Int} (h0 : 0 ≤ q) (h1 : q ≤ 3) (h2 : 0 ≤ l) (h3 : l < 64) (h4 : 0 ≤ p) (h5 : out.length ≤ pre.length) (h : A2I pre out q l p)
    (e : a2bStep (out, q, l, p) n = st) : A2P (pre ++ [n]) st.1 st.2.1 st.2.2.1 st.2.2.2 := by
  obtain ⟨hx, hq1, hq2, hq3, hf⟩ := h
  have v0 := b64v_nonneg n
  by_cases e1 : n = 61
  · exact a2b_put e hf (e1 ▸ st_pad) h0 h1 h2 h3 (Int.add_nonneg h4 (by decide)) (len_more h5) hx hq2 hq3
  by_cases e2 : 64 ≤ b64v n
  · exact a2b_put e hf (st_junk e1 e2) h0 h1 h2 h3 h4 (len_more h5) hx hq2 hq3
  have v1 : b64v n < 64 := Int.not_le.mp e2
  by_cases q0 : q = 0
  · exact a2b_put (q' := 1) (p' := 0) e hf (by rw [q0]; exact st_q0 ⟨e1, v1⟩) (by decide) (by decide) v0 v1 (by decide) (len_more h5) hx (no_int rfl) (no_int rfl)
  by_cases q1 : q = 1
  · have m := mod_in (b64v n) (k := 16) (by decide)
    exact a2b_put (q' := 2) (p' := 0) e hf (by rw [q1]; exact st_q1 ⟨e1, v1⟩) (by decide) (by decide) m.1 (Int.lt_trans m.2 (by decide)) (by decide) (len_both h5) (in_more hx (oct1 h2 h3 v0 v1)) (fun _ => m.2) (no_int rfl)
  by_cases q2 : q = 2
  · have m := mod_in (b64v n) (k := 4) (by decide)
    exact a2b_put (q' := 3) (p' := 0) e hf (by rw [q2]; exact st_q2 ⟨e1, v1⟩) (by decide) (by decide) m.1 (Int.lt_trans m.2 (by decide)) (by decide) (len_both h5) (in_more hx (oct2 h2 (hq2 q2) v0 v1)) (no_int rfl) (fun _ => m.2)
  have q3 := q_three h0 h1 q0 q1 q2
  exact a2b_put (q' := 0) (l' := 0) (p' := 0) e hf (by rw [q3]; exact st_q3 ⟨e1, v1⟩) (by decide) (by decide) (by decide) (by decide) (by decide) (len_both h5) (in_more hx (oct3 h2 (hq3 q3) v0 v1)) (no_int rfl) (no_int rfl)
/-- the bits as the model writes them -/
theorem a2b_bits {l v : Int} (hl : 0 ≤ l) (h0 : 0 ≤ v) (h1 : ¬ 64 ≤ v) : Builtin.bitOr (l * 2 ^ Int.toNat 2) (v.fdiv (2 ^ Int.toNat 4)) = l * 4 + v / 16 ∧ Builtin.bitOr (l * 2 ^ Int.toNat 4) (v.fdiv (2 ^ Int.toNat 2)) = l * 16 + v / 4 ∧ Builtin.bitOr (l * 2 ^ Int.toNat 6) v = l * 64 + v := by
  have e4 : v.fdiv (2 ^ Int.toNat 4) = v / 16 := by rw [Int.fdiv_eq_ediv_of_nonneg _ (by decide)]; rfl
  have e2 : v.fdiv (2 ^ Int.toNat 2) = v / 4 := by rw [Int.fdiv_eq_ediv_of_nonneg _ (by decide)]; rfl
  rw [e4, e2]
  exact ⟨bitOr_low 2 hl (by omega) (by show v / 16 < 4; omega), bitOr_low 4 hl (by omega) (by show v / 4 < 16; omega), bitOr_low 6 hl h0 (by show v < 64; omega)⟩
section
variable {out : List Int} {q l p n : Int}
theorem s_pad (h : n = 61) : a2bStep (out, q, l, p) n = (out, q, l, p + 1) := by unfold a2bStep; rw [if_pos h]
theorem s_junk (h : n ≠ 61) (hv : 64 ≤ b64v n) : a2bStep (out, q, l, p) n = (out, q, l, p) := by unfold a2bStep; rw [if_neg h, if_pos hv]
theorem s_q0 (h : n ≠ 61) (hv : ¬ 64 ≤ b64v n) (hq : q = 0) : a2bStep (out, q, l, p) n = (out, 1, b64v n, 0) := by unfold a2bStep; rw [if_neg h, if_neg hv, if_pos hq]
theorem s_q1 (h : n ≠ 61) (hv : ¬ 64 ≤ b64v n) (hl : 0 ≤ l) (hq : q = 1) : a2bStep (out, q, l, p) n = (out ++ [Builtin.bitOr (l * 2 ^ Int.toNat 2) ((b64v n).fdiv (2 ^ Int.toNat 4))], 2, Builtin.bitAnd (b64v n) 15, 0) := by
  unfold a2bStep
  rw [(a2b_bits hl (b64v_nonneg n) hv).1, bitAnd_m4, if_neg h, if_neg hv, if_neg (by dsimp only; omega), if_pos hq]
theorem s_q2 (h : n ≠ 61) (hv : ¬ 64 ≤ b64v n) (hl : 0 ≤ l) (hq : q = 2) : a2bStep (out, q, l, p) n = (out ++ [Builtin.bitOr (l * 2 ^ Int.toNat 4) ((b64v n).fdiv (2 ^ Int.toNat 2))], 3, Builtin.bitAnd (b64v n) 3, 0) := by
  unfold a2bStep
  rw [(a2b_bits hl (b64v_nonneg n) hv).2.1, bitAnd_m2, if_neg h, if_neg hv, if_neg (by dsimp only; omega), if_neg (by dsimp only; omega), if_pos hq]
theorem s_q3 (h : n ≠ 61) (hv : ¬ 64 ≤ b64v n) (hl : 0 ≤ l) (h0 : q ≠ 0) (h1 : q ≠ 1) (h2 : q ≠ 2) : a2bStep (out, q, l, p) n = (out ++ [Builtin.bitOr (l * 2 ^ Int.toNat 6) (b64v n)], 0, 0, 0) := by
  unfold a2bStep
  rw [(a2b_bits hl (b64v_nonneg n) hv).2.2, if_neg h, if_neg hv, if_neg h0, if_neg h1, if_neg h2]
end
/-- what a2b_base64 makes of octets: the octets out, the place in the four, what is left, the pads behind -/
noncomputable def a2bEnd (ks : List Int) : List Int × Int × Int × Int := ks.foldl a2bStep ([], 0, 0, 0)
end Mine
end
local macro_rules | `(tactic| kst_facts1) => `(tactic| exact PyProof.Rows.IntsAre.nil)

section
open PySem PySem.W PyProof.Rows PySem.Calls PySem.Spec
set_option maxRecDepth 100000
set_option maxHeartbeats 4000000
namespace Mine


theorem a2b_pure {w : World} {loose mean mg mb} (b : Array UInt8) (t : Tok) (hb : b.toList.length ≤ 1000) (hq1 : (a2bEnd (b.toList.map fun c => (c.toNat : Int))).2.1 ≠ 1)
    (hq2 : (a2bEnd (b.toList.map fun c => (c.toNat : Int))).2.1 = 0 ∨ 4 ≤ (a2bEnd (b.toList.map fun c => (c.toNat : Int))).2.1 + (a2bEnd (b.toList.map fun c => (c.toNat : Int))).2.2.2) :
    Pure w loose mean mg mb 2 71 [.bytes b t] [(Str.ofString "strict_mode", .bool false)] (fun _ => True) (fun t => .bytes (byteArr (a2bEnd (b.toList.map fun c => (c.toNat : Int))).1) t) := by
  k_with_none
  w_top off
  (k_with "LeaveP" => ((refine LeaveP.intro (by assumption) ?_); intro kP; (try dsimp only)))
  (k_with "call type:type" => ((with_reducible show wpAny _ _ (call _ [Value.bytes _ _]) _ _ _); refine call_type_of (Tx := "bytes") rfl (by decide +kernel) ?_))
  (k_with "call ref" => (
    k_here
    k_dflt (first
    | ((with_reducible show wpAny _ _ (call (Value.ref 63) _ _) _ _ _); refine' Pure.use (b64_value_pure _ _) ?k1 ?k2 ?k3 ?k4 ?k5 rfl ?k6 ?k7 ?k8 ?k9 ?kU ?_)
    | ((with_reducible show wpAny _ _ (call (Value.ref 56) _ _) _ _ _); refine' Pure.use truth_pure ?k1 ?k2 ?k3 ?k4 ?k5 rfl ?k6 ?k7 ?k8 ?k9 ?kU ?_)
    | ((with_reducible show wpAny _ _ (call (Value.ref 49) _ _) _ _ _); refine' Pure.use (ascii_buffer_pure _ _) ?k1 ?k2 ?k3 ?k4 ?k5 rfl ?k6 ?k7 ?k8 ?k9 ?kU ?_)
    | ((with_reducible show wpAny _ _ (call (Value.ref 86) _ _) _ _ _); refine' Pure.use (S_IFMT_pure _ _) ?k1 ?k2 ?k3 ?k4 ?k5 rfl ?k6 ?k7 ?k8 ?k9 ?kU ?_))
    (case k1 => k_asm); (case k2 => k_asm); (case k3 => k_asm); (case k4 => k_asm); (case k5 => k_asm); (case k6 => exact rfl); (case k7 => first | exact rfl | assumption); (case k8 => trivial); (case k9 => (first | decide | omega | ktr_room)); (case kU => (first | decide | omega | ktr_units))
    intro t9 h9 tk9 K9 F9 N9; clear K9; (try dsimp only)))
  (k_with "call builtin:list.append" => (k_here; (with_reducible show wpAny _ _ (call (Value.builtin _) [Value.ref _, _]) _ _ _); k_dflt (refine' append_K ?k1 ?k2 ?k3 ?_ ?z; (case k1 => k_asm); (case k2 => k_asm); (case k3 => k_upd); (case z => ((try simp only [List.size_toArray]); rw [PySem.sizeLine_eq]; omega)); k_whole); intro h' F' N'; (try k_sweep)))
  (k_with "call type:bytes" => (
    k_here
    (with_reducible show wpAny _ _ (call (Value.type "bytes") [Value.ref _]) _ _ _)
    (with_reducible rename Fr _ _ _ _ => qF); (with_reducible rename News _ _ _ _ => qN)
    refine' call_bytes_ints ?k1 ?k2 ?k3 ?k4 rfl ?_
    (case k1 => exact News.isList qN (by k_mem)); (case k2 => assumption); (case k3 => assumption); (case k4 => (rw [PySem.sizeLine_eq]; omega))
    intro h9 t9 tk9 K9; have F9 := Kp.fr K9 qF; have N9 := Kp.news K9 qN; clear K9 qF qN; (try dsimp only)))
  (k_with "exec Raise some none" => (exfalso; omega))
  (k_with "InvEndN" => (k_dflt kst_close))
  (k_with "isTrue BoolOp" => (k_here; (fail_if_success (with_reducible show wpAny _ _ _ (TestPost _ _) _ _)); (with_reducible show wpAny _ _ (isTrue (PySem.Expr.BoolOp PySem.BoolOp.And [PySem.Expr.Name _ _, PySem.Expr.Name _ _] _) _ _) _ _ _); k_dflt (refine' test_join False ?_ (fun h => h.elim) ?_); rotate_left; intro hP9 tk9; clear hP9; (try dsimp only); rotate_left))
  (k_with "TestPost" => (k_dflt (exact testPost_f (fun h => h))))
  unfold Pure
  k_fill
  intro dp un gd env outer A₀ base h₀ L m s Q E B F X T hf hke hPre hd hu hret
  refine wpAny_call ?_
  k_dflt (refine' code_pure (binds := [(Str.ofString "data", .bytes b t), (Str.ofString "strict_mode", .bool false)]) B F X T rfl hf hke ?k6 ?k7 ?k8 ?k9 ?kB ?_ ?c2 ?c3 ?c4 ?c5; (case k6 => k_is); (case k7 => k_is); (case k8 => (show dp < recursionLimit; omega)); (case k9 => first | exact BindsTo.of_eq rfl | exact binds_K (by k_in) rfl (by k_is) rfl rfl rfl); (case c5 => decide); (case kB => exact locs rfl); (case c2 => exact rfl); (case c3 => exact rfl); (case c4 => exact rfl))
  intro g' L' h' hg' F' N' B' X' T'
  clear B F X T
  rw [← hg'] at hret
  (try rw [← hg'] at hPre)
  (try dsimp only)
  (k_with "pyIter bytes" => fail)
  (repeat' (first | (k_unfold; (try dsimp only)) | (k_end; wrow_close) | ((with_reducible show wpAny _ _ (execs _ _) _ _ _); k_fold) | walk1 | (dsimp only; walk1) | (leave1; walk_say "STEP leave1"; try dsimp only) | fail "no step"))
  (k_with "state" => first
    | exact a2b_start
    | ((rename A2I _ _ _ _ _ => hA); first
      | exact a2b_next (by assumption) (by assumption) (by assumption) (by assumption) (by assumption) (by assumption) hA (s_pad (by assumption))
      | exact a2b_next (by assumption) (by assumption) (by assumption) (by assumption) (by assumption) (by assumption) hA (s_junk (by assumption) (by assumption))
      | exact a2b_next (by assumption) (by assumption) (by assumption) (by assumption) (by assumption) (by assumption) hA (s_q0 (by assumption) (by assumption) (by assumption))
      | exact a2b_next (by assumption) (by assumption) (by assumption) (by assumption) (by assumption) (by assumption) hA (s_q1 (by assumption) (by assumption) (by assumption) (by assumption))
      | exact a2b_next (by assumption) (by assumption) (by assumption) (by assumption) (by assumption) (by assumption) hA (s_q2 (by assumption) (by assumption) (by assumption) (by assumption))
      | exact a2b_next (by assumption) (by assumption) (by assumption) (by assumption) (by assumption) (by assumption) hA (s_q3 (by assumption) (by assumption) (by assumption) (by assumption) (by assumption) (by assumption))))
  k_state (fun pre out q l p i => A2P pre out q l p) "out" "quad_pos" "leftchar" "pads" "i"
  · skip
    (repeat' (first | (k_unfold; (try dsimp only)) | (k_end; wrow_close) | ((with_reducible show wpAny _ _ (execs _ _) _ _ _); k_fold) | walk1 | (dsimp only; walk1) | (leave1; walk_say "STEP leave1"; try dsimp only) | fail "no step"))
  · rename A2I _ _ _ _ _ => hA
    obtain ⟨hx, _, _, _, hf⟩ := hA
    rw [show a2bEnd (b.toList.map fun c => (c.toNat : Int)) = _ from hf.symm] at hq1 hq2 hret
    dsimp only at hq1 hq2 hret
    (repeat' (first | (k_unfold; (try dsimp only)) | (k_end; wrow_close) | ((with_reducible show wpAny _ _ (execs _ _) _ _ _); k_fold) | walk1 | (dsimp only; walk1) | (leave1; walk_say "STEP leave1"; try dsimp only) | fail "no step"))
    all_goals (refine retY hret (by assumption) rfl)
end Mine
end

section
open PySem PySem.W PyProof.Rows PySem.Calls PySem.Spec
namespace Mine
open Builtin._codecs
theorem forIn_two {β : Type} (n : Nat) (b b' : β) (f : Nat → β → Sem (ForInStep β)) (h1 : n ≠ 0 → ∀ i, f i b = pure (.yield b')) (h2 : ∀ i, f i b' = pure (.done b')) : forIn [0:n] b f = if n = 0 then pure b else pure b' := by
  rw [Std.Legacy.Range.forIn_eq_forIn_range', show [0:n].size = n by simp [Std.Legacy.Range.size]]
  cases n with
  | zero => rfl
  | succ n =>
    have e1 := h1 (Nat.succ_ne_zero n)
    cases n with
    | zero => exact (List.forIn_cons ..).trans (by rw [e1]; rfl)
    | succ n =>
      rw [List.range'_succ, List.range'_succ, List.forIn_cons, e1]
      exact (List.forIn_cons ..).trans (by rw [h2]; rfl)
theorem foldl_bytes (xs : List Nat) (acc : Array UInt8) : xs.foldl (fun acc y => acc ++ (asciiCodec.bytesOf y).toArray) acc = acc ++ (xs.map (·.toUInt8)).toArray := by
  induction xs generalizing acc with
  | nil => simp
  | cons x r ih => rw [List.foldl_cons, ih]; simp [asciiCodec]
theorem ascii_turn (s : Str) (hb : ∀ c ∈ s.cps, asciiCodec.bad c = false) : ((s.cps.extract 0 s.cps.size).extract 0 (((s.cps.extract 0 s.cps.size).findIdx? asciiCodec.bad).getD (s.cps.extract 0 s.cps.size).size)).foldl (fun acc y => acc ++ (asciiCodec.bytesOf y).toArray) #[] = s.cps.map (·.toUInt8)
    ∧ ((s.cps.extract 0 s.cps.size).findIdx? asciiCodec.bad).getD (s.cps.extract 0 s.cps.size).size = s.length := by
  have hf : s.cps.findIdx? asciiCodec.bad = none := Array.findIdx?_eq_none_iff.mpr hb
  rw [Array.extract_size, hf, Option.getD_none, Array.extract_size]
  refine ⟨?_, rfl⟩
  rw [← Array.foldl_toList, foldl_bytes, ← Array.toList_map, Array.toArray_toList, Array.empty_append]
theorem encodeNarrow_ascii (id : String) (self : Value) (s : Str) (h : ∀ c ∈ s.cps, c < 128) (hz : s.length ≤ sizeLine) : encodeNarrow id asciiCodec none self s = pure (s.cps.map (·.toUInt8)) := by
  have hb : ∀ c ∈ s.cps, asciiCodec.bad c = false := fun c hc => by simp [asciiCodec]; exact h c hc
  have ht := ascii_turn s hb
  refine (congrArg (fun z => z >>= _) (forIn_two (β := Nat × Array UInt8 × Faults) s.length (0, #[], {}) (s.length, s.cps.map (·.toUInt8), {}) _ ?h1 ?h2)).trans ?_
  case h1 =>
    intro hn i
    obtain ⟨x, hx⟩ : ∃ x, s.cps[0]? = some x := ⟨_, Array.getElem?_eq_getElem (Nat.pos_of_ne_zero hn)⟩
    refine (if_neg (Nat.not_lt_zero _)).trans ?_
    refine hx ▸ ?_
    refine (if_pos (by rw [hb x (Array.mem_of_getElem? hx)]; rfl)).trans ?_
    refine congrArg (fun z => pure (ForInStep.yield z)) ?_
    exact Prod.ext ((Nat.zero_add _).trans ht.2) (Prod.ext ht.1 rfl)
  case h2 =>
    intro i
    refine (if_neg (fun g => Nat.not_lt.mpr hz (by rw [Array.size_map] at g; exact g))).trans ?_
    have hx : s.cps[s.length]? = none := Array.getElem?_eq_none (Nat.le_refl _)
    exact hx ▸ rfl
  by_cases h0 : s.length = 0
  · rw [if_pos h0]
    have : s.cps = #[] := Array.eq_empty_of_size_eq_zero h0
    rw [this, Array.map_empty]; rfl
  · rw [if_neg h0]; rfl
theorem road_ascii (id : String) (self : Value) (x : Str) (errors : Option Str) : encodeRoad id self x (Str.ofString "ascii") errors = (do mkBytes (← encodeNarrow id asciiCodec errors self x)) := by
  first | rfl | (unfold encodeRoad; rfl) | (unfold encodeRoad; simp only []; rfl)
theorem encode_tree2 (x : Str) (t u : Tok) : Builtin.«str.encode» ⟨[.str x t, .str (Str.ofString "ascii") u], []⟩ = (do ret (← encodeRoad "str.encode" (.str x t) x (Str.ofString "ascii") none)) := by
  first | rfl | kernel_rfl
noncomputable def ascii (x : Str) : Array UInt8 := x.cps.map (·.toUInt8)
theorem meets_encode {x : Str} {t u : Tok} (h : ∀ c ∈ x.cps, c < 128) (hz : x.length ≤ sizeLine) :
    Meets (Builtin.«str.encode» ⟨[.str x t, .str (Str.ofString "ascii") u], []⟩) (fun _ R s => ∀ t' k, R (.ok (.ret (.bytes (ascii x) t'))) { s with toks := k }) := by
  refine .of_wp fun prog w A R s hS => ?_
  rw [encode_tree2, road_ascii, encodeNarrow_ascii _ _ _ h hz]
  refine wpAny_bind (wpAny_bind (wpAny_pure ?_))
  unfold mkBytes
  rw [if_neg (by rw [Array.size_map]; exact Nat.not_lt.mpr hz)]
  exact wpAny_bind (wpAny_fresh (wpAny_pure (wpAny_pure ⟨_, rfl, hS _ _⟩)))
theorem call_encode {prog : Program} {w : World} {A : Around} {E : Value → Shared → Prop} {s : Shared} {x : Str} {t u : Tok} {Q : Value → Shared → Prop} (h : ∀ c ∈ x.cps, c < 128) (hz : x.length ≤ sizeLine) (hQ : ∀ t' k, Q (.bytes (ascii x) t') { s with toks := k }) :
    wpAny (model prog w) A (call (.builtin "str.encode") [.str x t, .str (Str.ofString "ascii") u]) Q E s :=
  call_meets F.slot_str_encode rfl F.entry_str_encode (F.args_str_encode_2 _ _) (meets_encode h hz) hQ
end Mine
end

section
open PySem PySem.W PyProof.Rows PySem.Calls PySem.Spec
set_option maxRecDepth 100000
namespace Mine
open Builtin
theorem slot_translate : Slot "bytes" "translate" "bytes.translate" :=
  .of (owner := "bytes") (n := "translate") (by rw [typeLookup_type, builtinLookup_eq_fast]; kernel_rfl) (by decide +kernel) (by decide +kernel) (by decide +kernel)
    (by first | exact .inl (by decide +kernel) | exact .inr (by decide +kernel)) (by rw [isSubtype_type]; kernel_rfl)
theorem type_translate : typeOf (.builtin "bytes.translate") = pure (.type "method_descriptor") := by show builtinType _ = _; rw [builtinType_eq_fast]; kernel_rfl
theorem entry_translate : entryFor table "bytes.translate" = some Builtin.«bytes.translate» := entryFor_of_tree (by kernel_rfl)
theorem args_translate (a b : Value) : argsOk "bytes.translate" ⟨[a, b], []⟩ := by unfold argsOk; kernel_rfl
theorem plain_maketrans : plainId "bytes.maketrans" = true := by decide +kernel
theorem entry_maketrans : entryFor table "bytes.maketrans" = some Builtin.«bytes.maketrans» := entryFor_of_tree (by kernel_rfl)
theorem check_maketrans (a b : Value) : checkBuiltinCall "bytes.maketrans" ⟨[a, b], []⟩ = pure () := by kernel_rfl

/-- the table of '-?' for '+/' -/
noncomputable def altTable : Array UInt8 := (((Array.range 256).map (·.toUInt8)).setIfInBounds 45 43).setIfInBounds 63 47
theorem altTable_size : altTable.size = 256 := by simp [altTable]
/-- a sign that is read -/
noncomputable def altOf (c : UInt8) : UInt8 := if c = 45 then 43 else if c = 63 then 47 else c
theorem altTable_get : ∀ c : UInt8, altTable.getD c.toNat c = altOf c := by
  intro c
  have hc : c.toNat < 256 := c.toNat_lt
  unfold altTable altOf
  rw [Array.getD_eq_getD_getElem?, Array.getElem?_setIfInBounds, Array.getElem?_setIfInBounds]
  by_cases h1 : c = 63
  · subst h1; simp
  · have e1 : ¬ (63 = c.toNat) := fun e => h1 (UInt8.toNat_inj.mp e.symm)
    rw [if_neg e1]
    by_cases h2 : c = 45
    · subst h2; simp
    · have e2 : ¬ (45 = c.toNat) := fun e => h2 (UInt8.toNat_inj.mp e.symm)
      rw [if_neg e2, if_neg h2, if_neg h1]
      simp [hc]

theorem wp_if_neg {α : Type} {M : Model} {A : Around} {E : Value → Shared → Prop} {s : Shared} {c : Prop} [Decidable c] {a b : Sem α} {Q : α → Shared → Prop} (hc : ¬ c) (h : wpAny M A b Q E s) : wpAny M A (if c then a else b) Q E s := by rw [if_neg hc]; exact h
theorem meets_maketrans {t u : Tok} : Meets («bytes.maketrans» ⟨[.bytes #[45, 63] t, .bytes #[43, 47] u], []⟩) (fun _ R s => ∀ t' k, R (.ok (.ret (.bytes altTable t'))) { s with toks := k }) := by
  refine .of_wp fun prog w A R s hS => ?_
  unfold «bytes.maketrans» Bytes.maketransM
  refine wpAny_bind (wpAny_of_eq (a := ()) (by first | rfl | kernel_rfl) ?_)
  refine wpAny_bind (wpAny_of_eq (a := ()) (by first | rfl | kernel_rfl) ?_)
  refine wpAny_bind (wpAny_of_eq KBd.like_eq ?_)
  refine wpAny_bind (wpAny_of_eq KBd.like_eq ?_)
  refine KFB.if_not rfl ?_
  refine wpAny_bind (wpAny_mkBytes ?_ ?_)
  · exact wpAny_pure ⟨_, rfl, hS _ _⟩
  · show altTable.size ≤ sizeLine
    rw [altTable_size, sizeLine_eq]; decide
theorem call_maketrans {prog : Program} {w : World} {A : Around} {E : Value → Shared → Prop} {s : Shared} {t u : Tok} {Q : Value → Shared → Prop} (hQ : ∀ t' k, Q (.bytes altTable t') { s with toks := k }) :
    wpAny (model prog w) A (call (.builtin "bytes.maketrans") [.bytes #[45, 63] t, .bytes #[43, 47] u]) Q E s :=
  wpAny_call (codeAny_call_builtin plain_maketrans entry_maketrans (wpAny_of_eq (check_maketrans _ _) (meets_maketrans prog w A (wants Q E) s hQ)))

theorem meets_translate {b : Array UInt8} {t u : Tok} (hz : b.size ≤ sizeLine) : Meets («bytes.translate» ⟨[.bytes b t, .bytes altTable u], []⟩) (fun _ R s => ∀ t' k, R (.ok (.ret (.bytes (b.map altOf) t'))) { s with toks := k }) := by
  refine .of_wp fun prog w A R s hS => ?_
  unfold «bytes.translate» Bytes.translateM
  dsimp only
  refine wp_if_neg (by simp) ?_
  refine wp_if_neg (by decide) ?_
  refine wp_if_neg (by intro h; cases h) ?_
  refine wpAny_bind (wpAny_of_eq KBd.like_eq ?_)
  refine wp_if_neg (by rw [altTable_size]; decide) ?_
  refine wpAny_bind (wpAny_pure ?_)
  show wpAny _ _ (do let delete ← pure #[]; _) _ _ _
  refine wpAny_bind (wpAny_pure ?_)
  refine wpAny_bind (wpAny_of_eq (a := b) rfl ?_)
  have e : (Array.map (fun c => altTable.getD c.toNat c) (Array.filter (fun x => !Array.contains #[] x) b)) = b.map altOf := by
    have h1 : Array.filter (fun x => !Array.contains #[] x) b = b := by
      rw [Array.filter_eq_self]; intro x _; simp
    rw [h1]
    exact congrFun (congrArg Array.map (funext altTable_get)) b
  simp only [e]
  cases hc : (b.map altOf == b) with
  | true =>
    refine KFB.if_so rfl ?_
    have hb : b.map altOf = b := eq_of_beq hc
    rw [hb] at hS
    refine wpAny_bind (wpAny_rule ?_)
    refine wpAny_bind (wpAny_of_eq (a := .bytes b t) (by first | rfl | kernel_rfl) ?_)
    exact wpAny_pure ⟨_, rfl, hS _ _⟩
  | false =>
    refine KFB.if_not rfl ?_
    refine wpAny_bind (wpAny_mkBytes ?_ (by rw [Array.size_map]; exact hz))
    exact wpAny_pure ⟨_, rfl, hS _ _⟩
theorem call_translate {prog : Program} {w : World} {A : Around} {E : Value → Shared → Prop} {s : Shared} {b : Array UInt8} {t u : Tok} {Q : Value → Shared → Prop} (hz : b.size ≤ sizeLine) (hQ : ∀ t' k, Q (.bytes (b.map altOf) t') { s with toks := k }) :
    wpAny (model prog w) A (call (.builtin "bytes.translate") [.bytes b t, .bytes altTable u]) Q E s :=
  call_meets slot_translate (typeIs_bytes _ _ _) entry_translate (args_translate _ _) (meets_translate hz) hQ
end Mine
end

section
open PySem PySem.W PyProof.Rows PySem.Calls PySem.Spec
set_option maxRecDepth 100000
namespace Mine
theorem mt_find (K : Frag) : findCls K (.type "bytes") (.type "type") (Str.ofString "maketrans") = some (.val (.builtin "bytes.maketrans")) := by kernel_rfl
theorem mt_handed : handedIn (.builtin "bytes.maketrans") = true := by first | rfl | decide +kernel
theorem mt_stub : Manifest.isStub "bytes" = false := by decide +kernel
theorem mt_type : typeOf (.type "bytes") = pure (.type "type") := by first | rfl | kernel_rfl
theorem getm_maketrans {prog : Program} {w : World} {A : Around} {E : Value → Shared → Prop} {s : Shared} {K : Frag} {h₀ : Heap} {L : Addr} {m : Str → Option Value} {pl : Sem Bool} {Q : Value × List Value → Shared → Prop} (F : Fr h₀ L s.heap m) (X₀ : K.In h₀)
    (h : Q (.builtin "bytes.maketrans", []) { s with toks := s.toks + 1 }) : wpAny (model prog w) A (getMethod (.type "bytes") (Str.ofString "maketrans") pl) Q E s :=
  method_type (T := "bytes") (v := .builtin "bytes.maketrans") (name := Str.ofString "maketrans") F X₀ mt_type mt_stub (mt_find K) mt_handed h
theorem getm_translate {M : Model} {A : Around} {E : Value → Shared → Prop} {s : Shared} {b : Array UInt8} {t : Tok} {pl : Sem Bool} {Q : Value × List Value → Shared → Prop} (h : Q (.builtin "bytes.translate", [.bytes b t]) s) :
    wpAny M A (getMethod (.bytes b t) (Str.ofString "translate") pl) Q E s := by
  with_reducible exact KBd.method_of (.bytes b t) (typeIs_bytes _ _ _) slot_translate type_translate KBd.noRef h
theorem str_noRef {s : Shared} {x : Str} {t : Tok} : ∀ a, Value.str x t = .ref a → ∃ o, s.heap.get? a = some o ∧ o.dict = none := fun _ e => nomatch e
theorem str_is {s : Shared} {x : Str} {t : Tok} : s.TypeIs (.str x t) "str" := rfl
theorem getm_encode {M : Model} {A : Around} {E : Value → Shared → Prop} {s : Shared} {x : Str} {t : Tok} {pl : Sem Bool} {Q : Value × List Value → Shared → Prop} (h : Q (.builtin "str.encode", [.str x t]) s) :
    wpAny M A (getMethod (.str x t) (Str.ofString "encode") pl) Q E s := by
  with_reducible exact getMethod_builtin str_is F.plainAttrs_str F.slot_str_encode F.type_str_encode str_noRef h
end Mine
end

section
open PySem PySem.W PyProof.Rows PySem.Calls PySem.Spec
set_option maxRecDepth 100000
set_option maxHeartbeats 4000000
namespace Mine


theorem decode_data_str {w : World} {loose mean mg mb} (x : Str) (t : Tok) (hx : ∀ c ∈ x.cps, c < 128) (hz : x.length ≤ 1000) :
    Pure w loose mean mg mb 1 29 [.str x t] [] (fun _ => True) (fun t => .bytes (ascii x) t) := by
  k_with_none
  w_top off
  (k_with "LeaveP" => ((refine LeaveP.intro (by assumption) ?_); intro kP; (try dsimp only)))
  (k_with "call type:type" => ((with_reducible show wpAny _ _ (call _ [Value.bytes _ _]) _ _ _); refine call_type_of (Tx := "bytes") rfl (by decide +kernel) ?_))
  (k_with "call ref" => (
    k_here
    k_dflt (first
    | ((with_reducible show wpAny _ _ (call (Value.ref 63) _ _) _ _ _); refine' Pure.use (b64_value_pure _ _) ?k1 ?k2 ?k3 ?k4 ?k5 rfl ?k6 ?k7 ?k8 ?k9 ?kU ?_)
    | ((with_reducible show wpAny _ _ (call (Value.ref 56) _ _) _ _ _); refine' Pure.use truth_pure ?k1 ?k2 ?k3 ?k4 ?k5 rfl ?k6 ?k7 ?k8 ?k9 ?kU ?_)
    | ((with_reducible show wpAny _ _ (call (Value.ref 49) _ _) _ _ _); refine' Pure.use (ascii_buffer_pure _ _) ?k1 ?k2 ?k3 ?k4 ?k5 rfl ?k6 ?k7 ?k8 ?k9 ?kU ?_)
    | ((with_reducible show wpAny _ _ (call (Value.ref 86) _ _) _ _ _); refine' Pure.use (S_IFMT_pure _ _) ?k1 ?k2 ?k3 ?k4 ?k5 rfl ?k6 ?k7 ?k8 ?k9 ?kU ?_))
    (case k1 => k_asm); (case k2 => k_asm); (case k3 => k_asm); (case k4 => k_asm); (case k5 => k_asm); (case k6 => exact rfl); (case k7 => first | exact rfl | assumption); (case k8 => trivial); (case k9 => (first | decide | omega | ktr_room)); (case kU => (first | decide | omega | ktr_units))
    intro t9 h9 tk9 K9 F9 N9; clear K9; (try dsimp only)))
  (k_with "call builtin:list.append" => (k_here; (with_reducible show wpAny _ _ (call (Value.builtin _) [Value.ref _, _]) _ _ _); k_dflt (refine' append_K ?k1 ?k2 ?k3 ?_ ?z; (case k1 => k_asm); (case k2 => k_asm); (case k3 => k_upd); (case z => ((try simp only [List.size_toArray]); rw [PySem.sizeLine_eq]; omega)); k_whole); intro h' F' N'; (try k_sweep)))
  (k_with "call type:bytes" => (
    k_here
    (with_reducible show wpAny _ _ (call (Value.type "bytes") [Value.ref _]) _ _ _)
    (with_reducible rename Fr _ _ _ _ => qF); (with_reducible rename News _ _ _ _ => qN)
    refine' call_bytes_ints ?k1 ?k2 ?k3 ?k4 rfl ?_
    (case k1 => exact News.isList qN (by k_mem)); (case k2 => assumption); (case k3 => assumption); (case k4 => (rw [PySem.sizeLine_eq]; omega))
    intro h9 t9 tk9 K9; have F9 := Kp.fr K9 qF; have N9 := Kp.news K9 qN; clear K9 qF qN; (try dsimp only)))
  (k_with "exec Raise some none" => (exfalso; omega))
  (k_with "InvEndN" => (k_dflt kst_close))
  (k_with "call builtin:str.encode" => (k_here; k_dflt (refine' call_encode ?k1 ?k2 ?_; (case k1 => assumption); (case k2 => (rw [PySem.sizeLine_eq]; omega))); intro t9 tk9; (try dsimp only)))
  (k_with "call builtin:bytes.maketrans" => (k_here; k_dflt (refine' call_maketrans ?_); intro t9 tk9; (try dsimp only)))
  (k_with "call builtin:bytes.translate" => (k_here; k_dflt (refine' call_translate ?k2 ?_; (case k2 => (rw [PySem.sizeLine_eq]; (try simp only [ascii, Array.size_map]); exact Nat.le_trans (show _ ≤ 1000 by assumption) (by decide)))); intro t9 tk9; (try dsimp only)))
  (k_with "getMethod str" => (k_here; with_reducible refine getm_encode ?_))
  (k_with "getMethod bytes" => (k_here; with_reducible refine getm_translate ?_))
  (k_with "getMethod type:bytes" => (k_here; (with_reducible refine' getm_maketrans ?k1 ?k2 ?_); (case k1 => k_asm); (case k2 => k_asm)))
  unfold Pure
  k_fill
  intro dp un gd env outer A₀ base h₀ L m s Q E B F X T hf hke hPre hd hu hret
  refine wpAny_call ?_
  k_dflt (refine' code_pure (binds := [(Str.ofString "s", .str x t)]) B F X T rfl hf hke ?k6 ?k7 ?k8 ?k9 ?kB ?_ ?c2 ?c3 ?c4 ?c5; (case k6 => k_is); (case k7 => k_is); (case k8 => (show dp < recursionLimit; omega)); (case k9 => first | exact BindsTo.of_eq rfl | exact binds_K (by k_in) rfl (by k_is) rfl rfl rfl); (case c5 => decide); (case kB => exact locs rfl); (case c2 => exact rfl); (case c3 => exact rfl); (case c4 => exact rfl))
  intro g' L' h' hg' F' N' B' X' T'
  clear B F X T
  rw [← hg'] at hret
  (try rw [← hg'] at hPre)
  (try dsimp only)
  (repeat' (first | (k_unfold; (try dsimp only)) | (k_end; wrow_close) | ((with_reducible show wpAny _ _ (execs _ _) _ _ _); k_fold) | walk1 | (dsimp only; walk1) | (leave1; walk_say "STEP leave1"; try dsimp only) | fail "no step"))
  all_goals first | (refine retY hret (by assumption) rfl)
theorem decode_data_bytes {w : World} {loose mean mg mb} (x : Array UInt8) (t : Tok) :
    Pure w loose mean mg mb 1 29 [.bytes x t] [] (fun _ => True) (fun t => .bytes x t) := by
  k_with_none
  w_top off
  (k_with "LeaveP" => ((refine LeaveP.intro (by assumption) ?_); intro kP; (try dsimp only)))
  (k_with "call type:type" => ((with_reducible show wpAny _ _ (call _ [Value.bytes _ _]) _ _ _); refine call_type_of (Tx := "bytes") rfl (by decide +kernel) ?_))
  (k_with "call ref" => (
    k_here
    k_dflt (first
    | ((with_reducible show wpAny _ _ (call (Value.ref 63) _ _) _ _ _); refine' Pure.use (b64_value_pure _ _) ?k1 ?k2 ?k3 ?k4 ?k5 rfl ?k6 ?k7 ?k8 ?k9 ?kU ?_)
    | ((with_reducible show wpAny _ _ (call (Value.ref 56) _ _) _ _ _); refine' Pure.use truth_pure ?k1 ?k2 ?k3 ?k4 ?k5 rfl ?k6 ?k7 ?k8 ?k9 ?kU ?_)
    | ((with_reducible show wpAny _ _ (call (Value.ref 49) _ _) _ _ _); refine' Pure.use (ascii_buffer_pure _ _) ?k1 ?k2 ?k3 ?k4 ?k5 rfl ?k6 ?k7 ?k8 ?k9 ?kU ?_)
    | ((with_reducible show wpAny _ _ (call (Value.ref 86) _ _) _ _ _); refine' Pure.use (S_IFMT_pure _ _) ?k1 ?k2 ?k3 ?k4 ?k5 rfl ?k6 ?k7 ?k8 ?k9 ?kU ?_))
    (case k1 => k_asm); (case k2 => k_asm); (case k3 => k_asm); (case k4 => k_asm); (case k5 => k_asm); (case k6 => exact rfl); (case k7 => first | exact rfl | assumption); (case k8 => trivial); (case k9 => (first | decide | omega | ktr_room)); (case kU => (first | decide | omega | ktr_units))
    intro t9 h9 tk9 K9 F9 N9; clear K9; (try dsimp only)))
  (k_with "call builtin:list.append" => (k_here; (with_reducible show wpAny _ _ (call (Value.builtin _) [Value.ref _, _]) _ _ _); k_dflt (refine' append_K ?k1 ?k2 ?k3 ?_ ?z; (case k1 => k_asm); (case k2 => k_asm); (case k3 => k_upd); (case z => ((try simp only [List.size_toArray]); rw [PySem.sizeLine_eq]; omega)); k_whole); intro h' F' N'; (try k_sweep)))
  (k_with "call type:bytes" => (
    k_here
    (with_reducible show wpAny _ _ (call (Value.type "bytes") [Value.ref _]) _ _ _)
    (with_reducible rename Fr _ _ _ _ => qF); (with_reducible rename News _ _ _ _ => qN)
    refine' call_bytes_ints ?k1 ?k2 ?k3 ?k4 rfl ?_
    (case k1 => exact News.isList qN (by k_mem)); (case k2 => assumption); (case k3 => assumption); (case k4 => (rw [PySem.sizeLine_eq]; omega))
    intro h9 t9 tk9 K9; have F9 := Kp.fr K9 qF; have N9 := Kp.news K9 qN; clear K9 qF qN; (try dsimp only)))
  (k_with "exec Raise some none" => (exfalso; omega))
  (k_with "InvEndN" => (k_dflt kst_close))
  (k_with "call builtin:str.encode" => (k_here; k_dflt (refine' call_encode ?k1 ?k2 ?_; (case k1 => assumption); (case k2 => (rw [PySem.sizeLine_eq]; omega))); intro t9 tk9; (try dsimp only)))
  (k_with "call builtin:bytes.maketrans" => (k_here; k_dflt (refine' call_maketrans ?_); intro t9 tk9; (try dsimp only)))
  (k_with "call builtin:bytes.translate" => (k_here; k_dflt (refine' call_translate ?k2 ?_; (case k2 => (rw [PySem.sizeLine_eq]; (try simp only [ascii, Array.size_map]); exact Nat.le_trans (show _ ≤ 1000 by assumption) (by decide)))); intro t9 tk9; (try dsimp only)))
  (k_with "getMethod str" => (k_here; with_reducible refine getm_encode ?_))
  (k_with "getMethod bytes" => (k_here; with_reducible refine getm_translate ?_))
  (k_with "getMethod type:bytes" => (k_here; (with_reducible refine' getm_maketrans ?k1 ?k2 ?_); (case k1 => k_asm); (case k2 => k_asm)))
  unfold Pure
  k_fill
  intro dp un gd env outer A₀ base h₀ L m s Q E B F X T hf hke hPre hd hu hret
  refine wpAny_call ?_
  k_dflt (refine' code_pure (binds := [(Str.ofString "s", .bytes x t)]) B F X T rfl hf hke ?k6 ?k7 ?k8 ?k9 ?kB ?_ ?c2 ?c3 ?c4 ?c5; (case k6 => k_is); (case k7 => k_is); (case k8 => (show dp < recursionLimit; omega)); (case k9 => first | exact BindsTo.of_eq rfl | exact binds_K (by k_in) rfl (by k_is) rfl rfl rfl); (case c5 => decide); (case kB => exact locs rfl); (case c2 => exact rfl); (case c3 => exact rfl); (case c4 => exact rfl))
  intro g' L' h' hg' F' N' B' X' T'
  clear B F X T
  rw [← hg'] at hret
  (try rw [← hg'] at hPre)
  (try dsimp only)
  (repeat' (first | (k_unfold; (try dsimp only)) | (k_end; wrow_close) | ((with_reducible show wpAny _ _ (execs _ _) _ _ _); k_fold) | walk1 | (dsimp only; walk1) | (leave1; walk_say "STEP leave1"; try dsimp only) | fail "no step"))
  all_goals first | (refine retY hret (by assumption) rfl)
/-- the octets that a text's signs are read as -/
noncomputable def readOf (x : Str) : Array UInt8 := (ascii x).map altOf
noncomputable abbrev intsOf (b : Array UInt8) : List Int := b.toList.map fun c => (c.toNat : Int)

theorem b64decode_pure {w : World} {loose mean mg mb} (x : Str) (t u : Tok) (hx : ∀ c ∈ x.cps, c < 128) (hz : x.length ≤ 1000) (hb : (readOf x).toList.length ≤ 1000) (hq1 : (a2bEnd (intsOf (readOf x))).2.1 ≠ 1)
    (hq2 : (a2bEnd (intsOf (readOf x))).2.1 = 0 ∨ 4 ≤ (a2bEnd (intsOf (readOf x))).2.1 + (a2bEnd (intsOf (readOf x))).2.2.2) :
    Pure w loose mean mg mb 3 79 [.str x t, .bytes #[45, 63] u] [] (fun _ => True) (fun t => .bytes (byteArr (a2bEnd (intsOf (readOf x))).1) t) := by
  k_with_none
  w_top off
  (k_with "LeaveP" => ((refine LeaveP.intro (by assumption) ?_); intro kP; (try dsimp only)))
  (k_with "call type:type" => ((with_reducible show wpAny _ _ (call _ [Value.bytes _ _]) _ _ _); refine call_type_of (Tx := "bytes") rfl (by decide +kernel) ?_))
  (k_with "call ref" => (
    k_here
    k_dflt (first
    | ((with_reducible show wpAny _ _ (call (Value.ref 63) _ _) _ _ _); refine' Pure.use (b64_value_pure _ _) ?k1 ?k2 ?k3 ?k4 ?k5 rfl ?k6 ?k7 ?k8 ?k9 ?kU ?_)
    | ((with_reducible show wpAny _ _ (call (Value.ref 56) _ _) _ _ _); refine' Pure.use truth_pure ?k1 ?k2 ?k3 ?k4 ?k5 rfl ?k6 ?k7 ?k8 ?k9 ?kU ?_)
    | ((with_reducible show wpAny _ _ (call (Value.ref 49) _ _) _ _ _); refine' Pure.use (ascii_buffer_pure _ _) ?k1 ?k2 ?k3 ?k4 ?k5 rfl ?k6 ?k7 ?k8 ?k9 ?kU ?_)
    | ((with_reducible show wpAny _ _ (call (Value.ref 86) _ _) _ _ _); refine' Pure.use (S_IFMT_pure _ _) ?k1 ?k2 ?k3 ?k4 ?k5 rfl ?k6 ?k7 ?k8 ?k9 ?kU ?_))
    (case k1 => k_asm); (case k2 => k_asm); (case k3 => k_asm); (case k4 => k_asm); (case k5 => k_asm); (case k6 => exact rfl); (case k7 => first | exact rfl | assumption); (case k8 => trivial); (case k9 => (first | decide | omega | ktr_room)); (case kU => (first | decide | omega | ktr_units))
    intro t9 h9 tk9 K9 F9 N9; clear K9; (try dsimp only)))
  (k_with "call builtin:list.append" => (k_here; (with_reducible show wpAny _ _ (call (Value.builtin _) [Value.ref _, _]) _ _ _); k_dflt (refine' append_K ?k1 ?k2 ?k3 ?_ ?z; (case k1 => k_asm); (case k2 => k_asm); (case k3 => k_upd); (case z => ((try simp only [List.size_toArray]); rw [PySem.sizeLine_eq]; omega)); k_whole); intro h' F' N'; (try k_sweep)))
  (k_with "call type:bytes" => (
    k_here
    (with_reducible show wpAny _ _ (call (Value.type "bytes") [Value.ref _]) _ _ _)
    (with_reducible rename Fr _ _ _ _ => qF); (with_reducible rename News _ _ _ _ => qN)
    refine' call_bytes_ints ?k1 ?k2 ?k3 ?k4 rfl ?_
    (case k1 => exact News.isList qN (by k_mem)); (case k2 => assumption); (case k3 => assumption); (case k4 => (rw [PySem.sizeLine_eq]; omega))
    intro h9 t9 tk9 K9; have F9 := Kp.fr K9 qF; have N9 := Kp.news K9 qN; clear K9 qF qN; (try dsimp only)))
  (k_with "exec Raise some none" => (exfalso; omega))
  (k_with "InvEndN" => (k_dflt kst_close))
  (k_with "call builtin:str.encode" => (k_here; k_dflt (refine' call_encode ?k1 ?k2 ?_; (case k1 => assumption); (case k2 => (rw [PySem.sizeLine_eq]; omega))); intro t9 tk9; (try dsimp only)))
  (k_with "call builtin:bytes.maketrans" => (k_here; k_dflt (refine' call_maketrans ?_); intro t9 tk9; (try dsimp only)))
  (k_with "call builtin:bytes.translate" => (k_here; k_dflt (refine' call_translate ?k2 ?_; (case k2 => (rw [PySem.sizeLine_eq]; (try simp only [ascii, Array.size_map]); exact Nat.le_trans (show _ ≤ 1000 by assumption) (by decide)))); intro t9 tk9; (try dsimp only)))
  (k_with "getMethod str" => (k_here; with_reducible refine getm_encode ?_))
  (k_with "getMethod bytes" => (k_here; with_reducible refine getm_translate ?_))
  (k_with "getMethod type:bytes" => (k_here; (with_reducible refine' getm_maketrans ?k1 ?k2 ?_); (case k1 => k_asm); (case k2 => k_asm)))
  (k_with "call ref" => (
    k_here
    k_dflt (first
    | ((with_reducible show wpAny _ _ (call (Value.ref 29) [Value.str _ _] _) _ _ _); refine' Pure.use (decode_data_str _ _ (by assumption) (by omega)) ?k1 ?k2 ?k3 ?k4 ?k5 rfl ?k6 ?k7 ?k8 ?k9 ?kU ?_)
    | ((with_reducible show wpAny _ _ (call (Value.ref 29) [Value.bytes _ _] _) _ _ _); refine' Pure.use (decode_data_bytes _ _) ?k1 ?k2 ?k3 ?k4 ?k5 rfl ?k6 ?k7 ?k8 ?k9 ?kU ?_)
    | ((with_reducible show wpAny _ _ (call (Value.ref 71) _ _) _ _ _); refine' Pure.use (a2b_pure _ _ (by assumption) (by assumption) (by assumption)) ?k1 ?k2 ?k3 ?k4 ?k5 rfl ?k6 ?k7 ?k8 ?k9 ?kU ?_))
    (case k1 => k_asm); (case k2 => k_asm); (case k3 => k_asm); (case k4 => k_asm); (case k5 => k_asm); (case k6 => exact rfl); (case k7 => first | exact rfl | assumption); (case k8 => trivial); (case k9 => (first | decide | omega | ktr_room)); (case kU => (first | decide | omega | ktr_units))
    intro t9 h9 tk9 K9 F9 N9; clear K9; (try dsimp only)))
  unfold Pure
  k_fill
  intro dp un gd env outer A₀ base h₀ L m s Q E B F X T hf hke hPre hd hu hret
  refine wpAny_call ?_
  k_dflt (refine' code_pure (binds := [(Str.ofString "s", .str x t), (Str.ofString "altchars", .bytes #[45, 63] u), (Str.ofString "validate", .bool false)]) B F X T rfl hf hke ?k6 ?k7 ?k8 ?k9 ?kB ?_ ?c2 ?c3 ?c4 ?c5; (case k6 => k_is); (case k7 => k_is); (case k8 => (show dp < recursionLimit; omega)); (case k9 => first | exact BindsTo.of_eq rfl | exact binds_K (by k_in) rfl (by k_is) rfl rfl rfl); (case c5 => decide); (case kB => exact locs rfl); (case c2 => exact rfl); (case c3 => exact rfl); (case c4 => exact rfl))
  intro g' L' h' hg' F' N' B' X' T'
  clear B F X T
  rw [← hg'] at hret
  (try rw [← hg'] at hPre)
  (try dsimp only)
  (repeat' (first | (k_unfold; (try dsimp only)) | (k_end; wrow_close) | ((with_reducible show wpAny _ _ (execs _ _) _ _ _); k_fold) | walk1 | (dsimp only; walk1) | (leave1; walk_say "STEP leave1"; try dsimp only) | fail "no step"))
  all_goals first | (refine retY hret (by assumption) rfl)
end Mine
end

section
open PySem PySem.W PyProof.Rows PySem.Calls PySem.Spec
open AutoSeq1 (wpAny_loadPart')
set_option maxRecDepth 100000
namespace Mine
section
variable {prog : Program} {w : World} {A : Around} {E : Value → Shared → Prop} {s : Shared}
/-- a tuple's iterator asked from within enumerate: an item -/
theorem nextOf_tup_item {it l : Addr} {i : Nat} {items : Array Value} {x : Value} {Q : Value → Shared → Prop} (hit : s.heap.IsTupleIter it l i)
    (hl : s.heap.IsTuple l items) (hx : items[i]? = some x)
    (hQ : ∀ h', h'.IsTupleIter it l (i + 1) → Heap.SameBut it s.heap h' → Q x { s with heap := h' }) :
    wpAny (model prog w) A (Builtin.SmallTypes.nextOf (.ref it)) Q E s := by
  obtain ⟨o, ho, hc, hd⟩ := id hit
  obtain ⟨ol, hol, _, nl, hdl⟩ := hl
  unfold Builtin.SmallTypes.nextOf
  refine wpAny_bind (wpAny_callSpecial?_slot (name := Str.ofString "__next__") hit.typeIs F.slot_tuple_iterator_next
    (wpAny_call_entry F.slot_tuple_iterator_next hit.typeIs F.entry_tuple_iterator_next ?_ (F.args_tuple_iterator_next_1 _)))
  show wpAny _ _ (field (.ref it) 0 >>= _) _ _ s
  refine wpAny_bind (wpAny_field ho hd (x := .ref l) rfl ?_)
  show wpAny _ _ (if (Value.ref l == Value.none) = true then _ else _) _ _ s
  rw [if_neg (show ¬ ((Value.ref l == Value.none) = true) from Bool.false_ne_true)]
  show wpAny _ _ (field (.ref it) 1 >>= _) _ _ s
  refine wpAny_bind (wpAny_field ho hd (x := .int i 0) rfl ?_)
  show wpAny _ _ (seqItems? (.ref l) >>= _) _ _ s
  refine wpAny_bind (wpAny_seqItems hol hdl ?_)
  simp only [Int.toNat_natCast, hx]
  refine wpAny_bind (wpAny_setField ho hd (by simp) (wpAny_pure ⟨x, rfl, wpAny_pure (hQ _ ?_ (Heap.SameBut.update ..))⟩))
  exact ⟨_, Heap.get?_update_self _ ho (Obj.isFreed_of_fields (Obj.data_mapFields hd _)), (Obj.cls_mapFields ..).trans hc, by
    rw [Obj.data_mapFields hd]; simp [rawInt]⟩
/-- and its end -/
theorem nextOf_tup_end {it l : Addr} {i : Nat} {items : Array Value} {Q : Value → Shared → Prop} (hh : A.handled = none)
    (hit : s.heap.IsTupleIter it l i) (hl : s.heap.IsTuple l items) (hx : items[i]? = none)
    (hE : ∀ h' e, Heap.ExtBut it s.heap h' → (∃ o, h'.get? e = some o ∧ o.cls = .type "StopIteration") → E (.ref e) { s with heap := h' }) :
    wpAny (model prog w) A (Builtin.SmallTypes.nextOf (.ref it)) Q E s := by
  obtain ⟨o, ho, hc, hd⟩ := id hit
  obtain ⟨ol, hol, _, nl, hdl⟩ := hl
  unfold Builtin.SmallTypes.nextOf
  refine wpAny_bind (wpAny_callSpecial?_slot (name := Str.ofString "__next__") hit.typeIs F.slot_tuple_iterator_next
    (wpAny_call_entry F.slot_tuple_iterator_next hit.typeIs F.entry_tuple_iterator_next ?_ (F.args_tuple_iterator_next_1 _)))
  show wpAny _ _ (field (.ref it) 0 >>= _) _ _ s
  refine wpAny_bind (wpAny_field ho hd (x := .ref l) rfl ?_)
  show wpAny _ _ (if (Value.ref l == Value.none) = true then _ else _) _ _ s
  rw [if_neg (show ¬ ((Value.ref l == Value.none) = true) from Bool.false_ne_true)]
  show wpAny _ _ (field (.ref it) 1 >>= _) _ _ s
  refine wpAny_bind (wpAny_field ho hd (x := .int i 0) rfl ?_)
  show wpAny _ _ (seqItems? (.ref l) >>= _) _ _ s
  refine wpAny_bind (wpAny_seqItems hol hdl ?_)
  simp only [Int.toNat_natCast, hx]
  refine wpAny_bind (wpAny_rule (wpAny_bind (wpAny_setField ho hd (by simp) ?_)))
  show wpAny _ _ (newExc (.type "StopIteration") [] >>= _) _ _ _
  refine wpAny_bind ?_
  simp only [newExc, newTuple]
  refine wpAny_bind (wpAny_newObj_type ?_ (by size_fits))
  refine wpAny_bind (m := firstArgMember _ _) (wpAny_of_eq (a := Value.none) (by first | rfl | (simp only [firstArgMember]; rfl)) ?_)
  refine wpAny_newObj_type ?_ (by size_fits)
  simp only [raiseNew]
  refine wpAny_bind (wpAny_handled ?_)
  first | rw [show A.in1.handled = none from hh] | rw [hh]
  refine wpAny_bind (wpAny_pure (wpAny_throw ?_))
  exact hE _ _ (((Heap.SameBut.update ..).extBut.push _).push _) ⟨_, Heap.get?_push_size _ rfl, rfl⟩
end
theorem tupIter_at {h h' : Heap} {a t : Addr} {i : Nat} (x : h.IsTupleIter a t i) (k : ∀ o, h.get? a = some o → h'.get? a = some o) : h'.IsTupleIter a t i := let ⟨o, ho, r⟩ := x; ⟨o, k o ho, r⟩
theorem tup_at {h h' : Heap} {a : Addr} {items : Array Value} (x : h.IsTuple a items) (k : ∀ o, h.get? a = some o → h'.get? a = some o) : h'.IsTuple a items := let ⟨o, ho, r⟩ := x; ⟨o, k o ho, r⟩
theorem draws_tup {prog : Program} {w : World} {A : Around} (hh : A.handled = none) (it l : Addr) (hne : l ≠ it) (items : Array Value) :
    Draws prog w A it [it, l] items.size (fun i v => items[i]? = some v) (fun i h => h.IsTupleIter it l i ∧ h.IsTuple l items) where
  live := fun _ _ st => let ⟨o, ho, _⟩ := st.1; ⟨o, ho⟩
  frame := fun _ _ _ st hk => ⟨tupIter_at st.1 fun o e => hk it (by simp) o e, tup_at st.2 fun o e => hk l (by simp) o e⟩
  item := fun i s Q E hi st hQ => by
    refine nextOf_tup_item st.1 st.2 (x := items[i]) (by simp [hi]) fun h' hit' hs' => ?_
    exact hQ _ h' s.toks (by simp [hi]) ⟨hit', st.2.extBut hs'.extBut hne⟩ hs'
  done := fun s Q E st hE => nextOf_tup_end hh st.1 st.2 (by simp) hE

/-- enumerate of a tuple is made -/
theorem meets_enum_tup (l : Addr) (items : Array Value) (n : Nat) (dct : Option Addr) (sl : Array (Option Value)) :
    Meets (Builtin.«enumerate.__new__» ⟨[.type "enumerate", .ref l], []⟩) (fun _ R s => s.heap.get? l = some { cls := .type "tuple", dict := dct, data := .seq items n, slots := sl } ∧
      R (.ok (.ret (.ref (s.heap.push { cls := .type "tuple_iterator", data := .fields #[.ref l, .int 0 0] }).objs.size)))
        { s with heap := (s.heap.push { cls := .type "tuple_iterator", data := .fields #[.ref l, .int 0 0] }).push { cls := .type "enumerate", data := .fields #[.none, .bool false, .ref s.heap.objs.size, rawInt 0, .none, .none] } }) :=
  .of_wp fun prog w A R s h => by
    obtain ⟨hp, g, d, tk, os⟩ := s; obtain ⟨hl, h⟩ := h
    have hsub := sub_enumerate
    have hL : Heap.IsTuple (Shared.heap ⟨hp, g, d, tk, os⟩) l items := ⟨_, hl, rfl, n, rfl⟩
    wp_walk using wpAny_loadPart' hl
    refine wpAny_stack_any fun st => wpAny_pure ?_
    split
    · rename_i c _ _ _ _ _
      cases (c == Value.type "enumerate")
      · wp_walk using wpAny_loadPart' hl, wpAny_pyIter_tuple hL
        exact ⟨_, rfl, h⟩
      · wp_walk using wpAny_loadPart' hl, wpAny_pyIter_tuple hL
        exact ⟨_, rfl, h⟩
    · wp_walk using wpAny_loadPart' hl, wpAny_pyIter_tuple hL
      exact ⟨_, rfl, h⟩
theorem call_enum_tup {prog : Program} {w : World} {A : Around} {E : Value → Shared → Prop} {s : Shared} {l : Addr} {items : Array Value} {Q : Value → Shared → Prop} (hL : s.heap.IsTuple l items)
    (h : ∀ h', IsEnum h' (s.heap.objs.size + 1) s.heap.objs.size 0 .none → h'.IsTupleIter s.heap.objs.size l 0 →
      (∀ b o, s.heap.get? b = some o → h'.get? b = some o) → Q (.ref (s.heap.objs.size + 1)) { s with heap := h' }) :
    wpAny (model prog w) A (call (.type "enumerate") [.ref l]) Q E s := by
  obtain ⟨⟨c, dct, dt, sl⟩, hl, hc, n, hd⟩ := hL
  replace hc : c = .type "tuple" := hc
  replace hd : dt = .seq items n := hd
  subst hc hd
  refine callType_new F.called_enumerate (by decide) (F.typeCall_enumerate_1 _) (F.newCall_enumerate_1 _) (fun obj => F.args_object_init_2 obj _) F.entry_enumerate_new
    (meets_enum_tup l items n dct sl) ⟨hl, ?_⟩
  have hz : (s.heap.push { cls := .type "tuple_iterator", data := .fields #[.ref l, .int 0 0] }).objs.size = s.heap.objs.size + 1 := Heap.size_push ..
  show _ ∧ _
  rw [hz]
  have he : IsEnum ((s.heap.push { cls := .type "tuple_iterator", data := .fields #[.ref l, .int 0 0] }).push
      { cls := .type "enumerate", data := .fields #[.none, .bool false, .ref s.heap.objs.size, rawInt 0, .none, .none] }) (s.heap.objs.size + 1) s.heap.objs.size 0 .none := by
    have := Heap.get?_push_size (s.heap.push { cls := .type "tuple_iterator", data := .fields #[.ref l, .int 0 0] })
      (o := { cls := .type "enumerate", data := .fields #[.none, .bool false, .ref s.heap.objs.size, rawInt 0, .none, .none] }) rfl
    rw [hz] at this; exact this
  refine ⟨⟨_, he, rfl⟩, h _ he ⟨_, Heap.get?_push_of_some _ (Heap.get?_push_size _ rfl), rfl, rfl⟩ fun b o x => Heap.get?_push_of_some _ (Heap.get?_push_of_some _ x)⟩
end Mine
end

section
open PySem PySem.W PyProof.Rows PySem.Calls PySem.Spec
set_option maxRecDepth 100000
namespace Mine
section
variable {prog : Program} {w : World} {A : Around} {E : Value → Shared → Prop} {s : Shared} {env : Env} {h₀ : Heap} {body : List Stmt} {Q : Flow → Shared → Prop}
/-- the end of a turn of the loop over enumerate(a tuple that stood before) -/
noncomputable def EnumEnd (h₀ : Heap) (L : Addr) (Q : Flow → Shared → Prop) (s : Shared) (e it : Addr) (oe oi : Obj) (Jn : (Str → Option Value) → List (Addr × Obj) → Prop) (f : Flow) (s₃ : Shared) : Prop := match f with
  | .ret v => Q (.ret v) s₃
  | .brk => Q .next s₃
  | _ => ∃ h' tk' m' news', s₃ = { s with heap := h', toks := tk' } ∧ Fr h₀ L h' m' ∧ News h₀ L h' ((e, oe) :: (it, oi) :: news') ∧ (∀ p ∈ news', (@Ne Nat p.1 e) ∧ (@Ne Nat p.1 it)) ∧ Jn m' news'
theorem enum_turns {l : Addr} {items : Array Value} {elts : List Expr} {k : Nat} {pos : Pos} {m₀ : Str → Option Value} {news : List (Addr × Obj)} (hh : A.handled = none) (F : Fr h₀ env.locals s.heap m₀) (N : News h₀ env.locals s.heap news) (hl : h₀.IsTuple l items)
    (J : Nat → (Str → Option Value) → List (Addr × Obj) → Prop) (h0 : J 0 m₀ news)
    (step : ∀ i x m nw h tk T t e oe it oi, i < items.size → items[i]? = some x → J i m nw → Fr h₀ env.locals h m → News h₀ env.locals h ((e, oe) :: (it, oi) :: nw) → (∀ p ∈ nw, (@Ne Nat p.1 e) ∧ (@Ne Nat p.1 it)) → @Ne Nat e it → h.IsTuple T #[.int (i : Int) t, x] →
      wpAny (model prog w) A (assign (.Tuple elts k pos) env (.ref T)) (fun _ s₂ => wpAny (model prog w) A (execs body env) (EnumEnd h₀ env.locals Q { s with heap := h, toks := tk } e it oe oi (J (i + 1))) E s₂) E { s with heap := h, toks := tk })
    (done : ∀ h tk m nw, Fr h₀ env.locals h m → News h₀ env.locals h nw → J items.size m nw → Q .next { s with heap := h, toks := tk }) :
    wpAny (model prog w) A (call (.type "enumerate") [.ref l]) (fun xv s₁ => wpAny (model prog w) A (pyIter xv) (fun it s₂ => TurnsAt prog w A h₀ env (.Tuple elts k pos) body Q E it s₂) E s₁) E s := by
  have hlh : s.heap.IsTuple l items := tup_at hl fun o e => F.keep _ _ e
  have hlt : l < s.heap.objs.size := by obtain ⟨o, ho, _⟩ := hlh; exact Heap.lt_size ho
  refine call_enum_tup hlh fun h' hE hI hk => wpAny_pyIter_enum hE ?_
  have hLlt : env.locals < s.heap.objs.size := F.ns.lt
  have new : ∀ a, s.heap.objs.size ≤ a → h₀.get? a = none := fun a ha => by
    cases q : h₀.get? a with
    | none => rfl
    | some o => exact absurd (Heap.lt_size (F.keep _ _ q)) (Nat.not_lt.mpr ha)
  have hei : s.heap.objs.size + 1 ≠ s.heap.objs.size := Nat.succ_ne_self _
  have W := (WalksT.enumerateD (prog := prog) (w := w) (A := A) (draws_tup (A := A.in1) hh s.heap.objs.size l (Nat.ne_of_lt hlt) items) (s.heap.objs.size + 1) hei (by
    intro hm
    rcases List.mem_cons.mp hm with q | hm
    · exact hei q
    · exact Nat.ne_of_gt (Nat.lt_succ_of_lt hlt) (List.mem_singleton.mp hm)) (List.mem_cons_self ..)).toU
  refine ⟨s.heap.objs.size + 1, _, _, _, _, _, _, m₀, news, J, rfl, KTurns.ofWalksU W, ?_, ?_, ?_, ⟨⟨_, by simpa using hE⟩, hI, tup_at hlh fun o e => hk _ _ e⟩, F.keeps hk, N.grown hk, h0, ?_, ?_⟩
  · intro hm
    rcases List.mem_cons.mp hm with q | hm
    · exact Nat.lt_irrefl _ (Nat.lt_trans (q ▸ hLlt) (Nat.lt_succ_self _))
    · rcases List.mem_cons.mp hm with q | hm
      · exact Nat.lt_irrefl _ (q ▸ hLlt)
      · have q := List.mem_singleton.mp hm
        obtain ⟨o, ho, _⟩ := hl
        exact Nat.lt_irrefl _ (Nat.lt_of_lt_of_le (Heap.lt_size ho) (q ▸ F.above))
  · intro b hb
    rcases List.mem_cons.mp hb with q | hb
    · rw [q]; exact new _ (Nat.le_succ _)
    · rw [List.mem_singleton.mp hb]; exact new _ (Nat.le_refl _)
  · intro p hp hb
    have lt := Heap.lt_size (N p hp).1
    rcases List.mem_cons.mp hb with q | hb
    · exact Nat.lt_irrefl _ (Nat.lt_trans (q ▸ lt) (Nat.lt_succ_self _))
    · exact Nat.lt_irrefl _ ((List.mem_singleton.mp hb) ▸ lt)
  · intro i v m₁ news₁ h₁ tk₁ own hin hP hJ hoff hown hget hall hst F₁ N₁
    obtain ⟨T, vals, rfl, ⟨t, x, hx, rfl⟩, hT⟩ := hP
    obtain ⟨⟨old, he₁⟩, hi₁, hl₁⟩ := hst
    obtain ⟨oi, hoi, _⟩ := hi₁
    obtain ⟨oe, hoe⟩ : ∃ oe, h₁.get? (s.heap.objs.size + 1) = some oe := ⟨_, he₁⟩
    have hme := hall (s.heap.objs.size + 1) (List.mem_cons_self ..) (new _ (Nat.le_succ _)) _ hoe
    have hmi := hall s.heap.objs.size (List.mem_cons_of_mem _ (List.mem_cons_self ..)) (new _ (Nat.le_refl _)) _ hoi
    have off : ∀ p ∈ news₁, p.1 ≠ s.heap.objs.size + 1 ∧ p.1 ≠ s.heap.objs.size := fun p hp => ⟨fun q => hoff p hp (by rw [q]; exact List.mem_cons_self ..), fun q => hoff p hp (by rw [q]; exact List.mem_cons_of_mem _ (List.mem_cons_self ..))⟩
    have ownIs : ∀ p ∈ own, p = (s.heap.objs.size + 1, oe) ∨ p = (s.heap.objs.size, oi) := by
      intro p hp
      have g1 := hget p hp
      have n1 := (N₁ p (List.mem_append_left _ hp)).2.2
      rcases List.mem_cons.mp (hown p hp) with q | hm
      · left; rw [q, hoe] at g1; exact Prod.ext q (Option.some.inj g1).symm
      · rcases List.mem_cons.mp hm with q | hm
        · right; rw [q, hoi] at g1; exact Prod.ext q (Option.some.inj g1).symm
        · obtain ⟨o, ho, _⟩ := hl
          rw [List.mem_singleton.mp hm, ho] at n1; cases n1
    refine wpAny_mono (step i x m₁ news₁ h₁ tk₁ T t _ oe _ oi hin hx hJ F₁ (fun p hp => ?_) off hei hT) (fun _ s₂ h₂ => wpAny_mono h₂ (fun f s₃ h₃ => ?_) fun _ _ z => z) fun _ _ z => z
    · rcases List.mem_cons.mp hp with rfl | hp
      · exact N₁ _ (List.mem_append_left _ hme)
      · rcases List.mem_cons.mp hp with rfl | hp
        · exact N₁ _ (List.mem_append_left _ hmi)
        · exact N₁ _ (List.mem_append_right _ hp)
    · have up : (∃ h' tk' m' news', s₃ = { s with heap := h', toks := tk' } ∧ Fr h₀ env.locals h' m' ∧ News h₀ env.locals h' ((s.heap.objs.size + 1, oe) :: (s.heap.objs.size, oi) :: news') ∧ (∀ p ∈ news', p.1 ≠ s.heap.objs.size + 1 ∧ p.1 ≠ s.heap.objs.size) ∧ J (i + 1) m' news') →
          LoopStepU h₀ env.locals [s.heap.objs.size + 1, s.heap.objs.size] own (J (i + 1)) { s with heap := h₁, toks := tk₁ } .next s₃ := by
        rintro ⟨h', tk', m', news', rfl, F', N', off', hJ'⟩
        refine ⟨rfl, h', tk', m', news', rfl, F', fun p hp => ?_, fun p hp hb => ?_, hJ'⟩
        · rcases List.mem_append.mp hp with hp | hp
          · rcases ownIs p hp with rfl | rfl
            · exact N' _ (List.mem_cons_self ..)
            · exact N' _ (List.mem_cons_of_mem _ (List.mem_cons_self ..))
          · exact N' _ (List.mem_cons_of_mem _ (List.mem_cons_of_mem _ hp))
        · rcases List.mem_cons.mp hb with q | hb
          · exact (off' p hp).1 q
          · exact (off' p hp).2 (List.mem_singleton.mp hb)
      cases f with
      | ret v => exact h₃
      | brk => exact h₃
      | next => exact up h₃
      | cont => exact up h₃
  · intro h' tk m' news' F' N' _ hJ
    exact done h' tk m' news' F' N' hJ
end
end Mine
end

section
open PySem PySem.W PyProof.Rows PySem.Calls PySem.Spec
set_option maxRecDepth 100000
namespace Mine
/-- the end of a turn of a loop over a tuple that stood before -/
noncomputable def TupEnd (h₀ : Heap) (L : Addr) (Q : Flow → Shared → Prop) (s : Shared) (it : Addr) (oi : Obj) (Jn : (Str → Option Value) → List (Addr × Obj) → Prop) (f : Flow) (s₃ : Shared) : Prop := match f with
  | .ret v => Q (.ret v) s₃
  | .brk => Q .next s₃
  | _ => ∃ h' tk' m' news', s₃ = { s with heap := h', toks := tk' } ∧ Fr h₀ L h' m' ∧ News h₀ L h' ((it, oi) :: news') ∧ (∀ p ∈ news', @Ne Nat p.1 it) ∧ Jn m' news'
/-- what is left of such a loop, with its else -/
noncomputable def TupRest (prog : Program) (w : World) (A : Around) (E : Value → Shared → Prop) (h₀ : Heap) (env : Env) (target : Expr) (body orelse : List Stmt) (Q : Flow → Shared → Prop) (s : Shared) (it : Addr) : List Value → (Str → Option Value) → List (Addr × Obj) → Prop
  | [], m, nw => ∀ h tk, Fr h₀ env.locals h m → News h₀ env.locals h nw → wpAny (model prog w) A (execs orelse env) Q E { s with heap := h, toks := tk }
  | v :: r, m, nw => ∀ h tk oi, Fr h₀ env.locals h m → News h₀ env.locals h ((it, oi) :: nw) → (∀ p ∈ nw, @Ne Nat p.1 it) →
      wpAny (model prog w) A (assign target env v) (fun _ s₂ => wpAny (model prog w) A (execs body env) (TupEnd h₀ env.locals Q { s with heap := h, toks := tk } it oi (TupRest prog w A E h₀ env target body orelse Q s it r)) E s₂) E { s with heap := h, toks := tk }
noncomputable def TupSrc (prog : Program) (w : World) (A : Around) (E : Value → Shared → Prop) (h₀ : Heap) (env : Env) (target : Expr) (body orelse : List Stmt) (Q : Flow → Shared → Prop) (xv : Value) (s : Shared) : Prop :=
  ∃ r items m nw, xv = .ref r ∧ A.handled = none ∧ Fr h₀ env.locals s.heap m ∧ News h₀ env.locals s.heap nw ∧ h₀.IsTuple r items ∧ ∀ it, (∀ p ∈ nw, @Ne Nat p.1 it) → TupRest prog w A E h₀ env target body orelse Q s it items.toList m nw
section
variable {prog : Program} {w : World} {A : Around} {E : Value → Shared → Prop} {s : Shared} {env : Env} {h₀ : Heap} {target iter : Expr} {body orelse : List Stmt} {Q : Flow → Shared → Prop} {pos : Pos}
theorem for_tup (h : wpAny (model prog w) A (eval iter env) (TupSrc prog w A E h₀ env target body orelse Q) E s) (hs : ∀ x, foldedSetIterable iter env x = pure x := by intro _; rfl) (hE : PassesOwn (model prog w) A env E := by passes_own) :
    wpAny (model prog w) A (exec (.For target iter body orelse pos) env) Q E s := by
  refine wpAny_For (wpAny_mono h (fun xv s₁ h₁ => ?_) fun _ _ e => e) hs
  obtain ⟨r, items, m, nw, rfl, hh, F, N, ht, rest⟩ := h₁
  have hlh : s₁.heap.IsTuple r items := tup_at ht fun o e => F.keep _ _ e
  have hlt : r < s₁.heap.objs.size := by obtain ⟨o, ho, _⟩ := hlh; exact Heap.lt_size ho
  have hne : r ≠ s₁.heap.objs.size := Nat.ne_of_lt hlt
  have hLlt : env.locals < s₁.heap.objs.size := F.ns.lt
  have hL : env.locals ≠ s₁.heap.objs.size := Nat.ne_of_lt hLlt
  have new : h₀.get? s₁.heap.objs.size = none := next_is_new F
  have off : ∀ p ∈ nw, p.1 ≠ s₁.heap.objs.size := fun p hp => Nat.ne_of_lt (Heap.lt_size (N p hp).1)
  refine wpAny_pyIter_tuple hlh ?_
  refine codeAny_forLoop_any (fun k s' => ∃ h' tk i m' nw', s' = { s₁ with heap := h', toks := tk } ∧ i ≤ items.size ∧ k = items.size + 1 - i ∧ h'.IsTupleIter s₁.heap.objs.size r i ∧ Fr h₀ env.locals h' m' ∧ News h₀ env.locals h' nw' ∧ (∀ p ∈ nw', @Ne Nat p.1 s₁.heap.objs.size) ∧
    TupRest prog w A E h₀ env target body orelse Q s₁ s₁.heap.objs.size (items.toList.drop i) m' nw') ?_ (items.size + 1)
    ⟨_, s₁.toks, 0, m, nw, rfl, Nat.zero_le _, rfl, ⟨_, Heap.get?_push_size _ rfl, rfl, rfl⟩, F.push _, N.grown fun _ _ e => Heap.get?_push_of_some _ e, off, by rw [List.drop_zero]; exact rest _ off⟩
  rintro k s' ⟨h', tk, i, m', nw', rfl, hi, rfl, hit, F', N', off', R⟩
  have ht' : h'.IsTuple r items := tup_at ht fun o e => F'.keep _ _ e
  by_cases hlt' : i < items.size
  · have hx : items[i]? = some items[i] := by simp [hlt']
    refine wpAny_pyNext_tuple_item hit ht' hx fun h₂ hit₂ hs₂ => ?_
    refine letGo_tupleiter hit₂ ?_
    have F₂ : Fr h₀ env.locals h₂ m' := LCg.fr_but F' (fun b o hb e => hs₂.extBut b o (by simpa using hb) e) hL new
    have N₂ : News h₀ env.locals h₂ nw' := LCg.news_but N' (fun b o hb e => hs₂.extBut b o (by simpa using hb) e) off'
    obtain ⟨oi, hoi, hoi2⟩ := id hit₂
    have hd : items.toList.drop i = items[i] :: items.toList.drop (i + 1) := by
      rw [List.drop_eq_getElem_cons (by simpa using hlt')]; simp
    rw [hd] at R
    have N₃ : News h₀ env.locals h₂ ((s₁.heap.objs.size, oi) :: nw') := fun p hp => by
      rcases List.mem_cons.mp hp with rfl | hp
      · exact ⟨hoi, Ne.symm hL, new⟩
      · exact N₂ p hp
    refine wpAny_mono (R h₂ tk oi F₂ N₃ off') (fun _ s₂ h₃ => wpAny_passesOwn hE (wpAny_mono h₃ (fun f s₃ h₄ => ?_) fun _ _ z => z)) hE
    have up : (∃ h' tk' m' news', s₃ = { s₁ with heap := h', toks := tk' } ∧ Fr h₀ env.locals h' m' ∧ News h₀ env.locals h' ((s₁.heap.objs.size, oi) :: news') ∧ (∀ p ∈ news', @Ne Nat p.1 s₁.heap.objs.size) ∧ TupRest prog w A E h₀ env target body orelse Q s₁ s₁.heap.objs.size (items.toList.drop (i + 1)) m' news') →
        ∃ n', n' < items.size + 1 - i ∧ ∃ h' tk j m' nw', s₃ = { s₁ with heap := h', toks := tk } ∧ j ≤ items.size ∧ n' = items.size + 1 - j ∧ h'.IsTupleIter s₁.heap.objs.size r j ∧ Fr h₀ env.locals h' m' ∧ News h₀ env.locals h' nw' ∧ (∀ p ∈ nw', @Ne Nat p.1 s₁.heap.objs.size) ∧
          TupRest prog w A E h₀ env target body orelse Q s₁ s₁.heap.objs.size (items.toList.drop j) m' nw' := by
      rintro ⟨h₅, tk₅, m₅, nw₅, rfl, F₅, N₅, off₅, R₅⟩
      exact ⟨items.size + 1 - (i + 1), by omega, h₅, tk₅, i + 1, m₅, nw₅, rfl, hlt', rfl, ⟨oi, (N₅ _ (List.mem_cons_self ..)).1, hoi2⟩, F₅, fun p hp => N₅ p (List.mem_cons_of_mem _ hp), off₅, R₅⟩
    cases f with
    | ret v => exact h₄
    | brk => exact h₄
    | next => exact up h₄
    | cont => exact up h₄
  · obtain rfl : i = items.size := Nat.le_antisymm hi (Nat.not_lt.mp hlt')
    have hd : items.toList.drop items.size = [] := by simp
    rw [hd] at R
    refine wpAny_pyNext_tuple_end hh hit ht' (by simp) fun h₂ he => ?_
    have F₂ : Fr h₀ env.locals h₂ m' := LCg.fr_but F' (fun b o hb e => he b o (by simpa using hb) e) hL new
    have N₂ : News h₀ env.locals h₂ nw' := LCg.news_but N' (fun b o hb e => he b o (by simpa using hb) e) off'
    exact wpAny_passesOwn hE (R h₂ tk F₂ N₂)
end
end Mine
end

section
open PySem PySem.W PyProof.Rows PySem.Calls PySem.Spec
namespace Mine
noncomputable def fmKind (c : Int) : Str :=
  if Builtin.bitAnd c 61440 = 40960 then Str.ofString "l" else if Builtin.bitAnd c 61440 = 49152 then Str.ofString "s" else if Builtin.bitAnd c 61440 = 32768 then Str.ofString "-" else if Builtin.bitAnd c 61440 = 24576 then Str.ofString "b"
  else if Builtin.bitAnd c 61440 = 16384 then Str.ofString "d" else if Builtin.bitAnd c 61440 = 8192 then Str.ofString "c" else if Builtin.bitAnd c 61440 = 4096 then Str.ofString "p" else Str.ofString "?"
noncomputable def fmOne (c b : Int) (y : String) : Str := if Builtin.bitAnd c b = b then Str.ofString y else Str.ofString "-"
noncomputable def fmThree (c b1 b2 b3 : Int) (y1 y2 y3 : String) : Str := if Builtin.bitAnd c b1 = b1 then Str.ofString y1 else if Builtin.bitAnd c b2 = b2 then Str.ofString y2 else if Builtin.bitAnd c b3 = b3 then Str.ofString y3 else Str.ofString "-"
/-- the ten signs that filemode shows -/
noncomputable def fmSigns (c : Int) : List Str := [fmKind c, fmOne c 256 "r", fmOne c 128 "w", fmThree c 2112 2048 64 "s" "S" "x", fmOne c 32 "r", fmOne c 16 "w", fmThree c 1032 1024 8 "s" "S" "x", fmOne c 4 "r", fmOne c 2 "w", fmThree c 513 512 1 "t" "T" "x"]
theorem fmKind_len (c : Int) : (fmKind c).length = 1 := by unfold fmKind; (repeat' split) <;> decide
theorem fmOne_len (c b : Int) (y : String) (hy : (Str.ofString y).length = 1) : (fmOne c b y).length = 1 := by unfold fmOne; split; exact hy; decide
theorem fmThree_len (c b1 b2 b3 : Int) (y1 y2 y3 : String) (h1 : (Str.ofString y1).length = 1) (h2 : (Str.ofString y2).length = 1) (h3 : (Str.ofString y3).length = 1) : (fmThree c b1 b2 b3 y1 y2 y3).length = 1 := by
  unfold fmThree; (repeat' split) <;> first | assumption | decide
theorem fmSigns_one (c : Int) : ∀ y ∈ fmSigns c, y.length = 1 := by
  unfold fmSigns
  simp only [List.forall_mem_cons, List.not_mem_nil, false_implies, implies_true, and_true]
  refine ⟨fmKind_len c, fmOne_len _ _ _ (by decide), fmOne_len _ _ _ (by decide), fmThree_len _ _ _ _ _ _ _ (by decide) (by decide) (by decide), fmOne_len _ _ _ (by decide), fmOne_len _ _ _ (by decide), fmThree_len _ _ _ _ _ _ _ (by decide) (by decide) (by decide), fmOne_len _ _ _ (by decide), fmOne_len _ _ _ (by decide), fmThree_len _ _ _ _ _ _ _ (by decide) (by decide) (by decide)⟩
theorem sum_ones : ∀ (ys : List Str), (∀ y ∈ ys, y.length = 1) → (ys.map (·.length)).sum = ys.length
  | [], _ => rfl
  | y :: r, h => by rw [List.map_cons, List.sum_cons, h y (List.mem_cons_self ..), sum_ones r fun z hz => h z (List.mem_cons_of_mem _ hz), List.length_cons]; omega
theorem fmSigns_weight (c : Int) : ((fmSigns c).map (·.length)).sum + (fmSigns c).length ≤ 1048576 := by rw [sum_ones _ (fmSigns_one c)]; show 10 + 10 ≤ 1048576; decide
/-- what filemode shows -/
noncomputable def fmText (c : Int) : Str := Txt.join (Str.ofString "") (fmSigns c)
/-- the loop's letters: the mode, the list of signs, the signs so far -/
noncomputable def FmJ (c : Int) (t : Tok) (lp : Addr) (i : Nat) (m : Str → Option Value) (nw : List (Addr × Obj)) : Prop :=
  m (Str.ofString "mode") = some (.int c t) ∧ m (Str.ofString "perm") = some (.ref lp) ∧ ∃ vs n, nw = [(lp, W.listOf vs.toArray n)] ∧ StrsAre vs ((fmSigns c).take i)
theorem fm_map {m : Str → Option Value} {a b : Value} (h1 : m (Str.ofString "mode") = some a) (h2 : m (Str.ofString "perm") = some b) : ∃ u : Str → Option Value, m = fun y => if y = Str.ofString "mode" then some a else if y = Str.ofString "perm" then some b else u y := by
  refine ⟨m, funext fun y => ?_⟩
  by_cases e1 : y = Str.ofString "mode"
  · rw [if_pos e1, e1, h1]
  · rw [if_neg e1]
    by_cases e2 : y = Str.ofString "perm"
    · rw [if_pos e2, e2, h2]
    · rw [if_neg e2]
theorem fm_next {c : Int} {t : Tok} {lp : Addr} {i : Nat} {m : Str → Option Value} {vs : List Value} {n : Nat} {y : Str} {ty : Tok} (h1 : m (Str.ofString "mode") = some (.int c t)) (h2 : m (Str.ofString "perm") = some (.ref lp))
    (hs : StrsAre vs ((fmSigns c).take i)) (e : (fmSigns c)[i]? = some y) : FmJ c t lp (i + 1) m [(lp, W.listOf (vs.toArray.push (.str y ty)) (n + 1))] := by
  refine ⟨h1, h2, vs ++ [.str y ty], n + 1, by rw [List.push_toArray], ?_⟩
  rw [List.take_add_one, e]
  exact hs.append' (.cons _ _ .nil)
section
variable {prog : Program} {w : World} {A : Around} {E : Value → Shared → Prop} {s : Shared} {env : Env} {h₀ : Heap} {target : Expr} {body orelse : List Stmt} {Q : Flow → Shared → Prop} {it : Addr} {v : Value} {r : List Value} {m : Str → Option Value} {nw : List (Addr × Obj)}
theorem TupRest.cons (h : ∀ h tk oi, Fr h₀ env.locals h m → News h₀ env.locals h ((it, oi) :: nw) → (∀ p ∈ nw, @Ne Nat p.1 it) →
      wpAny (model prog w) A (assign target env v) (fun _ s₂ => wpAny (model prog w) A (execs body env) (TupEnd h₀ env.locals Q { s with heap := h, toks := tk } it oi (TupRest prog w A E h₀ env target body orelse Q s it r)) E s₂) E { s with heap := h, toks := tk }) :
    TupRest prog w A E h₀ env target body orelse Q s it (v :: r) m nw := h
theorem TupRest.nil (h : ∀ h tk, Fr h₀ env.locals h m → News h₀ env.locals h nw → wpAny (model prog w) A (execs orelse env) Q E { s with heap := h, toks := tk }) : TupRest prog w A E h₀ env target body orelse Q s it [] m nw := h
theorem tupSrc_K {K : Frag} {a : Addr} {o : Obj} {items : Array Value} {n : Nat} (hh : A.handled = none) (F : Fr h₀ env.locals s.heap m) (N : News h₀ env.locals s.heap nw) (X : K.In h₀) (hk : K.lookup a = some o) (hc : o.cls = .type "tuple") (hd : o.data = .seq items n)
    (h : ∀ it, (∀ p ∈ nw, @Ne Nat p.1 it) → TupRest prog w A E h₀ env target body orelse Q s it items.toList m nw) : TupSrc prog w A E h₀ env target body orelse Q (.ref a) s := ⟨a, items, m, nw, rfl, hh, F, N, ⟨o, X _ _ hk, hc, n, hd⟩, h⟩
theorem TupEnd.brk {L : Addr} {oi : Obj} {Jn : (Str → Option Value) → List (Addr × Obj) → Prop} {s₃ : Shared} (h : Q .next s₃) : TupEnd h₀ L Q s it oi Jn .brk s₃ := h
theorem TupEnd.next {L : Addr} {oi : Obj} {Jn : (Str → Option Value) → List (Addr × Obj) → Prop} {h' : Heap} {tk' : Nat} {m' : Str → Option Value} {nw' : List (Addr × Obj)} (F : Fr h₀ L h' m') (N : News h₀ L h' ((it, oi) :: nw')) (off : ∀ p ∈ nw', @Ne Nat p.1 it) (h : Jn m' nw') :
    TupEnd h₀ L Q s it oi Jn .next { s with heap := h', toks := tk' } := ⟨h', tk', m', nw', rfl, F, N, off, h⟩
theorem EnumEnd.next {L e : Addr} {oe oi : Obj} {Jn : (Str → Option Value) → List (Addr × Obj) → Prop} {h' : Heap} {tk' : Nat} {m' : Str → Option Value} {nw' : List (Addr × Obj)} (F : Fr h₀ L h' m') (N : News h₀ L h' ((e, oe) :: (it, oi) :: nw')) (off : ∀ p ∈ nw', (@Ne Nat p.1 e) ∧ (@Ne Nat p.1 it)) (h : Jn m' nw') :
    EnumEnd h₀ L Q s e it oe oi Jn .next { s with heap := h', toks := tk' } := ⟨h', tk', m', nw', rfl, F, N, off, h⟩
end
theorem news_tail {h₀ h : Heap} {L : Addr} {p : Addr × Obj} {nw : List (Addr × Obj)} (N : News h₀ L h (p :: nw)) : News h₀ L h nw := fun q hq => N q (List.mem_cons_of_mem _ hq)
end Mine
end

section
open PySem PySem.W PyProof.Rows PySem.Calls PySem.Spec
set_option maxRecDepth 100000
set_option maxHeartbeats 4000000
namespace Mine


noncomputable def rowK (c : Int) : List (Int × Str) → Str
  | [] => Str.ofString "?"
  | p :: r => if Builtin.bitAnd c 61440 = p.1 then p.2 else rowK c r
noncomputable def rowB (c : Int) : List (Int × Str) → Str
  | [] => Str.ofString "-"
  | p :: r => if Builtin.bitAnd c p.1 = p.1 then p.2 else rowB c r
/-- the sign of a row of the table -/
noncomputable def rowS (c : Int) (i : Nat) (ps : List (Int × Str)) : Str := if (i : Int) = 0 then rowK c ps else rowB c ps
section
variable {c b : Int} {i : Nat} {ch : Str} {r : List (Int × Str)}
theorem row_hit0 (hi : (i : Int) = 0) (h : Builtin.bitAnd c 61440 = b) : rowS c i ((b, ch) :: r) = ch := by unfold rowS; rw [if_pos hi]; exact if_pos h
theorem row_hitN (hi : (i : Int) ≠ 0) (h : Builtin.bitAnd c b = b) : rowS c i ((b, ch) :: r) = ch := by unfold rowS; rw [if_neg hi]; exact if_pos h
theorem row_miss0 (hi : (i : Int) = 0) (h : Builtin.bitAnd c 61440 ≠ b) : rowS c i ((b, ch) :: r) = rowS c i r := by unfold rowS; rw [if_pos hi, if_pos hi]; exact if_neg h
theorem row_missN (hi : (i : Int) ≠ 0) (h : Builtin.bitAnd c b ≠ b) : rowS c i ((b, ch) :: r) = rowS c i r := by unfold rowS; rw [if_neg hi, if_neg hi]; exact if_neg h
theorem row_nil0 (hi : (i : Int) = 0) : rowS c i [] = Str.ofString "?" := by unfold rowS; rw [if_pos hi]; rfl
theorem row_nilN (hi : (i : Int) ≠ 0) : rowS c i [] = Str.ofString "-" := by unfold rowS; rw [if_neg hi]; rfl
end
inductive Pairs (g : Heap) : List Value → List (Int × Str) → Prop
  | nil : Pairs g [] []
  | cons {a : Addr} {b : Int} {tb : Tok} {ch : Str} {tc : Tok} {vs : List Value} {ps : List (Int × Str)} : IsTup g a [Value.int b tb, Value.str ch tc].toArray → Pairs g vs ps → Pairs g (.ref a :: vs) ((b, ch) :: ps)
/-- a row of the table, as it stands on the heap -/
noncomputable def RowAt (g : Heap) (x : Value) (ps : List (Int × Str)) : Prop := ∃ a vs, x = .ref a ∧ IsTup g a vs.toArray ∧ Pairs g vs ps
/-- the rows of the table, as they stand on the heap -/
noncomputable def RowsAre (g : Heap) (xs : List Value) (pss : List (List (Int × Str))) : Prop := ∀ (i : Nat) (y : Value), xs[i]? = some y → ∃ qs, pss[i]? = some qs ∧ RowAt g y qs
theorem RowsAre.nil {g : Heap} : RowsAre g [] [] := fun i y e => nomatch (List.getElem?_nil (i := i)).symm.trans e
theorem RowsAre.cons {g : Heap} {a : Addr} {vs xs : List Value} {ps : List (Int × Str)} {pss : List (List (Int × Str))} (h : IsTup g a vs.toArray) (hp : Pairs g vs ps) (ih : RowsAre g xs pss) : RowsAre g (.ref a :: xs) (ps :: pss)
  | 0, _, e => ⟨ps, rfl, a, vs, (Option.some.inj e).symm, h, hp⟩
  | i + 1, y, e => ih i y e
noncomputable def fmTabs : List (List (Int × Str)) := [[(40960, Str.ofString "l"), (49152, Str.ofString "s"), (32768, Str.ofString "-"), (24576, Str.ofString "b"), (16384, Str.ofString "d"), (8192, Str.ofString "c"), (4096, Str.ofString "p")], [(256, Str.ofString "r")], [(128, Str.ofString "w")], [(2112, Str.ofString "s"), (2048, Str.ofString "S"), (64, Str.ofString "x")],
  [(32, Str.ofString "r")], [(16, Str.ofString "w")], [(1032, Str.ofString "s"), (1024, Str.ofString "S"), (8, Str.ofString "x")], [(4, Str.ofString "r")], [(2, Str.ofString "w")], [(513, Str.ofString "t"), (512, Str.ofString "T"), (1, Str.ofString "x")]]
theorem tabs_sign (c : Int) : ∀ (i : Nat) (ps : List (Int × Str)), fmTabs[i]? = some ps → (fmSigns c)[i]? = some (rowS c i ps)
  | 0, _, e => Option.some.inj e ▸ rfl
  | j + 1, ps, e => by
    show (fmTabs.tail.map (rowB c))[j]? = some (rowB c ps)
    rw [List.getElem?_map, show fmTabs.tail[j]? = some ps from e]
    rfl
theorem fm_map3 {m : Str → Option Value} {a b d : Value} (h1 : m (Str.ofString "mode") = some a) (h2 : m (Str.ofString "perm") = some b) (h3 : m (Str.ofString "index") = some d) : ∃ u : Str → Option Value, m = fun y => if y = Str.ofString "mode" then some a else if y = Str.ofString "perm" then some b else if y = Str.ofString "index" then some d else u y := by
  refine ⟨m, funext fun y => ?_⟩
  by_cases e1 : y = Str.ofString "mode"
  · rw [if_pos e1, e1, h1]
  · rw [if_neg e1]
    by_cases e2 : y = Str.ofString "perm"
    · rw [if_pos e2, e2, h2]
    · rw [if_neg e2]
      by_cases e3 : y = Str.ofString "index"
      · rw [if_pos e3, e3, h3]
      · rw [if_neg e3]
section
variable {prog : Program} {w : World} {A : Around} {E : Value → Shared → Prop} {s : Shared} {env : Env} {h₀ : Heap} {target : Expr} {body orelse : List Stmt} {Q : Flow → Shared → Prop} {it : Addr} {nw : List (Addr × Obj)}
theorem tupSrc_H {a : Addr} {items : List Value} {m : Str → Option Value} (ht : IsTup h₀ a items.toArray) (hh : A.handled = none) (F : Fr h₀ env.locals s.heap m) (N : News h₀ env.locals s.heap nw)
    (h : ∀ it, (∀ p ∈ nw, @Ne Nat p.1 it) → TupRest prog w A E h₀ env target body orelse Q s it items m nw) : TupSrc prog w A E h₀ env target body orelse Q (.ref a) s := ⟨a, items.toArray, m, nw, rfl, hh, F, N, ht, h⟩
theorem tup_ind3 {v1 v2 v3 : Value} {S : List (Int × Str) → Prop}
    (nil : ∀ m, m (Str.ofString "mode") = some v1 → m (Str.ofString "perm") = some v2 → m (Str.ofString "index") = some v3 → S [] → TupRest prog w A E h₀ env target body orelse Q s it [] m nw)
    (cons : ∀ a b tb ch tc r ps m, IsTup h₀ a [Value.int b tb, Value.str ch tc].toArray → m (Str.ofString "mode") = some v1 → m (Str.ofString "perm") = some v2 → m (Str.ofString "index") = some v3 → S ((b, ch) :: ps) →
      (∀ m', m' (Str.ofString "mode") = some v1 → m' (Str.ofString "perm") = some v2 → m' (Str.ofString "index") = some v3 → S ps → TupRest prog w A E h₀ env target body orelse Q s it r m' nw) → TupRest prog w A E h₀ env target body orelse Q s it (.ref a :: r) m nw) :
    ∀ {ls : List Value} {ps : List (Int × Str)} {m : Str → Option Value}, Pairs h₀ ls ps → m (Str.ofString "mode") = some v1 → m (Str.ofString "perm") = some v2 → m (Str.ofString "index") = some v3 → S ps → TupRest prog w A E h₀ env target body orelse Q s it ls m nw := by
  intro ls ps m hp
  induction hp generalizing m with
  | nil => exact nil m
  | cons hP _ ih => exact fun h1 h2 h3 hS => cons _ _ _ _ _ _ _ m hP h1 h2 h3 hS fun m' a1 a2 a3 b => ih a1 a2 a3 b
end

theorem filemode_pure {w : World} {loose mean mg mb} (c : Int) (t : Tok) :
    Pure w loose mean mg mb 2 126 [.int c t] [] (fun _ => True) (fun t => .str (fmText c) t) := by
  k_with_none
  w_top off
  (k_with "LeaveP" => ((refine LeaveP.intro (by assumption) ?_); intro kP; (try dsimp only)))
  (k_with "call type:type" => ((with_reducible show wpAny _ _ (call _ [Value.bytes _ _]) _ _ _); refine call_type_of (Tx := "bytes") rfl (by decide +kernel) ?_))
  (k_with "call ref" => (
    k_here
    k_dflt (first
    | ((with_reducible show wpAny _ _ (call (Value.ref 63) _ _) _ _ _); refine' Pure.use (b64_value_pure _ _) ?k1 ?k2 ?k3 ?k4 ?k5 rfl ?k6 ?k7 ?k8 ?k9 ?kU ?_)
    | ((with_reducible show wpAny _ _ (call (Value.ref 56) _ _) _ _ _); refine' Pure.use truth_pure ?k1 ?k2 ?k3 ?k4 ?k5 rfl ?k6 ?k7 ?k8 ?k9 ?kU ?_)
    | ((with_reducible show wpAny _ _ (call (Value.ref 49) _ _) _ _ _); refine' Pure.use (ascii_buffer_pure _ _) ?k1 ?k2 ?k3 ?k4 ?k5 rfl ?k6 ?k7 ?k8 ?k9 ?kU ?_)
    | ((with_reducible show wpAny _ _ (call (Value.ref 86) _ _) _ _ _); refine' Pure.use (S_IFMT_pure _ _) ?k1 ?k2 ?k3 ?k4 ?k5 rfl ?k6 ?k7 ?k8 ?k9 ?kU ?_))
    (case k1 => k_asm); (case k2 => k_asm); (case k3 => k_asm); (case k4 => k_asm); (case k5 => k_asm); (case k6 => exact rfl); (case k7 => first | exact rfl | assumption); (case k8 => trivial); (case k9 => (first | decide | omega | ktr_room)); (case kU => (first | decide | omega | ktr_units))
    intro t9 h9 tk9 K9 F9 N9; clear K9; (try dsimp only)))
  (k_with "call builtin:list.append" => (k_here; (with_reducible show wpAny _ _ (call (Value.builtin _) [Value.ref _, _]) _ _ _); k_dflt (refine' append_K ?k1 ?k2 ?k3 ?_ ?z; (case k1 => k_asm); (case k2 => k_asm); (case k3 => k_upd); (case z => ((try simp only [List.size_toArray]); rw [PySem.sizeLine_eq]; omega)); k_whole); intro h' F' N'; (try k_sweep)))
  (k_with "call type:bytes" => (
    k_here
    (with_reducible show wpAny _ _ (call (Value.type "bytes") [Value.ref _]) _ _ _)
    (with_reducible rename Fr _ _ _ _ => qF); (with_reducible rename News _ _ _ _ => qN)
    refine' call_bytes_ints ?k1 ?k2 ?k3 ?k4 rfl ?_
    (case k1 => exact News.isList qN (by k_mem)); (case k2 => assumption); (case k3 => assumption); (case k4 => (rw [PySem.sizeLine_eq]; omega))
    intro h9 t9 tk9 K9; have F9 := Kp.fr K9 qF; have N9 := Kp.news K9 qN; clear K9 qF qN; (try dsimp only)))
  (k_with "exec Raise some none" => (exfalso; omega))
  (k_with "InvEndN" => (k_dflt kst_close))
  (k_with "call builtin:str.encode" => (k_here; k_dflt (refine' call_encode ?k1 ?k2 ?_; (case k1 => assumption); (case k2 => (rw [PySem.sizeLine_eq]; omega))); intro t9 tk9; (try dsimp only)))
  (k_with "call builtin:bytes.maketrans" => (k_here; k_dflt (refine' call_maketrans ?_); intro t9 tk9; (try dsimp only)))
  (k_with "call builtin:bytes.translate" => (k_here; k_dflt (refine' call_translate ?k2 ?_; (case k2 => (rw [PySem.sizeLine_eq]; (try simp only [ascii, Array.size_map]); exact Nat.le_trans (show _ ≤ 1000 by assumption) (by decide)))); intro t9 tk9; (try dsimp only)))
  (k_with "getMethod str" => (k_here; with_reducible refine getm_encode ?_))
  (k_with "getMethod bytes" => (k_here; with_reducible refine getm_translate ?_))
  (k_with "getMethod type:bytes" => (k_here; (with_reducible refine' getm_maketrans ?k1 ?k2 ?_); (case k1 => k_asm); (case k2 => k_asm)))
  (k_with "exec For Tuple Call" => (k_here; (with_reducible rename Fr _ _ _ _ => qF); k_dflt (refine' For_turns qF ?_)))
  (k_with "exec For Tuple Name cons cons" => (k_here; k_dflt (refine' for_tup (h₀ := g') ?_)))
  (k_with "TupSrc" => (k_here; k_dflt (refine' tupSrc_H hrow ?k0 ?k1 ?k2 ?_; (case k0 => rfl); (case k1 => k_asm); (case k2 => k_asm)); intro it9 off9; (try simp only [List.forall_mem_cons, List.not_mem_nil, false_implies, implies_true, and_true] at off9); (try (obtain ⟨o1, o2, o3⟩ := off9)); (try dsimp only)))
  (k_with "TupEnd" => (k_here; k_dflt (first | (refine TupEnd.brk ?_) | (refine' TupEnd.next ?k1 ?k2 ?k3 ?_; (case k1 => k_asm); (case k2 => k_asm); (case k3 => (simp only [List.forall_mem_cons, List.not_mem_nil, false_implies, implies_true, and_true]; first | assumption | (refine ⟨?_, ?_, ?_⟩ <;> first | assumption | exact Ne.symm (by assumption) | omega)))); (try dsimp only)); (try exact ih _ rfl rfl rfl ((row_miss0 (by assumption) (by assumption)).symm.trans hS)); (try exact ih _ rfl rfl rfl ((row_missN (by assumption) (by assumption)).symm.trans hS))))
  (k_with "EnumEnd" => (k_here; k_dflt (refine' EnumEnd.next ?k1 ?k2 ?k3 ?_; (case k1 => k_asm); (case k2 => first | k_asm | exact news_tail (by k_asm)); (case k3 => (simp only [List.forall_mem_cons, List.not_mem_nil, false_implies, implies_true, and_true]; (refine ⟨?_, ?_⟩ <;> first | assumption | exact Ne.symm (by assumption) | omega))); (refine fm_next rfl rfl (by assumption) ?_); first | exact hidx.trans (congrArg some (hS.symm.trans (row_hit0 (by assumption) (by assumption)))) | exact hidx.trans (congrArg some (hS.symm.trans (row_hitN (by assumption) (by assumption)))) | exact hidx.trans (congrArg some (hS.symm.trans (row_nil0 (by assumption)))) | exact hidx.trans (congrArg some (hS.symm.trans (row_nilN (by assumption)))))))
  (k_with "call builtin:str.join" => (k_here; k_dflt (refine' join_listW ?k1 ?k2 ?k3 ?k4 ?_; (case k1 => exact News.isList (by k_asm) (by k_mem)); (case k2 => assumption); (case k3 => decide); (case k4 => assumption)); intro t9 tk9; (try dsimp only)))
  (k_with "assign Tuple" => (k_here; k_dflt (refine' unpackN_ (by k_asm) (by k_asm) hP9 rfl rfl rfl ?_); intro h9 F9 N9; (try dsimp only)))
  unfold Pure
  k_fill
  intro dp un gd env outer A₀ base h₀ L m s Q E B F X T hf hke hPre hd hu hret
  refine wpAny_call ?_
  k_dflt (refine' code_pure (binds := [(Str.ofString "mode", .int c t)]) B F X T rfl hf hke ?k6 ?k7 ?k8 ?k9 ?kB ?_ ?c2 ?c3 ?c4 ?c5; (case k6 => k_is); (case k7 => k_is); (case k8 => (show dp < recursionLimit; omega)); (case k9 => first | exact BindsTo.of_eq rfl | exact binds_K (by k_in) rfl (by k_is) rfl rfl rfl); (case c5 => decide); (case kB => exact locs rfl); (case c2 => exact rfl); (case c3 => exact rfl); (case c4 => exact rfl))
  intro g' L' h' hg' F' N' B' X' T'
  clear B F X T
  rw [← hg'] at hret
  (try rw [← hg'] at hPre)
  (try dsimp only)
  have rows0 : RowsAre g' [.ref 94, .ref 96, .ref 98, .ref 102, .ref 104, .ref 106, .ref 110, .ref 112, .ref 114, .ref 118] fmTabs := by
    refine .cons (tupK X' (by k_is)) (.cons (tupK X' (by k_is)) (.cons (tupK X' (by k_is)) (.cons (tupK X' (by k_is)) (.cons (tupK X' (by k_is)) (.cons (tupK X' (by k_is)) (.cons (tupK X' (by k_is)) (.cons (tupK X' (by k_is)) .nil))))))) ?_
    refine .cons (tupK X' (by k_is)) (.cons (tupK X' (by k_is)) .nil) ?_
    refine .cons (tupK X' (by k_is)) (.cons (tupK X' (by k_is)) .nil) ?_
    refine .cons (tupK X' (by k_is)) (.cons (tupK X' (by k_is)) (.cons (tupK X' (by k_is)) (.cons (tupK X' (by k_is)) .nil))) ?_
    refine .cons (tupK X' (by k_is)) (.cons (tupK X' (by k_is)) .nil) ?_
    refine .cons (tupK X' (by k_is)) (.cons (tupK X' (by k_is)) .nil) ?_
    refine .cons (tupK X' (by k_is)) (.cons (tupK X' (by k_is)) (.cons (tupK X' (by k_is)) (.cons (tupK X' (by k_is)) .nil))) ?_
    refine .cons (tupK X' (by k_is)) (.cons (tupK X' (by k_is)) .nil) ?_
    refine .cons (tupK X' (by k_is)) (.cons (tupK X' (by k_is)) .nil) ?_
    refine .cons (tupK X' (by k_is)) (.cons (tupK X' (by k_is)) (.cons (tupK X' (by k_is)) (.cons (tupK X' (by k_is)) .nil))) ?_
    exact .nil
  have rowsAt : ∀ (i : Nat) (x : Value), (#[.ref 94, .ref 96, .ref 98, .ref 102, .ref 104, .ref 106, .ref 110, .ref 112, .ref 114, .ref 118] : Array Value)[i]? = some x → ∃ ps, fmTabs[i]? = some ps ∧ RowAt g' x ps := fun i x hx => rows0 i x ((List.getElem?_toArray ..).symm.trans hx)
  clear rows0
  (repeat' (first | (k_unfold; (try dsimp only)) | (k_end; wrow_close) | ((with_reducible show wpAny _ _ (execs _ _) _ _ _); k_fold) | walk1 | (dsimp only; walk1) | (leave1; walk_say "STEP leave1"; try dsimp only) | fail "no step"))
  (with_reducible rename Fr _ _ _ _ => qF); (with_reducible rename News _ _ _ _ => qN)
  refine enum_turns (h₀ := g') (l := 119) (items := #[.ref 94, .ref 96, .ref 98, .ref 102, .ref 104, .ref 106, .ref 110, .ref 112, .ref 114, .ref 118]) rfl qF qN ⟨_, X' _ _ (by k_is), rfl, _, rfl⟩ (FmJ c t _) ⟨rfl, rfl, [], 0, rfl, .nil⟩ ?_ ?_
  · intro i x m nw hh tk T tt e oe it oi hi hx hJ F N off hei hT
    obtain ⟨h1, h2, vs, n, rfl, hs⟩ := hJ
    obtain ⟨u, rfl⟩ := fm_map h1 h2
    clear h1 h2
    have hT' : IsTup hh T #[.int (i : Int) tt, x] := hT
    clear hT
    simp only [List.forall_mem_cons, List.not_mem_nil, false_implies, implies_true, and_true] at off
    obtain ⟨off1, off2⟩ := off
    have hlen : vs.length ≤ 10 := by rw [hs.length, List.length_take]; exact Nat.min_le_right _ _
    obtain ⟨ps, hps, a0, its, rfl, hrow, hpairs⟩ := rowsAt i x hx
    have hidx := tabs_sign c i ps hps
    (repeat' (first | (k_unfold; (try dsimp only)) | (k_end; wrow_close) | ((with_reducible show wpAny _ _ (execs _ _) _ _ _); k_fold) | walk1 | (dsimp only; walk1) | (leave1; walk_say "STEP leave1"; try dsimp only) | fail "no step"))
    refine tup_ind3 (S := fun ps' => rowS c i ps' = rowS c i ps) ?_ ?_ hpairs rfl rfl rfl rfl
    · intro m h1 h2 h3 hS
      obtain ⟨u, rfl⟩ := fm_map3 h1 h2 h3
      refine TupRest.nil ?_
      intro h9 tk9 F9 N9
      (repeat' (first | (k_unfold; (try dsimp only)) | (k_end; wrow_close) | ((with_reducible show wpAny _ _ (execs _ _) _ _ _); k_fold) | walk1 | (dsimp only; walk1) | (leave1; walk_say "STEP leave1"; try dsimp only) | fail "no step"))
    · intro ap b tb ch tc r ps' m hP h1 h2 h3 hS ih
      obtain ⟨u, rfl⟩ := fm_map3 h1 h2 h3
      refine TupRest.cons ?_
      intro h9 tk9 oi9 F9 N9 off9
      have hP9 : IsTup h9 ap [Value.int b tb, Value.str ch tc].toArray := let ⟨o, ho, z⟩ := hP; ⟨o, F9.keep _ _ ho, z⟩
      simp only [List.forall_mem_cons, List.not_mem_nil, false_implies, implies_true, and_true] at off9
      obtain ⟨p1, p2, p3⟩ := off9
      (repeat' (first | (k_unfold; (try dsimp only)) | (k_end; wrow_close) | ((with_reducible show wpAny _ _ (execs _ _) _ _ _); k_fold) | walk1 | (dsimp only; walk1) | (leave1; walk_say "STEP leave1"; try dsimp only) | fail "no step"))
  · intro hh tk m nw F N hJ
    obtain ⟨h1, h2, vs, n, rfl, hs⟩ := hJ
    obtain ⟨u, rfl⟩ := fm_map h1 h2
    clear h1 h2
    have hlen : vs.length = 10 := by rw [hs.length]; rfl
    replace hs : StrsAre vs (fmSigns c) := hs
    have hw := fmSigns_weight c
    (repeat' (first | (k_unfold; (try dsimp only)) | (k_end; wrow_close) | ((with_reducible show wpAny _ _ (execs _ _) _ _ _); k_fold) | walk1 | (dsimp only; walk1) | (leave1; walk_say "STEP leave1"; try dsimp only) | fail "no step"))
    all_goals first | (refine retS hret (by assumption) rfl)
end Mine
end

section
open PySem PySem.W PyProof.Rows PySem.Calls PySem.Spec
namespace Mine
/-- what _law_number reckons -/
noncomputable def lawNum (ns : List Int) : Int := ns.foldl (fun n b => n * 2 + b) 0
noncomputable def isBit (b : Int) : Prop := 0 ≤ b ∧ b ≤ 1
theorem lawNum_snoc (ns : List Int) (b : Int) : lawNum (ns ++ [b]) = lawNum ns * 2 + b := by simp [lawNum]
theorem lawNum_range : ∀ (n : Nat) (ns : List Int), ns.length = n → (∀ b ∈ ns, isBit b) → 0 ≤ lawNum ns ∧ lawNum ns < 2 ^ n := by
  intro n
  induction n with
  | zero => intro ns h _; rw [List.length_eq_zero_iff.mp h]; simp [lawNum]
  | succ n ih =>
    intro ns h hb
    obtain ⟨pre, b, rfl⟩ : ∃ pre b, ns = pre ++ [b] := ⟨ns.dropLast, ns.getLast (by intro e; rw [e] at h; cases h), (List.dropLast_concat_getLast _).symm⟩
    rw [lawNum_snoc]
    have hp := ih pre (by simpa using h) fun x hx => hb x (List.mem_append_left _ hx)
    have hl := hb b (List.mem_append_right _ (List.mem_singleton.mpr rfl))
    have e : (2 : Int) ^ (n + 1) = 2 ^ n * 2 := Int.pow_succ ..
    unfold isBit at hl
    rw [e]
    omega
/-- the letter of _law_number's loop -/
noncomputable def NumP (ns pre : List Int) (number : Int) : Prop := number = lawNum pre
theorem num_start {ns : List Int} : NumP ns [] 0 ∧ 0 ≤ (0 : Int) ∧ (0 : Int) < 65536 := ⟨rfl, by omega, by omega⟩
theorem num_next {ns pre post : List Int} {n number : Int} (hb : ∀ b ∈ ns, isBit b) (hl : ns.length ≤ 16) (e : ns = pre ++ n :: post) (h : NumP ns pre number) : NumP ns (pre ++ [n]) (number * 2 + n) ∧ 0 ≤ number * 2 + n ∧ number * 2 + n < 65536 := by
  have e1 : number * 2 + n = lawNum (pre ++ [n]) := by rw [lawNum_snoc, ← show number = lawNum pre from h]
  refine ⟨e1, ?_⟩
  rw [e1]
  have hr := lawNum_range _ (pre ++ [n]) rfl (fun b hm => hb b (by
    rw [e]
    rcases List.mem_append.mp hm with hm | hm
    · exact List.mem_append_left _ hm
    · rw [List.mem_singleton.mp hm]; exact List.mem_append_right _ (List.mem_cons_self ..)))
  have hlen : (pre ++ [n]).length ≤ 16 := by
    have := congrArg List.length e
    simp at this ⊢; omega
  have : (2 : Int) ^ (pre ++ [n]).length ≤ 2 ^ 16 := by
    have := Nat.pow_le_pow_right (n := 2) (by omega) hlen
    exact_mod_cast this
  omega
end Mine
end

section
open PySem PySem.W PyProof.Rows PySem.Calls PySem.Spec
set_option maxRecDepth 100000
set_option maxHeartbeats 4000000
namespace Mine


theorem number_pure {w : World} {loose mean mg mb} (l : Addr) (vs : List Value) (ns : List Int) (hb : ∀ b ∈ ns, isBit b) (hl : ns.length ≤ 16) :
    Pure w loose mean mg mb 1 140 [.ref l] [] (fun h => h.IsList l vs.toArray ∧ IntsAre vs ns) (fun t => .int (lawNum ns) t) := by
  k_with_none
  w_top off
  (k_with "LeaveP" => ((refine LeaveP.intro (by assumption) ?_); intro kP; (try dsimp only)))
  (k_with "call type:type" => ((with_reducible show wpAny _ _ (call _ [Value.bytes _ _]) _ _ _); refine call_type_of (Tx := "bytes") rfl (by decide +kernel) ?_))
  (k_with "call ref" => (
    k_here
    k_dflt (first
    | ((with_reducible show wpAny _ _ (call (Value.ref 63) _ _) _ _ _); refine' Pure.use (b64_value_pure _ _) ?k1 ?k2 ?k3 ?k4 ?k5 rfl ?k6 ?k7 ?k8 ?k9 ?kU ?_)
    | ((with_reducible show wpAny _ _ (call (Value.ref 56) _ _) _ _ _); refine' Pure.use truth_pure ?k1 ?k2 ?k3 ?k4 ?k5 rfl ?k6 ?k7 ?k8 ?k9 ?kU ?_)
    | ((with_reducible show wpAny _ _ (call (Value.ref 49) _ _) _ _ _); refine' Pure.use (ascii_buffer_pure _ _) ?k1 ?k2 ?k3 ?k4 ?k5 rfl ?k6 ?k7 ?k8 ?k9 ?kU ?_)
    | ((with_reducible show wpAny _ _ (call (Value.ref 86) _ _) _ _ _); refine' Pure.use (S_IFMT_pure _ _) ?k1 ?k2 ?k3 ?k4 ?k5 rfl ?k6 ?k7 ?k8 ?k9 ?kU ?_))
    (case k1 => k_asm); (case k2 => k_asm); (case k3 => k_asm); (case k4 => k_asm); (case k5 => k_asm); (case k6 => exact rfl); (case k7 => first | exact rfl | assumption); (case k8 => trivial); (case k9 => (first | decide | omega | ktr_room)); (case kU => (first | decide | omega | ktr_units))
    intro t9 h9 tk9 K9 F9 N9; clear K9; (try dsimp only)))
  (k_with "call builtin:list.append" => (k_here; (with_reducible show wpAny _ _ (call (Value.builtin _) [Value.ref _, _]) _ _ _); k_dflt (refine' append_K ?k1 ?k2 ?k3 ?_ ?z; (case k1 => k_asm); (case k2 => k_asm); (case k3 => k_upd); (case z => ((try simp only [List.size_toArray]); rw [PySem.sizeLine_eq]; omega)); k_whole); intro h' F' N'; (try k_sweep)))
  (k_with "call type:bytes" => (
    k_here
    (with_reducible show wpAny _ _ (call (Value.type "bytes") [Value.ref _]) _ _ _)
    (with_reducible rename Fr _ _ _ _ => qF); (with_reducible rename News _ _ _ _ => qN)
    refine' call_bytes_ints ?k1 ?k2 ?k3 ?k4 rfl ?_
    (case k1 => exact News.isList qN (by k_mem)); (case k2 => assumption); (case k3 => assumption); (case k4 => (rw [PySem.sizeLine_eq]; omega))
    intro h9 t9 tk9 K9; have F9 := Kp.fr K9 qF; have N9 := Kp.news K9 qN; clear K9 qF qN; (try dsimp only)))
  (k_with "exec Raise some none" => (exfalso; omega))
  (k_with "InvEndN" => (k_dflt kst_close))
  (k_with "call builtin:str.encode" => (k_here; k_dflt (refine' call_encode ?k1 ?k2 ?_; (case k1 => assumption); (case k2 => (rw [PySem.sizeLine_eq]; omega))); intro t9 tk9; (try dsimp only)))
  (k_with "call builtin:bytes.maketrans" => (k_here; k_dflt (refine' call_maketrans ?_); intro t9 tk9; (try dsimp only)))
  (k_with "call builtin:bytes.translate" => (k_here; k_dflt (refine' call_translate ?k2 ?_; (case k2 => (rw [PySem.sizeLine_eq]; (try simp only [ascii, Array.size_map]); exact Nat.le_trans (show _ ≤ 1000 by assumption) (by decide)))); intro t9 tk9; (try dsimp only)))
  (k_with "getMethod str" => (k_here; with_reducible refine getm_encode ?_))
  (k_with "getMethod bytes" => (k_here; with_reducible refine getm_translate ?_))
  (k_with "getMethod type:bytes" => (k_here; (with_reducible refine' getm_maketrans ?k1 ?k2 ?_); (case k1 => k_asm); (case k2 => k_asm)))
  (k_with "exec For Tuple Call" => (k_here; (with_reducible rename Fr _ _ _ _ => qF); k_dflt (refine' For_turns qF ?_)))
  (k_with "exec For Tuple Name cons cons" => (k_here; k_dflt (refine' for_tup (h₀ := g') ?_)))
  (k_with "TupSrc" => (k_here; k_dflt (refine' tupSrc_K ?k0 ?k1 ?k2 ?kX ?k3 ?k4 ?k5 ?_; (case k0 => rfl); (case k1 => k_asm); (case k2 => k_asm); (case kX => k_asm); (case k3 => k_is); (case k4 => rfl); (case k5 => rfl)); intro it9 off9; (try simp only [List.forall_mem_cons, List.not_mem_nil, false_implies, implies_true, and_true] at off9); (try dsimp only)))
  (k_with "TupRest" => (k_here; k_dflt (first | (refine TupRest.cons ?_; intro h9 tk9 oi9 F9 N9 off9) | (refine TupRest.nil ?_; intro h9 tk9 F9 N9)); (try simp only [List.forall_mem_cons, List.not_mem_nil, false_implies, implies_true, and_true] at off9); (try dsimp only)))
  (k_with "TupEnd" => (k_here; k_dflt (first | (refine TupEnd.brk ?_) | (refine' TupEnd.next ?k1 ?k2 ?k3 ?_; (case k1 => k_asm); (case k2 => k_asm); (case k3 => (simp only [List.forall_mem_cons, List.not_mem_nil, false_implies, implies_true, and_true]; first | assumption | (refine ⟨?_, ?_, ?_⟩ <;> omega)))); (try dsimp only))))
  (k_with "EnumEnd" => (k_here; k_dflt (refine' EnumEnd.next ?k1 ?k2 ?k3 ?_; (case k1 => k_asm); (case k2 => first | k_asm | exact news_tail (by k_asm)); (case k3 => (simp only [List.forall_mem_cons, List.not_mem_nil, false_implies, implies_true, and_true]; (refine ⟨?_, ?_⟩ <;> omega))); (refine fm_next rfl rfl (by assumption) ?_); (show some _ = some _); (refine congrArg some ?_); (first | unfold fmKind | unfold fmOne | unfold fmThree); (repeat' split) <;> first | rfl | (exfalso; omega))))
  (k_with "call builtin:str.join" => (k_here; k_dflt (refine' join_listW ?k1 ?k2 ?k3 ?k4 ?_; (case k1 => exact News.isList (by k_asm) (by k_mem)); (case k2 => assumption); (case k3 => decide); (case k4 => assumption)); intro t9 tk9; (try dsimp only)))
  unfold Pure
  k_fill
  intro dp un gd env outer A₀ base h₀ L m s Q E B F X T hf hke hPre hd hu hret
  refine wpAny_call ?_
  k_dflt (refine' code_pure (binds := [(Str.ofString "bits", .ref l)]) B F X T rfl hf hke ?k6 ?k7 ?k8 ?k9 ?kB ?_ ?c2 ?c3 ?c4 ?c5; (case k6 => k_is); (case k7 => k_is); (case k8 => (show dp < recursionLimit; omega)); (case k9 => first | exact BindsTo.of_eq rfl | exact binds_K (by k_in) rfl (by k_is) rfl rfl rfl); (case c5 => decide); (case kB => exact locs rfl); (case c2 => exact rfl); (case c3 => exact rfl); (case c4 => exact rfl))
  intro g' L' h' hg' F' N' B' X' T'
  clear B F X T
  rw [← hg'] at hret
  (try rw [← hg'] at hPre)
  (try dsimp only)
  obtain ⟨hL, hI⟩ := hPre
  (k_with "state" => first | exact num_start | ((rename NumP _ _ _ => hA); exact num_next hb hl (by assumption) hA))
  (k_with "pyIter ref" => k_state (fun pre number => NumP ns pre number ∧ 0 ≤ number ∧ number < 65536) "number")
  (repeat' (first | (k_unfold; (try dsimp only)) | (k_end; wrow_close) | ((with_reducible show wpAny _ _ (execs _ _) _ _ _); k_fold) | walk1 | (dsimp only; walk1) | (leave1; walk_say "STEP leave1"; try dsimp only) | fail "no step"))
  all_goals first | (refine retI hret (by assumption) (by assumption))
end Mine
end

section
open PySem PySem.W PyProof.Rows PySem.Calls PySem.Spec
set_option maxRecDepth 100000
namespace Mine
/-- a text's sign at a place -/
noncomputable def chAt (x : Str) (k : Int) : Str := ⟨#[x.cps.getD k.toNat 0]⟩
theorem item_str {prog : Program} {w : World} {A : Around} {E : Value → Shared → Prop} {s : Shared} {value slice : PySem.Expr} {x : Str} {t u : Tok} {k : Int} {Q : Value → Shared → Prop} (h0 : 0 ≤ k) (hk : k < (x.length : Int)) (hz : x.length ≤ 1000) (h : Q (.str (chAt x k) s.toks) { s with toks := s.toks + 1 })
    (hs : subscripted slice false (.str x t) (.int k u) = operate [.str x t, .int k u] (getItem (.str x t) (.int k u)) := by with_unfolding_all rfl) :
    wpAny (model prog w) A (subscriptTail value slice (.str x t) (.int k u)) Q E s := by
  have hr : (decide (k < -(2 ^ 63 : Int)) || decide (k ≥ 2 ^ 63)) = false := by
    rw [Bool.or_eq_false_iff]; exact ⟨decide_eq_false (by omega), decide_eq_false (by omega)⟩
  have hlt : k.toNat < x.cps.size := by have : (x.length : Int) = (x.cps.size : Int) := rfl; omega
  have hc : (seqIndex? k x.length).bind (x.cps[·]?) = some (x.cps.getD k.toNat 0) := by
    have : seqIndex? k x.length = some k.toNat := by
      unfold seqIndex?
      have e1 : ¬ (k < 0) := by omega
      simp [e1]
      omega
    rw [this]
    simp [hlt]
  exact tail_any (T := "str") rfl F.slot_str_getitem.lookup (getItem_str hr hc h) hs
theorem lt_len {x : Str} {k : Int} (n : Nat) (e : x.length = n) (h : k < (n : Int)) : k < (x.length : Int) := by rw [e]; exact h
theorem le_len {x : Str} (n : Nat) (e : x.length = n) (h : n ≤ 1000) : x.length ≤ 1000 := by rw [e]; exact h
end Mine
end

section
open PySem PySem.W PyProof.Rows PySem.Calls PySem.Spec
set_option maxRecDepth 100000
set_option maxHeartbeats 4000000
namespace Mine


theorem bit_lt {b : Int} (h : isBit b) : 0 ≤ b ∧ b < (2 : Int) := by unfold isBit at h; omega
theorem bit_lt4 {b c : Int} (h : isBit b) (g : isBit c) : 0 ≤ b + 2 * c ∧ b + 2 * c < (4 : Int) := by unfold isBit at h g; omega
/-- what _law_row shows -/
noncomputable def rowText (b0 b1 b2 b3 b4 b5 b6 b7 b8 b9 b10 b11 b12 b13 b14 b15 : Int) : Str :=
  Txt.item (Str.ofString "?pc?d?b?-?l?s???") (lawNum [b0, b1, b2, b3]) ++ Txt.item (Str.ofString "-r") b7 ++ Txt.item (Str.ofString "-w") b8 ++ Txt.item (Str.ofString "-xSs") (b9 + 2 * b4)
    ++ Txt.item (Str.ofString "-r") b10 ++ Txt.item (Str.ofString "-w") b11 ++ Txt.item (Str.ofString "-xSs") (b12 + 2 * b5) ++ Txt.item (Str.ofString "-r") b13 ++ Txt.item (Str.ofString "-w") b14 ++ Txt.item (Str.ofString "-xTt") (b15 + 2 * b6)
theorem row_pure {w : World} {loose mean mg mb} (l : Addr) (b0 b1 b2 b3 b4 b5 b6 b7 b8 b9 b10 b11 b12 b13 b14 b15 : Int) (r0 r1 r2 r3 r4 r5 r6 r7 r8 r9 r10 r11 r12 r13 r14 r15 : Tok) (hb : ∀ b ∈ [b0, b1, b2, b3, b4, b5, b6, b7, b8, b9, b10, b11, b12, b13, b14, b15], isBit b) :
    Pure w loose mean mg mb 2 147 [.ref l] [] (fun h => h.IsList l #[.int b0 r0, .int b1 r1, .int b2 r2, .int b3 r3, .int b4 r4, .int b5 r5, .int b6 r6, .int b7 r7, .int b8 r8, .int b9 r9, .int b10 r10, .int b11 r11, .int b12 r12, .int b13 r13, .int b14 r14, .int b15 r15]) (fun t => .str (rowText b0 b1 b2 b3 b4 b5 b6 b7 b8 b9 b10 b11 b12 b13 b14 b15) t) := by
  k_with_none
  w_top off
  (k_with "LeaveP" => ((refine LeaveP.intro (by assumption) ?_); intro kP; (try dsimp only)))
  (k_with "call type:type" => ((with_reducible show wpAny _ _ (call _ [Value.bytes _ _]) _ _ _); refine call_type_of (Tx := "bytes") rfl (by decide +kernel) ?_))
  (k_with "call ref" => (
    k_here
    k_dflt (first
    | ((with_reducible show wpAny _ _ (call (Value.ref 63) _ _) _ _ _); refine' Pure.use (b64_value_pure _ _) ?k1 ?k2 ?k3 ?k4 ?k5 rfl ?k6 ?k7 ?k8 ?k9 ?kU ?_)
    | ((with_reducible show wpAny _ _ (call (Value.ref 56) _ _) _ _ _); refine' Pure.use truth_pure ?k1 ?k2 ?k3 ?k4 ?k5 rfl ?k6 ?k7 ?k8 ?k9 ?kU ?_)
    | ((with_reducible show wpAny _ _ (call (Value.ref 49) _ _) _ _ _); refine' Pure.use (ascii_buffer_pure _ _) ?k1 ?k2 ?k3 ?k4 ?k5 rfl ?k6 ?k7 ?k8 ?k9 ?kU ?_)
    | ((with_reducible show wpAny _ _ (call (Value.ref 86) _ _) _ _ _); refine' Pure.use (S_IFMT_pure _ _) ?k1 ?k2 ?k3 ?k4 ?k5 rfl ?k6 ?k7 ?k8 ?k9 ?kU ?_))
    (case k1 => k_asm); (case k2 => k_asm); (case k3 => k_asm); (case k4 => k_asm); (case k5 => k_asm); (case k6 => exact rfl); (case k7 => first | exact rfl | assumption); (case k8 => trivial); (case k9 => (first | decide | omega | ktr_room)); (case kU => (first | decide | omega | ktr_units))
    intro t9 h9 tk9 K9 F9 N9; clear K9; (try dsimp only)))
  (k_with "call builtin:list.append" => (k_here; (with_reducible show wpAny _ _ (call (Value.builtin _) [Value.ref _, _]) _ _ _); k_dflt (refine' append_K ?k1 ?k2 ?k3 ?_ ?z; (case k1 => k_asm); (case k2 => k_asm); (case k3 => k_upd); (case z => ((try simp only [List.size_toArray]); rw [PySem.sizeLine_eq]; omega)); k_whole); intro h' F' N'; (try k_sweep)))
  (k_with "call type:bytes" => (
    k_here
    (with_reducible show wpAny _ _ (call (Value.type "bytes") [Value.ref _]) _ _ _)
    (with_reducible rename Fr _ _ _ _ => qF); (with_reducible rename News _ _ _ _ => qN)
    refine' call_bytes_ints ?k1 ?k2 ?k3 ?k4 rfl ?_
    (case k1 => exact News.isList qN (by k_mem)); (case k2 => assumption); (case k3 => assumption); (case k4 => (rw [PySem.sizeLine_eq]; omega))
    intro h9 t9 tk9 K9; have F9 := Kp.fr K9 qF; have N9 := Kp.news K9 qN; clear K9 qF qN; (try dsimp only)))
  (k_with "exec Raise some none" => (exfalso; omega))
  (k_with "InvEndN" => (k_dflt kst_close))
  (k_with "call builtin:str.encode" => (k_here; k_dflt (refine' call_encode ?k1 ?k2 ?_; (case k1 => assumption); (case k2 => (rw [PySem.sizeLine_eq]; omega))); intro t9 tk9; (try dsimp only)))
  (k_with "call builtin:bytes.maketrans" => (k_here; k_dflt (refine' call_maketrans ?_); intro t9 tk9; (try dsimp only)))
  (k_with "call builtin:bytes.translate" => (k_here; k_dflt (refine' call_translate ?k2 ?_; (case k2 => (rw [PySem.sizeLine_eq]; (try simp only [ascii, Array.size_map]); exact Nat.le_trans (show _ ≤ 1000 by assumption) (by decide)))); intro t9 tk9; (try dsimp only)))
  (k_with "getMethod str" => (k_here; with_reducible refine getm_encode ?_))
  (k_with "getMethod bytes" => (k_here; with_reducible refine getm_translate ?_))
  (k_with "getMethod type:bytes" => (k_here; (with_reducible refine' getm_maketrans ?k1 ?k2 ?_); (case k1 => k_asm); (case k2 => k_asm)))
  (k_with "exec For Tuple Call" => (k_here; (with_reducible rename Fr _ _ _ _ => qF); k_dflt (refine' For_turns qF ?_)))
  (k_with "exec For Tuple Name cons cons" => (k_here; k_dflt (refine' for_tup (h₀ := g') ?_)))
  (k_with "TupSrc" => (k_here; k_dflt (refine' tupSrc_K ?k0 ?k1 ?k2 ?kX ?k3 ?k4 ?k5 ?_; (case k0 => rfl); (case k1 => k_asm); (case k2 => k_asm); (case kX => k_asm); (case k3 => k_is); (case k4 => rfl); (case k5 => rfl)); intro it9 off9; (try simp only [List.forall_mem_cons, List.not_mem_nil, false_implies, implies_true, and_true] at off9); (try dsimp only)))
  (k_with "TupRest" => (k_here; k_dflt (first | (refine TupRest.cons ?_; intro h9 tk9 oi9 F9 N9 off9) | (refine TupRest.nil ?_; intro h9 tk9 F9 N9)); (try simp only [List.forall_mem_cons, List.not_mem_nil, false_implies, implies_true, and_true] at off9); (try dsimp only)))
  (k_with "TupEnd" => (k_here; k_dflt (first | (refine TupEnd.brk ?_) | (refine' TupEnd.next ?k1 ?k2 ?k3 ?_; (case k1 => k_asm); (case k2 => k_asm); (case k3 => (simp only [List.forall_mem_cons, List.not_mem_nil, false_implies, implies_true, and_true]; first | assumption | (refine ⟨?_, ?_, ?_⟩ <;> omega)))); (try dsimp only))))
  (k_with "EnumEnd" => (k_here; k_dflt (refine' EnumEnd.next ?k1 ?k2 ?k3 ?_; (case k1 => k_asm); (case k2 => first | k_asm | exact news_tail (by k_asm)); (case k3 => (simp only [List.forall_mem_cons, List.not_mem_nil, false_implies, implies_true, and_true]; (refine ⟨?_, ?_⟩ <;> omega))); (refine fm_next rfl rfl (by assumption) ?_); (show some _ = some _); (refine congrArg some ?_); (first | unfold fmKind | unfold fmOne | unfold fmThree); (repeat' split) <;> first | rfl | (exfalso; omega))))
  (k_with "call builtin:str.join" => (k_here; k_dflt (refine' join_listW ?k1 ?k2 ?k3 ?k4 ?_; (case k1 => exact News.isList (by k_asm) (by k_mem)); (case k2 => assumption); (case k3 => decide); (case k4 => assumption)); intro t9 tk9; (try dsimp only)))
  (k_with "call ref" => (
    k_here
    (with_reducible show wpAny _ _ (call (Value.ref 140) _ _) _ _ _)
    k_dflt (refine' Pure.use (number_pure _ _ _ ?kb ?kl) ?k1 ?k2 ?k3 ?k4 ?k5 rfl ?k6 ?k7 ?k8 ?k9 ?kU ?_)
    (case k1 => k_asm); (case k2 => k_asm); (case k3 => k_asm); (case k4 => k_asm); (case k5 => k_asm); (case k6 => exact rfl); (case k7 => first | exact rfl | assumption); (case k8 => exact ⟨News.isList (by k_asm) (by k_mem), by first | assumption | exact .cons _ _ (.cons _ _ (.cons _ _ (.cons _ _ .nil)))⟩); (case k9 => (first | decide | omega | ktr_room)); (case kU => (first | decide | omega | ktr_units)); (case kb => first | assumption | exact fun b hm => hb b (List.mem_of_mem_take (i := 4) hm)); (case kl => first | assumption | exact Nat.le_of_ble_eq_true rfl)
    intro t9 h9 tk9 K9 F9 N9; clear K9; (try dsimp only)))
  unfold Pure
  k_fill
  intro dp un gd env outer A₀ base h₀ L m s Q E B F X T hf hke hPre hd hu hret
  refine wpAny_call ?_
  k_dflt (refine' code_pure (binds := [(Str.ofString "bits", .ref l)]) B F X T rfl hf hke ?k6 ?k7 ?k8 ?k9 ?kB ?_ ?c2 ?c3 ?c4 ?c5; (case k6 => k_is); (case k7 => k_is); (case k8 => (show dp < recursionLimit; omega)); (case k9 => first | exact BindsTo.of_eq rfl | exact binds_K (by k_in) rfl (by k_is) rfl rfl rfl); (case c5 => decide); (case kB => exact locs rfl); (case c2 => exact rfl); (case c3 => exact rfl); (case c4 => exact rfl))
  intro g' L' h' hg' F' N' B' X' T'
  clear B F X T
  rw [← hg'] at hret
  (try rw [← hg'] at hPre)
  (try dsimp only)
  have hI : IntsAre [.int b0 r0, .int b1 r1, .int b2 r2, .int b3 r3, .int b4 r4, .int b5 r5, .int b6 r6, .int b7 r7, .int b8 r8, .int b9 r9, .int b10 r10, .int b11 r11, .int b12 r12, .int b13 r13, .int b14 r14, .int b15 r15] [b0, b1, b2, b3, b4, b5, b6, b7, b8, b9, b10, b11, b12, b13, b14, b15] := .cons _ _ (.cons _ _ (.cons _ _ (.cons _ _ (.cons _ _ (.cons _ _ (.cons _ _ (.cons _ _ (.cons _ _ (.cons _ _ (.cons _ _ (.cons _ _ (.cons _ _ (.cons _ _ (.cons _ _ (.cons _ _ .nil)))))))))))))))
  have hn0 := (lawNum_range 4 [b0, b1, b2, b3] rfl fun b hm => hb b (List.mem_of_mem_take (i := 4) hm)).1
  have hn1 : lawNum [b0, b1, b2, b3] < 16 := (lawNum_range 4 [b0, b1, b2, b3] rfl fun b hm => hb b (List.mem_of_mem_take (i := 4) hm)).2
  have f7 := (bit_lt (hb b7 (.tail _ (.tail _ (.tail _ (.tail _ (.tail _ (.tail _ (.tail _ (.head _)))))))))).1
  have g7 := (bit_lt (hb b7 (.tail _ (.tail _ (.tail _ (.tail _ (.tail _ (.tail _ (.tail _ (.head _)))))))))).2
  have f8 := (bit_lt (hb b8 (.tail _ (.tail _ (.tail _ (.tail _ (.tail _ (.tail _ (.tail _ (.tail _ (.head _))))))))))).1
  have g8 := (bit_lt (hb b8 (.tail _ (.tail _ (.tail _ (.tail _ (.tail _ (.tail _ (.tail _ (.tail _ (.head _))))))))))).2
  have f10 := (bit_lt (hb b10 (.tail _ (.tail _ (.tail _ (.tail _ (.tail _ (.tail _ (.tail _ (.tail _ (.tail _ (.tail _ (.head _))))))))))))).1
  have g10 := (bit_lt (hb b10 (.tail _ (.tail _ (.tail _ (.tail _ (.tail _ (.tail _ (.tail _ (.tail _ (.tail _ (.tail _ (.head _))))))))))))).2
  have f11 := (bit_lt (hb b11 (.tail _ (.tail _ (.tail _ (.tail _ (.tail _ (.tail _ (.tail _ (.tail _ (.tail _ (.tail _ (.tail _ (.head _)))))))))))))).1
  have g11 := (bit_lt (hb b11 (.tail _ (.tail _ (.tail _ (.tail _ (.tail _ (.tail _ (.tail _ (.tail _ (.tail _ (.tail _ (.tail _ (.head _)))))))))))))).2
  have f13 := (bit_lt (hb b13 (.tail _ (.tail _ (.tail _ (.tail _ (.tail _ (.tail _ (.tail _ (.tail _ (.tail _ (.tail _ (.tail _ (.tail _ (.tail _ (.head _)))))))))))))))).1
  have g13 := (bit_lt (hb b13 (.tail _ (.tail _ (.tail _ (.tail _ (.tail _ (.tail _ (.tail _ (.tail _ (.tail _ (.tail _ (.tail _ (.tail _ (.tail _ (.head _)))))))))))))))).2
  have f14 := (bit_lt (hb b14 (.tail _ (.tail _ (.tail _ (.tail _ (.tail _ (.tail _ (.tail _ (.tail _ (.tail _ (.tail _ (.tail _ (.tail _ (.tail _ (.tail _ (.head _))))))))))))))))).1
  have g14 := (bit_lt (hb b14 (.tail _ (.tail _ (.tail _ (.tail _ (.tail _ (.tail _ (.tail _ (.tail _ (.tail _ (.tail _ (.tail _ (.tail _ (.tail _ (.tail _ (.head _))))))))))))))))).2
  have f9 := (bit_lt4 (hb b9 (.tail _ (.tail _ (.tail _ (.tail _ (.tail _ (.tail _ (.tail _ (.tail _ (.tail _ (.head _))))))))))) (hb b4 (.tail _ (.tail _ (.tail _ (.tail _ (.head _))))))).1
  have g9 := (bit_lt4 (hb b9 (.tail _ (.tail _ (.tail _ (.tail _ (.tail _ (.tail _ (.tail _ (.tail _ (.tail _ (.head _))))))))))) (hb b4 (.tail _ (.tail _ (.tail _ (.tail _ (.head _))))))).2
  have f12 := (bit_lt4 (hb b12 (.tail _ (.tail _ (.tail _ (.tail _ (.tail _ (.tail _ (.tail _ (.tail _ (.tail _ (.tail _ (.tail _ (.tail _ (.head _)))))))))))))) (hb b5 (.tail _ (.tail _ (.tail _ (.tail _ (.tail _ (.head _)))))))).1
  have g12 := (bit_lt4 (hb b12 (.tail _ (.tail _ (.tail _ (.tail _ (.tail _ (.tail _ (.tail _ (.tail _ (.tail _ (.tail _ (.tail _ (.tail _ (.head _)))))))))))))) (hb b5 (.tail _ (.tail _ (.tail _ (.tail _ (.tail _ (.head _)))))))).2
  have f15 := (bit_lt4 (hb b15 (.tail _ (.tail _ (.tail _ (.tail _ (.tail _ (.tail _ (.tail _ (.tail _ (.tail _ (.tail _ (.tail _ (.tail _ (.tail _ (.tail _ (.tail _ (.head _))))))))))))))))) (hb b6 (.tail _ (.tail _ (.tail _ (.tail _ (.tail _ (.tail _ (.head _))))))))).1
  have g15 := (bit_lt4 (hb b15 (.tail _ (.tail _ (.tail _ (.tail _ (.tail _ (.tail _ (.tail _ (.tail _ (.tail _ (.tail _ (.tail _ (.tail _ (.tail _ (.tail _ (.tail _ (.head _))))))))))))))))) (hb b6 (.tail _ (.tail _ (.tail _ (.tail _ (.tail _ (.tail _ (.head _))))))))).2
  have hg0 : [b0, b1, b2, b3, b4, b5, b6, b7, b8, b9, b10, b11, b12, b13, b14, b15].getD (4 + (0 + ((0 : Nat) : Int))).toNat 0 = b4 := rfl
  have hg1 : [b0, b1, b2, b3, b4, b5, b6, b7, b8, b9, b10, b11, b12, b13, b14, b15].getD (4 + (0 + ((0 + 1 : Nat) : Int))).toNat 0 = b5 := rfl
  have hg2 : [b0, b1, b2, b3, b4, b5, b6, b7, b8, b9, b10, b11, b12, b13, b14, b15].getD (4 + (0 + ((0 + 1 + 1 : Nat) : Int))).toNat 0 = b6 := rfl
  (repeat' (first | (k_unfold; (try dsimp only)) | (k_end; wrow_close) | ((with_reducible show wpAny _ _ (execs _ _) _ _ _); k_fold) | walk1 | (dsimp only; walk1) | (leave1; walk_say "STEP leave1"; try dsimp only) | fail "no step"))
  all_goals first | (refine retS hret (by assumption) rfl)
end Mine
end

section
open PySem PySem.W PyProof.Rows PySem.Calls PySem.Spec
set_option maxRecDepth 100000
set_option maxHeartbeats 1000000
namespace Mine
section
variable {prog : Program} {w : World} {A₀ A : Around} {s : Shared} {base h₀ : Heap} {outer : List Env} {L : Addr} {m : Str → Option Value} {env : Env} {K : Frag} {p : Program} {loose : List Str} {mean : ExcName → Option Value} {mg mb : Str → Option Value}
  {R : Result → Shared → Prop} {name qual : Str} {params : Arguments} {body : List Stmt} {scope : Scope} {dV kV doc pm cdv ct oc : Value} {an od : Option Addr} {osl : Array (Option Value)} {f : Addr} {args : Args} {binds : List (Str × Value)}
/-- as code_pure, a def with cells -/
theorem code_pureC (B : Below A₀ base outer h₀) (F : Fr h₀ L s.heap m) (X₀ : K.In h₀) (T : Top p loose mean mg mb h₀) (hA : A.frames = some (env :: outer)) (hf : env.frame = some L) (hke : env.scope.kind = .function)
    (ho : K.lookup f = some ⟨oc, od, .func (fnOf name qual params body scope dV kV doc pm an cdv ct), osl⟩) (hcd : codeIn K cdv qual = true) (hroom : A.depth < recursionLimit)
    (hbind : BindsTo s (fnOf name qual params body scope dV kV doc pm an cdv ct) args binds) (hkind : (binds.all fun y => scope.names.lookup y.1 == some .local || scope.names.lookup y.1 == some .cell) = true)
    (hnd : ((cellsFrom 0 scope.names []).map (·.1)).Nodup)
    (h : ∀ g L' h₁ tk cells, g = s.heap → Fr g L' h₁ (bindL (envOfC qual scope L' f cdv).kindOf binds fun _ => none) → News g L' h₁ cells →
      CellsAre (bindC (envOfC qual scope L' f cdv).kindOf binds fun _ => none) (cellsFrom (L' + 1) scope.names []) cells → Below A base (env :: outer) g → K.In g → Top p loose mean mg mb g →
      wpAny (model prog w) (A.deeper (envOfC qual scope L' f cdv)) (execs body (envOfC qual scope L' f cdv))
        (fun fl s' => LeaveP g R (match fl with | .ret v => v | _ => .none) s')
        (fun e s' => wpAny (model prog w) (A.deeper (envOfC qual scope L' f cdv)) (leaving (envOfC qual scope L' f cdv) e) (fun _ s'' => R (.error e) s'') (fun e' s'' => R (.error e') s'') s')
        { s with heap := h₁, toks := tk })
    (hco : scope.isCoroutine = false) (hgen : scope.isGenerator = false) (hk : scope.kind = .function) : codeAny (model prog w) A (.call (.ref f) args) R s := by
  obtain ⟨FG, BG, st, lv⟩ := groundX (R := R) B F (News.nil (h₀ := h₀) (L := L) (h := s.heap)) hA hf hke
  simp only [List.map_nil, hideAll] at FG BG st lv
  refine codeAny_call_function hroom ((X₀.keeps F.keep) _ _ ho) rfl hco hgen rfl (codeRec_of (X₀.keeps F.keep) hcd) (hbind _ _ _ _ ?_)
  refine wpAny_newFunctionEnv_cells hk (kindsX hkind _) fun env' he s' x => ?_
  subst he
  refine ⟨(T.nolimit.keeps F.keep).keeps x.toInCall.keep, codeAny_func ?_⟩
  obtain ⟨h₁, tk, rfl, _⟩ := x.done
  have hk₁ := x.toInCall.keep
  obtain ⟨cells, NC, Y⟩ := Cl.news (h₀ := s.heap) (Nat.le_refl _) fun n c hm => ⟨x.cell n c (lookup_of_mem_nodup (cellsFrom_names scope.names 0 (s.heap.objs.size + 1) [] [] rfl ▸ hnd) hm), x.above n c hm⟩
  exact wpAny_mono (h s.heap s.heap.objs.size h₁ tk cells rfl ⟨x.toInCall.ns, fun b o e => hk₁ b o e, Nat.le_refl _⟩ NC Y BG (X₀.keeps st) (T.keeps st)) (fun fl s' hl => let ⟨_, _, F', k⟩ := hl; k F'.keep) fun _ _ y => y
end

section
variable {prog : Program} {w : World} {A : Around} {E : Value → Shared → Prop} {s : Shared} {h₀ : Heap} {L : Addr} {m : Str → Option Value} {env : Env}
/-- a comprehension's source: a range with a step -/
noncomputable def StepSrc (prog : Program) (w : World) (A : Around) (h₀ : Heap) (L : Addr) (m : Str → Option Value) (env : Env) (elt : PySem.Expr) (x : Str) (scope : Scope) (cl : List (Str × Addr)) (Fin : Shared → List Value → List (Addr × Obj) → Prop) (xv : Value) (s₁ : Shared) : Prop :=
  ∃ r a b c t u v n news, xv = .ref r ∧ A.handled = none ∧ Fr h₀ L s₁.heap m ∧ News h₀ L s₁.heap news ∧ IsRange s₁.heap r a b c t u v ∧ Builtin.Range.small a b c = true ∧ Builtin.Range.rangeSize a b c = ((n : Nat) : Int) ∧ n ≤ sizeLine ∧
    ∀ g, LCg.CompRest prog w A h₀ L m env elt x scope cl { s₁ with heap := g } (fun _ => True) (fun i v => ∃ t, v = .int (a + (i : Nat) * c) t) (Fin { s₁ with heap := g }) n 0 [] news
theorem ListComp_step {elt iter : PySem.Expr} {x : Str} {px : Pos} {scope : Scope} {cl : List (Str × Addr)} {pos : Pos} {Q : Value → Shared → Prop} (F₀ : Fr h₀ L s.heap m)
    (hclos : closureFor scope env = pure cl) (hcell : ∀ y ∈ scope.names, y.2 ≠ .cell) (hkind : scope.kind = .function)
    (hnames : ∀ y ∈ scope.names, y.2 = .local → scope.names.lookup y.1 = some .local) (hx : scope.names.lookup x = some .local)
    (h : wpAny (model prog w) A (eval iter env) (StepSrc prog w A h₀ L m env elt x scope cl (fun s₂ => LCg.FinE h₀ L m s₂ Q)) E s)
    (hs : ∀ x, foldedSetIterable iter env x = pure x := by intro _; rfl) :
    wpAny (model prog w) A (eval (.ListComp elt [⟨.Name x px, iter, [], 0⟩] scope pos) env) Q E s := by
  rw [eval_ListComp]
  refine wpAny_comprehension_free (use := none) rfl hs hclos hkind hnames (wpAny_mono h (fun xv s₁ h₁ => ?_) fun _ _ e => e)
  obtain ⟨r, a, b, c, t, u, v, n, news, rfl, hh, F, N, hr, hsm, hn, hsz, R⟩ := h₁
  refine wpAny_pyIter_range hr hsm ?_
  refine LCg.block_U (Walks.range hh s₁.heap.objs.size a c n) hsz (fun i h st => ⟨_, st⟩) (fun i h h' o nw st e e' _ _ _ => by
      have st' : h.get? s₁.heap.objs.size = some _ := st
      show h'.get? s₁.heap.objs.size = some _
      rw [e', ← e]; exact st') hcell hkind hx (by show IsRangeIter _ _ _ _ _; rw [hn]; simpa using Heap.get?_push_size _ rfl) (fun b hb => ?_)
    (F.keeps fun _ _ e => Heap.get?_push_of_some _ e) (N.grown fun _ _ e => Heap.get?_push_of_some _ e) (Nat.ne_of_lt F.ns.lt) (next_is_new F) (fun p hp => Nat.ne_of_lt (Heap.lt_size (N p hp).1)) trivial (R _) ?_
  · rw [List.mem_singleton.mp hb]
    show s₁.heap.objs.size < (s₁.heap.push _).objs.size
    rw [Heap.size_push]; exact Nat.lt_succ_self _
  · intro D C h tk m' ys news' F' N' o1 hn hC₀ hD₀ hCL hDL hCD offC fin
    refine ⟨m', hn, fun h'' hs'' => fin D h'' tk (F'.change hs'' hCL hC₀) (fun p hp => ?_) o1⟩
    refine ⟨hs''.extBut _ _ ?_ (N' p hp).1, (N' p hp).2⟩
    rcases List.mem_cons.mp hp with rfl | hp
    · exact Ne.symm hCD
    · exact offC p hp
/-- the places that range counts -/
noncomputable def stepKs (a c : Int) (n : Nat) : List Int := (List.range n).map fun i => a + (i : Nat) * c
theorem stepKs_length (a c : Int) (n : Nat) : (stepKs a c n).length = n := by simp [stepKs]
theorem stepKs_get {a c : Int} {n i : Nat} (h : i < n) : (stepKs a c n)[i]? = some (a + (i : Nat) * c) := by simp [stepKs, h]
end
end Mine
end

section
open PySem PySem.W PyProof.Rows PySem.Calls PySem.Spec
set_option maxRecDepth 100000
namespace Mine
/-- an octet of bytes, as an int -/
noncomputable def octAt (b : Array UInt8) (k : Int) : Int := ((b.toList.getD k.toNat 0).toNat : Int)
theorem octAt_range (b : Array UInt8) (k : Int) : 0 ≤ octAt b k ∧ octAt b k < 256 := by
  unfold octAt
  exact ⟨Int.natCast_nonneg _, Int.ofNat_lt.mpr (b.toList.getD k.toNat 0).toNat_lt⟩
theorem item_oct {prog : Program} {w : World} {A : Around} {E : Value → Shared → Prop} {s : Shared} {value slice : PySem.Expr} {b : Array UInt8} {t u : Tok} {k : Int} {Q : Value → Shared → Prop} (hz : b.size ≤ 1000) (h0 : 0 ≤ k) (hk : k < (b.size : Int)) (h : 0 ≤ octAt b k → octAt b k < 256 → Q (.int (octAt b k) s.toks) { s with toks := s.toks + 1 })
    (hs : subscripted slice false (.bytes b.toList.toArray t) (.int k u) = operate [.bytes b.toList.toArray t, .int k u] (getItem (.bytes b.toList.toArray t) (.int k u)) := by with_unfolding_all rfl) :
    wpAny (model prog w) A (subscriptTail value slice (.bytes b t) (.int k u)) Q E s := by
  have hr := octAt_range b k
  rw [show (Value.bytes b t) = .bytes b.toList.toArray t by rw [Array.toArray_toList]]
  exact tail_any (T := "bytes") (typeIs_bytes _ _ _) FB.slot_bytes_getitem.lookup (getItem_bytes (by rw [Array.length_toList]; omega) h0 (by rw [Array.length_toList]; exact hk) (h hr.1 hr.2)) hs
theorem step_all : ∀ n : Nat, n < 1001 → Builtin.Range.small 0 ((n : Int) - 1) 2 = true ∧ Builtin.Range.rangeSize 0 ((n : Int) - 1) 2 = ((n / 2 : Nat) : Int) := by decide +kernel
theorem step_small {n : Nat} (h : n ≤ 1000) : Builtin.Range.small 0 ((n : Int) - 1) 2 = true := (step_all n (Nat.lt_succ_of_le h)).1
theorem step_size {n : Nat} (h : n ≤ 1000) : Builtin.Range.rangeSize 0 ((n : Int) - 1) 2 = ((n / 2 : Nat) : Int) := (step_all n (Nat.lt_succ_of_le h)).2
theorem step_le {n : Nat} (h : n ≤ 1000) : n / 2 ≤ sizeLine := Nat.le_trans (Nat.le_trans (Nat.div_le_self ..) h) (by rw [PySem.sizeLine_eq]; decide)
theorem step_mem {n : Nat} {k : Int} (h : k ∈ stepKs 0 2 (n / 2)) : 0 ≤ k ∧ k + 1 < (n : Int) := by
  obtain ⟨i, hi, rfl⟩ := List.mem_map.mp h
  have := List.mem_range.mp hi
  omega
end Mine
end

section
open PySem PySem.W PyProof.Rows PySem.Calls PySem.Spec
namespace Mine
theorem fmText_len (c : Int) : (fmText c).length = 10 := by unfold fmText; rw [KT.join_ones _ (fmSigns_one c)]; rfl
/-- the mode that two octets make -/
noncomputable def modeAt (b : Array UInt8) (k : Int) : Int := octAt b k * 256 + octAt b (k + 1)
/-- what _law_listed shows of octets -/
noncomputable def listText (b : Array UInt8) : Str := Txt.join (Str.ofString "") ((stepKs 0 2 (b.size / 2)).map fun k => fmText (modeAt b k))
end Mine
end

section
open PySem PySem.W PyProof.Rows PySem.Calls PySem.Spec
set_option maxRecDepth 100000
set_option maxHeartbeats 4000000
namespace Mine


theorem listed_pure {w : World} {loose mean mg mb} (b : Array UInt8) (t : Tok) (hz : b.size ≤ 1000) :
    Pure w loose mean mg mb 4 152 [.bytes b t] [] (fun _ => True) (fun t => .str (listText b) t) := by
  k_with_none
  w_top off
  (k_with "LeaveP" => ((refine LeaveP.intro (by assumption) ?_); intro kP; (try dsimp only)))
  (k_with "call type:type" => ((with_reducible show wpAny _ _ (call _ [Value.bytes _ _]) _ _ _); refine call_type_of (Tx := "bytes") rfl (by decide +kernel) ?_))
  (k_with "call ref" => (
    k_here
    k_dflt (first
    | ((with_reducible show wpAny _ _ (call (Value.ref 63) _ _) _ _ _); refine' Pure.use (b64_value_pure _ _) ?k1 ?k2 ?k3 ?k4 ?k5 rfl ?k6 ?k7 ?k8 ?k9 ?kU ?_)
    | ((with_reducible show wpAny _ _ (call (Value.ref 56) _ _) _ _ _); refine' Pure.use truth_pure ?k1 ?k2 ?k3 ?k4 ?k5 rfl ?k6 ?k7 ?k8 ?k9 ?kU ?_)
    | ((with_reducible show wpAny _ _ (call (Value.ref 49) _ _) _ _ _); refine' Pure.use (ascii_buffer_pure _ _) ?k1 ?k2 ?k3 ?k4 ?k5 rfl ?k6 ?k7 ?k8 ?k9 ?kU ?_)
    | ((with_reducible show wpAny _ _ (call (Value.ref 86) _ _) _ _ _); refine' Pure.use (S_IFMT_pure _ _) ?k1 ?k2 ?k3 ?k4 ?k5 rfl ?k6 ?k7 ?k8 ?k9 ?kU ?_))
    (case k1 => k_asm); (case k2 => k_asm); (case k3 => k_asm); (case k4 => k_asm); (case k5 => k_asm); (case k6 => exact rfl); (case k7 => first | exact rfl | assumption); (case k8 => trivial); (case k9 => (first | decide | omega | ktr_room)); (case kU => (first | decide | omega | ktr_units))
    intro t9 h9 tk9 K9 F9 N9; clear K9; (try dsimp only)))
  (k_with "call builtin:list.append" => (k_here; (with_reducible show wpAny _ _ (call (Value.builtin _) [Value.ref _, _]) _ _ _); k_dflt (refine' append_K ?k1 ?k2 ?k3 ?_ ?z; (case k1 => k_asm); (case k2 => k_asm); (case k3 => k_upd); (case z => ((try simp only [List.size_toArray]); rw [PySem.sizeLine_eq]; omega)); k_whole); intro h' F' N'; (try k_sweep)))
  (k_with "call type:bytes" => (
    k_here
    (with_reducible show wpAny _ _ (call (Value.type "bytes") [Value.ref _]) _ _ _)
    (with_reducible rename Fr _ _ _ _ => qF); (with_reducible rename News _ _ _ _ => qN)
    refine' call_bytes_ints ?k1 ?k2 ?k3 ?k4 rfl ?_
    (case k1 => exact News.isList qN (by k_mem)); (case k2 => assumption); (case k3 => assumption); (case k4 => (rw [PySem.sizeLine_eq]; omega))
    intro h9 t9 tk9 K9; have F9 := Kp.fr K9 qF; have N9 := Kp.news K9 qN; clear K9 qF qN; (try dsimp only)))
  (k_with "exec Raise some none" => (exfalso; omega))
  (k_with "InvEndN" => (k_dflt kst_close))
  (k_with "call builtin:str.encode" => (k_here; k_dflt (refine' call_encode ?k1 ?k2 ?_; (case k1 => assumption); (case k2 => (rw [PySem.sizeLine_eq]; omega))); intro t9 tk9; (try dsimp only)))
  (k_with "call builtin:bytes.maketrans" => (k_here; k_dflt (refine' call_maketrans ?_); intro t9 tk9; (try dsimp only)))
  (k_with "call builtin:bytes.translate" => (k_here; k_dflt (refine' call_translate ?k2 ?_; (case k2 => (rw [PySem.sizeLine_eq]; (try simp only [ascii, Array.size_map]); exact Nat.le_trans (show _ ≤ 1000 by assumption) (by decide)))); intro t9 tk9; (try dsimp only)))
  (k_with "getMethod str" => (k_here; with_reducible refine getm_encode ?_))
  (k_with "getMethod bytes" => (k_here; with_reducible refine getm_translate ?_))
  (k_with "getMethod type:bytes" => (k_here; (with_reducible refine' getm_maketrans ?k1 ?k2 ?_); (case k1 => k_asm); (case k2 => k_asm)))
  (k_with "exec For Tuple Call" => (k_here; (with_reducible rename Fr _ _ _ _ => qF); k_dflt (refine' For_turns qF ?_)))
  (k_with "exec For Tuple Name cons cons" => (k_here; k_dflt (refine' for_tup (h₀ := g') ?_)))
  (k_with "TupSrc" => (k_here; k_dflt (refine' tupSrc_K ?k0 ?k1 ?k2 ?kX ?k3 ?k4 ?k5 ?_; (case k0 => rfl); (case k1 => k_asm); (case k2 => k_asm); (case kX => k_asm); (case k3 => k_is); (case k4 => rfl); (case k5 => rfl)); intro it9 off9; (try simp only [List.forall_mem_cons, List.not_mem_nil, false_implies, implies_true, and_true] at off9); (try dsimp only)))
  (k_with "TupRest" => (k_here; k_dflt (first | (refine TupRest.cons ?_; intro h9 tk9 oi9 F9 N9 off9) | (refine TupRest.nil ?_; intro h9 tk9 F9 N9)); (try simp only [List.forall_mem_cons, List.not_mem_nil, false_implies, implies_true, and_true] at off9); (try dsimp only)))
  (k_with "TupEnd" => (k_here; k_dflt (first | (refine TupEnd.brk ?_) | (refine' TupEnd.next ?k1 ?k2 ?k3 ?_; (case k1 => k_asm); (case k2 => k_asm); (case k3 => (simp only [List.forall_mem_cons, List.not_mem_nil, false_implies, implies_true, and_true]; first | assumption | (refine ⟨?_, ?_, ?_⟩ <;> omega)))); (try dsimp only))))
  (k_with "EnumEnd" => (k_here; k_dflt (refine' EnumEnd.next ?k1 ?k2 ?k3 ?_; (case k1 => k_asm); (case k2 => first | k_asm | exact news_tail (by k_asm)); (case k3 => (simp only [List.forall_mem_cons, List.not_mem_nil, false_implies, implies_true, and_true]; (refine ⟨?_, ?_⟩ <;> omega))); (refine fm_next rfl rfl (by assumption) ?_); (show some _ = some _); (refine congrArg some ?_); (first | unfold fmKind | unfold fmOne | unfold fmThree); (repeat' split) <;> first | rfl | (exfalso; omega))))
  (k_with "call builtin:str.join" => (k_here; k_dflt (refine' join_listW ?k1 ?k2 ?k3 ?k4 ?_; (case k1 => exact News.isList (by k_asm) (by k_mem)); (case k2 => assumption); (case k3 => decide); (case k4 => assumption)); intro t9 tk9; (try dsimp only)))
  (k_with "eval ListComp" => (k_here; k_dflt (refine ListComp_step (F₀ := by k_asm) (by with_unfolding_all rfl) (by decide) (by rfl) (by decide) (by rfl) ?_)))
  (k_with "subscriptTail Name Name bytes int" => (k_here; k_dflt (refine' item_oct ?k1 ?k2 ?k3 ?_; (case k1 => assumption); (case k2 => omega); (case k3 => omega)); intro o9 o8; (try dsimp only)))
  (k_with "subscriptTail Name BinOp bytes int" => (k_here; k_dflt (refine' item_oct ?k1 ?k2 ?k3 ?_; (case k1 => assumption); (case k2 => omega); (case k3 => omega)); intro o9 o8; (try dsimp only)))
  (k_with "call ref" => (
    k_here
    (with_reducible show wpAny _ _ (call (Value.ref 126) _ _) _ _ _)
    k_dflt (refine' Pure.use (filemode_pure _ _) ?k1 ?k2 ?k3 ?k4 ?k5 rfl ?k6 ?k7 ?k8 ?k9 ?kU ?_)
    (case k1 => k_asm); (case k2 => k_asm); (case k3 => k_asm); (case k4 => k_asm); (case k5 => k_asm); (case k6 => exact rfl); (case k7 => first | exact rfl | assumption); (case k8 => trivial); (case k9 => (first | decide | omega | ktr_room)); (case kU => (first | decide | omega | ktr_units))
    intro t9 h9 tk9 K9 F9 N9; clear K9; (try dsimp only)))
  (k_with "call builtin:str.join" => (k_here; (with_reducible rename CarriedAll _ (List.map _ _) => ktC); k_dflt (refine' KT.join_B 10 ?k1 ktC ?k3 ?k4 ?k5 ?_; (case k1 => exact News.isList (by k_asm) (by k_mem)); (case k3 => exact fun _ _ => Nat.le_of_eq (fmText_len _)); (case k4 => omega); (case k5 => decide)); intro t9 tk9; (try dsimp only)))
  unfold Pure
  k_fill
  intro dp un gd env outer A₀ base h₀ L m s Q E B F X T hf hke hPre hd hu hret
  refine wpAny_call ?_
  k_dflt (refine' code_pureC (binds := [(Str.ofString "octets", .bytes b t)]) B F X T rfl hf hke ?k6 ?k7 ?k8 ?k9 ?kB ?kD ?_ ?c2 ?c3 ?c4; (case k6 => k_is); (case k7 => k_is); (case k8 => (show dp < recursionLimit; omega)); (case k9 => first | exact BindsTo.of_eq rfl | exact binds_K (by k_in) rfl (by k_is) rfl rfl rfl); (case kB => exact rfl); (case kD => decide +kernel); (case c2 => exact rfl); (case c3 => exact rfl); (case c4 => exact rfl))
  intro g' L' h' tk' cells' hg' F' N' Y' B' X' T'
  k_cells Y'
  clear B F X T
  rw [← hg'] at hret
  (try rw [← hg'] at hPre)
  (try dsimp only)
  (repeat' (first | (k_unfold; (try dsimp only)) | (k_end; wrow_close) | ((with_reducible show wpAny _ _ (execs _ _) _ _ _); k_fold) | walk1 | (dsimp only; walk1) | (leave1; walk_say "STEP leave1"; try dsimp only) | fail "no step"))
  (with_reducible rename Fr _ _ _ _ => qF); (with_reducible rename News _ _ _ _ => qN); (rename IsRange _ _ _ _ _ _ _ _ => qR)
  refine ⟨_, 0, (b.size : Int) - 1, 2, _, _, _, b.size / 2, _, rfl, rfl, qF, qN, qR, step_small hz, step_size hz, step_le hz, fun gg => ?_⟩
  clear qF qN qR
  refine kct_rest (ks := stepKs 0 2 (b.size / 2)) (fun k => fmText (modeAt b k)) (stepKs_length ..) (fun i v hi hv => ?_) (fun k t I oI C oC D m₂ ys h tk E' hk hC hx F N off ne mk => ?_) ?_
  · obtain ⟨t, rfl⟩ := hv
    exact ⟨_, t, stepKs_get hi, rfl⟩
  · have hkk := step_mem hk
    simp only [LCg.Off3, and_true] at off
    (repeat' (first | (k_unfold; (try dsimp only)) | (k_end; wrow_close) | ((with_reducible show wpAny _ _ (execs _ _) _ _ _); k_fold) | walk1 | (dsimp only; walk1) | (leave1; walk_say "STEP leave1"; try dsimp only) | fail "no step"))
    all_goals exact ⟨rfl, _, rfl⟩
  · unfold KPfDone
    intro ys hc hl D h tk F N off
    (repeat' (first | (k_unfold; (try dsimp only)) | (k_end; wrow_close) | ((with_reducible show wpAny _ _ (execs _ _) _ _ _); k_fold) | walk1 | (dsimp only; walk1) | (leave1; walk_say "STEP leave1"; try dsimp only) | fail "no step"))
    all_goals first | (refine retS hret (by assumption) rfl)
end Mine
end

section
open PySem PySem.W PyProof.Rows PySem.Calls PySem.Spec
namespace Mine
/-- a turn of _law_text's loop on the text -/
noncomputable def txStep (wr : Str) (x : Int) : Str :=
  if (x.fdiv 64).fmod 4 = 3 then wr ++ Txt.item (Str.ofString "ABCDEFGHIJKLMNOPQRSTUVWXYZabcdefghijklmnopqrstuvwxyz0123456789-?") (x.fmod 64) ++ Txt.item (Str.ofString "._~ \n") ((x.fdiv 256).fmod 5)
  else wr ++ Txt.item (Str.ofString "ABCDEFGHIJKLMNOPQRSTUVWXYZabcdefghijklmnopqrstuvwxyz0123456789-?") (x.fmod 64)
noncomputable def txOf (pre : List Int) : Str := pre.foldl txStep (Str.ofString "")
noncomputable def TxP (pre places : List Int) (wr : Str) : Prop := places = pre.map (fun x => x.fmod 64) ∧ wr = txOf pre
theorem item_len_le (x : Str) (k : Int) : (Txt.item x k).length ≤ 1 := Nat.le_refl _
theorem tx_start : TxP [] [] (Str.ofString "") ∧ ([] : List Int).length = ([] : List Int).length ∧ (Str.ofString "").length ≤ 2 * ([] : List Int).length := ⟨⟨rfl, rfl⟩, rfl, by decide⟩
theorem tx_next {pre places : List Int} {wr wr' : Str} {n : Int} (h : TxP pre places wr) (hl : places.length = pre.length) (hw : wr.length ≤ 2 * pre.length) (e : txStep wr n = wr') :
    TxP (pre ++ [n]) (places ++ [n.fmod 64]) wr' ∧ (places ++ [n.fmod 64]).length = (pre ++ [n]).length ∧ wr'.length ≤ 2 * (pre ++ [n]).length := by
  obtain ⟨rfl, rfl⟩ := h
  refine ⟨⟨by simp, ?_⟩, by simp, ?_⟩
  · rw [← e]; simp [txOf]
  · rw [← e]
    have h1 := item_len_le (Str.ofString "ABCDEFGHIJKLMNOPQRSTUVWXYZabcdefghijklmnopqrstuvwxyz0123456789-?") (n.fmod 64)
    have h2 := item_len_le (Str.ofString "._~ \n") ((n.fdiv 256).fmod 5)
    unfold txStep
    split <;> simp only [PySem.Str.length_append, List.length_append, List.length_cons, List.length_nil] <;> omega
theorem tx_junk {wr : Str} {n : Int} (h : (n.fdiv 64).fmod 4 = 3) : txStep wr n = wr ++ Txt.item (Str.ofString "ABCDEFGHIJKLMNOPQRSTUVWXYZabcdefghijklmnopqrstuvwxyz0123456789-?") (n.fmod 64) ++ Txt.item (Str.ofString "._~ \n") ((n.fdiv 256).fmod 5) := by unfold txStep; rw [if_pos h]
theorem tx_plain {wr : Str} {n : Int} (h : (n.fdiv 64).fmod 4 ≠ 3) : txStep wr n = wr ++ Txt.item (Str.ofString "ABCDEFGHIJKLMNOPQRSTUVWXYZabcdefghijklmnopqrstuvwxyz0123456789-?") (n.fmod 64) := by unfold txStep; rw [if_neg h]
/-- the ints that _law_text writes of -/
noncomputable def txInts (ns : List Int) : List Int := ns.take 12 ++ [18, 9, 52]
theorem txInts_len (ns : List Int) : (ns.take 12 ++ [18, 9, 52]).length ≤ 15 := by simp; omega
/-- the places of _law_text, and its text -/
noncomputable def txBare (ns : List Int) : List Int := (ns.take 12 ++ [18, 9, 52]).map fun (x : Int) => x.fmod 64
noncomputable def txPlaces (ns : List Int) : List Int := txBare ns ++ (List.replicate ((-((txBare ns).length : Int)).fmod 4).toNat [0]).flatten
noncomputable def txText (ns : List Int) : Str := txOf (ns.take 12 ++ [18, 9, 52]) ++ Txt.mul (Str.ofString "A") ((-((txBare ns).length : Int)).fmod 4)
theorem tx_end {ns places : List Int} {wr : Str} (h : TxP (ns.take 12 ++ [18, 9, 52]) places wr) : places = txBare ns ∧ wr = txOf (ns.take 12 ++ [18, 9, 52]) := h
/-- _law_text's theorem -/
noncomputable def TextTells (w : World) (loose : List Str) (mean : ExcName → Option Value) (mg mb : Str → Option Value) (l : Addr) (vs : List Value) (ns : List Int) : Prop :=
  ∀ (dp un : Nat) (gd : Option (List Code)) (env : Env) (outer : List Env) (A₀ : Around) (base h₀ : Heap) (L : Addr) (m : Str → Option Value) (s : Shared) (Q E : Value → Shared → Prop),
    Below A₀ base outer h₀ → Fr h₀ L s.heap m → (Mine.hd.heap_39 w.params).In h₀ → Top Mine.hd.view_39 loose mean mg mb h₀ → env.frame = some L → env.scope.kind = .function → s.heap.IsList l vs.toArray → dp + 1 < recursionLimit → un + 8 * 1 < cLine →
    (∀ (a lst : Addr) (t : Tok) (ws : List Value) (h' : Heap) (tk' : Nat), Kp s.heap h' → IntsAre ws (txPlaces ns) → s.heap.get? a = none → s.heap.get? lst = none → @LT.lt Nat _ lst a → h'.get? a = some { cls := .type "tuple", data := .seq #[.ref lst, .str (txText ns) t] } → h'.get? lst = some (W.listOf ws.toArray 0) → Q (.ref a) { s with heap := h', toks := tk' }) →
    wpAny (model PySem.Challenge.rw_qh0093_01.row.prog w) { handled := none, depth := dp, frames := some (env :: outer), guards := gd, units := un } (call (.ref 133) [.ref l]) Q E s
theorem TextTells.use {w : World} {loose : List Str} {mean : ExcName → Option Value} {mg mb : Str → Option Value} {l : Addr} {vs : List Value} {ns : List Int}
    {dp un : Nat} {gd : Option (List Code)} {env : Env} {outer : List Env} {A₀ A : Around} {base h₀ : Heap} {L : Addr} {m : Str → Option Value} {s : Shared} {Q E : Value → Shared → Prop} {news : List (Addr × Obj)}
    (C : TextTells w loose mean mg mb l vs ns) (B : Below A₀ base outer h₀) (F : Fr h₀ L s.heap m) (X : (Mine.hd.heap_39 w.params).In h₀) (N : News h₀ L s.heap news) (T : Top Mine.hd.view_39 loose mean mg mb h₀)
    (hA : A = { handled := none, depth := dp, frames := some (env :: outer), guards := gd, units := un }) (hf : env.frame = some L) (hke : env.scope.kind = .function) (hp : s.heap.IsList l vs.toArray) (hd : dp + 1 < recursionLimit) (hu : un + 8 * 1 < cLine)
    (h : ∀ (a lst : Addr) (t : Tok) (ws : List Value) (h' : Heap) (tk' : Nat), IntsAre ws (txPlaces ns) → @LT.lt Nat _ lst a → (∀ p ∈ news, (@Ne Nat p.1 a) ∧ (@Ne Nat p.1 lst)) → Fr h₀ L h' m → News h₀ L h' ((a, { cls := .type "tuple", data := .seq #[.ref lst, .str (txText ns) t] }) :: (lst, W.listOf ws.toArray 0) :: news) → Q (.ref a) { s with heap := h', toks := tk' }) :
    wpAny (model PySem.Challenge.rw_qh0093_01.row.prog w) A (call (.ref 133) [.ref l]) Q E s := by
  subst hA
  refine C dp un gd env outer A₀ base h₀ L m s Q E B F X T hf hke hp hd hu fun a lst t ws h' tk' kp hi na nl lt ha hl => ?_
  have old : ∀ b, s.heap.get? b = none → b ≠ L ∧ h₀.get? b = none := by
    intro b e
    constructor
    · intro q
      obtain ⟨o, _, _, ho, _⟩ := F.ns
      rw [q, ho] at e
      cases e
    · cases q : h₀.get? b with
      | none => rfl
      | some o =>
        have z := F.keep _ _ q
        rw [e] at z
        cases z
  refine h a lst t ws h' tk' hi lt (fun p hp => ⟨fun q => ?_, fun q => ?_⟩) (kp.fr F) fun p hp => ?_
  · have z := (N p hp).1
    rw [show p.1 = a from q, na] at z
    cases z
  · have z := (N p hp).1
    rw [show p.1 = lst from q, nl] at z
    cases z
  · rcases List.mem_cons.mp hp with rfl | hp
    · exact ⟨ha, old _ na⟩
    · rcases List.mem_cons.mp hp with rfl | hp
      · exact ⟨hl, old _ nl⟩
      · exact kp.news N p hp
end Mine
end

section
open PySem PySem.W PyProof.Rows PySem.Calls PySem.Spec
set_option maxRecDepth 100000
set_option maxHeartbeats 4000000
namespace Mine


theorem text_tells {w : World} {loose mean mg mb} (l : Addr) (vs : List Value) (ns : List Int) (hI : IntsAre vs ns) (hl : ns.length ≤ 63) : TextTells w loose mean mg mb l vs ns := by
  k_with_none
  w_top off
  (k_with "LeaveP" => ((refine LeaveP.intro (by assumption) ?_); intro kP; (try dsimp only)))
  (k_with "call type:type" => ((with_reducible show wpAny _ _ (call _ [Value.bytes _ _]) _ _ _); refine call_type_of (Tx := "bytes") rfl (by decide +kernel) ?_))
  (k_with "call ref" => (
    k_here
    k_dflt (first
    | ((with_reducible show wpAny _ _ (call (Value.ref 63) _ _) _ _ _); refine' Pure.use (b64_value_pure _ _) ?k1 ?k2 ?k3 ?k4 ?k5 rfl ?k6 ?k7 ?k8 ?k9 ?kU ?_)
    | ((with_reducible show wpAny _ _ (call (Value.ref 56) _ _) _ _ _); refine' Pure.use truth_pure ?k1 ?k2 ?k3 ?k4 ?k5 rfl ?k6 ?k7 ?k8 ?k9 ?kU ?_)
    | ((with_reducible show wpAny _ _ (call (Value.ref 49) _ _) _ _ _); refine' Pure.use (ascii_buffer_pure _ _) ?k1 ?k2 ?k3 ?k4 ?k5 rfl ?k6 ?k7 ?k8 ?k9 ?kU ?_)
    | ((with_reducible show wpAny _ _ (call (Value.ref 86) _ _) _ _ _); refine' Pure.use (S_IFMT_pure _ _) ?k1 ?k2 ?k3 ?k4 ?k5 rfl ?k6 ?k7 ?k8 ?k9 ?kU ?_))
    (case k1 => k_asm); (case k2 => k_asm); (case k3 => k_asm); (case k4 => k_asm); (case k5 => k_asm); (case k6 => exact rfl); (case k7 => first | exact rfl | assumption); (case k8 => trivial); (case k9 => (first | decide | omega | ktr_room)); (case kU => (first | decide | omega | ktr_units))
    intro t9 h9 tk9 K9 F9 N9; clear K9; (try dsimp only)))
  (k_with "call builtin:list.append" => (k_here; (with_reducible show wpAny _ _ (call (Value.builtin _) [Value.ref _, _]) _ _ _); k_dflt (refine' append_K ?k1 ?k2 ?k3 ?_ ?z; (case k1 => k_asm); (case k2 => k_asm); (case k3 => k_upd); (case z => ((try simp only [List.size_toArray]); rw [PySem.sizeLine_eq]; omega)); k_whole); intro h' F' N'; (try k_sweep)))
  (k_with "call type:bytes" => (
    k_here
    (with_reducible show wpAny _ _ (call (Value.type "bytes") [Value.ref _]) _ _ _)
    (with_reducible rename Fr _ _ _ _ => qF); (with_reducible rename News _ _ _ _ => qN)
    refine' call_bytes_ints ?k1 ?k2 ?k3 ?k4 rfl ?_
    (case k1 => exact News.isList qN (by k_mem)); (case k2 => assumption); (case k3 => assumption); (case k4 => (rw [PySem.sizeLine_eq]; omega))
    intro h9 t9 tk9 K9; have F9 := Kp.fr K9 qF; have N9 := Kp.news K9 qN; clear K9 qF qN; (try dsimp only)))
  (k_with "exec Raise some none" => (exfalso; omega))
  (k_with "InvEndN" => (k_dflt kst_close))
  (k_with "call builtin:str.encode" => (k_here; k_dflt (refine' call_encode ?k1 ?k2 ?_; (case k1 => assumption); (case k2 => (rw [PySem.sizeLine_eq]; omega))); intro t9 tk9; (try dsimp only)))
  (k_with "call builtin:bytes.maketrans" => (k_here; k_dflt (refine' call_maketrans ?_); intro t9 tk9; (try dsimp only)))
  (k_with "call builtin:bytes.translate" => (k_here; k_dflt (refine' call_translate ?k2 ?_; (case k2 => (rw [PySem.sizeLine_eq]; (try simp only [ascii, Array.size_map]); exact Nat.le_trans (show _ ≤ 1000 by assumption) (by decide)))); intro t9 tk9; (try dsimp only)))
  (k_with "getMethod str" => (k_here; with_reducible refine getm_encode ?_))
  (k_with "getMethod bytes" => (k_here; with_reducible refine getm_translate ?_))
  (k_with "getMethod type:bytes" => (k_here; (with_reducible refine' getm_maketrans ?k1 ?k2 ?_); (case k1 => k_asm); (case k2 => k_asm)))
  (k_with "exec For Name BinOp cons nil" => (k_here; (rename Fr _ _ _ _ => lF'); (with_unfolding_all refine' For_invVF lF' ?k1 ?k2 ?_; (case k1 => exact rfl); (case k2 => exact rfl); k_whole)))
  unfold TextTells
  k_fill
  intro dp un gd env outer A₀ base h₀ L m s Q E B F X T hf hke hL hd hu hret
  refine wpAny_call ?_
  k_dflt (refine' code_pure (binds := [(Str.ofString "script", .ref l)]) B F X T rfl hf hke ?k6 ?k7 ?k8 ?k9 ?kB ?_ ?c2 ?c3 ?c4 ?c5; (case k6 => k_is); (case k7 => k_is); (case k8 => (show dp < recursionLimit; omega)); (case k9 => first | exact BindsTo.of_eq rfl | exact binds_K (by k_in) rfl (by k_is) rfl rfl rfl); (case c5 => decide); (case kB => exact locs rfl); (case c2 => exact rfl); (case c3 => exact rfl); (case c4 => exact rfl))
  intro g' L' h' hg' F' N' B' X' T'
  clear B F X T
  rw [← hg'] at hret hL
  (try dsimp only)
  have hB := txInts_len ns
  (k_with "state" => first | exact tx_start | ((rename TxP _ _ _ => hA); first | exact tx_next hA (by assumption) (by assumption) (tx_junk (by assumption)) | exact tx_next hA (by assumption) (by assumption) (tx_plain (by assumption))))
  (k_with "pyIter ref" => k_state (fun pre places written => TxP pre places written ∧ places.length = pre.length ∧ written.length ≤ 2 * pre.length) "places" "written")
  (repeat' (first | (k_unfold; (try dsimp only)) | (k_end; wrow_close) | ((with_reducible show wpAny _ _ (execs _ _) _ _ _); k_fold) | walk1 | (dsimp only; walk1) | (leave1; walk_say "STEP leave1"; try dsimp only) | fail "no step"))
  (with_reducible rename News _ _ _ _ => qN)
  rename TxP _ _ _ => hA
  obtain ⟨rfl, rfl⟩ := tx_end hA
  exact hret _ _ _ _ _ _ (by assumption) (by assumption) (qN _ (.head _)).2.2 (qN _ (.tail _ (.head _))).2.2 (by omega) (qN _ (.head _)).1 (qN _ (.tail _ (.head _))).1
end Mine
end

section
open PySem PySem.W PyProof.Rows PySem.Calls PySem.Spec
set_option maxRecDepth 100000
set_option maxHeartbeats 1000000
namespace Mine
/-- all but these is kept -/
noncomputable def KX (S : List Addr) (h h' : Heap) : Prop := ∀ b o, b ∉ S → h.get? b = some o → h'.get? b = some o
theorem KX.refl {S : List Addr} (h : Heap) : KX S h h := fun _ _ _ e => e
theorem KX.trans {S : List Addr} {h h' h'' : Heap} (a : KX S h h') (b : KX S h' h'') : KX S h h'' := fun x o n e => b x o n (a x o n e)
theorem KX.of_same {S : List Addr} {d : Addr} {h h' : Heap} (hs : Heap.SameBut d h h') (hd : d ∈ S) : KX S h h' := fun b o n e => hs.extBut b o (fun q => n (q ▸ hd)) e

section
variable {prog : Program} {w : World} {A : Around} {R : Result → Shared → Prop} {s : Shared} {elt i0 i1 : PySem.Expr} {x0 x1 : Str} {p0 p1 : Pos} {scope : Scope} {pos : Pos} {env : Env}
noncomputable abbrev twoComp (elt i0 i1 : PySem.Expr) (x0 x1 : Str) (p0 p1 : Pos) (scope : Scope) (pos : Pos) : PySem.Expr := .ListComp elt [⟨.Name x0 p0, i0, [], 0⟩, ⟨.Name x1 p1, i1, [], 0⟩] scope pos
theorem turn_inner (it acc : Value) (env : Env) :
    compTurn (twoComp elt i0 i1 x0 x1 p0 p1 scope pos) 1 it acc env = (standAt i1.pos >>= fun _ => pyNext it >>= fun r => match r with
      | none => pure (.done .next)
      | some v => letOwnedTupleGo (.Name x1 p1) it v >>= fun _ => assign (.Name x1 p1) env v >>= fun _ =>
        (eval elt env >>= fun x => call (.builtin "list.append") [acc, x] >>= fun _ => pure ()) >>= fun _ =>
          again (.compLoop (twoComp elt i0 i1 x0 x1 p0 p1 scope pos) 1 it acc env)) := by rfl
theorem turn_outer (it acc : Value) (env : Env) :
    compTurn (twoComp elt i0 i1 x0 x1 p0 p1 scope pos) 0 it acc env = (standAt i0.pos >>= fun _ => pyNext it >>= fun r => match r with
      | none => pure (.done .next)
      | some v => letOwnedTupleGo (.Name x0 p0) it v >>= fun _ => assign (.Name x0 p0) env v >>= fun _ =>
        eval i1 env >>= fun x => standAt i1.pos >>= fun _ => foldedSetIterable i1 env x >>= fun x => holding [x] (pyIter x) >>= fun it1 =>
          runOwn (.compStart (twoComp elt i0 i1 x0 x1 p0 p1 scope pos) 1 it1 acc env) env >>= fun _ =>
          again (.compLoop (twoComp elt i0 i1 x0 x1 p0 p1 scope pos) 0 it acc env)) := by rfl
theorem start_inner {it acc : Value} (h0 : codeAny (model prog w) A (.compLoop (twoComp elt i0 i1 x0 x1 p0 p1 scope pos) 1 it acc env) R s)
    (h : wpAny (model prog w) A (pyIter it) (fun it' s' => codeAny (model prog w) A (.compLoop (twoComp elt i0 i1 x0 x1 p0 p1 scope pos) 1 it' acc env) R s') (notedBy (model prog w) A env fun x s' => R (.error x) s') s) :
    codeAny (model prog w) A (.compStart (twoComp elt i0 i1 x0 x1 p0 p1 scope pos) 1 it acc env) R s := by
  refine codeAny_of_tree ?_
  show wpAny _ _ ((compStart (twoComp elt i0 i1 x0 x1 p0 p1 scope pos) 1 it acc env).onRaise (fun x => do noteFrame x env; standAt theWindowsPlace)) _ _ s
  refine wpAny_notedAt ?_
  unfold compStart
  show wpAny _ _ (ask >>= _) _ _ s
  refine wpAny_bind (wpAny_askSetting (wpAny_ite ?_))
  split
  · first
      | exact wpAny_bind (wpAny_pure (wpAny_pure (And.intro rfl h0)))
      | exact wpAny_pure (And.intro rfl h0)
  · refine wpAny_bind (wpAny_rule ?_)
    show wpAny _ _ (standAt i1.pos >>= _) _ _ s
    exact wpAny_bind (wpAny_standAt (wpAny_bind (wpAny_mono h (fun it' s' h' => wpAny_pure (And.intro rfl h')) fun _ _ x => x)))

/-- what is known of the inner source and of the element -/
structure TwoOk (prog : Program) (w : World) (A : Around) (elt i1 : PySem.Expr) (x0 x1 : Str) (scope : Scope) (env : Env) (ps ks : List Int) (f : Int → Int → Int) : Prop where
  tup : ∀ C (s : Shared) (E : Value → Shared → Prop), wpAny (model prog w) A (eval i1 (compEnv scope C env)) (fun v s' => ∃ vs tk, IntsAre vs ks ∧ v = .ref s.heap.objs.size ∧ s' = { s with heap := s.heap.push { cls := .type "tuple", data := .seq vs.toArray }, toks := tk }) E s
  fold : ∀ C x, foldedSetIterable i1 (compEnv scope C env) x = pure x
  elt : ∀ C (m' : Str → Option Value) p k tp tk (s : Shared) (E : Value → Shared → Prop), s.heap.Ns C m' → m' x0 = some (.int p tp) → m' x1 = some (.int k tk) → p ∈ ps → k ∈ ks → wpAny (model prog w) A (eval elt (compEnv scope C env)) (fun v s' => ∃ t tk, v = .int (f p k) t ∧ s' = { s with toks := tk }) E s
variable {ps ks : List Int} {f : Int → Int → Int}
theorem inner_loop (O : TwoOk prog w A elt i1 x0 x1 scope env ps ks f) (hh : A.handled = none) (hkind : scope.kind = .function) (hx1 : scope.names.lookup x1 = some .local) (hne : x0 ≠ x1)
    {J T C D : Addr} {vs : List Value} {p : Int} {tp : Tok} {m : Str → Option Value} {zs : List Value} {ns : List Int} (hp : p ∈ ps) (hJC : J ≠ C) (hJD : J ≠ D) (hCD : C ≠ D) (hTJ : T ≠ J) (hTC : T ≠ C) (hTD : T ≠ D)
    (hit : s.heap.IsTupleIter J T 0) (hT : s.heap.IsTuple T vs.toArray) (hI : IntsAre vs ks) (hC : s.heap.Ns C m) (hm : m x0 = some (.int p tp)) (hD : s.heap.get? D = some (LCg.lst zs)) (hz : IntsAre zs ns) (hlen : ns.length + ks.length ≤ 1000)
    (done : ∀ h' tk m' zs', KX [J, C, D] s.heap h' → h'.Ns C m' → h'.get? D = some (LCg.lst zs') → IntsAre zs' (ns ++ ks.map (f p)) → R (.ok .next) { s with heap := h', toks := tk }) :
    codeAny (model prog w) A (.compLoop (twoComp elt i0 i1 x0 x1 p0 p1 scope pos) 1 (.ref J) (.ref D) (compEnv scope C env)) R s := by
  have hlk : vs.length = ks.length := hI.length
  refine codeAny_loop rfl (fun k s' => ∃ h' tk j m' zs', s' = { s with heap := h', toks := tk } ∧ j ≤ ks.length ∧ k = ks.length + 1 - j ∧ h'.IsTupleIter J T j ∧ h'.IsTuple T vs.toArray ∧ h'.Ns C m' ∧ m' x0 = some (.int p tp) ∧ h'.get? D = some (LCg.lst zs') ∧ IntsAre zs' (ns ++ (ks.take j).map (f p)) ∧ KX [J, C, D] s.heap h')
    ?_ (ks.length + 1) ⟨s.heap, s.toks, 0, m, zs, rfl, Nat.zero_le _, rfl, hit, hT, hC, hm, hD, by simpa using hz, KX.refl _⟩
  rintro k s' ⟨h', tk, j, m', zs', rfl, hj, rfl, hit', hT', hC', hm', hD', hz', hk'⟩
  show wpAny _ A ((compTurn (twoComp elt i0 i1 x0 x1 p0 p1 scope pos) 1 (.ref J) (.ref D) (compEnv scope C env)).onRaise (fun x => do noteFrame x (compEnv scope C env); theTreesLotGoes x)) _ _ _
  k_fold
  refine wpAny_noted ?_
  rw [turn_inner]
  refine wpAny_bind (wpAny_standAt (wpAny_bind ?_))
  by_cases hlt : j < ks.length
  · obtain ⟨v, hv⟩ : ∃ v, vs.toArray[j]? = some v := ⟨vs[j], by simp [hlk, hlt]⟩
    obtain ⟨kk, tt, rfl, hkk⟩ := IntsAre.at hI j v (by simpa using hv)
    refine wpAny_pyNext_tuple_item hit' hT' hv fun h₂ hit₂ hs₂ => ?_
    refine wpAny_bind (wpAny_of_eq (a := ()) rfl ?_)
    refine wpAny_bind (wpAny_assign_Name (wpAny_storeName_local (m := m') hx1 (hC'.sameBut hs₂ (Ne.symm hJC)) (fun h₃ hn₃ hs₃ => ?_) (by simp [compEnv, hkind])))
    refine wpAny_bind (wpAny_bind (wpAny_mono (O.elt C _ p kk tp tt _ _ hn₃ (by rw [if_neg hne]; exact hm') (by simp) hp (List.mem_of_getElem? hkk)) (fun v s₄ h₄ => ?_) fun _ _ z => z))
    obtain ⟨t4, tk4, rfl, rfl⟩ := h₄
    have hD₃ : h₃.get? D = some (LCg.lst zs') := hs₃.extBut _ _ (Ne.symm hCD) (hs₂.extBut _ _ (Ne.symm hJD) hD')
    refine wpAny_bind (append_at (hsz := ?_) hD₃ fun h₅ hs₅ hD₅ => ?_)
    · refine wpAny_pure (wpAny_pure ⟨rfl, ks.length + 1 - (j + 1), by omega, h₅, tk4, j + 1, _, zs' ++ [.int (f p kk) t4], rfl, hlt, rfl, ?_, ?_, hn₃.sameBut hs₅ hCD, by rw [if_neg hne]; exact hm', hD₅.trans (congrArg some (LCg.lst_snoc _ _)), ?_, ?_⟩)
      · exact (hit₂.extBut hs₃.extBut hJC).extBut hs₅.extBut hJD
      · exact ((hT'.extBut hs₂.extBut hTJ).extBut hs₃.extBut hTC).extBut hs₅.extBut hTD
      · rw [List.take_add_one, hkk]
        simp only [Option.toList_some, List.map_append, List.map_cons, List.map_nil, ← List.append_assoc]
        exact IntsAre.append hz' (.cons _ _ .nil)
      · exact ((hk'.trans (KX.of_same hs₂ (by simp))).trans (KX.of_same hs₃ (by simp [compEnv]))).trans (KX.of_same hs₅ (by simp))
    · show zs'.toArray.size ≤ sizeLine
      rw [List.size_toArray, hz'.length, PySem.sizeLine_eq, List.length_append, List.length_map, List.length_take]; omega
  · obtain rfl : j = ks.length := by omega
    refine wpAny_pyNext_tuple_end hh hit' hT' (by simp [hlk]) fun h₂ he => ?_
    refine wpAny_pure (done h₂ tk m' zs' (hk'.trans fun b o nb e => he b o (fun q => nb (by simp [q])) e) (hC'.at' fun o e => he _ o (Ne.symm hJC) e) (he _ _ (Ne.symm hJD) hD') ?_)
    rw [List.take_length] at hz'
    exact hz'
/-- the outer loop -/
theorem outer_loop (O : TwoOk prog w A elt i1 x0 x1 scope env ps ks f) (hh : A.handled = none) (hkind : scope.kind = .function) (hx0 : scope.names.lookup x0 = some .local) (hx1 : scope.names.lookup x1 = some .local) (hne : x0 ≠ x1)
    {I ax C D : Addr} {vs : List Value} {m : Str → Option Value} (hIC : I ≠ C) (hID : I ≠ D) (hCD : C ≠ D) (haI : ax ≠ I) (haC : ax ≠ C) (haD : ax ≠ D)
    (hit : s.heap.IsListIter I ax 0) (hl : s.heap.IsList ax vs.toArray) (hI : IntsAre vs ps) (hC : s.heap.Ns C m) (hD : s.heap.get? D = some (LCg.lst [])) (hlen : (ps.length + 1) * (ks.length + 1) ≤ 900)
    (done : ∀ h' tk m' zs', KX [I, C, D] s.heap h' → h'.Ns C m' → h'.get? D = some (LCg.lst zs') → IntsAre zs' (ps.flatMap fun p => ks.map (f p)) → R (.ok .next) { s with heap := h', toks := tk }) :
    codeAny (model prog w) A (.compLoop (twoComp elt i0 i1 x0 x1 p0 p1 scope pos) 0 (.ref I) (.ref D) (compEnv scope C env)) R s := by
  have hlk : vs.length = ps.length := hI.length
  have big : ∀ j, j ≤ ps.length → ((ps.take j).flatMap fun p => ks.map (f p)).length = j * ks.length := by
    intro j hj
    have : ∀ l : List Int, (l.flatMap fun p => ks.map (f p)).length = l.length * ks.length := by
      intro l
      induction l with
      | nil => simp
      | cons a r ih => rw [List.flatMap_cons, List.length_append, ih, List.length_map, List.length_cons, Nat.succ_mul]; omega
    rw [this, List.length_take, Nat.min_eq_left hj]
  refine codeAny_loop rfl (fun k s' => ∃ h' tk j m' zs', s' = { s with heap := h', toks := tk } ∧ j ≤ ps.length ∧ k = ps.length + 1 - j ∧ h'.IsListIter I ax j ∧ h'.IsList ax vs.toArray ∧ h'.Ns C m' ∧ h'.get? D = some (LCg.lst zs') ∧ IntsAre zs' ((ps.take j).flatMap fun p => ks.map (f p)) ∧ KX [I, C, D] s.heap h')
    ?_ (ps.length + 1) ⟨s.heap, s.toks, 0, m, [], rfl, Nat.zero_le _, rfl, hit, hl, hC, hD, .nil, KX.refl _⟩
  rintro k s' ⟨h', tk, j, m', zs', rfl, hj, rfl, hit', hl', hC', hD', hz', hk'⟩
  show wpAny _ A ((compTurn (twoComp elt i0 i1 x0 x1 p0 p1 scope pos) 0 (.ref I) (.ref D) (compEnv scope C env)).onRaise (fun x => do noteFrame x (compEnv scope C env); theTreesLotGoes x)) _ _ _
  k_fold
  refine wpAny_noted ?_
  rw [turn_outer]
  refine wpAny_bind (wpAny_standAt (wpAny_bind ?_))
  by_cases hlt : j < ps.length
  · obtain ⟨v, hv⟩ : ∃ v, vs.toArray[j]? = some v := ⟨vs[j], by simp [hlk, hlt]⟩
    obtain ⟨p, tp, rfl, hp⟩ := IntsAre.at hI j v (by simpa using hv)
    refine wpAny_pyNext_list_item hit' hl' hv fun h₂ hit₂ hs₂ => ?_
    refine wpAny_bind (wpAny_of_eq (a := ()) rfl ?_)
    refine wpAny_bind (wpAny_assign_Name (wpAny_storeName_local (m := m') hx0 (hC'.sameBut hs₂ (Ne.symm hIC)) (fun h₃ hn₃ hs₃ => ?_) (by simp [compEnv, hkind])))
    refine wpAny_bind (wpAny_mono (O.tup C _ _) (fun v s₄ h₄ => ?_) fun _ _ z => z)
    obtain ⟨ts, tk4, hts, rfl, rfl⟩ := h₄
    refine wpAny_bind (wpAny_standAt (wpAny_bind (wpAny_of_eq (O.fold C _) (wpAny_bind (wpAny_holding ?_)))))
    dsimp only
    have hT₄ : (h₃.push { cls := .type "tuple", data := .seq ts.toArray }).IsTuple h₃.objs.size ts.toArray := ⟨_, Heap.get?_push_size _ rfl, rfl, _, rfl⟩
    refine wpAny_pyIter_tuple hT₄ ?_
    generalize hH5 : (h₃.push { cls := .type "tuple", data := .seq ts.toArray }).push { cls := .type "tuple_iterator", data := .fields #[.ref h₃.objs.size, .int 0 0] } = h₅
    have hz4 : (h₃.push { cls := .type "tuple", data := .seq ts.toArray }).objs.size = h₃.objs.size + 1 := Heap.size_push ..
    have hT₅ : h₅.IsTuple h₃.objs.size ts.toArray := by rw [← hH5]; exact hT₄.push _
    have hJ₅ : h₅.IsTupleIter (h₃.objs.size + 1) h₃.objs.size 0 := by
      rw [← hH5]
      have q := Heap.get?_push_size (h₃.push { cls := .type "tuple", data := .seq ts.toArray }) (o := { cls := .type "tuple_iterator", data := .fields #[.ref h₃.objs.size, .int 0 0] }) rfl
      rw [hz4] at q
      exact ⟨_, q, rfl, rfl⟩
    have up : ∀ b o, h₃.get? b = some o → h₅.get? b = some o := fun b o e => by rw [← hH5]; exact Heap.get?_push_of_some _ (Heap.get?_push_of_some _ e)
    have hD₃ : h₃.get? D = some (LCg.lst zs') := hs₃.extBut _ _ (Ne.symm hCD) (hs₂.extBut _ _ (Ne.symm hID) hD')
    have hI₃ : h₃.IsListIter I ax (j + 1) := hit₂.extBut hs₃.extBut hIC
    have hl₃ : h₃.IsList ax vs.toArray := (hl'.extBut hs₂.extBut haI).extBut hs₃.extBut haC
    have ltD : D < h₃.objs.size := Heap.lt_size hD₃
    have ltC : C < h₃.objs.size := hn₃.lt
    have ltI : I < h₃.objs.size := by obtain ⟨o, ho, _⟩ := hI₃; exact Heap.lt_size ho
    have ltA : ax < h₃.objs.size := by obtain ⟨o, ho, _⟩ := hl₃; exact Heap.lt_size ho
    have ne0 : ∀ b, b < h₃.objs.size → b ≠ h₃.objs.size ∧ b ≠ h₃.objs.size + 1 := fun b hb => ⟨Nat.ne_of_lt hb, Nat.ne_of_lt (Nat.lt_succ_of_lt hb)⟩
    rw [hz4]
    have hn₅ : h₅.Ns C _ := hn₃.keeps up
    have loop : ∀ R' : Result → Shared → Prop, (∀ h' tk m' zs'', KX [h₃.objs.size + 1, C, D] h₅ h' → h'.Ns C m' → h'.get? D = some (LCg.lst zs'') → IntsAre zs'' (((ps.take j).flatMap fun p => ks.map (f p)) ++ ks.map (f p)) → R' (.ok .next) { s with heap := h', toks := tk }) →
        codeAny (model prog w) A (.compLoop (twoComp elt i0 i1 x0 x1 p0 p1 scope pos) 1 (.ref (h₃.objs.size + 1)) (.ref D) (compEnv scope C env)) R' { s with heap := h₅, toks := tk4 } := by
      intro R' hd
      refine inner_loop O hh hkind hx1 hne (List.mem_of_getElem? hp) (Ne.symm (ne0 C ltC).2) (Ne.symm (ne0 D ltD).2) hCD (Nat.ne_of_lt (Nat.lt_succ_self _)) (Ne.symm (ne0 C ltC).1) (Ne.symm (ne0 D ltD).1) hJ₅ hT₅ hts hn₅ (if_pos rfl) (up _ _ hD₃) hz' ?_ hd
      rw [big j (Nat.le_of_lt hlt)]
      have : j * ks.length + ks.length ≤ (ps.length + 1) * (ks.length + 1) := by
        have h1 : (j + 1) * ks.length ≤ (ps.length + 1) * (ks.length + 1) := Nat.mul_le_mul (by omega) (Nat.le_succ _)
        rw [Nat.succ_mul] at h1; exact h1
      omega
    refine wpAny_bind (wpAny_runOwn ?_)
    refine start_inner (loop _ ?fin) (wpAny_pyIter_tupleiter hJ₅ (loop _ ?fin))
    case fin =>
      intro h₆ tk₆ m₆ zs₆ hk₆ hC₆ hD₆ hz₆
      refine wpAny_pure ⟨rfl, ps.length + 1 - (j + 1), by omega, h₆, tk₆, j + 1, m₆, zs₆, rfl, hlt, rfl, ?_, ?_, hC₆, hD₆, ?_, ?_⟩
      · obtain ⟨o, ho, r⟩ := hI₃
        exact ⟨o, hk₆ _ _ (by simp only [List.mem_cons, List.not_mem_nil, or_false, not_or]; exact ⟨(ne0 I ltI).2, hIC, hID⟩) (up _ _ ho), r⟩
      · obtain ⟨o, ho, r⟩ := hl₃
        exact ⟨o, hk₆ _ _ (by simp only [List.mem_cons, List.not_mem_nil, or_false, not_or]; exact ⟨(ne0 ax ltA).2, haC, haD⟩) (up _ _ ho), r⟩
      · rw [List.take_add_one, hp]
        simpa using hz₆
      · intro b o nb e
        have e3 := (hk'.trans ((KX.of_same hs₂ (by simp)).trans (KX.of_same hs₃ (by simp [compEnv])))) b o nb e
        refine hk₆ b o ?_ (up _ _ e3)
        simp only [List.mem_cons, List.not_mem_nil, or_false, not_or] at nb ⊢
        exact ⟨(ne0 b (Heap.lt_size e3)).2, nb.2.1, nb.2.2⟩
  · obtain rfl : j = ps.length := by omega
    refine wpAny_pyNext_list_end hh hit' hl' (by simp [hlk]) fun h₂ he => ?_
    refine wpAny_pure (done h₂ tk m' zs' (hk'.trans fun b o nb e => he b o (fun q => nb (by simp [q])) e) (hC'.at' fun o e => he _ o (Ne.symm hIC) e) (he _ _ (Ne.symm hID) hD') ?_)
    rw [List.take_length] at hz'
    exact hz'
end
end Mine
end

section
open PySem PySem.W PyProof.Rows PySem.Calls PySem.Spec
set_option maxRecDepth 100000
set_option maxHeartbeats 1000000
namespace Mine
section
variable {prog : Program} {w : World} {A : Around} {E : Value → Shared → Prop} {s : Shared} {elt i0 i1 : PySem.Expr} {x0 x1 : Str} {p0 p1 : Pos} {scope : Scope} {pos : Pos} {env : Env} {h₀ : Heap} {L : Addr}
noncomputable def TwoSrc (prog : Program) (w : World) (A : Around) (h₀ : Heap) (L : Addr) (env : Env) (elt i1 : PySem.Expr) (x0 x1 : Str) (scope : Scope) (Q : Value → Shared → Prop) (xv : Value) (s₁ : Shared) : Prop :=
  ∃ ax vs ps ks f m news nn, xv = .ref ax ∧ A.handled = none ∧ Fr h₀ L s₁.heap m ∧ News h₀ L s₁.heap news ∧ (ax, W.listOf vs.toArray nn) ∈ news ∧ IntsAre vs ps ∧ TwoOk prog w A elt i1 x0 x1 scope env ps ks f ∧ (ps.length + 1) * (ks.length + 1) ≤ 900 ∧
    ∀ D h tk zs, IntsAre zs (ps.flatMap fun p => ks.map (f p)) → (∀ p ∈ news, @LT.lt Nat _ p.1 D) → Fr h₀ L h m → News h₀ L h ((D, LCg.lst zs) :: news) → Q (.ref D) { s₁ with heap := h, toks := tk }
theorem ListComp_two {Q : Value → Shared → Prop} {m₀ : Str → Option Value} (F₀ : Fr h₀ L s.heap m₀) (hfree : ∀ x ∈ scope.names, x.2 ≠ .free) (hcell : ∀ y ∈ scope.names, y.2 ≠ .cell) (hkind : scope.kind = .function) (hnames : ∀ x ∈ scope.names, x.2 = .local → scope.names.lookup x.1 = some .local)
    (hx0 : scope.names.lookup x0 = some .local) (hx1 : scope.names.lookup x1 = some .local) (hne : x0 ≠ x1)
    (h : wpAny (model prog w) A (eval i0 env) (TwoSrc prog w A h₀ L env elt i1 x0 x1 scope Q) E s) (hs : ∀ x, foldedSetIterable i0 env x = pure x := by intro _; rfl) :
    wpAny (model prog w) A (eval (twoComp elt i0 i1 x0 x1 p0 p1 scope pos) env) Q E s := by
  refine wpAny_ListComp hfree hkind hnames (wpAny_mono h (fun xv s₁ h₁ => ?_) fun _ _ e => e) hs
  obtain ⟨ax, vs, ps, ks, f, m, news, nn, rfl, hh, F, N, hm, hI, O, hlen, fin⟩ := h₁
  have hl : s₁.heap.IsList ax vs.toArray := ⟨_, (N _ hm).1, rfl, _, rfl⟩
  refine wpAny_pyIter_list hl ?_
  refine wpAny_newObj_type (wpAny_newFunctionEnv hcell (by intro y hy; simp at hy) (fun h₁ hns₁ hsb₁ => ?_) hkind)
  dsimp only at hns₁ hsb₁ ⊢
  generalize hH1 : s₁.heap.push { cls := .type "list_iterator", dict := none, data := .fields #[.ref ax, .int 0 0] } = H1 at hns₁ hsb₁ ⊢
  have z1 : H1.objs.size = s₁.heap.objs.size + 1 := by rw [← hH1, Heap.size_push]
  generalize hH2 : H1.push { cls := .type "list", dict := none, data := .seq ([] : List Value).toArray } = H2 at hns₁ hsb₁ ⊢
  have z2 : H2.objs.size = s₁.heap.objs.size + 2 := by rw [← hH2, Heap.size_push, z1]
  have up : ∀ b o, s₁.heap.get? b = some o → h₁.get? b = some o := fun b o e => hsb₁.extBut b o (by have := ltN (Heap.lt_size e); refine neN ?_; omega) (Heap.get?_push_of_some _ (hH2 ▸ Heap.get?_push_of_some _ (hH1 ▸ Heap.get?_push_of_some _ e)))
  have hit : h₁.IsListIter s₁.heap.objs.size ax 0 := ⟨_, hsb₁.extBut _ _ (by refine neN ?_; omega) (Heap.get?_push_of_some _ (hH2 ▸ Heap.get?_push_of_some _ (hH1 ▸ Heap.get?_push_size _ rfl))), rfl, rfl⟩
  have hD : h₁.get? H1.objs.size = some (LCg.lst []) := hsb₁.extBut _ _ (by refine neN ?_; omega) (Heap.get?_push_of_some _ (hH2 ▸ Heap.get?_push_size _ rfl))
  have lt : ∀ b o, s₁.heap.get? b = some o → b < s₁.heap.objs.size := fun b o e => Heap.lt_size e
  have hax : @LT.lt Nat _ ax s₁.heap.objs.size := lt _ _ (N _ hm).1
  have out : ∀ R : Result → Shared → Prop, (∀ h' tk m' zs', KX [s₁.heap.objs.size, H2.objs.size, H1.objs.size] h₁ h' → h'.Ns H2.objs.size m' → h'.get? H1.objs.size = some (LCg.lst zs') → IntsAre zs' (ps.flatMap fun p => ks.map (f p)) → R (.ok .next) { s₁ with heap := h', toks := tk }) →
      codeAny (model prog w) A (.compLoop (twoComp elt i0 i1 x0 x1 p0 p1 scope pos) 0 (.ref s₁.heap.objs.size) (.ref H1.objs.size) (compEnv scope H2.objs.size env)) R { s₁ with heap := h₁, toks := s₁.toks + ([] : List (Str × Value)).length } := fun R hd =>
    outer_loop O hh hkind hx0 hx1 hne (by refine neN ?_; omega) (by refine neN ?_; omega) (by refine neN ?_; omega) (Nat.ne_of_lt hax) (by refine neN ?_; omega) (by refine neN ?_; omega) hit (hl.at fun o e => up _ _ e) hI hns₁ hD hlen hd
  refine codeAny_compStart_list (out _ ?fin) (wpAny_pyIter_listiter hit (out _ ?fin))
  intro h' tk m' zs' hk hC hD' hz
  refine ⟨m', hC, fun h'' hs'' => ?_⟩
  have keep : ∀ b o, s₁.heap.get? b = some o → h''.get? b = some o := fun b o e => by
    have hb := ltN (Heap.lt_size e)
    refine hs''.extBut b o (by show @Ne Nat b H2.objs.size; omega) (hk b o ?_ (up _ _ e))
    simp only [List.mem_cons, List.not_mem_nil, or_false, not_or]
    exact ⟨Nat.ne_of_lt hb, by refine neN ?_; omega, by refine neN ?_; omega⟩
  refine fin _ _ _ _ hz (fun p hp => ?_) (F.keeps keep) fun p hp => ?_
  · have := ltN (Heap.lt_size (N p hp).1)
    omega
  · rcases List.mem_cons.mp hp with rfl | hp
    · refine ⟨hs''.extBut _ _ (by show @Ne Nat H1.objs.size H2.objs.size; omega) hD', ?_, ?_⟩
      · have := ltN F.ns.lt
        show H1.objs.size ≠ L
        refine neN ?_; omega
      · cases q : h₀.get? H1.objs.size with
        | none => rfl
        | some o =>
          have := ltN (Heap.lt_size (F.keep _ _ q))
          omega
    · exact ⟨keep _ _ (N p hp).1, (N p hp).2⟩
end
end Mine
end

section
open PySem PySem.W PyProof.Rows PySem.Calls PySem.Spec
set_option maxRecDepth 100000
set_option maxHeartbeats 1000000
namespace Mine
section
variable {prog : Program} {w : World} {A : Around} {E : Value → Shared → Prop} {scope : Scope} {env : Env}
theorem two_small : ∀ n : Nat, n < 6 → ((2 : Int) ^ ((n : Nat) : Int).toNat).natAbs < 1073741824 := by decide
theorem small_div {p k : Int} (hk0 : 0 ≤ k) (hk : k ≤ 5) : Builtin.divisionGoesByPylong p (2 ^ k.toNat) = false := by
  refine PyProof.noPylong_small ?_
  obtain ⟨n, rfl⟩ := Int.eq_ofNat_of_zero_le hk0
  exact two_small n (Nat.lt_succ_of_le (Int.ofNat_le.mp hk))
theorem bits_elt {x0 x1 : Str} {q0 q1 q2 q3 q4 q5 q6 : Pos} {z1 z2 : Nat} (hkind : scope.kind = .function) (hx0 : scope.names.lookup x0 = some .local) (hx1 : scope.names.lookup x1 = some .local) (hd0 : (x0 == ("__debug__" : Str)) = false) (hd1 : (x1 == ("__debug__" : Str)) = false)
    {C : Addr} {m' : Str → Option Value} {p k : Int} {tp tk : Tok} {s : Shared} (hn : s.heap.Ns C m') (h0 : m' x0 = some (.int p tp)) (h1 : m' x1 = some (.int k tk)) (hk0 : 0 ≤ k) (hk : k ≤ 5) :
    wpAny (model prog w) A (eval (.BinOp (.BinOp (.Name x0 q0) .FloorDiv (.BinOp (.Constant (.int 2) z1 q1) .Pow (.Name x1 q2) q3) q4) .Mod (.Constant (.int 2) z2 q5) q6) (compEnv scope C env))
      (fun v s' => ∃ t tk, v = .int ((p.fdiv (2 ^ k.toNat)).fmod 2) t ∧ s' = { s with toks := tk }) E s := by
  refine wpAny_BinOp (wpAny_BinOp (wpAny_Name (wpAny_loadName_local hkind hx0 hn h0 ?_) hd0))
  refine wpAny_BinOp (wpAny_Constant_int (wpAny_Name (wpAny_loadName_local hkind hx1 hn h1 ?_) hd1))
  refine pow_int hk0 ?_ ?_
  · have : Builtin.Int.intBits 2 = 2 := by decide +kernel
    rw [this]; omega
  · refine floordiv_int ?_ ?_ (Or.inl (small_div hk0 hk))
    · exact Int.ne_of_gt (Int.pow_pos (by decide))
    · exact wpAny_Constant_int (mod_int (by decide) ⟨_, _, rfl, rfl⟩)
theorem bits_tup {a5 a4 a3 a2 a1 a0 : Pos} {b5 b4 b3 b2 b1 b0 kk : Nat} {q : Pos} {C : Addr} {s : Shared} :
    wpAny (model prog w) A (eval (.Tuple [.Constant (.int 5) b5 a5, .Constant (.int 4) b4 a4, .Constant (.int 3) b3 a3, .Constant (.int 2) b2 a2, .Constant (.int 1) b1 a1, .Constant (.int 0) b0 a0] kk q) (compEnv scope C env))
      (fun v s' => ∃ vs tk, IntsAre vs [5, 4, 3, 2, 1, 0] ∧ v = .ref s.heap.objs.size ∧ s' = { s with heap := s.heap.push { cls := .type "tuple", data := .seq vs.toArray }, toks := tk }) E s := by
  refine wpAny_Tuple ?_
  refine spliced_more (wpAny_Constant_int (spliced_more (wpAny_Constant_int (spliced_more (wpAny_Constant_int (spliced_more (wpAny_Constant_int (spliced_more (wpAny_Constant_int (spliced_more (wpAny_Constant_int (spliced_none ?_))))))))))))
  refine ⟨by show 6 ≤ sizeLine; rw [PySem.sizeLine_eq]; decide, _, _, ?_, rfl, rfl⟩
  exact .cons _ _ (.cons _ _ (.cons _ _ (.cons _ _ (.cons _ _ (.cons _ _ .nil)))))
theorem bits_ok {x0 x1 : Str} {q0 q1 q2 q3 q4 q5 q6 : Pos} {z1 z2 : Nat} {a5 a4 a3 a2 a1 a0 : Pos} {b5 b4 b3 b2 b1 b0 kk : Nat} {q : Pos} (ps : List Int) (hkind : scope.kind = .function) (hx0 : scope.names.lookup x0 = some .local) (hx1 : scope.names.lookup x1 = some .local) (hd0 : (x0 == ("__debug__" : Str)) = false) (hd1 : (x1 == ("__debug__" : Str)) = false) :
    TwoOk prog w A (.BinOp (.BinOp (.Name x0 q0) .FloorDiv (.BinOp (.Constant (.int 2) z1 q1) .Pow (.Name x1 q2) q3) q4) .Mod (.Constant (.int 2) z2 q5) q6)
      (.Tuple [.Constant (.int 5) b5 a5, .Constant (.int 4) b4 a4, .Constant (.int 3) b3 a3, .Constant (.int 2) b2 a2, .Constant (.int 1) b1 a1, .Constant (.int 0) b0 a0] kk q) x0 x1 scope env ps [5, 4, 3, 2, 1, 0] (fun p k => (p.fdiv (2 ^ k.toNat)).fmod 2) where
  tup := fun C s E => bits_tup
  fold := fun C x => rfl
  elt := fun C m' p k tp tk s E hn h0 h1 _ hk => by
    simp only [List.mem_cons, List.not_mem_nil, or_false] at hk
    exact bits_elt hkind hx0 hx1 hd0 hd1 hn h0 h1 (by omega) (by omega)
/-- the bits of places -/
noncomputable def bitsOf (ps : List Int) : List Int := ps.flatMap fun p => [5, 4, 3, 2, 1, 0].map fun (k : Int) => (p.fdiv (2 ^ k.toNat)).fmod 2
end
end Mine
end

section
open PySem PySem.W PyProof.Rows PySem.Calls PySem.Spec
namespace Mine
theorem txBare_len (ns : List Int) : 3 ≤ (txBare ns).length ∧ (txBare ns).length ≤ 15 := by
  unfold txBare; simp; omega
theorem flat_zero (n : Nat) : (List.replicate n [(0 : Int)]).flatten = List.replicate n 0 := by
  induction n with
  | zero => rfl
  | succ n ih => rw [List.replicate_succ, List.flatten_cons, ih, List.replicate_succ]; rfl
theorem txPlaces_eq (ns : List Int) : txPlaces ns = txBare ns ++ List.replicate ((-((txBare ns).length : Int)).fmod 4).toNat 0 := by unfold txPlaces; rw [flat_zero]
theorem txOver : ∀ n : Nat, n < 16 → 3 ≤ n → 4 ≤ n + ((-(n : Int)).fmod 4).toNat ∧ n + ((-(n : Int)).fmod 4).toNat ≤ 16 ∧ (n + ((-(n : Int)).fmod 4).toNat) % 4 = 0 := by decide +kernel
theorem txPlaces_len (ns : List Int) : 4 ≤ (txPlaces ns).length ∧ (txPlaces ns).length ≤ 16 ∧ (txPlaces ns).length % 4 = 0 := by
  have h1 := txBare_len ns
  rw [txPlaces_eq, List.length_append, List.length_replicate]
  exact txOver _ (Nat.lt_succ_of_le h1.2) h1.1
theorem txPlaces_room (ns : List Int) : ((txPlaces ns).length + 1) * (([5, 4, 3, 2, 1, 0] : List Int).length + 1) ≤ 900 := by
  exact Nat.le_trans (Nat.mul_le_mul_right 7 (Nat.succ_le_succ (txPlaces_len ns).2.1)) (by decide)
/-- a text that b64decode reads -/
structure DecOk (x : Str) : Prop where
  hx : ∀ c ∈ x.cps, c < 128
  hz : x.length ≤ 1000
  hb : (readOf x).toList.length ≤ 1000
  hq1 : (a2bEnd (intsOf (readOf x))).2.1 ≠ 1
  hq2 : (a2bEnd (intsOf (readOf x))).2.1 = 0 ∨ 4 ≤ (a2bEnd (intsOf (readOf x))).2.1 + (a2bEnd (intsOf (readOf x))).2.2.2
/-- what it reads -/
noncomputable def decOf (x : Str) : Array UInt8 := byteArr (a2bEnd (intsOf (readOf x))).1
theorem b64decode_ok {w : World} {loose mean mg mb} (x : Str) (t u : Tok) (h : DecOk x) : Pure w loose mean mg mb 3 79 [.str x t, .bytes #[45, 63] u] [] (fun _ => True) (fun t => .bytes (decOf x) t) := b64decode_pure x t u h.hx h.hz h.hb h.hq1 h.hq2
theorem flat_len (f : Int → List Int) (n : Nat) (h : ∀ p, (f p).length = n) : ∀ ps : List Int, (ps.flatMap f).length = ps.length * n
  | [] => by simp
  | p :: r => by rw [List.flatMap_cons, List.length_append, h, flat_len f n h r, List.length_cons, Nat.succ_mul]; omega
theorem bits_len (ns : List Int) : (bitsOf (txPlaces ns)).length = (txPlaces ns).length * 6 := flat_len _ 6 (fun _ => rfl) _
theorem bits_bit (ns : List Int) : ∀ b ∈ bitsOf (txPlaces ns), isBit b := by
  intro b hb
  obtain ⟨p, _, hb⟩ := List.mem_flatMap.mp hb
  obtain ⟨k, _, rfl⟩ := List.mem_map.mp hb
  unfold isBit
  rw [Int.fmod_eq_emod_of_nonneg _ (by decide)]
  exact ⟨Int.emod_nonneg _ (by decide), Int.le_of_lt_add_one (Int.emod_lt_of_pos _ (by decide))⟩
theorem step8_all : ∀ n : Nat, n < 17 → Builtin.Range.small 0 ((n * 6 : Nat) : Int) 8 = true ∧ (n % 4 = 0 → Builtin.Range.rangeSize 0 ((n * 6 : Nat) : Int) 8 = ((n / 4 * 3 : Nat) : Int)) := by decide +kernel
theorem step8_small {n : Nat} (h : n ≤ 16) : Builtin.Range.small 0 ((n * 6 : Nat) : Int) 8 = true := (step8_all n (Nat.lt_succ_of_le h)).1
theorem step8_size {n : Nat} (h : n ≤ 16) (h4 : n % 4 = 0) : Builtin.Range.rangeSize 0 ((n * 6 : Nat) : Int) 8 = ((n / 4 * 3 : Nat) : Int) := (step8_all n (Nat.lt_succ_of_le h)).2 h4
theorem step8_le {n : Nat} (h : n ≤ 16) : n / 4 * 3 ≤ sizeLine := Nat.le_trans (Nat.mul_le_mul_right 3 (Nat.div_le_div_right (c := 4) h)) (by rw [PySem.sizeLine_eq]; decide)
theorem step8_mem {n : Nat} {k : Int} (hn : n % 4 = 0) (h : k ∈ stepKs 0 8 (n / 4 * 3)) : 0 ≤ k ∧ k + 8 ≤ ((n * 6 : Nat) : Int) := by
  obtain ⟨i, hi, rfl⟩ := List.mem_map.mp h
  have := List.mem_range.mp hi
  omega
theorem slice_k {bl : List Int} {k : Int} (n : Nat) (h0 : 0 ≤ k) (h : k + (n : Int) ≤ (bl.length : Int)) : List.take (min (k + (n : Int)).toNat bl.length - k.toNat) (List.drop k.toNat bl) = (bl.drop k.toNat).take n := by
  obtain ⟨j, rfl⟩ := Int.eq_ofNat_of_zero_le h0
  have h2 : j + n ≤ bl.length := Int.ofNat_le.mp h
  show List.take (min (j + n) bl.length - j) _ = _
  rw [Nat.min_eq_left h2, Nat.add_sub_cancel_left]
theorem num8_range {bl : List Int} (hb : ∀ b ∈ bl, isBit b) (m : Nat) : ∀ n ∈ (stepKs 0 8 m).map (fun k => lawNum ((bl.drop k.toNat).take 8)), 0 ≤ n ∧ n < 256 := by
  intro n hn
  obtain ⟨k, _, rfl⟩ := List.mem_map.mp hn
  have h := lawNum_range _ ((bl.drop k.toNat).take 8) rfl fun b hm => hb b (List.mem_of_mem_drop (List.mem_of_mem_take hm))
  have hl : ((bl.drop k.toNat).take 8).length ≤ 8 := by rw [List.length_take]; exact Nat.min_le_left _ _
  have : (2 : Int) ^ ((bl.drop k.toNat).take 8).length ≤ 2 ^ 8 := by
    have := Nat.pow_le_pow_right (n := 2) (by omega) hl
    exact_mod_cast this
  omega
theorem Pure.useY {w : World} {loose : List Str} {mean : ExcName → Option Value} {mg mb : Str → Option Value} {k : Nat} {f : Addr} {vs : List Value} {kw : List (Str × Value)} {Pre : Heap → Prop} {b : Array UInt8}
    {dp un : Nat} {gd : Option (List Code)} {env : Env} {outer : List Env} {A₀ A : Around} {base h₀ : Heap} {L : Addr} {m : Str → Option Value} {s : Shared} {Q E : Value → Shared → Prop} {news : List (Addr × Obj)}
    (C : Pure w loose mean mg mb k f vs kw Pre (fun t => .bytes b t)) (B : Below A₀ base outer h₀) (F : Fr h₀ L s.heap m) (X : (Mine.hd.heap_39 w.params).In h₀) (N : News h₀ L s.heap news) (T : Top Mine.hd.view_39 loose mean mg mb h₀)
    (hA : A = { handled := none, depth := dp, frames := some (env :: outer), guards := gd, units := un }) (hf : env.frame = some L) (hke : env.scope.kind = .function) (hp : Pre s.heap) (hd : dp + k < recursionLimit) (hu : un + 8 * k < cLine)
    (h : ∀ (oc : Array UInt8) (t : Tok) (h' : Heap) (tk' : Nat), oc = b → Fr h₀ L h' m → News h₀ L h' news → Q (.bytes oc t) { s with heap := h', toks := tk' }) :
    wpAny (model PySem.Challenge.rw_qh0093_01.row.prog w) A (call (.ref f) vs kw) Q E s := Pure.use C B F X N T hA hf hke hp hd hu fun t h' tk' _ F' N' => h b t h' tk' rfl F' N'
theorem Pure.useS {w : World} {loose : List Str} {mean : ExcName → Option Value} {mg mb : Str → Option Value} {k : Nat} {f : Addr} {vs : List Value} {kw : List (Str × Value)} {Pre : Heap → Prop} {b : Str}
    {dp un : Nat} {gd : Option (List Code)} {env : Env} {outer : List Env} {A₀ A : Around} {base h₀ : Heap} {L : Addr} {m : Str → Option Value} {s : Shared} {Q E : Value → Shared → Prop} {news : List (Addr × Obj)}
    (C : Pure w loose mean mg mb k f vs kw Pre (fun t => .str b t)) (B : Below A₀ base outer h₀) (F : Fr h₀ L s.heap m) (X : (Mine.hd.heap_39 w.params).In h₀) (N : News h₀ L s.heap news) (T : Top Mine.hd.view_39 loose mean mg mb h₀)
    (hA : A = { handled := none, depth := dp, frames := some (env :: outer), guards := gd, units := un }) (hf : env.frame = some L) (hke : env.scope.kind = .function) (hp : Pre s.heap) (hd : dp + k < recursionLimit) (hu : un + 8 * k < cLine)
    (h : ∀ (oc : Str) (t : Tok) (h' : Heap) (tk' : Nat), oc = b → Fr h₀ L h' m → News h₀ L h' news → Q (.str oc t) { s with heap := h', toks := tk' }) :
    wpAny (model PySem.Challenge.rw_qh0093_01.row.prog w) A (call (.ref f) vs kw) Q E s := Pure.use C B F X N T hA hf hke hp hd hu fun t h' tk' _ F' N' => h b t h' tk' rfl F' N'
theorem call_bytes_as {prog : Program} {w : World} {A : Around} {E : Value → Shared → Prop} {s : Shared} {h₀ : Heap} {L l : Addr} {m : Str → Option Value} {news : List (Addr × Obj)} {vs : List Value} {n : Nat} {ns : List Int} {oc : Array UInt8} {Q : Value → Shared → Prop} (e : byteArr ns = oc) (F : Fr h₀ L s.heap m) (N : News h₀ L s.heap news) (hm : (l, W.listOf vs.toArray n) ∈ news) (hi : IntsAre vs ns) (hr : ∀ n ∈ ns, 0 ≤ n ∧ n < 256) (hz : vs.length ≤ 1000) (hh : A.handled = none)
    (h : ∀ (t : Tok) (h' : Heap) (tk' : Nat), Fr h₀ L h' m → News h₀ L h' news → Q (.bytes oc t) { s with heap := h', toks := tk' }) : wpAny (model prog w) A (call (.type "bytes") [.ref l]) Q E s := by
  subst e
  exact call_bytes_ints (News.isList N hm) hi hr (by rw [PySem.sizeLine_eq]; omega) hh fun h' t k hk => h t h' k (F.keeps hk) (N.grown hk)
theorem ne_bytes_same {prog : Program} {w : World} {A : Around} {E : Value → Shared → Prop} {s : Shared} {b : Array UInt8} {t u : Tok} {Q : Value → Shared → Prop} (h : Q (.bool false) s) : wpAny (model prog w) A (compareOp .NotEq (.bytes b t) (.bytes b u)) Q E s :=
  ne_bytes (by rw [show (b.toList != b.toList) = false from by simp]; exact h)
end Mine
end

section
open PySem PySem.W PyProof.Rows PySem.Calls PySem.Spec
namespace Mine
/-- a row's text out of its sixteen bits -/
noncomputable def rowL (ns : List Int) : Str := rowText (ns.getD 0 0) (ns.getD 1 0) (ns.getD 2 0) (ns.getD 3 0) (ns.getD 4 0) (ns.getD 5 0) (ns.getD 6 0) (ns.getD 7 0) (ns.getD 8 0) (ns.getD 9 0) (ns.getD 10 0) (ns.getD 11 0) (ns.getD 12 0) (ns.getD 13 0) (ns.getD 14 0) (ns.getD 15 0)
theorem cons_of {ns : List Int} {n : Nat} (h : ns.length = n + 1) : ∃ b r, ns = b :: r ∧ r.length = n := by
  cases ns with
  | nil => cases h
  | cons b r => exact ⟨b, r, rfl, by simpa using h⟩
noncomputable def tokAt (vs : List Value) (i : Nat) : Tok := match vs[i]? with
  | some (.int _ t) => t
  | _ => 0
theorem ints_get {vs : List Value} {ns : List Int} (h : IntsAre vs ns) : ∀ (i : Nat), i < ns.length → vs[i]? = some (.int (ns.getD i 0) (tokAt vs i)) := by
  induction h with
  | nil => intro i hi; cases hi
  | cons n t h ih =>
    intro i hi
    cases i with
    | zero => rfl
    | succ i => exact ih i (by simpa using hi)
theorem ints_all {vs : List Value} {ns : List Int} (h : IntsAre vs ns) : vs = (List.range ns.length).map fun i => .int (ns.getD i 0) (tokAt vs i) := by
  apply List.ext_getElem?
  intro i
  by_cases hi : i < ns.length
  · rw [ints_get h i hi, List.getElem?_map, List.getElem?_range hi]; rfl
  · rw [List.getElem?_eq_none (by rw [h.length]; omega), List.getElem?_eq_none (by simp; omega)]
theorem ints_own (ns : List Int) : ns = (List.range ns.length).map fun i => ns.getD i 0 := by
  apply List.ext_getElem?
  intro i
  by_cases hi : i < ns.length
  · rw [List.getElem?_map, List.getElem?_range hi, List.getElem?_eq_getElem hi]; simp [hi]
  · rw [List.getElem?_eq_none (by omega), List.getElem?_eq_none (by simp; omega)]
theorem row_list {w : World} {loose mean mg mb} (l : Addr) (vs : List Value) (ns : List Int) (hI : IntsAre vs ns) (hl : ns.length = 16) (hb : ∀ b ∈ ns, isBit b) :
    Pure w loose mean mg mb 2 147 [.ref l] [] (fun h => h.IsList l vs.toArray) (fun t => .str (rowL ns) t) := by
  have e := ints_all hI
  have e2 := ints_own ns
  rw [hl] at e e2
  have hb2 : ∀ b ∈ (List.range 16).map (fun i => ns.getD i 0), isBit b := by rw [← e2]; exact hb
  have z := row_pure (w := w) (loose := loose) (mean := mean) (mg := mg) (mb := mb) l (ns.getD 0 0) (ns.getD 1 0) (ns.getD 2 0) (ns.getD 3 0) (ns.getD 4 0) (ns.getD 5 0) (ns.getD 6 0) (ns.getD 7 0) (ns.getD 8 0) (ns.getD 9 0) (ns.getD 10 0) (ns.getD 11 0) (ns.getD 12 0) (ns.getD 13 0) (ns.getD 14 0) (ns.getD 15 0)
    (tokAt vs 0) (tokAt vs 1) (tokAt vs 2) (tokAt vs 3) (tokAt vs 4) (tokAt vs 5) (tokAt vs 6) (tokAt vs 7) (tokAt vs 8) (tokAt vs 9) (tokAt vs 10) (tokAt vs 11) (tokAt vs 12) (tokAt vs 13) (tokAt vs 14) (tokAt vs 15) hb2
  have ea : vs.toArray = #[.int (ns.getD 0 0) (tokAt vs 0), .int (ns.getD 1 0) (tokAt vs 1), .int (ns.getD 2 0) (tokAt vs 2), .int (ns.getD 3 0) (tokAt vs 3), .int (ns.getD 4 0) (tokAt vs 4), .int (ns.getD 5 0) (tokAt vs 5), .int (ns.getD 6 0) (tokAt vs 6), .int (ns.getD 7 0) (tokAt vs 7), .int (ns.getD 8 0) (tokAt vs 8), .int (ns.getD 9 0) (tokAt vs 9), .int (ns.getD 10 0) (tokAt vs 10), .int (ns.getD 11 0) (tokAt vs 11), .int (ns.getD 12 0) (tokAt vs 12), .int (ns.getD 13 0) (tokAt vs 13), .int (ns.getD 14 0) (tokAt vs 14), .int (ns.getD 15 0) (tokAt vs 15)] := congrArg List.toArray e
  rw [← ea] at z
  exact z
theorem rowL_len (ns : List Int) : (rowL ns).length = 10 := by
  unfold rowL rowText
  simp only [PySem.Str.length_append]
  rfl
theorem join_as {prog : Program} {w : World} {A : Around} {E : Value → Shared → Prop} {s : Shared} {D : Addr} {t : Tok} {ys : List Value} {l : List Int} {g : Int → Str} {y : Str} {Q : Value → Shared → Prop} (e : Txt.join (Str.ofString "") (l.map g) = y) (hl : s.heap.IsList D ys.toArray) (hc : CarriedAll ys (l.map fun a => PyData.str (g a))) (hB : ∀ a ∈ l, (g a).length ≤ 10) (hn : l.length ≤ 1048576)
    (h : ∀ t' k, Q (.str y t') { s with toks := k }) : wpAny (model prog w) A (call (.builtin "str.join") [.str (Str.ofString "") t, .ref D]) Q E s := by
  subst e
  exact KT.join_B 10 hl hc hB hn (by decide) h
theorem ne_str_same {prog : Program} {w : World} {A : Around} {E : Value → Shared → Prop} {s : Shared} {b : Str} {t u : Tok} {Q : Value → Shared → Prop} (h : Q (.bool false) s) : wpAny (model prog w) A (compareOp .NotEq (.str b t) (.str b u)) Q E s :=
  P.ne_str (by rw [show (b.cps.toList != b.cps.toList) = false from by simp]; exact h)
theorem step16_all : ∀ n : Nat, n < 17 → Builtin.Range.small 0 (((n * 6 : Nat) : Int) - 15) 16 = true ∧ (4 ≤ n → Builtin.Range.rangeSize 0 (((n * 6 : Nat) : Int) - 15) 16 = ((n * 6 / 16 : Nat) : Int)) := by decide +kernel
theorem step16_small {n : Nat} (h : n ≤ 16) : Builtin.Range.small 0 (((n * 6 : Nat) : Int) - 15) 16 = true := (step16_all n (Nat.lt_succ_of_le h)).1
theorem step16_size {n : Nat} (h : n ≤ 16) (h4 : 4 ≤ n) : Builtin.Range.rangeSize 0 (((n * 6 : Nat) : Int) - 15) 16 = ((n * 6 / 16 : Nat) : Int) := (step16_all n (Nat.lt_succ_of_le h)).2 h4
theorem step16_le {n : Nat} (h : n ≤ 16) : n * 6 / 16 ≤ sizeLine := Nat.le_trans (Nat.div_le_div_right (c := 16) (Nat.mul_le_mul_right 6 h)) (by rw [PySem.sizeLine_eq]; decide)
theorem step16_mem {n : Nat} {k : Int} (h : k ∈ stepKs 0 16 (n * 6 / 16)) : 0 ≤ k ∧ k + 16 ≤ ((n * 6 : Nat) : Int) := by
  obtain ⟨i, hi, rfl⟩ := List.mem_map.mp h
  have := List.mem_range.mp hi
  omega
theorem take16 {bl : List Int} {k : Int} {n : Nat} (h : 0 ≤ k ∧ k + 16 ≤ ((n * 6 : Nat) : Int)) (hb : bl.length = n * 6) : (List.take (min (k + 16).toNat bl.length - k.toNat) (List.drop k.toNat bl)).length = 16 := by
  obtain ⟨j, rfl⟩ := Int.eq_ofNat_of_zero_le h.1
  have h2 : j + 16 ≤ bl.length := hb ▸ Int.ofNat_le.mp h.2
  rw [List.length_take, List.length_drop]
  show min (min (j + 16) bl.length - j) (bl.length - j) = 16
  rw [Nat.min_eq_left h2, Nat.add_sub_cancel_left, Nat.min_eq_left (Nat.le_sub_of_add_le' h2)]
end Mine
end

section
open PySem PySem.W PyProof.Rows PySem.Calls PySem.Spec
namespace Mine
/-- a text's codes -/
noncomputable def cs (x : Str) : List Nat := x.cps.toList
theorem cs_app (x y : Str) : cs (x ++ y) = cs x ++ cs y := by
  show (x.cps ++ y.cps).toList = _
  simp [cs]
theorem cs_ext {x y : Str} (h : cs x = cs y) : x = y := by
  cases x; cases y
  unfold cs at h
  simp only at h
  congr 1
  exact Array.toList_inj.mp h
theorem cs_len (x : Str) : (cs x).length = x.length := by simp [cs, Str.length]
theorem cs_cut (x : Str) (n : Nat) : cs (Txt.slice x none (some (n : Int))) = (cs x).take n := by
  by_cases h : n ≤ x.length
  · have e := slice_closes_toL (x := x) (j := (n : Int)) (by omega) (by omega)
    rw [eq_of_beq e]
    show (List.take _ (List.drop _ _)).toArray.toList = _
    simp [cs]
  · rw [slice_to_beyond (by omega)]
    have e := slice_closes_toL (x := x) (j := (x.length : Int)) (by omega) (by omega)
    rw [eq_of_beq e]
    show (List.take _ (List.drop _ _)).toArray.toList = _
    have z : x.length = x.cps.toList.length := by simp [Str.length]
    simp only [cs]
    rw [List.take_of_length_le (i := n) (l := x.cps.toList) (by omega)]
    simp [Str.length]
    exact List.take_of_length_le (by simp)
/-- the number that an octet is read as -/
noncomputable def rdOf (c : Nat) : Int := ((altOf c.toUInt8).toNat : Int)
noncomputable def octs : List Int → List Int
  | a :: b :: c :: d :: r => (a * 4 + b / 16) :: (b % 16 * 16 + c / 4) :: (c % 4 * 64 + d) :: octs r
  | [a, b, c] => [a * 4 + b / 16, b % 16 * 16 + c / 4]
  | [a, b] => [a * 4 + b / 16]
  | _ => []
theorem st_eq {o o' : List Int} {q l p : Int} (h : o = o') : (o, q, l, p) = (o', q, l, p) := by rw [h]
theorem app_three (o r : List Int) (x y z : Int) : o ++ [x] ++ [y] ++ [z] ++ r = o ++ x :: y :: z :: r := by rw [List.append_assoc, List.append_assoc, List.append_assoc]; rfl
theorem fold_vals : ∀ (ks : List Int), (∀ k ∈ ks, okInt k) → ∀ (out : List Int), ∃ l p, ks.foldl a2bStep (out, 0, 0, 0) = (out ++ octs (ks.map b64v), ((ks.length % 4 : Nat) : Int), l, p) ∧ 0 ≤ p
  | [], _, out => ⟨0, 0, st_eq (List.append_nil out).symm, Int.le_refl _⟩
  | [a], h, out => ⟨b64v a, 0, (st_q0 (h a (.head _))).trans (st_eq (List.append_nil out).symm), Int.le_refl _⟩
  | [a, b], h, out => ⟨b64v b % 16, 0, (congrArg (a2bStep · b) (st_q0 (h a (.head _)))).trans (st_q1 (h b (.tail _ (.head _)))), Int.le_refl _⟩
  | [a, b, c], h, out => ⟨b64v c % 4, 0, ((congrArg (a2bStep · c) ((congrArg (a2bStep · b) (st_q0 (h a (.head _)))).trans (st_q1 (h b (.tail _ (.head _)))))).trans (st_q2 (h c (.tail _ (.tail _ (.head _)))))).trans (st_eq (List.append_assoc ..)), Int.le_refl _⟩
  | a :: b :: c :: d :: r, h, out =>
    have ⟨l, p, e, hp⟩ := fold_vals r (fun k hk => h k (.tail _ (.tail _ (.tail _ (.tail _ hk))))) (out ++ [b64v a * 4 + b64v b / 16] ++ [b64v b % 16 * 16 + b64v c / 4] ++ [b64v c % 4 * 64 + b64v d])
    ⟨l, p, (congrArg (r.foldl a2bStep) ((congrArg (a2bStep · d) ((congrArg (a2bStep · c) ((congrArg (a2bStep · b) (st_q0 (h a (.head _)))).trans (st_q1 (h b (.tail _ (.head _)))))).trans (st_q2 (h c (.tail _ (.tail _ (.head _))))))).trans (st_q3 (h d (.tail _ (.tail _ (.tail _ (.head _)))))))).trans (e.trans (by rw [app_three, show (a :: b :: c :: d :: r).length % 4 = r.length % 4 from Nat.add_mod_right _ 4]; rfl)), hp⟩
end Mine
end

section
open PySem PySem.W PyProof.Rows PySem.Calls PySem.Spec
set_option maxRecDepth 10000
namespace Mine
noncomputable abbrev signT : Str := Str.ofString "ABCDEFGHIJKLMNOPQRSTUVWXYZabcdefghijklmnopqrstuvwxyz0123456789-?"
noncomputable abbrev junkT : Str := Str.ofString "._~ \n"
theorem intsOf_readOf (x : Str) : intsOf (readOf x) = (cs x).map rdOf := by
  unfold intsOf readOf ascii rdOf cs
  simp
theorem readOf_len (x : Str) : (readOf x).toList.length = x.length := by
  unfold readOf ascii
  simp [Str.length]
noncomputable def signC (n : Nat) : Nat := (signT.cps.toList).getD n 0
noncomputable def junkC (n : Nat) : Nat := (junkT.cps.toList).getD n 0
theorem sign_all : ∀ n : Nat, n < 64 → Txt.item signT (n : Int) = ⟨#[signC n]⟩ ∧ signC n < 128 ∧ rdOf (signC n) ≠ 61 ∧ b64v (rdOf (signC n)) = n := by decide +kernel
theorem junk_all : ∀ n : Nat, n < 5 → Txt.item junkT (n : Int) = ⟨#[junkC n]⟩ ∧ junkC n < 128 ∧ rdOf (junkC n) ≠ 61 ∧ b64v (rdOf (junkC n)) = 64 := by decide +kernel
/-- the sign's number of a place -/
noncomputable def plInt (p : Int) : Int := rdOf (signC p.toNat)
theorem mod64 (x : Int) : 0 ≤ x.fmod 64 ∧ x.fmod 64 < 64 := by
  rw [Int.fmod_eq_emod_of_nonneg _ (by decide)]; omega
theorem pl_ok {p : Int} (h0 : 0 ≤ p) (h1 : p < 64) : okInt (plInt p) ∧ b64v (plInt p) = p := by
  have h := sign_all p.toNat (by omega)
  unfold okInt plInt
  refine ⟨⟨h.2.2.1, ?_⟩, ?_⟩
  · rw [h.2.2.2]; omega
  · rw [h.2.2.2]; omega
theorem item_sign (x : Int) : cs (Txt.item signT (x.fmod 64)) = [signC (x.fmod 64).toNat] := by
  have hm := mod64 x
  have h := sign_all (x.fmod 64).toNat (by omega)
  have e : (((x.fmod 64).toNat : Nat) : Int) = x.fmod 64 := by omega
  rw [e] at h
  rw [h.1]
  rfl
theorem item_junk (x : Int) : ∃ n : Nat, n < 5 ∧ cs (Txt.item junkT ((x.fdiv 256).fmod 5)) = [junkC n] := by
  have hm : 0 ≤ (x.fdiv 256).fmod 5 ∧ (x.fdiv 256).fmod 5 < 5 := by
    rw [Int.fmod_eq_emod_of_nonneg _ (by decide)]; omega
  have h := junk_all ((x.fdiv 256).fmod 5).toNat (by omega)
  have e : ((((x.fdiv 256).fmod 5).toNat : Nat) : Int) = (x.fdiv 256).fmod 5 := by omega
  rw [e] at h
  exact ⟨((x.fdiv 256).fmod 5).toNat, by omega, by rw [h.1]; rfl⟩
theorem tx_fold (st : List Int × Int × Int × Int) : ∀ (xs : List Int) (wr : Str), ((cs (xs.foldl txStep wr)).map rdOf).foldl a2bStep st = (xs.map fun x => plInt (x.fmod 64)).foldl a2bStep (((cs wr).map rdOf).foldl a2bStep st)
  | [], wr => rfl
  | x :: r, wr => by
    rw [List.foldl_cons, tx_fold st r, List.map_cons, List.foldl_cons]
    congr 1
    unfold txStep
    split
    · obtain ⟨n, hn, e⟩ := item_junk x
      have hj := junk_all n hn
      rw [cs_app, cs_app, e, item_sign]
      simp only [List.map_append, List.map_cons, List.map_nil, List.foldl_append, List.foldl_cons, List.foldl_nil]
      rw [st_junk hj.2.2.1 (by rw [hj.2.2.2]; omega)]
      rfl
    · rw [cs_app, item_sign]
      simp only [List.map_append, List.map_cons, List.map_nil, List.foldl_append, List.foldl_cons, List.foldl_nil]
      rfl
theorem tx_codes : ∀ (xs : List Int) (wr : Str), (∀ c ∈ cs wr, c < 128) → (∀ c ∈ cs (xs.foldl txStep wr), c < 128) ∧ (cs (xs.foldl txStep wr)).length ≤ (cs wr).length + 2 * xs.length
  | [], wr, h => ⟨h, by simp⟩
  | x :: r, wr, h => by
    have hm := mod64 x
    have hs := (sign_all (x.fmod 64).toNat (by omega)).2.1
    obtain ⟨n, hn, e⟩ := item_junk x
    have hj := (junk_all n hn).2.1
    have key : (∀ c ∈ cs (txStep wr x), c < 128) ∧ (cs (txStep wr x)).length ≤ (cs wr).length + 2 := by
      unfold txStep
      split
      · rw [cs_app, cs_app, e, item_sign]
        refine ⟨fun c hc => ?_, by simp⟩
        simp only [List.mem_append, List.mem_cons, List.not_mem_nil, or_false] at hc
        rcases hc with (hc | rfl) | rfl
        · exact h c hc
        · exact hs
        · exact hj
      · rw [cs_app, item_sign]
        refine ⟨fun c hc => ?_, by simp⟩
        simp only [List.mem_append, List.mem_cons, List.not_mem_nil, or_false] at hc
        rcases hc with hc | rfl
        · exact h c hc
        · exact hs
    have ih := tx_codes r (txStep wr x) key.1
    rw [List.foldl_cons, List.length_cons]
    exact ⟨ih.1, by have := ih.2; have := key.2; omega⟩
theorem mulA : ∀ n : Nat, n < 4 → cs (Txt.mul (Str.ofString "A") (n : Int)) = List.replicate n (signC 0) := by decide +kernel
theorem over_lt (n : Nat) : 0 ≤ (-(n : Int)).fmod 4 ∧ (-(n : Int)).fmod 4 < 4 := by
  rw [Int.fmod_eq_emod_of_nonneg _ (by decide)]; omega
theorem cs_over (n : Nat) : cs (Txt.mul (Str.ofString "A") ((-(n : Int)).fmod 4)) = List.replicate ((-(n : Int)).fmod 4).toNat (signC 0) := by
  have h := over_lt n
  have e : ((((-(n : Int)).fmod 4).toNat : Nat) : Int) = (-(n : Int)).fmod 4 := by omega
  have z := mulA ((-(n : Int)).fmod 4).toNat (by omega)
  rw [e] at z
  exact z
theorem bare_range (ns : List Int) : ∀ p ∈ txPlaces ns, 0 ≤ p ∧ p < 64 := by
  intro p hp
  rw [txPlaces_eq] at hp
  rcases List.mem_append.mp hp with hp | hp
  · obtain ⟨x, _, rfl⟩ := List.mem_map.mp hp
    exact mod64 x
  · rw [List.eq_of_mem_replicate hp]; omega
theorem text_fold (ns : List Int) (st : List Int × Int × Int × Int) : ((cs (txText ns)).map rdOf).foldl a2bStep st = ((txPlaces ns).map plInt).foldl a2bStep st := by
  unfold txText
  rw [cs_app, List.map_append, List.foldl_append, txPlaces_eq, List.map_append, List.foldl_append]
  unfold txOf
  rw [tx_fold]
  have e0 : cs (Str.ofString "") = [] := by decide +kernel
  rw [e0, cs_over]
  congr 1
  · congr 1
    unfold txBare
    rw [List.map_map]
    rfl
  · rw [List.map_replicate, List.map_replicate]
    rfl
theorem text_end (ns : List Int) : ∃ l p, a2bEnd (intsOf (readOf (txText ns))) = (octs (txPlaces ns), 0, l, p) ∧ 0 ≤ p := by
  have hr := bare_range ns
  have hlen := (txPlaces_len ns).2.2
  obtain ⟨l, p, e, hp⟩ := fold_vals ((txPlaces ns).map plInt) (fun k hk => by
    obtain ⟨q, hq, rfl⟩ := List.mem_map.mp hk
    exact (pl_ok (hr q hq).1 (hr q hq).2).1) []
  refine ⟨l, p, ?_, hp⟩
  unfold a2bEnd
  rw [intsOf_readOf, text_fold, e, List.length_map, hlen, List.map_map]
  have e2 : (txPlaces ns).map (b64v ∘ plInt) = txPlaces ns := by
    conv => rhs; rw [← List.map_id (txPlaces ns)]
    exact List.map_congr_left fun q hq => (pl_ok (hr q hq).1 (hr q hq).2).2
  rw [e2]
  rfl
theorem txText_ok (ns : List Int) : DecOk (txText ns) := by
  obtain ⟨l, p, e, hp⟩ := text_end ns
  have hc := tx_codes (ns.take 12 ++ [18, 9, 52]) (Str.ofString "") (by decide +kernel)
  have hl := txInts_len ns
  have ho := over_lt (txBare ns).length
  have e0 : cs (Str.ofString "") = [] := by decide +kernel
  have hlen : (cs (txText ns)).length ≤ 100 := by
    unfold txText txOf
    rw [cs_app, cs_over, List.length_append, List.length_replicate]
    have := hc.2
    rw [e0] at this
    simp only [List.length_nil] at this
    omega
  have hl2 : (txText ns).length ≤ 100 := by rw [← cs_len]; exact hlen
  refine ⟨?_, by omega, by rw [readOf_len]; omega, by rw [e]; show (0 : Int) ≠ 1; decide, by rw [e]; exact Or.inl rfl⟩
  intro c hcm
  have hcm : c ∈ cs (txText ns) := by simpa [cs] using hcm
  unfold txText at hcm
  rw [cs_app, cs_over] at hcm
  rcases List.mem_append.mp hcm with hcm | hcm
  · exact hc.1 c hcm
  · rw [List.eq_of_mem_replicate hcm]; decide +kernel
theorem decText (ns : List Int) : decOf (txText ns) = byteArr (octs (txPlaces ns)) := by
  obtain ⟨l, p, e, hp⟩ := text_end ns
  unfold decOf
  rw [e]
end Mine
end

section
open PySem PySem.W PyProof.Rows PySem.Calls PySem.Spec
set_option maxRecDepth 100000
namespace Mine
theorem ints_at {vs : List Value} {ns : List Int} (h : IntsAre vs ns) : ∀ (i : Nat), i < ns.length → ∃ t, vs[i]? = some (.int (ns.getD i 0) t) := by
  induction h with
  | nil => intro i hi; cases hi
  | cons n t h ih =>
    intro i hi
    cases i with
    | zero => exact ⟨t, rfl⟩
    | succ i => exact ih i (by simpa using hi)
theorem strs_at {vs : List Value} {ns : List Str} (h : StrsAre vs ns) : ∀ (i : Nat), i < ns.length → ∃ t, vs[i]? = some (.str (ns.getD i (Str.ofString "")) t) := by
  induction h with
  | nil => intro i hi; cases hi
  | cons n t h ih =>
    intro i hi
    cases i with
    | zero => exact ⟨t, rfl⟩
    | succ i => exact ih i (by simpa using hi)
theorem item_ints {prog : Program} {w : World} {A : Around} {E : Value → Shared → Prop} {s : Shared} {value slice : PySem.Expr} {h₀ : Heap} {L l : Addr} {news : List (Addr × Obj)} {vs : List Value} {n : Nat} {ns : List Int} {k : Int} {u : Tok} {Q : Value → Shared → Prop}
    (N : News h₀ L s.heap news) (hm : (l, W.listOf vs.toArray n) ∈ news) (hI : IntsAre vs ns) (h0 : 0 ≤ k) (hk : k < (ns.length : Int)) (hz : ns.length ≤ 1000) (h : ∀ (x : Int) (t : Tok), x = ns.getD k.toNat 0 → Q (.int x t) s)
    (hs : subscripted slice false (.ref l) (.int k u) = operate [.ref l, .int k u] (getItem (.ref l) (.int k u)) := by with_unfolding_all rfl) :
    wpAny (model prog w) A (subscriptTail value slice (.ref l) (.int k u)) Q E s := by
  obtain ⟨t, e⟩ := ints_at hI k.toNat (by omega)
  exact tail_any (News.isList N hm).typeIs slot_list_getitem.lookup (wpAny_getItem_list (News.isList N hm) h0 (by omega) (by simpa using e) (h _ t rfl)) hs
theorem item_strs {prog : Program} {w : World} {A : Around} {E : Value → Shared → Prop} {s : Shared} {value slice : PySem.Expr} {h₀ : Heap} {L l : Addr} {news : List (Addr × Obj)} {vs : List Value} {n : Nat} {ns : List Str} {k : Int} {u : Tok} {Q : Value → Shared → Prop}
    (N : News h₀ L s.heap news) (hm : (l, W.listOf vs.toArray n) ∈ news) (hI : StrsAre vs ns) (h0 : 0 ≤ k) (hk : k < (ns.length : Int)) (hz : ns.length ≤ 1000) (h : ∀ (x : Str) (t : Tok), x = ns.getD k.toNat (Str.ofString "") → Q (.str x t) s)
    (hs : subscripted slice false (.ref l) (.int k u) = operate [.ref l, .int k u] (getItem (.ref l) (.int k u)) := by with_unfolding_all rfl) :
    wpAny (model prog w) A (subscriptTail value slice (.ref l) (.int k u)) Q E s := by
  obtain ⟨t, e⟩ := strs_at hI k.toNat (by omega)
  exact tail_any (News.isList N hm).typeIs slot_list_getitem.lookup (wpAny_getItem_list (News.isList N hm) h0 (by omega) (by simpa using e) (h _ t rfl)) hs
/-- listing[:j] -/
theorem cut_str {prog : Program} {w : World} {A : Around} {E : Value → Shared → Prop} {s : Shared} {value slice : PySem.Expr} {h₀ : Heap} {L : Addr} {m : Str → Option Value} {news : List (Addr × Obj)} {x : Str} {t : Tok} {j : Int} {uj : Tok} {Q : Value → Shared → Prop} (hF : Fr h₀ L s.heap m) (hN : News h₀ L s.heap news) (hz : x.length ≤ 1000)
    (h : ∀ (y : Str) h' t' k, y = Txt.slice x none (some j) → y.length ≤ 1000 → Fr h₀ L h' m → News h₀ L h' news → Q (.str y t') { s with heap := h', toks := k })
    (hs : subscripted slice false (.str x t) (.ref s.heap.objs.size) = operate [.ref s.heap.objs.size, .str x t] (getItem (.str x t) (.ref s.heap.objs.size)) := by with_unfolding_all rfl)
    (ht : ∀ r, letTemporaryGo value (.str x t) r = pure () := by intro _; with_unfolding_all rfl) :
    wpAny (model prog w) A (subscriptTail value slice (.str x t) (.ref s.heap.objs.size)) Q E { s with heap := s.heap.push { cls := .type "slice", data := .fields #[.none, .int j uj, .none] } } :=
  slice_strN_ns_len hF hN (fun h' t' k a b c => h _ h' t' k rfl (by omega) a b) hs ht (by rw [PySem.sizeLine_eq]; omega)
end Mine
namespace Mine
theorem pl_item {pl : List Int} {x k : Int} (h : ∀ p ∈ pl, 0 ≤ p ∧ p < 64) (hk : k.toNat < pl.length) (e : x = pl.getD k.toNat 0) : 0 ≤ x ∧ x < 64 := by
  subst e
  rw [List.getD_eq_getElem?_getD, List.getElem?_eq_getElem hk]
  exact h _ (List.getElem_mem hk)
theorem bl_item {pl : List Int} {x k : Int} (h : ∀ p ∈ pl, isBit p) (hk : k.toNat < pl.length) (e : x = pl.getD k.toNat 0) : 0 ≤ x ∧ x ≤ 1 := by
  subst e
  rw [List.getD_eq_getElem?_getD, List.getElem?_eq_getElem hk]
  exact h _ (List.getElem_mem hk)
end Mine
end

section
open PySem PySem.W PyProof.Rows PySem.Calls PySem.Spec
namespace Mine
/-- the listing after a listing -/
noncomputable def nextL (li : Str) : Str := listText (decOf (Txt.slice li none (some 30) ++ Str.ofString "=="))
noncomputable def LS (l0 : Str) : Nat → Str
  | 0 => l0
  | n + 1 => nextL (LS l0 n)
noncomputable def kindCh (k : Int) : Nat := (Str.ofString "?pc?d?b?-?l?s???").cps.toList.getD k.toNat 0
/-- the first listing: its first three signs, its size, its signs -/
noncomputable def signOk (c : Nat) : Prop := c < 128 ∧ okInt (rdOf c)
structure Start (k r w : Int) (l0 : Str) : Prop where
  hk : 0 ≤ k ∧ k < 16
  hr : 0 ≤ r ∧ r ≤ 1
  hw : 0 ≤ w ∧ w ≤ 1
  hd : ∃ rest, cs l0 = kindCh k :: (if r = 1 then 114 else 45) :: (if w = 1 then 119 else 45) :: rest
  hl : l0.length = 10 ∨ (30 ≤ l0.length ∧ l0.length ≤ 200)
  ho : ∀ c ∈ cs l0, signOk c
noncomputable def LisAt (k r w : Int) (n : Nat) (li : Str) : Prop := ∃ l0, Start k r w l0 ∧ li = LS l0 n
noncomputable def lateOf (k : Int) : Int := [0, 2, 1, 0, 1, 0, 0, 0, 1, 0, 1, 0, 1, 0, 0, 0].getD k.toNat 0
noncomputable def endOf (i : Int) : Str := [Str.ofString "-wSrwsr-Tc-wSr-srwx?r-Sr-x-wt", Str.ofString "rwsr-sr-Tp-w-r-xrwt?r-Sr-x-wt"].getD i.toNat (Str.ofString "")
section
variable {k r w : Int}
theorem lis_start {l0 : Str} (h : Start k r w l0) : LisAt k r w 0 l0 := ⟨l0, h, rfl⟩
end
section
variable {prog : Program} {w : World} {A : Around} {E : Value → Shared → Prop} {s : Shared} {x y : Str} {t u : Tok} {Q : Value → Shared → Prop}
theorem eq_str_letter {b : Bool} (e : (x.cps.toList == y.cps.toList) = b) (h : ∀ c : Bool, c = b → Q (.bool c) s) : wpAny (model prog w) A (compareOp .Eq (.str x t) (.str y u)) Q E s :=
  P.eq_str (by rw [e]; exact h b rfl)
theorem ne_bool_same {b c : Bool} (e : b = c) (h : Q (.bool false) s) : wpAny (model prog w) A (compareOp .NotEq (.bool b) (.bool c)) Q E s := by
  subst e
  refine ne_bool ?_
  rw [show (b != b) = false from by simp]
  exact h
theorem ne_int_same {a b : Int} (e : a = b) (h : Q (.bool false) s) : wpAny (model prog w) A (compareOp .NotEq (.int a t) (.int b u)) Q E s := by
  subst e
  refine PyProof.Rows.ne_int ?_
  rw [show (a != a) = false from by simp]
  exact h
theorem add_letter (hx : x.length ≤ 1000) (hy : y.length ≤ 1000) (h : ∀ (z : Str) t' tk, z = x ++ y → z.length ≤ x.length + y.length → Q (.str z t') { s with toks := tk }) : wpAny (model prog w) A (binaryOp .Add (.str x t) (.str y u)) Q E s :=
  PyProof.Rows.add_str (fun t' tk => h _ t' tk rfl (Nat.le_of_eq (PySem.Str.length_append ..))) (by rw [PySem.sizeLine_eq]; omega)
end
end Mine
namespace Mine
theorem lis_start2 {k r w : Int} {l0 : Str} (h : Start k r w l0) : LisAt k r w 0 l0 ∧ l0.length ≤ 1000 := ⟨lis_start h, by have := h.hl; omega⟩
theorem lis_more {k r w a : Int} {pre : List Int} {lj : Str} (h : LisAt k r w (pre.length + 1) lj ∧ lj.length ≤ 1000) : LisAt k r w (pre ++ [a]).length lj ∧ lj.length ≤ 1000 := by rw [List.length_append]; exact h
theorem mod2 (a : Int) : 0 ≤ a.fmod 2 ∧ a.fmod 2 < 2 := by
  rw [Int.fmod_eq_emod_of_nonneg _ (by decide)]; omega
theorem end_len {x : Str} {i : Int} (h : x = endOf i) : x.length ≤ 100 := by
  subst h
  unfold endOf
  rcases e : i.toNat with _ | _ | n
  · decide +kernel
  · decide +kernel
  · show (Str.ofString "").length ≤ 100
    decide +kernel
theorem fr_keep6 {h₀ h : Heap} {L : Addr} {m : Str → Option Value} {v1 v2 v3 v4 v5 v6 : Value} (F : Fr h₀ L h m) (h1 : m (Str.ofString "ends") = some v1) (h2 : m (Str.ofString "late") = some v2) (h3 : m (Str.ofString "kind") = some v3) (h4 : m (Str.ofString "read") = some v4) (h5 : m (Str.ofString "write") = some v5) (h6 : m (Str.ofString "listing") = some v6) :
    ∃ u : Str → Option Value, Fr h₀ L h (fun y => if y = Str.ofString "ends" then some v1 else if y = Str.ofString "late" then some v2 else if y = Str.ofString "kind" then some v3 else if y = Str.ofString "read" then some v4 else if y = Str.ofString "write" then some v5 else if y = Str.ofString "listing" then some v6 else u y) := by
  refine ⟨m, ?_⟩
  have e : (fun y => if y = Str.ofString "ends" then some v1 else if y = Str.ofString "late" then some v2 else if y = Str.ofString "kind" then some v3 else if y = Str.ofString "read" then some v4 else if y = Str.ofString "write" then some v5 else if y = Str.ofString "listing" then some v6 else m y) = m := by
    funext y
    by_cases e1 : y = Str.ofString "ends"
    · rw [if_pos e1, e1, h1]
    · rw [if_neg e1]
      by_cases e2 : y = Str.ofString "late"
      · rw [if_pos e2, e2, h2]
      · rw [if_neg e2]
        by_cases e3 : y = Str.ofString "kind"
        · rw [if_pos e3, e3, h3]
        · rw [if_neg e3]
          by_cases e4 : y = Str.ofString "read"
          · rw [if_pos e4, e4, h4]
          · rw [if_neg e4]
            by_cases e5 : y = Str.ofString "write"
            · rw [if_pos e5, e5, h5]
            · rw [if_neg e5]
              by_cases e6 : y = Str.ofString "listing"
              · rw [if_pos e6, e6, h6]
              · rw [if_neg e6]
  rw [e]
  exact F
theorem news_one {h₀ h : Heap} {L : Addr} {p : Addr × Obj} {nw : List (Addr × Obj)} (N : News h₀ L h (p :: nw)) : News h₀ L h [p] := fun q hq => by
  rw [List.mem_singleton.mp hq]
  exact N p (.head _)
/-- what a conditional text is -/
noncomputable def IfPost (k : Int) (s : Shared) (v : Value) (s' : Shared) : Prop := ∃ (p : Str) (t : Tok) (tk : Nat), p = (if k = 6 then Str.ofString "b" else Str.ofString "?") ∧ v = .str p t ∧ s' = { s with toks := tk }
noncomputable def AndPost (lt t w : Int) (s : Shared) (v : Value) (s' : Shared) : Prop := ∃ (b : Bool) (tk : Nat), b = decide (2 + lt ≤ t ∧ (2 < t ∨ w = 1)) ∧ v = .bool b ∧ s' = { s with toks := tk }
theorem if_len {k : Int} {p : Str} (h : p = (if k = 6 then Str.ofString "b" else Str.ofString "?")) : p.length ≤ 1 := by
  subst h
  split <;> decide +kernel
theorem ifPost_b {k : Int} {s : Shared} {t : Tok} {tk : Nat} (h : k = 6) : IfPost k s (.str (Str.ofString "b") t) { s with toks := tk } := ⟨_, _, _, (if_pos h).symm, rfl, rfl⟩
theorem ifPost_q {k : Int} {s : Shared} {t : Tok} {tk : Nat} (h : k ≠ 6) : IfPost k s (.str (Str.ofString "?") t) { s with toks := tk } := ⟨_, _, _, (if_neg h).symm, rfl, rfl⟩
theorem andPost {lt t w : Int} {s : Shared} {b : Bool} {tk : Nat} (h : b = decide (2 + lt ≤ t ∧ (2 < t ∨ w = 1))) : AndPost lt t w s (.bool b) { s with toks := tk } := ⟨b, tk, h, rfl, rfl⟩
theorem if_join {prog : Program} {w : World} {A : Around} {E : Value → Shared → Prop} {s : Shared} {tr : Sem Value} {Q : Value → Shared → Prop} (k : Int) (h : wpAny (model prog w) A tr (IfPost k s) E s)
    (h2 : ∀ (p : Str) (t : Tok) (tk : Nat), p = (if k = 6 then Str.ofString "b" else Str.ofString "?") → p.length ≤ 1 → Q (.str p t) { s with toks := tk }) : wpAny (model prog w) A tr Q E s :=
  wpAny_mono h (fun _ _ ⟨p, t, tk, e, a, b⟩ => by subst a b; exact h2 p t tk e (if_len e)) fun _ _ e => e
theorem and_join {prog : Program} {w : World} {A : Around} {E : Value → Shared → Prop} {s : Shared} {tr : Sem Value} {Q : Value → Shared → Prop} (lt t wr : Int) (h : wpAny (model prog w) A tr (AndPost lt t wr s) E s)
    (h2 : ∀ (b : Bool) (tk : Nat), b = decide (2 + lt ≤ t ∧ (2 < t ∨ wr = 1)) → Q (.bool b) { s with toks := tk }) : wpAny (model prog w) A tr Q E s :=
  wpAny_mono h (fun _ _ ⟨b, tk, e, a, c⟩ => by subst a c; exact h2 b tk e) fun _ _ e => e
end Mine
end

section
open PySem PySem.W PyProof.Rows PySem.Calls PySem.Spec
namespace Mine
noncomputable def six (p : Int) : List Int := [p / 32 % 2, p / 16 % 2, p / 8 % 2, p / 4 % 2, p / 2 % 2, p % 2]
theorem fm2 (p : Int) : p.fmod 2 = p % 2 := Int.fmod_eq_emod_of_nonneg _ (by decide)
theorem fd (p : Int) (n : Nat) : p.fdiv (2 ^ n) = p / 2 ^ n := Int.fdiv_eq_ediv_of_nonneg _ (Int.le_of_lt (Int.pow_pos (by decide)))
theorem bits_cons (p : Int) (r : List Int) : bitsOf (p :: r) = six p ++ bitsOf r := by
  unfold bitsOf six
  rw [List.flatMap_cons]
  congr 1
  simp only [List.map_cons, List.map_nil, fd, fm2]
  simp
/-- the octets that bits make -/
noncomputable def oct8 (bl : List Int) (i : Nat) : Int := lawNum ((bl.drop (8 * i)).take 8)
theorem dig_all : ∀ n : Nat, n < 64 → lawNum [(n : Int) / 32 % 2, (n : Int) / 16 % 2, (n : Int) / 8 % 2, (n : Int) / 4 % 2, (n : Int) / 2 % 2, (n : Int) % 2] = (n : Int) ∧ lawNum [(n : Int) / 32 % 2, (n : Int) / 16 % 2] = (n : Int) / 16 ∧
    lawNum [(n : Int) / 8 % 2, (n : Int) / 4 % 2, (n : Int) / 2 % 2, (n : Int) % 2] = (n : Int) % 16 ∧ lawNum [(n : Int) / 32 % 2, (n : Int) / 16 % 2, (n : Int) / 8 % 2, (n : Int) / 4 % 2] = (n : Int) / 4 ∧ lawNum [(n : Int) / 2 % 2, (n : Int) % 2] = (n : Int) % 4 := by decide +kernel
theorem dig {a : Int} (h : 0 ≤ a ∧ a < 64) : lawNum [a / 32 % 2, a / 16 % 2, a / 8 % 2, a / 4 % 2, a / 2 % 2, a % 2] = a ∧ lawNum [a / 32 % 2, a / 16 % 2] = a / 16 ∧ lawNum [a / 8 % 2, a / 4 % 2, a / 2 % 2, a % 2] = a % 16 ∧ lawNum [a / 32 % 2, a / 16 % 2, a / 8 % 2, a / 4 % 2] = a / 4 ∧ lawNum [a / 2 % 2, a % 2] = a % 4 := by
  obtain ⟨n, rfl⟩ := Int.eq_ofNat_of_zero_le h.1
  exact dig_all n (Int.ofNat_lt.mp h.2)
theorem fold_num (B : List Int) : ∀ x : Int, B.foldl (fun n b => n * 2 + b) x = x * 2 ^ B.length + lawNum B := by
  induction B with
  | nil => intro x; simp [lawNum]
  | cons b r ih =>
    intro x
    have h : lawNum (b :: r) = (0 * 2 + b) * 2 ^ r.length + lawNum r := ih (0 * 2 + b)
    rw [List.foldl_cons, ih, h, List.length_cons, Int.pow_succ', Int.add_mul, ← Int.add_assoc, Int.zero_mul, Int.zero_add, Int.mul_assoc]
theorem lawNum_app (A B : List Int) : lawNum (A ++ B) = lawNum A * 2 ^ B.length + lawNum B := by
  unfold lawNum
  rw [List.foldl_append]
  exact fold_num B _
theorem num_two {A B : List Int} {a c : Int} (h : lawNum A = a) (g : lawNum B = c) : lawNum (A ++ B) = a * 2 ^ B.length + c := by rw [lawNum_app, h, g]
theorem oct_1 {a b : Int} (ha : 0 ≤ a ∧ a < 64) (hb : 0 ≤ b ∧ b < 64) : lawNum [a / 32 % 2, a / 16 % 2, a / 8 % 2, a / 4 % 2, a / 2 % 2, a % 2, b / 32 % 2, b / 16 % 2] = a * 4 + b / 16 := num_two (dig ha).1 (dig hb).2.1
theorem oct_2 {a b : Int} (ha : 0 ≤ a ∧ a < 64) (hb : 0 ≤ b ∧ b < 64) : lawNum [a / 8 % 2, a / 4 % 2, a / 2 % 2, a % 2, b / 32 % 2, b / 16 % 2, b / 8 % 2, b / 4 % 2] = a % 16 * 16 + b / 4 := num_two (dig ha).2.2.1 (dig hb).2.2.2.1
theorem oct_3 {a b : Int} (ha : 0 ≤ a ∧ a < 64) (hb : 0 ≤ b ∧ b < 64) : lawNum [a / 2 % 2, a % 2, b / 32 % 2, b / 16 % 2, b / 8 % 2, b / 4 % 2, b / 2 % 2, b % 2] = a % 4 * 64 + b := num_two (dig ha).2.2.2.2 (dig hb).1
theorem octs_bits : ∀ (pl : List Int), pl.length % 4 = 0 → (∀ p ∈ pl, 0 ≤ p ∧ p < 64) → (List.range (pl.length / 4 * 3)).map (oct8 (bitsOf pl)) = octs pl
  | [], _, _ => rfl
  | [_], h, _ => nomatch h
  | [_, _], h, _ => nomatch h
  | [_, _, _], h, _ => nomatch h
  | a :: b :: c :: d :: r, h, hr => by
    have ha := hr a (.head _)
    have hb := hr b (.tail _ (.head _))
    have hc := hr c (.tail _ (.tail _ (.head _)))
    have hd := hr d (.tail _ (.tail _ (.tail _ (.head _))))
    have ih := octs_bits r ((Nat.add_mod_right _ 4).symm.trans h) fun p hp => hr p (.tail _ (.tail _ (.tail _ (.tail _ hp))))
    have e : (a :: b :: c :: d :: r).length / 4 * 3 = r.length / 4 * 3 + 1 + 1 + 1 := by
      show (r.length + 4) / 4 * 3 = _
      rw [Nat.add_div_right _ (by decide)]
      exact Nat.succ_mul ..
    rw [e, List.range_succ_eq_map, List.map_cons, List.map_map, List.range_succ_eq_map, List.map_cons, List.map_map, List.range_succ_eq_map, List.map_cons, List.map_map]
    show _ = (a * 4 + b / 16) :: (b % 16 * 16 + c / 4) :: (c % 4 * 64 + d) :: octs r
    rw [← oct_1 ha hb, ← oct_2 hb hc, ← oct_3 hc hd, ← ih]
    rw [bits_cons, bits_cons, bits_cons, bits_cons]
    congr 1
/-- the law's comparison octets are what it reads -/
theorem dec_law {ns : List Int} {oc : Array UInt8} (h : oc = decOf (txText ns)) : byteArr ((stepKs 0 8 ((txPlaces ns).length / 4 * 3)).map fun k => lawNum (((bitsOf (txPlaces ns)).drop k.toNat).take 8)) = oc := by
  rw [h, decText, ← octs_bits _ (txPlaces_len ns).2.2 (bare_range ns)]
  congr 1
  unfold stepKs
  rw [List.map_map]
  refine List.map_congr_left fun i _ => ?_
  show lawNum (List.take 8 (List.drop (0 + (i : Nat) * 8 : Int).toNat _)) = oct8 _ i
  unfold oct8
  congr 3
  omega
end Mine
end

section
open PySem PySem.W PyProof.Rows PySem.Calls PySem.Spec
set_option maxRecDepth 10000
namespace Mine
theorem cs_nil : cs (Str.ofString "") = [] := by decide +kernel
theorem fold_app (l : List Str) (acc : Array Nat) : (l.foldl (fun acc p => acc ++ (Str.ofString "").cps ++ p.cps) acc).toList = acc.toList ++ (l.map cs).flatten := by
  induction l generalizing acc with
  | nil => simp
  | cons x r ih =>
    rw [List.foldl_cons, ih]
    have e : (Str.ofString "").cps.toList = [] := cs_nil
    rw [Array.toList_append, Array.toList_append, e, List.map_cons, List.flatten_cons]
    simp [cs]
theorem cs_join (l : List Str) : cs (Txt.join (Str.ofString "") l) = (l.map cs).flatten := by
  cases l with
  | nil => rfl
  | cons x r =>
    show (List.foldl _ _ _ : Array Nat).toList = _
    rw [List.drop_one, List.tail_cons, fold_app]
    rfl
theorem bitAnd_nn (n m : Nat) : Builtin.bitAnd (n : Int) (m : Int) = ((n &&& m : Nat) : Int) := by
  have h1 : decide (0 ≤ (n : Int)) = true := decide_eq_true (by omega)
  have h2 : decide (0 ≤ (m : Int)) = true := decide_eq_true (by omega)
  unfold Builtin.bitAnd
  rw [h1, h2]
  rfl
theorem and_one (n k : Nat) : n &&& 2 ^ k = n / 2 ^ k % 2 * 2 ^ k := by
  apply Nat.eq_of_testBit_eq
  intro i
  rw [Nat.testBit_and, Nat.testBit_two_pow, Nat.testBit_mul_two_pow]
  by_cases h : k = i
  · subst h
    simp [Nat.testBit_eq_decide_div_mod_eq]
  · rw [decide_eq_false h, Bool.and_false]
    by_cases h1 : k ≤ i
    · have : (n / 2 ^ k % 2).testBit (i - k) = false := Nat.testBit_lt_two_pow (Nat.lt_of_lt_of_le (Nat.mod_lt _ (by decide)) (Nat.pow_le_pow_right (n := 2) (i := 1) (by decide) (by omega)))
      simp [this]
    · simp [h1]
theorem bit_cases (a : Nat) : a % 2 = 0 ∨ a % 2 = 1 := Nat.mod_two_eq_zero_or_one a
theorem sign1 (n k : Nat) (y : String) : fmOne (n : Int) ((2 ^ k : Nat) : Int) y = if n / 2 ^ k % 2 = 1 then Str.ofString y else Str.ofString "-" := by
  unfold fmOne
  rw [bitAnd_nn, and_one]
  have hp : 0 < 2 ^ k := Nat.pow_pos (by decide)
  rcases bit_cases (n / 2 ^ k) with h | h
  · rw [h, if_neg (by omega), if_neg (by omega)]
  · rw [h, if_pos (by omega), if_pos rfl]
theorem sign3 (n i j : Nat) (y1 y2 y3 : String) (hij : ∀ a, a < 2 → ∀ b, b < 2 → ((a * 2 ^ i ||| b * 2 ^ j = (2 ^ i ||| 2 ^ j)) ↔ (a = 1 ∧ b = 1))) :
    fmThree (n : Int) ((2 ^ i ||| 2 ^ j : Nat) : Int) ((2 ^ i : Nat) : Int) ((2 ^ j : Nat) : Int) y1 y2 y3 = if n / 2 ^ i % 2 = 1 then (if n / 2 ^ j % 2 = 1 then Str.ofString y1 else Str.ofString y2) else if n / 2 ^ j % 2 = 1 then Str.ofString y3 else Str.ofString "-" := by
  unfold fmThree
  rw [bitAnd_nn, bitAnd_nn, bitAnd_nn, Nat.and_or_distrib_left, and_one, and_one]
  have hp : 0 < 2 ^ i := Nat.pow_pos (by decide)
  have hq : 0 < 2 ^ j := Nat.pow_pos (by decide)
  have key := hij (n / 2 ^ i % 2) (by omega) (n / 2 ^ j % 2) (by omega)
  rcases bit_cases (n / 2 ^ i) with h | h <;> rcases bit_cases (n / 2 ^ j) with g | g <;> rw [h, g] at key ⊢
  · rw [if_neg (by rw [Int.ofNat_inj]; intro e; have := key.mp e; omega), if_neg (by omega), if_neg (by omega)]; rfl
  · rw [if_neg (by rw [Int.ofNat_inj]; intro e; have := key.mp e; omega), if_neg (by omega), if_pos (by omega)]; rfl
  · rw [if_neg (by rw [Int.ofNat_inj]; intro e; have := key.mp e; omega), if_pos (by omega)]; rfl
  · rw [if_pos (by rw [Int.ofNat_inj]; exact key.mpr ⟨rfl, rfl⟩)]; rfl
theorem and_top (n : Nat) (h : n < 65536) : n &&& 61440 = n / 4096 * 4096 := by
  apply Nat.eq_of_testBit_eq
  intro i
  rw [Nat.testBit_and, show (4096 : Nat) = 2 ^ 12 from rfl, Nat.testBit_mul_two_pow, Nat.testBit_div_two_pow]
  rw [show (61440 : Nat) = (2 ^ 4 - 1) * 2 ^ 12 from rfl, Nat.testBit_mul_two_pow, Nat.testBit_two_pow_sub_one]
  by_cases h1 : 12 ≤ i
  · by_cases h2 : i < 16
    · rw [decide_eq_true (by omega : i - 12 < 4)]
      simp [h1]
    · have : n.testBit i = false := Nat.testBit_lt_two_pow (Nat.lt_of_lt_of_le h (Nat.pow_le_pow_right (n := 2) (i := 16) (by decide) (by omega)))
      simp [h1, this]
  · simp [h1]
theorem kind_all : ∀ k : Nat, k < 16 → (if ((k * 4096 : Nat) : Int) = 40960 then Str.ofString "l" else if ((k * 4096 : Nat) : Int) = 49152 then Str.ofString "s" else if ((k * 4096 : Nat) : Int) = 32768 then Str.ofString "-" else if ((k * 4096 : Nat) : Int) = 24576 then Str.ofString "b"
  else if ((k * 4096 : Nat) : Int) = 16384 then Str.ofString "d" else if ((k * 4096 : Nat) : Int) = 8192 then Str.ofString "c" else if ((k * 4096 : Nat) : Int) = 4096 then Str.ofString "p" else Str.ofString "?") = Txt.item (Str.ofString "?pc?d?b?-?l?s???") (k : Int) := by decide +kernel
theorem sign_kind (n : Nat) (h : n < 65536) : fmKind (n : Int) = Txt.item (Str.ofString "?pc?d?b?-?l?s???") ((n / 4096 : Nat) : Int) := by
  unfold fmKind
  rw [show (61440 : Int) = ((61440 : Nat) : Int) from rfl, bitAnd_nn, and_top n h]
  exact kind_all (n / 4096) (by omega)
end Mine
end

section
open PySem PySem.W PyProof.Rows PySem.Calls PySem.Spec
set_option maxRecDepth 10000
namespace Mine
theorem bit01 {b : Int} (h : isBit b) : b = 0 ∨ b = 1 := (Int.lt_or_le 0 b).elim (fun g => .inr (Int.le_antisymm h.2 g)) fun g => .inl (Int.le_antisymm g h.1)
theorem bit_next {n k : Nat} {m b : Int} (hb : isBit b) (h : ((n / 2 ^ k : Nat) : Int) = m * 2 + b) : (n / 2 ^ k % 2 = 1) = (b = 1) ∧ ((n / 2 ^ (k + 1) : Nat) : Int) = m := by
  have e2 : ((n / 2 ^ k % 2 : Nat) : Int) = b := by
    rw [Int.natCast_emod, h, Int.add_comm]
    exact (Int.add_mul_emod_self_right ..).trans (Int.emod_eq_of_lt hb.1 (Int.lt_of_le_of_lt hb.2 (by decide)))
  refine ⟨propext ⟨fun e => ?_, fun e => ?_⟩, ?_⟩
  · rw [e] at e2; exact e2.symm
  · rw [e] at e2; exact Int.ofNat_inj.mp e2
  · rw [Nat.pow_succ, ← Nat.div_div_eq_div_mul, Int.natCast_ediv, h, Int.add_comm]
    rcases bit01 hb with rfl | rfl
    · exact (Int.add_mul_ediv_right _ _ (by decide)).trans (Int.zero_add _)
    · exact (Int.add_mul_ediv_right _ _ (by decide)).trans (Int.zero_add _)
theorem item_r {b : Int} (h : isBit b) : Txt.item (Str.ofString "-r") b = if b = 1 then Str.ofString "r" else Str.ofString "-" := by rcases bit01 h with rfl | rfl <;> decide +kernel
theorem item_w {b : Int} (h : isBit b) : Txt.item (Str.ofString "-w") b = if b = 1 then Str.ofString "w" else Str.ofString "-" := by rcases bit01 h with rfl | rfl <;> decide +kernel
theorem item_s {b c : Int} (h : isBit b) (g : isBit c) : Txt.item (Str.ofString "-xSs") (b + 2 * c) = if c = 1 then (if b = 1 then Str.ofString "s" else Str.ofString "S") else if b = 1 then Str.ofString "x" else Str.ofString "-" := by
  rcases bit01 h with rfl | rfl <;> rcases bit01 g with rfl | rfl <;> decide +kernel
theorem item_t {b c : Int} (h : isBit b) (g : isBit c) : Txt.item (Str.ofString "-xTt") (b + 2 * c) = if c = 1 then (if b = 1 then Str.ofString "t" else Str.ofString "T") else if b = 1 then Str.ofString "x" else Str.ofString "-" := by
  rcases bit01 h with rfl | rfl <;> rcases bit01 g with rfl | rfl <;> decide +kernel
theorem join_fold (l : List Str) : ∀ x : Str, Txt.join (Str.ofString "") (x :: l) = l.foldl (· ++ ·) x := by
  induction l with
  | nil => intro x; exact cs_ext ((cs_join _).trans (List.append_nil _))
  | cons y r ih => intro x; exact (cs_ext (by rw [cs_join, cs_join, List.map_cons, List.map_cons, List.map_cons, List.flatten_cons, List.flatten_cons, List.flatten_cons, cs_app, List.append_assoc])).trans (ih (x ++ y))
theorem join_ten (s0 s1 s2 s3 s4 s5 s6 s7 s8 s9 : Str) : Txt.join (Str.ofString "") [s0, s1, s2, s3, s4, s5, s6, s7, s8, s9] = s0 ++ s1 ++ s2 ++ s3 ++ s4 ++ s5 ++ s6 ++ s7 ++ s8 ++ s9 := join_fold _ _
theorem bit_getD {X : List Int} (hb : ∀ b ∈ X, isBit b) (i : Nat) : isBit (X.getD i 0) := by
  rw [List.getD_eq_getElem?_getD]
  cases e : X[i]? with
  | none => exact ⟨by decide, by decide⟩
  | some b => exact hb b (List.mem_of_getElem? e)
theorem take_next {X : List Int} {i : Nat} (h : i < X.length) : lawNum (X.take (i + 1)) = lawNum (X.take i) * 2 + X.getD i 0 := by
  rw [List.take_add_one, List.getD_eq_getElem?_getD, List.getElem?_eq_getElem h]
  exact lawNum_snoc _ _
theorem bits_of {X : List Int} {n : Nat} (hX : X.length = 16) (hb : ∀ b ∈ X, isBit b) (hn : lawNum X = (n : Int)) : ∀ k, k < 16 → ((n / 2 ^ k : Nat) : Int) = lawNum (X.take (15 - k)) * 2 + X.getD (15 - k) 0
  | 0, _ => by
    rw [Nat.pow_zero, Nat.div_one, ← hn]
    exact (congrArg lawNum (List.take_of_length_le (Nat.le_of_eq hX)).symm).trans (take_next (by rw [hX]; decide))
  | k + 1, h => by
    have h1 := (bit_next (bit_getD hb _) (bits_of hX hb hn k (Nat.lt_of_succ_lt h))).2
    have e : 15 - k = 15 - (k + 1) + 1 := (Nat.sub_add_cancel (Nat.sub_pos_of_lt (Nat.lt_of_succ_lt_succ h))).symm
    rw [h1, e]
    exact take_next (by rw [hX]; exact Nat.lt_of_le_of_lt (Nat.sub_le _ _) (by decide))
theorem s_one {n k : Nat} {b : Int} {y : String} {it : Str} (q : (n / 2 ^ k % 2 = 1) = (b = 1)) (hi : it = if b = 1 then Str.ofString y else Str.ofString "-") : fmOne (n : Int) ((2 ^ k : Nat) : Int) y = it := by
  rw [sign1, hi]
  simp only [q]
theorem s_three {n i j : Nat} {b c : Int} {y1 y2 y3 : String} {it : Str} (hij : ∀ a, a < 2 → ∀ b, b < 2 → ((a * 2 ^ i ||| b * 2 ^ j = (2 ^ i ||| 2 ^ j)) ↔ (a = 1 ∧ b = 1))) (q : (n / 2 ^ i % 2 = 1) = (c = 1)) (p : (n / 2 ^ j % 2 = 1) = (b = 1)) (hi : it = if c = 1 then (if b = 1 then Str.ofString y1 else Str.ofString y2) else if b = 1 then Str.ofString y3 else Str.ofString "-") :
    fmThree (n : Int) ((2 ^ i ||| 2 ^ j : Nat) : Int) ((2 ^ i : Nat) : Int) ((2 ^ j : Nat) : Int) y1 y2 y3 = it := by
  rw [sign3 _ _ _ _ _ _ hij, hi]
  simp only [q, p]
theorem app_eq {a b x y : Str} (h : a = x) (g : b = y) : a ++ b = x ++ y := by rw [h, g]
theorem kind_eq {X : List Int} {n : Nat} (hX : X.length = 16) (hb : ∀ b ∈ X, isBit b) (hn : lawNum X = (n : Int)) : ((n / 4096 : Nat) : Int) = lawNum [X.getD 0 0, X.getD 1 0, X.getD 2 0, X.getD 3 0] := by
  have h : ∀ i, i < 16 → i < X.length := fun i h => hX ▸ h
  refine (bits_of hX hb hn 12 (by decide)).trans ?_
  show lawNum (X.take 3) * 2 + _ = _
  rw [take_next (h 2 (by decide)), take_next (h 1 (by decide)), take_next (h 0 (by decide))]
  rfl
/-- sixteen bits as a row: what filemode shows of the mode that they make -/
theorem fm_rowL {X : List Int} (hX : X.length = 16) (hb : ∀ b ∈ X, isBit b) : fmText (lawNum (X.take 8) * 256 + lawNum (X.drop 8)) = rowL X := by
  have r := lawNum_range 16 X hX hb
  have e : lawNum (X.take 8) * 256 + lawNum (X.drop 8) = lawNum X := by
    have h := lawNum_app (X.take 8) (X.drop 8)
    rw [List.take_append_drop, List.length_drop, hX] at h
    exact h.symm
  obtain ⟨n, hn⟩ := Int.eq_ofNat_of_zero_le r.1
  have hlt : n < 65536 := Int.ofNat_lt.mp (by rw [← hn]; exact r.2)
  rw [e, hn]
  have q : ∀ k, k < 16 → (n / 2 ^ k % 2 = 1) = (X.getD (15 - k) 0 = 1) := fun k h => (bit_next (bit_getD hb _) (bits_of hX hb hn k h)).1
  have B := bit_getD hb
  refine (join_ten ..).trans ?_
  exact app_eq (app_eq (app_eq (app_eq (app_eq (app_eq (app_eq (app_eq (app_eq
    ((sign_kind n hlt).trans (congrArg _ (kind_eq hX hb hn)))
    (s_one (q 8 (by decide)) (item_r (B 7))))
    (s_one (q 7 (by decide)) (item_w (B 8))))
    (s_three (i := 11) (j := 6) (by decide) (q 11 (by decide)) (q 6 (by decide)) (item_s (B 9) (B 4))))
    (s_one (q 5 (by decide)) (item_r (B 10))))
    (s_one (q 4 (by decide)) (item_w (B 11))))
    (s_three (i := 10) (j := 3) (by decide) (q 10 (by decide)) (q 3 (by decide)) (item_s (B 12) (B 5))))
    (s_one (q 2 (by decide)) (item_r (B 13))))
    (s_one (q 1 (by decide)) (item_w (B 14))))
    (s_three (i := 9) (j := 0) (by decide) (q 9 (by decide)) (q 0 (by decide)) (item_t (B 15) (B 6)))
end Mine
end

section
open PySem PySem.W PyProof.Rows PySem.Calls PySem.Spec
set_option maxRecDepth 10000
namespace Mine
theorem octAt_byteArr {L : List Int} (hL : ∀ n ∈ L, 0 ≤ n ∧ n < 256) {k : Nat} (hk : k < L.length) : octAt (byteArr L) (k : Int) = L.getD k 0 := by
  unfold octAt byteArr
  have hm := hL _ (List.getElem_mem hk)
  have e : ((L.map fun n => n.toNat.toUInt8).toArray.toList.getD ((k : Int)).toNat 0) = (L[k]).toNat.toUInt8 := by
    simp [List.getD_eq_getElem?_getD, List.getElem?_eq_getElem hk]
  rw [e, List.getD_eq_getElem?_getD, List.getElem?_eq_getElem hk, Option.getD_some]
  show ((UInt8.ofNat (L[k]).toNat).toNat : Int) = L[k]
  rw [UInt8.toNat_ofNat', Nat.mod_eq_of_lt ((Int.toNat_lt hm.1).mpr hm.2)]
  exact Int.toNat_of_nonneg hm.1
theorem size_byteArr (L : List Int) : (byteArr L).size = L.length := by simp [byteArr]
/-- two octets a row -/
noncomputable def rowAt (L : List Int) (i : Nat) : Str := fmText (L.getD (2 * i) 0 * 256 + L.getD (2 * i + 1) 0)
theorem listText_idx {L : List Int} (hL : ∀ n ∈ L, 0 ≤ n ∧ n < 256) : listText (byteArr L) = Txt.join (Str.ofString "") ((List.range (L.length / 2)).map (rowAt L)) := by
  unfold listText
  rw [size_byteArr]
  congr 1
  unfold stepKs
  rw [List.map_map]
  refine List.map_congr_left fun i hi => ?_
  have hi := List.mem_range.mp hi
  show fmText (modeAt _ (0 + (i : Int) * 2)) = _
  unfold modeAt rowAt
  rw [show (0 + (i : Int) * 2) = ((2 * i : Nat) : Int) by omega, show (((2 * i : Nat) : Int) + 1) = ((2 * i + 1 : Nat) : Int) by omega, octAt_byteArr hL (by omega), octAt_byteArr hL (by omega)]
theorem oct_a {a b : Int} (ha : 0 ≤ a ∧ a < 64) (hb : 0 ≤ b ∧ b < 64) : 0 ≤ a * 4 + b / 16 ∧ a * 4 + b / 16 < 256 := oct1 ha.1 ha.2 hb.1 hb.2
theorem oct_b {a b : Int} (hb : 0 ≤ b ∧ b < 64) : 0 ≤ a % 16 * 16 + b / 4 ∧ a % 16 * 16 + b / 4 < 256 := have m := mod_in a (k := 16) (by decide); oct2 m.1 m.2 hb.1 hb.2
theorem oct_c {a b : Int} (hb : 0 ≤ b ∧ b < 64) : 0 ≤ a % 4 * 64 + b ∧ a % 4 * 64 + b < 256 := have m := mod_in a (k := 4) (by decide); oct3 m.1 m.2 hb.1 hb.2
theorem octs_range : ∀ (vs : List Int), (∀ v ∈ vs, 0 ≤ v ∧ v < 64) → ∀ n ∈ octs vs, 0 ≤ n ∧ n < 256
  | [], _ => fun _ h => nomatch h
  | [_], _ => fun _ h => nomatch h
  | [_, _], h => List.forall_mem_cons.mpr ⟨oct_a (h _ (.head _)) (h _ (.tail _ (.head _))), fun _ h => nomatch h⟩
  | [_, _, _], h => List.forall_mem_cons.mpr ⟨oct_a (h _ (.head _)) (h _ (.tail _ (.head _))), List.forall_mem_cons.mpr ⟨oct_b (h _ (.tail _ (.tail _ (.head _)))), fun _ h => nomatch h⟩⟩
  | _ :: _ :: _ :: _ :: r, h => List.forall_mem_cons.mpr ⟨oct_a (h _ (.head _)) (h _ (.tail _ (.head _))), List.forall_mem_cons.mpr ⟨oct_b (h _ (.tail _ (.tail _ (.head _)))),
      List.forall_mem_cons.mpr ⟨oct_c (h _ (.tail _ (.tail _ (.tail _ (.head _))))), octs_range r fun v hv => h v (.tail _ (.tail _ (.tail _ (.tail _ hv))))⟩⟩⟩
theorem octs_len : ∀ (vs : List Int), (octs vs).length = vs.length * 6 / 8
  | [] => rfl
  | [_] => by rw [List.length_cons, List.length_nil]; rfl
  | [_, _] => by rw [List.length_cons, List.length_cons, List.length_nil]; rfl
  | [_, _, _] => by rw [List.length_cons, List.length_cons, List.length_cons, List.length_nil]; rfl
  | _ :: _ :: _ :: _ :: r => by
    show (octs r).length + 3 = (r.length + 4) * 6 / 8
    rw [octs_len r, Nat.add_mul]
    exact (Nat.add_mul_div_right _ 3 (by decide)).symm
theorem oct8_getD {bl : List Int} {m i : Nat} (h : i < m) : ((List.range m).map (oct8 bl)).getD i 0 = oct8 bl i := by
  rw [List.getD_eq_getElem?_getD, List.getElem?_map, List.getElem?_range h]
  rfl
theorem two_lt {i M : Nat} (h : i < M / 2) : 2 * i + 1 < M := Nat.le_trans (Nat.le_of_eq (Nat.mul_comm 2 (i + 1))) ((Nat.le_div_iff_mul_le (by decide)).mp h)
theorem end16 {i n : Nat} (h : i < n * 6 / 16) : 16 * i + 16 ≤ n * 6 := Nat.le_trans (Nat.le_of_eq (Nat.mul_comm 16 (i + 1))) ((Nat.le_div_iff_mul_le (by decide)).mp h)
theorem half_all : ∀ n : Nat, n < 17 → n % 4 = 0 → n * 6 / 16 = n / 4 * 3 / 2 := by decide +kernel
theorem row_law {ns bl pl : List Int} {oc : Array UInt8} {txt li : Str} (hbl : bl = bitsOf (txPlaces ns)) (hpl : pl = txPlaces ns) (ht : txt = txText ns) (h : oc = decOf txt) (hli : li = listText oc) : Txt.join (Str.ofString "") ((stepKs 0 16 (pl.length * 6 / 16)).map fun k => rowL ((bl.drop k.toNat).take 16)) = li := by
  have h4 := (txPlaces_len ns).2.2
  have hr := bare_range ns
  have hbits := bits_bit ns
  have hbl2 := bits_len ns
  rw [← hpl] at h4 hr hbl2
  rw [hpl] at hbl2
  rw [← hbl] at hbits hbl2
  rw [← hpl] at hbl2
  have hd := decText ns
  rw [← hpl] at hd
  have ho := octs_bits pl h4 hr
  rw [show bitsOf pl = bl by rw [hbl, hpl]] at ho
  rw [hli, h, ht, hd, listText_idx (octs_range pl hr), ← ho, List.length_map, List.length_range]
  congr 1
  unfold stepKs
  rw [List.map_map]
  have em := half_all pl.length (Nat.lt_succ_of_le (hpl ▸ (txPlaces_len ns).2.1)) h4
  rw [em]
  refine List.map_congr_left fun i hi => ?_
  have hi := List.mem_range.mp hi
  show rowL ((bl.drop (0 + (i : Int) * 16).toNat).take 16) = rowAt _ i
  unfold rowAt
  have h2 := two_lt hi
  have h3 := end16 (em ▸ hi)
  have e0 : (0 + (i : Int) * 16).toNat = 16 * i := by rw [Int.zero_add, Int.mul_comm]; rfl
  rw [oct8_getD (Nat.lt_of_succ_lt h2), oct8_getD h2, e0]
  have hX : ((bl.drop (16 * i)).take 16).length = 16 := by
    rw [List.length_take, List.length_drop, hbl2]; exact Nat.min_eq_left (Nat.le_sub_of_add_le' h3)
  rw [← fm_rowL hX fun b hm => hbits b (List.mem_of_mem_drop (List.mem_of_mem_take hm))]
  unfold oct8
  rw [List.take_take, List.drop_take, List.drop_drop, show 8 * (2 * i) = 16 * i from (Nat.mul_assoc 8 2 i).symm, show 8 * (2 * i + 1) = 16 * i + 8 from congrArg (· + 8) (Nat.mul_assoc 8 2 i).symm]
  rfl
end Mine
end

section
open PySem PySem.W PyProof.Rows PySem.Calls PySem.Spec
set_option maxRecDepth 10000
namespace Mine
noncomputable def bitC (n k y : Nat) : Nat := if n / 2 ^ k % 2 = 1 then y else 45
noncomputable def triC (n i j y1 y2 y3 : Nat) : Nat := if n / 2 ^ i % 2 = 1 then (if n / 2 ^ j % 2 = 1 then y1 else y2) else if n / 2 ^ j % 2 = 1 then y3 else 45
noncomputable def kindC (h : Nat) : Nat := [63, 112, 99, 63, 100, 63, 98, 63, 45, 63, 108, 63, 115, 63, 63, 63].getD h 63
/-- filemode's ten codes -/
noncomputable def fmC (n : Nat) : List Nat := [kindC (n / 4096), bitC n 8 114, bitC n 7 119, triC n 11 6 115 83 120, bitC n 5 114, bitC n 4 119, triC n 10 3 115 83 120, bitC n 2 114, bitC n 1 119, triC n 9 0 116 84 120]
theorem cs_if {c : Prop} [Decidable c] {x y : Str} {a b : Nat} (hx : cs x = [a]) (hy : cs y = [b]) : cs (if c then x else y) = [if c then a else b] := by
  by_cases h : c
  · rw [if_pos h, if_pos h, hx]
  · rw [if_neg h, if_neg h, hy]
theorem cs_one (n k : Nat) (y : String) (c : Nat) (hc : cs (Str.ofString y) = [c]) : cs (fmOne (n : Int) ((2 ^ k : Nat) : Int) y) = [bitC n k c] := by
  rw [sign1]
  exact cs_if hc (by decide +kernel)
theorem cs_three (n i j : Nat) (y1 y2 y3 : String) (c1 c2 c3 : Nat) (h1 : cs (Str.ofString y1) = [c1]) (h2 : cs (Str.ofString y2) = [c2]) (h3 : cs (Str.ofString y3) = [c3]) (hij : ∀ a, a < 2 → ∀ b, b < 2 → ((a * 2 ^ i ||| b * 2 ^ j = (2 ^ i ||| 2 ^ j)) ↔ (a = 1 ∧ b = 1))) :
    cs (fmThree (n : Int) ((2 ^ i ||| 2 ^ j : Nat) : Int) ((2 ^ i : Nat) : Int) ((2 ^ j : Nat) : Int) y1 y2 y3) = [triC n i j c1 c2 c3] := by
  rw [sign3 n i j y1 y2 y3 hij]
  exact cs_if (cs_if h1 h2) (cs_if h3 (by decide +kernel))
theorem item_kind : ∀ h : Nat, h < 16 → cs (Txt.item (Str.ofString "?pc?d?b?-?l?s???") (h : Int)) = [kindC h] := by decide +kernel
theorem cs_fm {n : Nat} (hn : n < 65536) : cs (fmText (n : Int)) = fmC n := by
  have k0 : cs (fmKind (n : Int)) = [kindC (n / 4096)] := by rw [sign_kind n hn, item_kind _ (by omega)]
  have s1 : cs (fmOne (n : Int) 256 "r") = [bitC n 8 114] := cs_one n 8 "r" 114 (by decide +kernel)
  have s2 : cs (fmOne (n : Int) 128 "w") = [bitC n 7 119] := cs_one n 7 "w" 119 (by decide +kernel)
  have s3 : cs (fmThree (n : Int) 2112 2048 64 "s" "S" "x") = [triC n 11 6 115 83 120] := cs_three n 11 6 "s" "S" "x" _ _ _ (by decide +kernel) (by decide +kernel) (by decide +kernel) (by decide)
  have s4 : cs (fmOne (n : Int) 32 "r") = [bitC n 5 114] := cs_one n 5 "r" 114 (by decide +kernel)
  have s5 : cs (fmOne (n : Int) 16 "w") = [bitC n 4 119] := cs_one n 4 "w" 119 (by decide +kernel)
  have s6 : cs (fmThree (n : Int) 1032 1024 8 "s" "S" "x") = [triC n 10 3 115 83 120] := cs_three n 10 3 "s" "S" "x" _ _ _ (by decide +kernel) (by decide +kernel) (by decide +kernel) (by decide)
  have s7 : cs (fmOne (n : Int) 4 "r") = [bitC n 2 114] := cs_one n 2 "r" 114 (by decide +kernel)
  have s8 : cs (fmOne (n : Int) 2 "w") = [bitC n 1 119] := cs_one n 1 "w" 119 (by decide +kernel)
  have s9 : cs (fmThree (n : Int) 513 512 1 "t" "T" "x") = [triC n 9 0 116 84 120] := cs_three n 9 0 "t" "T" "x" _ _ _ (by decide +kernel) (by decide +kernel) (by decide +kernel) (by decide)
  unfold fmText fmSigns
  rw [cs_join]
  simp only [List.map_cons, List.map_nil, List.flatten_cons, List.flatten_nil, k0, s1, s2, s3, s4, s5, s6, s7, s8, s9]
  rfl
/-- a sign's six bits -/
noncomputable def valC (c : Nat) : Nat := if 65 ≤ c ∧ c ≤ 90 then c - 65 else if 97 ≤ c ∧ c ≤ 122 then c - 71 else if 48 ≤ c ∧ c ≤ 57 then c + 4 else if c = 45 ∨ c = 43 then 62 else 63
noncomputable def okB (c : Nat) : Bool := decide (c < 128) && (decide (rdOf c ≠ 61) && decide (b64v (rdOf c) < 64))
theorem ok_all : ∀ c : Nat, c < 128 → okB c = true → b64v (rdOf c) = (valC c : Int) ∧ valC c < 64 := by decide +kernel
theorem fm_ok : ∀ c ∈ [63, 112, 99, 100, 98, 45, 108, 115, 114, 119, 83, 120, 116, 84], okB c = true := by decide +kernel
noncomputable def menuC (c : Nat) : Prop := c ∈ [63, 112, 99, 100, 98, 45, 108, 115, 114, 119, 83, 120, 116, 84]
theorem bitC_m {n k y : Nat} (h : menuC y) : menuC (bitC n k y) := by
  unfold bitC; split
  · exact h
  · unfold menuC; decide
theorem triC_m {n i j y1 y2 y3 : Nat} (h1 : menuC y1) (h2 : menuC y2) (h3 : menuC y3) : menuC (triC n i j y1 y2 y3) := by
  unfold triC; (repeat' split) <;> first | assumption | (unfold menuC; decide)
theorem kindC_m : ∀ h : Nat, h < 16 → menuC (kindC h) := by unfold menuC; decide +kernel
theorem fmC_ok {n : Nat} (hn : n < 65536) : ∀ c ∈ fmC n, okB c = true := by
  intro c hc
  refine fm_ok c ?_
  have m : ∀ y, y ∈ [114, 119, 115, 83, 120, 116, 84] → menuC y := by unfold menuC; decide
  unfold fmC at hc
  simp only [List.mem_cons, List.not_mem_nil, or_false] at hc
  rcases hc with rfl | rfl | rfl | rfl | rfl | rfl | rfl | rfl | rfl | rfl
  · exact kindC_m _ (by omega)
  · exact bitC_m (m _ (by decide))
  · exact bitC_m (m _ (by decide))
  · exact triC_m (m _ (by decide)) (m _ (by decide)) (m _ (by decide))
  · exact bitC_m (m _ (by decide))
  · exact bitC_m (m _ (by decide))
  · exact triC_m (m _ (by decide)) (m _ (by decide)) (m _ (by decide))
  · exact bitC_m (m _ (by decide))
  · exact bitC_m (m _ (by decide))
  · exact triC_m (m _ (by decide)) (m _ (by decide)) (m _ (by decide))
/-- the modes that eight signs make -/
noncomputable def md0 (l : List Nat) : Nat := (valC (l.getD 0 0) * 4 + valC (l.getD 1 0) / 16) * 256 + (valC (l.getD 1 0) % 16 * 16 + valC (l.getD 2 0) / 4)
noncomputable def md1 (l : List Nat) : Nat := (valC (l.getD 2 0) % 4 * 64 + valC (l.getD 3 0)) * 256 + (valC (l.getD 4 0) * 4 + valC (l.getD 5 0) / 16)
noncomputable def md2 (l : List Nat) : Nat := (valC (l.getD 5 0) % 16 * 16 + valC (l.getD 6 0) / 4) * 256 + (valC (l.getD 6 0) % 4 * 64 + valC (l.getD 7 0))
noncomputable def N10 (l : List Nat) : List Nat := fmC (md0 l)
noncomputable def N30 (l : List Nat) : List Nat := fmC (md0 l) ++ (fmC (md1 l) ++ fmC (md2 l))
noncomputable def W0 (k r w : Nat) : List Nat := [kindC k, if r = 1 then 114 else 45, if w = 1 then 119 else 45]
noncomputable def WW (k r w : Nat) : Nat → List Nat
  | 0 => W0 k r w
  | 1 => N10 (W0 k r w)
  | n + 2 => N30 (WW k r w (n + 1))
noncomputable def lateN (k : Nat) : Nat := [0, 2, 1, 0, 1, 0, 0, 0, 1, 0, 1, 0, 1, 0, 0, 0].getD k 0
noncomputable def endC (k i : Nat) : List Nat := (if k = 6 then 98 else 63) :: [cs (Str.ofString "-wSrwsr-Tc-wSr-srwx?r-Sr-x-wt"), cs (Str.ofString "rwsr-sr-Tp-w-r-xrwt?r-Sr-x-wt")].getD i []
theorem check10 : ∀ k : Nat, k < 16 → ∀ r : Nat, r < 2 → ∀ w : Nat, w < 2 → ∀ n : Nat, n < 6 → ((WW k r w (n + 1)).take 10 == (endC k ((n + r + 1) % 2)).take 10) = decide (lateN k ≤ n ∧ (0 < n ∨ w = 1)) := by decide +kernel
theorem check30 : ∀ k : Nat, k < 16 → ∀ r : Nat, r < 2 → ∀ w : Nat, w < 2 → ∀ n : Nat, n < 6 → 0 < n → (WW k r w (n + 1) == endC k ((n + r + 1) % 2)) = decide (1 + lateN k ≤ n) := by decide +kernel
end Mine
end

section
open PySem PySem.W PyProof.Rows PySem.Calls PySem.Spec
set_option maxRecDepth 10000
namespace Mine
theorem getD_range {L : List Int} (hL : ∀ n ∈ L, 0 ≤ n ∧ n < 256) (i : Nat) : 0 ≤ L.getD i 0 ∧ L.getD i 0 < 256 := by
  by_cases h : i < L.length
  · rw [List.getD_eq_getElem?_getD, List.getElem?_eq_getElem h]
    exact hL _ (List.getElem_mem h)
  · rw [List.getD_eq_getElem?_getD, List.getElem?_eq_none (by omega)]
    decide
theorem two_oct {x y : Nat} (hx : x < 256) (hy : y < 256) : x * 256 + y < 65536 := by omega
theorem row_code {L : List Int} (hL : ∀ n ∈ L, 0 ≤ n ∧ n < 256) (i : Nat) : ∃ n : Nat, n < 65536 ∧ (n : Int) = L.getD (2 * i) 0 * 256 + L.getD (2 * i + 1) 0 ∧ cs (rowAt L i) = fmC n := by
  have h1 := getD_range hL (2 * i)
  have h2 := getD_range hL (2 * i + 1)
  unfold rowAt
  obtain ⟨x, hx⟩ := Int.eq_ofNat_of_zero_le h1.1
  obtain ⟨y, hy⟩ := Int.eq_ofNat_of_zero_le h2.1
  rw [hx] at h1 ⊢
  rw [hy] at h2 ⊢
  have g := two_oct (Int.ofNat_lt.mp h1.2) (Int.ofNat_lt.mp h2.2)
  exact ⟨x * 256 + y, g, rfl, cs_fm g⟩
theorem flat_ten : ∀ (ll : List (List Nat)), (∀ l ∈ ll, l.length = 10 ∧ ∀ c ∈ l, okB c = true) → ll.flatten.length = 10 * ll.length ∧ ∀ c ∈ ll.flatten, okB c = true
  | [], _ => ⟨rfl, by simp⟩
  | l :: r, h => by
    have ih := flat_ten r fun x hx => h x (by simp [hx])
    have hl := h l (by simp)
    rw [List.flatten_cons]
    refine ⟨by rw [List.length_append, ih.1, hl.1, List.length_cons]; omega, fun c hc => ?_⟩
    rcases List.mem_append.mp hc with hc | hc
    · exact hl.2 c hc
    · exact ih.2 c hc
/-- what a listing's codes are -/
theorem list_codes {L : List Int} (hL : ∀ n ∈ L, 0 ≤ n ∧ n < 256) : cs (listText (byteArr L)) = ((List.range (L.length / 2)).map fun i => cs (rowAt L i)).flatten := by
  rw [listText_idx hL, cs_join, List.map_map]
  rfl
theorem list_good {L : List Int} (hL : ∀ n ∈ L, 0 ≤ n ∧ n < 256) : (cs (listText (byteArr L))).length = 10 * (L.length / 2) ∧ ∀ c ∈ cs (listText (byteArr L)), okB c = true := by
  rw [list_codes hL]
  have h := flat_ten ((List.range (L.length / 2)).map fun i => cs (rowAt L i)) (fun l hl => by
    obtain ⟨i, _, rfl⟩ := List.mem_map.mp hl
    obtain ⟨n, hn, _, e⟩ := row_code hL i
    rw [e]
    exact ⟨rfl, fmC_ok hn⟩)
  rw [List.length_map, List.length_range] at h
  exact h
theorem list_one {L : List Int} (hL : ∀ n ∈ L, 0 ≤ n ∧ n < 256) (h : 2 ≤ L.length) : ∃ n : Nat, n < 65536 ∧ (n : Int) = L.getD 0 0 * 256 + L.getD 1 0 ∧ ∃ rest, cs (listText (byteArr L)) = fmC n ++ rest := by
  obtain ⟨n, hn, e, c⟩ := row_code hL 0
  refine ⟨n, hn, e, ?_⟩
  rw [list_codes hL]
  obtain ⟨m, hm⟩ : ∃ m, L.length / 2 = m + 1 := Nat.exists_eq_add_of_le' ((Nat.le_div_iff_mul_le (show 0 < 2 by decide)).mpr h)
  rw [hm, List.range_succ_eq_map, List.map_cons, List.flatten_cons, c]
  exact ⟨_, rfl⟩
theorem list_three {L : List Int} (hL : ∀ n ∈ L, 0 ≤ n ∧ n < 256) (h : 6 ≤ L.length) : ∃ n0 n1 n2 : Nat, (n0 : Int) = L.getD 0 0 * 256 + L.getD 1 0 ∧ (n1 : Int) = L.getD 2 0 * 256 + L.getD 3 0 ∧ (n2 : Int) = L.getD 4 0 * 256 + L.getD 5 0 ∧ ∃ rest, cs (listText (byteArr L)) = fmC n0 ++ (fmC n1 ++ (fmC n2 ++ rest)) := by
  obtain ⟨n0, _, e0, c0⟩ := row_code hL 0
  obtain ⟨n1, _, e1, c1⟩ := row_code hL 1
  obtain ⟨n2, _, e2, c2⟩ := row_code hL 2
  refine ⟨n0, n1, n2, e0, e1, e2, ?_⟩
  rw [list_codes hL]
  obtain ⟨m, hm⟩ : ∃ m, L.length / 2 = m + 1 + 1 + 1 := Nat.exists_eq_add_of_le' (show 3 ≤ L.length / 2 from (Nat.le_div_iff_mul_le (show 0 < 2 by decide)).mpr h)
  rw [hm, List.range_succ_eq_map, List.map_cons, List.flatten_cons, c0, List.range_succ_eq_map, List.map_cons, List.map_cons, List.flatten_cons, List.range_succ_eq_map, List.map_cons, List.map_cons, List.map_cons, List.flatten_cons]
  rw [show cs (rowAt L (Nat.succ 0)) = fmC n1 from c1, show cs (rowAt L (Nat.succ (Nat.succ 0))) = fmC n2 from c2]
  exact ⟨_, rfl⟩
/-- a listing that can be read -/
structure Good (li : Str) : Prop where
  len : (cs li).length = 10 ∨ (30 ≤ (cs li).length ∧ (cs li).length ≤ 200)
  ok : ∀ c ∈ cs li, okB c = true
theorem okB_parts {c : Nat} (h : okB c = true) : c < 128 ∧ okInt (rdOf c) := by
  unfold okB at h
  simp only [Bool.and_eq_true, decide_eq_true_eq] at h
  exact ⟨h.1, h.2.1, h.2.2⟩
noncomputable def valsOf (A : List Nat) : List Int := A.map fun c => (valC c : Int)
theorem vals_range {A : List Nat} (h : ∀ c ∈ A, okB c = true) : ∀ v ∈ valsOf A, 0 ≤ v ∧ v < 64 := by
  intro v hv
  obtain ⟨c, hc, rfl⟩ := List.mem_map.mp hv
  have := (ok_all c (okB_parts (h c hc)).1 (h c hc)).2
  omega
section
variable {li y ap : Str}
theorem ap_codes (hy : y = Txt.slice li none (some 30)) (ha : ap = y ++ Str.ofString "==") : cs ap = (cs li).take 30 ++ [61, 61] := by
  have e : cs (Str.ofString "==") = [61, 61] := by decide +kernel
  have c := cs_cut li 30
  rw [ha, cs_app, e, hy]
  congr 1
theorem y_codes (hy : y = Txt.slice li none (some 30)) : cs y = (cs li).take 30 := by
  rw [hy]; exact cs_cut li 30
theorem take_ok (G : Good li) : ∀ c ∈ (cs li).take 30, okB c = true := fun c hc => G.ok c (List.mem_of_mem_take hc)
theorem two_of {P : Nat → Prop} {n : Nat} (h : n = 10 ∨ n = 30) (a : P 10) (b : P 30) : P n := h.elim (fun e => e ▸ a) fun e => e ▸ b
theorem take_len10 {n : Nat} (h : n = 10 ∨ (30 ≤ n ∧ n ≤ 200)) : min 30 n = 10 ∨ min 30 n = 30 := by
  rcases h with rfl | h
  · exact .inl rfl
  · exact .inr (Nat.min_eq_left h.1)
theorem take_len (G : Good li) : ((cs li).take 30).length = 10 ∨ ((cs li).take 30).length = 30 := by
  rw [List.length_take]
  exact take_len10 G.len
theorem ap_end (G : Good li) (hy : y = Txt.slice li none (some 30)) (ha : ap = y ++ Str.ofString "==") : ∃ l p, a2bEnd (intsOf (readOf ap)) = (octs (valsOf ((cs li).take 30)), 2, l, p) ∧ 2 ≤ p := by
  have hk := take_ok G
  have hl := take_len G
  obtain ⟨l, p, e, hp⟩ := fold_vals (((cs li).take 30).map rdOf) (fun k hkm => by
    obtain ⟨q, hq, rfl⟩ := List.mem_map.mp hkm
    exact (okB_parts (hk q hq)).2) []
  have hm : ((cs li).take 30).length % 4 = 2 := two_of (P := (· % 4 = 2)) hl rfl rfl
  have ev : ((cs li).take 30).map (b64v ∘ rdOf) = valsOf ((cs li).take 30) := List.map_congr_left fun c hc => (ok_all c (okB_parts (hk c hc)).1 (hk c hc)).1
  rw [List.length_map, hm, List.map_map, ev, List.nil_append] at e
  refine ⟨l, p + 1 + 1, ?_, Int.add_le_add_right (Int.add_le_add_right hp 1) 1⟩
  have e61 : rdOf 61 = 61 := by decide +kernel
  unfold a2bEnd
  rw [intsOf_readOf, ap_codes hy ha, List.map_append, List.foldl_append, e, List.map_cons, List.map_cons, List.map_nil, e61]
  show a2bStep (a2bStep _ 61) 61 = _
  rw [st_pad, st_pad]
  rfl
theorem ap_ok (G : Good li) (hy : y = Txt.slice li none (some 30)) (ha : ap = y ++ Str.ofString "==") : DecOk ap := by
  obtain ⟨l, p, e, hp⟩ := ap_end G hy ha
  have hl := take_len G
  have hlen : ap.length ≤ 1000 := by
    rw [← cs_len, ap_codes hy ha, List.length_append]
    exact two_of (P := (· + 2 ≤ 1000)) hl (by decide) (by decide)
  refine ⟨?_, hlen, by rw [readOf_len]; exact hlen, by rw [e]; show (2 : Int) ≠ 1; decide, by rw [e]; exact Or.inr (Int.add_le_add_left hp 2)⟩
  intro c hc
  have hc : c ∈ cs ap := by simpa [cs] using hc
  rw [ap_codes hy ha] at hc
  rcases List.mem_append.mp hc with hc | hc
  · exact (okB_parts (take_ok G c hc)).1
  · simp only [List.mem_cons, List.not_mem_nil, or_false, or_self] at hc
    rw [hc]; decide
theorem ap_dec (G : Good li) (hy : y = Txt.slice li none (some 30)) (ha : ap = y ++ Str.ofString "==") : decOf ap = byteArr (octs (valsOf ((cs li).take 30))) := by
  obtain ⟨l, p, e, hp⟩ := ap_end G hy ha
  unfold decOf
  rw [e]
theorem vals_len (A : List Nat) : (valsOf A).length = A.length := by unfold valsOf; rw [List.length_map]
theorem ap_size (G : Good li) (hy : y = Txt.slice li none (some 30)) (ha : ap = y ++ Str.ofString "==") : (decOf ap).size = ((cs li).take 30).length * 6 / 8 := by
  rw [ap_dec G hy ha, size_byteArr, octs_len, vals_len]
theorem getD_take {l : List Nat} {i n : Nat} (h : i < n) : (l.take n).getD i 0 = l.getD i 0 := by
  rw [List.getD_eq_getElem?_getD, List.getD_eq_getElem?_getD, List.getElem?_take, if_pos h]
theorem N30_take (l : List Nat) {n : Nat} (hn : 8 ≤ n) : N30 (l.take n) = N30 l := by
  unfold N30 md0 md1 md2
  rw [getD_take (Nat.lt_of_lt_of_le (by decide) hn), getD_take (Nat.lt_of_lt_of_le (by decide) hn), getD_take (Nat.lt_of_lt_of_le (by decide) hn), getD_take (Nat.lt_of_lt_of_le (by decide) hn), getD_take (Nat.lt_of_lt_of_le (by decide) hn), getD_take (Nat.lt_of_lt_of_le (by decide) hn), getD_take (Nat.lt_of_lt_of_le (by decide) hn), getD_take (Nat.lt_of_lt_of_le (by decide) hn)]
theorem take_own (vs : List Int) (n : Nat) (h : n ≤ vs.length) : vs = (List.range n).map (fun i => vs.getD i 0) ++ vs.drop n := by
  refine (List.take_append_drop n vs).symm.trans (congrArg (· ++ vs.drop n) (List.ext_getElem? fun i => ?_))
  by_cases g : i < n
  · rw [List.getElem?_take, if_pos g, List.getElem?_map, List.getElem?_range g, Option.map_some, List.getD_eq_getElem?_getD, List.getElem?_eq_getElem (Nat.lt_of_lt_of_le g h)]
    rfl
  · rw [List.getElem?_take, if_neg g, List.getElem?_eq_none (by rw [List.length_map, List.length_range]; exact Nat.not_lt.mp g)]
theorem octs_eight (vs : List Int) (h : 8 ≤ vs.length) : (octs vs).getD 0 0 = vs.getD 0 0 * 4 + vs.getD 1 0 / 16 ∧ (octs vs).getD 1 0 = vs.getD 1 0 % 16 * 16 + vs.getD 2 0 / 4 ∧ (octs vs).getD 2 0 = vs.getD 2 0 % 4 * 64 + vs.getD 3 0 ∧
    (octs vs).getD 3 0 = vs.getD 4 0 * 4 + vs.getD 5 0 / 16 ∧ (octs vs).getD 4 0 = vs.getD 5 0 % 16 * 16 + vs.getD 6 0 / 4 ∧ (octs vs).getD 5 0 = vs.getD 6 0 % 4 * 64 + vs.getD 7 0 := by
  rw [congrArg octs (take_own vs 8 h)]
  exact ⟨rfl, rfl, rfl, rfl, rfl, rfl⟩
theorem vals_getD {A : List Nat} {i : Nat} (h : i < A.length) : (valsOf A).getD i 0 = (valC (A.getD i 0) : Int) := by
  unfold valsOf
  rw [List.getD_eq_getElem?_getD, List.getElem?_map, List.getD_eq_getElem?_getD, List.getElem?_eq_getElem h]
  rfl
theorem next_facts (G : Good li) : (cs (nextL li)).take 10 = N10 (cs li) ∧ (cs (nextL li)).take 30 = N30 (cs li) ∧ Good (nextL li) := by
  have hd := ap_dec G rfl rfl
  have hr := octs_range _ (vals_range (take_ok G))
  have hl := take_len G
  have h8 : 8 ≤ ((cs li).take 30).length := two_of (P := (8 ≤ ·)) hl (by decide) (by decide)
  have hlen := octs_len (valsOf ((cs li).take 30))
  rw [vals_len] at hlen
  unfold nextL
  rw [hd]
  have g := list_good hr
  obtain ⟨n0, n1, n2, e0, e1, e2, rest, e⟩ := list_three hr (by rw [hlen]; exact two_of (P := (6 ≤ · * 6 / 8)) hl (by decide) (by decide))
  obtain ⟨o0, o1, o2, o3, o4, o5⟩ := octs_eight _ (Nat.le_trans h8 (Nat.le_of_eq (vals_len _).symm))
  have v : ∀ i, i < 8 → (valsOf ((cs li).take 30)).getD i 0 = (valC ((cs li).getD i 0) : Int) := fun i h => by
    rw [vals_getD (Nat.lt_of_lt_of_le h h8), getD_take (Nat.lt_trans h (by decide))]
  rw [v 0 (by decide), v 1 (by decide)] at o0
  rw [v 1 (by decide), v 2 (by decide)] at o1
  rw [v 2 (by decide), v 3 (by decide)] at o2
  rw [v 4 (by decide), v 5 (by decide)] at o3
  rw [v 5 (by decide), v 6 (by decide)] at o4
  rw [v 6 (by decide), v 7 (by decide)] at o5
  rw [o0, o1] at e0
  rw [o2, o3] at e1
  rw [o4, o5] at e2
  have m0 : n0 = md0 (cs li) := Int.ofNat_inj.mp e0
  have m1 : n1 = md1 (cs li) := Int.ofNat_inj.mp e1
  have m2 : n2 = md2 (cs li) := Int.ofNat_inj.mp e2
  rw [m0, m1, m2] at e
  refine ⟨?_, ?_, ?_, g.2⟩
  · rw [e]; rfl
  · rw [e]; rfl
  · rw [g.1, hlen]; exact two_of (P := fun n => 10 * (n * 6 / 8 / 2) = 10 ∨ (30 ≤ 10 * (n * 6 / 8 / 2) ∧ 10 * (n * 6 / 8 / 2) ≤ 200)) hl (by decide) (by decide)
end
end Mine
end

section
open PySem PySem.W PyProof.Rows PySem.Calls PySem.Spec
set_option maxRecDepth 10000
namespace Mine
theorem okB_of {c : Nat} (h : signOk c) : okB c = true := by
  unfold okB
  simp only [Bool.and_eq_true, decide_eq_true_eq]
  exact ⟨h.1, h.2.1, h.2.2⟩
section
variable {k r w : Int} {n : Nat} {li y ap lj z e x p : Str} {oc : Array UInt8} {t : Int}
theorem start_good {l0 : Str} (h : Start k r w l0) : Good l0 := ⟨by rw [cs_len]; exact h.hl, fun c hc => okB_of (h.ho c hc)⟩
theorem LS_good {l0 : Str} (h : Good l0) : ∀ n, Good (LS l0 n)
  | 0 => h
  | n + 1 => (next_facts (LS_good h n)).2.2
theorem lis_good (h : LisAt k r w n li) : Good li := by
  obtain ⟨l0, s, rfl⟩ := h
  exact LS_good (start_good s) n
theorem t_dec (h : LisAt k r w n li) (hy : y = Txt.slice li none (some 30)) (ha : ap = y ++ Str.ofString "==") : DecOk ap := ap_ok (lis_good h) hy ha
theorem t_size (h : LisAt k r w n li) (hy : y = Txt.slice li none (some 30)) (ha : ap = y ++ Str.ofString "==") (ho : oc = decOf ap) : oc.size ≤ 1000 ∧ (oc.size : Int) = ((y.length : Int) * 6).fdiv 8 := by
  have hs := ap_size (lis_good h) hy ha
  have hl := take_len (lis_good h)
  rw [← ho] at hs
  rw [← cs_len y, y_codes hy, hs]
  exact two_of (P := fun n => n * 6 / 8 ≤ 1000 ∧ ((n * 6 / 8 : Nat) : Int) = ((n : Int) * 6).fdiv 8) hl (by decide) (by decide)
theorem t_next (h : LisAt k r w n li) (hy : y = Txt.slice li none (some 30)) (ha : ap = y ++ Str.ofString "==") (ho : oc = decOf ap) (hj : lj = listText oc) : LisAt k r w (n + 1) lj ∧ lj.length ≤ 1000 := by
  have hl : LisAt k r w (n + 1) lj := by
    obtain ⟨l0, s, e⟩ := h
    refine ⟨l0, s, ?_⟩
    rw [hj, ho, ha, hy, e]
    rfl
  have g := (lis_good hl).len
  rw [cs_len] at g
  exact ⟨hl, g.elim (fun h => Nat.le_trans (Nat.le_of_eq h) (by decide)) fun h => Nat.le_trans h.2 (by decide)⟩
theorem kindCh_eq : ∀ h : Nat, h < 16 → kindCh (h : Int) = kindC h := by decide +kernel
theorem late_eq : ∀ h : Nat, h < 16 → lateOf (h : Int) = (lateN h : Int) := by decide +kernel
theorem seq_codes {kN rN wN : Nat} {l0 : Str} (G : Good l0) {rest : List Nat} (hd : cs l0 = W0 kN rN wN ++ rest) : ∀ n, (cs (LS l0 (n + 1))).take 10 = (WW kN rN wN (n + 1)).take 10 ∧ (n ≠ 0 → (cs (LS l0 (n + 1))).take 30 = WW kN rN wN (n + 1))
  | 0 => by
    have f := (next_facts G).1
    rw [hd] at f
    exact ⟨f, fun h => absurd rfl h⟩
  | n + 1 => by
    have ih := (seq_codes G hd n).1
    have f := (next_facts (LS_good G (n + 1))).2.1
    have e : (cs (LS l0 (n + 1 + 1))).take 30 = WW kN rN wN (n + 1 + 1) := by
      show (cs (nextL (LS l0 (n + 1)))).take 30 = N30 (WW kN rN wN (n + 1))
      rw [f, ← N30_take (cs (LS l0 (n + 1))) (n := 10) (by decide), ih, N30_take _ (by decide)]
    refine ⟨?_, fun _ => e⟩
    rw [← e, List.take_take]
    rfl
theorem if_congr_iff {c d : Prop} [Decidable c] [Decidable d] {a b : Nat} (h : c ↔ d) : (if c then a else b) = (if d then a else b) := by
  by_cases g : d
  · rw [if_pos g, if_pos (h.mpr g)]
  · rw [if_neg g, if_neg fun x => g (h.mp x)]
theorem end_all : ∀ i : Nat, i < 2 → cs (endOf (i : Int)) = [cs (Str.ofString "-wSrwsr-Tc-wSr-srwx?r-Sr-x-wt"), cs (Str.ofString "rwsr-sr-Tp-w-r-xrwt?r-Sr-x-wt")].getD i [] := by decide +kernel
theorem cast_six (n : Nat) : (n : Int) = 6 ↔ n = 6 := ⟨fun e => Int.ofNat_inj.mp e, fun e => congrArg Int.ofNat e⟩
theorem end_codes {kN i : Nat} (hk : kN < 16) (hi : i < 2) (hx : x = endOf (i : Int)) (hp : p = (if (kN : Int) = 6 then Str.ofString "b" else Str.ofString "?") ++ x) : cs p = endC kN i := by
  have e1 : cs (if (kN : Int) = 6 then Str.ofString "b" else Str.ofString "?") = [if (kN : Int) = 6 then 98 else 63] := cs_if (by decide +kernel) (by decide +kernel)
  have e2 : (if (kN : Int) = 6 then 98 else 63) = (if kN = 6 then 98 else 63) := if_congr_iff (cast_six kN)
  have e3 : cs x = [cs (Str.ofString "-wSrwsr-Tc-wSr-srwx?r-Sr-x-wt"), cs (Str.ofString "rwsr-sr-Tp-w-r-xrwt?r-Sr-x-wt")].getD i [] := by
    rw [hx]; exact end_all i hi
  rw [hp, cs_app, e1, e2, e3]
  rfl
theorem turn_idx {rN : Nat} (ht : t = 2 + (n : Int)) : (t + (rN : Int) + 1).fmod 2 = (((n + rN + 1) % 2 : Nat) : Int) := by
  rw [Int.fmod_eq_emod_of_nonneg _ (by decide), ht]
  show (((2 + n + rN + 1) % 2 : Nat) : Int) = _
  rw [Nat.add_assoc, Nat.add_assoc 2, Nat.add_mod_left, Nat.add_assoc]
theorem cast_one (n : Nat) : (n : Int) = 1 ↔ n = 1 := ⟨fun e => Int.ofNat_inj.mp e, fun e => congrArg Int.ofNat e⟩
theorem lis_parts (h : LisAt k r w (n + 1) lj) : ∃ kN rN wN : Nat, kN < 16 ∧ rN < 2 ∧ wN < 2 ∧ k = kN ∧ r = rN ∧ w = wN ∧ (cs lj).take 10 = (WW kN rN wN (n + 1)).take 10 ∧ (n ≠ 0 → (cs lj).take 30 = WW kN rN wN (n + 1)) := by
  obtain ⟨l0, s, rfl⟩ := h
  have hk := s.hk
  have hr := s.hr
  have hw := s.hw
  obtain ⟨kN, rfl⟩ := Int.eq_ofNat_of_zero_le hk.1
  obtain ⟨rN, rfl⟩ := Int.eq_ofNat_of_zero_le hr.1
  obtain ⟨wN, rfl⟩ := Int.eq_ofNat_of_zero_le hw.1
  have lk : kN < 16 := Int.ofNat_lt.mp hk.2
  obtain ⟨rest, hd⟩ := s.hd
  refine ⟨kN, rN, wN, lk, Nat.lt_succ_of_le (Int.ofNat_le.mp hr.2), Nat.lt_succ_of_le (Int.ofNat_le.mp hw.2), rfl, rfl, rfl, seq_codes (start_good s) (rest := rest) ?_ n⟩
  rw [hd, kindCh_eq kN lk, if_congr_iff (cast_one rN), if_congr_iff (cast_one wN)]
  rfl
theorem cmp_a (l n w : Nat) : (l ≤ n ∧ (0 < n ∨ w = 1)) ↔ (2 + (l : Int) ≤ 2 + (n : Int) ∧ (2 < 2 + (n : Int) ∨ (w : Int) = 1)) :=
  and_congr ⟨fun h => Int.add_le_add_left (Int.ofNat_le.mpr h) 2, fun h => Int.ofNat_le.mp (Int.le_of_add_le_add_left h)⟩
    (or_congr ⟨fun h => Int.add_le_add_left (Int.ofNat_lt.mpr h) 2, fun h => Int.ofNat_lt.mp (Int.lt_of_add_lt_add_left (a := 2) h)⟩ (cast_one w).symm)
theorem cmp_b (l n : Nat) : 1 + l ≤ n ↔ 3 + (l : Int) ≤ 2 + (n : Int) := by omega
theorem t_c10 (h : LisAt k r w (n + 1) lj) (hn : n < 6) (ht : t = 2 + (n : Int)) (hz : z = Txt.slice lj none (some 10)) (hx : x = endOf ((t + r + 1).fmod 2)) (hp : p = (if k = 6 then Str.ofString "b" else Str.ofString "?") ++ x) (he : e = Txt.slice p none (some 10)) :
    (z.cps.toList == e.cps.toList) = decide (2 + lateOf k ≤ t ∧ (2 < t ∨ w = 1)) := by
  obtain ⟨kN, rN, wN, hk, hr, hw, rfl, rfl, rfl, h10, _⟩ := lis_parts h
  rw [turn_idx ht] at hx
  have hpc := end_codes hk (Nat.mod_lt _ (by decide)) hx hp
  have c1 : cs z = (cs lj).take 10 := by rw [hz]; exact cs_cut lj 10
  have c2 : cs e = (cs p).take 10 := by rw [he]; exact cs_cut p 10
  have c := check10 kN hk rN hr wN hw n hn
  show (cs z == cs e) = _
  rw [c1, c2, h10, hpc, c, late_eq kN hk, ht]
  exact decide_eq_decide.mpr (cmp_a _ n wN)
theorem t_c30 (h : LisAt k r w (n + 1) lj) (hn : n < 6) (h2 : 2 < t) (ht : t = 2 + (n : Int)) (hz : z = Txt.slice lj none (some 30)) (hx : x = endOf ((t + r + 1).fmod 2)) (hp : p = (if k = 6 then Str.ofString "b" else Str.ofString "?") ++ x) :
    (z.cps.toList == p.cps.toList) = decide (3 + lateOf k ≤ t) := by
  obtain ⟨kN, rN, wN, hk, hr, hw, rfl, rfl, rfl, _, h30⟩ := lis_parts h
  rw [turn_idx ht] at hx
  have hpc := end_codes hk (Nat.mod_lt _ (by decide)) hx hp
  have c1 : cs z = (cs lj).take 30 := by rw [hz]; exact cs_cut lj 30
  rw [ht] at h2
  have hn0 : 0 < n := Int.ofNat_lt.mp (Int.lt_of_add_lt_add_left (a := 2) h2)
  have c := check30 kN hk rN hr wN hw n hn hn0
  show (cs z == cs p) = _
  rw [c1, h30 (Nat.ne_of_gt hn0), hpc, c, late_eq kN hk, ht]
  exact decide_eq_decide.mpr (cmp_b _ n)
theorem octs_four (vs : List Int) (h : 4 ≤ vs.length) : (octs vs).getD 0 0 = vs.getD 0 0 * 4 + vs.getD 1 0 / 16 ∧ (octs vs).getD 1 0 = vs.getD 1 0 % 16 * 16 + vs.getD 2 0 / 4 := by
  rw [congrArg octs (take_own vs 4 h)]
  exact ⟨rfl, rfl⟩
theorem bits_four (vs : List Int) (h : 4 ≤ vs.length) : (bitsOf vs).getD 7 0 = vs.getD 1 0 / 16 % 2 ∧ (bitsOf vs).getD 8 0 = vs.getD 1 0 / 8 % 2 := by
  rw [congrArg bitsOf (take_own vs 4 h)]
  show (bitsOf (_ :: _ :: _)).getD 7 0 = _ ∧ (bitsOf (_ :: _ :: _)).getD 8 0 = _
  rw [bits_cons, bits_cons]
  exact ⟨rfl, rfl⟩
theorem div4 {p : Int} (h : 0 ≤ p ∧ p < 64) : 0 ≤ p / 4 ∧ p / 4 < 16 := ⟨Int.ediv_nonneg h.1 (by decide), Int.ediv_lt_of_lt_mul (by decide) h.2⟩
theorem mod2r (x : Int) : 0 ≤ x % 2 ∧ x % 2 ≤ 1 := ⟨Int.emod_nonneg _ (by decide), Int.le_of_lt_add_one (Int.emod_lt_of_pos x (by decide))⟩
theorem low_all : ∀ p : Nat, p < 64 → ∀ y : Nat, y < 16 → (p % 16 * 16 + y) / 128 % 2 = p / 8 % 2 ∧ p % 16 * 16 + y < 256 ∧ p / 16 < 4 := by decide +kernel
theorem high_part {m x y q : Nat} (em : m = (q * 4 + x) * 256 + y) (hx : x < 4) (hy : y < 256) : m / 4096 = q / 4 ∧ m / 2 ^ 8 % 2 = x % 2 ∧ m / 2 ^ 7 % 2 = y / 128 % 2 := by
  have a : m / 256 = q * 4 + x := by rw [em, Nat.mul_comm _ 256, Nat.mul_add_div (by decide), Nat.div_eq_of_lt hy, Nat.add_zero]
  refine ⟨?_, ?_, ?_⟩
  · rw [show 4096 = 256 * 16 from rfl, ← Nat.div_div_eq_div_mul, a, show 16 = 4 * 4 from rfl, ← Nat.div_div_eq_div_mul, Nat.mul_comm, Nat.mul_add_div (by decide), Nat.div_eq_of_lt hx, Nat.add_zero]
  · rw [show 2 ^ 8 = 256 from rfl, a, Nat.add_mod, show q * 4 = q * 2 * 2 from (Nat.mul_assoc q 2 2).symm, Nat.mul_mod_left, Nat.zero_add, Nat.mod_mod]
  · rw [em, show (q * 4 + x) * 256 = 2 ^ 7 * ((q * 4 + x) * 2) by rw [Nat.mul_comm, Nat.mul_comm _ 2, ← Nat.mul_assoc], Nat.mul_add_div (by decide), Nat.add_mod, Nat.mul_mod_left, Nat.zero_add, Nat.mod_mod]
theorem mode_bits {m : Nat} {p0 p1 p2 : Int} (em : (m : Int) = (p0 * 4 + p1 / 16) * 256 + (p1 % 16 * 16 + p2 / 4)) (h0 : 0 ≤ p0 ∧ p0 < 64) (h1 : 0 ≤ p1 ∧ p1 < 64) (h2 : 0 ≤ p2 ∧ p2 < 64) :
    ((m / 4096 : Nat) : Int) = p0 / 4 ∧ (p1 / 16 % 2 = 1 ↔ m / 2 ^ 8 % 2 = 1) ∧ (p1 / 8 % 2 = 1 ↔ m / 2 ^ 7 % 2 = 1) := by
  obtain ⟨n0, rfl⟩ := Int.eq_ofNat_of_zero_le h0.1
  obtain ⟨n1, rfl⟩ := Int.eq_ofNat_of_zero_le h1.1
  obtain ⟨n2, rfl⟩ := Int.eq_ofNat_of_zero_le h2.1
  have e : m = (n0 * 4 + n1 / 16) * 256 + (n1 % 16 * 16 + n2 / 4) := by
    have : (m : Int) = (((n0 * 4 + n1 / 16) * 256 + (n1 % 16 * 16 + n2 / 4) : Nat) : Int) := em
    exact Int.ofNat_inj.mp this
  have l := low_all n1 (Int.ofNat_lt.mp h1.2) (n2 / 4) (Nat.div_lt_of_lt_mul (Int.ofNat_lt.mp h2.2))
  have g := high_part e l.2.2 l.2.1
  rw [g.1, g.2.1, g.2.2, l.1]
  refine ⟨rfl, ?_, ?_⟩
  · rw [show ((n1 : Int) / 16 % 2) = ((n1 / 16 % 2 : Nat) : Int) from rfl]; exact ⟨fun h => Int.ofNat_inj.mp h, fun h => congrArg Int.ofNat h⟩
  · rw [show ((n1 : Int) / 8 % 2) = ((n1 / 8 % 2 : Nat) : Int) from rfl]; exact ⟨fun h => Int.ofNat_inj.mp h, fun h => congrArg Int.ofNat h⟩
theorem len_fact {n : Nat} (h1 : 4 ≤ n) (h2 : n ≤ 16) (h3 : n % 4 = 0) : 10 * (n * 6 / 8 / 2) = 10 ∨ (30 ≤ 10 * (n * 6 / 8 / 2) ∧ 10 * (n * 6 / 8 / 2) ≤ 200) :=
  (by decide +kernel : ∀ n, n < 17 → 4 ≤ n → n % 4 = 0 → 10 * (n * 6 / 8 / 2) = 10 ∨ (30 ≤ 10 * (n * 6 / 8 / 2) ∧ 10 * (n * 6 / 8 / 2) ≤ 200)) n (Nat.lt_succ_of_le h2) h1 h3
theorem start_law {ns bl pl : List Int} {l0 : Str} {a b c : Int} (hbl : bl = bitsOf (txPlaces ns)) (hpl : pl = txPlaces ns) (ha : a = pl.getD (Int.toNat 0) 0) (hb : b = bl.getD (Int.toNat 7) 0) (hc : c = bl.getD (Int.toNat 8) 0) (ho : oc = decOf (txText ns)) (hl : l0 = listText oc) :
    Start (a.fdiv 4) b c l0 := by
  have h4 := txPlaces_len ns
  have hr := bare_range ns
  rw [decText] at ho
  rw [← hpl] at hbl h4 hr ho
  have hor := octs_range pl hr
  have holen := octs_len pl
  have g := list_good hor
  obtain ⟨m, hm, hme, rest, he⟩ := list_one hor (by rw [holen]; exact Nat.le_trans (by decide) (Nat.div_le_div_right (c := 8) (Nat.mul_le_mul_right 6 h4.1)))
  rw [← ho, ← hl] at g he
  obtain ⟨o0, o1⟩ := octs_four pl h4.1
  obtain ⟨b7, b8⟩ := bits_four pl h4.1
  rw [o0, o1] at hme
  rw [hbl] at hb hc
  have r : ∀ i, i < 4 → 0 ≤ pl.getD i 0 ∧ pl.getD i 0 < 64 := fun i h => pl_item (k := (i : Int)) hr (Nat.lt_of_lt_of_le h h4.1) rfl
  have ek : a.fdiv 4 = pl.getD 0 0 / 4 := by rw [ha]; exact Int.fdiv_eq_ediv_of_nonneg _ (by decide)
  have hb := hb.trans b7
  have hc := hc.trans b8
  obtain ⟨x1, x2, x3⟩ := mode_bits hme (r 0 (by decide)) (r 1 (by decide)) (r 2 (by decide))
  have e1 : kindCh (a.fdiv 4) = kindC (m / 4096) := by rw [ek, ← x1]; exact kindCh_eq _ (Nat.div_lt_of_lt_mul hm)
  have e2 : (if b = 1 then 114 else 45) = bitC m 8 114 := by rw [hb]; exact if_congr_iff x2
  have e3 : (if c = 1 then 119 else 45) = bitC m 7 119 := by rw [hc]; exact if_congr_iff x3
  refine ⟨ek ▸ div4 (r 0 (by decide)), hb ▸ mod2r _, hc ▸ mod2r _, ?_, ?_, fun ch hch => okB_parts (g.2 ch hch)⟩
  · rw [he, e1, e2, e3]
    exact ⟨_, rfl⟩
  · rw [← cs_len, g.1, holen]
    exact len_fact h4.1 h4.2.1 h4.2.2
end
end Mine
end

section
open PySem PySem.W PyProof.Rows PySem.Calls PySem.Spec
set_option maxRecDepth 100000
set_option maxHeartbeats 4000000
namespace Mine


set_option maxHeartbeats 0 in
theorem law_holds : PySem.Challenge.rw_qh0093_01.Holds := Mine.hd (by
  k_with_none
  w_top off
  (k_with "LeaveP" => ((refine LeaveP.intro (by assumption) ?_); intro kP; (try dsimp only)))
  (k_with "call type:type" => ((with_reducible show wpAny _ _ (call _ [Value.bytes _ _]) _ _ _); refine call_type_of (Tx := "bytes") rfl (by decide +kernel) ?_))
  (k_with "call ref" => (
    k_here
    k_dflt (first
    | ((with_reducible show wpAny _ _ (call (Value.ref 63) _ _) _ _ _); refine' Pure.use (b64_value_pure _ _) ?k1 ?k2 ?k3 ?k4 ?k5 rfl ?k6 ?k7 ?k8 ?k9 ?kU ?_)
    | ((with_reducible show wpAny _ _ (call (Value.ref 56) _ _) _ _ _); refine' Pure.use truth_pure ?k1 ?k2 ?k3 ?k4 ?k5 rfl ?k6 ?k7 ?k8 ?k9 ?kU ?_)
    | ((with_reducible show wpAny _ _ (call (Value.ref 49) _ _) _ _ _); refine' Pure.use (ascii_buffer_pure _ _) ?k1 ?k2 ?k3 ?k4 ?k5 rfl ?k6 ?k7 ?k8 ?k9 ?kU ?_)
    | ((with_reducible show wpAny _ _ (call (Value.ref 86) _ _) _ _ _); refine' Pure.use (S_IFMT_pure _ _) ?k1 ?k2 ?k3 ?k4 ?k5 rfl ?k6 ?k7 ?k8 ?k9 ?kU ?_))
    (case k1 => k_asm); (case k2 => k_asm); (case k3 => k_asm); (case k4 => k_asm); (case k5 => k_asm); (case k6 => exact rfl); (case k7 => first | exact rfl | assumption); (case k8 => trivial); (case k9 => (first | decide | omega | ktr_room)); (case kU => (first | decide | omega | ktr_units))
    intro t9 h9 tk9 K9 F9 N9; clear K9; (try dsimp only)))
  (k_with "call builtin:list.append" => (k_here; (with_reducible show wpAny _ _ (call (Value.builtin _) [Value.ref _, _]) _ _ _); k_dflt (refine' append_K ?k1 ?k2 ?k3 ?_ ?z; (case k1 => k_asm); (case k2 => k_asm); (case k3 => k_upd); (case z => ((try simp only [List.size_toArray]); rw [PySem.sizeLine_eq]; omega)); k_whole); intro h' F' N'; (try k_sweep)))
  (k_with "call type:bytes" => (
    k_here
    (with_reducible show wpAny _ _ (call (Value.type "bytes") [Value.ref _]) _ _ _)
    (with_reducible rename Fr _ _ _ _ => qF); (with_reducible rename News _ _ _ _ => qN)
    refine' call_bytes_ints ?k1 ?k2 ?k3 ?k4 rfl ?_
    (case k1 => exact News.isList qN (by k_mem)); (case k2 => assumption); (case k3 => assumption); (case k4 => (rw [PySem.sizeLine_eq]; omega))
    intro h9 t9 tk9 K9; have F9 := Kp.fr K9 qF; have N9 := Kp.news K9 qN; clear K9 qF qN; (try dsimp only)))
  (k_with "exec Raise some none" => (exfalso; omega))
  (k_with "InvEndN" => (k_dflt kst_close))
  (k_with "call builtin:str.encode" => (k_here; k_dflt (refine' call_encode ?k1 ?k2 ?_; (case k1 => assumption); (case k2 => (rw [PySem.sizeLine_eq]; omega))); intro t9 tk9; (try dsimp only)))
  (k_with "call builtin:bytes.maketrans" => (k_here; k_dflt (refine' call_maketrans ?_); intro t9 tk9; (try dsimp only)))
  (k_with "call builtin:bytes.translate" => (k_here; k_dflt (refine' call_translate ?k2 ?_; (case k2 => (rw [PySem.sizeLine_eq]; (try simp only [ascii, Array.size_map]); exact Nat.le_trans (show _ ≤ 1000 by assumption) (by decide)))); intro t9 tk9; (try dsimp only)))
  (k_with "getMethod str" => (k_here; with_reducible refine getm_encode ?_))
  (k_with "getMethod bytes" => (k_here; with_reducible refine getm_translate ?_))
  (k_with "getMethod type:bytes" => (k_here; (with_reducible refine' getm_maketrans ?k1 ?k2 ?_); (case k1 => k_asm); (case k2 => k_asm)))
  (k_with "call ref" => (
    k_here
    (with_reducible show wpAny _ _ (call (Value.ref 133) _ _) _ _ _)
    k_dflt (
      refine' TextTells.use (text_tells _ _ _ ?kI ?kl) ?k1 ?k2 ?k3 ?k4 ?k5 rfl ?k6 ?k7 ?k8 ?k9 ?kU ?_
      (case k1 => k_asm); (case k2 => k_asm); (case k3 => k_asm); (case k4 => k_asm); (case k5 => k_asm); (case k6 => exact rfl); (case k7 => first | exact rfl | assumption); (case k8 => exact Kp.list (Fr.keep (by k_asm)) (by assumption)); (case kI => assumption); (case kl => omega); (case k9 => (first | decide | omega | ktr_room)); (case kU => (first | decide | omega | ktr_units))
      intro a9 l9 t9 ws9 h9 tk9 I9 lt9 off9 F9 N9; (try simp only [List.forall_mem_cons, List.not_mem_nil, false_implies, implies_true, and_true] at off9); (try dsimp only))))
  (k_with "eval ListComp" => (k_here; (with_reducible show wpAny _ _ (eval (PySem.Expr.ListComp _ [_, _] _ _) _) _ _ _); k_dflt (refine ListComp_two (by k_asm) (by decide) (by decide) rfl (by decide) rfl rfl (by decide) ?_)))
  (k_with "eval ListComp" => (k_here; (with_reducible show wpAny _ _ (eval (PySem.Expr.ListComp _ [_] _ _) _) _ _ _); k_dflt (refine ListComp_step (F₀ := by k_asm) (by with_unfolding_all rfl) (by decide) (by rfl) (by decide) (by rfl) ?_)))
  (k_with "call ref" => (
    k_here
    (with_reducible show wpAny _ _ (call (Value.ref 79) _ _) _ _ _)
    k_dflt (
      refine' Pure.useY (b64decode_ok _ _ _ ?kI) ?k1 ?k2 ?k3 ?k4 ?k5 rfl ?k6 ?k7 ?k8 ?k9 ?kU ?_
      (case k1 => k_asm); (case k2 => k_asm); (case k3 => k_asm); (case k4 => k_asm); (case k5 => k_asm); (case k6 => exact rfl); (case k7 => first | exact rfl | assumption); (case k8 => trivial); (case kI => assumption); (case k9 => (first | decide | omega | ktr_room)); (case kU => (first | decide | omega | ktr_units))
      intro oc9 t9 h9 tk9 K9 F9 N9; (try dsimp only))))
  (k_with "call ref" => (
    k_here
    (with_reducible show wpAny _ _ (call (Value.ref 152) _ _) _ _ _)
    k_dflt (
      refine' Pure.useS (listed_pure _ _ ?kI) ?k1 ?k2 ?k3 ?k4 ?k5 rfl ?k6 ?k7 ?k8 ?k9 ?kU ?_
      (case k1 => k_asm); (case k2 => k_asm); (case k3 => k_asm); (case k4 => k_asm); (case k5 => k_asm); (case k6 => exact rfl); (case k7 => first | exact rfl | assumption); (case k8 => trivial); (case kI => assumption); (case k9 => (first | decide | omega | ktr_room)); (case kU => (first | decide | omega | ktr_units))
      intro oc9 t9 h9 tk9 K9 F9 N9; (try dsimp only))))
  (k_with "call builtin:len" => (k_here; (with_reducible show wpAny _ _ (call (Value.builtin "len") [Value.ref _]) _ _ _); k_dflt (refine' kst_len ?k1 ?k2 ?k3 ?k4 ?_; (case k1 => k_asm); (case k2 => k_mem); (case k3 => exact hzl); (case k4 => omega)); (try dsimp only)))
  (k_with "call type:bytes" => (k_here; (with_reducible show wpAny _ _ (call (Value.type "bytes") [Value.ref _]) _ _ _); k_dflt (refine' call_bytes_as hEqD ?k1 ?k2 ?k3 ?k4 ?k5 ?k6 rfl ?_; (case k1 => k_asm); (case k2 => k_asm); (case k3 => k_mem); (case k4 => assumption); (case k5 => assumption); (case k6 => omega)); intro t9 h9 tk9 F9 N9; (try dsimp only)))
  (k_with "compareOp NotEq bytes bytes" => with_reducible refine ne_bytes_same ?_)
  (k_with "call ref" => (
    k_here
    (with_reducible show wpAny _ _ (call (Value.ref 147) _ _) _ _ _)
    k_dflt (
      refine' Pure.use (row_list _ _ _ ?kI ?kl ?kb) ?k1 ?k2 ?k3 ?k4 ?k5 rfl ?k6 ?k7 ?k8 ?k9 ?kU ?_
      (case k1 => k_asm); (case k2 => k_asm); (case k3 => k_asm); (case k4 => k_asm); (case k5 => k_asm); (case k6 => exact rfl); (case k7 => first | exact rfl | assumption); (case k8 => exact News.isList (by k_asm) (by k_mem)); (case kI => assumption); (case kl => exact take16 hkk hbll); (case kb => exact fun b hm => hbb b (List.mem_of_mem_drop (List.mem_of_mem_take hm))); (case k9 => (first | decide | omega | ktr_room)); (case kU => (first | decide | omega | ktr_units))
      intro t9 h9 tk9 K9 F9 N9; clear K9; (try dsimp only))))
  (k_with "call builtin:str.join" => (k_here; (with_reducible rename CarriedAll _ (List.map _ _) => ktC); k_dflt (refine' join_as hEqL ?k1 ktC ?k3 ?k4 ?_; (case k1 => exact News.isList (by k_asm) (by k_mem)); (case k3 => exact fun _ _ => Nat.le_of_eq (rowL_len _)); (case k4 => omega)); intro t9 tk9; (try dsimp only)))
  (k_with "compareOp NotEq str str" => with_reducible refine ne_str_same ?_)
  (k_with "subscriptTail Name Constant ref int" => (k_here; k_dflt (first
    | ((with_reducible show wpAny _ _ (subscriptTail _ _ _ (Value.int 0 _)) _ _ _); refine' item_ints (hI := qI) ?k1 ?k2 ?k3 ?k4 ?k5 ?_; (case k1 => k_asm); (case k2 => k_mem); (case k3 => decide); (case k4 => omega); (case k5 => omega); intro xk uk ek; have bk := pl_item hpr (by omega) ek)
    | ((with_reducible show wpAny _ _ (subscriptTail _ _ _ (Value.int 7 _)) _ _ _); refine' item_ints (hI := hz) ?k1 ?k2 ?k3 ?k4 ?k5 ?_; (case k1 => k_asm); (case k2 => k_mem); (case k3 => decide); (case k4 => omega); (case k5 => omega); intro xr ur er; have br := bl_item hbb (by omega) er)
    | ((with_reducible show wpAny _ _ (subscriptTail _ _ _ (Value.int 8 _)) _ _ _); refine' item_ints (hI := hz) ?k1 ?k2 ?k3 ?k4 ?k5 ?_; (case k1 => k_asm); (case k2 => k_mem); (case k3 => decide); (case k4 => omega); (case k5 => omega); intro xw uw ew; have bw := bl_item hbb (by omega) ew)); (try dsimp only)))
  (k_with "subscriptTail Name Slice str ref" => (k_here; (with_reducible show wpAny _ _ (subscriptTail _ (Expr.Slice none (some _) none _) _ _) _ _ _); (with_reducible rename Fr _ _ _ _ => qF); (with_reducible rename News _ _ _ _ => qN); k_dflt (refine' cut_str (s := ⟨_, _, _, _, _⟩) qF qN ?k1 ?_; (case k1 => first | omega | exact Nat.le_trans lz9 (Nat.le_trans (Nat.add_le_add lp9 le9) (by decide)))); clear qF qN; intro y9 h9 t9 tk9 ey9 ly9 F9 N9; (try dsimp only)))
  (k_with "binaryOp Add str str" => (k_here; k_dflt (refine' add_letter ?k1 ?k2 ?_; (case k1 => first | omega | decide); (case k2 => first | omega | decide | assumption)); intro z9 t9 tk9 ez9 lz9; (try dsimp only)))
  (k_with "subscriptTail Name BinOp ref int" => (k_here; k_dflt (refine' item_strs (hI := .cons _ _ (.cons _ _ .nil)) ?k1 ?k2 ?k3 ?k4 ?k5 ?_; (case k1 => k_asm); (case k2 => k_mem); (case k3 => exact (mod2 _).1); (case k4 => exact (mod2 _).2); (case k5 => decide)); intro xe ue ee; have le9 := end_len ee; (try dsimp only)))
  (k_with "compareOp NotEq bool bool" => (k_here; k_dflt (refine' ne_bool_same ?k1 ?_; (case k1 => first | exact eB.trans eA.symm | (rw [eB]; apply Bool.eq_iff_iff.mpr; simp only [decide_eq_true_eq, beq_iff_eq, Bool.false_eq_true, eq_self_iff_true, iff_false, iff_true]; omega))); (try dsimp only)))
  (k_with "compareOp Eq str str" => (k_here; k_dflt (first
    | (refine' eq_str_letter (t_c10 hLj ?kb kEq ?kd ?ke ?kf ?kg) ?_; (case kb => omega); (case kg => assumption); (case kd => assumption); (case ke => exact ee); (case kf => first | (rw [← ep9]; assumption) | (rw [if_pos (by assumption)]; assumption) | (rw [if_neg (by assumption)]; assumption)))
    | (refine' eq_str_letter (t_c30 hLj ?kb ?k2 kEq ?kd ?ke ?kf) ?_; (case kb => omega); (case k2 => omega); (case kd => assumption); (case ke => exact ee); (case kf => first | (rw [← ep9]; assumption) | (rw [if_pos (by assumption)]; assumption) | (rw [if_neg (by assumption)]; assumption)))); intro c9 eB; (try dsimp only)))
  (k_with "compareOp NotEq int int" => (k_here; k_dflt (refine' ne_int_same ?k1 ?_; (case k1 => assumption)); (try dsimp only)))
  (k_with "call ref" => (
    k_here
    (with_reducible show wpAny _ _ (call (Value.ref 79) _ _) _ _ _)
    (with_reducible rename LisAt _ _ _ _ _ => hLis)
    k_dflt (
      refine' Pure.useY (b64decode_ok _ _ _ (t_dec hLis ?kb ?kc)) ?k1 ?k2 ?k3 ?k4 ?k5 rfl ?k6 ?k7 ?k8 ?k9 ?kU ?_
      (case kc => assumption); (case kb => assumption)
      (case k1 => k_asm); (case k2 => k_asm); (case k3 => k_asm); (case k4 => k_asm); (case k5 => k_asm); (case k6 => exact rfl); (case k7 => first | exact rfl | assumption); (case k8 => trivial); (case k9 => (first | decide | omega | ktr_room)); (case kU => (first | decide | omega | ktr_units))
      intro oc9 t9 h9 tk9 Ko9 F9 N9
      obtain ⟨hsz9, hse9⟩ := t_size hLis (by assumption) (by assumption) Ko9
      (try dsimp only))))
  (k_with "call ref" => (
    k_here
    (with_reducible show wpAny _ _ (call (Value.ref 152) _ _) _ _ _)
    (with_reducible rename LisAt _ _ _ _ _ => hLis)
    k_dflt (
      refine' Pure.useS (listed_pure _ _ ?kI) ?k1 ?k2 ?k3 ?k4 ?k5 rfl ?k6 ?k7 ?k8 ?k9 ?kU ?_
      (case k1 => k_asm); (case k2 => k_asm); (case k3 => k_asm); (case k4 => k_asm); (case k5 => k_asm); (case k6 => exact rfl); (case k7 => first | exact rfl | assumption); (case k8 => trivial); (case kI => assumption); (case k9 => (first | decide | omega | ktr_room)); (case kU => (first | decide | omega | ktr_units))
      intro lj9 t9 h9 tk9 Kl9 F9 N9
      obtain ⟨hLj, hlj⟩ := t_next hLis (by assumption) (by assumption) Ko9 Kl9
      (try dsimp only))))
  (k_with "exec For Name Call cons nil" => (k_here; (rename Fr _ _ _ _ => lF'); (with_unfolding_all refine' For_invVF lF' ?k1 ?k2 ?_; (case k1 => exact rfl); (case k2 => exact rfl); k_whole)))
  (k_with "eval IfExp" => (k_here; (fail_if_success (with_reducible show wpAny _ _ _ (IfPost _ _) _ _)); k_dflt (refine' if_join (xk.fdiv 4) ?_ ?_); rotate_left; intro p9 t9 tk9 ep9 lp9; (try dsimp only); rotate_right))
  (k_with "eval BoolOp" => (k_here; (with_reducible show wpAny _ _ (eval (PySem.Expr.BoolOp PySem.BoolOp.And _ _) _) _ _ _); (fail_if_success (with_reducible show wpAny _ _ _ (AndPost _ _ _ _) _ _)); k_dflt (refine' and_join (lateOf (xk.fdiv 4)) kN xw ?_ ?_); rotate_left; intro b9 tk9 eA; (try dsimp only); rotate_right))
  (k_with "IfPost" => (k_dflt (first | exact ifPost_b (by assumption) | exact ifPost_q (by assumption))))
  (k_with "AndPost" => (k_dflt (refine andPost ?_); apply Bool.eq_iff_iff.mpr; (try simp only [decide_eq_true_eq, beq_iff_eq, Bool.false_eq_true, eq_self_iff_true, iff_false, iff_true]); omega))
  k_go0
  (all_goals try k_fold)
  (repeat' (first | (k_unfold; (try dsimp only)) | (k_end; wrow_close) | ((with_reducible show wpAny _ _ (execs _ _) _ _ _); k_fold) | walk1 | (dsimp only; walk1) | (leave1; walk_say "STEP leave1"; try dsimp only) | fail "no step"))
  (with_reducible rename Fr _ _ _ _ => qF); (with_reducible rename News _ _ _ _ => qN); (with_reducible rename IntsAre _ (txPlaces _) => qI); (with_reducible rename List Int => sc9)
  refine ⟨_, _, _, _, _, _, _, 0, rfl, rfl, qF, qN, by k_mem, qI, bits_ok _ rfl rfl rfl (by decide) (by decide), txPlaces_room _, ?_⟩
  intro D h tk zs hz lt F N
  clear qF qN
  replace hz : IntsAre zs (bitsOf (txPlaces sc9)) := hz
  have hDec := txText_ok sc9
  have hpr := bare_range sc9
  have hpl := txPlaces_len sc9
  have hbb := bits_bit sc9
  have hzl := hz.length
  rw [bits_len] at hzl
  have hbll := bits_len sc9
  obtain ⟨txt, htxt⟩ : ∃ x, x = txText sc9 := ⟨_, rfl⟩
  obtain ⟨bl, hbl⟩ : ∃ x, x = bitsOf (txPlaces sc9) := ⟨_, rfl⟩
  obtain ⟨pl, hplq⟩ : ∃ x, x = txPlaces sc9 := ⟨_, rfl⟩
  rw [← htxt] at hDec F N
  rw [← hbl] at hz hbb hbll
  rw [← hplq] at hpl hzl qI hbll hpr
  (repeat' (first | (k_unfold; (try dsimp only)) | (k_end; wrow_close) | ((with_reducible show wpAny _ _ (execs _ _) _ _ _); k_fold) | walk1 | (dsimp only; walk1) | (leave1; walk_say "STEP leave1"; try dsimp only) | fail "no step"))
  (with_reducible rename Fr _ _ _ _ => qF); (with_reducible rename News _ _ _ _ => qN); (with_reducible rename IsRange _ _ _ _ _ _ _ _ => qR)
  refine ⟨_, 0, _, 8, _, _, _, pl.length / 4 * 3, _, rfl, rfl, qF, qN, qR, step8_small hpl.2.1, step8_size hpl.2.1 hpl.2.2, step8_le hpl.2.1, fun gg => ?_⟩
  clear qF qN qR
  refine kcf_rest (ks := stepKs 0 8 (pl.length / 4 * 3)) (fun k => lawNum ((bl.drop k.toNat).take 8)) (stepKs_length ..) (fun i v hi hv => ?_) (fun k t I oI C oC D m₂ ys h tk E' hk hC hx F N off ne mk => ?_) ?_
  · obtain ⟨t, rfl⟩ := hv
    exact ⟨_, t, stepKs_get hi, rfl⟩
  · have hkk := step8_mem hpl.2.2 hk
    (try simp only [LCg.Off3, and_true] at off)
    (repeat' (first | (k_unfold; (try dsimp only)) | (k_end; wrow_close) | ((with_reducible show wpAny _ _ (execs _ _) _ _ _); k_fold) | walk1 | (dsimp only; walk1) | (leave1; walk_say "STEP leave1"; try dsimp only) | fail "no step"))
    all_goals exact kcf_el (by rw [← slice_k 8 hkk.1 (by omega)]; rfl) rfl rfl
  · unfold KPfDone
    have hrng := num8_range hbb (pl.length / 4 * 3)
    intro ys hys D h tk F N off
    have hEqD : byteArr ((stepKs 0 8 (pl.length / 4 * 3)).map fun k => lawNum ((bl.drop k.toNat).take 8)) = oc9 := by rw [hplq, hbl]; exact dec_law (by rw [← htxt]; assumption)
    have hsz : oc9.size ≤ 1000 := by rw [← hEqD, byteArr_size, List.length_map, stepKs_length]; omega
    have hysl := hys.length
    rw [List.length_map, stepKs_length] at hysl
    (repeat' (first | (k_unfold; (try dsimp only)) | (k_end; wrow_close) | ((with_reducible show wpAny _ _ (execs _ _) _ _ _); k_fold) | walk1 | (dsimp only; walk1) | (leave1; walk_say "STEP leave1"; try dsimp only) | fail "no step"))
    (with_reducible rename Fr _ _ _ _ => qF); (with_reducible rename News _ _ _ _ => qN); (with_reducible rename IsRange _ _ _ _ _ _ _ _ => qR)
    refine ⟨_, 0, _, 16, _, _, _, pl.length * 6 / 16, _, rfl, rfl, qF, qN, qR, step16_small hpl.2.1, step16_size hpl.2.1 hpl.1, step16_le hpl.2.1, fun gg => ?_⟩
    clear qF qN qR
    refine kct_rest (ks := stepKs 0 16 (pl.length * 6 / 16)) (fun k => rowL ((bl.drop k.toNat).take 16)) (stepKs_length ..) (fun i v hi hv => ?_) (fun k t I oI C oC D m₂ ys h tk E' hk hC hx F N off ne mk => ?_) ?_
    · obtain ⟨t, rfl⟩ := hv
      exact ⟨_, t, stepKs_get hi, rfl⟩
    · have hkk := step16_mem hk
      have hoff := off
      (try simp only [LCg.Off3, and_true] at off)
      (repeat' (first | (k_unfold; (try dsimp only)) | (k_end; wrow_close) | ((with_reducible show wpAny _ _ (execs _ _) _ _ _); k_fold) | walk1 | (dsimp only; walk1) | (leave1; walk_say "STEP leave1"; try dsimp only) | fail "no step"))
      exact LCg.CompEnd.intro F9 N9 _ (fun p hp => List.mem_cons_of_mem _ hp) hoff trivial ⟨rfl, _, by rw [← slice_k 16 hkk.1 (by omega)]; rfl⟩
    · unfold KPfDone
      intro ys2 hc2 hl2 D2 h2 tk2 F2 N2 off2
      have hEqL := row_law hbl hplq htxt (by assumption) (by assumption)
      clear hrng hys hEqD hysl off
      (k_with "state" => first | exact lis_start2 (start_law hbl hplq ek er ew (by rw [← htxt]; assumption) K9) | exact lis_more ⟨hLj, hlj⟩)
      (k_with "pyIter ref" => fail)
      iterate 175 (first | ((with_reducible show wpAny _ _ (pyIter (Value.ref _)) (fun it s₂ => LoopAtV _ _ _ _ _ _ _ _ _ it s₂) _ _); skip) | (k_unfold; (try dsimp only)) | walk1 | (dsimp only; walk1))
      (with_reducible rename Fr _ _ _ _ => qF); (with_reducible rename News _ _ _ _ => qN)
      obtain ⟨u9, F9⟩ := fr_keep6 qF rfl rfl rfl rfl rfl rfl
      have N9 := news_one qN
      clear qF qN
      k_state_short (fun pre listing => LisAt (xk.fdiv 4) xr xw pre.length listing ∧ listing.length ≤ 1000) "listing"
      · (with_reducible rename LisAt _ _ _ _ _ => hLis)
        have hlate : [0, 2, 1, 0, 1, 0, 0, 0, 1, 0, 1, 0, 1, 0, 0, 0].getD (xk.fdiv 4).toNat 0 = lateOf (xk.fdiv 4) := rfl
        (repeat' (first | (k_unfold; (try dsimp only)) | (k_end; wrow_close) | ((with_reducible show wpAny _ _ (execs _ _) _ _ _); k_fold) | walk1 | (dsimp only; walk1) | (leave1; walk_say "STEP leave1"; try dsimp only) | fail "no step"))
      · (repeat' (first | (k_unfold; (try dsimp only)) | (k_end; wrow_close) | ((with_reducible show wpAny _ _ (execs _ _) _ _ _); k_fold) | walk1 | (dsimp only; walk1) | (leave1; walk_say "STEP leave1"; try dsimp only) | fail "no step")))
end Mine
end
end

theorem PySem.Challenge.cw_qh0093_01_holds : PySem.Challenge.rw_qh0093_01.Holds :=
  Mine.law_holds
