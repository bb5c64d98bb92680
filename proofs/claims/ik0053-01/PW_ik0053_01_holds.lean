import PyProof.Rows.All
import Wide.All
import OpenK.AllK
import Wide.FinOn
import KE.KSlice
import KE.KSliceW
import Lean
import PySem.Challenge.RW_ik0053_01
open PySem PySem.W PySem.Calls PyProof.Rows
set_option Elab.async false
set_option maxRecDepth 100000
set_option linter.all false
set_option rowWalk.seconds 0
namespace Mine
local macro_rules | `(tactic| walk_at $s:str) => `(tactic| k_extra $s)
local macro_rules | `(tactic| k_ne) => `(tactic| k_extra "k_ne")
local macro_rules | `(tactic| k_all) => `(tactic| k_extra "k_all")
-- Hd
section
set_option maxHeartbeats 8000000
section
noncomputable def viewS : Program := { PySem.Challenge.pw_ik0053_01 with main := { PySem.Challenge.pw_ik0053_01.main with body := [0, 2, 3, 4, 5, 6, 7, 8, 9, 11, 12, 15, 17, 19, 20, 22, 24, 26, 27, 28, 29, 31, 32, 33, 34, 35, 36, 37, 38].filterMap (PySem.Challenge.pw_ik0053_01.main.body[·]?) } }
theorem said_ok : PySem.Challenge.rw_ik0053_01.wellSaid = true := by
  delta OpenLaw.wellSaid
  repeat' (first | with_reducible refine look_both ?_ ?_ | delta OpenRow.wellSaid | delta OpenRow.partSaid | delta looksOpen)
  all_goals decide +kernel
local macro_rules | `(tactic| o_law) => `(tactic| refine holds_law said_ok fun said => ?_)
local macro_rules | `(tactic| o_head $H:term) => `(tactic| (refine holds_open (q := viewS) (loose := [PySem.Str.ofString "_initial_missing", PySem.Str.ofString "reduce"]) (Xt := fun s => xlAt viewS [] s && recOk (RowW.records PySem.Challenge.rw_ik0053_01.row.toRowW) s) (XP := XL viewS []) (Yf := Hook.obs $H) (Ya := Hook.val $H) (YP := Hook.says $H) (N := 3024) ?hl (Hook.of $H) (Hook.keeps $H) (fun s e => xl_of s (Bool.and_eq_true_iff.mp e).1) XL.keeps (by rfl) (by rfl) (by rfl) (fun s e => recFacts_of (Bool.and_eq_true_iff.mp e).2) (by first | rfl | fail "open_line: no head takes a call that writes beside a table") (by first | assumption | decide +kernel) (by decide +kernel) ⟨rfl, rfl, rfl, rfl, rfl, by decide +kernel⟩ ?hw ?hc; (case hl => (intro w; kernel_rfl))))
open_top hd for PySem.Challenge.rw_ik0053_01
end
end
-- Base
example : True := by
  w_top off
  k_with_none
  exact trivial
section

section
noncomputable abbrev PG : Program := PySem.Challenge.rw_ik0053_01.row.prog
noncomputable abbrev KK (w : World) : Frag := hd.heap_1 w.params
noncomputable abbrev LL : List Str := looseW viewS [Str.ofString "_initial_missing", Str.ofString "reduce"] ++ List.map (fun x => x.name) (recsOf viewS) ++ List.map (fun x => x.fst) (litsOf viewS) ++ List.map (fun x => x.name) (clssOf viewS (looseW viewS [Str.ofString "_initial_missing", Str.ofString "reduce"]))
noncomputable abbrev AR (dp un : Nat) (gd : Option (List Code)) (outer : List Env) : Around := { handled := none, depth := dp, frames := some outer, guards := gd, units := un }
noncomputable abbrev Pure (w : World) (mean : ExcName → Option Value) (mg mb : Str → Option Value) (n : Nat) (f : Addr) (vs : List Value) (pre : Shared → Prop) (P : Value → Nat → Nat → Prop) : Prop :=
  ∀ (dp un : Nat) (gd : Option (List Code)) (outer : List Env) (base : Heap) (s : Shared) (Q E : Value → Shared → Prop),
    Below (AR dp un gd outer) base outer s.heap → (KK w).In s.heap → Top topProg LL mean mg mb s.heap → pre s → dp + n < 900 → un + 10 * n < 9000 →
    (∀ (r : Value) (h' : Heap) (tk' : Nat), (∀ b o, s.heap.get? b = some o → h'.get? b = some o) → P r s.toks tk' → Q r { s with heap := h', toks := tk' }) →
      wpAny (model PG w) (AR dp un gd outer) (call (.ref f) vs) Q E s
noncomputable abbrev yes : Shared → Prop := fun _ => True
noncomputable abbrev isI (x : Int) : Value → Nat → Nat → Prop := fun r _ _ => ∃ t, r = .int x t
noncomputable abbrev isS (x : Str) : Value → Nat → Nat → Prop := fun r _ _ => ∃ t, r = .str x t
noncomputable abbrev isB (x : Bool) : Value → Nat → Nat → Prop := fun r _ _ => r = .bool x

structure LB (n k : Nat) : Prop where
  le : n ≤ k
noncomputable def Post (Q : Flow → Shared → Prop) : Flow → Shared → Prop := Q
noncomputable def Then (Qt P : Flow → Shared → Prop) : Prop := ∀ f s, P f s → Post Qt f s
theorem execs_P {M : Model} {A : Around} {E : Value → Shared → Prop} {s : Shared} {env : Env} {st : Stmt} {rest : List Stmt} {Q : Flow → Shared → Prop} {s₀ : Shared} {g h₁ : Heap} {L : Addr} {m : Str → Option Value} {k : Nat} (_ : Fr g L h₁ m) (e : s = { s₀ with heap := h₁, toks := k })
    (h : ∀ tk Qt, Then Qt (fun f s' => match f with | .next => wpAny M A (execs rest env) Q E s' | f => Q f s') → wpAny M A (exec st env) (Post Qt) E { s₀ with heap := h₁, toks := tk }) : wpAny M A (execs (st :: rest) env) Q E s := by
  subst e
  exact wpAny_execs_cons (h k _ fun _ _ x => x)
theorem with_toks {α : Type} {M : Model} {A : Around} {s : Shared} {t : Sem α} {Q : α → Shared → Prop} {E : Value → Shared → Prop} {n : Nat} (hn : n ≤ s.toks) (h : wpAny M A t (fun a s' => n ≤ s'.toks → Q a s') E s) : wpAny M A t Q E s :=
  wpAny_mono (wpAny_toks_of hn h) (fun _ _ x => x.2 x.1) (fun _ _ x => x.2)
section
variable {prog : Program} {w : World} {A : Around} {s : Shared} {g : Heap} {news : List (Addr × Obj)} {K : Frag} {p : Program} {loose : List Str} {mean : ExcName → Option Value} {mg mb : Str → Option Value}
  {R : Result → Shared → Prop} {name qual : Str} {params : Arguments} {body : List Stmt} {scope : Scope} {dV kV doc pm cdv ct oc : Value} {an od : Option Addr} {osl : Array (Option Value)} {f : Addr} {args : Args} {binds : List (Str × Value)}

theorem enterP (keep : ∀ b o, g.get? b = some o → s.heap.get? b = some o) (hsz : g.objs.size ≤ s.heap.objs.size) (hid : ∀ p ∈ news, s.heap.get? p.1 = some p.2 ∧ g.get? p.1 = none)
    (X : K.In g) (T : Top p loose mean mg mb g) (ho : K.lookup f = some ⟨oc, od, .func (fnOf name qual params body scope dV kV doc pm an cdv ct), osl⟩) (hcd : codeIn K cdv qual = true) (hroom : A.depth < recursionLimit)
    (hbind : BindsTo s (fnOf name qual params body scope dV kV doc pm an cdv ct) args binds) (hloc : ∀ y ∈ binds, scope.names.lookup y.1 = some .local)
    (h : ∀ L' h₁, Fr g L' h₁ (fun y => binds.reverse.lookup y) → News g L' h₁ news → (∀ p ∈ news, p.1 < L') →
      ∀ Qt Et, Then Qt (fun fl s' => R (.ok (.ret (match fl with | .ret v => v | _ => .none))) s') → PassesOwn (model prog w) (A.deeper (envOf qual scope L' f cdv)) (envOf qual scope L' f cdv) Et →
      wpAny (model prog w) (A.deeper (envOf qual scope L' f cdv)) (execs body (envOf qual scope L' f cdv)) (Post Qt) Et
        { s with heap := h₁, toks := s.toks + binds.length })
    (hco : scope.isCoroutine = false) (hgen : scope.isGenerator = false) (hk : scope.kind = .function)
    (hcell : ∀ x ∈ scope.names, x.2 ≠ .cell) : codeAny (model prog w) A (.call (.ref f) args) R s := by
  refine codeAny_call_def (fd := fnOf name qual params body scope dV kV doc pm an cdv ct) (body := body) (binds := binds) hroom (keep _ _ (X _ _ ho)) rfl (T.nolimit.keeps keep) (codeRec_of (X.keeps keep) hcd) rfl hbind hcell hloc (fun h₁ hns hk₁ => ?_) hco hgen hk
  exact h s.heap.objs.size h₁ ⟨hns, fun b o e => hk₁ b o (keep _ _ e), hsz⟩ (fun p hp => ⟨hk₁ _ _ (hid p hp).1, Nat.ne_of_lt (Heap.lt_size (hid p hp).1), (hid p hp).2⟩) (fun p hp => Heap.lt_size (hid p hp).1) _ _ (fun _ _ x => x) (by passes_own)

theorem enterC (keep : ∀ b o, g.get? b = some o → s.heap.get? b = some o) (hsz : g.objs.size ≤ s.heap.objs.size) (hid : ∀ p ∈ news, s.heap.get? p.1 = some p.2 ∧ g.get? p.1 = none)
    (X : K.In g) (T : Top p loose mean mg mb g) (ho : K.lookup f = some ⟨oc, od, .func (fnOf name qual params body scope dV kV doc pm an cdv ct), osl⟩) (hcd : codeIn K cdv qual = true) (hroom : A.depth < recursionLimit)
    (hbind : BindsTo s (fnOf name qual params body scope dV kV doc pm an cdv ct) args binds) (hkind : (binds.all fun y => scope.names.lookup y.1 == some .local || scope.names.lookup y.1 == some .cell) = true)
    (hnd : ((cellsFrom 0 scope.names []).map (·.1)).Nodup)
    (h : ∀ L' h₁ tk cells, LB s.toks tk → Fr g L' h₁ (bindL (envOfC qual scope L' f cdv).kindOf binds fun _ => none) → News g L' h₁ (cells ++ news) →
      CellsAre (bindC (envOfC qual scope L' f cdv).kindOf binds fun _ => none) (cellsFrom (L' + 1) scope.names []) cells → (∀ p ∈ news, p.1 < L') →
      ∀ Qt Et, Then Qt (fun fl s' => R (.ok (.ret (match fl with | .ret v => v | _ => .none))) s') → PassesOwn (model prog w) (A.deeper (envOfC qual scope L' f cdv)) (envOfC qual scope L' f cdv) Et →
      wpAny (model prog w) (A.deeper (envOfC qual scope L' f cdv)) (execs body (envOfC qual scope L' f cdv)) (Post Qt) Et
        { s with heap := h₁, toks := tk })
    (hco : scope.isCoroutine = false) (hgen : scope.isGenerator = false) (hk : scope.kind = .function) : codeAny (model prog w) A (.call (.ref f) args) R s := by
  refine codeAny_call_function hroom (keep _ _ (X _ _ ho)) rfl hco hgen rfl (codeRec_of (X.keeps keep) hcd) (hbind _ _ _ _ ?_)
  refine with_toks (Nat.le_refl s.toks) (wpAny_newFunctionEnv_cells hk ((kindsX hkind) _) fun env' he s' x hle => ?_)
  subst he
  refine ⟨(T.nolimit.keeps keep).keeps x.toInCall.keep, codeAny_func ?_⟩
  obtain ⟨h₁, tk, rfl, _⟩ := x.done
  have hk₁ := x.toInCall.keep
  obtain ⟨cells, NC, Y⟩ := Cl.news (h₀ := s.heap) (Nat.le_refl _) fun n c hm => ⟨x.cell n c (lookup_of_mem_nodup (cellsFrom_names scope.names 0 (s.heap.objs.size + 1) [] [] rfl ▸ hnd) hm), x.above n c hm⟩
  refine h s.heap.objs.size h₁ tk cells ⟨hle⟩ ⟨x.toInCall.ns, fun b o e => hk₁ b o (keep _ _ e), hsz⟩ (fun p hp => ?_) Y (fun p hp => Heap.lt_size (hid p hp).1) _ _ (fun _ _ x => x) (by passes_own)
  rcases List.mem_append.mp hp with hp | hp
  · refine ⟨(NC p hp).1, (NC p hp).2.1, ?_⟩
    cases q : g.get? p.1 with
    | none => rfl
    | some o => have := keep _ _ q; rw [(NC p hp).2.2] at this; cases this
  · exact ⟨hk₁ _ _ (hid p hp).1, Nat.ne_of_lt (Heap.lt_size (hid p hp).1), (hid p hp).2⟩
end

theorem wp_peek1 {α : Type} {K : Frag} {M : Model} {A : Around} {E : Value → Shared → Prop} {Q : α → Shared → Prop} {s : Shared} {o : Obj} {r : Addr → α} (X : K.In s.heap) (q : Q (r s.heap.objs.size) { s with heap := s.heap.push o }) :
    ∀ (t : Sem α) (g : Addr → Option α), peek1 K ⟨M.prog, M.w.params⟩ t = some (o, g) → (∀ D, g D = some (r D)) → wpAny M A t Q E s := by
  intro t
  induction t with
  | rule _ k ih => intro g e hg Γ p hΓ; exact ih () g e hg Γ p hΓ
  | point _ k ih => intro g e hg Γ p hΓ; exact ih () g e hg Γ p hΓ
  | ask k ih => intro g e hg Γ p hΓ; exact ih _ g e hg Γ p hΓ
  | load a _ k ih =>
    intro g e hg Γ p hΓ
    simp only [peek1] at e
    split at e
    · rename_i ob ho; exact ⟨ob, X _ _ ho, ih ob g e hg Γ p hΓ⟩
    · cases e
  | alloc ob k _ =>
    intro g e hg
    have e : some (ob, fun D => peek K ⟨M.prog, M.w.params⟩ (k D)) = some (o, g) := e
    obtain ⟨e1, e2⟩ := Prod.mk.inj (Option.some.inj e)
    subst e1
    subst e2
    have X' : K.In (s.heap.push ob) := X.keeps fun b x hb => Heap.get?_push_of_some _ hb
    show wpAny M A (alloc ob >>= k) Q E s
    refine wpAny_bind (wpAny_alloc ?_)
    exact (Looks.of_peek (M := M) (h := s.heap.push ob) X' (hg s.heap.objs.size)).here (s := { s with heap := s.heap.push ob }) q
  | _ => intro g e; cases e
section
variable {prog : Program} {w : World} {A : Around} {s : Shared} {K : Frag} {p : Program} {loose : List Str} {mean : ExcName → Option Value} {mg mb : Str → Option Value}
  {R : Result → Shared → Prop} {name qual : Str} {params : Arguments} {body : List Stmt} {scope : Scope} {dV kV doc pm cdv ct oc : Value} {an od : Option Addr} {osl : Array (Option Value)} {f : Addr} {args : Args}
theorem enterR {vs : List Value} {g₁ : Addr → Option (List (Str × Value))} {binds : Addr → List (Str × Value)} (X : K.In s.heap) (T : Top p loose mean mg mb s.heap)
    (ho : K.lookup f = some ⟨oc, od, .func (fnOf name qual params body scope dV kV doc pm an cdv ct), osl⟩) (hcd : codeIn K cdv qual = true) (hroom : A.depth < recursionLimit)
    (hv : args.pos.drop (params.posonlyargs.length + params.args.length) = vs)
    (hp : peek1 K ⟨prog, w.params⟩ (bindArgs (fnOf name qual params body scope dV kV doc pm an cdv ct) args) = some (({ cls := .type "tuple", data := .seq vs.toArray } : Obj), g₁))
    (hg : ∀ D, g₁ D = some (binds D)) (hloc : ∀ D, ∀ y ∈ binds D, scope.names.lookup y.1 = some .local)
    (h : ∀ D L' h₁, D < L' → Fr s.heap L' h₁ (fun y => (binds D).reverse.lookup y) → News s.heap L' h₁ [(D, ({ cls := .type "tuple", data := .seq vs.toArray } : Obj))] →
      ∀ Qt Et, Then Qt (fun fl s' => R (.ok (.ret (match fl with | .ret v => v | _ => .none))) s') → PassesOwn (model prog w) (A.deeper (envOf qual scope L' f cdv)) (envOf qual scope L' f cdv) Et →
      wpAny (model prog w) (A.deeper (envOf qual scope L' f cdv)) (execs body (envOf qual scope L' f cdv)) (Post Qt) Et
        { s with heap := h₁, toks := s.toks + (binds D).length })
    (hco : scope.isCoroutine = false) (hgen : scope.isGenerator = false) (hk : scope.kind = .function)
    (hcell : ∀ x ∈ scope.names, x.2 ≠ .cell) : codeAny (model prog w) A (.call (.ref f) args) R s := by
  have _ := hv
  refine codeAny_call_function (fd := fnOf name qual params body scope dV kV doc pm an cdv ct) (body := body) hroom (X _ _ ho) rfl hco hgen rfl (codeRec_of X hcd) ?_
  refine wp_peek1 (o := ({ cls := .type "tuple", data := .seq vs.toArray } : Obj)) X (r := binds) ?_ _ g₁ hp hg
  refine wpAny_newFunctionEnv hcell (hloc _) (fun h₁ hns hsb => ⟨(T.nolimit.keeps fun b x hb => Heap.get?_push_of_some _ hb).fresh _ hsb, codeAny_func ?_⟩) hk
  have hk₁ : ∀ b o, (s.heap.push ({ cls := .type "tuple", data := .seq vs.toArray } : Obj)).get? b = some o → h₁.get? b = some o := fun b o e => hsb.extBut b o (Nat.ne_of_lt (Heap.lt_size e)) (Heap.get?_push_of_some _ e)
  have hz : (s.heap.push ({ cls := .type "tuple", data := .seq vs.toArray } : Obj)).objs.size = s.heap.objs.size + 1 := Heap.size_push ..
  refine h s.heap.objs.size (s.heap.push ({ cls := .type "tuple", data := .seq vs.toArray } : Obj)).objs.size h₁ (by rw [hz]; exact Nat.lt_succ_self _) ⟨hns, fun b o e => hk₁ b o (Heap.get?_push_of_some _ e), by rw [hz]; exact Nat.le_succ _⟩ (fun p hp => ?_) _ _ (fun _ _ x => x) (by passes_own)
  rcases List.mem_cons.mp hp with rfl | hp
  · refine ⟨hk₁ _ _ (Heap.get?_push_size _ rfl), by rw [hz]; exact Nat.ne_of_lt (Nat.lt_succ_self _), ?_⟩
    cases e : s.heap.get? s.heap.objs.size with
    | none => rfl
    | some o => exact absurd (Heap.lt_size e) (Nat.lt_irrefl _)
  · cases hp
end

section
variable {w : World} {mean : ExcName → Option Value} {mg mb : Str → Option Value} {n : Nat} {f : Addr} {vs : List Value}
  {dp un : Nat} {gd : Option (List Code)} {outer : List Env} {env : Env} {A₀ : Around} {base h₀ : Heap} {L : Addr} {m : Str → Option Value} {s : Shared} {Q E : Value → Shared → Prop} {news : List (Addr × Obj)} {pre : Shared → Prop} {P : Value → Nat → Nat → Prop}
theorem pure_use (H : Pure w mean mg mb n f vs pre P) (B : Below A₀ base outer h₀) (F : Fr h₀ L s.heap m) (X : (KK w).In h₀) (N : News h₀ L s.heap news) (T : Top topProg LL mean mg mb h₀) (hf : env.frame = some L) (hk : env.scope.kind = .function)
    (hp : pre s) (hd : dp + n < 900) (hu : un + 10 * n < 9000)
    (ret : ∀ (r : Value) (h' : Heap) (tk' : Nat), s.toks ≤ tk' → P r s.toks tk' → Fr h₀ L h' m → News h₀ L h' news → Q r { s with heap := h', toks := tk' }) : wpAny (model PG w) (AR dp un gd (env :: outer)) (call (.ref f) vs) Q E s := by
  have B₁ := pushX B F hf hk
  refine with_toks (Nat.le_refl s.toks) ?_
  exact H dp un gd (env :: outer) base s _ E ⟨rfl, B₁.stays, B₁.frames⟩ (X.keeps F.keep) (T.keeps F.keep) hp hd hu fun r h' tk' hk' hP hle => ret r h' tk' hle hP (F.keeps hk') (N.grown hk')
theorem pure_useI {x : Int} (H : Pure w mean mg mb n f vs pre (isI x)) (B : Below A₀ base outer h₀) (F : Fr h₀ L s.heap m) (X : (KK w).In h₀) (N : News h₀ L s.heap news) (T : Top topProg LL mean mg mb h₀) (hf : env.frame = some L) (hk : env.scope.kind = .function)
    (hp : pre s) (hd : dp + n < 900) (hu : un + 10 * n < 9000)
    (ret : ∀ (t : Tok) (h' : Heap) (tk' : Nat), s.toks ≤ tk' → Fr h₀ L h' m → News h₀ L h' news → Q (.int x t) { s with heap := h', toks := tk' }) : wpAny (model PG w) (AR dp un gd (env :: outer)) (call (.ref f) vs) Q E s :=
  pure_use H B F X N T hf hk hp hd hu fun r h' tk' le P F N => by
    obtain ⟨t, rfl⟩ := P; exact ret t h' tk' le F N
theorem pure_useS {x : Str} (H : Pure w mean mg mb n f vs pre (isS x)) (B : Below A₀ base outer h₀) (F : Fr h₀ L s.heap m) (X : (KK w).In h₀) (N : News h₀ L s.heap news) (T : Top topProg LL mean mg mb h₀) (hf : env.frame = some L) (hk : env.scope.kind = .function)
    (hp : pre s) (hd : dp + n < 900) (hu : un + 10 * n < 9000)
    (ret : ∀ (t : Tok) (h' : Heap) (tk' : Nat), s.toks ≤ tk' → Fr h₀ L h' m → News h₀ L h' news → Q (.str x t) { s with heap := h', toks := tk' }) : wpAny (model PG w) (AR dp un gd (env :: outer)) (call (.ref f) vs) Q E s :=
  pure_use H B F X N T hf hk hp hd hu fun r h' tk' le P F N => by
    obtain ⟨t, rfl⟩ := P; exact ret t h' tk' le F N
theorem pure_useB {x : Bool} (H : Pure w mean mg mb n f vs pre (isB x)) (B : Below A₀ base outer h₀) (F : Fr h₀ L s.heap m) (X : (KK w).In h₀) (N : News h₀ L s.heap news) (T : Top topProg LL mean mg mb h₀) (hf : env.frame = some L) (hk : env.scope.kind = .function)
    (hp : pre s) (hd : dp + n < 900) (hu : un + 10 * n < 9000)
    (ret : ∀ (h' : Heap) (tk' : Nat), s.toks ≤ tk' → Fr h₀ L h' m → News h₀ L h' news → Q (.bool x) { s with heap := h', toks := tk' }) : wpAny (model PG w) (AR dp un gd (env :: outer)) (call (.ref f) vs) Q E s :=
  pure_use H B F X N T hf hk hp hd hu fun r h' tk' le P F N => by
    subst P; exact ret h' tk' le F N
end
end
end
-- Rules
example : True := by
  w_top off
  k_with_none
  exact trivial
section

section
section
variable {prog : Program} {w : World} {A : Around} {E : Value → Shared → Prop} {s : Shared}
theorem subn_kind : builtinKind "issubclass.nested" = none := by decide +kernel
theorem subn_plain : plainId "issubclass.nested" = true := by decide +kernel
theorem subn_args (a b c : Value) : argsOk "issubclass.nested" ⟨[a, b, c], []⟩ := by unfold argsOk; kernel_rfl
theorem str_str : isSubtype (.type "str") (.type "str") = pure true := by rw [isSubtype_type]; kernel_rfl
theorem subn_str {tk : Tok} {Q : PySem.Fin → Shared → Prop} {d : Int} (h : Q (.done (.ret (.bool true))) s) : wpAny (model prog w) A (Builtin.«issubclass.nested» ⟨[.type "str", .type "str", .int d tk], []⟩) Q E s := by
  have f1 := str_str
  repeat (any_goals (first | assumption | wp_step))
theorem subn_tup {tk : Tok} {tp : Addr} {cs : List Value} {Q : PySem.Fin → Shared → Prop} (hcs : cs = [.type "str", .type "bytes"]) (htp : s.heap.get? tp = some { cls := .type "tuple", data := .seq cs.toArray }) (h : Q (.done (.ret (.bool true))) s) :
    wpAny (model prog w) A (Builtin.«issubclass.nested» ⟨[.type "str", .ref tp, .int 0 tk], []⟩) Q E s := by
  obtain ⟨hp, g, d, t, os⟩ := s
  have hT2 : (⟨hp, g, d, t, os⟩ : Shared).TypeIs (.ref tp) "tuple" := ⟨_, htp, rfl⟩
  have f1 := F.isi_sub_tuple
  repeat (any_goals (first | assumption | wp_step))
  refine wpAny_arrayLoop ?_
  simp only [Option.getD_some, List.toList_toArray]
  subst hcs
  rw [List.forIn_cons]
  refine wpAny_bind (wpAny_bind (call_function_entry subn_kind subn_plain F.entry_issubclass_nested (subn_args _ _ _) (subn_str ⟨_, rfl, ?_⟩)))
  show wpAny _ _ (truthy (.bool true) >>= _) _ _ _
  refine wpAny_bind (m := truthy (.bool true)) (wpAny_pure ?_)
  repeat (any_goals (first | assumption | wp_step))
theorem issub_call {tp : Addr} {Q : Value → Shared → Prop} (htp : s.heap.get? tp = some { cls := .type "tuple", data := .seq #[.type "str", .type "bytes"] }) (h : Q (.bool true) s) :
    wpAny (model prog w) A (call (.builtin "issubclass") [.type "str", .ref tp]) Q E s :=
  call_issubclass (S := fun _ R s => s.heap.get? tp = some { cls := .type "tuple", data := .seq #[.type "str", .type "bytes"] } ∧ R (.ok (.ret (.bool true))) s) (fun _ _ _ _ _ hs => issubclass_outer (subn_tup rfl hs.1 hs.2)) ⟨htp, h⟩
end
end
end
-- Tac
example : True := by
  w_top off
  k_with_none
  exact trivial
section

section
theorem rm0 {dp n : Nat} (h : dp + n < 900) : dp < recursionLimit := Nat.lt_trans (Nat.lt_of_le_of_lt (Nat.le_add_right _ _) h) (by decide)
theorem rm1 {dp n k : Nat} (h : dp + n < 900) (hk : 1 + k ≤ n) : dp + 1 + k < 900 := by omega
theorem rm2 {dp n : Nat} (h : dp + n < 900) : dp + 1 < recursionLimit := Nat.lt_of_le_of_lt (Nat.succ_le_of_lt (Nat.lt_of_le_of_lt (Nat.le_add_right _ _) h)) (by decide)
theorem un1 {un a b c : Nat} (h : un + 10 * a < 9000) (hk : c + 10 * b ≤ 10 * a) : un + c + 10 * b < 9000 := by omega
theorem un2 {un a b c : Nat} (h : un + 10 * a < 9000) (hk : c + 10 * b + 10 ≤ 10 * a) : un + c + 10 * b + 10 < 9000 := by omega
theorem un3 {un a c : Nat} (h : un + 10 * a < 9000) (hk : c ≤ 900) : un + c < cLine := by have hcL9 := cLine_is; omega
theorem un4 {un a : Nat} (h : un + 10 * a < 9000) : un < cLine := un3 (c := 0) h (by decide)

example : True := by
  k_with "m_room" => (first | exact rm0 hdp | exact rm1 hdp (by decide) | exact rm2 hdp | ((try simp only [depth_under_make, depth_under_kw, depth_in1, depth_deeper, depth_caller] at *); (try dsimp only [AR] at *); omega) | ((simp only [recursionLimit, depth_under_make, depth_under_kw, depth_in1, depth_deeper, depth_caller] at *); (try dsimp only [AR] at *); omega) | decide)
  k_with "m_units" => (first | exact un1 hun (by decide) | exact un2 hun (by decide) | exact un3 hun (by decide) | exact un4 hun | (have hcL9 := cLine_is; (try simp only [units_in1, units_deeper, Around.mark_units, units_caller] at *); (try dsimp only [AR] at *); omega))
  k_with "m_clean" => ((repeat (first | (rename News _ _ _ _ => zq9; clear zq9) | (rename Fr _ _ _ _ => zq9; clear zq9))); (try skip))
  k_with "m_lts" => (first | exact List.forall_mem_nil _ | (refine' List.forall_mem_cons.mpr ⟨?azq, ?bzq⟩; (case azq => (refine ltN ?_; (try dsimp only); omega)); (case bzq => (walk_at "m_lts"))))
  exact trivial
end
end
-- Enm
example : True := by
  w_top off
  k_with_none
  exact trivial
section

section
theorem allObj_mono : ∀ {ws : List (Addr × String)} {k k' : List (Addr × Obj) → Prop}, (∀ its, k its → k' its) → AllObj ws k → AllObj ws k'
  | [], _, _, h, a => h _ a
  | _ :: _, _, _, h, a => fun o ho => allObj_mono (fun its => h _) (a o ho)
theorem subL_of {l all : List (Addr × Obj)} (h : ∀ p ∈ l, p ∈ all) : SubL l all := by
  induction l with
  | nil => exact trivial
  | cons p r ih => exact ⟨h p (.head _), ih fun q hq => h q (.tail _ hq)⟩
section
variable {prog : Program} {w : World} {A : Around} {E : Value → Shared → Prop} {s : Shared} {env : Env} {h₀ : Heap} {target : Expr} {body : List Stmt} {Q : Flow → Shared → Prop}
theorem items_inv {ws : List (Addr × String)} {keep news : List (Addr × Obj)} {all : List Itm} (J : Nat → (Str → Option Value) → Prop) (hk : ∀ p ∈ keep, p ∈ news)
    (step : ∀ k a, all[k]? = some a → ∀ m, J k m → ∀ v h tk, a.Is v h → Fr h₀ env.locals h m → AllObj ws (fun its => News h₀ env.locals h (its ++ news) →
      wpAny (model prog w) A (assign target env v) (fun _ s₂ => wpAny (model prog w) A (execs body env) (UnrPostW h₀ env.locals { s with heap := h, toks := tk } its (fun m' n' => SubL keep n' ∧ SubL news n' ∧ J (k + 1) m') Q) E s₂) E { s with heap := h, toks := tk }))
    (fin : ∀ m h tk, J all.length m → Fr h₀ env.locals h m → News h₀ env.locals h news → Q .next { s with heap := h, toks := tk }) :
    ∀ (xs : List Itm) (k : Nat), all.drop k = xs → k + xs.length = all.length → ∀ (m : Str → Option Value) (n₁ : List (Addr × Obj)), (∀ p ∈ news, p ∈ n₁) → J k m → ItemsRest prog w A E h₀ env target body Q s ws keep xs m n₁ := by
  intro xs
  induction xs with
  | nil =>
    intro k hd hlen m n₁ hs hJ
    refine ItemsRest.zero fun h tk F N => fin m h tk ?_ F fun p hp => N p (hs p hp)
    have : k = all.length := by simpa using hlen
    exact this ▸ hJ
  | cons a r ih =>
    intro k hd hlen m n₁ hs hJ
    have ha : all[k]? = some a := by
      have := congrArg (·[0]?) hd
      simpa using this
    have hd' : all.drop (k + 1) = r := by
      have := congrArg List.tail hd
      simpa [List.tail_drop] using this
    intro v h tk hv F
    refine allObj_mono (fun its g N => ?_) (step k a ha m hJ v h tk hv F)
    have N' : News h₀ env.locals h (its ++ news) := fun p hp => N p (by
      rcases List.mem_append.mp hp with hp | hp
      · exact List.mem_append_left _ hp
      · exact List.mem_append_right _ (hs p hp))
    refine wpAny_mono (g N') (fun _ s₂ h₂ => wpAny_mono h₂ (fun f s₃ p => ?_) fun _ _ e => e) fun _ _ e => e
    have go : ∀ s₃, UnrEndW h₀ env.locals { s with heap := h, toks := tk } its (fun m' n' => SubL keep n' ∧ SubL news n' ∧ J (k + 1) m') s₃ → UnrEndW h₀ env.locals { s with heap := h, toks := tk } its (fun m' n' => SubL keep n' ∧ ItemsRest prog w A E h₀ env target body Q s ws keep r m' n') s₃ := by
      rintro s₃ ⟨h', tk', m', n', e, F', N', ho, hk', hs', hJ'⟩
      exact ⟨h', tk', m', n', e, F', N', ho, hk', ih (k + 1) hd' (by simp only [List.length_cons] at hlen; omega) m' n' (fun p hp => hs'.mem p hp) hJ'⟩
    cases f with
    | ret v => exact p
    | brk => exact p
    | next => exact go _ p
    | cont => exact go _ p
theorem enumInv {i c : Str} {elts : List Expr} {n : Nat} {pos : Pos} {l : Addr} {lo : Obj} {vs : List Value} {nn : Nat} {m₀ : Str → Option Value} {news : List (Addr × Obj)} (P : Nat → Prop)
    (hh : A.handled = none) (F : Fr h₀ env.locals s.heap m₀) (N : News h₀ env.locals s.heap news) (hm : (l, lo) ∈ news) (hc : lo.cls = .type "list") (hd : lo.data = .seq vs.toArray nn) (h0 : P 0)
    (step : ∀ I : Addr, (∀ p ∈ news, p.1 < I) → ∀ (k : Nat) v, vs[k]? = some v → P k → ∀ vi vc T t h tk oe ol, IsTup h T #[.int (k : Int) t, v] → Fr h₀ env.locals h (bindM (bindM m₀ i vi) c vc) → oe.cls = .type "enumerate" → ol.cls = .type "list_iterator" →
      News h₀ env.locals h ((I + 1, oe) :: (I, ol) :: news) →
      wpAny (model prog w) A (assign (.Tuple elts n pos) env (.ref T)) (fun _ s₂ => wpAny (model prog w) A (execs body env)
        (UnrPostW h₀ env.locals { s with heap := h, toks := tk } [(I + 1, oe), (I, ol)] (fun m' n' => SubL [(l, lo)] n' ∧ SubL news n' ∧ ∃ vi vc, m' = bindM (bindM m₀ i vi) c vc ∧ P (k + 1)) Q) E s₂) E { s with heap := h, toks := tk })
    (fin : P vs.length → ∀ vi vc h tk, Fr h₀ env.locals h (bindM (bindM m₀ i vi) c vc) → News h₀ env.locals h news → Q .next { s with heap := h, toks := tk }) :
    wpAny (model prog w) A (call (.type "enumerate") [.ref l]) (fun xv s₁ => wpAny (model prog w) A (pyIter xv) (fun it s₂ => TurnsAt prog w A h₀ env (.Tuple elts n pos) body Q E it s₂) E s₁) E s := by
  refine ktu_enum (xs := enumItems 0 vs) hh F N hm hc hd rfl fun I hI => ?_
  have hget : ∀ (k : Nat) a, (enumItems 0 vs)[k]? = some a → ∃ v, vs[k]? = some v ∧ a = .pair (fun t => .int (k : Int) t) v := by
    intro k a ha
    have hk : k < vs.length := by have := (List.getElem?_eq_some_iff.mp ha).1; rwa [enumItems_length] at this
    have hv := List.getElem?_eq_getElem hk
    refine ⟨vs[k], hv, ?_⟩
    have := enumItems_get vs 0 k hv
    rw [ha] at this
    simpa using this
  refine items_inv (all := enumItems 0 vs) (fun k m => ∃ vi vc, m = bindM (bindM m₀ i vi) c vc ∧ P k) (by simpa using hm) ?_ ?_ _ 0 rfl (by simp) m₀ news (fun p hp => hp) ⟨m₀ i, m₀ c, ?_, h0⟩
  · rintro k a ha m ⟨vi, vc, rfl, hP⟩ v h tk hv F₁
    obtain ⟨x, hx, rfl⟩ := hget k a ha
    obtain ⟨T, t, rfl, hT⟩ := hv
    refine AllObj.cons fun oe he => AllObj.cons fun ol hl => AllObj.nil fun N₁ => ?_
    exact step I hI k x hx hP vi vc T t h tk oe ol hT F₁ he hl N₁
  · rintro m h tk ⟨vi, vc, rfl, hP⟩ F₁ N₁
    exact fin (by rw [← enumItems_length vs 0]; exact hP) vi vc h tk F₁ N₁
  · rw [← bindM_start m₀ i]; exact bindM_start m₀ c
end
end
end
-- LoopT
example : True := by
  w_top off
  k_with_none
  exact trivial
section

section
theorem with_toksL {α : Type} {M : Model} {A : Around} {s : Shared} {t : Sem α} {Q : α → Shared → Prop} {E : Value → Shared → Prop} {n : Nat} (hn : n ≤ s.toks) (h : wpAny M A t (fun a s' => n ≤ s'.toks → Q a s') E s) : wpAny M A t Q E s :=
  wpAny_mono (wpAny_toks_of hn h) (fun _ _ x => x.2 x.1) (fun _ _ x => x.2)
section
variable {prog : Program} {w : World} {A : Around} {E : Value → Shared → Prop} {s : Shared} {env : Env} {h₀ : Heap} {target : Expr} {body orelse : List Stmt} {Q : Flow → Shared → Prop}
noncomputable def TurnEnd (s : Shared) (h₀ : Heap) (L : Addr) (fp wr : List Addr) (h₁ : Heap) (J : (Str → Option Value) → List (Addr × Obj) → Nat → Prop) (s₃ : Shared) : Prop :=
  ∃ h' tk m' news', s₃ = { s with heap := h', toks := tk } ∧ Fr h₀ L h' m' ∧ News h₀ L h' news' ∧ (∀ b ∈ fp, ∀ o, h₁.get? b = some o → h'.get? b = some o) ∧ (∀ p ∈ news', p.1 ∉ wr) ∧ J m' news' tk
theorem forLoopT {R : Result → Shared → Prop} {I : Addr} {fp wr : List Addr} {n : Nat} {P Md : Nat → Value → Heap → Prop} {St : Nat → Heap → Prop} {m : Str → Option Value} {news : List (Addr × Obj)} (W : KTurns prog w A target I fp wr n P Md St)
    (hLf : env.locals ∉ fp) (hwr : ∀ b ∈ wr, h₀.get? b = none) (hnw : ∀ p ∈ news, p.1 ∉ wr) (hst : St 0 s.heap) (F : Fr h₀ env.locals s.heap m) (N : News h₀ env.locals s.heap news)
    (J : Nat → (Str → Option Value) → List (Addr × Obj) → Nat → Prop) (h0 : J 0 m news s.toks)
    (step : ∀ i v m₁ news₁ h₁ tk₀ tk₁, i < n → P i v h₁ → J i m₁ news₁ tk₀ → tk₀ ≤ tk₁ → (∀ p ∈ news₁, p.1 ∉ wr) → St (i + 1) h₁ → Fr h₀ env.locals h₁ m₁ → News h₀ env.locals h₁ news₁ →
      wpAny (model prog w) A (assign target env v) (fun _ s₂ => wpAny (model prog w) A (execs body env) (fun f s₃ => match f with
        | .ret v => R (.ok (.ret v)) s₃
        | .brk => R (.ok .next) s₃
        | _ => TurnEnd s h₀ env.locals fp wr h₁ (J (i + 1)) s₃) (notedBy (model prog w) A env fun e s' => R (.error e) s') s₂) (notedBy (model prog w) A env fun e s' => R (.error e) s') { s with heap := h₁, toks := tk₁ })
    (hR : ∀ h' tk₀ tk m' news', Fr h₀ env.locals h' m' → News h₀ env.locals h' news' → (∀ p ∈ news', p.1 ∉ wr) → J n m' news' tk₀ → tk₀ ≤ tk → wpAny (model prog w) A (execs orelse env) (fun f s₃ => R (.ok f) s₃) (notedBy (model prog w) A env fun e s' => R (.error e) s') { s with heap := h', toks := tk }) :
    codeAny (model prog w) A (.forLoop target (.ref I) body orelse env) R s := by
  have hLw : env.locals ∉ wr := fun h => hLf (W.sub _ h)
  have old : ∀ b o, h₀.get? b = some o → b ∉ wr := fun b o e hb => by rw [hwr b hb] at e; cases e
  refine codeAny_forLoop_any
    (fun k s' => ∃ h' tk m' news' i, s' = { s with heap := h', toks := tk } ∧ St i h' ∧ Fr h₀ env.locals h' m' ∧ News h₀ env.locals h' news' ∧ (∀ p ∈ news', p.1 ∉ wr) ∧ J i m' news' tk ∧ i ≤ n ∧ k = n + 1 - i) ?_ (n + 1)
    ⟨s.heap, s.toks, m, news, 0, rfl, hst, F, N, hnw, h0, Nat.zero_le _, rfl⟩
  rintro k s' ⟨h', tk, m', news', i, rfl, hst', F', N', hnw', hJ, hi, rfl⟩
  have next : ∀ h₁ : Heap, (∀ b o, b ∉ wr → h'.get? b = some o → h₁.get? b = some o) → Fr h₀ env.locals h₁ m' ∧ News h₀ env.locals h₁ news' := fun h₁ hk₁ =>
    ⟨⟨F'.ns.at' fun o e => hk₁ _ o hLw e, fun b o e => hk₁ b o (old b o e) (F'.keep b o e), F'.above⟩, fun p hp => ⟨hk₁ _ _ (hnw' p hp) (N' p hp).1, (N' p hp).2⟩⟩
  by_cases hlt : i < n
  · refine with_toksL (Nat.le_refl tk) (W.item i _ _ _ hlt hst' fun v h₁ tk₁ hMd hk₁ (hle : tk ≤ tk₁) => ?_)
    refine W.go i v _ _ _ hMd fun h₂ hP hst₂ hk₂ => ?_
    obtain ⟨F₂, N₂⟩ := next h₂ fun b o hb x => hk₂ b o hb (hk₁ b o hb x)
    refine wpAny_mono (step i v m' news' h₂ tk tk₁ hlt hP hJ hle hnw' hst₂ F₂ N₂) (fun _ s₂ h₂' => wpAny_mono h₂' (fun f s₃ h₃ => ?_) fun _ _ e => e) fun _ _ e => e
    have fin : TurnEnd s h₀ env.locals fp wr h₂ (J (i + 1)) s₃ → ∃ k, k < n + 1 - i ∧ ∃ h' tk m' news' i, s₃ = { s with heap := h', toks := tk } ∧ St i h' ∧ Fr h₀ env.locals h' m' ∧ News h₀ env.locals h' news' ∧ (∀ p ∈ news', p.1 ∉ wr) ∧ J i m' news' tk ∧ i ≤ n ∧ k = n + 1 - i := by
      rintro ⟨h₃', tk₃, m₂, news₂, rfl, F₃, N₃, hkp, ha₃, hJ₃⟩
      exact ⟨n + 1 - (i + 1), by omega, h₃', tk₃, m₂, news₂, i + 1, rfl, W.frame _ _ _ hst₂ hkp, F₃, N₃, ha₃, hJ₃, hlt, rfl⟩
    cases f with
    | ret v => exact h₃
    | brk => exact h₃
    | cont => exact fin h₃
    | next => exact fin h₃
  · have hin : i = n := by omega
    subst hin
    refine with_toksL (Nat.le_refl tk) (W.done _ _ _ hst' fun h₁ tk₁ hk₁ (hle : tk ≤ tk₁) => ?_)
    obtain ⟨F₁, N₁⟩ := next h₁ hk₁
    exact hR h₁ tk tk₁ m' news' F₁ N₁ hnw' hJ hle
noncomputable def LoopT (prog : Program) (w : World) (A : Around) (h₀ : Heap) (env : Env) (target : Expr) (body orelse : List Stmt) (Q : Flow → Shared → Prop) (E : Value → Shared → Prop) (it : Value) (s₂ : Shared) : Prop :=
  ∃ (I : Addr) (fp wr : List Addr) (n : Nat) (P Md : Nat → Value → Heap → Prop) (St : Nat → Heap → Prop) (m : Str → Option Value) (news : List (Addr × Obj)) (J : Nat → (Str → Option Value) → List (Addr × Obj) → Nat → Prop),
    it = .ref I ∧ KTurns prog w A target I fp wr n P Md St ∧ env.locals ∉ fp ∧ (∀ b ∈ wr, h₀.get? b = none) ∧ (∀ p ∈ news, p.1 ∉ wr) ∧ St 0 s₂.heap ∧ Fr h₀ env.locals s₂.heap m ∧ News h₀ env.locals s₂.heap news ∧ J 0 m news s₂.toks ∧
    (∀ i v m₁ news₁ h₁ tk₀ tk₁, i < n → P i v h₁ → J i m₁ news₁ tk₀ → tk₀ ≤ tk₁ → (∀ p ∈ news₁, p.1 ∉ wr) → St (i + 1) h₁ → Fr h₀ env.locals h₁ m₁ → News h₀ env.locals h₁ news₁ →
      wpAny (model prog w) A (assign target env v) (fun _ s₃ => wpAny (model prog w) A (execs body env) (fun f s₄ => match f with
        | .ret v => Q (.ret v) s₄
        | .brk => Q .next s₄
        | _ => TurnEnd s₂ h₀ env.locals fp wr h₁ (J (i + 1)) s₄) E s₃) E { s₂ with heap := h₁, toks := tk₁ }) ∧
    (∀ h' tk₀ tk m' news', Fr h₀ env.locals h' m' → News h₀ env.locals h' news' → (∀ p ∈ news', p.1 ∉ wr) → J n m' news' tk₀ → tk₀ ≤ tk → wpAny (model prog w) A (execs orelse env) Q E { s₂ with heap := h', toks := tk })
theorem For_T {iter : Expr} {pos : Pos}
    (h : wpAny (model prog w) A (eval iter env) (fun xv s₁ => wpAny (model prog w) A (pyIter xv) (fun it s₂ => LoopT prog w A h₀ env target body orelse Q E it s₂) E s₁) E s)
    (hs : ∀ x, foldedSetIterable iter env x = pure x := by intro _; rfl)
    (hE : PassesOwn (model prog w) A env E := by passes_own) :
    wpAny (model prog w) A (exec (.For target iter body orelse pos) env) Q E s := by
  refine wpAny_For (wpAny_mono h (fun xv s₁ h₁ => wpAny_mono h₁ (fun it s₂ h₂ => ?_) fun _ _ e => e) fun _ _ e => e) hs
  obtain ⟨I, fp, wr, n, P, Md, St, m, news, J, rfl, W, hLf, hwr, hnw, hst, F, N, h0, step, hQ⟩ := h₂
  refine forLoopT (R := fun r s' => match r with | .ok f => Q f s' | .error e => cameBackBy (model prog w) A env E e s') W hLf hwr hnw hst F N J h0 ?_ ?_
  · intro i v m₁ news₁ h₁ tk₀ tk₁ a b c d e f F₁ N₁
    refine wpAny_mono (step i v m₁ news₁ h₁ tk₀ tk₁ a b c d e f F₁ N₁) (fun _ _ x => wpAny_passesOwn hE (wpAny_mono x (fun f s₄ y => ?_) fun _ _ z => z)) hE
    cases f <;> exact y
  · intro h' tk₀ tk m' news' F' N' a b c
    exact wpAny_passesOwn hE (hQ h' tk₀ tk m' news' F' N' a b c)
theorem For_TF {iter : Expr} {pos : Pos} {m : Str → Option Value} (_F : Fr h₀ env.locals s.heap m)
    (h : wpAny (model prog w) A (eval iter env) (fun xv s₁ => wpAny (model prog w) A (pyIter xv) (fun it s₂ => LoopT prog w A h₀ env target body orelse Q E it s₂) E s₁) E s)
    (hs : ∀ x, foldedSetIterable iter env x = pure x := by intro _; rfl)
    (hE : PassesOwn (model prog w) A env E := by passes_own) :
    wpAny (model prog w) A (exec (.For target iter body orelse pos) env) Q E s := For_T h hs hE
end
end
end
-- SrcT
example : True := by
  w_top off
  k_with_none
  exact trivial
section

section
section
variable {prog : Program} {w : World} {A : Around} {E : Value → Shared → Prop} {s : Shared} {env : Env} {h₀ : Heap} {target : Expr} {body orelse : List Stmt} {Q : Flow → Shared → Prop}
noncomputable def EndT (h₀ : Heap) (L : Addr) (s₁ : Shared) (its keep : List (Addr × Obj)) (J : (Str → Option Value) → List (Addr × Obj) → Nat → Prop) (s₂ : Shared) : Prop :=
  ∃ h' tk m' news', s₂ = { s₁ with heap := h', toks := tk } ∧ Fr h₀ L h' m' ∧ News h₀ L h' (its ++ news') ∧ (∀ p ∈ news', ∀ q ∈ its, p.1 ≠ q.1) ∧ SubL keep news' ∧ J m' news' tk
noncomputable def TurnT (h₀ : Heap) (L : Addr) (s₁ : Shared) (its keep : List (Addr × Obj)) (J : (Str → Option Value) → List (Addr × Obj) → Nat → Prop) (Q : Flow → Shared → Prop) (f : Flow) (s₂ : Shared) : Prop :=
  match f with
  | .ret v => Q (.ret v) s₂
  | .brk => Q .next s₂
  | _ => EndT h₀ L s₁ its keep J s₂
theorem EndT.intro {L : Addr} {its keep : List (Addr × Obj)} {J : (Str → Option Value) → List (Addr × Obj) → Nat → Prop} {s₁ : Shared} {h' : Heap} {tk : Nat} {m' : Str → Option Value} {all : List (Addr × Obj)} (F : Fr h₀ L h' m') (N : News h₀ L h' all) (news' : List (Addr × Obj))
    (hI : SubL its all) (sub : SubL news' all) (off : OffW its news') (hk : SubL keep news') (r : J m' news' tk) : EndT h₀ L s₁ its keep J { s₁ with heap := h', toks := tk } :=
  ⟨h', tk, m', news', rfl, F, fun p hp => by
    rcases List.mem_append.mp hp with hp | hp
    · exact N p (hI.mem p hp)
    · exact N p (sub.mem p hp), fun p hp q hq e => by
    rcases off.at p hp q hq with h | h
    · exact h e
    · have h1 := (N _ (sub.mem p hp)).1
      have h2 := (N _ (hI.mem q hq)).1
      rw [e] at h1
      exact h (congrArg Obj.cls (Option.some.inj (h1.symm.trans h2))), hk, r⟩
theorem srcT {I : Addr} {fp wr : List Addr} {n : Nat} {P Md : Nat → Value → Heap → Prop} {St : Nat → Heap → Prop} {ws : List (Addr × String)} {keep : List (Addr × Obj)} {m₀ : Str → Option Value} {news : List (Addr × Obj)} {hp : Heap} {tk0 : Nat}
    (W : KTurns prog w A target I fp wr n P Md St) (J : Nat → (Str → Option Value) → List (Addr × Obj) → Nat → Prop)
    (hobj : ∀ i h, St i h → ∃ its, Objs ws its ∧ ∀ p ∈ its, h.get? p.1 = some p.2)
    (hws : ∀ b ∈ ws.map (·.1), b ∈ fp ∧ h₀.get? b = none) (hwr : ∀ b ∈ wr, b ∈ ws.map (·.1))
    (hfp : ∀ b ∈ fp, b ∈ ws.map (·.1) ∨ (∃ o, (b, o) ∈ keep) ∨ ∃ o, h₀.get? b = some o) (hL : env.locals ∉ fp) (hnw : ∀ p ∈ news, p.1 ∉ wr) (hst : St 0 hp)
    (F : Fr h₀ env.locals hp m₀) (N : News h₀ env.locals hp news) (hk : SubL keep news) (h0 : J 0 m₀ news tk0)
    (turn : ∀ i v m₁ news₁ h₁ tk₀ tk₁, i < n → P i v h₁ → J i m₁ news₁ tk₀ → tk₀ ≤ tk₁ → SubL keep news₁ → Fr h₀ env.locals h₁ m₁ → AllObj ws (fun its => News h₀ env.locals h₁ (its ++ news₁) →
      wpAny (model prog w) A (assign target env v) (fun _ s₃ => wpAny (model prog w) A (execs body env) (TurnT h₀ env.locals { s with heap := h₁, toks := tk₁ } its keep (J (i + 1)) Q) E s₃) E { s with heap := h₁, toks := tk₁ }))
    (fin : ∀ h' tk₀ tk m' news', Fr h₀ env.locals h' m' → News h₀ env.locals h' news' → J n m' news' tk₀ → tk₀ ≤ tk → SubL keep news' → wpAny (model prog w) A (execs orelse env) Q E { s with heap := h', toks := tk }) :
    LoopT prog w A h₀ env target body orelse Q E (.ref I) { s with heap := hp, toks := tk0 } := by
  refine ⟨I, fp, wr, n, P, Md, St, m₀, news, fun i m nx tk => SubL keep nx ∧ J i m nx tk, rfl, W, hL, fun b hb => (hws b (hwr b hb)).2, hnw, hst, F, N, ⟨hk, h0⟩, ?_, ?_⟩
  · rintro i v m₁ news₁ h₁ tk₀ tk₁ hin hP ⟨hk₁, hJ⟩ hle hoff hst₁ F₁ N₁
    obtain ⟨its, hits, hval⟩ := hobj (i + 1) h₁ hst₁
    have hmap := hits.map
    have N₂ : News h₀ env.locals h₁ (its ++ news₁) := fun p hp => by
      rcases List.mem_append.mp hp with hp | hp
      · have h1 : p.1 ∈ ws.map (·.1) := by rw [← hmap]; exact List.mem_map.mpr ⟨p, hp, rfl⟩
        exact ⟨hval p hp, fun e => hL (e ▸ (hws _ h1).1), (hws _ h1).2⟩
      · exact N₁ _ hp
    have fin : ∀ s₄, EndT h₀ env.locals { s with heap := h₁, toks := tk₁ } its keep (J (i + 1)) s₄ → TurnEnd { s with heap := hp, toks := tk0 } h₀ env.locals fp wr h₁ (fun m nx tk => SubL keep nx ∧ J (i + 1) m nx tk) s₄ := by
      rintro s₄ ⟨h', tk, m', news', e, F', N', ho, hk', r⟩
      refine ⟨h', tk, m', news', e, F', fun p hp => N' p (List.mem_append_right _ hp), ?_, ?_, hk', r⟩
      · intro b hb o ho'
        rcases hfp b hb with h3 | ⟨o', h3⟩ | ⟨o', h3⟩
        · rw [← hmap] at h3
          obtain ⟨⟨qa, qo⟩, hq, rfl⟩ := List.mem_map.mp h3
          have h5 : h₁.get? qa = some qo := hval _ hq
          have h6 : qo = o := Option.some.inj (h5.symm.trans ho')
          subst h6
          exact (N' _ (List.mem_append_left _ hq)).1
        · have h5 : h₁.get? b = some o' := (N₁ _ (hk₁.mem _ h3)).1
          have h6 : o' = o := Option.some.inj (h5.symm.trans ho')
          subst h6
          exact (N' _ (List.mem_append_right _ (hk'.mem _ h3))).1
        · have h5 := F₁.keep b o' h3
          have h6 : o' = o := Option.some.inj (h5.symm.trans ho')
          subst h6
          exact F'.keep b o' h3
      · intro p hp hI
        have h4 : p.1 ∈ its.map (·.1) := by rw [hmap]; exact hwr _ hI
        obtain ⟨q, hq, hqe⟩ := List.mem_map.mp h4
        exact ho p hp q hq hqe.symm
    refine wpAny_mono ((turn i v m₁ news₁ h₁ tk₀ tk₁ hin hP hJ hle hk₁ F₁).at hits N₂) (fun _ s₂ h₂ => wpAny_mono h₂ (fun f s₃ p => ?_) fun _ _ e => e) fun _ _ e => e
    cases f with
    | ret v => exact p
    | brk => exact p
    | next => exact fin _ p
    | cont => exact fin _ p
  · rintro h' tk₀ tk m' news' F' N' _ ⟨hk', hJ⟩ hle
    exact fin h' tk₀ tk m' news' F' N' hJ hle hk'
noncomputable def ovr : List Str → (Str → Option Value) → (Str → Option Value) → Str → Option Value
  | [], _, m => m
  | d :: D, u, m => fun z => if z = d then u d else ovr D u m z
theorem ovr_eq {m₁ m₀ : Str → Option Value} : ∀ {D : List Str}, (∀ z, (∀ d ∈ D, z ≠ d) → m₁ z = m₀ z) → m₁ = ovr D m₁ m₀
  | [], h => funext fun z => h z fun _ hd => nomatch hd
  | d :: D, h => by
    funext z
    show m₁ z = if z = d then m₁ d else ovr D m₁ m₀ z
    by_cases e : z = d
    · rw [if_pos e, e]
    · rw [if_neg e]
      by_cases hz : ∀ d' ∈ D, z ≠ d'
      · have h1 := h z (fun d' hd => by rcases List.mem_cons.mp hd with rfl | hd; exact e; exact hz d' hd)
        rw [h1]
        clear h h1
        induction D with
        | nil => rfl
        | cons d' D ih =>
          show m₀ z = if z = d' then m₁ d' else ovr D m₁ m₀ z
          rw [if_neg (hz d' (.head _))]
          exact ih fun d'' hd => hz d'' (.tail _ hd)
      · clear h
        induction D with
        | nil => exact absurd (fun _ hd => nomatch hd) hz
        | cons d' D ih =>
          show m₁ z = if z = d' then m₁ d' else ovr D m₁ m₀ z
          by_cases e' : z = d'
          · rw [if_pos e', e']
          · rw [if_neg e']
            exact ih fun q => hz fun d'' hd => by rcases List.mem_cons.mp hd with rfl | hd; exact e'; exact q d'' hd
theorem one_eq {m₁ m₀ : Str → Option Value} {y : Str} {v : Value} {D : List Str} (hv : m₁ y = some v) (h : ∀ z, z ≠ y → (∀ d ∈ D, z ≠ d) → m₁ z = m₀ z) : m₁ = fun z => if z = y then some v else ovr D m₁ m₀ z := by
  have e := ovr_eq (m₁ := m₁) (m₀ := fun z => if z = y then some v else m₀ z) (D := D) fun z hz => by
    by_cases e : z = y
    · rw [e, hv, if_pos rfl]
    · rw [if_neg e]; exact h z e hz
  have key : ∀ (D : List Str) (u : Str → Option Value), u y = some v → ovr D u (fun z => if z = y then some v else m₀ z) = fun z => if z = y then some v else ovr D u m₀ z := by
    intro D u hu
    induction D with
    | nil => rfl
    | cons d D ih =>
      funext z
      show (if z = d then u d else ovr D u (fun z => if z = y then some v else m₀ z) z) = if z = y then some v else if z = d then u d else ovr D u m₀ z
      rw [ih]
      by_cases e1 : z = d
      · by_cases e2 : z = y
        · rw [if_pos e1, if_pos e2, ← e1, e2, hu]
        · rw [if_pos e1, if_neg e2, if_pos e1]
      · rw [if_neg e1]
        by_cases e2 : z = y
        · rw [if_pos e2]; simp [e2]
        · simp [e2, e1]
  rw [key D m₁ hv] at e
  exact e
end
end
end
-- LtL
example : True := by
  w_top off
  k_with_none
  exact trivial
section
open AutoSeq1 (wpAny_loadPart')
section
noncomputable def ltL : List Str → List Str → Bool
  | [], [] => false
  | [], _ :: _ => true
  | _ :: _, [] => false
  | a :: x, b :: y => if a = b then ltL x y else decide (a.cps.toList < b.cps.toList)
noncomputable abbrev strsO (xs : List (Str × Tok)) (n : Nat) : Obj := { cls := .type "list", data := .seq (strValues xs).toArray n }
theorem at_none {xs : List (Str × Tok)} {i : Nat} (h : xs.drop i = []) : (strValues xs).toArray[i]? = none := by
  have : xs.length ≤ i := by simpa using h
  simp [strValues]; omega
theorem at_some {xs : List (Str × Tok)} {i : Nat} {p : Str × Tok} {r : List (Str × Tok)} (h : xs.drop i = p :: r) : (strValues xs).toArray[i]? = some (.str p.1 p.2) ∧ xs.drop (i + 1) = r ∧ i < xs.length := by
  have e : (xs.drop i)[0]? = some p := by rw [h]; rfl
  rw [List.getElem?_drop] at e
  have e' : xs[i]? = some p := e
  refine ⟨by simp [strValues, e'], ?_, ?_⟩
  · rw [← List.drop_drop, h]; rfl
  · exact (List.getElem?_eq_some_iff.mp e').1
theorem lt_loop (l b : Addr) (xs ys : List (Str × Tok)) (n n2 : Nat) (k : Nat) :
    ∀ i : Nat, xs.length - i = k → i ≤ xs.length → i ≤ ys.length → Meets (Builtin.«list.__eq__.loop» ⟨[.ref l, .ref b, rawInt i, rawInt 0], []⟩)
      (fun A R s => s.heap.get? l = some (strsO xs n) ∧ s.heap.get? b = some (strsO ys n2) ∧
        R (.ok (.ret (.bool (ltL ((xs.drop i).map (·.1)) ((ys.drop i).map (·.1)))))) s) := by
  induction k with
  | zero =>
    intro i hk hi1 hi2 prog w A R s h
    obtain ⟨hp, g, d, tk, os⟩ := s; obtain ⟨hl, hb, h⟩ := h
    have hx : xs.drop i = [] := by simp; omega
    wp_walk using wpAny_loadPart' hl, wpAny_loadPart' hb
    rw [Int.toNat_natCast, at_none hx]
    rw [hx] at h
    wp_walk using wpAny_loadPart' hl, wpAny_loadPart' hb
    show R (.ok (.ret (.bool (decide ((strValues xs).toArray.size < (strValues ys).toArray.size))))) _
    have e : decide ((strValues xs).toArray.size < (strValues ys).toArray.size) = ltL (List.map (·.1) ([] : List (Str × Tok))) ((ys.drop i).map (·.1)) := by
      simp only [strValues, List.size_toArray, List.length_map]
      cases hy : ys.drop i with
      | nil =>
        have : ys.length ≤ i := by simpa using hy
        simp [ltL]; omega
      | cons p r =>
        have := (at_some hy).2.2
        simp [ltL]; omega
    rw [e]
    exact h
  | succ k ih =>
    intro i hk hi1 hi2 prog w A R s h
    obtain ⟨hp, g, d, tk, os⟩ := s; obtain ⟨hl, hb, h⟩ := h
    wp_walk using wpAny_loadPart' hl, wpAny_loadPart' hb
    rw [Int.toNat_natCast]
    cases hx : xs.drop i with
    | nil => exfalso; have : xs.length ≤ i := by simpa using hx
             omega
    | cons p r =>
      obtain ⟨ex, rx, lx⟩ := at_some hx
      rw [hx] at h
      rw [ex]
      cases hy : ys.drop i with
      | nil =>
        rw [hy] at h
        rw [at_none hy]
        wp_walk using wpAny_loadPart' hl, wpAny_loadPart' hb
        show R (.ok (.ret (.bool (decide ((strValues xs).toArray.size < (strValues ys).toArray.size))))) _
        have : ys.length ≤ i := by simpa using hy
        have e : decide ((strValues xs).toArray.size < (strValues ys).toArray.size) = ltL (List.map (·.1) (p :: r)) (List.map (·.1) ([] : List (Str × Tok))) := by
          simp only [strValues, List.size_toArray, List.length_map]
          simp [ltL]; omega
        rw [e]
        exact h
      | cons q r' =>
        obtain ⟨ey, ry, ly⟩ := at_some hy
        rw [hy] at h
        rw [ey]
        refine wpAny_bind (wpAny_eqBool_str ?_)
        have hc : ((i : Int) + 1) = ((i + 1 : Nat) : Int) := by push_cast; rfl
        by_cases hpq : p.1 = q.1
        · rw [decide_eq_true hpq]
          wp_walk
          rw [hc]
          have e : ltL (List.map (·.1) (p :: r)) (List.map (·.1) (q :: r')) = ltL ((xs.drop (i + 1)).map (·.1)) ((ys.drop (i + 1)).map (·.1)) := by
            rw [rx, ry]; simp [ltL, hpq]
          rw [e] at h
          exact ⟨plainId_quiet PySem.MeetsSeq3.plain_eq_loop _, codeAny_builtin PySem.MeetsSeq3.entry_eq_loop (by
            rw [Around.under_plainId PySem.MeetsSeq3.plain_eq_loop _]
            exact ih (i + 1) (by omega) (by omega) (by omega) prog w A R _ ⟨hl, hb, h⟩)⟩
        · rw [decide_eq_false hpq]
          wp_walk using wpAny_loadPart' hl, wpAny_loadPart' hb
          rw [ex, ey]
          have e : ltL (List.map (·.1) (p :: r)) (List.map (·.1) (q :: r')) = decide (p.1.cps.toList < q.1.cps.toList) := by simp [ltL, hpq]
          rw [e] at h
          refine wpAny_bind (richCompare_gives (op := .Lt) (T := "str") rfl rfl F.slot_str_lt F.entry_str_lt (F.args_str_lt_2 _ _) (PySem.gives_str_lt p.1 q.1 p.2 q.2) (fun x => nomatch x) ?_)
          exact wpAny_pure h
theorem gt_loop (l b : Addr) (xs ys : List (Str × Tok)) (n n2 : Nat) (k : Nat) :
    ∀ i : Nat, xs.length - i = k → i ≤ xs.length → i ≤ ys.length → Meets (Builtin.«list.__eq__.loop» ⟨[.ref l, .ref b, rawInt i, rawInt 4], []⟩)
      (fun A R s => s.heap.get? l = some (strsO xs n) ∧ s.heap.get? b = some (strsO ys n2) ∧
        R (.ok (.ret (.bool (ltL ((ys.drop i).map (·.1)) ((xs.drop i).map (·.1)))))) s) := by
  induction k with
  | zero =>
    intro i hk hi1 hi2 prog w A R s h
    obtain ⟨hp, g, d, tk, os⟩ := s; obtain ⟨hl, hb, h⟩ := h
    have hx : xs.drop i = [] := by simp; omega
    wp_walk using wpAny_loadPart' hl, wpAny_loadPart' hb
    rw [Int.toNat_natCast, at_none hx]
    rw [hx] at h
    wp_walk using wpAny_loadPart' hl, wpAny_loadPart' hb
    show R (.ok (.ret (.bool (decide ((strValues xs).toArray.size > (strValues ys).toArray.size))))) _
    have e : decide ((strValues xs).toArray.size > (strValues ys).toArray.size) = ltL ((ys.drop i).map (·.1)) (List.map (·.1) ([] : List (Str × Tok))) := by
      simp only [strValues, List.size_toArray, List.length_map]
      cases hy : ys.drop i with
      | nil =>
        have : ys.length ≤ i := by simpa using hy
        simp [ltL]; omega
      | cons p r =>
        have := (at_some hy).2.2
        simp [ltL]; omega
    rw [e]
    exact h
  | succ k ih =>
    intro i hk hi1 hi2 prog w A R s h
    obtain ⟨hp, g, d, tk, os⟩ := s; obtain ⟨hl, hb, h⟩ := h
    wp_walk using wpAny_loadPart' hl, wpAny_loadPart' hb
    rw [Int.toNat_natCast]
    cases hx : xs.drop i with
    | nil => exfalso; have : xs.length ≤ i := by simpa using hx
             omega
    | cons p r =>
      obtain ⟨ex, rx, lx⟩ := at_some hx
      rw [hx] at h
      rw [ex]
      cases hy : ys.drop i with
      | nil =>
        rw [hy] at h
        rw [at_none hy]
        wp_walk using wpAny_loadPart' hl, wpAny_loadPart' hb
        show R (.ok (.ret (.bool (decide ((strValues xs).toArray.size > (strValues ys).toArray.size))))) _
        have : ys.length ≤ i := by simpa using hy
        have e : decide ((strValues xs).toArray.size > (strValues ys).toArray.size) = ltL (List.map (·.1) ([] : List (Str × Tok))) (List.map (·.1) (p :: r)) := by
          simp only [strValues, List.size_toArray, List.length_map]
          simp [ltL]; omega
        rw [e]
        exact h
      | cons q r' =>
        obtain ⟨ey, ry, ly⟩ := at_some hy
        rw [hy] at h
        rw [ey]
        refine wpAny_bind (wpAny_eqBool_str ?_)
        have hc : ((i : Int) + 1) = ((i + 1 : Nat) : Int) := by push_cast; rfl
        by_cases hpq : p.1 = q.1
        · rw [decide_eq_true hpq]
          wp_walk
          rw [hc]
          have e : ltL (List.map (·.1) (q :: r')) (List.map (·.1) (p :: r)) = ltL ((ys.drop (i + 1)).map (·.1)) ((xs.drop (i + 1)).map (·.1)) := by
            rw [rx, ry]; simp [ltL, hpq]
          rw [e] at h
          exact ⟨plainId_quiet PySem.MeetsSeq3.plain_eq_loop _, codeAny_builtin PySem.MeetsSeq3.entry_eq_loop (by
            rw [Around.under_plainId PySem.MeetsSeq3.plain_eq_loop _]
            exact ih (i + 1) (by omega) (by omega) (by omega) prog w A R _ ⟨hl, hb, h⟩)⟩
        · rw [decide_eq_false hpq]
          wp_walk using wpAny_loadPart' hl, wpAny_loadPart' hb
          rw [ex, ey]
          have e : ltL (List.map (·.1) (q :: r')) (List.map (·.1) (p :: r)) = decide (q.1.cps.toList < p.1.cps.toList) := by simp [ltL, Ne.symm hpq]
          rw [e] at h
          refine wpAny_bind (richCompare_gives (op := .Gt) (T := "str") rfl rfl F.slot_str_gt F.entry_str_gt (F.args_str_gt_2 _ _) (PySem.gives_str_gt p.1 q.1 p.2 q.2) (fun x => nomatch x) ?_)
          exact wpAny_pure h
section
variable {prog : Program} {w : World} {A : Around} {E : Value → Shared → Prop} {s : Shared}
theorem list_ltM (l b : Addr) (xs ys : List (Str × Tok)) (n n2 : Nat) : Meets (Builtin.«list.__lt__» ⟨[.ref l, .ref b], []⟩)
      (fun A R s => s.heap.get? l = some (strsO xs n) ∧ s.heap.get? b = some (strsO ys n2) ∧ R (.ok (.ret (.bool (ltL (xs.map (·.1)) (ys.map (·.1)))))) s) := by
  intro prog w A R s h
  obtain ⟨hp, g, d, tk, os⟩ := s; obtain ⟨hl, hb, h⟩ := h
  have f3 := AutoSeq1.sub_list_list
  wp_walk using wpAny_loadPart' hl, wpAny_loadPart' hb
  exact ⟨plainId_quiet PySem.MeetsSeq3.plain_eq_loop _, codeAny_builtin PySem.MeetsSeq3.entry_eq_loop (by
    rw [Around.under_plainId PySem.MeetsSeq3.plain_eq_loop _]
    exact lt_loop l b xs ys n n2 _ 0 rfl (Nat.zero_le _) (Nat.zero_le _) prog w A R _ ⟨hl, hb, by simpa using h⟩)⟩
theorem list_gtM (l b : Addr) (xs ys : List (Str × Tok)) (n n2 : Nat) : Meets (Builtin.«list.__gt__» ⟨[.ref l, .ref b], []⟩)
      (fun A R s => s.heap.get? l = some (strsO xs n) ∧ s.heap.get? b = some (strsO ys n2) ∧ R (.ok (.ret (.bool (ltL (ys.map (·.1)) (xs.map (·.1)))))) s) := by
  intro prog w A R s h
  obtain ⟨hp, g, d, tk, os⟩ := s; obtain ⟨hl, hb, h⟩ := h
  have f3 := AutoSeq1.sub_list_list
  wp_walk using wpAny_loadPart' hl, wpAny_loadPart' hb
  exact ⟨plainId_quiet PySem.MeetsSeq3.plain_eq_loop _, codeAny_builtin PySem.MeetsSeq3.entry_eq_loop (by
    rw [Around.under_plainId PySem.MeetsSeq3.plain_eq_loop _]
    exact gt_loop l b xs ys n n2 _ 0 rfl (Nat.zero_le _) (Nat.zero_le _) prog w A R _ ⟨hl, hb, by simpa using h⟩)⟩
theorem rc_lt {l b : Addr} {xs ys : List (Str × Tok)} {n n2 : Nat} {Q : Value → Shared → Prop} (hl : s.heap.get? l = some (strsO xs n)) (hb : s.heap.get? b = some (strsO ys n2)) (hu : A.units < cLine)
    (h : Q (.bool (ltL (xs.map (·.1)) (ys.map (·.1)))) s) : wpAny (model prog w) A (richCompare .Lt (.ref l) (.ref b)) Q E s :=
  richCompare_meets_room (op := .Lt) ⟨_, hl, rfl⟩ ⟨_, hb, rfl⟩ F.slot_list_lt F.entry_list_lt (F.args_list_lt_2 _ _) (list_ltM l b xs ys n n2) ⟨hl, hb, (fun x => nomatch x), h⟩ hu
theorem rc_gt {l b : Addr} {xs ys : List (Str × Tok)} {n n2 : Nat} {Q : Value → Shared → Prop} (hl : s.heap.get? l = some (strsO xs n)) (hb : s.heap.get? b = some (strsO ys n2)) (hu : A.units < cLine)
    (h : Q (.bool (ltL (ys.map (·.1)) (xs.map (·.1)))) s) : wpAny (model prog w) A (richCompare .Gt (.ref l) (.ref b)) Q E s :=
  richCompare_meets_room (op := .Gt) ⟨_, hl, rfl⟩ ⟨_, hb, rfl⟩ F.slot_list_gt F.entry_list_gt (F.args_list_gt_2 _ _) (list_gtM l b xs ys n n2) ⟨hl, hb, (fun x => nomatch x), h⟩ hu
end
end
end
-- Loop2
example : True := by
  w_top off
  k_with_none
  exact trivial
section

section
inductive Mk {α : Type} (a : α) : Prop
  | mk : Mk a
noncomputable def OneJ (news : List (Addr × Obj)) (m₀ : Str → Option Value) (x y : Str) (P : Value → Prop) (m' : Str → Option Value) (nx : List (Addr × Obj)) : Prop := nx = news ∧ (∃ v, m' y = some v ∧ P v) ∧ ∀ z, z ≠ x → z ≠ y → m' z = m₀ z
noncomputable def TwoJ (news : List (Addr × Obj)) (m₀ : Str → Option Value) (x y y' : Str) (P : Value → Value → Prop) (m' : Str → Option Value) (nx : List (Addr × Obj)) : Prop :=
  nx = news ∧ (∃ v v', m' y = some v ∧ m' y' = some v' ∧ P v v') ∧ ∀ z, z ≠ x → z ≠ y → z ≠ y' → m' z = m₀ z
section
variable {prog : Program} {w : World} {A : Around} {E : Value → Shared → Prop} {s : Shared} {env : Env} {h₀ : Heap} {x y y' : Str} {body : List Stmt} {Q : Flow → Shared → Prop} {m₀ : Str → Option Value} {news : List (Addr × Obj)}
theorem loopOne {I : Addr} {fp wr : List Addr} {n : Nat} {PW : Nat → Value → Prop} {St : Nat → Heap → Prop} (P : Nat → Value → Prop)
    (W : Walks prog w A I fp wr n PW St) (hLf : env.locals ∉ fp) (hwr : ∀ b ∈ wr, h₀.get? b = none) (hnw : ∀ p ∈ news, p.1 ∉ wr) (hfp : ∀ q ∈ news, q.1 ∉ fp) (hst : St 0 s.heap) (F : Fr h₀ env.locals s.heap m₀) (N : News h₀ env.locals s.heap news)
    (hj : ∃ v, m₀ y = some v ∧ P 0 v)
    (turn : ∀ i c v h tk own, i < n → PW i c → P i v → OwnOff own (news.map (·.1)) → Fr h₀ env.locals h (fun z => if z = x then some c else if z = y then some v else m₀ z) → News h₀ env.locals h (news ++ own) →
      wpAny (model prog w) A (execs body env) (InvPostN h₀ env.locals (OneJ news m₀ x y (P (i + 1))) own (news.map (·.1)) { s with heap := h, toks := tk } Q) E { s with heap := h, toks := tk })
    (done : ∀ (u : Str → Option Value) v h tk, P n v → Fr h₀ env.locals h (fun z => if z = x then u z else if z = y then some v else m₀ z) → News h₀ env.locals h news → Q .next { s with heap := h, toks := tk }) :
    LoopAtV prog w A h₀ env x body Q E (.ref I) s := by
  refine loop_invN (fun i m nx => OneJ news m₀ x y (P i) m nx) W hLf hwr hnw hfp hst F N ⟨rfl, hj, fun _ _ _ => rfl⟩ ?_ ?_
  · rintro i c m₁ nx h tk own hi hc _ hoff ⟨rfl, ⟨v, hv, hP⟩, hm⟩ F₁ N₁
    rw [map_one hv hm] at F₁
    exact turn i c v h tk own hi hc hP hoff F₁ N₁
  · rintro m₁ nx h tk ⟨rfl, ⟨v, hv, hP⟩, hm⟩ F₁ N₁
    refine done m₁ v h tk hP ?_ N₁
    rw [done_one hv hm]; exact F₁
theorem loopTwo {I : Addr} {fp wr : List Addr} {n : Nat} {PW : Nat → Value → Prop} {St : Nat → Heap → Prop} (P : Nat → Value → Value → Prop)
    (W : Walks prog w A I fp wr n PW St) (hLf : env.locals ∉ fp) (hwr : ∀ b ∈ wr, h₀.get? b = none) (hnw : ∀ p ∈ news, p.1 ∉ wr) (hfp : ∀ q ∈ news, q.1 ∉ fp) (hst : St 0 s.heap) (F : Fr h₀ env.locals s.heap m₀) (N : News h₀ env.locals s.heap news)
    (hj : ∃ v v', m₀ y = some v ∧ m₀ y' = some v' ∧ P 0 v v')
    (turn : ∀ i c v v' h tk own, i < n → PW i c → P i v v' → OwnOff own (news.map (·.1)) → Fr h₀ env.locals h (fun z => if z = x then some c else if z = y then some v else if z = y' then some v' else m₀ z) → News h₀ env.locals h (news ++ own) →
      wpAny (model prog w) A (execs body env) (InvPostN h₀ env.locals (TwoJ news m₀ x y y' (P (i + 1))) own (news.map (·.1)) { s with heap := h, toks := tk } Q) E { s with heap := h, toks := tk })
    (done : ∀ (u : Str → Option Value) v v' h tk, P n v v' → Fr h₀ env.locals h (fun z => if z = x then u z else if z = y then some v else if z = y' then some v' else m₀ z) → News h₀ env.locals h news → Q .next { s with heap := h, toks := tk }) :
    LoopAtV prog w A h₀ env x body Q E (.ref I) s := by
  refine loop_invN (fun i m nx => TwoJ news m₀ x y y' (P i) m nx) W hLf hwr hnw hfp hst F N ⟨rfl, hj, fun _ _ _ _ => rfl⟩ ?_ ?_
  · rintro i c m₁ nx h tk own hi hc _ hoff ⟨rfl, ⟨v, v', hv, hv', hP⟩, hm⟩ F₁ N₁
    rw [map_two hv hv' hm] at F₁
    exact turn i c v v' h tk own hi hc hP hoff F₁ N₁
  · rintro m₁ nx h tk ⟨rfl, ⟨v, v', hv, hv', hP⟩, hm⟩ F₁ N₁
    refine done m₁ v v' h tk hP ?_ N₁
    rw [done_two hv hv' hm]; exact F₁
theorem rangeTwo {r : Addr} {a₀ b₀ : Int} {t₀ u₀ v₀ : Tok} {n : Nat} {P : Nat → Value → Value → Prop} (_ : Mk P)
    (hh : A.handled = none) (hr : IsRange s.heap r a₀ b₀ 1 t₀ u₀ v₀) (hsmall : Builtin.Range.small a₀ b₀ 1 = true) (hn : Builtin.Range.rangeSize a₀ b₀ 1 = (n : Int)) (F : Fr h₀ env.locals s.heap m₀) (N : News h₀ env.locals s.heap news)
    (hj : ∃ v v', m₀ y = some v ∧ m₀ y' = some v' ∧ P 0 v v')
    (turn : ∀ (i : Nat) t v v' h tk own, i < n → P i v v' → OwnOff own (news.map (·.1)) → Fr h₀ env.locals h (fun z => if z = x then some (.int (a₀ + (i : Int)) t) else if z = y then some v else if z = y' then some v' else m₀ z) → News h₀ env.locals h (news ++ own) →
      wpAny (model prog w) A (execs body env) (InvPostN h₀ env.locals (TwoJ news m₀ x y y' (P (i + 1))) own (news.map (·.1)) { s with heap := h, toks := tk } Q) E { s with heap := h, toks := tk })
    (done : ∀ (u : Str → Option Value) v v' h tk, P n v v' → Fr h₀ env.locals h (fun z => if z = x then u z else if z = y then some v else if z = y' then some v' else m₀ z) → News h₀ env.locals h news → Q .next { s with heap := h, toks := tk }) :
    wpAny (model prog w) A (pyIter (.ref r)) (fun it s₂ => LoopAtV prog w A h₀ env x body Q E it s₂) E s := by
  refine wpAny_pyIter_range hr hsmall ?_
  have W : Walks prog w A s.heap.objs.size [s.heap.objs.size] [s.heap.objs.size] n (fun i v => i < n ∧ ∃ t, v = .int (a₀ + i * 1) t)
      (fun i h => IsRangeIter h s.heap.objs.size (a₀ + (i : Nat) * 1) ((n : Int) - (i : Nat)) 1) := (Walks.range hh _ a₀ 1 n).bound
  refine loopTwo P W ?_ ?_ ?_ ?_ (by show IsRangeIter _ _ _ _ _; rw [hn]; simpa using Heap.get?_push_size _ rfl) (F.push _) (fun p hp => ⟨Heap.get?_push_of_some _ (N p hp).1, (N p hp).2⟩) hj ?_ ?_
  · intro hm
    exact absurd F.ns.lt ((List.mem_singleton.mp hm) ▸ Nat.lt_irrefl _)
  · intro b hb
    rw [List.mem_singleton.mp hb]
    exact next_is_new F
  · intro p hp hI
    exact absurd (Heap.lt_size (N p hp).1) ((List.mem_singleton.mp hI) ▸ Nat.lt_irrefl _)
  · intro p hp hI
    exact absurd (Heap.lt_size (N p hp).1) ((List.mem_singleton.mp hI) ▸ Nat.lt_irrefl _)
  · rintro i c v v' h tk own hi ⟨_, t, rfl⟩ hP ho F' N'
    rw [Int.mul_one] at F'
    exact turn i t v v' h tk own hi hP ho F' N'
  · exact done
theorem rangeOne {r : Addr} {a₀ b₀ : Int} {t₀ u₀ v₀ : Tok} {n : Nat} {P : Nat → Value → Prop} (_ : Mk P)
    (hh : A.handled = none) (hr : IsRange s.heap r a₀ b₀ 1 t₀ u₀ v₀) (hsmall : Builtin.Range.small a₀ b₀ 1 = true) (hn : Builtin.Range.rangeSize a₀ b₀ 1 = (n : Int)) (F : Fr h₀ env.locals s.heap m₀) (N : News h₀ env.locals s.heap news)
    (hj : ∃ v, m₀ y = some v ∧ P 0 v)
    (turn : ∀ (i : Nat) t v h tk own, i < n → P i v → OwnOff own (news.map (·.1)) → Fr h₀ env.locals h (fun z => if z = x then some (.int (a₀ + (i : Int)) t) else if z = y then some v else m₀ z) → News h₀ env.locals h (news ++ own) →
      wpAny (model prog w) A (execs body env) (InvPostN h₀ env.locals (OneJ news m₀ x y (P (i + 1))) own (news.map (·.1)) { s with heap := h, toks := tk } Q) E { s with heap := h, toks := tk })
    (done : ∀ (u : Str → Option Value) v h tk, P n v → Fr h₀ env.locals h (fun z => if z = x then u z else if z = y then some v else m₀ z) → News h₀ env.locals h news → Q .next { s with heap := h, toks := tk }) :
    wpAny (model prog w) A (pyIter (.ref r)) (fun it s₂ => LoopAtV prog w A h₀ env x body Q E it s₂) E s := by
  refine wpAny_pyIter_range hr hsmall ?_
  have W : Walks prog w A s.heap.objs.size [s.heap.objs.size] [s.heap.objs.size] n (fun i v => i < n ∧ ∃ t, v = .int (a₀ + i * 1) t)
      (fun i h => IsRangeIter h s.heap.objs.size (a₀ + (i : Nat) * 1) ((n : Int) - (i : Nat)) 1) := (Walks.range hh _ a₀ 1 n).bound
  refine loopOne P W ?_ ?_ ?_ ?_ (by show IsRangeIter _ _ _ _ _; rw [hn]; simpa using Heap.get?_push_size _ rfl) (F.push _) (fun p hp => ⟨Heap.get?_push_of_some _ (N p hp).1, (N p hp).2⟩) hj ?_ ?_
  · intro hm
    exact absurd F.ns.lt ((List.mem_singleton.mp hm) ▸ Nat.lt_irrefl _)
  · intro b hb
    rw [List.mem_singleton.mp hb]
    exact next_is_new F
  · intro p hp hI
    exact absurd (Heap.lt_size (N p hp).1) ((List.mem_singleton.mp hI) ▸ Nat.lt_irrefl _)
  · intro p hp hI
    exact absurd (Heap.lt_size (N p hp).1) ((List.mem_singleton.mp hI) ▸ Nat.lt_irrefl _)
  · rintro i c v h tk own hi ⟨_, t, rfl⟩ hP ho F' N'
    rw [Int.mul_one] at F'
    exact turn i t v h tk own hi hP ho F' N'
  · exact done
theorem listOne {l : Addr} {vs : List Value} {P : Nat → Value → Prop} (_ : Mk P)
    (hh : A.handled = none) (hl : h₀.IsList l vs.toArray) (F : Fr h₀ env.locals s.heap m₀) (N : News h₀ env.locals s.heap news)
    (hj : ∃ v, m₀ y = some v ∧ P 0 v)
    (turn : ∀ (i : Nat) c v h tk own, vs[i]? = some c → P i v → OwnOff own (news.map (·.1)) → Fr h₀ env.locals h (fun z => if z = x then some c else if z = y then some v else m₀ z) → News h₀ env.locals h (news ++ own) →
      wpAny (model prog w) A (execs body env) (InvPostN h₀ env.locals (OneJ news m₀ x y (P (i + 1))) own (news.map (·.1)) { s with heap := h, toks := tk } Q) E { s with heap := h, toks := tk })
    (done : ∀ (u : Str → Option Value) v h tk, P vs.length v → Fr h₀ env.locals h (fun z => if z = x then u z else if z = y then some v else m₀ z) → News h₀ env.locals h news → Q .next { s with heap := h, toks := tk }) :
    wpAny (model prog w) A (pyIter (.ref l)) (fun it s₂ => LoopAtV prog w A h₀ env x body Q E it s₂) E s := by
  have hls : s.heap.IsList l vs.toArray := hl.at fun o e => F.keep l o e
  obtain ⟨ol, hol, _⟩ := id hl
  have hlt : l < h₀.objs.size := Heap.lt_size hol
  have hne : l ≠ s.heap.objs.size := Nat.ne_of_lt (Nat.lt_trans (Nat.lt_of_lt_of_le hlt F.above) F.ns.lt)
  refine wpAny_pyIter_list hls ?_
  have W := Walks.list (prog := prog) (w := w) hh s.heap.objs.size l hne vs.toArray
  rw [show vs.toArray.size = vs.length from List.size_toArray ..] at W
  refine loopOne P W ?_ ?_ ?_ ?_ ⟨⟨_, Heap.get?_push_size _ rfl, rfl, rfl⟩, hls.at fun o e => Heap.get?_push_of_some _ e⟩ (F.push _) (fun p hp => ⟨Heap.get?_push_of_some _ (N p hp).1, (N p hp).2⟩) hj ?_ ?_
  · intro hm
    rcases List.mem_cons.mp hm with e | hm
    · exact absurd F.ns.lt (e ▸ Nat.lt_irrefl _)
    · exact absurd (Nat.lt_of_lt_of_le hlt F.above) ((List.mem_singleton.mp hm) ▸ Nat.lt_irrefl _)
  · intro b hb
    rw [List.mem_singleton.mp hb]
    exact next_is_new F
  · intro p hp hI
    exact absurd (Heap.lt_size (N p hp).1) ((List.mem_singleton.mp hI) ▸ Nat.lt_irrefl _)
  · intro q hq hI
    rcases List.mem_cons.mp hI with h1 | h1
    · exact absurd (Heap.lt_size (N q hq).1) (by rw [h1]; exact Nat.lt_irrefl _)
    · have h2 := List.mem_singleton.mp h1
      have h3 := (N q hq).2.2
      rw [h2, hol] at h3
      cases h3
  · rintro i c v h tk own hi hc hP ho F' N'
    exact turn i c v h tk own (by simpa using hc) hP ho F' N'
  · exact done
end
end
section
theorem TwoJ.intro {news : List (Addr × Obj)} {m₀ m' : Str → Option Value} {x y y' : Str} {P : Value → Value → Prop} {v v' : Value} (h1 : m' y = some v) (h2 : m' y' = some v') (h3 : ∀ z, z ≠ x → z ≠ y → z ≠ y' → m' z = m₀ z) (h : P v v') : TwoJ news m₀ x y y' P m' news := ⟨rfl, ⟨v, v', h1, h2, h⟩, h3⟩
theorem OneJ.intro {news : List (Addr × Obj)} {m₀ m' : Str → Option Value} {x y : Str} {P : Value → Prop} {v : Value} (h1 : m' y = some v) (h3 : ∀ z, z ≠ x → z ≠ y → m' z = m₀ z) (h : P v) : OneJ news m₀ x y P m' news := ⟨rfl, ⟨v, h1, h⟩, h3⟩
end
end
-- SrcO
example : True := by
  w_top off
  k_with_none
  exact trivial
section

section
noncomputable def OneR (news : List (Addr × Obj)) (m₀ : Str → Option Value) (y : Str) (D : List Str) (R : Value → Nat → Prop) (m : Str → Option Value) (nx : List (Addr × Obj)) (tk : Nat) : Prop :=
  SubL news nx ∧ (∃ v, m y = some v ∧ R v tk) ∧ ∀ z, z ≠ y → (∀ d ∈ D, z ≠ d) → m z = m₀ z
theorem OneR.intro {news nx : List (Addr × Obj)} {m₀ m : Str → Option Value} {y : Str} {D : List Str} {R : Value → Nat → Prop} {v : Value} {tk : Nat} (hs : SubL news nx) (h1 : m y = some v) (h2 : ∀ z, z ≠ y → (∀ d ∈ D, z ≠ d) → m z = m₀ z) (h : R v tk) : OneR news m₀ y D R m nx tk := ⟨hs, ⟨v, h1, h⟩, h2⟩
theorem off_of {news : List (Addr × Obj)} {I : Addr} {o : Obj} (l : ∀ p ∈ news, p.1 < I) : ∀ p ∈ news, ∀ q ∈ [(I, o)], p.1 ≠ q.1 := fun p hp q hq => by rw [List.mem_singleton.mp hq]; exact Nat.ne_of_lt (l p hp)
theorem EndT.one {h₀ : Heap} {L : Addr} {its keep news all : List (Addr × Obj)} {m₀ m' : Str → Option Value} {y : Str} {D : List Str} {R : Value → Nat → Prop} {v : Value} {s₁ : Shared} {h' : Heap} {tk : Nat} (F : Fr h₀ L h' m') (N : News h₀ L h' all)
    (off : ∀ p ∈ news, ∀ q ∈ its, p.1 ≠ q.1) (hI : SubL its all) (sub : SubL news all) (hk : SubL keep news) (h1 : m' y = some v) (h2 : ∀ z, z ≠ y → (∀ d ∈ D, z ≠ d) → m' z = m₀ z) (h : R v tk) : EndT h₀ L s₁ its keep (OneR news m₀ y D R) { s₁ with heap := h', toks := tk } :=
  ⟨h', tk, m', news, rfl, F, fun p hp => by
    rcases List.mem_append.mp hp with hp | hp
    · exact N p (hI.mem p hp)
    · exact N p (sub.mem p hp), off, hk, subL_of fun _ h => h, ⟨v, h1, h⟩, h2⟩
section
variable {prog : Program} {w : World} {A : Around} {E : Value → Shared → Prop} {s : Shared} {env : Env} {h₀ : Heap} {body orelse : List Stmt} {Q : Flow → Shared → Prop} {m₀ : Str → Option Value} {news : List (Addr × Obj)}
theorem pack1 {k : List (Addr × Obj) → Prop} {I : Addr} {c : String} (h : ∀ o : Obj, o.cls = .type c → k [(I, o)]) : AllObj [(I, c)] k := AllObj.cons fun o ho => AllObj.nil (h o ho)
theorem rangeT1 {x y : Str} {px : Pos} {D : List Str} {R : Nat → Value → Nat → Prop} {r : Addr} {a₀ b₀ : Int} {t₀ u₀ v₀ : Tok} {n : Nat} (_ : Mk R)
    (hh : A.handled = none) (hr : IsRange s.heap r a₀ b₀ 1 t₀ u₀ v₀) (hsmall : Builtin.Range.small a₀ b₀ 1 = true) (hn : Builtin.Range.rangeSize a₀ b₀ 1 = (n : Int)) (F : Fr h₀ env.locals s.heap m₀) (N : News h₀ env.locals s.heap news)
    (hj : ∃ v, m₀ y = some v ∧ R 0 v s.toks)
    (turn : ∀ (i : Nat) t c tk₀ tk₁ h₁ u I o, i < n → R i c tk₀ → tk₀ ≤ tk₁ → o.cls = .type "range_iterator" → (∀ p ∈ news, p.1 < I) → Fr h₀ env.locals h₁ (fun z => if z = y then some c else ovr D u m₀ z) → News h₀ env.locals h₁ ((I, o) :: news) →
      wpAny (model prog w) A (assign (.Name x px) env (.int (a₀ + (i : Int)) t)) (fun _ s₃ => wpAny (model prog w) A (execs body env) (TurnT h₀ env.locals { s with heap := h₁, toks := tk₁ } [(I, o)] [] (OneR news m₀ y D (R (i + 1))) Q) E s₃) E { s with heap := h₁, toks := tk₁ })
    (fin : ∀ h' tk₀ tk c u, Fr h₀ env.locals h' (fun z => if z = y then some c else ovr D u m₀ z) → News h₀ env.locals h' news → R n c tk₀ → tk₀ ≤ tk → wpAny (model prog w) A (execs orelse env) Q E { s with heap := h', toks := tk }) :
    wpAny (model prog w) A (pyIter (.ref r)) (fun it s₂ => LoopT prog w A h₀ env (.Name x px) body orelse Q E it s₂) E s := by
  refine wpAny_pyIter_range hr hsmall ?_
  have W : Walks prog w A s.heap.objs.size [s.heap.objs.size] [s.heap.objs.size] n (fun i v => i < n ∧ ∃ t, v = .int (a₀ + i * 1) t)
      (fun i h => IsRangeIter h s.heap.objs.size (a₀ + (i : Nat) * 1) ((n : Int) - (i : Nat)) 1) := (Walks.range hh _ a₀ 1 n).bound
  refine srcT (ws := [(s.heap.objs.size, "range_iterator")]) (keep := []) (KTurns.ofWalks W fun i v s Q E st q => wpAny_pure q) (fun i m nx tk => OneR news m₀ y D (R i) m nx tk) ?_ ?_ ?_ ?_ ?_ ?_ (by show IsRangeIter _ _ _ _ _; rw [hn]; simpa using Heap.get?_push_size _ rfl) (F.push _) (fun p hp => ⟨Heap.get?_push_of_some _ (N p hp).1, (N p hp).2⟩) trivial ⟨subL_of fun _ h => h, hj, fun _ _ _ => rfl⟩ ?_ ?_
  · intro i h st
    have st' : ∃ oe : Obj, h.get? s.heap.objs.size = some oe ∧ oe.cls = .type "range_iterator" := ⟨_, st, rfl⟩
    obtain ⟨oe, h1, h2⟩ := st'
    exact ⟨[(s.heap.objs.size, oe)], ⟨⟨rfl, h2⟩, trivial⟩, fun p hp => by rw [List.mem_singleton.mp hp]; exact h1⟩
  · intro b hb
    have hb' : b = s.heap.objs.size := by simpa using hb
    rw [hb']
    exact ⟨List.mem_cons_self .., next_is_new F⟩
  · intro b hb; simpa using hb
  · intro b hb; exact .inl (by simpa using hb)
  · intro hm
    exact absurd F.ns.lt ((List.mem_singleton.mp hm) ▸ Nat.lt_irrefl _)
  · intro p hp hI
    exact absurd (Heap.lt_size (N p hp).1) ((List.mem_singleton.mp hI) ▸ Nat.lt_irrefl _)
  · rintro i v m₁ news₁ h₁ tk₀ tk₁ hi ⟨_, t, rfl⟩ ⟨hs, ⟨c, hc, hR⟩, hm⟩ hle _ F₁
    rw [one_eq hc hm] at F₁
    refine pack1 fun o ho N₁ => ?_
    rw [Int.mul_one]
    exact turn i t c tk₀ tk₁ h₁ m₁ _ o hi hR hle ho (fun p hp => Heap.lt_size (N p hp).1) F₁ fun p hp => N₁ p (by
      rcases List.mem_cons.mp hp with rfl | hp
      · exact .head _
      · exact .tail _ (hs.mem _ hp))
  · rintro h' tk₀ tk m' news' F' N' ⟨hs, ⟨c, hc, hR⟩, hm⟩ hle _
    rw [one_eq hc hm] at F'
    exact fin h' tk₀ tk c m' F' (fun p hp => N' p (hs.mem _ hp)) hR hle
theorem tupT1 {x y : Str} {px : Pos} {D : List Str} {R : Nat → Value → Nat → Prop} {ax : Addr} {lo : Obj} {vs : List Value} {n : Nat} (_ : Mk R)
    (hh : A.handled = none) (hm : (ax, lo) ∈ news) (hc : lo.cls = .type "tuple") (hd : lo.data = .seq vs.toArray n) (F : Fr h₀ env.locals s.heap m₀) (N : News h₀ env.locals s.heap news)
    (hj : ∃ v, m₀ y = some v ∧ R 0 v s.toks)
    (turn : ∀ (i : Nat) v c tk₀ tk₁ h₁ u I o, vs[i]? = some v → R i c tk₀ → tk₀ ≤ tk₁ → o.cls = .type "tuple_iterator" → (∀ p ∈ news, p.1 < I) → Fr h₀ env.locals h₁ (fun z => if z = y then some c else ovr D u m₀ z) → News h₀ env.locals h₁ ((I, o) :: news) →
      wpAny (model prog w) A (assign (.Name x px) env v) (fun _ s₃ => wpAny (model prog w) A (execs body env) (TurnT h₀ env.locals { s with heap := h₁, toks := tk₁ } [(I, o)] [(ax, lo)] (OneR news m₀ y D (R (i + 1))) Q) E s₃) E { s with heap := h₁, toks := tk₁ })
    (fin : ∀ h' tk₀ tk c u, Fr h₀ env.locals h' (fun z => if z = y then some c else ovr D u m₀ z) → News h₀ env.locals h' news → R vs.length c tk₀ → tk₀ ≤ tk → wpAny (model prog w) A (execs orelse env) Q E { s with heap := h', toks := tk }) :
    wpAny (model prog w) A (pyIter (.ref ax)) (fun it s₂ => LoopT prog w A h₀ env (.Name x px) body orelse Q E it s₂) E s := by
  have hax := N _ hm
  have hl : s.heap.IsTuple ax vs.toArray := ⟨lo, hax.1, hc, n, hd⟩
  have hlt : ax < s.heap.objs.size := Heap.lt_size hax.1
  have hne : ax ≠ s.heap.objs.size := Nat.ne_of_lt hlt
  refine wpAny_pyIter_tuple hl ?_
  have W := KTurns.ofWalks (target := .Name x px) (Walks.tuple (prog := prog) (w := w) hh s.heap.objs.size ax hne vs.toArray) fun i v s Q E st q => letGo_tupleiter st.1 q
  rw [show vs.toArray.size = vs.length from List.size_toArray ..] at W
  refine srcT (ws := [(s.heap.objs.size, "tuple_iterator")]) (keep := [(ax, lo)]) (tk0 := s.toks) W (fun i m nx tk => OneR news m₀ y D (R i) m nx tk) (fun i h st => ?_) (fun b hb => ?_) (fun b hb => by simpa using hb) (fun b hb => ?_) ?_ (fun p hp hI => ?_) ?_ (F.push _) (fun p hp => ⟨Heap.get?_push_of_some _ (N p hp).1, (N p hp).2⟩) (And.intro hm trivial) ⟨subL_of fun _ h => h, hj, fun _ _ _ => rfl⟩ ?_ ?_
  · obtain ⟨it, hit, hic, _⟩ := st.1
    exact ⟨[(s.heap.objs.size, it)], ⟨⟨rfl, hic⟩, trivial⟩, fun p hp => by rw [List.mem_singleton.mp hp]; exact hit⟩
  · have hb' : b = s.heap.objs.size := by simpa using hb
    rw [hb']
    exact ⟨List.mem_cons_self .., next_is_new F⟩
  · have hb' : b = s.heap.objs.size ∨ b = ax := by simpa using hb
    rcases hb' with e | e
    · exact .inl (by simp [e])
    · exact .inr (.inl ⟨lo, by simp [e]⟩)
  · intro hI
    rcases List.mem_cons.mp hI with e | hI
    · exact absurd F.ns.lt (e ▸ Nat.lt_irrefl _)
    · exact hax.2.1 (List.mem_singleton.mp hI).symm
  · exact absurd (Heap.lt_size (N p hp).1) ((List.mem_singleton.mp hI) ▸ Nat.lt_irrefl _)
  · exact ⟨⟨_, Heap.get?_push_size _ rfl, rfl, rfl⟩, hl.at fun o e => Heap.get?_push_of_some _ e⟩
  · rintro i v m₁ news₁ h₁ tk₀ tk₁ hi hv ⟨hs, ⟨c, hc, hR⟩, hm⟩ hle _ F₁
    rw [one_eq hc hm] at F₁
    refine pack1 fun o ho N₁ => ?_
    exact turn i v c tk₀ tk₁ h₁ m₁ _ o (by simpa using hv) hR hle ho (fun p hp => Heap.lt_size (N p hp).1) F₁ fun p hp => N₁ p (by
      rcases List.mem_cons.mp hp with rfl | hp
      · exact .head _
      · exact .tail _ (hs.mem _ hp))
  · rintro h' tk₀ tk m' news' F' N' ⟨hs, ⟨c, hc, hR⟩, hm⟩ hle _
    rw [one_eq hc hm] at F'
    exact fin h' tk₀ tk c m' F' (fun p hp => N' p (hs.mem _ hp)) hR hle
theorem listT1 {x y : Str} {px : Pos} {D : List Str} {R : Nat → Value → Nat → Prop} {ax : Addr} {lo : Obj} {vs : List Value} {n : Nat} (_ : Mk R)
    (hh : A.handled = none) (hm : (ax, lo) ∈ news) (hc : lo.cls = .type "list") (hd : lo.data = .seq vs.toArray n) (F : Fr h₀ env.locals s.heap m₀) (N : News h₀ env.locals s.heap news)
    (hj : ∃ v, m₀ y = some v ∧ R 0 v s.toks)
    (turn : ∀ (i : Nat) v c tk₀ tk₁ h₁ u I o, vs[i]? = some v → R i c tk₀ → tk₀ ≤ tk₁ → o.cls = .type "list_iterator" → (∀ p ∈ news, p.1 < I) → Fr h₀ env.locals h₁ (fun z => if z = y then some c else ovr D u m₀ z) → News h₀ env.locals h₁ ((I, o) :: news) →
      wpAny (model prog w) A (assign (.Name x px) env v) (fun _ s₃ => wpAny (model prog w) A (execs body env) (TurnT h₀ env.locals { s with heap := h₁, toks := tk₁ } [(I, o)] [(ax, lo)] (OneR news m₀ y D (R (i + 1))) Q) E s₃) E { s with heap := h₁, toks := tk₁ })
    (fin : ∀ h' tk₀ tk c u, Fr h₀ env.locals h' (fun z => if z = y then some c else ovr D u m₀ z) → News h₀ env.locals h' news → R vs.length c tk₀ → tk₀ ≤ tk → wpAny (model prog w) A (execs orelse env) Q E { s with heap := h', toks := tk }) :
    wpAny (model prog w) A (pyIter (.ref ax)) (fun it s₂ => LoopT prog w A h₀ env (.Name x px) body orelse Q E it s₂) E s := by
  have hax := N _ hm
  have hl : s.heap.IsList ax vs.toArray := ⟨lo, hax.1, hc, n, hd⟩
  have hlt : ax < s.heap.objs.size := Heap.lt_size hax.1
  have hne : ax ≠ s.heap.objs.size := Nat.ne_of_lt hlt
  refine wpAny_pyIter_list hl ?_
  have W := KTurns.ofWalks (target := .Name x px) (Walks.list (prog := prog) (w := w) hh s.heap.objs.size ax hne vs.toArray) fun i v s Q E st q => letGo_listiter st.1 q
  rw [show vs.toArray.size = vs.length from List.size_toArray ..] at W
  refine srcT (ws := [(s.heap.objs.size, "list_iterator")]) (keep := [(ax, lo)]) (tk0 := s.toks) W (fun i m nx tk => OneR news m₀ y D (R i) m nx tk) (fun i h st => ?_) (fun b hb => ?_) (fun b hb => by simpa using hb) (fun b hb => ?_) ?_ (fun p hp hI => ?_) ?_ (F.push _) (fun p hp => ⟨Heap.get?_push_of_some _ (N p hp).1, (N p hp).2⟩) (And.intro hm trivial) ⟨subL_of fun _ h => h, hj, fun _ _ _ => rfl⟩ ?_ ?_
  · obtain ⟨it, hit, hic, _⟩ := st.1
    exact ⟨[(s.heap.objs.size, it)], ⟨⟨rfl, hic⟩, trivial⟩, fun p hp => by rw [List.mem_singleton.mp hp]; exact hit⟩
  · have hb' : b = s.heap.objs.size := by simpa using hb
    rw [hb']
    exact ⟨List.mem_cons_self .., next_is_new F⟩
  · have hb' : b = s.heap.objs.size ∨ b = ax := by simpa using hb
    rcases hb' with e | e
    · exact .inl (by simp [e])
    · exact .inr (.inl ⟨lo, by simp [e]⟩)
  · intro hI
    rcases List.mem_cons.mp hI with e | hI
    · exact absurd F.ns.lt (e ▸ Nat.lt_irrefl _)
    · exact hax.2.1 (List.mem_singleton.mp hI).symm
  · exact absurd (Heap.lt_size (N p hp).1) ((List.mem_singleton.mp hI) ▸ Nat.lt_irrefl _)
  · exact ⟨⟨_, Heap.get?_push_size _ rfl, rfl, rfl⟩, hl.at fun o e => Heap.get?_push_of_some _ e⟩
  · rintro i v m₁ news₁ h₁ tk₀ tk₁ hi hv ⟨hs, ⟨c, hc, hR⟩, hm⟩ hle _ F₁
    rw [one_eq hc hm] at F₁
    refine pack1 fun o ho N₁ => ?_
    exact turn i v c tk₀ tk₁ h₁ m₁ _ o (by simpa using hv) hR hle ho (fun p hp => Heap.lt_size (N p hp).1) F₁ fun p hp => N₁ p (by
      rcases List.mem_cons.mp hp with rfl | hp
      · exact .head _
      · exact .tail _ (hs.mem _ hp))
  · rintro h' tk₀ tk m' news' F' N' ⟨hs, ⟨c, hc, hR⟩, hm⟩ hle _
    rw [one_eq hc hm] at F'
    exact fin h' tk₀ tk c m' F' (fun p hp => N' p (hs.mem _ hp)) hR hle
end
end
end
-- Tok
example : True := by
  w_top off
  k_with_none
  exact trivial
section

section
theorem LB.s1 {n k : Nat} (h : LB n k) : LB n (k + 1) := ⟨Nat.le_succ_of_le h.le⟩
theorem LB.sn {n k : Nat} (j : Nat) (h : LB n k) : LB n (k + j) := ⟨Nat.le_trans h.le (Nat.le_add_right _ _)⟩
theorem LB.tr {n k j : Nat} (h : LB n k) (l : k ≤ j) : LB n j := ⟨Nat.le_trans h.le l⟩
section
variable {prog : Program} {w : World} {A : Around} {E : Value → Shared → Prop} {s : Shared} {env : Env} {n : Nat}
theorem toksB {α : Type} {M : Model} {t : Sem α} {Q : α → Shared → Prop} (hn : LB n s.toks) (h : wpAny M A t (fun a s' => LB n s'.toks → Q a s') E s) : wpAny M A t Q E s :=
  wpAny_mono (wpAny_toks_of hn.le h) (fun _ _ x => x.2 ⟨x.1⟩) (fun _ _ x => x.2)
theorem execs_T {st : Stmt} {rest : List Stmt} {Q : Flow → Shared → Prop} {M : Model} (hn : LB n s.toks)
    (h : ∀ tk, LB s.toks tk → LB n tk → wpAny M A (exec st env) (fun f s' => LB tk s'.toks → LB n s'.toks → match f with | .next => wpAny M A (execs rest env) Q E s' | f => Q f s') E { s with toks := tk }) : wpAny M A (execs (st :: rest) env) Q E s :=
  wpAny_execs_cons (toksB ⟨Nat.le_refl s.toks⟩ (wpAny_mono (h s.toks ⟨Nat.le_refl _⟩ hn) (fun _ s' x hle => x hle (hn.tr hle.le)) fun _ _ e => e))
theorem execs_F {st : Stmt} {rest : List Stmt} {Q : Flow → Shared → Prop} {M : Model} {s₀ : Shared} {g h₁ : Heap} {L : Addr} {m : Str → Option Value} {k : Nat} (_ : Fr g L h₁ m) (e : s = { s₀ with heap := h₁, toks := k }) (hn : LB n k)
    (h : ∀ tk, LB k tk → LB n tk → wpAny M A (exec st env) (fun f s' => LB tk s'.toks → LB n s'.toks → match f with | .next => wpAny M A (execs rest env) Q E s' | f => Q f s') E { s₀ with heap := h₁, toks := tk }) : wpAny M A (execs (st :: rest) env) Q E s := by
  subst e
  exact execs_T hn h
theorem execs_Q {st : Stmt} {rest : List Stmt} {Q : Flow → Shared → Prop} {M : Model} {s₀ : Shared} {g h₁ : Heap} {L : Addr} {m : Str → Option Value} {k : Nat} (_ : Fr g L h₁ m) (e : s = { s₀ with heap := h₁, toks := k }) (hn : LB n k)
    (h : ∀ tk, LB k tk → LB n tk → ∀ Qt, Then Qt (fun f s' => LB tk s'.toks → LB n s'.toks → match f with | .next => wpAny M A (execs rest env) Q E s' | f => Q f s') → wpAny M A (exec st env) (Post Qt) E { s₀ with heap := h₁, toks := tk }) : wpAny M A (execs (st :: rest) env) Q E s := by
  subst e
  exact execs_T hn fun tk h1 h2 => h tk h1 h2 _ fun _ _ x => x
theorem if_T {test : Expr} {body orelse : List Stmt} {pos : Pos} {Q : Flow → Shared → Prop} (hn : LB n s.toks)
    (h : wpAny (model prog w) A (isTrue test env (eval test env)) (fun b s₂ => LB n s₂.toks → if b then wpAny (model prog w) A (execs body env) Q E s₂ else wpAny (model prog w) A (execs orelse env) Q E s₂) E s) :
    wpAny (model prog w) A (exec (.If test body orelse pos) env) Q E s := wpAny_If (toksB hn h)
theorem add_T {x y : Str} {t u : Tok} {Q : Value → Shared → Prop} (hn : LB n s.toks) (hl : x.length + y.length ≤ 5000) (h : ∀ t' k, LB n k → Q (.str (x ++ y) t') { s with toks := k }) :
    wpAny (model prog w) A (binaryOp .Add (.str x t) (.str y u)) Q E s := toksB hn (SB.add (fun t' k hk => h t' k hk) (by rw [PySem.sizeLine_eq]; omega))
theorem iadd_own {x y : Str} {t u : Tok} {Q : Value → Shared → Prop} (hx : 0 < x.length) (hy : 0 < y.length) (hl : x.length + y.length ≤ 5000)
    (h : Q (.str (x ++ y) s.toks) { s with toks := s.toks + 1 }) : wpAny (model prog w) A (inplaceOp .Add (.str x t) (.str y u)) Q E s := by
  refine PySem.P.iadd_str ?_
  have h1 : (x.length == 0) = false := by simp only [beq_eq_false_iff_ne]; omega
  have h2 : (y.length == 0) = false := by simp only [beq_eq_false_iff_ne]; omega
  rw [h1, h2]
  exact ⟨by rw [strLen_append, PySem.sizeLine_eq]; omega, h⟩
theorem add_G {x y : Str} {t u : Tok} {Q : Value → Shared → Prop} (hn : LB n s.toks) (ht : LB n t) (hx : 0 < x.length) (hl : x.length + y.length ≤ 16000000) (h : ∀ (t' k : Nat), LB n t' → LB n k → Q (.str (x ++ y) t') { s with toks := k }) :
    wpAny (model prog w) A (binaryOp .Add (.str x t) (.str y u)) Q E s := by
  refine PySem.P.add_str ?_
  have h1 : (x.length == 0) = false := by simp only [beq_eq_false_iff_ne]; omega
  rw [h1]
  cases h2 : y.length == 0 with
  | true =>
    have e : x ++ y = x := Str.append_right_empty h2
    rw [e] at h
    exact h t s.toks ht hn
  | false => exact ⟨by rw [strLen_append, PySem.sizeLine_eq]; omega, h s.toks (s.toks + 1) hn hn.s1⟩
theorem replace_T {x y z : Str} {t u v : Tok} {Q : Value → Shared → Prop} (hn : LB n s.toks) (hu : u ≠ 0) (hv : v ≠ 0) (huv : u ≠ v) (hyz : (y == z) = false) (hx : x.length ≤ 1048576) (hz : z.length ≤ 14)
    (hq : ∀ t' k, LB n k → Q (.str (Txt.replace x y z) t') { s with toks := k }) : wpAny (model prog w) A (call (.builtin "str.replace") [.str x t, .str y u, .str z v]) Q E s :=
  toksB hn (SC.replaceW hu hv huv hyz hx hz fun t' k hk => hq t' k hk)
end

theorem LB.ne {n k : Nat} (h : LB n k) (h0 : 0 < n) : k ≠ 0 := Nat.ne_of_gt (Nat.lt_of_lt_of_le h0 h.le)
section
variable {prog : Program} {w : World} {A : Around} {E : Value → Shared → Prop} {s : Shared}
theorem replace_E {x y z c : Str} {t u v : Tok} {n : Nat} {Q : Value → Shared → Prop} (e : Txt.replace x y z = c) (hn : LB n s.toks) (hu : u ≠ 0) (hv : v ≠ 0) (huv : u ≠ v) (hyz : (y == z) = false) (hx : x.length ≤ 1048576) (hz : z.length ≤ 14)
    (hq : ∀ t' k, LB n k → Q (.str c t') { s with toks := k }) : wpAny (model prog w) A (call (.builtin "str.replace") [.str x t, .str y u, .str z v]) Q E s := replace_T hn hu hv huv hyz hx hz (e ▸ hq)
end
noncomputable abbrev isG (x : Str) : Value → Nat → Nat → Prop := fun r n _ => ∃ t : Nat, r = .str x t ∧ LB n t
noncomputable abbrev isN (x : Str) : Value → Nat → Nat → Prop := fun r n k => ∃ t : Nat, r = .str x t ∧ n ≤ t ∧ t < k
end
end
-- IsT
example : True := by
  w_top off
  k_with_none
  exact trivial
section

section
theorem booked {w : World} {h : Heap} (X : (KK w).In h) : NoneBooked h := by
  have e : (KK w).lookup 2 = some ({ cls := .none, data := .dict #[] } : Obj) := rfl
  refine ⟨fun _ => none, ⟨_, _, _, X 2 _ e, rfl, ?_, fun name => rfl⟩, rfl⟩
  intro i hi
  exact absurd hi (by simp)
section
variable {prog : Program} {w : World} {A : Around} {E : Value → Shared → Prop} {s : Shared} {h₀ : Heap} {L : Addr} {m : Str → Option Value}
theorem same_T {p q : Str} {t u : Tok} {M : Model} {Q : Bool → Shared → Prop} (ht : t ≠ 0) (hu : u ≠ 0) (htu : t = u → p = q) (hb : NoneBooked s.heap) (hq : ∀ b, (b = true → p = q) → Q b s) : wpAny M A (isSame (.str p t) (.str q u)) Q E s := by
  show wpAny M A (isSame.created (p == q) t u) Q E s
  unfold isSame.created
  have h0 : (t == 0 || u == 0) = false := by simp [ht, hu]
  refine wpAny_ite ?_
  split
  · rename_i h; rw [h0] at h; exact absurd h Bool.false_ne_true
  refine wpAny_ite ?_
  split
  · rename_i h; exact wpAny_pure (hq _ fun _ => htu (by simpa using h))
  refine wpAny_ite ?_
  split
  · exact wpAny_pure (hq _ fun h => nomatch h)
  rename_i h
  have e : p = q := by simpa using h
  refine wpAny_bind (wpAny_sharingNotTold_none hb ?_)
  first | rw [if_neg Bool.false_ne_true] | simp only [Bool.false_eq_true, if_false]
  refine wpAny_bind (wpAny_sharingNotTold_none hb ?_)
  first | rw [if_neg Bool.false_ne_true] | simp only [Bool.false_eq_true, if_false]
  exact wpAny_bind (wpAny_rule (wpAny_bind (wpAny_askSetting (wpAny_pure (hq _ fun _ => e)))))
theorem is_T {p q : Str} {t u : Tok} {Q : Value → Shared → Prop} (X : (KK w).In h₀) (F : Fr h₀ L s.heap m) (ht : t ≠ 0) (hu : u ≠ 0) (htu : t = u → p = q) (hq : ∀ b, (b = true → p = q) → Q (.bool b) s) : wpAny (model prog w) A (compareOp .Is (.str p t) (.str q u)) Q E s := by
  unfold compareOp
  exact wpAny_bind (same_T ht hu htu (booked (X.keeps F.keep)) fun b hb => wpAny_pure (hq b hb))
end
structure TokOk (p : Str × Tok) (q : Str) (u : Tok) : Prop where
  nz : p.2 ≠ 0
  nu : u ≠ 0
  eq : p.2 = u → p.1 = q
end
end
-- SrcE
example : True := by
  w_top off
  k_with_none
  exact trivial
section

section
noncomputable def NoneR (news : List (Addr × Obj)) (m₀ : Str → Option Value) (D : List Str) (p : Prop) (m : Str → Option Value) (nx : List (Addr × Obj)) (_tk : Nat) : Prop :=
  SubL news nx ∧ p ∧ ∀ z, (∀ d ∈ D, z ≠ d) → m z = m₀ z
theorem off_of2 {news : List (Addr × Obj)} {I : Addr} {o o' : Obj} (l : ∀ p ∈ news, p.1 < I) : ∀ p ∈ news, ∀ q ∈ [(I + 1, o), (I, o')], p.1 ≠ q.1 := fun p hp q hq => by
  have h := l p hp
  rcases List.mem_cons.mp hq with rfl | hq
  · exact Nat.ne_of_lt (Nat.lt_succ_of_lt h)
  · rw [List.mem_singleton.mp hq]; exact Nat.ne_of_lt h
theorem EndT.none {h₀ : Heap} {L : Addr} {its keep news all : List (Addr × Obj)} {m₀ m' : Str → Option Value} {D : List Str} {p : Prop} {s₁ : Shared} {h' : Heap} {tk : Nat} (F : Fr h₀ L h' m') (N : News h₀ L h' all)
    (off : ∀ p ∈ news, ∀ q ∈ its, p.1 ≠ q.1) (hI : SubL its all) (sub : SubL news all) (hk : SubL keep news) (h2 : ∀ z, (∀ d ∈ D, z ≠ d) → m' z = m₀ z) (h : p) : EndT h₀ L s₁ its keep (NoneR news m₀ D p) { s₁ with heap := h', toks := tk } :=
  ⟨h', tk, m', news, rfl, F, fun p hp => by
    rcases List.mem_append.mp hp with hp | hp
    · exact N p (hI.mem p hp)
    · exact N p (sub.mem p hp), off, hk, subL_of fun _ h => h, h, h2⟩
section
variable {prog : Program} {w : World} {A : Around} {E : Value → Shared → Prop} {s : Shared} {env : Env} {h₀ : Heap} {body orelse : List Stmt} {Q : Flow → Shared → Prop} {m₀ : Str → Option Value} {news : List (Addr × Obj)}
theorem enum0T {elts : List Expr} {kk : Nat} {pos : Pos} {D : List Str} {P : Nat → Prop} {l : Addr} {vs : List Value} (_ : Mk P)
    (hh : A.handled = none) (hl0 : h₀.IsList l vs.toArray) (F : Fr h₀ env.locals s.heap m₀) (N : News h₀ env.locals s.heap news) (h0 : P 0)
    (turn : ∀ (k : Nat) v t T tk₁ h₁ u I oe ol, vs[k]? = some v → P k → IsTup h₁ T #[.int (k : Int) t, v] → oe.cls = .type "enumerate" → ol.cls = .type "list_iterator" → (∀ p ∈ news, p.1 < I) → Fr h₀ env.locals h₁ (ovr D u m₀) → News h₀ env.locals h₁ ((I + 1, oe) :: (I, ol) :: news) →
      wpAny (model prog w) A (assign (.Tuple elts kk pos) env (.ref T)) (fun _ s₃ => wpAny (model prog w) A (execs body env) (TurnT h₀ env.locals { s with heap := h₁, toks := tk₁ } [(I + 1, oe), (I, ol)] [] (NoneR news m₀ D (P (k + 1))) Q) E s₃) E { s with heap := h₁, toks := tk₁ })
    (fin : ∀ h' tk u, Fr h₀ env.locals h' (ovr D u m₀) → News h₀ env.locals h' news → P vs.length → wpAny (model prog w) A (execs orelse env) Q E { s with heap := h', toks := tk }) :
    wpAny (model prog w) A (call (.type "enumerate") [.ref l]) (fun xv s₁ => wpAny (model prog w) A (pyIter xv) (fun it s₂ => LoopT prog w A h₀ env (.Tuple elts kk pos) body orelse Q E it s₂) E s₁) E s := by
  have hl : s.heap.IsList l vs.toArray := hl0.at fun o e => F.keep l o e
  obtain ⟨ol, hol, _⟩ := id hl0
  have hlb : l < h₀.objs.size := Heap.lt_size hol
  have hLs : env.locals < s.heap.objs.size := F.ns.lt
  have hlt : l < s.heap.objs.size := Nat.lt_trans (Nat.lt_of_lt_of_le hlb F.above) hLs
  refine call_enumerate_list hl fun h' hE hI hsz hk => ?_
  refine wpAny_pyIter_enum hE ?_
  have W := KTurns.ofWalksU (elts := elts) (k := kk) (pos := pos) (WalksT.enumerate (prog := prog) (w := w) hh (s.heap.objs.size + 1) s.heap.objs.size l (Nat.succ_ne_self _) (ktu_ne 1 hlt) (Nat.ne_of_lt hlt) vs.toArray).toU
  rw [show vs.toArray.size = vs.length from List.size_toArray ..] at W
  refine srcT (ws := [(s.heap.objs.size + 1, "enumerate"), (s.heap.objs.size, "list_iterator")]) (keep := []) (tk0 := s.toks) W (fun k m nx tk => NoneR news m₀ D (P k) m nx tk) ?_ ?_ ?_ ?_ ?_ ?_ ?_ (F.keeps hk) (N.grown hk) trivial ⟨subL_of fun _ h => h, h0, fun _ _ => rfl⟩ ?_ ?_
  · rintro i h ⟨⟨old, he⟩, ⟨oi, hoi, hic, _⟩, _⟩
    have he' : ∃ oe : Obj, h.get? (s.heap.objs.size + 1) = some oe ∧ oe.cls = .type "enumerate" := ⟨_, he, rfl⟩
    obtain ⟨oe, h1, h2⟩ := he'
    refine ⟨[(s.heap.objs.size + 1, oe), (s.heap.objs.size, oi)], ⟨⟨rfl, h2⟩, ⟨rfl, hic⟩, trivial⟩, fun p hp => ?_⟩
    rcases List.mem_cons.mp hp with rfl | hp
    · exact h1
    · rw [List.mem_singleton.mp hp]; exact hoi
  · intro b hb
    have hb' : b = s.heap.objs.size + 1 ∨ b = s.heap.objs.size := by simpa using hb
    rcases hb' with rfl | rfl
    · exact ⟨by simp, ktu_new F (Nat.le_add_right _ _)⟩
    · exact ⟨by simp, ktu_new F (Nat.le_refl _)⟩
  · intro b hb
    simpa using hb
  · intro b hb
    have hb' : b = s.heap.objs.size + 1 ∨ b = s.heap.objs.size ∨ b = l := by simpa using hb
    rcases hb' with rfl | rfl | rfl
    · exact .inl (by simp)
    · exact .inl (by simp)
    · exact .inr (.inr ⟨ol, hol⟩)
  · intro hI'
    have hb' : env.locals = s.heap.objs.size + 1 ∨ env.locals = s.heap.objs.size ∨ env.locals = l := by simpa using hI'
    rcases hb' with e | e | e
    · exact ktu_ne 1 hLs e
    · exact Nat.ne_of_lt hLs e
    · exact absurd hlb (Nat.not_lt.mpr (e ▸ F.above))
  · intro p hp hI'
    have hb' : p.1 = s.heap.objs.size + 1 ∨ p.1 = s.heap.objs.size := by simpa using hI'
    have hlp := Heap.lt_size (N p hp).1
    rcases hb' with e | e
    · exact ktu_ne 1 hlp e
    · exact Nat.ne_of_lt hlp e
  · exact ⟨⟨.none, hE⟩, hI, hl.at fun o e => hk l o e⟩
  · rintro i v m₁ news₁ h₁ tk₀ tk₁ hi ⟨T, vals, rfl, ⟨t, x, hx, rfl⟩, hT⟩ ⟨hs, hP, hm⟩ hle _ F₁
    rw [ovr_eq hm] at F₁
    refine AllObj.cons fun oe he => AllObj.cons fun oi ho => AllObj.nil fun N₁ => ?_
    exact turn i x t T tk₁ h₁ m₁ _ oe oi (by simpa using hx) hP hT he ho (fun p hp => Heap.lt_size (N p hp).1) F₁ fun p hp => N₁ p (by
      rcases List.mem_cons.mp hp with rfl | hp
      · exact .head _
      · rcases List.mem_cons.mp hp with rfl | hp
        · exact .tail _ (.head _)
        · exact .tail _ (.tail _ (hs.mem _ hp)))
  · rintro h' tk₀ tk m' news' F' N' ⟨hs, hP, hm⟩ hle _
    rw [ovr_eq hm] at F'
    exact fin h' tk m' F' (fun p hp => N' p (hs.mem _ hp)) hP
end
end
end
-- T8
example : True := by
  w_top off
  k_with_none
  k_with "m_clean" => ((repeat (first | (rename News _ _ _ _ => zq9; clear zq9) | (rename Fr _ _ _ _ => zq9; clear zq9))); (try skip))
  k_with "m_enter" => (refine' enterP (g := _) (news := []) (fun _ _ e => e) (Nat.le_refl _) (fun _ hp => nomatch hp) ?k3zq ?k5zq ?k6zq ?k7zq ?k8zq ?k9zq ?kBzq ?_ ?c2zq ?c3zq ?c4zq ?c5zq; (case k3zq => k_asm); (case k5zq => k_asm); (case k6zq => k_is); (case k7zq => k_is); (case k8zq => (walk_at "m_room")); (case k9zq => exact BindsTo.of_eq rfl); (case c5zq => decide); (case kBzq => exact locs rfl); (case c2zq => exact rfl); (case c3zq => exact rfl); (case c4zq => exact rfl); k_whole; intro L' h' F' N' _ Qt' Et' hq' hE'; (try dsimp only); (try k_fold))
  k_with "m_room" => (first | exact rm0 hdp | exact rm1 hdp (by decide) | exact rm2 hdp | ((try simp only [depth_under_make, depth_under_kw, depth_in1, depth_deeper, depth_caller] at *); (try dsimp only [AR] at *); omega) | ((simp only [recursionLimit, depth_under_make, depth_under_kw, depth_in1, depth_deeper, depth_caller] at *); (try dsimp only [AR] at *); omega) | decide)
  k_with "p_end" => (refine hret _ _ _ (Fr.keep (by assumption)) ?_; (walk_at "m_clean"))
  k_with "p_open" => (dsimp only [Pure, PG, KK, LL]; k_fill; intro dp un gd outer base s Q E B X T hpre hdp hun hret; refine wpAny_call ?_)
  exact trivial
section
set_option maxHeartbeats 8000000
section
variable (w : World) (mean : ExcName → Option Value) (mg mb : Str → Option Value)
example : True := by
  k_with "execs cons" => (k_here; k_dflt (refine execs_P (by k_asm) rfl ?_; intro tk' Qt' hq'))
  k_with "Post" => (k_here; (rename Then _ _ => hq'); refine hq' _ _ ?_; clear hq')
  exact trivial
noncomputable def cntF (zs : List (Str × Tok)) (x : Str) (i : Nat) : Nat := (zs.take i).countP fun p => p.1 == x
noncomputable def CountJ (zs : List (Str × Tok)) (x : Str) (i : Nat) (v : Value) : Prop := i ≤ zs.length ∧ ∃ t, v = .int (cntF zs x i : Int) t
theorem CountJ.zero {zs : List (Str × Tok)} {x : Str} {t : Tok} : CountJ zs x 0 (.int 0 t) := ⟨Nat.zero_le _, t, rfl⟩
theorem cntF_succ {zs : List (Str × Tok)} {x c : Str} {t : Tok} {i : Nat} (h : zs[i]? = some (c, t)) : cntF zs x (i + 1) = cntF zs x i + if (c == x) = true then 1 else 0 := by
  unfold cntF
  rw [List.take_add_one, h, List.countP_append]
  simp [List.countP_cons]
theorem CountJ.yes {zs : List (Str × Tok)} {x c : Str} {t t' : Tok} {i : Nat} (h : zs[i]? = some (c, t)) (e : c = x) (hi : i < zs.length) : CountJ zs x (i + 1) (.int ((cntF zs x i : Int) + 1) t') := by
  refine ⟨hi, t', ?_⟩
  rw [cntF_succ h, if_pos (by simp [e])]; rfl
theorem CountJ.no {zs : List (Str × Tok)} {x c : Str} {t t' : Tok} {i : Nat} (h : zs[i]? = some (c, t)) (e : (c == x) = false) (hi : i < zs.length) : CountJ zs x (i + 1) (.int (cntF zs x i : Int) t') := by
  refine ⟨hi, t', ?_⟩
  rw [cntF_succ h, if_neg (by rw [e]; exact Bool.false_ne_true)]; rfl
theorem strs_at {zs : List (Str × Tok)} {i : Nat} {v : Value} (h : (strValues zs)[i]? = some v) : ∃ c t, zs[i]? = some (c, t) ∧ v = .str c t ∧ i < zs.length ∧ (c, t) ∈ zs := by
  unfold strValues at h
  rw [List.getElem?_map] at h
  obtain ⟨⟨c, t⟩, hc, rfl⟩ := Option.map_eq_some_iff.mp h
  exact ⟨c, t, hc, rfl, (List.getElem?_eq_some_iff.mp hc).1, List.mem_of_getElem? hc⟩
theorem eq_of_beq' {c x : Str} (h : (c == x) = true) : c = x := by simpa using h
example : True := by
  k_with "exec For Name Name cons nil" => (k_here; (rename Fr _ _ _ _ => lF'); (with_unfolding_all refine' For_invVF lF' ?k1zq ?k2zq ?_; (case k1zq => exact rfl); (case k2zq => exact rfl); k_whole))
  k_with "pyIter ref" => (k_here; (with_reducible show wpAny _ _ (pyIter (Value.ref _)) (fun it s₂ => LoopAtV _ _ _ _ _ _ _ _ _ it s₂) _ _); k_dflt (refine' listOne (y := Str.ofString "count") (by assumption) ?hhzq (by assumption) ?Fzq ?Nzq ?hjzq ?turnzq ?donezq; (case hhzq => exact rfl); (case Fzq => k_asm); (case Nzq => k_asm); (case hjzq => exact ⟨_, rfl, CountJ.zero⟩); (case' turnzq => (intro i' c' v' h' tk' own' hc' hP' hoff' F' N'; obtain ⟨c0', t0', z', e', hi', m'⟩ := strs_at hc'; subst e'; obtain ⟨hle', t', e'⟩ := hP'; subst e'; (have ok' := (by assumption : ∀ p ∈ _, TokOk p _ _) _ m'))); (case' donezq => (intro u' v' h' tk' hP' F' N'; obtain ⟨hle', t', e'⟩ := hP'; subst e')); (all_goals (try simp only [List.nil_append, List.cons_append, List.append_nil] at N'))))
  k_with "InvEndN" => (k_here; k_dflt (refine InvEndN.intro (by assumption) (by assumption) (OneJ.intro (by with_unfolding_all rfl) (by (intro z h1 h2; first | rfl | (simp [h1, h2]; done) | (simp_all; done))) ?_) (by rfl) (by (with_unfolding_all ((try simp only [List.nil_append, List.cons_append]); k_allIn))) (by (intro p hp; k_ownIn))))
  k_with "CountJ" => (k_dflt (first | exact CountJ.yes (by with_reducible assumption) (eq_of_beq' (by with_reducible assumption)) (by with_reducible assumption) | exact CountJ.yes (by with_reducible assumption) (by with_reducible apply ‹true = true → _›; rfl) (by with_reducible assumption) | exact CountJ.no (by with_reducible assumption) (by with_reducible assumption) (by with_reducible assumption)))
  k_with "compareOp Is str str" => (k_here; (with_reducible show wpAny _ _ (compareOp CmpOp.Is (Value.str _ _) (Value.str _ _)) _ _ _); k_dflt (refine' is_T ?Xzq ?Fzq ?tzq ?uzq ?tuzq ?_; (case Xzq => k_asm); (case Fzq => k_asm); (case tzq => exact TokOk.nz (by with_reducible assumption)); (case uzq => exact TokOk.nu (by with_reducible assumption)); (case tuzq => exact TokOk.eq (by with_reducible assumption))); intro b' hb'; cases b')
  exact trivial
theorem p_count (zs : List (Str × Tok)) (x : Str) (u : Tok) (l : Addr) (htok : ∀ p ∈ zs, TokOk p x u) : Pure w mean mg mb 2 70 [.ref l, .str x u] (fun s => s.heap.IsList l (strValues zs).toArray) (isI (cntF zs x zs.length)) := by
  have mk' : Mk (CountJ zs x) := .mk
  (walk_at "p_open")
  k_dflt (walk_at "m_enter")
  k_steps
  all_goals ((walk_at "p_end"); exact ⟨_, by rw [show (strValues zs).length = zs.length from by simp [strValues]]⟩)
noncomputable def NoneYet (zs : List (Str × Tok)) (x : Str) (k : Nat) : Prop := ∀ j, j < k → ∀ p, zs[j]? = some p → (p.1 == x) = false
theorem NoneYet.zero {zs : List (Str × Tok)} {x : Str} : NoneYet zs x 0 := fun _ h => absurd h (Nat.not_lt_zero _)
theorem NoneYet.succ {zs : List (Str × Tok)} {x c : Str} {t : Tok} {k : Nat} (h : NoneYet zs x k) (hc : zs[k]? = some (c, t)) (e : (c == x) = false) : NoneYet zs x (k + 1) := by
  intro j hj p hp
  rcases Nat.lt_succ_iff_lt_or_eq.mp hj with hj | rfl
  · exact h j hj p hp
  · rw [hc] at hp; cases hp; exact e
noncomputable def idxF (zs : List (Str × Tok)) (x : Str) : Nat := zs.findIdx fun p => p.1 == x
theorem idx_is {zs : List (Str × Tok)} {x c : Str} {t : Tok} {k : Nat} (h : NoneYet zs x k) (hc : zs[k]? = some (c, t)) (e : c = x) : idxF zs x = k := by
  obtain ⟨hk, hc'⟩ := List.getElem?_eq_some_iff.mp hc
  refine (List.findIdx_eq hk).mpr ⟨by rw [hc']; simp [e], fun j hj => h j hj _ (List.getElem?_eq_getElem (Nat.lt_trans hj hk))⟩
theorem not_none {zs : List (Str × Tok)} {x : Str} (h : ∃ t, (x, t) ∈ zs) : ¬ NoneYet zs x (strValues zs).length := by
  obtain ⟨t, ht⟩ := h
  intro hn
  obtain ⟨j, hj⟩ := List.mem_iff_getElem?.mp ht
  have := hn j (by simpa [strValues] using (List.getElem?_eq_some_iff.mp hj).1) _ hj
  simp at this
example : True := by
  k_with "exec For Tuple Call" => (k_here; (with_reducible show wpAny _ _ (exec (Stmt.For (Expr.Tuple _ _ _) (Expr.Call (Expr.Name (Str.ofString "enumerate") _) _ _ _) _ _ _) _) _ _ _); (rename Fr _ _ _ _ => lF'); (with_unfolding_all refine' For_TF lF' ?_; k_whole))
  k_with "call type:enumerate" => (k_here; (with_reducible show wpAny _ _ (call (Value.type "enumerate") [Value.ref _]) _ _ _); k_dflt (refine' enum0T (D := [Str.ofString "i", Str.ofString "j"]) (by assumption) ?hhzq (by assumption) ?Fzq ?Nzq ?h0zq ?turnzq ?finzq; (case hhzq => exact rfl); (case Fzq => k_asm); (case Nzq => k_asm); (case h0zq => exact NoneYet.zero); (case finzq => (intro h' tk' u' F' N' hP'; exact absurd hP' (by assumption))); (case' turnzq => (intro k' v' t' T' tk' h' u' I' oe' ol' hv' hP' hT' c1' c2' l1 F' N'; obtain ⟨c0', t0', z', e', hi', m'⟩ := strs_at hv'; subst e'; (have ok' := (by assumption : ∀ p ∈ _, TokOk p _ _) _ m')))))
  k_with "TurnT" => (k_here; dsimp only [TurnT])
  k_with "EndT" => (k_here; k_dflt (refine EndT.none (by assumption) (by assumption) (off_of2 (by assumption)) (by k_subL) (by k_subL) (by k_subL) (by (intro z h2; (try simp only [List.mem_cons, List.not_mem_nil, or_false, forall_eq_or_imp, forall_eq] at h2); first | rfl | (simp [h2, ovr]; done) | (simp_all [ovr]; done))) (NoneYet.succ (by with_reducible assumption) (by with_reducible assumption) (by with_reducible assumption))))
  exact trivial
theorem p_index (zs : List (Str × Tok)) (x : Str) (u : Tok) (l : Addr) (htok : ∀ p ∈ zs, TokOk p x u) (hin : ∃ t, (x, t) ∈ zs) : Pure w mean mg mb 2 77 [.ref l, .str x u] (fun s => s.heap.IsList l (strValues zs).toArray) (isI (idxF zs x)) := by
  have mk' : Mk (NoneYet zs x) := .mk
  have hno := not_none hin
  (walk_at "p_open")
  k_dflt (walk_at "m_enter")
  k_steps
  all_goals ((walk_at "p_end"); refine ⟨_, congrArg (Value.int · _) (congrArg Nat.cast (Eq.symm ?_))⟩)
  all_goals first | exact idx_is (by with_reducible assumption) (by with_reducible assumption) (eq_of_beq' (by with_reducible assumption)) | exact idx_is (by with_reducible assumption) (by with_reducible assumption) (by with_reducible apply ‹true = true → _›; rfl)
end
end
-- MapR
example : True := by
  w_top off
  k_with_none
  exact trivial
section
open AutoSeq1 (wpAny_loadPart')
section
theorem mp_mro : mroOf (.type "map") = pure [.type "map", .type "object"] := by rw [mroOf_type]; kernel_rfl
theorem mp_lnew : typeLookup (.type "map") "__new__" = pure (some (.builtin "map.__new__")) := by rw [typeLookup_type, builtinLookup_eq_fast]; kernel_rfl
theorem mp_init : Slot "map" "__init__" "object.__init__" :=
  .of (owner := "object") (n := "__init__") (by rw [typeLookup_type, builtinLookup_eq_fast]; kernel_rfl) (by decide +kernel) (by decide +kernel) (by decide +kernel) (by decide +kernel) (by rw [isSubtype_type]; kernel_rfl)
theorem mp_called : TypeCalled "map" "map.__new__" "object.__init__" :=
  ⟨by decide +kernel, by decide +kernel, ⟨_, _, mp_mro⟩, madeBy_type mp_mro mp_lnew (by decide +kernel), by decide +kernel, by rw [isSubtype_type]; kernel_rfl, mp_init⟩
theorem mp_tcall (a b : Value) : checkTypeCall "map" ⟨[a, b], []⟩ = pure () := by kernel_rfl
theorem mp_ncall (a b : Value) : checkBuiltinCall "map.__new__" ⟨[.type "map", a, b], []⟩ = pure () := by kernel_rfl
theorem mp_enew : entryFor table "map.__new__" = some Builtin.«map.__new__» := entryFor_of_tree (by kernel_rfl)
theorem mp_sub : isSubtype (.type "map") (.type "map") = pure true := by rw [isSubtype_type]; kernel_rfl
theorem mp_iter : Slot "map" "__iter__" "map.__iter__" :=
  .of (owner := "map") (n := "__iter__") (by rw [typeLookup_type, builtinLookup_eq_fast]; kernel_rfl) (by decide +kernel) (by decide +kernel) (by decide +kernel) (by decide +kernel) (by rw [isSubtype_type]; kernel_rfl)
theorem mp_next : Slot "map" "__next__" "map.__next__" :=
  .of (owner := "map") (n := "__next__") (by rw [typeLookup_type, builtinLookup_eq_fast]; kernel_rfl) (by decide +kernel) (by decide +kernel) (by decide +kernel) (by decide +kernel) (by rw [isSubtype_type]; kernel_rfl)
theorem mp_enext : entryFor table "map.__next__" = some Builtin.«map.__next__» := entryFor_of_tree (by kernel_rfl)
theorem mp_nolen : typeLookup (.type "map") "__len__" = pure none := by rw [typeLookup_type, builtinLookup_eq_fast]; kernel_rfl
theorem mp_nohint : typeLookup (.type "map") "__length_hint__" = pure none := by rw [typeLookup_type, builtinLookup_eq_fast]; kernel_rfl
theorem mp_anext (a : Value) : argsOk "map.__next__" ⟨[a], []⟩ := by unfold argsOk; kernel_rfl
noncomputable abbrev lit (l : Addr) (i : Nat) : Obj := { cls := .type "list_iterator", data := .fields #[.ref l, .int i 0] }
noncomputable abbrev tup (vs : List Value) : Obj := { cls := .type "tuple", data := .seq vs.toArray }
noncomputable abbrev mapObj (Tp : Addr) (f : Value) : Obj := { cls := .type "map", data := .fields #[.ref Tp, f] }
noncomputable def heap3 (h : Heap) (l : Addr) (f : Value) : Heap := ((h.push (lit l 0)).push (tup [.ref h.objs.size])).push (mapObj (h.push (lit l 0)).objs.size f)
section
variable {prog : Program} {w : World} {A : Around} {E : Value → Shared → Prop} {s : Shared}
theorem mp_new (f : Value) (l : Addr) (items : Array Value) (n : Nat) (dct : Option Addr) (sl : Array (Option Value)) :
    Meets (Builtin.«map.__new__» ⟨[.type "map", f, .ref l], []⟩) (fun _ R s => s.heap.get? l = some { cls := .type "list", dict := dct, data := .seq items n, slots := sl } ∧
      R (.ok (.ret (.ref ((s.heap.push (lit l 0)).push (tup [.ref s.heap.objs.size])).objs.size))) { s with heap := heap3 s.heap l f }) :=
  .of_wp fun prog w A R s h => by
    obtain ⟨hp, g, d, tk, os⟩ := s; obtain ⟨hl, h⟩ := h
    have hsub := mp_sub
    have hL : Heap.IsList (Shared.heap ⟨hp, g, d, tk, os⟩) l items := ⟨_, hl, rfl, n, rfl⟩
    wp_walk using wpAny_loadPart' hl, wpAny_pyIter_list hL
    exact ⟨_, rfl, h⟩
theorem mp_call {f : Value} {l : Addr} {items : Array Value} {Q : Value → Shared → Prop} {h₀ : Heap} {L : Addr} {m : Str → Option Value} {news : List (Addr × Obj)} (F : Fr h₀ L s.heap m) (N : News h₀ L s.heap news) (hL : s.heap.IsList l items)
    (h : ∀ I Tp M h', (∀ p ∈ news, p.1 < I) → l < I → I < Tp → Tp < M → Fr h₀ L h' m → News h₀ L h' ((M, mapObj Tp f) :: (Tp, tup [.ref I]) :: (I, lit l 0) :: news) → (∀ b o, s.heap.get? b = some o → h'.get? b = some o) → Q (.ref M) { s with heap := h' }) :
    wpAny (model prog w) A (call (.type "map") [f, .ref l]) Q E s := by
  have hlt : l < s.heap.objs.size := by obtain ⟨o, e, _⟩ := hL; exact Heap.lt_size e
  obtain ⟨⟨c, dct, dt, sl⟩, hl, hc, n, hd⟩ := hL
  replace hc : c = .type "list" := hc
  replace hd : dt = .seq items n := hd
  subst hc hd
  refine callType_new mp_called (by decide) (mp_tcall _ _) (mp_ncall _ _) (fun obj => PySem.F.args_object_init_3 obj _ _) mp_enew (mp_new f l items n dct sl) ⟨hl, ?_⟩
  have z1 : (s.heap.push (lit l 0)).objs.size = s.heap.objs.size + 1 := Heap.size_push ..
  have z2 : ((s.heap.push (lit l 0)).push (tup [.ref s.heap.objs.size])).objs.size = s.heap.objs.size + 2 := by rw [Heap.size_push, z1]
  refine ⟨⟨_, Heap.get?_push_size _ rfl, rfl⟩, ?_⟩
  have F1 := F.push (lit l 0)
  have N1 := N.push F (lit l 0)
  have F2 := F1.push (tup [.ref s.heap.objs.size])
  have N2 := N1.push F1 (tup [.ref s.heap.objs.size])
  have F3 := F2.push (mapObj (s.heap.push (lit l 0)).objs.size f)
  have N3 := N2.push F2 (mapObj (s.heap.push (lit l 0)).objs.size f)
  exact h s.heap.objs.size _ _ _ (fun p hp => Heap.lt_size (N p hp).1) hlt (by rw [z1]; exact Nat.lt_succ_self _) (by rw [z2, z1]; exact Nat.lt_succ_self _) F3 N3
    (fun b o e => Heap.get?_push_of_some _ (Heap.get?_push_of_some _ (Heap.get?_push_of_some _ e)))

noncomputable def MapFn (prog : Program) (w : World) (A : Around) (g : Heap) (f : Value) (x : Value) (P : Value → Prop) : Prop :=
  ∀ (s : Shared) (Q E : Value → Shared → Prop), (∀ b o, g.get? b = some o → s.heap.get? b = some o) → (∀ r h' tk, (∀ b o, s.heap.get? b = some o → h'.get? b = some o) → P r → Q r { s with heap := h', toks := tk }) →
    wpAny (model prog w) A (call f [x]) Q E s

theorem mp_next_item {M Tp I l : Addr} {f : Value} {i : Nat} {items : Array Value} {x : Value} {g : Heap} {P : Value → Prop} {Q : Option Value → Shared → Prop} (hM : s.heap.get? M = some (mapObj Tp f)) (hT : s.heap.get? Tp = some (tup [.ref I])) (hit : s.heap.IsListIter I l i)
    (hl : s.heap.IsList l items) (hx : items[i]? = some x) (hMI : M ≠ I) (hTI : Tp ≠ I) (hlI : l ≠ I) (hg : ∀ b o, g.get? b = some o → s.heap.get? b = some o) (hgI : g.get? I = none) (hf : MapFn prog w A.in1 g f x P)
    (hQ : ∀ r h' tk, P r → h'.IsListIter I l (i + 1) → (∀ b o, b ≠ I → s.heap.get? b = some o → h'.get? b = some o) → Q (some r) { s with heap := h', toks := tk }) : wpAny (model prog w) A (pyNext (.ref M)) Q E s := by
  have hTM : s.TypeIs (.ref M) "map" := ⟨_, hM, rfl⟩
  unfold pyNext
  refine wpAny_bind (wpAny_attempt (wpAny_callSpecial?_slot (name := Str.ofString "__next__") hTM mp_next (wpAny_call_entry mp_next hTM mp_enext ?_ (mp_anext _))))
  show wpAny _ _ (field (.ref M) 0 >>= _) _ _ s
  refine wpAny_bind (wpAny_field hM rfl (x := .ref Tp) rfl ?_)
  show wpAny _ _ (seqItems? (.ref Tp) >>= _) _ _ s
  refine wpAny_bind (wpAny_seqItems hT rfl ?_)
  dsimp only
  refine wpAny_bind (wpAny_arrayLoop ?_)
  rw [List.toList_toArray, List.forIn_cons]
  refine wpAny_bind (wpAny_bind (wpAny_holding (wpAny_nextOf_list_item hit hl hx fun h₁ hit₁ hs₁ => wpAny_pure ?_)))
  dsimp only
  rw [List.forIn_nil]
  refine wpAny_pure ?_
  have hM₁ : h₁.get? M = some (mapObj Tp f) := hs₁.extBut _ _ hMI hM
  refine wpAny_bind (wpAny_field (s := { s with heap := h₁ }) hM₁ rfl (x := f) rfl ?_)
  refine wpAny_bind (wpAny_holding ?_)
  refine hf { s with heap := h₁ } _ _ (fun b o e => hs₁.extBut b o (fun q => by have q' : b = I := q; rw [q', hgI] at e; cases e) (hg b o e)) fun r h' tk hk hP => ?_
  refine wpAny_bind (wpAny_letGo (wpAny_pure ⟨r, rfl, wpAny_pure (hQ r h' tk hP ?_ fun b o hb e => hk b o (hs₁.extBut b o hb e))⟩))
  obtain ⟨o, ho, q⟩ := hit₁
  exact ⟨o, hk _ _ ho, q⟩
theorem mp_next_end {M Tp I l : Addr} {f : Value} {i : Nat} {items : Array Value} {Q : Option Value → Shared → Prop} (hh : A.handled = none) (hM : s.heap.get? M = some (mapObj Tp f)) (hT : s.heap.get? Tp = some (tup [.ref I])) (hit : s.heap.IsListIter I l i)
    (hl : s.heap.IsList l items) (hx : items[i]? = none) (hQ : ∀ h', Heap.ExtBut I s.heap h' → Q none { s with heap := h' }) : wpAny (model prog w) A (pyNext (.ref M)) Q E s := by
  have hTM : s.TypeIs (.ref M) "map" := ⟨_, hM, rfl⟩
  unfold pyNext
  refine wpAny_bind (wpAny_attempt (wpAny_callSpecial?_slot (name := Str.ofString "__next__") hTM mp_next (wpAny_call_entry mp_next hTM mp_enext ?_ (mp_anext _))))
  show wpAny _ _ (field (.ref M) 0 >>= _) _ _ s
  refine wpAny_bind (wpAny_field hM rfl (x := .ref Tp) rfl ?_)
  show wpAny _ _ (seqItems? (.ref Tp) >>= _) _ _ s
  refine wpAny_bind (wpAny_seqItems hT rfl ?_)
  dsimp only
  refine wpAny_bind (wpAny_arrayLoop ?_)
  rw [List.toList_toArray, List.forIn_cons]
  refine wpAny_bind (wpAny_bind (wpAny_holding (wpAny_nextOf_list_end hh hit hl hx fun h' x he' hx' => ?_)))
  obtain ⟨o, ho, hc⟩ := hx'
  refine wpAny_bind (wpAny_isInstance (T := "StopIteration") (b := true) ⟨o, ho, hc⟩ isSubtype_stop ?_)
  exact wpAny_pure (hQ _ he')
end
end
end
-- MapR2
example : True := by
  w_top off
  k_with_none
  exact trivial
section

section
section
variable {prog : Program} {w : World} {A : Around} {E : Value → Shared → Prop} {s : Shared}
theorem mp_eiter : entryFor table "map.__iter__" = some Builtin.«dict_keyiterator.__iter__» :=
  entryFor_alias (id' := "dict_keyiterator.__iter__") (by kernel_rfl) (by first | rfl | decide +kernel | (unfold String.splitOn; simp +decide [String.splitOnAux])) (by decide +kernel) (by kernel_rfl)
theorem mp_aiter (a : Value) : argsOk "map.__iter__" ⟨[a], []⟩ := by unfold argsOk; kernel_rfl
structure MapAt (g : Heap) (M Tp I l : Addr) (f : Value) (items : Array Value) (i : Nat) (h : Heap) : Prop where
  keep : ∀ b o, g.get? b = some o → h.get? b = some o
  hM : h.get? M = some (mapObj Tp f)
  hT : h.get? Tp = some (tup [.ref I])
  it : h.IsListIter I l i
  src : h.IsList l items
theorem mp_walks (hh : A.handled = none) (g : Heap) {M Tp I l : Addr} {f : Value} (items : Array Value) {P : Nat → Value → Prop} (hMI : M ≠ I) (hTI : Tp ≠ I) (hlI : l ≠ I) (hgI : g.get? I = none)
    (hf : ∀ i x, items[i]? = some x → MapFn prog w A.in1 g f x (P i)) : Walks prog w A M (M :: Tp :: I :: l :: List.range g.objs.size) [I] items.size P (fun i h => MapAt g M Tp I l f items i h) where
  sub := fun b hb => by rw [List.mem_singleton.mp hb]; simp
  frame := fun i h h' st hk => ⟨fun b o e => hk b (by simp [Heap.lt_size e]) o (st.keep b o e), hk M (by simp) _ st.hM, hk Tp (by simp) _ st.hT, st.it.at fun o e => hk I (by simp) o e, st.src.at fun o e => hk l (by simp) o e⟩
  item := fun i s Q E hi st hQ => by
    have hx : items[i]? = some items[i] := by simp [hi]
    refine mp_next_item st.hM st.hT st.it st.src hx hMI hTI hlI st.keep hgI (hf i _ hx) fun r h' tk hP hit hk => ?_
    refine hQ r h' tk hP ⟨fun b o e => hk b o (fun q => by rw [q, hgI] at e; cases e) (st.keep b o e), hk _ _ hMI st.hM, hk _ _ hTI st.hT, hit, st.src.extBut (fun b o hb e => hk b o hb e) hlI⟩ fun b o hb e => hk b o (fun q => hb (by rw [q]; exact List.mem_singleton.mpr rfl)) e
  done := fun s Q E st hQ => mp_next_end hh st.hM st.hT st.it st.src (by simp) fun h' he' => hQ h' s.toks fun b o hb e => he' b o (fun h => hb (by simp [h])) e
  self := fun i s Q E st hQ => by
    have hT : s.TypeIs (.ref M) "map" := ⟨_, st.hM, rfl⟩
    refine wpAny_pyIter_slot hT mp_iter (wpAny_call_entry mp_iter hT mp_eiter ?_ (mp_aiter _))
    show wpAny _ _ (ret (.ref M)) _ _ s
    exact wpAny_pure ⟨_, rfl, "map", _, hT, mp_next.lookup, hQ⟩

theorem mp_collect {I : Addr} {fp wr : List Addr} {G : Array GenState → Array GenState → Prop} {n : Nat} {P : Nat → Value → Prop} {St : Nat → Shared → Prop} {Q : List Value → Shared → Prop} (W : WalksS prog w A.in1 I fp wr G n P St) (hT : ∀ i s, St i s → s.TypeIs (.ref I) "map") (hst : St 0 s) (hfp : ∀ b ∈ fp, b < s.heap.objs.size) (hI : I ∈ fp)
    (hQ : ∀ s' acc, Moved wr G s s' → ItemsOf P acc n → Q acc.toList s') (hn : n ≤ sizeLine) : wpAny (model prog w) A (collect (.ref I)) Q E s := by
  have hSf : s.heap.objs.size ∉ fp := fun hm => Nat.lt_irrefl _ (hfp _ hm)
  have hSI : s.heap.objs.size ≠ I := fun e => hSf (e ▸ hI)
  unfold collect
  refine wpAny_bind (wpAny_runValue (codeAny_builtin F.entry_proto_collect ?_))
  rw [Around.under_plainId F.plain_proto_collect _]
  show wpAny _ A.in1 (newList [] >>= fun l => again (.builtin "list.__iadd__" ⟨[l, .ref I], []⟩)) _ _ s
  refine wpAny_bind (wpAny_newObj_type ?_)
  refine wpAny_pure ⟨plainId_quiet F.plain_list_iadd _, codeAny_builtin F.entry_list_iadd ?_⟩
  rw [Around.under_plainId F.plain_list_iadd _]
  generalize hH : s.heap.push { cls := .type "list", data := .seq ([] : List Value).toArray } = H
  have hst₁ := W.frame 0 s H s.toks hst (Nat.le_refl _) fun b _ o e => hH ▸ Heap.get?_push_of_some _ e
  have hS₁ : H.get? s.heap.objs.size = some { cls := .type "list", data := .seq ([] : List Value).toArray } := hH ▸ Heap.get?_push_size _ rfl
  show wpAny _ A.in1 (Builtin.List.listExtendWith (.ref s.heap.objs.size) (.ref I) (.ref s.heap.objs.size)) _ _ _
  unfold Builtin.List.listExtendWith
  refine wpAny_bind (wpAny_typeOf (hT 0 _ hst₁) ?_)
  rw [if_neg (by simp [Builtin.List.listSameRef, hSI])]
  refine wpAny_bind (W.self 0 _ _ _ hst₁ ?_)
  refine wpAny_bind (wpAny_holding ?_)
  unfold Builtin.List.listLengthHint
  refine wpAny_bind (wpAny_specialOf (hT 0 _ hst₁) mp_nolen ?_)
  show wpAny _ A.in1 (specialOf (Value.ref I) (Str.ofString "__length_hint__") >>= _) _ _ _
  refine wpAny_bind (wpAny_specialOf (hT 0 _ hst₁) mp_nohint ?_)
  refine wpAny_pure ?_
  show wpAny _ A.in1 (rule "list.extend.makes-room" >>= fun _ => Builtin.List.listTouch (.ref s.heap.objs.size) >>= fun _ =>
    again (.builtin "list.extend.loop" ⟨[.ref s.heap.objs.size, .ref I, .ref s.heap.objs.size], []⟩)) _ _ _
  refine wpAny_bind (wpAny_rule ?_)
  refine wpAny_bind ?_
  show wpAny _ A.in1 (updateSeq s.heap.objs.size (·.push .none) >>= fun _ => updateSeq s.heap.objs.size (·.pop)) _ _ _
  refine wpAny_bind (wpAny_updateSeq hS₁ rfl ?_)
  have hS₂ := Heap.get?_update_self (Obj.mapSeq (·.push Value.none)) hS₁ rfl
  refine wpAny_updateSeq hS₂ rfl ?_
  have hS₃ := Heap.get?_update_self (Obj.mapSeq (·.pop)) hS₂ rfl
  have oth : ∀ b o, b ≠ s.heap.objs.size → H.get? b = some o → ((H.update s.heap.objs.size (Obj.mapSeq (·.push Value.none))).update s.heap.objs.size (Obj.mapSeq (·.pop))).get? b = some o :=
    fun b o hb e => (Heap.get?_update_other _ _ (Ne.symm hb)).trans ((Heap.get?_update_other _ _ (Ne.symm hb)).trans e)
  refine wpAny_pure ⟨plainId_quiet F.plain_extend_loop _, codeAny_extend_loopS W hn _ hSf _ n 0 _ _ _ rfl (Nat.zero_le _)
    (W.frame 0 ({ s with heap := H } : Shared) _ s.toks hst₁ (Nat.le_refl _) fun b hb o e => oth b o (fun h => hSf (h ▸ hb)) e) hS₃ (ItemsOf.nil P) fun s' acc' c' hm hS' hacc => ?_⟩
  show wpAny _ A (load s.heap.objs.size >>= _) _ _ s'
  refine wpAny_bind (wpAny_load hS' ?_)
  subst hH
  refine wpAny_pure (hQ s' acc' (Moved.drop_new (o := { cls := .type "list", data := .seq ([] : List Value).toArray }) (tk := s.toks) (Moved.trans W.gtrans ((Moved.refl W.grefl).then_heap (Nat.le_refl _) fun b o hb e => oth b o (fun h => hb (h ▸ List.mem_cons_self)) e) hm) (Nat.le_refl _)) hacc)

theorem mp_tuple_new {I : Addr} {fp wr : List Addr} {G : Array GenState → Array GenState → Prop} {n : Nat} {P : Nat → Value → Prop} {St : Nat → Shared → Prop} {Q₁ : Value → Shared → Prop} (W : WalksS prog w A.in1.in1 I fp wr G n P St) (hT : ∀ i s, St i s → s.TypeIs (.ref I) "map") (hst : St 0 s) (hfp : ∀ b ∈ fp, b < s.heap.objs.size) (hI : I ∈ fp)
    (h : ∀ s' acc, Moved wr G s s' → ItemsOf P acc n → Q₁ (.ref s'.heap.objs.size) { s' with heap := s'.heap.push { cls := .type "tuple", data := .seq acc } }) (hsz : n ≤ sizeLine) :
    codeAny (model prog w) A (.call (.builtin "tuple.__new__") ⟨[.type "tuple", .ref I], []⟩) (wants Q₁ E) s := by
  refine codeAny_of_tree ?_
  show wpAny _ A.in1 (do checkBuiltinCall "tuple.__new__" ⟨[.type "tuple", .ref I], []⟩; again (.builtin "tuple.__new__" ⟨[.type "tuple", .ref I], []⟩)) _ _ s
  refine wpAny_bind (wpAny_of_eq (F.newCall_tuple_1 _) (wpAny_pure ⟨plainId_quiet F.plain_tuple_new _, codeAny_builtin F.entry_tuple_new ?_⟩))
  rw [Around.under_plainId F.plain_tuple_new _]
  have hsub := sub_tuple_self
  have hinit := init_tuple_lookup
  have hmh := madeHere_tuple
  have hTI := hT 0 s hst
  wp_walk using wpAny_typeOf hTI, mp_collect (hn := hsz) W hT hst hfp hI
  intro s' acc hm hacc
  show wpAny _ _ (Builtin.Tuple.tupleExact acc.toList.toArray >>= fun v => ret v) _ _ _
  unfold Builtin.Tuple.tupleExact
  refine wpAny_bind (wpAny_newObj_type ?_ (by show acc.toList.toArray.size ≤ sizeLine; simp only [Array.toArray_toList]; rw [hacc.1]; exact hsz))
  refine wpAny_pure ?_
  have e : acc.toList.toArray = acc := by simp
  rw [e]
  exact h s' acc hm hacc
theorem mp_tuple {M Tp I l : Addr} {f : Value} {items : Array Value} {P : Nat → Value → Prop} {Q : Value → Shared → Prop} {h₀ : Heap} {L : Addr} {m : Str → Option Value} {news : List (Addr × Obj)} (g : Heap) (hh : A.handled = none)
    (F : Fr h₀ L s.heap m) (N : News h₀ L s.heap ((M, mapObj Tp f) :: (Tp, tup [.ref I]) :: (I, lit l 0) :: news)) (hi : ∀ p ∈ news, p.1 ≠ I) (hMI : M ≠ I) (hTI : Tp ≠ I) (hlI : l ≠ I) (hL : s.heap.IsList l items) (hz : items.size ≤ sizeLine)
    (hg : ∀ b o, g.get? b = some o → s.heap.get? b = some o) (hgI : g.get? I = none) (hgs : g.objs.size ≤ s.heap.objs.size) (hf : ∀ i x, items[i]? = some x → MapFn prog w A.in1.in1.in1.in1 g f x (P i))
    (h : ∀ D acc h' tk, (∀ p ∈ news, p.1 < D) → ItemsOf P acc items.size → Fr h₀ L h' m → News h₀ L h' ((D, ({ cls := .type "tuple", data := .seq acc } : Obj)) :: news) → Q (.ref D) { s with heap := h', toks := tk }) :
    wpAny (model prog w) A (call (.type "tuple") [.ref M]) Q E s := by
  have nI : h₀.get? I = none := (N (I, lit l 0) (by simp)).2.2
  have nL : I ≠ L := (N (I, lit l 0) (by simp)).2.1
  have hM := N.get (a := M) (o := mapObj Tp f) (by simp)
  have hT := N.get (a := Tp) (o := tup [.ref I]) (by simp)
  have hI := N.get (a := I) (o := lit l 0) (by simp)
  have st0 : MapAt g M Tp I l f items 0 s.heap := ⟨hg, hM, hT, ⟨_, hI, rfl, rfl⟩, hL⟩
  have hlt : l < s.heap.objs.size := by obtain ⟨o, e, _⟩ := hL; exact Heap.lt_size e
  have W := (mp_walks (prog := prog) (w := w) (A := A.in1.in1.in1) hh g items hMI hTI hlI hgI hf).toS
  refine callType_codes (Q₁ := fun obj s₁ => s₁.TypeIs obj "tuple" ∧ Q obj s₁) PySem.F.called_tuple (PySem.F.typeCall_tuple_1 _) PySem.F.entry_object_init
    (mp_tuple_new (hsz := hz) W (fun i s st => ⟨_, st.hM, rfl⟩) st0 (fun b hb => ?_) (by simp) fun s' acc hm hacc => ⟨⟨_, Heap.get?_push_size _ rfl, rfl⟩, ?_⟩) fun obj s₁ h₁ => ?_
  · simp only [List.mem_cons, List.mem_range] at hb
    rcases hb with rfl | rfl | rfl | rfl | hb
    · exact Heap.lt_size hM
    · exact Heap.lt_size hT
    · exact Heap.lt_size hI
    · exact hlt
    · exact Nat.lt_of_lt_of_le hb hgs
  · obtain ⟨h', g', d', t', os'⟩ := s'
    obtain ⟨hk, rfl, rfl, rfl, ht⟩ := hm
    have keep : ∀ b o, b ≠ I → s.heap.get? b = some o → h'.get? b = some o := fun b o hb e => hk b o (fun q => hb (List.mem_singleton.mp q)) e
    have F' : Fr h₀ L h' m := ⟨F.ns.at' fun o e => keep _ _ (Ne.symm nL) e, fun b o e => keep b o (fun q => by rw [q, nI] at e; cases e) (F.keep b o e), F.above⟩
    have N' : News h₀ L h' news := fun p hp => ⟨keep _ _ (hi p hp) (N p (by simp [hp])).1, (N p (by simp [hp])).2⟩
    exact h _ acc _ _ (fun p hp => Heap.lt_size (N' p hp).1) hacc (F'.push _) (N'.push F' _)
  · exact ⟨h₁.1, PySem.F.args_object_init_2 obj _, object_init_meets PySem.F.called_tuple.init.lookup PySem.F.called_tuple.made (by decide) prog w A.in1 _ s₁ ⟨h₁.1, rfl, h₁.2⟩⟩
end
end
end
-- Cmn1
example : True := by
  w_top off
  k_with_none
  exact trivial
section

section
section
variable {w : World} {mean : ExcName → Option Value} {mg mb : Str → Option Value} {n : Nat} {f : Addr}
  {dp un : Nat} {gd : Option (List Code)} {outer : List Env} {env : Env} {A₀ : Around} {base h₀ : Heap} {L : Addr} {m : Str → Option Value} {s : Shared} {Q E : Value → Shared → Prop} {news : List (Addr × Obj)}
theorem com_tuple {a b : Str} {t u : Tok} {M Tp I l : Addr} (H : ∀ a t, Pure w mean mg mb n f [.str a t] yes (isS a)) (B : Below A₀ base outer h₀) (F : Fr h₀ L s.heap m) (X : (KK w).In h₀) (T : Top topProg LL mean mg mb h₀) (hfr : env.frame = some L) (hk : env.scope.kind = .function)
    (N : News h₀ L s.heap ((M, mapObj Tp (.ref f)) :: (Tp, tup [.ref I]) :: (I, lit l 0) :: news)) (hl : h₀.IsList l #[.str a t, .str b u]) (l1 : ∀ p ∈ news, p.1 < I) (l2 : l < I) (l3 : I < Tp) (l4 : Tp < M) (hd : dp + n < 900) (hu : un + 10 * n + 10 < 9000)
    (h : ∀ D t' u' h' tk, (∀ p ∈ news, p.1 < D) → Fr h₀ L h' m → News h₀ L h' ((D, ({ cls := .type "tuple", data := .seq #[.str a t', .str b u'] } : Obj)) :: news) → Q (.ref D) { s with heap := h', toks := tk }) :
    wpAny (model PG w) (AR dp un gd (env :: outer)) (call (.type "tuple") [.ref M]) Q E s := by
  have N1 : News h₀ L s.heap [(I, lit l 0)] := fun p hp => N p (by simp at hp; simp [hp])
  obtain ⟨FG, BG, st, _⟩ := groundX (A := AR dp un gd (env :: outer)) (R := fun _ _ => True) B F N1 rfl hfr hk
  refine mp_tuple (P := fun i v => ∃ t', v = .str (if i = 0 then a else b) t') (hideAll s.heap [I]) rfl F N (fun p hp => Nat.ne_of_lt (l1 p hp)) (Nat.ne_of_gt (Nat.lt_trans l3 l4)) (Nat.ne_of_gt l3) (Nat.ne_of_lt l2) (hl.at fun o e => F.keep _ o e) (Nat.le_of_ble_eq_true rfl) (fun b o e => of_hideAll _ e) (hideAll_none _ (by simp)) (Nat.le_of_eq (hideAll_size _ _)) ?_ ?_
  · intro i x hx s' Q' E' hk' hq
    have go : ∀ c t', wpAny (model PG w) (AR dp (un + 4) gd (env :: outer)) (call (.ref f) [.str c t']) (fun r s'' => ∃ h' tk, s'' = { s' with heap := h', toks := tk } ∧ (∀ b o, s'.heap.get? b = some o → h'.get? b = some o) ∧ ∃ t'', r = .str c t'') E' s' := fun c t' =>
      H c t' dp (un + 4) gd (env :: outer) base s' _ E' ⟨rfl, fun b o e => hk' b o (BG.stays b o e), BG.frames.of_keeps fun b o e _ => ⟨o, hk' b o e, rfl⟩⟩ ((X.keeps FG.keep).keeps hk') ((T.keeps FG.keep).keeps hk') trivial hd (by omega) fun r h' tk hk2 hr => ⟨h', tk, rfl, hk2, hr⟩
    have fin : ∀ c t', (if i = 0 then a else b) = c → x = .str c t' → wpAny (model PG w) (AR dp (un + 4) gd (env :: outer)) (call (.ref f) [x]) Q' E' s' := by
      rintro c t' hc rfl
      refine wpAny_mono (go c t') ?_ fun _ _ e => e
      rintro r s'' ⟨h', tk, rfl, hk2, t'', rfl⟩
      exact hq _ _ _ hk2 ⟨t'', by rw [hc]⟩
    match i, hx with
    | 0, hx => exact fin a t rfl (by simpa using hx.symm)
    | 1, hx => exact fin b u rfl (by simpa using hx.symm)
    | i + 2, hx => simp at hx
  · rintro D acc h' tk hD ⟨hz, hP⟩ F' N'
    obtain ⟨v0, e0⟩ : ∃ v, acc[0]? = some v := ⟨acc[0]'(by rw [hz]; exact Nat.succ_pos _), by simp [hz]⟩
    obtain ⟨v1, e1⟩ : ∃ v, acc[1]? = some v := ⟨acc[1]'(by rw [hz]; exact Nat.le_refl _), by simp [hz]⟩
    obtain ⟨t', rfl⟩ := hP _ _ e0
    obtain ⟨u', rfl⟩ := hP _ _ e1
    have : acc = #[.str a t', .str b u'] := by
      apply Array.ext_getElem?
      intro i
      match i with
      | 0 => simpa using e0
      | 1 => simpa using e1
      | i + 2 => rw [Array.getElem?_eq_none (by rw [hz]; simp), Array.getElem?_eq_none (by simp)]
    subst this
    exact h D t' u' h' tk hD F' N'
end
end
end
-- T3
example : True := by
  w_top off
  k_with_none
  k_with "end_one" => (dsimp only [TurnT]; k_dflt (refine EndT.one (by assumption) (by assumption) (by first | exact off_of (by assumption) | exact (fun _ hp => nomatch hp)) (by k_subL) (by k_subL) (by k_subL) (by with_unfolding_all rfl) (by (intro z h1 h2; (try simp only [List.mem_cons, List.not_mem_nil, or_false, forall_eq_or_imp, forall_eq] at h2); first | rfl | (simp [h1, h2, ovr]; done) | (simp_all [ovr]; done))) ?_))
  k_with "lb_all" => ((repeat (with_reducible rename LB _ _ => lbx; cases lbx)); (try dsimp only at *))
  k_with "lbt" => ((try dsimp only); (first | assumption | (apply LB.s1; first | assumption | (apply LB.s1; first | assumption | (apply LB.s1; first | assumption | (apply LB.s1; assumption))))))
  k_with "m_clean" => ((repeat (first | (rename News _ _ _ _ => zq9; clear zq9) | (rename Fr _ _ _ _ => zq9; clear zq9))); (try skip))
  k_with "m_enter" => (refine' enterP (g := _) (news := []) (fun _ _ e => e) (Nat.le_refl _) (fun _ hp => nomatch hp) ?k3zq ?k5zq ?k6zq ?k7zq ?k8zq ?k9zq ?kBzq ?_ ?c2zq ?c3zq ?c4zq ?c5zq; (case k3zq => k_asm); (case k5zq => k_asm); (case k6zq => k_is); (case k7zq => k_is); (case k8zq => (walk_at "m_room")); (case k9zq => exact BindsTo.of_eq rfl); (case c5zq => decide); (case kBzq => exact locs rfl); (case c2zq => exact rfl); (case c3zq => exact rfl); (case c4zq => exact rfl); k_whole; intro L' h' F' N' _ Qt' Et' hq' hE'; (try dsimp only); (try k_fold))
  k_with "m_enterR" => (refine' enterR ?k3zq ?k5zq ?k6zq ?k7zq ?k8zq ?kVzq ?kPzq ?kGzq ?kBzq ?_ ?c2zq ?c3zq ?c4zq ?c5zq; (case k3zq => k_asm); (case k5zq => k_asm); (case k6zq => k_is); (case k7zq => k_is); (case k8zq => (walk_at "m_room")); (case kVzq => kl_lit); (case kPzq => exact rfl); (case kGzq => exact fun _ => rfl); (case kBzq => exact fun _ => locs rfl); (case c5zq => decide); (case c2zq => exact rfl); (case c3zq => exact rfl); (case c4zq => exact rfl); k_whole; intro D' L' h' l1 F' N' Qt' Et' hq' hE'; (try dsimp only); (try k_fold))
  k_with "m_room" => (first | exact rm0 hdp | exact rm1 hdp (by decide) | exact rm2 hdp | ((try simp only [depth_under_make, depth_under_kw, depth_in1, depth_deeper, depth_caller] at *); (try dsimp only [AR] at *); omega) | ((simp only [recursionLimit, depth_under_make, depth_under_kw, depth_in1, depth_deeper, depth_caller] at *); (try dsimp only [AR] at *); omega) | decide)
  k_with "m_units" => (first | exact un1 hun (by decide) | exact un2 hun (by decide) | exact un3 hun (by decide) | exact un4 hun | (have hcL9 := cLine_is; (try simp only [units_in1, units_deeper, Around.mark_units, units_caller] at *); (try dsimp only [AR] at *); omega))
  k_with "p_end" => (refine hret _ _ _ (Fr.keep (by assumption)) ?_; (walk_at "m_clean"))
  k_with "p_open" => (dsimp only [Pure, PG, KK, LL]; k_fill; intro dp un gd outer base s Q E B X T hpre hdp hun hret; refine wpAny_call ?_)
  exact trivial
section
set_option maxHeartbeats 8000000
section
variable (w : World) (mean : ExcName → Option Value) (mg mb : Str → Option Value)
example : True := by
  k_with "execs cons" => (k_here; k_dflt (refine execs_P (by k_asm) rfl ?_; intro tk' Qt' hq'))
  k_with "Post" => (k_here; (rename Then _ _ => hq'); refine hq' _ _ ?_; clear hq')
  k_with "call builtin:issubclass" => (k_here; (with_reducible show wpAny _ _ (call (Value.builtin "issubclass") [Value.type _, Value.ref _]) _ _ _); refine' issub_call ?k1zq ?_; (case k1zq => exact News.get (by k_asm) (by k_mem)))
  exact trivial
theorem p_fspath (a : Str) (t : Tok) : Pure w mean mg mb 1 166 [.str a t] yes (isS a) := by
  (walk_at "p_open")
  k_dflt (walk_at "m_enter")
  k_steps
  all_goals ((walk_at "p_end"); exact ⟨_, rfl⟩)
theorem p_sep (a : Str) (t : Tok) : Pure w mean mg mb 1 180 [.str a t] yes (isS (Str.ofString "/")) := by
  (walk_at "p_open")
  k_dflt (walk_at "m_enter")
  k_steps
  all_goals ((walk_at "p_end"); exact ⟨_, rfl⟩)
example : True := by
  k_with "call ref" => (k_here; k_dflt (first | (first | (refine' pure_useS (p_fspath _ _ _ _ _ _) ?k1x1zq ?k2x1zq ?k3x1zq ?k4x1zq ?k5x1zq ?kfx1zq ?kKx1zq ?kpx1zq ?kdx1zq ?kux1zq ?_; (case k1x1zq => k_asm); (case k2x1zq => k_asm); (case k3x1zq => k_asm); (case k4x1zq => k_asm); (case k5x1zq => k_asm); (case kfx1zq => exact rfl); (case kKx1zq => first | exact rfl | assumption); (case kpx1zq => first | trivial | assumption); (case kdx1zq => (walk_at "m_room")); (case kux1zq => (walk_at "m_units")); intro t9 h9 tk9 le9 F9 N9; (try dsimp only at le9); (try dsimp only); (try k_fold)) | (refine' pure_useI (p_fspath _ _ _ _ _ _) ?k1x1zq ?k2x1zq ?k3x1zq ?k4x1zq ?k5x1zq ?kfx1zq ?kKx1zq ?kpx1zq ?kdx1zq ?kux1zq ?_; (case k1x1zq => k_asm); (case k2x1zq => k_asm); (case k3x1zq => k_asm); (case k4x1zq => k_asm); (case k5x1zq => k_asm); (case kfx1zq => exact rfl); (case kKx1zq => first | exact rfl | assumption); (case kpx1zq => first | trivial | assumption); (case kdx1zq => (walk_at "m_room")); (case kux1zq => (walk_at "m_units")); intro t9 h9 tk9 le9 F9 N9; (try dsimp only at le9); (try dsimp only); (try k_fold)) | (refine' pure_useB (p_fspath _ _ _ _ _ _) ?k1x1zq ?k2x1zq ?k3x1zq ?k4x1zq ?k5x1zq ?kfx1zq ?kKx1zq ?kpx1zq ?kdx1zq ?kux1zq ?_; (case k1x1zq => k_asm); (case k2x1zq => k_asm); (case k3x1zq => k_asm); (case k4x1zq => k_asm); (case k5x1zq => k_asm); (case kfx1zq => exact rfl); (case kKx1zq => first | exact rfl | assumption); (case kpx1zq => first | trivial | assumption); (case kdx1zq => (walk_at "m_room")); (case kux1zq => (walk_at "m_units")); intro h9 tk9 le9 F9 N9; (try dsimp only at le9); (try dsimp only); (try k_fold))) | (first | (refine' pure_useS (p_sep _ _ _ _ _ _) ?k1x2zq ?k2x2zq ?k3x2zq ?k4x2zq ?k5x2zq ?kfx2zq ?kKx2zq ?kpx2zq ?kdx2zq ?kux2zq ?_; (case k1x2zq => k_asm); (case k2x2zq => k_asm); (case k3x2zq => k_asm); (case k4x2zq => k_asm); (case k5x2zq => k_asm); (case kfx2zq => exact rfl); (case kKx2zq => first | exact rfl | assumption); (case kpx2zq => first | trivial | assumption); (case kdx2zq => (walk_at "m_room")); (case kux2zq => (walk_at "m_units")); intro t9 h9 tk9 le9 F9 N9; (try dsimp only at le9); (try dsimp only); (try k_fold)) | (refine' pure_useI (p_sep _ _ _ _ _ _) ?k1x2zq ?k2x2zq ?k3x2zq ?k4x2zq ?k5x2zq ?kfx2zq ?kKx2zq ?kpx2zq ?kdx2zq ?kux2zq ?_; (case k1x2zq => k_asm); (case k2x2zq => k_asm); (case k3x2zq => k_asm); (case k4x2zq => k_asm); (case k5x2zq => k_asm); (case kfx2zq => exact rfl); (case kKx2zq => first | exact rfl | assumption); (case kpx2zq => first | trivial | assumption); (case kdx2zq => (walk_at "m_room")); (case kux2zq => (walk_at "m_units")); intro t9 h9 tk9 le9 F9 N9; (try dsimp only at le9); (try dsimp only); (try k_fold)) | (refine' pure_useB (p_sep _ _ _ _ _ _) ?k1x2zq ?k2x2zq ?k3x2zq ?k4x2zq ?k5x2zq ?kfx2zq ?kKx2zq ?kpx2zq ?kdx2zq ?kux2zq ?_; (case k1x2zq => k_asm); (case k2x2zq => k_asm); (case k3x2zq => k_asm); (case k4x2zq => k_asm); (case k5x2zq => k_asm); (case kfx2zq => exact rfl); (case kKx2zq => first | exact rfl | assumption); (case kpx2zq => first | trivial | assumption); (case kdx2zq => (walk_at "m_room")); (case kux2zq => (walk_at "m_units")); intro h9 tk9 le9 F9 N9; (try dsimp only at le9); (try dsimp only); (try k_fold)))); walk_say "CONTRACT")
  exact trivial
noncomputable def headF (a : Str) : Str := Txt.slice a none (some (Txt.rfind a (Str.ofString "/") + 1))
noncomputable def dirF (a : Str) : Str := if (headF a).length = 0 then headF a else if (headF a != Txt.mul (Str.ofString "/") ((headF a).length : Int)) = true then Txt.rstripChars (headF a) (Str.ofString "/") else headF a
theorem p_dirname (a : Str) (t : Tok) (h : a.length < 1000) : Pure w mean mg mb 2 194 [.str a t] yes (isS (dirF a)) := by
  (walk_at "p_open")
  k_dflt (walk_at "m_enter")
  k_steps
  all_goals ((walk_at "p_end"); refine ⟨_, congrArg (Value.str · _) ?_⟩)
  all_goals (unfold dirF headF; first | (rw [if_pos (by omega)]; done) | (rw [if_neg (by omega), if_pos (by assumption)]; done) | (rw [if_neg (by omega), if_neg (by rw [Bool.not_eq_true]; assumption)]; done) | trace_state)
noncomputable def joinF (a b : Str) : Str := if (Txt.startswith b (Str.ofString "/")) = true ∨ a.length = 0 then b else if (Txt.endswith a (Str.ofString "/")) = true then a ++ b else a ++ (Str.ofString "/" ++ b)
noncomputable def JoinR (a b : Str) (n : Nat) (i : Nat) (c : Value) (tk : Nat) : Prop := LB n tk ∧ match i with
  | 0 => ∃ t, c = .str a t
  | _ => ∃ t : Nat, c = .str (joinF a b) t ∧ n ≤ t ∧ t < tk
theorem one_at {a v : Value} {i : Nat} (h : [a][i]? = some v) : i = 0 ∧ v = a := by
  cases i with
  | zero => exact ⟨rfl, (Option.some.inj h).symm⟩
  | succ i => cases h
example : True := by
  k_with "execs cons" => (k_here; k_dflt (refine execs_Q (by k_asm) rfl (by (walk_at "lbt")) ?_; intro tk' lc' lb' Qt' hq'; (try dsimp only at lc')))
  k_with "exec If" => (k_here; k_dflt (refine if_T (by (walk_at "lbt")) ?_))
  k_with "binaryOp Add str str" => (k_here; (with_reducible show wpAny _ _ (binaryOp _ (Value.str _ _) (Value.str _ _)) _ _ _); k_dflt (refine' add_T ?nzq ?lzq ?_; (case nzq => (walk_at "lbt")); (case lzq => (try rw [strLen_append]); (have e1' : (Str.ofString "/").length = 1 := rfl); omega)); intro t' k' lb')
  k_with "inplaceOp Add str str" => (k_here; (with_reducible show wpAny _ _ (inplaceOp _ (Value.str _ _) (Value.str _ _)) _ _ _); refine' iadd_own ?xzq ?yzq ?lzq ?_; (case xzq => assumption); (case yzq => first | assumption | (rw [strLen_append]; exact Nat.lt_of_lt_of_le (show 0 < (Str.ofString "/").length by decide) (Nat.le_add_right _ _))); (case lzq => (try rw [strLen_append]); (have e1' : (Str.ofString "/").length = 1 := rfl); omega))
  k_with "exec For Name Name cons nil" => (k_here; (rename Fr _ _ _ _ => lF'); (with_unfolding_all refine' For_TF lF' ?_; k_whole))
  k_with "pyIter ref" => (k_here; (with_reducible show wpAny _ _ (pyIter (Value.ref _)) (fun it s₂ => LoopT _ _ _ _ _ _ _ _ _ _ it s₂) _ _); k_dflt (refine' tupT1 (y := Str.ofString "path") (D := [Str.ofString "b"]) (by assumption) ?hhzq ?Mzq ?czq ?dzq ?Fzq ?Nzq ?hjzq ?turnzq ?finzq; (case hhzq => exact rfl); (case Fzq => k_asm); (case Nzq => k_asm); (case Mzq => k_mem); (case czq => exact rfl); (case dzq => exact rfl); (case hjzq => exact ⟨_, rfl, by (walk_at "lbt"), _, rfl⟩); (case' turnzq => (intro i' v' c' tk0' tk1' h' u' I' o' hv' hR' hle' ho' l1 F' N'; obtain ⟨ei', ev'⟩ := one_at hv'; subst ei'; subst ev'; obtain ⟨lb', t0', e0'⟩ := hR'; subst e0'; (have lb2' := LB.tr lb' hle'); (have l1r := l1); (try k_lt l1))); (case' finzq => (intro h' tk0' tk' c' u' F' N' hR' hle'; obtain ⟨lb', t0', e0', g1', g2'⟩ := hR'; subst e0'; (have lb2' := LB.tr lb' hle')))))
  k_with "TurnT" => (k_here; (walk_at "end_one"))
  exact trivial
theorem p_join (a b : Str) (t u : Tok) (h : a.length < 1000) (hb : b.length < 1000) (ha0 : 0 < a.length) (hb0 : 0 < b.length) (hns : Txt.startswith b (Str.ofString "/") = false) : Pure w mean mg mb 2 187 [.str a t, .str b u] yes (isN (joinF a b)) := by
  (walk_at "p_open")
  have mk' : Mk (JoinR a b s.toks) := .mk
  k_dflt (walk_at "m_enterR")
  have lb0 : LB s.toks (s.toks + 2) := ⟨by omega⟩
  k_steps
  all_goals (try (exfalso; omega))
  · ((walk_at "p_end"); refine ⟨_, rfl, by assumption, ?_⟩; (walk_at "lb_all"); omega)
  · (refine ⟨by assumption, _, congrArg (Value.str · _) ?e, ?l1, ?l2⟩; (all_goals (walk_at "m_clean")); (case l1 => ((walk_at "lb_all"); omega)); (case l2 => ((walk_at "lb_all"); omega)); unfold joinF; rw [if_neg (fun e => e.elim (fun e1 => absurd (e1.symm.trans ‹Txt.startswith _ _ = false›) (by decide)) (fun e2 => by omega)), if_pos (by assumption)])
  · (refine ⟨by assumption, _, congrArg (Value.str · _) ?eb, ?lb1, ?lb2⟩; (all_goals (walk_at "m_clean")); (case lb1 => ((walk_at "lb_all"); omega)); (case lb2 => ((walk_at "lb_all"); omega)); unfold joinF; rw [if_neg (fun e => e.elim (fun e1 => absurd (e1.symm.trans ‹Txt.startswith _ _ = false›) (by decide)) (fun e2 => by omega)), if_neg (by rw [Bool.not_eq_true]; assumption)])
end
end
-- CompT
example : True := by
  w_top off
  k_with_none
  exact trivial
section
open PyProof.Rows.LCg
section
noncomputable def SrcP (ax : Addr) (its : Array Value) (news : List (Addr × Obj)) : Prop := False ∨ ∃ o, (ax, o) ∈ news ∧ o.cls = .type "tuple" ∧ ∃ n, o.data = .seq its n
theorem SrcP.tup {h₀ h : Heap} {L ax : Addr} {its : Array Value} {news : List (Addr × Obj)} (x : SrcP ax its news) (N : News h₀ L h news) : h.IsTuple ax its := by
  rcases x with x | ⟨o, hm, r⟩
  · exact x.elim
  · exact ⟨o, (N _ hm).1, r⟩
noncomputable def CompP (prog : Program) (w : World) (A : Around) (h₀ : Heap) (L : Addr) (m : Str → Option Value) (env : Env) (elt : Expr) (x : Str) (scope : Scope) (cl : List (Str × Addr)) (Fin : Shared → List Value → List (Addr × Obj) → Prop) (xv : Value) (s₁ : Shared) : Prop :=
  ∃ ax its news, xv = .ref ax ∧ A.handled = none ∧ Fr h₀ L s₁.heap m ∧ News h₀ L s₁.heap news ∧ SrcP ax its news ∧ its.size ≤ sizeLine ∧
    ∀ s₂ : Shared, (∃ h, s₂ = { s₁ with heap := h }) → CompRest prog w A h₀ L m env elt x scope cl s₂ (SrcP ax its) (fun i v => its[i]? = some v) (Fin s₂) its.size 0 [] news
theorem tuple_st {h₀ : Heap} {L ax I : Addr} {its : Array Value} : ∀ i (h h' : Heap) (o : Obj) (nw : List (Addr × Obj)), (h.IsTupleIter I ax i ∧ h.IsTuple ax its) → h.get? I = some o → h'.get? I = some o → (∀ b o, h₀.get? b = some o → h'.get? b = some o) → News h₀ L h' nw → SrcP ax its nw → (h'.IsTupleIter I ax i ∧ h'.IsTuple ax its) :=
  fun i h h' o nw st e e' _ N S => ⟨by obtain ⟨o', q, r⟩ := st.1; rw [e] at q; cases q; exact ⟨o, e', r⟩, S.tup N⟩
section
variable {prog : Program} {w : World} {A : Around} {E : Value → Shared → Prop} {s : Shared} {h₀ : Heap} {L : Addr} {m : Str → Option Value} {env : Env}
theorem CompP.ledger {elt : Expr} {x : Str} {scope : Scope} {cl : List (Str × Addr)} {Fin : Shared → List Value → List (Addr × Obj) → Prop} {ax : Addr} {its : Array Value} {k : Nat} {news : List (Addr × Obj)} {s₁ : Shared}
    (hh : A.handled = none) (F : Fr h₀ L s₁.heap m) (N : News h₀ L s₁.heap news) (hm : (ax, ({ cls := .type "tuple", data := .seq its k } : Obj)) ∈ news) (hsz : its.size ≤ sizeLine)
    (h : ∀ g, CompRest prog w A h₀ L m env elt x scope cl { s₁ with heap := g } (SrcP ax its) (fun i v => its[i]? = some v) (Fin { s₁ with heap := g }) its.size 0 [] news) :
    CompP prog w A h₀ L m env elt x scope cl Fin (.ref ax) s₁ := ⟨ax, its, news, rfl, hh, F, N, .inr ⟨_, hm, rfl, _, rfl⟩, hsz, fun _ ⟨g, e⟩ => e ▸ h g⟩
theorem Assign_ListComp_P {elt iter : Expr} {x y : Str} {px py : Pos} {scope : Scope} {cl : List (Str × Addr)} {pos spos : Pos} {Q : Flow → Shared → Prop} (_F₀ : Fr h₀ L s.heap m) (hLe : env.locals = L)
    (hsw : swapsWith (.ListComp elt [⟨.Name x px, iter, [], 0⟩] scope pos) (some (.Name y py)) spos.line env = pure true)
    (hclos : closureFor scope env = pure cl) (hcell : ∀ z ∈ scope.names, z.2 ≠ .cell) (hkind : scope.kind = .function)
    (hnames : ∀ z ∈ scope.names, z.2 = .local → scope.names.lookup z.1 = some .local) (hx : scope.names.lookup x = some .local)
    (hy : env.kindOf y = some .local) (hp : (env.scope.kind == .class || (env.scope.kind == .module && env.locals != env.globals)) = false)
    (h : wpAny (model prog w) A (eval iter env) (CompP prog w A h₀ L m env elt x scope cl (fun s₂ => FinA h₀ L m s₂ y Q)) E s)
    (hs : ∀ x, foldedSetIterable iter env x = pure x := by intro _; rfl) :
    wpAny (model prog w) A (exec (.Assign [.Name y py] (.ListComp elt [⟨.Name x px, iter, [], 0⟩] scope pos) spos) env) Q E s := by
  subst hLe
  rw [exec_Assign_Name_used _ _ _ _ hsw]
  refine wpAny_bind (wpAny_standAt (wpAny_bind ?_))
  show wpAny _ A (do let _ ← comprehension (.ListComp elt [⟨.Name x px, iter, [], 0⟩] scope pos) scope env _ (newList []) false (eval iter env) (some (assign (.Name y py) env))) _ _ s
  refine wpAny_bind (wpAny_mono (wpAny_comprehension_free (use := some (assign (.Name y py) env)) (Q := fun _ s' => Q .next s') rfl hs hclos hkind hnames
    (wpAny_mono h (fun xv s₁ h₁ => ?_) fun _ _ e => e)) (fun _ s' hq => wpAny_pure (wpAny_pure hq)) fun _ _ e => e)
  obtain ⟨ax, its, news, rfl, hh, F, N, S, hsz, R⟩ := h₁
  have hl := S.tup N
  have hlt : ax < s₁.heap.objs.size := by obtain ⟨_, e, _⟩ := hl; exact Heap.lt_size e
  refine wpAny_pyIter_tuple hl ?_
  have up : ∀ b o, s₁.heap.get? b = some o → (s₁.heap.push { cls := .type "tuple_iterator", data := .fields #[.ref ax, .int 0 0] }).get? b = some o := fun b o e => Heap.get?_push_of_some _ e
  refine block_U (Walks.tuple hh s₁.heap.objs.size ax (Nat.ne_of_lt hlt) its) hsz (fun i h st => by obtain ⟨o, e, _⟩ := st.1; exact ⟨o, e⟩) tuple_st hcell hkind hx ⟨⟨_, Heap.get?_push_size _ rfl, rfl, rfl⟩, hl.push _⟩ (fun b hb => ?_)
    (F.keeps up) (N.grown up) (Nat.ne_of_lt F.ns.lt) (next_is_new F) (fun p hp => Nat.ne_of_lt (Heap.lt_size (N p hp).1)) S (R _ ⟨_, rfl⟩) ?_
  · show b < (s₁.heap.push _).objs.size
    rw [Heap.size_push]
    rcases List.mem_cons.mp hb with rfl | hb
    · exact Nat.lt_succ_self _
    · rw [List.mem_singleton.mp hb]; exact Nat.lt_succ_of_lt hlt
  · intro D C h' tk m' ys news' F' N' o1 hn hC₀ hD₀ hCL hDL hCD offC fin
    show wpAny _ A (assign (.Name y py) env (.ref D)) _ _ _
    refine wpAny_assign_Name (wpAny_storeName_local hy F'.ns (fun h₂ hn₂ hs₂ => ?_) hp)
    have hL₀ : h₀.get? env.locals = none := Heap.get?_none_of_le F'.above
    have F₂ : Fr h₀ env.locals h₂ (fun z => if z = y then some (.ref D) else m z) := ⟨hn₂, fun b o e => hs₂.extBut b o (fun q => by rw [q, hL₀] at e; cases e) (F'.keep b o e), F'.above⟩
    refine ⟨m', hn.sameBut hs₂ hCL, fun h'' hs'' => fin D h'' _ (F₂.change hs'' hCL hC₀) (fun p hp => ?_) o1⟩
    have z : h₂.get? p.1 = some p.2 := hs₂.extBut _ _ (N' p hp).2.1 (N' p hp).1
    refine ⟨hs''.extBut _ _ ?_ z, (N' p hp).2⟩
    rcases List.mem_cons.mp hp with rfl | hp
    · exact Ne.symm hCD
    · exact offC p hp
end
end
end
-- SetC
example : True := by
  w_top off
  k_with_none
  exact trivial
section
open AutoSeq1 (wpAny_loadPart')
section
noncomputable abbrev setO (es : Array (Int × Value)) (n : Nat) (t : SetTable) : Obj := { cls := .type "set", data := .set es n t }
noncomputable abbrev set0 (led : Bool) : Obj := setO #[] 0 (.fresh 0 0 led)
noncomputable abbrev set1 (led : Bool) : Obj := setO #[(1, .bool true)] 1 ⟨7, #[1], #[], 0, led, 0, true⟩
theorem bt_hash : Slot "bool" "__hash__" "int.__hash__" :=
  .of (owner := "int") (n := "__hash__") (by rw [typeLookup_type, builtinLookup_eq_fast]; kernel_rfl) (by decide +kernel) (by decide +kernel) (by decide +kernel) (by decide +kernel) (by rw [isSubtype_type]; kernel_rfl)
theorem bt_args : argsOk "int.__hash__" ⟨[.bool true], []⟩ := by unfold argsOk; kernel_rfl
theorem lay1 (led : Bool) : layNew (.fresh 0 0 led) #[] 1 (.bool true) = (#[(1, .bool true)], ⟨7, #[1], #[], 0, led, 0, true⟩, false, false) := by cases led <;> kernel_rfl
section
variable {prog : Program} {w : World} {A : Around} {E : Value → Shared → Prop} {s : Shared}
theorem pyHash_true {Q : Int → Shared → Prop} (h : Q 1 { s with toks := s.toks + 1 }) : wpAny (model prog w) A (pyHash (.bool true)) Q E s := by
  have hT : s.TypeIs (.bool true) "bool" := rfl
  unfold pyHash
  have hv : [Value.bool true].any Value.onHeap = false := rfl
  refine wpAny_bind ?_
  rw [cRoomFor, if_neg (by rw [hv]; exact Bool.false_ne_true)]; refine wpAny_pure ?_
  refine wpAny_bind (wpAny_specialOf hT bt_hash.lookup ?_)
  show wpAny _ _ (if (some (Value.builtin "int.__hash__") == some Value.none) = true then _ else _) Q E s
  rw [if_neg (by rw [beq_builtin_none]; exact Bool.false_ne_true)]
  refine wpAny_bind (wpAny_specialOf hT bt_hash.lookup ?_)
  show wpAny _ _ (callSpecialIfBoundUnlessNone? (.bool true) "__hash__" _ >>= _) Q E s
  refine wpAny_bind (wpAny_callSpecialIfBoundUnlessNone?_slot hT bt_hash
    (wpAny_call_entry bt_hash hT entry_int_hash
      (show wpAny _ _ (do ret (← mkInt (rawHash 1))) _ _ s from wpAny_ret_mkInt ?_) bt_args))
  exact wpAny_pure h
theorem eqBool_true {Q : Bool → Shared → Prop} (h : Q true s) : wpAny (model prog w) A (eqBool (.bool true) (.bool true)) Q E s := by
  unfold eqBool
  refine wpAny_holding ?_
  rw [if_pos (by rfl)]
  exact wpAny_bind (wpAny_rule (wpAny_pure h))
theorem add_first {a : Addr} {led : Bool} {Q : Value → Shared → Prop} (ho : s.heap.get? a = some (set0 led))
    (h : ∀ h', Heap.SameBut a s.heap h' → h'.get? a = some (set1 led) → Q .none { s with heap := h', toks := s.toks + 1 }) :
    wpAny (model prog w) A (call (.builtin "set.add") [.ref a, .bool true]) Q E s := by
  have hT : s.TypeIs (.ref a) "set" := ⟨_, ho, rfl⟩
  refine wpAny_call_entry F.slot_set_add hT F.entry_set_add ?_ (F.args_set_add_2 _ _)
  unfold Builtin.«set.add» Builtin.Frozenset.oneOther
  simp only [List.isEmpty_nil, bind_assoc]
  unfold Builtin.Frozenset.addrOf setAdd
  refine wpAny_bind (wpAny_pure ?_)
  try dsimp only
  refine wpAny_bind (wpAny_pure ?_)
  try dsimp only
  refine wpAny_bind (wpAny_holding (wpAny_bind (pyHash_true ?_)))
  unfold setAddHashed setAddHashedIn
  refine wpAny_holding (wpAny_bind (wpAny_setState_of ho rfl rfl ?_))
  dsimp only
  rw [if_pos (by decide +kernel)]
  unfold setAddByScan
  refine wpAny_bind (wpAny_bind (wpAny_rule (wpAny_bind ?_)))
  unfold setScan
  show wpAny _ _ (setScanFrom a (.bool true) 1 true [] 0) _ _ _
  unfold setScanFrom
  refine wpAny_pure ?_
  dsimp only
  rw [lay1]
  dsimp only
  refine wpAny_bind (wpAny_pure ?_)
  rw [if_pos rfl]
  refine wpAny_bind (wpAny_pure ?_)
  rw [if_pos rfl]
  refine wpAny_bind (wpAny_storeSet_of ho rfl ?_ (fits_of_scanBound (by decide)))
  rw [if_neg (by cases led <;> decide +kernel)]
  refine wpAny_pure ?_
  dsimp only
  refine wpAny_pure ?_
  show wpAny _ _ (ret Value.none) _ _ _
  refine wpAny_pure ⟨_, rfl, h _ (Heap.SameBut.update s.heap a _) ?_⟩
  exact Heap.get?_update_self _ ho rfl
theorem add_again {a : Addr} {led : Bool} {Q : Value → Shared → Prop} (ho : s.heap.get? a = some (set1 led))
    (h : ∀ h', Heap.SameBut a s.heap h' → h'.get? a = some (set1 led) → Q .none { s with heap := h', toks := s.toks + 1 }) :
    wpAny (model prog w) A (call (.builtin "set.add") [.ref a, .bool true]) Q E s := by
  have hT : s.TypeIs (.ref a) "set" := ⟨_, ho, rfl⟩
  refine wpAny_call_entry F.slot_set_add hT F.entry_set_add ?_ (F.args_set_add_2 _ _)
  unfold Builtin.«set.add» Builtin.Frozenset.oneOther
  simp only [List.isEmpty_nil, bind_assoc]
  unfold Builtin.Frozenset.addrOf setAdd
  refine wpAny_bind (wpAny_pure ?_)
  try dsimp only
  refine wpAny_bind (wpAny_pure ?_)
  try dsimp only
  refine wpAny_bind (wpAny_holding (wpAny_bind (pyHash_true ?_)))
  unfold setAddHashed setAddHashedIn
  refine wpAny_holding (wpAny_bind (wpAny_setState_of ho rfl rfl ?_))
  dsimp only
  rw [if_pos (by decide +kernel)]
  unfold setAddByScan
  refine wpAny_bind (wpAny_bind (wpAny_rule (wpAny_bind ?_)))
  unfold setScan
  show wpAny _ _ (setScanFrom a (.bool true) 1 true [(1, .bool true)] 0) _ _ _
  unfold setScanFrom
  rw [if_pos (by rfl)]
  refine wpAny_bind (wpAny_setEpoch_of ho rfl rfl ?_)
  refine wpAny_bind (eqBool_true ?_)
  rw [if_pos (by rfl)]
  refine wpAny_pure ?_
  dsimp only
  refine wpAny_pure (wpAny_pure ?_)
  show wpAny _ _ (ret Value.none) _ _ _
  exact wpAny_pure ⟨_, rfl, h _ (Heap.SameBut.refl a s.heap) ho⟩
noncomputable abbrev sit (x y : Int) (v : Value) : Obj := { cls := .type "set_iterator", data := .fields #[.int x 0, .int y 0, v, .int 1 0, .int 1 0] }
theorem st_eiter : entryFor table "set.__iter__" = some Builtin.«frozenset.__iter__» :=
  entryFor_alias (id' := "frozenset.__iter__") (by kernel_rfl) rfl (by decide +kernel) (by kernel_rfl)
theorem si_next : Slot "set_iterator" "__next__" "set_iterator.__next__" :=
  .of (owner := "set_iterator") (n := "__next__") (by rw [typeLookup_type, builtinLookup_eq_fast]; kernel_rfl) (by decide +kernel) (by decide +kernel) (by decide +kernel) (by decide +kernel) (by rw [isSubtype_type]; kernel_rfl)
theorem si_enext : entryFor table "set_iterator.__next__" = some Builtin.«set_iterator.__next__» := entryFor_of_tree (by kernel_rfl)
theorem si_anext (a : Value) : argsOk "set_iterator.__next__" ⟨[a], []⟩ := by unfold argsOk; kernel_rfl
theorem pyIter_set {a : Addr} {led : Bool} {Q : Value → Shared → Prop} (ho : s.heap.get? a = some (set1 led))
    (hQ : Q (.ref s.heap.objs.size) { s with heap := s.heap.push (sit 0 0 (.ref a)) }) : wpAny (model prog w) A (pyIter (.ref a)) Q E s := by
  have hT : s.TypeIs (.ref a) "set" := ⟨_, ho, rfl⟩
  refine wpAny_pyIter_slot hT F.slot_set_iter (wpAny_call_entry F.slot_set_iter hT st_eiter ?_ (F.args_set_iter_1 _))
  unfold Builtin.«frozenset.__iter__»
  show wpAny _ _ (Builtin.Frozenset.sizeOf a >>= _) _ _ _
  unfold Builtin.Frozenset.sizeOf setEntries
  refine wpAny_bind (wpAny_bind (wpAny_bind (wpAny_setState_of ho rfl rfl (wpAny_pure (wpAny_pure ?_)))))
  unfold setDrawn setsByText
  refine wpAny_bind (wpAny_bind (wpAny_setState_of ho rfl rfl ?_))
  refine wpAny_bind (wpAny_bind (wpAny_askSetting (wpAny_pure (wpAny_pure ?_))))
  generalize (model prog w).w.params.followText "set-order" = zb
  rw [if_neg (by cases led <;> cases zb <;> decide +kernel)]
  refine wpAny_bind (wpAny_pure ?_)
  refine wpAny_bind (wpAny_setEpoch_of ho rfl rfl ?_)
  exact wpAny_bind (wpAny_newObj_type (wpAny_pure ⟨_, rfl, "set_iterator", _, ⟨_, Heap.get?_push_size _ rfl, rfl⟩, si_next.lookup, hQ⟩))
theorem pick1 (f : Nat → Nat) (x : Int × Value) : pickOrder f #[x] = #[x] := by
  unfold pickOrder
  show pickOrder.go f 1 0 [x] #[] = _
  unfold pickOrder.go
  simp only [List.length_singleton, Nat.mod_one, List.getElem?_cons_zero]
  rfl
theorem setWalk_text {a : Addr} {led : Bool} {Q : Array (Int × Value) → Shared → Prop} (ho : s.heap.get? a = some (set1 led)) (hb : w.params.followText "set-order" = true)
    (hQ : Q #[(1, .bool true)] s) : wpAny (model prog w) A (setWalk a) Q E s := by
  unfold setWalk setsByText
  refine wpAny_bind (wpAny_setState_of ho rfl rfl ?_)
  refine wpAny_bind (wpAny_bind (wpAny_askSetting (wpAny_pure ?_)))
  dsimp only
  rw [if_pos (show (model prog w).w.params.followText "set-order" = true from hb)]
  refine wpAny_bind (wpAny_askSetting (wpAny_pure ?_))
  rw [pick1]
  exact hQ
theorem setNext_first {a : Addr} {Q : Option (Value × Nat) → Shared → Prop} (ho : s.heap.get? a = some (set1 (!w.params.followText "set-order")))
    (hQ : ∀ n, (w.params.followText "set-order" = false → n = 2) → Q (some (.bool true, n)) s) : wpAny (model prog w) A (setNext a 0 0 1) Q E s := by
  unfold setNext
  refine wpAny_bind (wpAny_setState_of ho rfl rfl ?_)
  unfold setsByText
  refine wpAny_bind (wpAny_bind (wpAny_askSetting (wpAny_pure ?_)))
  have e : (model prog w).w.params = w.params := rfl
  dsimp only
  cases hb : w.params.followText "set-order" with
  | true =>
    rw [if_pos (show (model prog w).w.params.followText "set-order" = true from hb)]
    refine wpAny_bind (setWalk_text ho hb ?_)
    exact wpAny_pure (hQ 0 fun x => by rw [hb] at x; cases x)
  | false =>
    rw [if_neg (show ¬ (model prog w).w.params.followText "set-order" = true by rw [e, hb]; decide), if_neg (by decide +kernel)]
    refine wpAny_bind ?_
    show wpAny _ _ (if _ = true then unsupported _ else pure ()) _ _ _
    rw [if_neg (by decide +kernel)]
    refine wpAny_pure ?_
    exact wpAny_pure (hQ 2 fun _ => rfl)
theorem setNext_second {a : Addr} {n : Nat} {Q : Option (Value × Nat) → Shared → Prop} (ho : s.heap.get? a = some (set1 (!w.params.followText "set-order")))
    (hn : w.params.followText "set-order" = false → n = 2) (hQ : Q none s) : wpAny (model prog w) A (setNext a n 1 1) Q E s := by
  unfold setNext
  refine wpAny_bind (wpAny_setState_of ho rfl rfl ?_)
  unfold setsByText
  refine wpAny_bind (wpAny_bind (wpAny_askSetting (wpAny_pure ?_)))
  have e : (model prog w).w.params = w.params := rfl
  dsimp only
  cases hb : w.params.followText "set-order" with
  | true =>
    rw [if_pos (show (model prog w).w.params.followText "set-order" = true from hb)]
    refine wpAny_bind (setWalk_text ho hb ?_)
    exact wpAny_pure hQ
  | false =>
    rw [if_neg (show ¬ (model prog w).w.params.followText "set-order" = true by rw [e, hb]; decide), if_neg (by decide +kernel)]
    refine wpAny_bind ?_
    show wpAny _ _ (if _ = true then unsupported _ else pure ()) _ _ _
    rw [if_neg (by decide +kernel)]
    refine wpAny_pure ?_
    rw [hn hb]
    exact wpAny_pure hQ
theorem next_set1 {it a : Addr} {Q : Option Value → Shared → Prop} (hit : s.heap.get? it = some (sit 0 0 (.ref a))) (hne : a ≠ it) (ho : s.heap.get? a = some (set1 (!w.params.followText "set-order")))
    (hQ : ∀ n h', (w.params.followText "set-order" = false → n = 2) → h'.get? it = some (sit (n : Nat) 1 (.ref a)) → Heap.SameBut it s.heap h' → Q (some (.bool true)) { s with heap := h' }) :
    wpAny (model prog w) A (pyNext (.ref it)) Q E s := by
  have hT : s.TypeIs (.ref it) "set_iterator" := ⟨_, hit, rfl⟩
  unfold pyNext
  refine wpAny_bind (wpAny_attempt (wpAny_callSpecial?_slot (name := Str.ofString "__next__") hT si_next (wpAny_call_entry si_next hT si_enext ?_ (si_anext _))))
  show wpAny _ _ (fieldsOf (.ref it) >>= _) _ _ s
  refine wpAny_bind (wpAny_fieldsOf hit rfl ?_)
  dsimp only
  unfold setEntries
  refine wpAny_bind (wpAny_bind (wpAny_setState_of ho rfl rfl (wpAny_pure ?_)))
  rw [if_neg (by simp)]
  refine wpAny_bind (setNext_first ho fun n hn => ?_)
  dsimp only
  refine wpAny_bind (wpAny_setField hit rfl (by simp) ?_)
  refine wpAny_bind (wpAny_setField (s := { s with heap := s.heap.update it (Obj.mapFields (·.setIfInBounds 0 (rawInt n))) }) (Heap.get?_update_self _ hit rfl) rfl (by simp) ?_)
  refine wpAny_pure ⟨_, rfl, wpAny_pure (hQ n _ hn ?_ ((Heap.SameBut.update ..).trans (Heap.SameBut.update ..)))⟩
  exact Heap.get?_update_self _ (Heap.get?_update_self _ hit rfl) rfl
theorem next_set1_end {it a : Addr} {n : Nat} {Q : Option Value → Shared → Prop} (hh : A.handled = none) (hit : s.heap.get? it = some (sit (n : Nat) 1 (.ref a))) (hne : a ≠ it) (ho : s.heap.get? a = some (set1 (!w.params.followText "set-order")))
    (hn : w.params.followText "set-order" = false → n = 2) (hQ : ∀ h', Heap.ExtBut it s.heap h' → Q none { s with heap := h' }) :
    wpAny (model prog w) A (pyNext (.ref it)) Q E s := by
  have hT : s.TypeIs (.ref it) "set_iterator" := ⟨_, hit, rfl⟩
  unfold pyNext
  refine wpAny_bind (wpAny_attempt (wpAny_callSpecial?_slot (name := Str.ofString "__next__") hT si_next (wpAny_call_entry si_next hT si_enext ?_ (si_anext _))))
  show wpAny _ _ (fieldsOf (.ref it) >>= _) _ _ s
  refine wpAny_bind (wpAny_fieldsOf hit rfl ?_)
  dsimp only
  unfold setEntries
  refine wpAny_bind (wpAny_bind (wpAny_setState_of ho rfl rfl (wpAny_pure ?_)))
  rw [if_neg (by simp)]
  refine wpAny_bind (setNext_second (n := n) ho hn ?_)
  dsimp only
  refine wpAny_bind (wpAny_setField hit rfl (by simp) ?_)
  show wpAny _ _ (newExc (.type "StopIteration") [] >>= _) _ _ _
  refine wpAny_bind ?_
  simp only [newExc, newTuple]
  refine wpAny_bind (wpAny_newObj_type ?_ (by size_fits))
  refine wpAny_bind (m := firstArgMember _ _) (wpAny_of_eq (a := Value.none) (by first | rfl | (simp only [firstArgMember]; rfl)) ?_)
  refine wpAny_newObj_type ?_ (by size_fits)
  simp only [raiseNew]
  refine wpAny_bind (wpAny_handled ?_)
  first | rw [show A.in1.handled = none from hh] | rw [hh]
  refine wpAny_bind (wpAny_pure (wpAny_throw ?_))
  refine wpAny_bind (wpAny_isInstance (T := "StopIteration") (b := true) ⟨_, Heap.get?_push_size _ rfl, rfl⟩ isSubtype_stop ?_)
  exact wpAny_pure (hQ _ (((Heap.SameBut.update ..).extBut.push _).push _))
theorem unpack_set1 {a : Addr} {targets : List (Bool × (Value → Sem Unit))} {Q : Unit → Shared → Prop} (hh : A.handled = none) (ho : s.heap.get? a = some (set1 (!w.params.followText "set-order")))
    (hn : targets.length = 1) (hstar : targets.findIdx? (·.1) = none)
    (h : ∀ h', (∀ b o, s.heap.get? b = some o → h'.get? b = some o) → wpAny (model prog w) A (assignInOrder (targets.map (·.2)) [.bool true]) Q E { s with heap := h' }) :
    wpAny (model prog w) A (unpack (.ref a) targets) Q E s := by
  have hT : s.TypeIs (.ref a) "set" := ⟨_, ho, rfl⟩
  have hlt : a ≠ s.heap.objs.size := Nat.ne_of_lt (Heap.lt_size ho)
  unfold unpack
  rw [hn, hstar]
  refine wpAny_bind (wpAny_holding ?_)
  unfold unpackItems
  refine wpAny_bind ?_
  unfold notIterableAtAll
  refine wpAny_bind (wpAny_specialOf hT F.slot_set_iter.lookup ?_)
  refine wpAny_pure ?_
  simp only [Bool.false_eq_true, if_false]
  refine wpAny_bind (wpAny_holding (pyIter_set ho ?_))
  have ho1 : (s.heap.push (sit 0 0 (.ref a))).get? a = some (set1 (!w.params.followText "set-order")) := Heap.get?_push_of_some _ ho
  refine wpAny_bind (wpAny_holding ?_)
  show wpAny _ _ (pyNext (.ref s.heap.objs.size) >>= _) _ _ _
  refine wpAny_bind (next_set1 (Heap.get?_push_size _ rfl) hlt ho1 fun n h1 hn1 hit1 hs1 => ?_)
  dsimp only
  refine wpAny_bind (wpAny_holding (wpAny_pure (wpAny_pure ?_)))
  rw [if_neg (by decide)]
  refine wpAny_bind (wpAny_holding (next_set1_end hh hit1 hlt (hs1.extBut _ _ hlt ho1) hn1 fun h2 he2 => ?_))
  simp only [Option.isSome_none, Bool.false_eq_true, if_false]
  refine wpAny_pure (h h2 fun b o e => ?_)
  have hb : b ≠ s.heap.objs.size := Nat.ne_of_lt (Heap.lt_size e)
  exact he2 b o hb (hs1.extBut b o hb (Heap.get?_push_of_some _ e))
end
end
end
-- SetC2
example : True := by
  w_top off
  k_with_none
  exact trivial
section
open PyProof.Rows.LCg
section
section
variable {prog : Program} {w : World} {A : Around} {E : Value → Shared → Prop} {R : Result → Shared → Prop} {s : Shared}
theorem compTurn_set (elt target iter : Expr) (scope : Scope) (pos : Pos) (it acc : Value) (env : Env) :
    compTurn (.SetComp elt [⟨target, iter, [], 0⟩] scope pos) 0 it acc env = (do
      standAt iter.pos
      match ← pyNext it with
      | none => pure (.done .next)
      | some v =>
        letOwnedTupleGo target it v
        assign target env v
        (do let v ← eval elt env; standAt elt.pos; let _ ← call (.builtin "set.add") [acc, v])
        again (.compLoop (.SetComp elt [⟨target, iter, [], 0⟩] scope pos) 0 it acc env)) := by rfl
theorem compLoop_set {elt target iter : Expr} {scope : Scope} {pos : Pos} {it acc : Value} {env : Env} (I : Nat → Shared → Prop)
    (turn : ∀ n s, I n s → wpAny (model prog w) A (pyNext it) (fun r s₁ => match r with
      | none => R (.ok .next) s₁
      | some v => wpAny (model prog w) A (assign target env v) (fun _ s₂ =>
          wpAny (model prog w) A (eval elt env) (fun x s₄ =>
              wpAny (model prog w) A (call (.builtin "set.add") [acc, x]) (fun _ s₅ => ∃ m, m < n ∧ I m s₅) (notedBy (model prog w) A env fun e s' => R (.error e) s') s₄) (notedBy (model prog w) A env fun e s' => R (.error e) s') s₂) (notedBy (model prog w) A env fun e s' => R (.error e) s') s₁) (notedBy (model prog w) A env fun e s' => R (.error e) s') s)
    (n : Nat) (h : I n s) (ht : ∀ v, letOwnedTupleGo target it v = pure () := by intro _; rfl) :
    codeAny (model prog w) A (.compLoop (.SetComp elt [⟨target, iter, [], 0⟩] scope pos) 0 it acc env) R s := by
  refine codeAny_loop rfl I (fun n s hI => ?_) n h
  show wpAny _ A ((compTurn (.SetComp elt [⟨target, iter, [], 0⟩] scope pos) 0 it acc env).onRaise (fun x => do noteFrame x env; theTreesLotGoes x)) _ _ s
  refine wpAny_noted ?_
  rw [compTurn_set]
  refine wpAny_bind (wpAny_standAt (wpAny_bind (wpAny_mono (turn n s hI) (fun r s₁ h₁ => ?_) fun _ _ h' => h')))
  cases r with
  | none => exact wpAny_pure h₁
  | some v =>
    refine wpAny_bind (wpAny_of_eq (ht v) ?_)
    refine wpAny_bind (wpAny_mono h₁ (fun _ s₂ h₂ => ?_) fun _ _ h' => h')
    exact wpAny_bind (wpAny_bind (wpAny_mono h₂ (fun x s₄ h₄ => wpAny_bind (wpAny_standAt (wpAny_bind (wpAny_mono h₄ (fun _ s₅ h₅ => wpAny_pure (wpAny_pure ⟨rfl, h₅⟩)) fun _ _ h' => h')))) fun _ _ h' => h'))
theorem compStart_set {elt target iter ifs rest scope pos it acc env}
    (h0 : codeAny (model prog w) A (.compLoop (.SetComp elt (⟨target, iter, ifs, 0⟩ :: rest) scope pos) 0 it acc env) R s)
    (h : wpAny (model prog w) A (pyIter it) (fun it' s' => codeAny (model prog w) A (.compLoop (.SetComp elt (⟨target, iter, ifs, 0⟩ :: rest) scope pos) 0 it' acc env) R s')
      (notedBy (model prog w) A env fun x s' => R (.error x) s') s) :
    codeAny (model prog w) A (.compStart (.SetComp elt (⟨target, iter, ifs, 0⟩ :: rest) scope pos) 0 it acc env) R s := by
  refine codeAny_of_tree ?_
  show wpAny _ _ ((compStart (.SetComp elt (⟨target, iter, ifs, 0⟩ :: rest) scope pos) 0 it acc env).onRaise (fun x => do noteFrame x env; standAt theWindowsPlace)) _ _ s
  refine wpAny_notedAt ?_
  unfold compStart
  show wpAny _ _ (ask >>= _) _ _ s
  refine wpAny_bind (wpAny_askSetting (wpAny_ite ?_))
  split
  · first
      | exact wpAny_bind (wpAny_pure (wpAny_pure (And.intro rfl h0)))
      | exact wpAny_pure (And.intro rfl h0)
  · first
      | exact wpAny_bind (wpAny_rule (wpAny_bind (wpAny_standAt (wpAny_bind (wpAny_mono h (fun it' s' h' => wpAny_pure (And.intro rfl h')) fun _ _ x => x)))))
      | (refine wpAny_bind (wpAny_rule ?_); show wpAny _ _ (standAt iter.pos >>= _) _ _ s; exact wpAny_bind (wpAny_standAt (wpAny_bind (wpAny_mono h (fun it' s' h' => wpAny_pure (And.intro rfl h')) fun _ _ x => x))))
noncomputable abbrev ledOf (w : World) : Bool := !w.params.followText "set-order"
theorem new_set {Q : Value → Shared → Prop} (h : Q (.ref s.heap.objs.size) { s with heap := s.heap.push (set0 (ledOf w)) }) : wpAny (model prog w) A (newSet (.type "set")) Q E s := by
  unfold newSet setsByText
  refine wpAny_bind (wpAny_bind (wpAny_askSetting (wpAny_pure ?_)))
  dsimp only
  simp only [newObj]
  exact wpAny_bind (wpAny_alloc (wpAny_pure h))
noncomputable def stepO (w : World) : Nat → Obj
  | 0 => set0 (ledOf w)
  | _ + 1 => set1 (ledOf w)
theorem add_step {i : Nat} {a : Addr} {Q : Value → Shared → Prop} (ho : s.heap.get? a = some (stepO w i))
    (h : ∀ h', Heap.SameBut a s.heap h' → h'.get? a = some (stepO w (i + 1)) → Q .none { s with heap := h', toks := s.toks + 1 }) :
    wpAny (model prog w) A (call (.builtin "set.add") [.ref a, .bool true]) Q E s := by
  cases i with
  | zero => exact add_first ho h
  | succ i => exact add_again ho h
end
variable {prog : Program} {w : World} {A : Around} {E : Value → Shared → Prop} {s : Shared} {h₀ : Heap} {L : Addr} {m : Str → Option Value} {env : Env}
noncomputable def TurnTrue (news : List (Addr × Obj)) (y : Value) (news' : List (Addr × Obj)) : Prop := news' = news ∧ y = .bool true
noncomputable def SetTurn (prog : Program) (w : World) (A : Around) (h₀ : Heap) (L : Addr) (m : Str → Option Value) (elt : Expr) (x : Str) (scope : Scope) (cl : List (Str × Addr)) (env : Env) (s₁ : Shared) (S : List (Addr × Obj) → Prop) (news : List (Addr × Obj)) (v : Value) : Prop :=
  ∀ I oI C oC D oD m₂ h tk (E' : Value → Shared → Prop), NsObj oC m₂ → m₂ x = some v → Fr h₀ L h m → News h₀ L h ((I, oI) :: (C, oC) :: (D, oD) :: news) → Off3 I C D news → ((@Ne Nat I C) ∧ (@Ne Nat I D) ∧ (@Ne Nat C D)) →
    wpAny (model prog w) A (eval elt (compEnvC scope cl C env)) (CompEnd h₀ L m { s₁ with heap := h, toks := tk } I oI C oC D oD S (TurnTrue news)) E' { s₁ with heap := h, toks := tk }
theorem block_S {elt iter : Expr} {x : Str} {px : Pos} {scope : Scope} {cl : List (Str × Addr)} {pos : Pos} {s₂ : Shared} {I : Addr} {fp : List Addr} {n : Nat} {P : Nat → Value → Prop} {St : Nat → Heap → Prop} {S : List (Addr × Obj) → Prop} {news : List (Addr × Obj)}
    {RR : Value → Addr → Result → Shared → Prop}
    (W : Walks prog w A I fp [I] n P St) (hIo : ∀ i h, St i h → ∃ o, h.get? I = some o)
    (hSt : ∀ i h h' o nw, St i h → h.get? I = some o → h'.get? I = some o → (∀ b o, h₀.get? b = some o → h'.get? b = some o) → News h₀ L h' nw → S nw → St i h')
    (hcell : ∀ y ∈ scope.names, y.2 ≠ .cell) (hkind : scope.kind = .function) (hx : scope.names.lookup x = some .local) (hst : St 0 s₂.heap) (hfp : ∀ b ∈ fp, b < s₂.heap.objs.size)
    (F : Fr h₀ L s₂.heap m) (N : News h₀ L s₂.heap news) (hIL : L ≠ I) (hI₀ : h₀.get? I = none) (off : ∀ p ∈ news, p.1 ≠ I) (hS : S news)
    (R : ∀ i v, P i v → SetTurn prog w A h₀ L m elt x scope cl env s₂ S news v)
    (hRR : ∀ D C h tk m', Fr h₀ L h m → News h₀ L h ((D, stepO w n) :: news) → Off1 D news → h.Ns C m' → h₀.get? C = none → h₀.get? D = none → C ≠ L → D ≠ L → C ≠ D → (∀ p ∈ news, p.1 ≠ C) → RR (.ref D) C (.ok .next) { s₂ with heap := h, toks := tk }) :
    wpAny (model prog w) A (newSet (.type "set")) (fun acc s₃ => wpAny (model prog w) A (newFunctionEnv scope env.globals cl [] env.qual none .none (some env)) (fun cenv s₄ =>
      codeAny (model prog w) A (.compStart (.SetComp elt [⟨.Name x px, iter, [], 0⟩] scope pos) 0 (.ref I) acc { cenv with scope := relabel scope env }) (RR acc cenv.locals) s₄) E s₃) E s₂ := by
  refine new_set (wpAny_newFunctionEnv hcell (by intro y hy; simp at hy) (fun h₁ hns₁ hsb₁ => ?_) hkind)
  dsimp only at hns₁ hsb₁ ⊢
  generalize hH2 : s₂.heap.push (set0 (ledOf w)) = H2 at hns₁ hsb₁ ⊢
  have hC : H2.objs.size = s₂.heap.objs.size + 1 := by rw [← hH2, Heap.size_push]
  have hDC : s₂.heap.objs.size ≠ H2.objs.size := by rw [hC]; exact Nat.ne_of_lt (Nat.lt_succ_self _)
  have below : ∀ b, b < s₂.heap.objs.size → b ≠ H2.objs.size ∧ b ≠ s₂.heap.objs.size := fun b hb => ⟨by rw [hC]; exact Nat.ne_of_lt (Nat.lt_succ_of_lt hb), Nat.ne_of_lt hb⟩
  have hDf : s₂.heap.objs.size ∉ fp := fun hm => Nat.lt_irrefl _ (hfp _ hm)
  have hCf : H2.objs.size ∉ fp := fun hm => by have := hfp _ hm; rw [hC] at this; exact Nat.lt_irrefl _ (Nat.lt_of_succ_lt this)
  have hIf : I ∈ fp := W.sub I (List.mem_singleton.mpr rfl)
  have hIlt : I < s₂.heap.objs.size := hfp I hIf
  have old : ∀ b o, s₂.heap.get? b = some o → h₁.get? b = some o := fun b o e => hsb₁.extBut b o (below b (Heap.lt_size e)).1 (Heap.get?_push_of_some _ (hH2 ▸ Heap.get?_push_of_some _ e))
  have hacc : h₁.get? s₂.heap.objs.size = some (stepO w 0) := hsb₁.extBut _ _ hDC (Heap.get?_push_of_some _ (hH2 ▸ Heap.get?_push_size _ rfl))
  have hst₁ : St 0 h₁ := W.frame _ _ _ hst fun b _ o e => old b o e
  have fresh : ∀ a, s₂.heap.objs.size ≤ a → s₂.heap.get? a = none := fun a ha => by
    cases e : s₂.heap.get? a with
    | none => rfl
    | some o' => exact absurd (Heap.lt_size e) (Nat.not_lt.mpr ha)
  have fresh₀ : ∀ a, s₂.heap.objs.size ≤ a → h₀.get? a = none := fun a ha => by
    cases e : h₀.get? a with
    | none => rfl
    | some o' => have := F.keep a o' e; rw [fresh a ha] at this; cases this
  have hD₀ : h₀.get? s₂.heap.objs.size = none := fresh₀ _ (Nat.le_refl _)
  have hC₀ : h₀.get? H2.objs.size = none := fresh₀ _ (by rw [hC]; exact Nat.le_succ _)
  have hLlt : L < s₂.heap.objs.size := F.ns.lt
  have hDL : s₂.heap.objs.size ≠ L := Ne.symm (below L hLlt).2
  have hCL : H2.objs.size ≠ L := Ne.symm (below L hLlt).1
  have hCI : I ≠ H2.objs.size := (below I hIlt).1
  have hDI : I ≠ s₂.heap.objs.size := (below I hIlt).2
  have off₀ : Off3 I H2.objs.size s₂.heap.objs.size news := Off3.of fun p hp => ⟨off p hp, (below _ (Heap.lt_size (N p hp).1)).1, (below _ (Heap.lt_size (N p hp).1)).2⟩
  have off3 := off₀.mem
  have loop : ∀ s₃ : Shared, s₃ = { s₂ with heap := h₁, toks := s₂.toks + ([] : List (Str × Value)).length } →
      codeAny (model prog w) A (.compLoop (.SetComp elt [⟨.Name x px, iter, [], 0⟩] scope pos) 0 (.ref I) (.ref s₂.heap.objs.size) (compEnvC scope cl H2.objs.size env))
        (RR (.ref s₂.heap.objs.size) H2.objs.size) s₃ := by
    rintro s₃ rfl
    refine compLoop_set
      (fun k s' => ∃ h' tk i m', s' = { s₂ with heap := h', toks := tk } ∧ i ≤ n ∧ k = n + 1 - i ∧ St i h' ∧ Fr h₀ L h' m ∧ h'.Ns H2.objs.size m' ∧ News h₀ L h' ((s₂.heap.objs.size, stepO w i) :: news)) ?_ (n + 1)
      ⟨h₁, _, 0, _, rfl, Nat.zero_le _, rfl, hst₁, F.keeps old, hns₁, fun p hp => ?_⟩
    · rintro k s' ⟨h', tk, i, m', rfl, hi, rfl, hst', F', hn', N'⟩
      by_cases hlt : i < n
      · refine W.item i _ _ _ hlt hst' fun v h₂ tk₂ hPv hst₂ hk₂ => ?_
        refine wpAny_assign_Name (wpAny_storeName_local (lookup_relabel_local hx) (hn'.at' fun o e => hk₂ _ o (by simpa using Ne.symm hCI) e) (fun h₃ hn₃ hs₃ => ?_) (by simp [compEnvC, relabel, hkind]))
        have hst₃ : St (i + 1) h₃ := W.frame _ _ _ hst₂ fun b hb o e => hs₃.extBut b o (fun q => hCf (by have q' : b = H2.objs.size := q; rw [← q']; exact hb)) e
        obtain ⟨oI, heI⟩ := hIo _ _ hst₃
        obtain ⟨oC, heC, hoC⟩ := ns_obj hn₃
        have F₃ : Fr h₀ L h₃ m := (fr_but F' hk₂ hIL hI₀).change hs₃ hCL hC₀
        have N₂ : News h₀ L h₂ ((s₂.heap.objs.size, stepO w i) :: news) := news_but N' hk₂ fun p hp => by
          rcases List.mem_cons.mp hp with rfl | hp
          · exact Ne.symm hDI
          · exact (off3 p hp).1
        have N₃ : News h₀ L h₃ ((I, oI) :: (H2.objs.size, oC) :: (s₂.heap.objs.size, stepO w i) :: news) := fun p hp => by
          rcases List.mem_cons.mp hp with rfl | hp
          · exact ⟨heI, Ne.symm hIL, hI₀⟩
          · rcases List.mem_cons.mp hp with rfl | hp
            · exact ⟨heC, hCL, hC₀⟩
            · have z := N₂ p hp
              refine ⟨hs₃.extBut _ _ ?_ z.1, z.2⟩
              rcases List.mem_cons.mp hp with rfl | hp
              · exact hDC
              · exact (off3 p hp).2.1
        refine wpAny_mono (R i v hPv I oI H2.objs.size oC s₂.heap.objs.size _ _ h₃ _ _ hoC (by simp) F₃ N₃ off₀ ⟨hCI, hDI, Ne.symm hDC⟩) (fun y s₄ h₄ => ?_) fun _ _ e => e
        obtain ⟨h₄, tk₄, news₄, rfl, F₄, N₄, off₄, hS₄, rfl, rfl⟩ := h₄
        have zI := (N₄ (I, oI) List.mem_cons_self).1
        have zC := (N₄ (H2.objs.size, oC) (List.mem_cons_of_mem _ List.mem_cons_self)).1
        have zD := (N₄ (s₂.heap.objs.size, stepO w i) (List.mem_cons_of_mem _ (List.mem_cons_of_mem _ List.mem_cons_self))).1
        have N₄' : News h₀ L h₄ news₄ := fun p hp => N₄ p (List.mem_cons_of_mem _ (List.mem_cons_of_mem _ (List.mem_cons_of_mem _ hp)))
        have hst₄ : St (i + 1) h₄ := hSt _ _ _ _ _ hst₃ heI zI F₄.keep N₄' hS₄
        refine add_step (s := { s₂ with heap := h₄, toks := tk₄ }) zD fun h₅ hs₅ hD₅ => ?_
        refine ⟨n + 1 - (i + 1), by omega, h₅, tk₄ + 1, i + 1, _, rfl, hlt, rfl, W.frame _ _ _ hst₄ fun b hb o e => hs₅.extBut b o (fun q => hDf (q ▸ hb)) e, F₄.change hs₅ hDL hD₀,
          (hoC.ns zC).sameBut hs₅ (Ne.symm hDC), fun p hp => ?_⟩
        rcases List.mem_cons.mp hp with rfl | hp
        · exact ⟨hD₅, hDL, hD₀⟩
        · exact ⟨hs₅.extBut _ _ (off3 p hp).2.2 (N₄' p hp).1, (N₄' p hp).2⟩
      · obtain rfl : i = n := Nat.le_antisymm hi (Nat.not_lt.mp hlt)
        refine W.done _ _ _ hst' fun h₂ tk₂ hk₂ => ?_
        exact hRR _ _ h₂ tk₂ _ (fr_but F' hk₂ hIL hI₀) (news_but N' hk₂ fun p hp => by
          rcases List.mem_cons.mp hp with rfl | hp
          · exact Ne.symm hDI
          · exact (off3 p hp).1) off₀.one (hn'.at' fun o e => hk₂ _ o (by simpa using Ne.symm hCI) e) hC₀ hD₀ hCL hDL (Ne.symm hDC) (fun p hp => (off3 p hp).2.1)
    · rcases List.mem_cons.mp hp with rfl | hp
      · exact ⟨hacc, hDL, hD₀⟩
      · exact ⟨old _ _ (N p hp).1, (N p hp).2⟩
  exact compStart_set (loop _ rfl) (W.self 0 _ _ _ hst₁ (loop _ rfl))
noncomputable def SetP (prog : Program) (w : World) (A : Around) (h₀ : Heap) (L : Addr) (m : Str → Option Value) (env : Env) (elt : Expr) (x : Str) (scope : Scope) (cl : List (Str × Addr)) (Q : Value → Shared → Prop) (xv : Value) (s₁ : Shared) : Prop :=
  ∃ ax its news, xv = .ref ax ∧ A.handled = none ∧ Fr h₀ L s₁.heap m ∧ News h₀ L s₁.heap news ∧ SrcP ax its news ∧ 0 < its.size ∧
    (∀ g v, v ∈ its.toList → SetTurn prog w A h₀ L m elt x scope cl env { s₁ with heap := g } (SrcP ax its) news v) ∧
    ∀ D h tk, Fr h₀ L h m → News h₀ L h ((D, set1 (ledOf w)) :: news) → Off1 D news → Q (.ref D) { s₁ with heap := h, toks := tk }
theorem SetP.ledger {elt : Expr} {x : Str} {scope : Scope} {cl : List (Str × Addr)} {Q : Value → Shared → Prop} {ax : Addr} {its : Array Value} {k : Nat} {news : List (Addr × Obj)} {s₁ : Shared}
    (hh : A.handled = none) (F : Fr h₀ L s₁.heap m) (N : News h₀ L s₁.heap news) (hm : (ax, ({ cls := .type "tuple", data := .seq its k } : Obj)) ∈ news) (hz : 0 < its.size)
    (h : ∀ g v, v ∈ its.toList → SetTurn prog w A h₀ L m elt x scope cl env { s₁ with heap := g } (SrcP ax its) news v)
    (fin : ∀ D h tk, Fr h₀ L h m → News h₀ L h ((D, set1 (ledOf w)) :: news) → Off1 D news → Q (.ref D) { s₁ with heap := h, toks := tk }) :
    SetP prog w A h₀ L m env elt x scope cl Q (.ref ax) s₁ := ⟨ax, its, news, rfl, hh, F, N, .inr ⟨_, hm, rfl, _, rfl⟩, hz, h, fin⟩
theorem SetComp_P {elt iter : Expr} {x : Str} {px : Pos} {scope : Scope} {cl : List (Str × Addr)} {pos : Pos} {Q : Value → Shared → Prop} (_F₀ : Fr h₀ L s.heap m)
    (hclos : closureFor scope env = pure cl) (hcell : ∀ y ∈ scope.names, y.2 ≠ .cell) (hkind : scope.kind = .function)
    (hnames : ∀ y ∈ scope.names, y.2 = .local → scope.names.lookup y.1 = some .local) (hx : scope.names.lookup x = some .local)
    (h : wpAny (model prog w) A (eval iter env) (SetP prog w A h₀ L m env elt x scope cl Q) E s)
    (hs : ∀ x, foldedSetIterable iter env x = pure x := by intro _; rfl) :
    wpAny (model prog w) A (eval (.SetComp elt [⟨.Name x px, iter, [], 0⟩] scope pos) env) Q E s := by
  rw [arm_eval_SetComp]
  refine wpAny_comprehension_free (use := none) rfl hs hclos hkind hnames (wpAny_mono h (fun xv s₁ h₁ => ?_) fun _ _ e => e)
  obtain ⟨ax, its, news, rfl, hh, F, N, S, hz, R, fin⟩ := h₁
  have hl := S.tup N
  have hlt : ax < s₁.heap.objs.size := by obtain ⟨_, e, _⟩ := hl; exact Heap.lt_size e
  refine wpAny_pyIter_tuple hl ?_
  have up : ∀ b o, s₁.heap.get? b = some o → (s₁.heap.push { cls := .type "tuple_iterator", data := .fields #[.ref ax, .int 0 0] }).get? b = some o := fun b o e => Heap.get?_push_of_some _ e
  refine block_S (Walks.tuple hh s₁.heap.objs.size ax (Nat.ne_of_lt hlt) its) (fun i h st => by obtain ⟨o, e, _⟩ := st.1; exact ⟨o, e⟩) tuple_st hcell hkind hx ⟨⟨_, Heap.get?_push_size _ rfl, rfl, rfl⟩, hl.push _⟩ (fun b hb => ?_)
    (F.keeps up) (N.grown up) (Nat.ne_of_lt F.ns.lt) (next_is_new F) (fun p hp => Nat.ne_of_lt (Heap.lt_size (N p hp).1)) S (fun i v hv => R _ v (by
      have hv' : its[i]? = some v := hv
      rw [← Array.getElem?_toList] at hv'
      exact List.mem_of_getElem? hv')) ?_
  · show b < (s₁.heap.push _).objs.size
    rw [Heap.size_push]
    rcases List.mem_cons.mp hb with rfl | hb
    · exact Nat.lt_succ_self _
    · rw [List.mem_singleton.mp hb]; exact Nat.lt_succ_of_lt hlt
  · intro D C h tk m' F' N' o1 hn hC₀ hD₀ hCL hDL hCD offC
    obtain ⟨j, hj⟩ : ∃ j, its.size = j + 1 := ⟨its.size - 1, by omega⟩
    rw [hj] at N'
    refine ⟨m', hn, fun h'' hs'' => fin D h'' tk (F'.change hs'' hCL hC₀) (fun p hp => ?_) o1⟩
    refine ⟨hs''.extBut _ _ ?_ (N' p hp).1, (N' p hp).2⟩
    rcases List.mem_cons.mp hp with rfl | hp
    · exact Ne.symm hCD
    · exact offC p hp
theorem unpack_true {elts : List Expr} {k} {pos : Pos} {D : Addr} {led : Bool} {Q : Unit → Shared → Prop} {news : List (Addr × Obj)} (F : Fr h₀ L s.heap m) (N : News h₀ L s.heap news) (hm : (D, set1 led) ∈ news) (hl : led = ledOf w) (hh : A.handled = none)
    (hn : (assignEach elts env).length = 1) (hstar : (assignEach elts env).findIdx? (·.1) = none)
    (h : ∀ h', Fr h₀ L h' m → News h₀ L h' news → wpAny (model prog w) A (assignInOrder ((assignEach elts env).map (·.2)) [.bool true]) Q E { s with heap := h' }) :
    wpAny (model prog w) A (assign (.Tuple elts k pos) env (.ref D)) Q E s := by
  subst hl
  rw [arm_assign_Tuple]
  exact wpAny_bind (wpAny_standAt (unpack_set1 hh (N _ hm).1 hn hstar fun h' hk => h h' (F.keeps hk) (N.grown hk)))
end
end
-- FltC
example : True := by
  w_top off
  k_with_none
  exact trivial
section
open PyProof.Rows.LCg PyProof.Rows.LCt
section
theorem strValues_at {l : List (Str × Tok)} {i : Nat} {v : Value} (h : (strValues l).toArray[i]? = some v) : ∃ c t, l[i]? = some (c, t) ∧ v = .str c t := by
  rw [List.getElem?_toArray] at h
  unfold strValues at h
  rw [List.getElem?_map] at h
  cases e : l[i]? with
  | none => rw [e] at h; cases h
  | some p => rw [e] at h; exact ⟨p.1, p.2, rfl, (Option.some.inj h).symm⟩
noncomputable def FltYes (h₀ : Heap) (L : Addr) (m : Str → Option Value) (led : List (Addr × Obj)) (s₁ : Shared) (good : Str → Bool) (c : Str) (t : Tok) (y : Value) (s' : Shared) : Prop :=
  ∃ h' tk, s' = { s₁ with heap := h', toks := tk } ∧ Fr h₀ L h' m ∧ News h₀ L h' led ∧ y = .str c t ∧ good c = true
noncomputable def FltNo (h₀ : Heap) (L : Addr) (m : Str → Option Value) (led : List (Addr × Obj)) (s₁ : Shared) (good : Str → Bool) (c : Str) (s' : Shared) : Prop :=
  ∃ h' tk, s' = { s₁ with heap := h', toks := tk } ∧ Fr h₀ L h' m ∧ News h₀ L h' led ∧ good c = false
theorem FltYes.intro {h₀ : Heap} {L : Addr} {m : Str → Option Value} {led : List (Addr × Obj)} {s₁ : Shared} {good : Str → Bool} {c : Str} {t : Tok} {h' : Heap} {tk : Nat} (F : Fr h₀ L h' m) (N : News h₀ L h' led) (g : good c = true) :
    FltYes h₀ L m led s₁ good c t (.str c t) { s₁ with heap := h', toks := tk } := ⟨_, _, rfl, F, N, rfl, g⟩
theorem FltNo.intro {h₀ : Heap} {L : Addr} {m : Str → Option Value} {led : List (Addr × Obj)} {s₁ : Shared} {good : Str → Bool} {c : Str} {h' : Heap} {tk : Nat} (F : Fr h₀ L h' m) (N : News h₀ L h' led) (g : good c = false) :
    FltNo h₀ L m led s₁ good c { s₁ with heap := h', toks := tk } := ⟨_, _, rfl, F, N, g⟩
section
variable {prog : Program} {w : World} {A : Around} {h₀ : Heap} {L : Addr} {m : Str → Option Value} {env : Env} {ct elt : Expr} {x : Str} {scope : Scope} {cl : List (Str × Addr)} {s : Shared} {S : List (Addr × Obj) → Prop} {Fin : List Value → List (Addr × Obj) → Prop} {news : List (Addr × Obj)}
theorem flt_rest {l : List (Str × Tok)} (good : Str → Bool) (hS : S news)
    (turn : ∀ c t I oI C oC D m₂ ys h tk (E' : Value → Shared → Prop), (c, t) ∈ l → NsObj oC m₂ → m₂ x = some (.str c t) → Fr h₀ L h m → News h₀ L h ((I, oI) :: (C, oC) :: (D, lst ys) :: news) → Off3 I C D news → ((@Ne Nat I C) ∧ (@Ne Nat I D) ∧ (@Ne Nat C D)) →
      wpAny (model prog w) A (isTrue ct (compEnvC scope cl C env) (eval ct (compEnvC scope cl C env))) (fun b s' => if b = true then wpAny (model prog w) A (eval elt (compEnvC scope cl C env)) (FltYes h₀ L m ((I, oI) :: (C, oC) :: (D, lst ys) :: news) { s with heap := h, toks := tk } good c t) E' s'
        else FltNo h₀ L m ((I, oI) :: (C, oC) :: (D, lst ys) :: news) { s with heap := h, toks := tk } good c s') E' { s with heap := h, toks := tk })
    (fin : Fin (strValues (l.filter fun p => good p.1)) news) : CompRestT prog w A h₀ L m env ct elt x scope cl s S (fun i v => (strValues l).toArray[i]? = some v) Fin (strValues l).toArray.size 0 [] news := by
  have key : ∀ (j i : Nat) (ys : List Value), i + j = l.length → ys = strValues ((l.take i).filter fun p => good p.1) → CompRestT prog w A h₀ L m env ct elt x scope cl s S (fun i v => (strValues l).toArray[i]? = some v) Fin j i ys news := by
    intro j
    induction j with
    | zero =>
      intro i ys hi hy
      have e : i = l.length := by omega
      subst e
      rw [List.take_length] at hy
      subst hy
      exact CompRestT.zero fin
    | succ j ih =>
      intro i ys hi hy
      refine CompRestT.succ ?_
      intro v I oI C oC D m₂ h tk E' hv hC hx F N off ne
      obtain ⟨c, t, hk, rfl⟩ := strValues_at hv
      have hs : l.take (i + 1) = l.take i ++ [(c, t)] := by rw [List.take_add_one, hk]; rfl
      refine wpAny_mono (turn c t I oI C oC D m₂ ys h tk E' (List.mem_of_getElem? hk) hC hx F N off ne) (fun b s₂ hq => ?_) fun _ _ e => e
      cases b with
      | true =>
        simp only [if_true] at hq ⊢
        refine wpAny_mono hq (fun y s₃ hr => ?_) fun _ _ e => e
        obtain ⟨h', tk', e, F', N', rfl, hg⟩ := hr
        refine ⟨h', tk', news, e, F', N', off, hS, ih (i + 1) _ (by omega) ?_⟩
        rw [hy, hs, List.filter_append]
        simp [strValues, hg]
      | false =>
        simp only [Bool.false_eq_true, if_false] at hq ⊢
        obtain ⟨h', tk', e, F', N', hg⟩ := hq
        refine ⟨h', tk', news, e, F', N', off, hS, ih (i + 1) _ (by omega) ?_⟩
        rw [hy, hs, List.filter_append]
        simp [hg]
  have e : (strValues l).toArray.size = l.length := by simp [strValues]
  rw [e]
  exact key l.length 0 [] (by omega) (by simp [strValues])
end
end
end
-- Min2
example : True := by
  w_top off
  k_with_none
  exact trivial
section

section
section
variable {prog : Program} {w : World} {A : Around} {E : Value → Shared → Prop} {s : Shared}
theorem min2 {l : Addr} {v0 v1 : Value} {b : Bool} {Q : Value → Shared → Prop} (hh : A.handled = none) (hl : s.heap.IsList l #[v0, v1])
    (hcmp : ∀ (s' : Shared) (Q E : Value → Shared → Prop), (∀ b o, s.heap.get? b = some o → s'.heap.get? b = some o) → Q (.bool b) s' → wpAny (model prog w) A.in1 (richCompare .Lt v1 v0) Q E s')
    (hQ : ∀ h', (∀ b o, s.heap.get? b = some o → h'.get? b = some o) → Q (if b then v1 else v0) { s with heap := h' }) :
    wpAny (model prog w) A (call (.builtin "min") [.ref l]) Q E s := by
  have hlt : l < s.heap.objs.size := by obtain ⟨o, e, _⟩ := hl; exact Heap.lt_size e
  have hname : (toString "min" ++ toString ".loop" : String) = "min.loop" := by decide
  refine call_function_tree F.kind_min F.plain_min F.entry_min (F.args_min1 _) ?_
  show wpAny _ A.in1 (Builtin.Builtins.bindParams "min" ["key", "default"] 0 ⟨[], []⟩ >>= _) _ _ s
  refine wpAny_bind (wpAny_of_eq (show Builtin.Builtins.bindParams "min" ["key", "default"] 0 ⟨[], []⟩ = pure [none, none] from rfl) ?_)
  refine wpAny_bind (wpAny_pure ?_)
  refine wpAny_bind (wpAny_pyIter_list hl ?_)
  refine wpAny_bind (wpAny_newObj_type ?_)
  rw [hname]
  refine wpAny_pure ⟨plainId_quiet F.plain_min_loop _, codeAny_builtin F.entry_min_loop ?_⟩
  rw [Around.under_plainId F.plain_min_loop _]
  generalize hH1 : s.heap.push { cls := .type "list_iterator", data := .fields #[.ref l, .int 0 0] } = H1
  have hsz : H1.objs.size = s.heap.objs.size + 1 := by rw [← hH1, Heap.size_push]
  have hIS : s.heap.objs.size ≠ H1.objs.size := by rw [hsz]; exact Nat.ne_of_lt (Nat.lt_succ_self _)
  have hlS : l ≠ H1.objs.size := by rw [hsz]; exact Nat.ne_of_lt (Nat.lt_succ_of_lt hlt)
  have hlI : l ≠ s.heap.objs.size := Nat.ne_of_lt hlt
  have up : ∀ b o, s.heap.get? b = some o → b ≠ s.heap.objs.size ∧ b ≠ H1.objs.size := fun b o e => by
    have := Heap.lt_size e
    rw [hsz]; exact ⟨Nat.ne_of_lt this, Nat.ne_of_lt (Nat.lt_succ_of_lt this)⟩
  generalize hH2 : H1.push { cls := .type "list", dict := none, data := .seq ([] : List Value).toArray } = H2
  have k2 : ∀ b o, s.heap.get? b = some o → H2.get? b = some o := fun b o e => by rw [← hH2, ← hH1]; exact Heap.get?_push_of_some _ (Heap.get?_push_of_some _ e)
  have hS : H2.get? H1.objs.size = some { cls := .type "list", dict := none, data := .seq #[] 0, slots := #[] } := by rw [← hH2]; exact Heap.get?_push_size _ rfl
  have hit : H2.IsListIter s.heap.objs.size l 0 := ⟨_, by rw [← hH2, ← hH1]; exact Heap.get?_push_of_some _ (Heap.get?_push_size _ rfl), rfl, rfl⟩
  have hl2 : H2.IsList l #[v0, v1] := hl.at fun o e => k2 _ _ e
  show wpAny _ A.in1 (seqItems? (.ref H1.objs.size) >>= _) _ _ _
  refine wpAny_bind (wpAny_seqItems (s := { s with heap := H2 }) hS rfl ?_)
  show wpAny _ A.in1 (tryCatch (pyNext (.ref s.heap.objs.size)) _ >>= _) _ _ _
  refine wpAny_bind (wpAny_tryCatch (wpAny_pyNext_list_item (s := { s with heap := H2 }) hit hl2 (x := v0) rfl fun h3 hit3 hs3 => ?_))
  have hS3 := hs3.extBut _ _ (Ne.symm hIS) hS
  show wpAny _ A.in1 (updateSeq H1.objs.size (fun _ => #[v0, v0]) >>= _) _ _ _
  refine wpAny_bind ?_
  refine wpAny_updateSeq (s := { s with heap := h3 }) hS3 rfl ?_
  rw [hname]
  have hsb4 := Heap.SameBut.update h3 H1.objs.size (Obj.mapSeq fun _ => #[v0, v0])
  have hS4 := Heap.get?_update_self (Obj.mapSeq fun _ => #[v0, v0]) hS3 rfl
  generalize hH4 : h3.update H1.objs.size (Obj.mapSeq fun _ => #[v0, v0]) = h4 at hsb4 hS4
  have hit4 : h4.IsListIter s.heap.objs.size l 1 := hit3.extBut hsb4.extBut hIS
  have k4 : ∀ b o, s.heap.get? b = some o → h4.get? b = some o := fun b o e => hsb4.extBut _ _ (up b o e).2 (hs3.extBut _ _ (up b o e).1 (k2 b o e))
  have hl4 : h4.IsList l #[v0, v1] := hl.at fun o e => k4 _ _ e
  refine wpAny_pure ⟨plainId_quiet F.plain_min_loop _, codeAny_builtin F.entry_min_loop ?_⟩
  rw [Around.under_plainId F.plain_min_loop _]
  show wpAny _ A.in1 (seqItems? (.ref H1.objs.size) >>= _) _ _ _
  refine wpAny_bind (wpAny_seqItems (s := { s with heap := h4 }) hS4 rfl ?_)
  show wpAny _ A.in1 (tryCatch (pyNext (.ref s.heap.objs.size)) _ >>= _) _ _ _
  refine wpAny_bind (wpAny_tryCatch (wpAny_pyNext_list_item (s := { s with heap := h4 }) hit4 hl4 (x := v1) rfl fun h5 hit5 hs5 => ?_))
  have hS5 := hs5.extBut _ _ (Ne.symm hIS) hS4
  have k5 : ∀ b o, s.heap.get? b = some o → h5.get? b = some o := fun b o e => hs5.extBut _ _ (up b o e).1 (k4 b o e)
  show wpAny _ A.in1 (tryCatch (holding [v1, v1] (richCompare .Lt v1 v0 >>= _)) _ >>= _) _ _ _
  refine wpAny_bind (wpAny_tryCatch (wpAny_holding (wpAny_bind (hcmp { s with heap := h5 } _ _ k5 ?_))))
  refine wpAny_bind (wpAny_holding (wpAny_truthy_bool ?_))
  refine wpAny_bind (wpAny_letGo (wpAny_pure ?_))
  have last : ∀ (h6 : Heap) (v : Value) (c : Nat), (∀ b o, s.heap.get? b = some o → h6.get? b = some o) → h6.IsListIter s.heap.objs.size l 2 → h6.get? H1.objs.size = some { cls := .type "list", dict := none, data := .seq #[v, v] c, slots := #[] } → v = (if b then v1 else v0) →
      codeAny (model prog w) A (.builtin "min.loop" ⟨[.ref s.heap.objs.size, .none, .ref H1.objs.size], []⟩) (fun r s' => match r with | .ok (.ret v) => Q v s' | .ok _ => False | .error e => E e s') { s with heap := h6 } := by
    intro h6 v c k6 hit6 hS6 hv
    refine codeAny_builtin F.entry_min_loop ?_
    rw [Around.under_plainId F.plain_min_loop _]
    show wpAny _ A.in1 (seqItems? (.ref H1.objs.size) >>= _) _ _ _
    refine wpAny_bind (wpAny_seqItems (s := { s with heap := h6 }) hS6 rfl ?_)
    show wpAny _ A.in1 (tryCatch (pyNext (.ref s.heap.objs.size)) _ >>= _) _ _ _
    refine wpAny_bind (wpAny_tryCatch (wpAny_pyNext_list_end (s := { s with heap := h6 }) hh hit6 (hl.at fun o e => k6 _ _ e) rfl fun h7 he7 => ?_))
    have hS7 := he7 _ _ (Ne.symm hIS) hS6
    show wpAny _ A.in1 (updateSeq H1.objs.size (fun _ => #[]) >>= _) _ _ _
    refine wpAny_bind ?_
    refine wpAny_updateSeq (s := { s with heap := h7 }) hS7 rfl (wpAny_bind (wpAny_letGo (wpAny_pure ?_)))
    subst hv
    exact hQ _ fun b o e => (Heap.SameBut.update h7 H1.objs.size _).extBut _ _ (up b o e).2 (he7 _ _ (up b o e).1 (k6 b o e))
  cases hb : b with
  | true =>
    simp only [if_true]
    refine wpAny_bind ?_
    refine wpAny_updateSeq (s := { s with heap := h5 }) hS5 rfl (wpAny_bind (wpAny_letGo ?_))
    rw [hname]
    have hsb6 := Heap.SameBut.update h5 H1.objs.size (Obj.mapSeq fun _ => #[v1, v1])
    exact wpAny_pure ⟨plainId_quiet F.plain_min_loop _, last _ v1 _ (fun b o e => hsb6.extBut _ _ (up b o e).2 (k5 b o e)) (hit5.extBut hsb6.extBut hIS) (Heap.get?_update_self _ hS5 rfl) (by rw [hb]; rfl)⟩
  | false =>
    simp only [Bool.false_eq_true, if_false]
    refine wpAny_bind (wpAny_letGo ?_)
    rw [hname]
    exact wpAny_pure ⟨plainId_quiet F.plain_min_loop _, last _ v0 _ k5 hit5 hS5 (by rw [hb]; rfl)⟩
theorem max2 {l : Addr} {v0 v1 : Value} {b : Bool} {Q : Value → Shared → Prop} (hh : A.handled = none) (hl : s.heap.IsList l #[v0, v1])
    (hcmp : ∀ (s' : Shared) (Q E : Value → Shared → Prop), (∀ b o, s.heap.get? b = some o → s'.heap.get? b = some o) → Q (.bool b) s' → wpAny (model prog w) A.in1 (richCompare .Gt v1 v0) Q E s')
    (hQ : ∀ h', (∀ b o, s.heap.get? b = some o → h'.get? b = some o) → Q (if b then v1 else v0) { s with heap := h' }) :
    wpAny (model prog w) A (call (.builtin "max") [.ref l]) Q E s := by
  have hlt : l < s.heap.objs.size := by obtain ⟨o, e, _⟩ := hl; exact Heap.lt_size e
  have hname : (toString "max" ++ toString ".loop" : String) = "max.loop" := by decide
  refine call_function_tree F.kind_max F.plain_max F.entry_max (F.args_max1 _) ?_
  show wpAny _ A.in1 (Builtin.Builtins.bindParams "max" ["key", "default"] 0 ⟨[], []⟩ >>= _) _ _ s
  refine wpAny_bind (wpAny_of_eq (show Builtin.Builtins.bindParams "max" ["key", "default"] 0 ⟨[], []⟩ = pure [none, none] from rfl) ?_)
  refine wpAny_bind (wpAny_pure ?_)
  refine wpAny_bind (wpAny_pyIter_list hl ?_)
  refine wpAny_bind (wpAny_newObj_type ?_)
  rw [hname]
  refine wpAny_pure ⟨plainId_quiet F.plain_max_loop _, codeAny_builtin F.entry_max_loop ?_⟩
  rw [Around.under_plainId F.plain_max_loop _]
  generalize hH1 : s.heap.push { cls := .type "list_iterator", data := .fields #[.ref l, .int 0 0] } = H1
  have hsz : H1.objs.size = s.heap.objs.size + 1 := by rw [← hH1, Heap.size_push]
  have hIS : s.heap.objs.size ≠ H1.objs.size := by rw [hsz]; exact Nat.ne_of_lt (Nat.lt_succ_self _)
  have hlS : l ≠ H1.objs.size := by rw [hsz]; exact Nat.ne_of_lt (Nat.lt_succ_of_lt hlt)
  have hlI : l ≠ s.heap.objs.size := Nat.ne_of_lt hlt
  have up : ∀ b o, s.heap.get? b = some o → b ≠ s.heap.objs.size ∧ b ≠ H1.objs.size := fun b o e => by
    have := Heap.lt_size e
    rw [hsz]; exact ⟨Nat.ne_of_lt this, Nat.ne_of_lt (Nat.lt_succ_of_lt this)⟩
  generalize hH2 : H1.push { cls := .type "list", dict := none, data := .seq ([] : List Value).toArray } = H2
  have k2 : ∀ b o, s.heap.get? b = some o → H2.get? b = some o := fun b o e => by rw [← hH2, ← hH1]; exact Heap.get?_push_of_some _ (Heap.get?_push_of_some _ e)
  have hS : H2.get? H1.objs.size = some { cls := .type "list", dict := none, data := .seq #[] 0, slots := #[] } := by rw [← hH2]; exact Heap.get?_push_size _ rfl
  have hit : H2.IsListIter s.heap.objs.size l 0 := ⟨_, by rw [← hH2, ← hH1]; exact Heap.get?_push_of_some _ (Heap.get?_push_size _ rfl), rfl, rfl⟩
  have hl2 : H2.IsList l #[v0, v1] := hl.at fun o e => k2 _ _ e
  show wpAny _ A.in1 (seqItems? (.ref H1.objs.size) >>= _) _ _ _
  refine wpAny_bind (wpAny_seqItems (s := { s with heap := H2 }) hS rfl ?_)
  show wpAny _ A.in1 (tryCatch (pyNext (.ref s.heap.objs.size)) _ >>= _) _ _ _
  refine wpAny_bind (wpAny_tryCatch (wpAny_pyNext_list_item (s := { s with heap := H2 }) hit hl2 (x := v0) rfl fun h3 hit3 hs3 => ?_))
  have hS3 := hs3.extBut _ _ (Ne.symm hIS) hS
  show wpAny _ A.in1 (updateSeq H1.objs.size (fun _ => #[v0, v0]) >>= _) _ _ _
  refine wpAny_bind ?_
  refine wpAny_updateSeq (s := { s with heap := h3 }) hS3 rfl ?_
  rw [hname]
  have hsb4 := Heap.SameBut.update h3 H1.objs.size (Obj.mapSeq fun _ => #[v0, v0])
  have hS4 := Heap.get?_update_self (Obj.mapSeq fun _ => #[v0, v0]) hS3 rfl
  generalize hH4 : h3.update H1.objs.size (Obj.mapSeq fun _ => #[v0, v0]) = h4 at hsb4 hS4
  have hit4 : h4.IsListIter s.heap.objs.size l 1 := hit3.extBut hsb4.extBut hIS
  have k4 : ∀ b o, s.heap.get? b = some o → h4.get? b = some o := fun b o e => hsb4.extBut _ _ (up b o e).2 (hs3.extBut _ _ (up b o e).1 (k2 b o e))
  have hl4 : h4.IsList l #[v0, v1] := hl.at fun o e => k4 _ _ e
  refine wpAny_pure ⟨plainId_quiet F.plain_max_loop _, codeAny_builtin F.entry_max_loop ?_⟩
  rw [Around.under_plainId F.plain_max_loop _]
  show wpAny _ A.in1 (seqItems? (.ref H1.objs.size) >>= _) _ _ _
  refine wpAny_bind (wpAny_seqItems (s := { s with heap := h4 }) hS4 rfl ?_)
  show wpAny _ A.in1 (tryCatch (pyNext (.ref s.heap.objs.size)) _ >>= _) _ _ _
  refine wpAny_bind (wpAny_tryCatch (wpAny_pyNext_list_item (s := { s with heap := h4 }) hit4 hl4 (x := v1) rfl fun h5 hit5 hs5 => ?_))
  have hS5 := hs5.extBut _ _ (Ne.symm hIS) hS4
  have k5 : ∀ b o, s.heap.get? b = some o → h5.get? b = some o := fun b o e => hs5.extBut _ _ (up b o e).1 (k4 b o e)
  show wpAny _ A.in1 (tryCatch (holding [v1, v1] (richCompare .Gt v1 v0 >>= _)) _ >>= _) _ _ _
  refine wpAny_bind (wpAny_tryCatch (wpAny_holding (wpAny_bind (hcmp { s with heap := h5 } _ _ k5 ?_))))
  refine wpAny_bind (wpAny_holding (wpAny_truthy_bool ?_))
  refine wpAny_bind (wpAny_letGo (wpAny_pure ?_))
  have last : ∀ (h6 : Heap) (v : Value) (c : Nat), (∀ b o, s.heap.get? b = some o → h6.get? b = some o) → h6.IsListIter s.heap.objs.size l 2 → h6.get? H1.objs.size = some { cls := .type "list", dict := none, data := .seq #[v, v] c, slots := #[] } → v = (if b then v1 else v0) →
      codeAny (model prog w) A (.builtin "max.loop" ⟨[.ref s.heap.objs.size, .none, .ref H1.objs.size], []⟩) (fun r s' => match r with | .ok (.ret v) => Q v s' | .ok _ => False | .error e => E e s') { s with heap := h6 } := by
    intro h6 v c k6 hit6 hS6 hv
    refine codeAny_builtin F.entry_max_loop ?_
    rw [Around.under_plainId F.plain_max_loop _]
    show wpAny _ A.in1 (seqItems? (.ref H1.objs.size) >>= _) _ _ _
    refine wpAny_bind (wpAny_seqItems (s := { s with heap := h6 }) hS6 rfl ?_)
    show wpAny _ A.in1 (tryCatch (pyNext (.ref s.heap.objs.size)) _ >>= _) _ _ _
    refine wpAny_bind (wpAny_tryCatch (wpAny_pyNext_list_end (s := { s with heap := h6 }) hh hit6 (hl.at fun o e => k6 _ _ e) rfl fun h7 he7 => ?_))
    have hS7 := he7 _ _ (Ne.symm hIS) hS6
    show wpAny _ A.in1 (updateSeq H1.objs.size (fun _ => #[]) >>= _) _ _ _
    refine wpAny_bind ?_
    refine wpAny_updateSeq (s := { s with heap := h7 }) hS7 rfl (wpAny_bind (wpAny_letGo (wpAny_pure ?_)))
    subst hv
    exact hQ _ fun b o e => (Heap.SameBut.update h7 H1.objs.size _).extBut _ _ (up b o e).2 (he7 _ _ (up b o e).1 (k6 b o e))
  cases hb : b with
  | true =>
    simp only [if_true]
    refine wpAny_bind ?_
    refine wpAny_updateSeq (s := { s with heap := h5 }) hS5 rfl (wpAny_bind (wpAny_letGo ?_))
    rw [hname]
    have hsb6 := Heap.SameBut.update h5 H1.objs.size (Obj.mapSeq fun _ => #[v1, v1])
    exact wpAny_pure ⟨plainId_quiet F.plain_max_loop _, last _ v1 _ (fun b o e => hsb6.extBut _ _ (up b o e).2 (k5 b o e)) (hit5.extBut hsb6.extBut hIS) (Heap.get?_update_self _ hS5 rfl) (by rw [hb]; rfl)⟩
  | false =>
    simp only [Bool.false_eq_true, if_false]
    refine wpAny_bind (wpAny_letGo ?_)
    rw [hname]
    exact wpAny_pure ⟨plainId_quiet F.plain_max_loop _, last _ v0 _ k5 hit5 hS5 (by rw [hb]; rfl)⟩
end
end
end
-- MinL
example : True := by
  w_top off
  k_with_none
  exact trivial
section

section
section
variable {prog : Program} {w : World} {A : Around} {E : Value → Shared → Prop} {s : Shared} {h₀ : Heap} {L : Addr} {m : Str → Option Value} {news : List (Addr × Obj)}
theorem minL {D a b : Addr} {xs ys : List (Str × Tok)} {n1 n2 nD : Nat} {Q : Value → Shared → Prop} (F : Fr h₀ L s.heap m) (N : News h₀ L s.heap news) (hh : A.handled = none) (hu : A.in1.units < cLine)
    (hD : (D, ({ cls := .type "list", data := .seq #[.ref a, .ref b] nD } : Obj)) ∈ news) (ha : (a, strsO xs n1) ∈ news) (hb : (b, strsO ys n2) ∈ news)
    (h : ∀ ax zs n h', zs.map (·.1) = (if ltL (ys.map (·.1)) (xs.map (·.1)) then ys.map (·.1) else xs.map (·.1)) → Fr h₀ L h' m → News h₀ L h' ((ax, strsO zs n) :: news) → Q (.ref ax) { s with heap := h' }) :
    wpAny (model prog w) A (call (.builtin "min") [.ref D]) Q E s := by
  refine min2 (b := ltL (ys.map (·.1)) (xs.map (·.1))) hh ⟨_, (N _ hD).1, rfl, _, rfl⟩ (fun s' Q E k hq => rc_lt (k _ _ (N _ hb).1) (k _ _ (N _ ha).1) hu hq) fun h' k => ?_
  have N' := N.grown k
  cases e : ltL (ys.map (·.1)) (xs.map (·.1)) with
  | true => exact h b ys n2 h' (by rw [e]; rfl) (F.keeps k) fun p hp => by rcases List.mem_cons.mp hp with rfl | hp; exact N' _ hb; exact N' _ hp
  | false => exact h a xs n1 h' (by rw [e]; rfl) (F.keeps k) fun p hp => by rcases List.mem_cons.mp hp with rfl | hp; exact N' _ ha; exact N' _ hp
theorem maxL {D a b : Addr} {xs ys : List (Str × Tok)} {n1 n2 nD : Nat} {Q : Value → Shared → Prop} (F : Fr h₀ L s.heap m) (N : News h₀ L s.heap news) (hh : A.handled = none) (hu : A.in1.units < cLine)
    (hD : (D, ({ cls := .type "list", data := .seq #[.ref a, .ref b] nD } : Obj)) ∈ news) (ha : (a, strsO xs n1) ∈ news) (hb : (b, strsO ys n2) ∈ news)
    (h : ∀ ax zs n h', zs.map (·.1) = (if ltL (xs.map (·.1)) (ys.map (·.1)) then ys.map (·.1) else xs.map (·.1)) → Fr h₀ L h' m → News h₀ L h' ((ax, strsO zs n) :: news) → Q (.ref ax) { s with heap := h' }) :
    wpAny (model prog w) A (call (.builtin "max") [.ref D]) Q E s := by
  refine max2 (b := ltL (xs.map (·.1)) (ys.map (·.1))) hh ⟨_, (N _ hD).1, rfl, _, rfl⟩ (fun s' Q E k hq => rc_gt (k _ _ (N _ hb).1) (k _ _ (N _ ha).1) hu hq) fun h' k => ?_
  have N' := N.grown k
  cases e : ltL (xs.map (·.1)) (ys.map (·.1)) with
  | true => exact h b ys n2 h' (by rw [e]; rfl) (F.keeps k) fun p hp => by rcases List.mem_cons.mp hp with rfl | hp; exact N' _ hb; exact N' _ hp
  | false => exact h a xs n1 h' (by rw [e]; rfl) (F.keeps k) fun p hp => by rcases List.mem_cons.mp hp with rfl | hp; exact N' _ ha; exact N' _ hp
end
end
end
-- Enm2
example : True := by
  w_top off
  k_with_none
  exact trivial
section

section
section
variable {prog : Program} {w : World} {A : Around} {E : Value → Shared → Prop} {s : Shared} {env : Env} {h₀ : Heap} {body : List Stmt} {Q : Flow → Shared → Prop}
noncomputable def Ahead (zs ys : List Str) : Prop := ∀ k, zs.take k = ys.take k → k < zs.length → k < ys.length
noncomputable def EnumJ (news : List (Addr × Obj)) (m₀ : Str → Option Value) (i c x y : Str) (m' : Str → Option Value) (n' : List (Addr × Obj)) : Prop := SubL news n' ∧ ∃ vi vc, m' = bindM (bindM m₀ i vi) c vc ∧ x = y
theorem EnumJ.intro {news n' : List (Addr × Obj)} {m₀ : Str → Option Value} {i c x y : Str} {vi vc : Option Value} {v0 v1 : Value} (h : SubL news n') (e : (x != y) = false) :
    EnumJ news m₀ i c x y (fun z => if z = c then some v1 else if z = i then some v0 else bindM (bindM m₀ i vi) c vc z) n' := ⟨h, _, _, bind2_find, by simpa using e⟩
theorem enumTwo {i c o : Str} {elts : List Expr} {n : Nat} {pos : Pos} {l l2 : Addr} {zs ys : List (Str × Tok)} {nn n2 : Nat} {m₀ : Str → Option Value} {news : List (Addr × Obj)}
    (hh : A.handled = none) (F : Fr h₀ env.locals s.heap m₀) (N : News h₀ env.locals s.heap news) (hm : (l, strsO zs nn) ∈ news) (_ho : m₀ o = some (.ref l2)) (hm2 : (l2, strsO ys n2) ∈ news)
    (ha : Ahead (zs.map (·.1)) (ys.map (·.1))) (hz : ∀ p ∈ zs, p.1.length < 1000) (hy : ∀ p ∈ ys, p.1.length < 1000) (hzl : zs.length < 2000) (hyl : ys.length < 2000)
    (step : ∀ I : Addr, (∀ p ∈ news, p.1 < I) → ∀ (k : Nat) (x y : Str) (tx ty : Tok), zs[k]? = some (x, tx) → ys[k]? = some (y, ty) → (k : Int) < 2000 → x.length < 1000 → y.length < 1000 → (zs.map (·.1)).take k = (ys.map (·.1)).take k →
      ∀ vi vc T t h tk oe ol, IsTup h T #[.int (k : Int) t, .str x tx] → Fr h₀ env.locals h (bindM (bindM m₀ i vi) c vc) → oe.cls = .type "enumerate" → ol.cls = .type "list_iterator" →
      News h₀ env.locals h ((I + 1, oe) :: (I, ol) :: news) →
      wpAny (model prog w) A (assign (.Tuple elts n pos) env (.ref T)) (fun _ s₂ => wpAny (model prog w) A (execs body env)
        (UnrPostW h₀ env.locals { s with heap := h, toks := tk } [(I + 1, oe), (I, ol)] (fun m' n' => SubL [(l, strsO zs nn)] n' ∧ EnumJ news m₀ i c x y m' n') Q) E s₂) E { s with heap := h, toks := tk })
    (fin : (zs.map (·.1)).take zs.length = (ys.map (·.1)).take zs.length → ∀ vi vc h tk, Fr h₀ env.locals h (bindM (bindM m₀ i vi) c vc) → News h₀ env.locals h news → Q .next { s with heap := h, toks := tk }) :
    wpAny (model prog w) A (call (.type "enumerate") [.ref l]) (fun xv s₁ => wpAny (model prog w) A (pyIter xv) (fun it s₂ => TurnsAt prog w A h₀ env (.Tuple elts n pos) body Q E it s₂) E s₁) E s := by
  refine enumInv (i := i) (c := c) (fun k => (zs.map (·.1)).take k = (ys.map (·.1)).take k) hh F N hm rfl rfl rfl ?_ ?_
  · intro I hI k v hv hP vi vc T t h tk oe ol hT F₁ he hl N₁
    have hv' : (zs.map fun p => Value.str p.1 p.2)[k]? = some v := hv
    rw [List.getElem?_map] at hv'
    obtain ⟨⟨x, tx⟩, hx, rfl⟩ := Option.map_eq_some_iff.mp hv'
    have hkz : k < zs.length := (List.getElem?_eq_some_iff.mp hx).1
    have hky : k < ys.length := by simpa using ha k hP (by simpa using hkz)
    obtain ⟨⟨y, ty⟩, hy'⟩ : ∃ p, ys[k]? = some p := ⟨_, List.getElem?_eq_getElem hky⟩
    refine wpAny_mono (step I hI k x y tx ty hx hy' (by omega) (hz _ (List.mem_of_getElem? hx)) (hy _ (List.mem_of_getElem? hy')) hP vi vc T t h tk oe ol hT F₁ he hl N₁) (fun _ s₂ h₂ => wpAny_mono h₂ (fun f s₃ p => ?_) fun _ _ e => e) fun _ _ e => e
    have go : ∀ s₃, UnrEndW h₀ env.locals { s with heap := h, toks := tk } [(I + 1, oe), (I, ol)] (fun m' n' => SubL [(l, strsO zs nn)] n' ∧ EnumJ news m₀ i c x y m' n') s₃ →
        UnrEndW h₀ env.locals { s with heap := h, toks := tk } [(I + 1, oe), (I, ol)] (fun m' n' => SubL [(l, strsO zs nn)] n' ∧ SubL news n' ∧ ∃ vi vc, m' = bindM (bindM m₀ i vi) c vc ∧ (zs.map (·.1)).take (k + 1) = (ys.map (·.1)).take (k + 1)) s₃ := by
      rintro s₃ ⟨h', tk', m', n', e, F', N', ho, hk', hs', vi', vc', hm', exy⟩
      refine ⟨h', tk', m', n', e, F', N', ho, hk', hs', vi', vc', hm', ?_⟩
      have hx1 : (zs.map (·.1))[k]? = some x := by rw [List.getElem?_map, hx]; rfl
      have hy1 : (ys.map (·.1))[k]? = some y := by rw [List.getElem?_map, hy']; rfl
      rw [List.take_add_one, List.take_add_one, hP, hx1, hy1, exy]
    cases f with
    | ret v => exact p
    | brk => exact p
    | next => exact go _ p
    | cont => exact go _ p
  · intro hP vi vc h tk F₁ N₁
    refine fin ?_ vi vc h tk F₁ N₁
    simpa [strValues] using hP
end
noncomputable def preF : List Str → List Str → List Str
  | x :: xs, y :: ys => if x = y then x :: preF xs ys else []
  | _, _ => []
theorem preF_stop : ∀ {xs ys : List Str} {k : Nat} {x y : Str}, xs.take k = ys.take k → xs[k]? = some x → ys[k]? = some y → x ≠ y → preF xs ys = xs.take k
  | [], _, _, _, _, _, h, _, _ => by simp at h
  | _ :: _, [], _, _, _, _, _, h, _ => by simp at h
  | a :: xs, b :: ys, 0, x, y, _, h1, h2, h3 => by
    simp at h1 h2
    subst h1; subst h2
    simp [preF, h3]
  | a :: xs, b :: ys, k + 1, x, y, e, h1, h2, h3 => by
    simp at e h1 h2
    simp [preF, e.1, preF_stop e.2 h1 h2 h3]
theorem preF_all : ∀ {xs ys : List Str}, xs.take xs.length = ys.take xs.length → preF xs ys = xs
  | [], ys, _ => by cases ys <;> rfl
  | _ :: _, [], e => by simp at e
  | a :: xs, b :: ys, e => by
    have e1 : a = b ∧ xs = ys.take xs.length := by simpa using e
    have := preF_all (xs := xs) (ys := ys) (by rw [List.take_length]; exact e1.2)
    simp [preF, e1.1, this]
theorem ltL_take : ∀ (xs : List Str) (k : Nat), ltL xs (xs.take k) = false
  | [], k => by simp [ltL]
  | x :: xs, 0 => by simp [ltL]
  | x :: xs, k + 1 => by simp [ltL, ltL_take xs k]
theorem ahead_lt {zs ys : List Str} (h : ltL zs ys = true) : Ahead zs ys := by
  intro k e hk
  refine Decidable.byContradiction fun hn => ?_
  rw [List.take_of_length_le (l := ys) (by omega)] at e
  rw [← e, ltL_take] at h
  cases h
theorem ahead_of {a b zs ys : List Str} (h1 : zs = if ltL b a then b else a) (h2 : ys = if ltL a b then b else a) : Ahead zs ys := by
  have same : ∀ x : List Str, Ahead x x := fun x k _ hk => hk
  cases e1 : ltL b a <;> cases e2 : ltL a b <;> simp [e1, e2] at h1 h2 <;> subst h1 <;> subst h2
  · exact same _
  · exact ahead_lt e2
  · exact ahead_lt e1
  · exact same _
end
end
-- Enm3
example : True := by
  w_top off
  k_with_none
  exact trivial
section

section
section
variable {prog : Program} {w : World} {A : Around} {E : Value → Shared → Prop} {s : Shared} {h₀ : Heap} {L : Addr} {m : Str → Option Value} {news : List (Addr × Obj)} {Q : Value → Shared → Prop}
theorem item_own {value slice : Expr} {l : Addr} {zs : List (Str × Tok)} {n k : Nat} {u tx : Tok} {x : Str} (N : News h₀ L s.heap news) (hm : (l, strsO zs n) ∈ news) (hx : zs[k]? = some (x, tx)) (hk : (k : Int) < 2000) (h : Q (.str x tx) s)
    (hs : subscripted slice false (.ref l) (.int k u) = operate [.ref l, .int k u] (getItem (.ref l) (.int k u)) := by with_unfolding_all rfl) :
    wpAny (model prog w) A (subscriptTail value slice (.ref l) (.int k u)) Q E s := by
  have hl : s.heap.IsList l (strValues zs).toArray := ⟨_, (N _ hm).1, rfl, n, rfl⟩
  refine tail_any hl.typeIs slot_list_getitem.lookup (wpAny_getItem_list hl (Int.natCast_nonneg k) (by omega) (x := .str x tx) ?_ h) hs
  simp only [Int.toNat_natCast, strValues, List.getElem?_toArray, List.getElem?_map, hx, Option.map_some]
theorem slice_own {value slice : Expr} {l : Addr} {zs : List (Str × Tok)} {n k : Nat} {u : Tok} (F : Fr h₀ L s.heap m) (N : News h₀ L s.heap news) (hm : (l, strsO zs n) ∈ news) (hk : (k : Int) < 2000) (hz : zs.length < 2000)
    (h : ∀ D h', Fr h₀ L h' m → News h₀ L h' ((D, strsO (zs.take k) 0) :: news) → (∀ p ∈ news, p.1 < D) → Q (.ref D) { s with heap := h' })
    (hs : subscripted slice false (.ref l) (.ref s.heap.objs.size) = operate [.ref s.heap.objs.size, .ref l] (getItem (.ref l) (.ref s.heap.objs.size))) (ht : ∀ r, letTemporaryGo value (.ref l) r = pure ()) :
    wpAny (model prog w) A (subscriptTail value slice (.ref l) (.ref s.heap.objs.size)) Q E { s with heap := s.heap.push { cls := .type "slice", data := .fields #[.none, .int k u, .none] } } := by
  have hl : s.heap.IsList l (strValues zs).toArray := ⟨_, (N _ hm).1, rfl, n, rfl⟩
  refine kms_slice_lit F N hl .none (.int k u) (zs := strValues (zs.take k)) ?_ h hs ht (by rw [sizeLine_eq, List.size_toArray, strValues, List.length_map]; omega)
  have h0 : ¬ ((k : Int) < 0) := by omega
  simp only [kms_pick, kms_lo, kms_hi, if_neg h0, List.drop_zero, Nat.sub_zero, Int.toNat_natCast, strValues, List.map_take, List.length_map]
  by_cases hle : k ≤ zs.length
  · rw [Nat.min_eq_left hle]
  · rw [Nat.min_eq_right (by omega), List.take_of_length_le (by simp), List.take_of_length_le (by simp; omega)]
theorem sum_short : ∀ {zs : List (Str × Tok)}, (∀ p ∈ zs, p.1.length < 1000) → ((zs.map (·.1)).map (·.length)).sum ≤ zs.length * 1000
  | [], _ => Nat.le_refl _
  | p :: r, h => by
    have h1 := h p (.head _)
    have h2 := sum_short (zs := r) fun q hq => h q (.tail _ hq)
    simp only [List.map_cons, List.sum_cons, List.length_cons] at h2 ⊢
    omega
theorem join_short (x : Str) : ∀ zs : List Str, (Txt.join x zs).length ≤ (zs.map (·.length)).sum + zs.length * x.length := by
  intro zs
  unfold Txt.join
  have e := PySem.size_glued x zs
  show (Builtin.Str.glued x zs).length ≤ _
  rw [e]
  exact Nat.add_le_add_left (Nat.mul_le_mul_right _ (Nat.sub_le _ _)) _
theorem join_own {l : Addr} {zs : List (Str × Tok)} {n : Nat} {x : Str} {t : Tok} (N : News h₀ L s.heap news) (hm : (l, strsO zs n) ∈ news) (hx : x.length ≤ 64) (hz : ∀ p ∈ zs, p.1.length < 1000) (hl : zs.length < 2000)
    (h : ∀ t' k, (Txt.join x (zs.map (·.1))).length < 3000000 → Q (.str (Txt.join x (zs.map (·.1))) t') { s with toks := k }) : wpAny (model prog w) A (call (.builtin "str.join") [.str x t, .ref l]) Q E s := by
  have h1 := sum_short hz
  have hj := join_short x (zs.map (·.1))
  have h2 : zs.length * x.length ≤ zs.length * 64 := Nat.mul_le_mul_left _ hx
  refine join_listC ⟨_, (N _ hm).1, rfl, n, rfl⟩ (strsAre_of_values zs) hx (by simp only [List.length_map]; omega) fun t' k => h t' k ?_
  simp only [List.length_map] at hj
  omega
theorem join_T {l : Addr} {zs : List (Str × Tok)} {n b : Nat} {x : Str} {t : Tok} (hb : LB b s.toks) (N : News h₀ L s.heap news) (hm : (l, strsO zs n) ∈ news) (hx : x.length ≤ 64) (hz : ∀ p ∈ zs, p.1.length < 1000) (hl : zs.length < 2000)
    (h : ∀ t' k, LB b k → (Txt.join x (zs.map (·.1))).length < 3000000 → Q (.str (Txt.join x (zs.map (·.1))) t') { s with toks := k }) : wpAny (model prog w) A (call (.builtin "str.join") [.str x t, .ref l]) Q E s :=
  toksB hb (join_own N hm hx hz hl fun t' k j hk => h t' k hk j)
end
end
end
-- T4
example : True := by
  w_top off
  k_with_none
  k_with "lbt" => ((try dsimp only); (first | assumption | (apply LB.s1; first | assumption | (apply LB.s1; first | assumption | (apply LB.s1; first | assumption | (apply LB.s1; assumption))))))
  k_with "m_clean" => ((repeat (first | (rename News _ _ _ _ => zq9; clear zq9) | (rename Fr _ _ _ _ => zq9; clear zq9))); (try skip))
  k_with "m_enterC" => (refine' enterC (g := _) (news := []) (fun _ _ e => e) (Nat.le_refl _) (fun _ hp => nomatch hp) ?k3zq ?k5zq ?k6zq ?k7zq ?k8zq ?k9zq ?kBzq ?kDzq ?_ ?c2zq ?c3zq ?c4zq; (case k3zq => k_asm); (case k5zq => k_asm); (case k6zq => k_is); (case k7zq => k_is); (case k8zq => (walk_at "m_room")); (case k9zq => exact BindsTo.of_eq rfl); (case kBzq => exact rfl); (case kDzq => decide +kernel); (case c2zq => exact rfl); (case c3zq => exact rfl); (case c4zq => exact rfl); k_whole; intro L' h' tk' cells' lb' F' N' Y' _ Qt' Et' hq' hE'; k_cells Y'; (try simp only [List.cons_append, List.nil_append] at N'); (try dsimp only); (try k_fold))
  k_with "m_lt" => (refine ltN ?_; omega)
  k_with "m_lts" => (first | exact List.forall_mem_nil _ | (refine' List.forall_mem_cons.mpr ⟨?azq, ?bzq⟩; (case azq => (refine ltN ?_; (try dsimp only); omega)); (case bzq => (walk_at "m_lts"))))
  k_with "m_room" => (first | exact rm0 hdp | exact rm1 hdp (by decide) | exact rm2 hdp | ((try simp only [depth_under_make, depth_under_kw, depth_in1, depth_deeper, depth_caller] at *); (try dsimp only [AR] at *); omega) | ((simp only [recursionLimit, depth_under_make, depth_under_kw, depth_in1, depth_deeper, depth_caller] at *); (try dsimp only [AR] at *); omega) | decide)
  k_with "m_units" => (first | exact un1 hun (by decide) | exact un2 hun (by decide) | exact un3 hun (by decide) | exact un4 hun | (have hcL9 := cLine_is; (try simp only [units_in1, units_deeper, Around.mark_units, units_caller] at *); (try dsimp only [AR] at *); omega))
  k_with "p_end" => (refine hret _ _ _ (Fr.keep (by assumption)) ?_; (walk_at "m_clean"))
  k_with "p_open" => (dsimp only [Pure, PG, KK, LL]; k_fill; intro dp un gd outer base s Q E B X T hpre hdp hun hret; refine wpAny_call ?_)
  exact trivial
section
set_option maxHeartbeats 8000000
section
variable (w : World) (mean : ExcName → Option Value) (mg mb : Str → Option Value)
example : True := by
  k_with "Post" => (k_here; (rename Then _ _ => hq'); refine hq' _ _ ?_; clear hq')
  exact trivial
theorem off1_lt {D : Addr} : ∀ {l : List (Addr × Obj)}, (∀ p ∈ l, p.1 < D) → LCg.Off1 D l
  | [], _ => trivial
  | p :: _, h => ⟨Nat.ne_of_lt (h p (.head _)), off1_lt fun q hq => h q (.tail _ hq)⟩
theorem off_grow {I C D x1 : Addr} {oI oC oD o : Obj} {r : List (Addr × Obj)} (o1 : LCg.Off1 x1 ((I, oI) :: (C, oC) :: (D, oD) :: r)) (off : LCg.Off3 I C D r) : LCg.Off3 I C D ((x1, o) :: r) :=
  ⟨⟨Ne.symm o1.1, Ne.symm o1.2.1, Ne.symm o1.2.2.1⟩, off⟩
section
variable {h₀ : Heap} {L I C D : Addr} {m : Str → Option Value} {s₁ : Shared} {oI oC oD : Obj} {S : List (Addr × Obj) → Prop} {rest : Value → List (Addr × Obj) → Prop} {y : Value} {h' : Heap} {tk : Nat}
theorem CompEnd.zero {r : List (Addr × Obj)} (F : Fr h₀ L h' m) (N : News h₀ L h' ((I, oI) :: (C, oC) :: (D, oD) :: r)) (off : LCg.Off3 I C D r) (hS : S r) (q : rest y r) :
    LCg.CompEnd h₀ L m s₁ I oI C oC D oD S rest y { s₁ with heap := h', toks := tk } := ⟨h', tk, r, rfl, F, N, off, hS, q⟩
theorem CompEnd.one {x1 : Addr} {o1 : Obj} {r : List (Addr × Obj)}
    (F : Fr h₀ L h' m) (N : News h₀ L h' ((x1, o1) :: (I, oI) :: (C, oC) :: (D, oD) :: r)) (o : LCg.Off1 x1 ((I, oI) :: (C, oC) :: (D, oD) :: r)) (off : LCg.Off3 I C D r) (hS : S ((x1, o1) :: r)) (q : rest y ((x1, o1) :: r)) :
    LCg.CompEnd h₀ L m s₁ I oI C oC D oD S rest y { s₁ with heap := h', toks := tk } := ⟨h', tk, (x1, o1) :: r, rfl, F, fun p hp => N p (by
      rcases List.mem_cons.mp hp with rfl | hp
      · exact .tail _ (.head _)
      · rcases List.mem_cons.mp hp with rfl | hp
        · exact .tail _ (.tail _ (.head _))
        · rcases List.mem_cons.mp hp with rfl | hp
          · exact .tail _ (.tail _ (.tail _ (.head _)))
          · rcases List.mem_cons.mp hp with rfl | hp
            · exact .head _
            · exact .tail _ (.tail _ (.tail _ (.tail _ hp)))), off_grow o off, hS, q⟩
end
example : True := by
  k_with "CompEnd" => (k_here; k_dflt (first | refine CompEnd.zero (by assumption) (by assumption) (by assumption) (by first | exact True.intro | exact Or.inr ⟨_, by k_mem, rfl, _, rfl⟩) ?_ | refine CompEnd.one (by assumption) (by assumption) (by assumption) (by assumption) (by first | exact True.intro | exact Or.inr ⟨_, by k_mem, rfl, _, rfl⟩) ?_))
  k_with "CompRest" => (k_here; (with_unfolding_all first | (refine LCg.CompRest.succ ?_; intro v' I' oI' C' oC' D' m' h' tk' E' hv' hC' hx' F' N' off' ne'; lcg_open hv'; clear ne') | refine LCg.CompRest.zero ?_))
  k_with "FinE" => (k_here; (unfold LCg.FinE); intro D' h' tk' F' N' o1'; (try simp only [List.nil_append, List.cons_append] at N'); (try dsimp only))
  k_with "FinA" => (k_here; (unfold LCg.FinA); intro D' h' tk' F' N' o1'; (try simp only [List.nil_append, List.cons_append] at N'); (try dsimp only))
  exact trivial
theorem part_len {l : List (Str × Tok)} {x y : Str} (e : l.map (·.1) = Txt.split x y) {c : Str} {t : Tok} (hm : (c, t) ∈ l) : c.length ≤ x.length :=
  part_short (y := y) (e ▸ List.mem_map_of_mem (f := fun p : Str × Tok => p.1) hm)
noncomputable def okPart (c : Str) : Bool := c.length != 0 && c != Str.ofString "."
theorem ok_yes {c : Str} (h : (c.length : Int) ≠ 0) (h' : (c != Str.ofString ".") = true) : okPart c = true := by
  unfold okPart; rw [h', Bool.and_true]; simp only [bne_iff_ne]; omega
theorem ok_dot {c : Str} (h' : (c != Str.ofString ".") = false) : okPart c = false := by unfold okPart; rw [h', Bool.and_false]
theorem ok_nil {c : Str} (h : (c.length : Int) = 0) : okPart c = false := by
  have e : (c.length != 0) = false := by simp only [bne_eq_false_iff_eq]; omega
  unfold okPart; rw [e, Bool.false_and]
theorem truthy_two {prog : Program} {w : World} {A : Around} {E : Value → Shared → Prop} {s : Shared} {x : Str} {t : Tok} {Q : Bool → Shared → Prop} (hl : x.length < 2000)
    (h1 : (x.length : Int) ≠ 0 → ∀ k, Q true { s with toks := k }) (h0 : (x.length : Int) = 0 → ∀ k, Q false { s with toks := k }) : wpAny (model prog w) A (truthy (.str x t)) Q E s := by
  by_cases e : (x.length : Int) = 0
  · exact KXt.truthy (b := false) (by rw [e]; rfl) (by omega) (h0 e)
  · exact KXt.truthy (b := true) (bne_iff_ne.mpr e) (by omega) (h1 e)
example : True := by
  k_with "truthy str" => (k_here; (with_reducible show wpAny _ _ (truthy (Value.str _ _)) _ _ _); refine truthy_two (by omega) (fun _ _ => ?_) (fun _ _ => ?_))
  exact trivial
theorem ite_no {P Q : Prop} (h : Q) : (if false = true then P else Q) := by rw [if_neg Bool.false_ne_true]; exact h
example : True := by
  k_with "ite" => (k_here; (with_reducible show (if false = true then _ else FltNo _ _ _ _ _ _ _ _)); refine ite_no ?_)
  k_with "call type:map" => (k_here; (with_reducible show wpAny _ _ (call (Value.type "map") [_, Value.ref _]) _ _ _); k_dflt (refine' mp_call ?k1zq ?k2zq ?k3zq ?_; (case k1zq => k_asm); (case k2zq => k_asm); (case k3zq => (refine Heap.IsList.at (by assumption) (fun o e => Fr.keep (by assumption) _ o e))); k_whole); intro I' Tp' M' h' l1 l2 l3 l4 F' N' _; (try k_lt l1))
  k_with "call type:tuple" => (k_here; (with_reducible show wpAny _ _ (call (Value.type "tuple") [Value.ref _]) _ _ _); k_dflt (refine' com_tuple (p_fspath _ _ _ _) ?k1zq ?k2zq ?k3zq ?k4zq ?k5zq ?k6zq ?k7zq ?k8zq ?k9zq ?k10zq ?k11zq ?k12zq ?k13zq ?k14zq ?_; (case k1zq => k_asm); (case k2zq => k_asm); (case k3zq => k_asm); (case k4zq => k_asm); (case k5zq => exact rfl); (case k6zq => exact rfl); (case k7zq => k_asm); (case k8zq => assumption); (case k9zq => (walk_at "m_lts")); (case k10zq => (walk_at "m_lt")); (case k11zq => (walk_at "m_lt")); (case k12zq => (walk_at "m_lt")); (case k13zq => (walk_at "m_room")); (case k14zq => (walk_at "m_units")); k_whole); intro D' t' u' h' tk' l1 F' N'; (try k_lt l1))
  k_with "exec Try" => (k_here; (with_reducible show wpAny _ _ (exec (Stmt.Try _ (_ :: _) _ [] _) _) _ _ _); refine wpAny_Try_except ?_)
  k_with "exec Assign cons ListComp" => (k_here; (with_reducible show wpAny _ _ (exec (Stmt.Assign _ (Expr.ListComp _ [⟨_, Expr.Name (Str.ofString "paths") _, _, _⟩] _ _) _) _) _ _ _); k_dflt (refine Assign_ListComp_P (by k_asm) (by rfl) (by with_unfolding_all rfl) (by with_unfolding_all rfl) (by decide) (by rfl) (by decide) (by rfl) (by rfl) (by rfl) ?_))
  k_with "CompP" => (k_here; k_dflt (refine CompP.ledger (by rfl) (by k_asm) (by k_asm) (by k_mem) (Nat.le_of_ble_eq_true rfl) ?_; intro g'; lcg_lit))
  k_with "call builtin:str.split" => (k_here; (with_reducible show wpAny _ _ (call (Value.builtin "str.split") [Value.str _ _, Value.str _ _]) _ _ _); k_dflt (refine KSpl.split1 (by k_asm) (by k_asm) (by decide) ?_ (by rw [PySem.sizeLine_eq]; omega)); intro D' l' h' k' e' a' F' N' l1; (have z' := len_le_of_split e'); (have o1' := off1_lt l1); clear l1)
  k_with "eval SetComp" => (k_here; k_dflt (refine SetComp_P (by k_asm) (by with_unfolding_all rfl) (by decide) (by rfl) (by decide) (by rfl) ?_))
  k_with "SetP" => (k_here; k_dflt (refine SetP.ledger (by rfl) (by k_asm) (by k_asm) (by k_mem) (by show 0 < 2; decide) ?_ ?_); (focus (intro g' v' hv'; (simp only [List.mem_cons, List.not_mem_nil, or_false] at hv'); (rcases hv' with hv' | hv' <;> (subst hv'; unfold SetTurn; intro I' oI' C' oC' D' oD' m' h' tk' E' hC' hx' F' N' off' ne'; clear ne')))); (all_goals (try (intro D'' h'' tk'' F'' N'' o1''))))
  k_with "assign Tuple" => (k_here; (with_reducible show wpAny _ _ (assign (Expr.Tuple _ _ _) _ (Value.ref _)) _ _ _); k_dflt (refine' unpack_true ?Fzq ?Nzq ?Mzq (by rfl) (by rfl) (by rfl) (by rfl) ?_; (case Fzq => k_asm); (case Nzq => k_asm); (case Mzq => k_mem)); intro h' F' N')
  k_with "CompSrcT" => (k_here; k_dflt (refine LCt.CompSrcT.ledger (by rfl) (by k_asm) (by k_asm) (by k_mem) (by (simp only [strValues, List.size_toArray, List.length_map]; rw [PySem.sizeLine_eq]; omega)) ?_); intro g'; k_dflt (refine flt_rest okPart (by lcg_src) ?_ ?_); (focus (intro c' t' I' oI' C' oC' D' m' ys' h' tk' E' hm' hC' hx' F' N' off' ne'; (have hcl' := part_len (by assumption) hm'); (have hcl2' : c'.length < 1000 := by omega); clear ne')))
  k_with "TurnTrue" => (exact ⟨by with_unfolding_all rfl, congrArg Value.bool (by assumption)⟩)
  k_with "eval ListComp" => (k_here; lct_look; k_dflt (refine LCt.ListComp_T (F₀ := by k_asm) (by with_unfolding_all rfl) (by decide) (by rfl) (by decide) (by rfl) ?_))
  k_with "FltYes" => (k_dflt (exact FltYes.intro (by assumption) (by assumption) (ok_yes (by assumption) (by assumption))))
  k_with "FltNo" => (k_dflt (exact FltNo.intro (by assumption) (by assumption) (by first | exact ok_dot (by assumption) | exact ok_nil (by assumption))))
  k_with "call builtin:min" => (k_here; (with_reducible show wpAny _ _ (call (Value.builtin "min") [Value.ref _]) _ _ _); k_dflt (refine' minL ?Fzq ?Nzq rfl ?uzq ?Dzq ?azq ?bzq ?_; (case Fzq => k_asm); (case Nzq => k_asm); (case uzq => (walk_at "m_units")); (case Dzq => k_mem); (case azq => k_mem); (case bzq => k_mem)); intro ax' zs' n' h' ez' F' N')
  k_with "call builtin:max" => (k_here; (with_reducible show wpAny _ _ (call (Value.builtin "max") [Value.ref _]) _ _ _); k_dflt (refine' maxL ?Fzq ?Nzq rfl ?uzq ?Dzq ?azq ?bzq ?_; (case Fzq => k_asm); (case Nzq => k_asm); (case uzq => (walk_at "m_units")); (case Dzq => k_mem); (case azq => k_mem); (case bzq => k_mem)); intro ax' zs' n' h' ez' F' N')
  exact trivial
theorem short_zs {zs l1 l2 : List (Str × Tok)} {a b y : Str} {c : Prop} [Decidable c] {f : Str × Tok → Bool} (e : zs.map (fun x => x.1) = if c then (l2.filter f).map (fun x => x.1) else (l1.filter f).map (fun x => x.1)) (e1 : l1.map (fun x => x.1) = Txt.split a y)
    (e2 : l2.map (fun x => x.1) = Txt.split b y) (ha : a.length < 1000) (hb : b.length < 1000) : ∀ p ∈ zs, p.1.length < 1000 := by
  intro p hp
  have h := List.mem_map_of_mem (f := fun x : Str × Tok => x.1) hp
  rw [e] at h
  split at h
  all_goals (obtain ⟨q, hq, hqe⟩ := List.mem_map.mp h; rw [← hqe])
  · exact Nat.lt_of_le_of_lt (part_len e2 (t := q.2) (List.mem_filter.mp hq).1) hb
  · exact Nat.lt_of_le_of_lt (part_len e1 (t := q.2) (List.mem_filter.mp hq).1) ha
theorem few_zs {zs l1 l2 : List (Str × Tok)} {a b : Str} {c : Prop} [Decidable c] {f : Str × Tok → Bool} (e : zs.map (fun x => x.1) = if c then (l2.filter f).map (fun x => x.1) else (l1.filter f).map (fun x => x.1)) (e1 : l1.length ≤ a.length + 2)
    (e2 : l2.length ≤ b.length + 2) (ha : a.length < 1000) (hb : b.length < 1000) : zs.length < 2000 := by
  have h := congrArg List.length e
  have h1 := List.length_filter_le f l1
  have h2 := List.length_filter_le f l2
  split at h <;> simp only [List.length_map] at h <;> omega
example : True := by
  k_with "exec For Tuple Call cons nil" => (k_here; (with_reducible show wpAny _ _ (exec (Stmt.For (Expr.Tuple _ _ _) (Expr.Call (Expr.Name (Str.ofString "enumerate") _) _ _ _) _ _ _) _) _ _ _); (rename Fr _ _ _ _ => lF'); (with_unfolding_all refine' For_turns lF' ?_; k_whole))
  k_with "call type:enumerate" => (k_here; (with_reducible show wpAny _ _ (call (Value.type "enumerate") [Value.ref _]) _ _ _); k_dflt (refine' enumTwo (i := Str.ofString "i") (c := Str.ofString "c") (o := Str.ofString "s2") ?hhzq ?Fzq ?Nzq ?Mzq ?Ozq ?M2zq ?hazq ?hzzq ?hyzq ?zlzq ?ylzq ?stepzq ?finzq; (case hhzq => exact rfl); (case Fzq => k_asm); (case Nzq => k_asm); (case Mzq => k_mem); (case Ozq => exact rfl); (case M2zq => k_mem); (case hazq => exact ahead_of (by assumption) (by assumption)); (case hzzq => exact short_zs (by assumption) (by assumption) (by assumption) (by assumption) (by assumption)); (case hyzq => exact short_zs (by assumption) (by assumption) (by assumption) (by assumption) (by assumption)); (case zlzq => exact few_zs (by assumption) (by assumption) (by assumption) (by assumption) (by assumption)); (case ylzq => exact few_zs (by assumption) (by assumption) (by assumption) (by assumption) (by assumption)); (case' stepzq => (intro I' l1 k' x' y' tx' ty' hx' hy' hk' hxl' hyl' ht' vi' vc' T' t' h' tk' oe' ol' hT' F' c1' c2' N'; (try k_lt l1))); (case' finzq => (intro ht' vi' vc' h' tk' F' N'))))
  exact trivial
theorem short_take {zs : List (Str × Tok)} {k : Nat} (h : ∀ p ∈ zs, p.1.length < 1000) : ∀ p ∈ zs.take k, p.1.length < 1000 := fun p hp => h p (List.mem_of_mem_take hp)
theorem few_take {zs : List (Str × Tok)} {k : Nat} (h : zs.length < 2000) : (zs.take k).length < 2000 := Nat.lt_of_le_of_lt (List.length_take_le' _ _) h
example : True := by
  k_with "subscriptTail Name Name ref int" => (k_here; (with_reducible show wpAny _ _ (subscriptTail _ _ (Value.ref _) (Value.int _ _)) _ _ _); k_dflt (refine' item_own ?Nzq ?Mzq ?xzq ?kzq ?_ ?szq; (case Nzq => k_asm); (case Mzq => k_mem); (case xzq => assumption); (case kzq => assumption); (case szq => with_unfolding_all rfl)))
  k_with "subscriptTail Name Slice ref ref" => (k_here; (with_reducible show wpAny _ _ (subscriptTail _ (PySem.Expr.Slice _ _ none _) (Value.ref _) (Value.ref _)) _ _ _); k_dflt (refine' slice_own ?Fzq ?Nzq ?Mzq ?kzq ?zzq ?_ ?szq ?tzq; (case Fzq => k_asm); (case Nzq => k_asm); (case Mzq => k_mem); (case kzq => assumption); (case zzq => exact few_zs (by assumption) (by assumption) (by assumption) (by assumption) (by assumption)); (case szq => with_unfolding_all rfl); (case tzq => (intro _; with_unfolding_all rfl))); intro D' h' F' N' l1; (try k_lt l1); (try k_sweep))
  k_with "execs cons" => (k_here; k_dflt (refine execs_Q (by k_asm) rfl (by (walk_at "lbt")) ?_; intro tk' lc' lb' Qt' hq'; clear lc'))
  k_with "exec If" => (k_here; k_dflt (refine if_T (by (walk_at "lbt")) ?_))
  k_with "binaryOp Add str str" => (k_here; (with_reducible show wpAny _ _ (binaryOp _ (Value.str _ _) (Value.str _ _)) _ _ _); k_dflt (refine' add_G ?nzq ?tzq ?xzq ?lzq ?_; (case nzq => (walk_at "lbt")); (case tzq => (walk_at "lbt")); (case xzq => decide); (case lzq => (have e1' : (Str.ofString "/").length = 1 := rfl); omega)); intro t' k' lt' lb')
  k_with "call builtin:str.join" => (k_here; (with_reducible show wpAny _ _ (call (Value.builtin "str.join") [Value.str _ _, Value.ref _]) _ _ _); k_dflt (refine' join_T ?bzq ?Nzq ?Mzq ?xzq ?zzq ?lzq ?_; (case bzq => (walk_at "lbt")); (case Nzq => k_asm); (case Mzq => k_mem); (case xzq => decide); (case zzq => first | exact short_zs (by assumption) (by assumption) (by assumption) (by assumption) (by assumption) | exact short_take (short_zs (by assumption) (by assumption) (by assumption) (by assumption) (by assumption))); (case lzq => first | exact few_zs (by assumption) (by assumption) (by assumption) (by assumption) (by assumption) | exact few_take (few_zs (by assumption) (by assumption) (by assumption) (by assumption) (by assumption)))); intro t' k' lb' j')
  k_with "EnumJ" => (k_dflt (exact EnumJ.intro (by k_subL) (by assumption)))
  exact trivial
noncomputable def partsF (a : Str) : List Str := (Txt.split a (Str.ofString "/")).filter okPart
noncomputable def comF (a b : Str) : Str := Str.ofString "/" ++ Txt.join (Str.ofString "/") (preF (if ltL (partsF b) (partsF a) then partsF b else partsF a) (if ltL (partsF a) (partsF b) then partsF b else partsF a))
theorem parts_is {l : List (Str × Tok)} {a : Str} (e : l.map (fun x => x.1) = Txt.split a (Str.ofString "/")) : (l.filter fun p => okPart p.1).map (fun x => x.1) = partsF a := by
  unfold partsF; rw [← e, List.filter_map]; rfl
theorem com_all {zs ys l1 l2 : List (Str × Tok)} {a b : Str} (e1 : l1.map (fun x => x.1) = Txt.split a (Str.ofString "/")) (e2 : l2.map (fun x => x.1) = Txt.split b (Str.ofString "/"))
    (h1 : zs.map (fun x => x.1) = if ltL ((l2.filter fun p => okPart p.1).map (fun x => x.1)) ((l1.filter fun p => okPart p.1).map (fun x => x.1)) = true then (l2.filter fun p => okPart p.1).map (fun x => x.1) else (l1.filter fun p => okPart p.1).map (fun x => x.1))
    (h2 : ys.map (fun x => x.1) = if ltL ((l1.filter fun p => okPart p.1).map (fun x => x.1)) ((l2.filter fun p => okPart p.1).map (fun x => x.1)) = true then (l2.filter fun p => okPart p.1).map (fun x => x.1) else (l1.filter fun p => okPart p.1).map (fun x => x.1))
    (t : (zs.map (fun x => x.1)).take zs.length = (ys.map (fun x => x.1)).take zs.length) : Str.ofString "/" ++ Txt.join (Str.ofString "/") (zs.map (fun x => x.1)) = comF a b := by
  unfold comF
  rw [parts_is e1, parts_is e2] at h1 h2
  rw [← h1, ← h2, preF_all (by simpa using t)]
theorem com_stop {zs ys l1 l2 : List (Str × Tok)} {a b : Str} {k : Nat} {x y : Str} {tx ty : Tok} (e1 : l1.map (fun x => x.1) = Txt.split a (Str.ofString "/")) (e2 : l2.map (fun x => x.1) = Txt.split b (Str.ofString "/"))
    (h1 : zs.map (fun x => x.1) = if ltL ((l2.filter fun p => okPart p.1).map (fun x => x.1)) ((l1.filter fun p => okPart p.1).map (fun x => x.1)) = true then (l2.filter fun p => okPart p.1).map (fun x => x.1) else (l1.filter fun p => okPart p.1).map (fun x => x.1))
    (h2 : ys.map (fun x => x.1) = if ltL ((l1.filter fun p => okPart p.1).map (fun x => x.1)) ((l2.filter fun p => okPart p.1).map (fun x => x.1)) = true then (l2.filter fun p => okPart p.1).map (fun x => x.1) else (l1.filter fun p => okPart p.1).map (fun x => x.1))
    (t : (zs.map (fun x => x.1)).take k = (ys.map (fun x => x.1)).take k) (hx : zs[k]? = some (x, tx)) (hy : ys[k]? = some (y, ty)) (hn : (x != y) = true) :
    Str.ofString "/" ++ Txt.join (Str.ofString "/") ((zs.take k).map (fun x => x.1)) = comF a b := by
  unfold comF
  rw [parts_is e1, parts_is e2] at h1 h2
  rw [← h1, ← h2, preF_stop t (by rw [List.getElem?_map, hx]; rfl) (by rw [List.getElem?_map, hy]; rfl) (by simpa using hn), List.map_take]
theorem isG_of {x y : Str} {t n k : Nat} (e : y = x) (h : LB n t) : isG x (.str y t) n k := ⟨t, by rw [e], h⟩
theorem p_common (a b : Str) (t u : Tok) (l : Addr) (h : a.length < 1000) (hb : b.length < 1000) (ha' : Txt.startswith a (Str.ofString "/") = true) (hb' : Txt.startswith b (Str.ofString "/") = true) : Pure w mean mg mb 3 199 [.ref l] (fun s => s.heap.IsList l #[.str a t, .str b u]) (isG (comF a b)) := by
  (walk_at "p_open")
  k_dflt (walk_at "m_enterC")
  k_steps
  all_goals ((walk_at "p_end"); refine isG_of ?_ (by assumption))
  all_goals first | exact com_all (by assumption) (by assumption) (by assumption) (by assumption) (by assumption) | exact com_stop (by assumption) (by assumption) (by assumption) (by assumption) (by assumption) (by assumption) (by assumption) (by assumption)
end
end
-- T6
example : True := by
  w_top off
  k_with_none
  k_with "m_clean" => ((repeat (first | (rename News _ _ _ _ => zq9; clear zq9) | (rename Fr _ _ _ _ => zq9; clear zq9))); (try skip))
  k_with "m_enter" => (refine' enterP (g := _) (news := []) (fun _ _ e => e) (Nat.le_refl _) (fun _ hp => nomatch hp) ?k3zq ?k5zq ?k6zq ?k7zq ?k8zq ?k9zq ?kBzq ?_ ?c2zq ?c3zq ?c4zq ?c5zq; (case k3zq => k_asm); (case k5zq => k_asm); (case k6zq => k_is); (case k7zq => k_is); (case k8zq => (walk_at "m_room")); (case k9zq => exact BindsTo.of_eq rfl); (case c5zq => decide); (case kBzq => exact locs rfl); (case c2zq => exact rfl); (case c3zq => exact rfl); (case c4zq => exact rfl); k_whole; intro L' h' F' N' _ Qt' Et' hq' hE'; (try dsimp only); (try k_fold))
  k_with "m_room" => (first | exact rm0 hdp | exact rm1 hdp (by decide) | exact rm2 hdp | ((try simp only [depth_under_make, depth_under_kw, depth_in1, depth_deeper, depth_caller] at *); (try dsimp only [AR] at *); omega) | ((simp only [recursionLimit, depth_under_make, depth_under_kw, depth_in1, depth_deeper, depth_caller] at *); (try dsimp only [AR] at *); omega) | decide)
  k_with "m_units" => (first | exact un1 hun (by decide) | exact un2 hun (by decide) | exact un3 hun (by decide) | exact un4 hun | (have hcL9 := cLine_is; (try simp only [units_in1, units_deeper, Around.mark_units, units_caller] at *); (try dsimp only [AR] at *); omega))
  k_with "p_end" => (refine hret _ _ _ (Fr.keep (by assumption)) ?_; (walk_at "m_clean"))
  k_with "p_open" => (dsimp only [Pure, PG, KK, LL]; k_fill; intro dp un gd outer base s Q E B X T hpre hdp hun hret; refine wpAny_call ?_)
  exact trivial
section
set_option maxHeartbeats 8000000
section
variable (w : World) (mean : ExcName → Option Value) (mg mb : Str → Option Value)
example : True := by
  k_with "execs cons" => (k_here; k_dflt (refine execs_P (by k_asm) rfl ?_; intro tk' Qt' hq'))
  k_with "Post" => (k_here; (rename Then _ _ => hq'); refine hq' _ _ ?_; clear hq')
  exact trivial
theorem dirF_len (a : Str) : (dirF a).length ≤ a.length := by
  have h1 : (headF a).length ≤ a.length := Txt.slice_le _ _ _
  unfold dirF
  split
  · exact h1
  · split
    · exact Nat.le_trans (len_stripBy _ _ _ _) h1
    · exact h1
noncomputable def stepB (a : Str) (p : Str × Str) : Str × Str := if (p.2 != a) = true then (p.2, dirF p.2) else p
noncomputable def turnsB (a b : Str) : Nat → Str × Str
  | 0 => (b, dirF b)
  | i + 1 => stepB a (turnsB a b i)
noncomputable def belowF (a b : Str) : Str := (turnsB a b 6).1
noncomputable def BelowJ (a b : Str) (i : Nat) (v v' : Value) : Prop := ∃ p o t t', v = .str p t ∧ v' = .str o t' ∧ turnsB a b i = (p, o) ∧ p.length < 1000 ∧ o.length < 1000
theorem BelowJ.zero {a b : Str} {t t' : Tok} (_ : Mk (BelowJ a b)) (h : b.length < 1000) : BelowJ a b 0 (.str b t) (.str (dirF b) t') := ⟨_, _, _, _, rfl, rfl, rfl, h, Nat.lt_of_le_of_lt (dirF_len b) h⟩
theorem BelowJ.go {a b p o : Str} {t t' : Tok} {i : Nat} (e : turnsB a b i = (p, o)) (h : o.length < 1000) (hn : (o != a) = true) : BelowJ a b (i + 1) (.str o t) (.str (dirF o) t') :=
  ⟨_, _, _, _, rfl, rfl, by unfold turnsB stepB; rw [e, if_pos hn], h, Nat.lt_of_le_of_lt (dirF_len o) h⟩
theorem BelowJ.stay {a b p o : Str} {t t' : Tok} {i : Nat} (e : turnsB a b i = (p, o)) (hp : p.length < 1000) (h : o.length < 1000) (hn : (o != a) = false) : BelowJ a b (i + 1) (.str p t) (.str o t') :=
  ⟨_, _, _, _, rfl, rfl, by unfold turnsB stepB; rw [e, if_neg (by rw [hn]; exact Bool.false_ne_true)], hp, h⟩
example : True := by
  k_with "exec For Name Call cons nil" => (k_here; (rename Fr _ _ _ _ => lF'); (with_unfolding_all refine' For_invVF lF' ?k1zq ?k2zq ?_; (case k1zq => exact rfl); (case k2zq => exact rfl); k_whole))
  k_with "pyIter ref" => (k_here; (with_reducible show wpAny _ _ (pyIter (Value.ref _)) (fun it s₂ => LoopAtV _ _ _ _ _ _ _ _ _ it s₂) _ _); (rename IsRange _ _ _ _ _ _ _ _ => rgX); k_dflt (refine' rangeTwo (y := Str.ofString "place") (y' := Str.ofString "over") (n := 6) (by assumption) ?hhzq rgX ?smzq ?szzq ?Fzq ?Nzq ?hjzq ?turnzq ?donezq; (case hhzq => exact rfl); (case smzq => decide); (case szzq => exact rfl); (case Fzq => k_asm); (case Nzq => k_asm); (case hjzq => exact ⟨_, _, rfl, rfl, BelowJ.zero (by assumption) (by assumption)⟩); (case' turnzq => (intro i' t' v' v2' h' tk' own' hi' hP' hoff' F' N'; obtain ⟨p', o', tp', to', e1', e2', ep', lp', lo'⟩ := hP'; subst e1'; subst e2')); (case' donezq => (intro u' v' v2' h' tk' hP' F' N'; obtain ⟨p', o', tp', to', e1', e2', ep', lp', lo'⟩ := hP'; subst e1'; subst e2')); (all_goals (try simp only [List.nil_append, List.cons_append, List.append_nil] at N'))))
  k_with "InvEndN" => (k_here; k_dflt (refine InvEndN.intro (by assumption) (by assumption) (TwoJ.intro (by with_unfolding_all rfl) (by with_unfolding_all rfl) (by (intro z h1 h2 h3; first | rfl | (simp [h1, h2, h3]; done) | (simp_all; done))) ?_) (by rfl) (by (with_unfolding_all ((try simp only [List.nil_append, List.cons_append]); k_allIn))) (by (intro p hp; k_ownIn))))
  k_with "BelowJ" => (k_dflt (first | exact BelowJ.zero (by assumption) (by assumption) | exact BelowJ.go (by assumption) (by assumption) (by assumption) | exact BelowJ.stay (by assumption) (by assumption) (by assumption) (by assumption)))
  k_with "call ref" => (k_here; k_dflt (first | (first | (refine' pure_useS (p_dirname _ _ _ _ _ _ (by omega)) ?k1x3zq ?k2x3zq ?k3x3zq ?k4x3zq ?k5x3zq ?kfx3zq ?kKx3zq ?kpx3zq ?kdx3zq ?kux3zq ?_; (case k1x3zq => k_asm); (case k2x3zq => k_asm); (case k3x3zq => k_asm); (case k4x3zq => k_asm); (case k5x3zq => k_asm); (case kfx3zq => exact rfl); (case kKx3zq => first | exact rfl | assumption); (case kpx3zq => first | trivial | assumption); (case kdx3zq => (walk_at "m_room")); (case kux3zq => (walk_at "m_units")); intro t9 h9 tk9 le9 F9 N9; (try dsimp only at le9); (try dsimp only); (try k_fold)) | (refine' pure_useI (p_dirname _ _ _ _ _ _ (by omega)) ?k1x3zq ?k2x3zq ?k3x3zq ?k4x3zq ?k5x3zq ?kfx3zq ?kKx3zq ?kpx3zq ?kdx3zq ?kux3zq ?_; (case k1x3zq => k_asm); (case k2x3zq => k_asm); (case k3x3zq => k_asm); (case k4x3zq => k_asm); (case k5x3zq => k_asm); (case kfx3zq => exact rfl); (case kKx3zq => first | exact rfl | assumption); (case kpx3zq => first | trivial | assumption); (case kdx3zq => (walk_at "m_room")); (case kux3zq => (walk_at "m_units")); intro t9 h9 tk9 le9 F9 N9; (try dsimp only at le9); (try dsimp only); (try k_fold)) | (refine' pure_useB (p_dirname _ _ _ _ _ _ (by omega)) ?k1x3zq ?k2x3zq ?k3x3zq ?k4x3zq ?k5x3zq ?kfx3zq ?kKx3zq ?kpx3zq ?kdx3zq ?kux3zq ?_; (case k1x3zq => k_asm); (case k2x3zq => k_asm); (case k3x3zq => k_asm); (case k4x3zq => k_asm); (case k5x3zq => k_asm); (case kfx3zq => exact rfl); (case kKx3zq => first | exact rfl | assumption); (case kpx3zq => first | trivial | assumption); (case kdx3zq => (walk_at "m_room")); (case kux3zq => (walk_at "m_units")); intro h9 tk9 le9 F9 N9; (try dsimp only at le9); (try dsimp only); (try k_fold)))); walk_say "CONTRACT")
  exact trivial
theorem p_below (a b : Str) (t u : Tok) (h : a.length < 1000) (hb : b.length < 1000) : Pure w mean mg mb 3 213 [.str a t, .str b u] yes (isS (belowF a b)) := by
  have mk' : Mk (BelowJ a b) := .mk
  (walk_at "p_open")
  k_dflt (walk_at "m_enter")
  k_steps
  all_goals ((walk_at "p_end"); refine ⟨_, congrArg (Value.str · _) ?_⟩)
  all_goals first | (unfold belowF; rw [‹turnsB a b 6 = _›])
end
end
-- T7
example : True := by
  w_top off
  k_with_none
  k_with "lbt" => ((try dsimp only); (first | assumption | (apply LB.s1; first | assumption | (apply LB.s1; first | assumption | (apply LB.s1; first | assumption | (apply LB.s1; assumption))))))
  k_with "m_clean" => ((repeat (first | (rename News _ _ _ _ => zq9; clear zq9) | (rename Fr _ _ _ _ => zq9; clear zq9))); (try skip))
  k_with "m_enter" => (refine' enterP (g := _) (news := []) (fun _ _ e => e) (Nat.le_refl _) (fun _ hp => nomatch hp) ?k3zq ?k5zq ?k6zq ?k7zq ?k8zq ?k9zq ?kBzq ?_ ?c2zq ?c3zq ?c4zq ?c5zq; (case k3zq => k_asm); (case k5zq => k_asm); (case k6zq => k_is); (case k7zq => k_is); (case k8zq => (walk_at "m_room")); (case k9zq => exact BindsTo.of_eq rfl); (case c5zq => decide); (case kBzq => exact locs rfl); (case c2zq => exact rfl); (case c3zq => exact rfl); (case c4zq => exact rfl); k_whole; intro L' h' F' N' _ Qt' Et' hq' hE'; (try dsimp only); (try k_fold))
  k_with "m_room" => (first | exact rm0 hdp | exact rm1 hdp (by decide) | exact rm2 hdp | ((try simp only [depth_under_make, depth_under_kw, depth_in1, depth_deeper, depth_caller] at *); (try dsimp only [AR] at *); omega) | ((simp only [recursionLimit, depth_under_make, depth_under_kw, depth_in1, depth_deeper, depth_caller] at *); (try dsimp only [AR] at *); omega) | decide)
  k_with "m_units" => (first | exact un1 hun (by decide) | exact un2 hun (by decide) | exact un3 hun (by decide) | exact un4 hun | (have hcL9 := cLine_is; (try simp only [units_in1, units_deeper, Around.mark_units, units_caller] at *); (try dsimp only [AR] at *); omega))
  k_with "p_end" => (refine hret _ _ _ (Fr.keep (by assumption)) ?_; (walk_at "m_clean"))
  k_with "p_open" => (dsimp only [Pure, PG, KK, LL]; k_fill; intro dp un gd outer base s Q E B X T hpre hdp hun hret; refine wpAny_call ?_)
  exact trivial
section
set_option maxHeartbeats 8000000
section
variable (w : World) (mean : ExcName → Option Value) (mg mb : Str → Option Value)
example : True := by
  k_with "execs cons" => (k_here; k_dflt (refine execs_P (by k_asm) rfl ?_; intro tk' Qt' hq'))
  k_with "Post" => (k_here; (rename Then _ _ => hq'); refine hq' _ _ ?_; clear hq')
  exact trivial
theorem p_lt (a b : Str) (t u : Tok) (h : a.length < 1000) (hb : b.length < 1000) : Pure w mean mg mb 1 28 [.str a t, .str b u] yes (isB (decide (a.cps.toList < b.cps.toList))) := by
  (walk_at "p_open")
  k_dflt (walk_at "m_enter")
  k_steps
  all_goals ((walk_at "p_end"); first | exact rfl | exact ⟨_, rfl⟩)
theorem p_gt (a b : Str) (t u : Tok) (h : a.length < 1000) (hb : b.length < 1000) : Pure w mean mg mb 1 42 [.str a t, .str b u] yes (isB (decide (b.cps.toList < a.cps.toList))) := by
  (walk_at "p_open")
  k_dflt (walk_at "m_enter")
  k_steps
  all_goals ((walk_at "p_end"); first | exact rfl | exact ⟨_, rfl⟩)
theorem p_ge (a b : Int) (t u : Tok) : Pure w mean mg mb 1 35 [.int a t, .int b u] yes (isB (decide (b ≤ a))) := by
  (walk_at "p_open")
  k_dflt (walk_at "m_enter")
  k_steps
  all_goals ((walk_at "p_end"); first | exact rfl | exact ⟨_, rfl⟩)
theorem p_add (a b : Int) (t u : Tok) : Pure w mean mg mb 1 49 [.int a t, .int b u] yes (isI (a + b)) := by
  (walk_at "p_open")
  k_dflt (walk_at "m_enter")
  k_steps
  all_goals ((walk_at "p_end"); first | exact rfl | exact ⟨_, rfl⟩)
example : True := by
  k_with "binaryOp Mult int int" => (k_here; k_dflt (refine PyProof.Rows.mul_int ?_ (by assumption)))
  exact trivial
theorem p_mul (a b : Int) (t u : Tok) (hm : IntMulOk a b) : Pure w mean mg mb 1 56 [.int a t, .int b u] yes (isI (a * b)) := by
  (walk_at "p_open")
  k_dflt (walk_at "m_enter")
  k_steps
  all_goals ((walk_at "p_end"); first | exact rfl | exact ⟨_, rfl⟩)
theorem p_sub (a b : Int) (t u : Tok) : Pure w mean mg mb 1 63 [.int a t, .int b u] yes (isI (a - b)) := by
  (walk_at "p_open")
  k_dflt (walk_at "m_enter")
  k_steps
  all_goals ((walk_at "p_end"); first | exact rfl | exact ⟨_, rfl⟩)
theorem p_subB (a b : Bool) : Pure w mean mg mb 1 63 [.bool a, .bool b] yes (isI (b2i a - b2i b)) := by
  (walk_at "p_open")
  k_dflt (walk_at "m_enter")
  k_steps
  all_goals ((walk_at "p_end"); first | exact rfl | exact ⟨_, rfl⟩)
noncomputable abbrev isL (x : Str) : Value → Nat → Nat → Prop := fun r _ _ => ∃ y t, r = .str y t ∧ y = x ∧ y.length < 1000
noncomputable abbrev isLG (x : Str) : Value → Nat → Nat → Prop := fun r n _ => ∃ (y : Str) (t : Nat), r = .str y t ∧ y = x ∧ y.length < 1000 ∧ LB n t
theorem pure_LG {w : World} {mean : ExcName → Option Value} {mg mb : Str → Option Value} {n : Nat} {f : Addr} {vs : List Value} {pre : Shared → Prop} {x : Str} (H : Pure w mean mg mb n f vs pre (isG x)) (hx : x.length < 1000) : Pure w mean mg mb n f vs pre (isLG x) := by
  intro dp un gd outer base s Q E B X T hp hd hu k
  exact H dp un gd outer base s Q E B X T hp hd hu fun r h' tk' hk ⟨t, e, l⟩ => k r h' tk' hk ⟨x, t, e, rfl, hx, l⟩
theorem pure_L {w : World} {mean : ExcName → Option Value} {mg mb : Str → Option Value} {n : Nat} {f : Addr} {vs : List Value} {pre : Shared → Prop} {x : Str} (H : Pure w mean mg mb n f vs pre (isS x)) (hx : x.length < 1000) : Pure w mean mg mb n f vs pre (isL x) := by
  intro dp un gd outer base s Q E B X T hp hd hu k
  exact H dp un gd outer base s Q E B X T hp hd hu fun r h' tk' hk ⟨t, e⟩ => k r h' tk' hk ⟨x, t, e, rfl, hx⟩
section
variable {w : World} {mean : ExcName → Option Value} {mg mb : Str → Option Value} {n : Nat} {f : Addr} {vs : List Value}
  {dp un : Nat} {gd : Option (List Code)} {outer : List Env} {env : Env} {A₀ : Around} {base h₀ : Heap} {L : Addr} {m : Str → Option Value} {s : Shared} {Q E : Value → Shared → Prop} {news : List (Addr × Obj)} {pre : Shared → Prop}
theorem pure_useL {x : Str} (H : Pure w mean mg mb n f vs pre (isL x)) (B : Below A₀ base outer h₀) (F : Fr h₀ L s.heap m) (X : (KK w).In h₀) (N : News h₀ L s.heap news) (T : Top topProg LL mean mg mb h₀) (hf : env.frame = some L) (hk : env.scope.kind = .function)
    (hp : pre s) (hd : dp + n < 900) (hu : un + 10 * n < 9000)
    (ret : ∀ (y : Str) (t : Tok) (h' : Heap) (tk' : Nat), s.toks ≤ tk' → y = x → y.length < 1000 → Fr h₀ L h' m → News h₀ L h' news → Q (.str y t) { s with heap := h', toks := tk' }) : wpAny (model PG w) (AR dp un gd (env :: outer)) (call (.ref f) vs) Q E s :=
  pure_use H B F X N T hf hk hp hd hu fun r h' tk' le P F N => by
    obtain ⟨y, t, rfl, e, l⟩ := P; exact ret y t h' tk' le e l F N
theorem pure_useLG {x : Str} (H : Pure w mean mg mb n f vs pre (isLG x)) (B : Below A₀ base outer h₀) (F : Fr h₀ L s.heap m) (X : (KK w).In h₀) (N : News h₀ L s.heap news) (T : Top topProg LL mean mg mb h₀) (hf : env.frame = some L) (hk : env.scope.kind = .function)
    (hp : pre s) (hd : dp + n < 900) (hu : un + 10 * n < 9000)
    (ret : ∀ (y : Str) (t : Nat) (h' : Heap) (tk' : Nat), s.toks ≤ tk' → y = x → y.length < 1000 → LB s.toks t → Fr h₀ L h' m → News h₀ L h' news → Q (.str y t) { s with heap := h', toks := tk' }) : wpAny (model PG w) (AR dp un gd (env :: outer)) (call (.ref f) vs) Q E s :=
  pure_use H B F X N T hf hk hp hd hu fun r h' tk' le P F N => by
    obtain ⟨y, t, rfl, e, l, g⟩ := P; exact ret y t h' tk' le e l g F N
end

theorem p_commonM (w : World) (mean : ExcName → Option Value) (mg mb : Str → Option Value) {a b : Str} {t u : Tok} {l : Addr} (_ : Mk (a, b)) (hc : (comF a b).length < 1000) (h : a.length < 1000) (hb : b.length < 1000) (ha' : Txt.startswith a (Str.ofString "/") = true) (hb' : Txt.startswith b (Str.ofString "/") = true) :
    Pure w mean mg mb 3 199 [.ref l] (fun s => s.heap.IsList l #[.str a t, .str b u]) (isLG (comF a b)) := pure_LG (p_common w mean mg mb a b t u l h hb ha' hb') hc
theorem turnsB_len (a b : Str) : ∀ i, (turnsB a b i).1.length ≤ b.length ∧ (turnsB a b i).2.length ≤ b.length
  | 0 => ⟨Nat.le_refl _, dirF_len b⟩
  | i + 1 => by
    have h := turnsB_len a b i
    unfold turnsB stepB
    split
    · exact ⟨h.2, Nat.le_trans (dirF_len _) h.2⟩
    · exact h
theorem belowF_len (a b : Str) : (belowF a b).length ≤ b.length := (turnsB_len a b 6).1
noncomputable def listedF (a b : Str) : Int := if comF a b = a ∨ comF a b = b then (a.length : Int) - b.length else
  b2i (decide ((belowF (comF a b) b).cps.toList < (belowF (comF a b) a).cps.toList)) - b2i (decide ((belowF (comF a b) a).cps.toList < (belowF (comF a b) b).cps.toList))
example : True := by
  k_with "call ref" => (k_here; k_dflt (first | (first | (refine' pure_useLG (p_commonM _ _ _ _ (by with_reducible assumption) (by with_reducible assumption) (by with_reducible assumption) (by with_reducible assumption) (by with_reducible assumption) (by with_reducible assumption)) ?k1x4zq ?k2x4zq ?k3x4zq ?k4x4zq ?k5x4zq ?kfx4zq ?kKx4zq ?kpx4zq ?kdx4zq ?kux4zq ?_; (case k1x4zq => k_asm); (case k2x4zq => k_asm); (case k3x4zq => k_asm); (case k4x4zq => k_asm); (case k5x4zq => k_asm); (case kfx4zq => exact rfl); (case kKx4zq => first | exact rfl | assumption); (case kpx4zq => first | trivial | exact News.isList (by k_asm) (by k_mem) | assumption); (case kdx4zq => (walk_at "m_room")); (case kux4zq => (walk_at "m_units")); intro y9 t9 h9 tk9 le9 q9 l9 g9 F9 N9; (try dsimp only at le9); (try (have lb9 := LB.tr (by (walk_at "lbt")) le9)); (try (have gb9 := LB.tr (by (walk_at "lbt")) g9.le)); (try dsimp only); (try k_fold)) | (refine' pure_useL (p_commonM _ _ _ _ (by with_reducible assumption) (by with_reducible assumption) (by with_reducible assumption) (by with_reducible assumption) (by with_reducible assumption) (by with_reducible assumption)) ?k1x4zq ?k2x4zq ?k3x4zq ?k4x4zq ?k5x4zq ?kfx4zq ?kKx4zq ?kpx4zq ?kdx4zq ?kux4zq ?_; (case k1x4zq => k_asm); (case k2x4zq => k_asm); (case k3x4zq => k_asm); (case k4x4zq => k_asm); (case k5x4zq => k_asm); (case kfx4zq => exact rfl); (case kKx4zq => first | exact rfl | assumption); (case kpx4zq => first | trivial | exact News.isList (by k_asm) (by k_mem) | assumption); (case kdx4zq => (walk_at "m_room")); (case kux4zq => (walk_at "m_units")); intro y9 t9 h9 tk9 le9 q9 l9 F9 N9; (try dsimp only at le9); (try (have lb9 := LB.tr (by (walk_at "lbt")) le9)); (try dsimp only); (try k_fold)) | (refine' pure_useI (p_commonM _ _ _ _ (by with_reducible assumption) (by with_reducible assumption) (by with_reducible assumption) (by with_reducible assumption) (by with_reducible assumption) (by with_reducible assumption)) ?k1x4zq ?k2x4zq ?k3x4zq ?k4x4zq ?k5x4zq ?kfx4zq ?kKx4zq ?kpx4zq ?kdx4zq ?kux4zq ?_; (case k1x4zq => k_asm); (case k2x4zq => k_asm); (case k3x4zq => k_asm); (case k4x4zq => k_asm); (case k5x4zq => k_asm); (case kfx4zq => exact rfl); (case kKx4zq => first | exact rfl | assumption); (case kpx4zq => first | trivial | exact News.isList (by k_asm) (by k_mem) | assumption); (case kdx4zq => (walk_at "m_room")); (case kux4zq => (walk_at "m_units")); intro t9 h9 tk9 le9 F9 N9; (try dsimp only at le9); (try (have lb9 := LB.tr (by (walk_at "lbt")) le9)); (try dsimp only); (try k_fold)) | (refine' pure_useS (p_commonM _ _ _ _ (by with_reducible assumption) (by with_reducible assumption) (by with_reducible assumption) (by with_reducible assumption) (by with_reducible assumption) (by with_reducible assumption)) ?k1x4zq ?k2x4zq ?k3x4zq ?k4x4zq ?k5x4zq ?kfx4zq ?kKx4zq ?kpx4zq ?kdx4zq ?kux4zq ?_; (case k1x4zq => k_asm); (case k2x4zq => k_asm); (case k3x4zq => k_asm); (case k4x4zq => k_asm); (case k5x4zq => k_asm); (case kfx4zq => exact rfl); (case kKx4zq => first | exact rfl | assumption); (case kpx4zq => first | trivial | exact News.isList (by k_asm) (by k_mem) | assumption); (case kdx4zq => (walk_at "m_room")); (case kux4zq => (walk_at "m_units")); intro t9 h9 tk9 le9 F9 N9; (try dsimp only at le9); (try (have lb9 := LB.tr (by (walk_at "lbt")) le9)); (try dsimp only); (try k_fold)) | (refine' pure_useB (p_commonM _ _ _ _ (by with_reducible assumption) (by with_reducible assumption) (by with_reducible assumption) (by with_reducible assumption) (by with_reducible assumption) (by with_reducible assumption)) ?k1x4zq ?k2x4zq ?k3x4zq ?k4x4zq ?k5x4zq ?kfx4zq ?kKx4zq ?kpx4zq ?kdx4zq ?kux4zq ?_; (case k1x4zq => k_asm); (case k2x4zq => k_asm); (case k3x4zq => k_asm); (case k4x4zq => k_asm); (case k5x4zq => k_asm); (case kfx4zq => exact rfl); (case kKx4zq => first | exact rfl | assumption); (case kpx4zq => first | trivial | exact News.isList (by k_asm) (by k_mem) | assumption); (case kdx4zq => (walk_at "m_room")); (case kux4zq => (walk_at "m_units")); intro h9 tk9 le9 F9 N9; (try dsimp only at le9); (try (have lb9 := LB.tr (by (walk_at "lbt")) le9)); (try dsimp only); (try k_fold))) | (first | (refine' pure_useLG (pure_L (p_below _ _ _ _ _ _ _ _ (by with_reducible assumption) (by with_reducible assumption)) (Nat.lt_of_le_of_lt (belowF_len _ _) (by with_reducible assumption))) ?k1x5zq ?k2x5zq ?k3x5zq ?k4x5zq ?k5x5zq ?kfx5zq ?kKx5zq ?kpx5zq ?kdx5zq ?kux5zq ?_; (case k1x5zq => k_asm); (case k2x5zq => k_asm); (case k3x5zq => k_asm); (case k4x5zq => k_asm); (case k5x5zq => k_asm); (case kfx5zq => exact rfl); (case kKx5zq => first | exact rfl | assumption); (case kpx5zq => first | trivial | exact News.isList (by k_asm) (by k_mem) | assumption); (case kdx5zq => (walk_at "m_room")); (case kux5zq => (walk_at "m_units")); intro y9 t9 h9 tk9 le9 q9 l9 g9 F9 N9; (try dsimp only at le9); (try (have lb9 := LB.tr (by (walk_at "lbt")) le9)); (try (have gb9 := LB.tr (by (walk_at "lbt")) g9.le)); (try dsimp only); (try k_fold)) | (refine' pure_useL (pure_L (p_below _ _ _ _ _ _ _ _ (by with_reducible assumption) (by with_reducible assumption)) (Nat.lt_of_le_of_lt (belowF_len _ _) (by with_reducible assumption))) ?k1x5zq ?k2x5zq ?k3x5zq ?k4x5zq ?k5x5zq ?kfx5zq ?kKx5zq ?kpx5zq ?kdx5zq ?kux5zq ?_; (case k1x5zq => k_asm); (case k2x5zq => k_asm); (case k3x5zq => k_asm); (case k4x5zq => k_asm); (case k5x5zq => k_asm); (case kfx5zq => exact rfl); (case kKx5zq => first | exact rfl | assumption); (case kpx5zq => first | trivial | exact News.isList (by k_asm) (by k_mem) | assumption); (case kdx5zq => (walk_at "m_room")); (case kux5zq => (walk_at "m_units")); intro y9 t9 h9 tk9 le9 q9 l9 F9 N9; (try dsimp only at le9); (try (have lb9 := LB.tr (by (walk_at "lbt")) le9)); (try dsimp only); (try k_fold)) | (refine' pure_useI (pure_L (p_below _ _ _ _ _ _ _ _ (by with_reducible assumption) (by with_reducible assumption)) (Nat.lt_of_le_of_lt (belowF_len _ _) (by with_reducible assumption))) ?k1x5zq ?k2x5zq ?k3x5zq ?k4x5zq ?k5x5zq ?kfx5zq ?kKx5zq ?kpx5zq ?kdx5zq ?kux5zq ?_; (case k1x5zq => k_asm); (case k2x5zq => k_asm); (case k3x5zq => k_asm); (case k4x5zq => k_asm); (case k5x5zq => k_asm); (case kfx5zq => exact rfl); (case kKx5zq => first | exact rfl | assumption); (case kpx5zq => first | trivial | exact News.isList (by k_asm) (by k_mem) | assumption); (case kdx5zq => (walk_at "m_room")); (case kux5zq => (walk_at "m_units")); intro t9 h9 tk9 le9 F9 N9; (try dsimp only at le9); (try (have lb9 := LB.tr (by (walk_at "lbt")) le9)); (try dsimp only); (try k_fold)) | (refine' pure_useS (pure_L (p_below _ _ _ _ _ _ _ _ (by with_reducible assumption) (by with_reducible assumption)) (Nat.lt_of_le_of_lt (belowF_len _ _) (by with_reducible assumption))) ?k1x5zq ?k2x5zq ?k3x5zq ?k4x5zq ?k5x5zq ?kfx5zq ?kKx5zq ?kpx5zq ?kdx5zq ?kux5zq ?_; (case k1x5zq => k_asm); (case k2x5zq => k_asm); (case k3x5zq => k_asm); (case k4x5zq => k_asm); (case k5x5zq => k_asm); (case kfx5zq => exact rfl); (case kKx5zq => first | exact rfl | assumption); (case kpx5zq => first | trivial | exact News.isList (by k_asm) (by k_mem) | assumption); (case kdx5zq => (walk_at "m_room")); (case kux5zq => (walk_at "m_units")); intro t9 h9 tk9 le9 F9 N9; (try dsimp only at le9); (try (have lb9 := LB.tr (by (walk_at "lbt")) le9)); (try dsimp only); (try k_fold)) | (refine' pure_useB (pure_L (p_below _ _ _ _ _ _ _ _ (by with_reducible assumption) (by with_reducible assumption)) (Nat.lt_of_le_of_lt (belowF_len _ _) (by with_reducible assumption))) ?k1x5zq ?k2x5zq ?k3x5zq ?k4x5zq ?k5x5zq ?kfx5zq ?kKx5zq ?kpx5zq ?kdx5zq ?kux5zq ?_; (case k1x5zq => k_asm); (case k2x5zq => k_asm); (case k3x5zq => k_asm); (case k4x5zq => k_asm); (case k5x5zq => k_asm); (case kfx5zq => exact rfl); (case kKx5zq => first | exact rfl | assumption); (case kpx5zq => first | trivial | exact News.isList (by k_asm) (by k_mem) | assumption); (case kdx5zq => (walk_at "m_room")); (case kux5zq => (walk_at "m_units")); intro h9 tk9 le9 F9 N9; (try dsimp only at le9); (try (have lb9 := LB.tr (by (walk_at "lbt")) le9)); (try dsimp only); (try k_fold))) | (first | (refine' pure_useLG (p_sub _ _ _ _ _ _ _ _) ?k1x6zq ?k2x6zq ?k3x6zq ?k4x6zq ?k5x6zq ?kfx6zq ?kKx6zq ?kpx6zq ?kdx6zq ?kux6zq ?_; (case k1x6zq => k_asm); (case k2x6zq => k_asm); (case k3x6zq => k_asm); (case k4x6zq => k_asm); (case k5x6zq => k_asm); (case kfx6zq => exact rfl); (case kKx6zq => first | exact rfl | assumption); (case kpx6zq => first | trivial | exact News.isList (by k_asm) (by k_mem) | assumption); (case kdx6zq => (walk_at "m_room")); (case kux6zq => (walk_at "m_units")); intro y9 t9 h9 tk9 le9 q9 l9 g9 F9 N9; (try dsimp only at le9); (try (have lb9 := LB.tr (by (walk_at "lbt")) le9)); (try (have gb9 := LB.tr (by (walk_at "lbt")) g9.le)); (try dsimp only); (try k_fold)) | (refine' pure_useL (p_sub _ _ _ _ _ _ _ _) ?k1x6zq ?k2x6zq ?k3x6zq ?k4x6zq ?k5x6zq ?kfx6zq ?kKx6zq ?kpx6zq ?kdx6zq ?kux6zq ?_; (case k1x6zq => k_asm); (case k2x6zq => k_asm); (case k3x6zq => k_asm); (case k4x6zq => k_asm); (case k5x6zq => k_asm); (case kfx6zq => exact rfl); (case kKx6zq => first | exact rfl | assumption); (case kpx6zq => first | trivial | exact News.isList (by k_asm) (by k_mem) | assumption); (case kdx6zq => (walk_at "m_room")); (case kux6zq => (walk_at "m_units")); intro y9 t9 h9 tk9 le9 q9 l9 F9 N9; (try dsimp only at le9); (try (have lb9 := LB.tr (by (walk_at "lbt")) le9)); (try dsimp only); (try k_fold)) | (refine' pure_useI (p_sub _ _ _ _ _ _ _ _) ?k1x6zq ?k2x6zq ?k3x6zq ?k4x6zq ?k5x6zq ?kfx6zq ?kKx6zq ?kpx6zq ?kdx6zq ?kux6zq ?_; (case k1x6zq => k_asm); (case k2x6zq => k_asm); (case k3x6zq => k_asm); (case k4x6zq => k_asm); (case k5x6zq => k_asm); (case kfx6zq => exact rfl); (case kKx6zq => first | exact rfl | assumption); (case kpx6zq => first | trivial | exact News.isList (by k_asm) (by k_mem) | assumption); (case kdx6zq => (walk_at "m_room")); (case kux6zq => (walk_at "m_units")); intro t9 h9 tk9 le9 F9 N9; (try dsimp only at le9); (try (have lb9 := LB.tr (by (walk_at "lbt")) le9)); (try dsimp only); (try k_fold)) | (refine' pure_useS (p_sub _ _ _ _ _ _ _ _) ?k1x6zq ?k2x6zq ?k3x6zq ?k4x6zq ?k5x6zq ?kfx6zq ?kKx6zq ?kpx6zq ?kdx6zq ?kux6zq ?_; (case k1x6zq => k_asm); (case k2x6zq => k_asm); (case k3x6zq => k_asm); (case k4x6zq => k_asm); (case k5x6zq => k_asm); (case kfx6zq => exact rfl); (case kKx6zq => first | exact rfl | assumption); (case kpx6zq => first | trivial | exact News.isList (by k_asm) (by k_mem) | assumption); (case kdx6zq => (walk_at "m_room")); (case kux6zq => (walk_at "m_units")); intro t9 h9 tk9 le9 F9 N9; (try dsimp only at le9); (try (have lb9 := LB.tr (by (walk_at "lbt")) le9)); (try dsimp only); (try k_fold)) | (refine' pure_useB (p_sub _ _ _ _ _ _ _ _) ?k1x6zq ?k2x6zq ?k3x6zq ?k4x6zq ?k5x6zq ?kfx6zq ?kKx6zq ?kpx6zq ?kdx6zq ?kux6zq ?_; (case k1x6zq => k_asm); (case k2x6zq => k_asm); (case k3x6zq => k_asm); (case k4x6zq => k_asm); (case k5x6zq => k_asm); (case kfx6zq => exact rfl); (case kKx6zq => first | exact rfl | assumption); (case kpx6zq => first | trivial | exact News.isList (by k_asm) (by k_mem) | assumption); (case kdx6zq => (walk_at "m_room")); (case kux6zq => (walk_at "m_units")); intro h9 tk9 le9 F9 N9; (try dsimp only at le9); (try (have lb9 := LB.tr (by (walk_at "lbt")) le9)); (try dsimp only); (try k_fold))) | (first | (refine' pure_useLG (p_subB _ _ _ _ _ _) ?k1x7zq ?k2x7zq ?k3x7zq ?k4x7zq ?k5x7zq ?kfx7zq ?kKx7zq ?kpx7zq ?kdx7zq ?kux7zq ?_; (case k1x7zq => k_asm); (case k2x7zq => k_asm); (case k3x7zq => k_asm); (case k4x7zq => k_asm); (case k5x7zq => k_asm); (case kfx7zq => exact rfl); (case kKx7zq => first | exact rfl | assumption); (case kpx7zq => first | trivial | exact News.isList (by k_asm) (by k_mem) | assumption); (case kdx7zq => (walk_at "m_room")); (case kux7zq => (walk_at "m_units")); intro y9 t9 h9 tk9 le9 q9 l9 g9 F9 N9; (try dsimp only at le9); (try (have lb9 := LB.tr (by (walk_at "lbt")) le9)); (try (have gb9 := LB.tr (by (walk_at "lbt")) g9.le)); (try dsimp only); (try k_fold)) | (refine' pure_useL (p_subB _ _ _ _ _ _) ?k1x7zq ?k2x7zq ?k3x7zq ?k4x7zq ?k5x7zq ?kfx7zq ?kKx7zq ?kpx7zq ?kdx7zq ?kux7zq ?_; (case k1x7zq => k_asm); (case k2x7zq => k_asm); (case k3x7zq => k_asm); (case k4x7zq => k_asm); (case k5x7zq => k_asm); (case kfx7zq => exact rfl); (case kKx7zq => first | exact rfl | assumption); (case kpx7zq => first | trivial | exact News.isList (by k_asm) (by k_mem) | assumption); (case kdx7zq => (walk_at "m_room")); (case kux7zq => (walk_at "m_units")); intro y9 t9 h9 tk9 le9 q9 l9 F9 N9; (try dsimp only at le9); (try (have lb9 := LB.tr (by (walk_at "lbt")) le9)); (try dsimp only); (try k_fold)) | (refine' pure_useI (p_subB _ _ _ _ _ _) ?k1x7zq ?k2x7zq ?k3x7zq ?k4x7zq ?k5x7zq ?kfx7zq ?kKx7zq ?kpx7zq ?kdx7zq ?kux7zq ?_; (case k1x7zq => k_asm); (case k2x7zq => k_asm); (case k3x7zq => k_asm); (case k4x7zq => k_asm); (case k5x7zq => k_asm); (case kfx7zq => exact rfl); (case kKx7zq => first | exact rfl | assumption); (case kpx7zq => first | trivial | exact News.isList (by k_asm) (by k_mem) | assumption); (case kdx7zq => (walk_at "m_room")); (case kux7zq => (walk_at "m_units")); intro t9 h9 tk9 le9 F9 N9; (try dsimp only at le9); (try (have lb9 := LB.tr (by (walk_at "lbt")) le9)); (try dsimp only); (try k_fold)) | (refine' pure_useS (p_subB _ _ _ _ _ _) ?k1x7zq ?k2x7zq ?k3x7zq ?k4x7zq ?k5x7zq ?kfx7zq ?kKx7zq ?kpx7zq ?kdx7zq ?kux7zq ?_; (case k1x7zq => k_asm); (case k2x7zq => k_asm); (case k3x7zq => k_asm); (case k4x7zq => k_asm); (case k5x7zq => k_asm); (case kfx7zq => exact rfl); (case kKx7zq => first | exact rfl | assumption); (case kpx7zq => first | trivial | exact News.isList (by k_asm) (by k_mem) | assumption); (case kdx7zq => (walk_at "m_room")); (case kux7zq => (walk_at "m_units")); intro t9 h9 tk9 le9 F9 N9; (try dsimp only at le9); (try (have lb9 := LB.tr (by (walk_at "lbt")) le9)); (try dsimp only); (try k_fold)) | (refine' pure_useB (p_subB _ _ _ _ _ _) ?k1x7zq ?k2x7zq ?k3x7zq ?k4x7zq ?k5x7zq ?kfx7zq ?kKx7zq ?kpx7zq ?kdx7zq ?kux7zq ?_; (case k1x7zq => k_asm); (case k2x7zq => k_asm); (case k3x7zq => k_asm); (case k4x7zq => k_asm); (case k5x7zq => k_asm); (case kfx7zq => exact rfl); (case kKx7zq => first | exact rfl | assumption); (case kpx7zq => first | trivial | exact News.isList (by k_asm) (by k_mem) | assumption); (case kdx7zq => (walk_at "m_room")); (case kux7zq => (walk_at "m_units")); intro h9 tk9 le9 F9 N9; (try dsimp only at le9); (try (have lb9 := LB.tr (by (walk_at "lbt")) le9)); (try dsimp only); (try k_fold))) | (first | (refine' pure_useLG (p_lt _ _ _ _ _ _ _ _ (by with_reducible assumption) (by with_reducible assumption)) ?k1x8zq ?k2x8zq ?k3x8zq ?k4x8zq ?k5x8zq ?kfx8zq ?kKx8zq ?kpx8zq ?kdx8zq ?kux8zq ?_; (case k1x8zq => k_asm); (case k2x8zq => k_asm); (case k3x8zq => k_asm); (case k4x8zq => k_asm); (case k5x8zq => k_asm); (case kfx8zq => exact rfl); (case kKx8zq => first | exact rfl | assumption); (case kpx8zq => first | trivial | exact News.isList (by k_asm) (by k_mem) | assumption); (case kdx8zq => (walk_at "m_room")); (case kux8zq => (walk_at "m_units")); intro y9 t9 h9 tk9 le9 q9 l9 g9 F9 N9; (try dsimp only at le9); (try (have lb9 := LB.tr (by (walk_at "lbt")) le9)); (try (have gb9 := LB.tr (by (walk_at "lbt")) g9.le)); (try dsimp only); (try k_fold)) | (refine' pure_useL (p_lt _ _ _ _ _ _ _ _ (by with_reducible assumption) (by with_reducible assumption)) ?k1x8zq ?k2x8zq ?k3x8zq ?k4x8zq ?k5x8zq ?kfx8zq ?kKx8zq ?kpx8zq ?kdx8zq ?kux8zq ?_; (case k1x8zq => k_asm); (case k2x8zq => k_asm); (case k3x8zq => k_asm); (case k4x8zq => k_asm); (case k5x8zq => k_asm); (case kfx8zq => exact rfl); (case kKx8zq => first | exact rfl | assumption); (case kpx8zq => first | trivial | exact News.isList (by k_asm) (by k_mem) | assumption); (case kdx8zq => (walk_at "m_room")); (case kux8zq => (walk_at "m_units")); intro y9 t9 h9 tk9 le9 q9 l9 F9 N9; (try dsimp only at le9); (try (have lb9 := LB.tr (by (walk_at "lbt")) le9)); (try dsimp only); (try k_fold)) | (refine' pure_useI (p_lt _ _ _ _ _ _ _ _ (by with_reducible assumption) (by with_reducible assumption)) ?k1x8zq ?k2x8zq ?k3x8zq ?k4x8zq ?k5x8zq ?kfx8zq ?kKx8zq ?kpx8zq ?kdx8zq ?kux8zq ?_; (case k1x8zq => k_asm); (case k2x8zq => k_asm); (case k3x8zq => k_asm); (case k4x8zq => k_asm); (case k5x8zq => k_asm); (case kfx8zq => exact rfl); (case kKx8zq => first | exact rfl | assumption); (case kpx8zq => first | trivial | exact News.isList (by k_asm) (by k_mem) | assumption); (case kdx8zq => (walk_at "m_room")); (case kux8zq => (walk_at "m_units")); intro t9 h9 tk9 le9 F9 N9; (try dsimp only at le9); (try (have lb9 := LB.tr (by (walk_at "lbt")) le9)); (try dsimp only); (try k_fold)) | (refine' pure_useS (p_lt _ _ _ _ _ _ _ _ (by with_reducible assumption) (by with_reducible assumption)) ?k1x8zq ?k2x8zq ?k3x8zq ?k4x8zq ?k5x8zq ?kfx8zq ?kKx8zq ?kpx8zq ?kdx8zq ?kux8zq ?_; (case k1x8zq => k_asm); (case k2x8zq => k_asm); (case k3x8zq => k_asm); (case k4x8zq => k_asm); (case k5x8zq => k_asm); (case kfx8zq => exact rfl); (case kKx8zq => first | exact rfl | assumption); (case kpx8zq => first | trivial | exact News.isList (by k_asm) (by k_mem) | assumption); (case kdx8zq => (walk_at "m_room")); (case kux8zq => (walk_at "m_units")); intro t9 h9 tk9 le9 F9 N9; (try dsimp only at le9); (try (have lb9 := LB.tr (by (walk_at "lbt")) le9)); (try dsimp only); (try k_fold)) | (refine' pure_useB (p_lt _ _ _ _ _ _ _ _ (by with_reducible assumption) (by with_reducible assumption)) ?k1x8zq ?k2x8zq ?k3x8zq ?k4x8zq ?k5x8zq ?kfx8zq ?kKx8zq ?kpx8zq ?kdx8zq ?kux8zq ?_; (case k1x8zq => k_asm); (case k2x8zq => k_asm); (case k3x8zq => k_asm); (case k4x8zq => k_asm); (case k5x8zq => k_asm); (case kfx8zq => exact rfl); (case kKx8zq => first | exact rfl | assumption); (case kpx8zq => first | trivial | exact News.isList (by k_asm) (by k_mem) | assumption); (case kdx8zq => (walk_at "m_room")); (case kux8zq => (walk_at "m_units")); intro h9 tk9 le9 F9 N9; (try dsimp only at le9); (try (have lb9 := LB.tr (by (walk_at "lbt")) le9)); (try dsimp only); (try k_fold))) | (first | (refine' pure_useLG (p_gt _ _ _ _ _ _ _ _ (by with_reducible assumption) (by with_reducible assumption)) ?k1x9zq ?k2x9zq ?k3x9zq ?k4x9zq ?k5x9zq ?kfx9zq ?kKx9zq ?kpx9zq ?kdx9zq ?kux9zq ?_; (case k1x9zq => k_asm); (case k2x9zq => k_asm); (case k3x9zq => k_asm); (case k4x9zq => k_asm); (case k5x9zq => k_asm); (case kfx9zq => exact rfl); (case kKx9zq => first | exact rfl | assumption); (case kpx9zq => first | trivial | exact News.isList (by k_asm) (by k_mem) | assumption); (case kdx9zq => (walk_at "m_room")); (case kux9zq => (walk_at "m_units")); intro y9 t9 h9 tk9 le9 q9 l9 g9 F9 N9; (try dsimp only at le9); (try (have lb9 := LB.tr (by (walk_at "lbt")) le9)); (try (have gb9 := LB.tr (by (walk_at "lbt")) g9.le)); (try dsimp only); (try k_fold)) | (refine' pure_useL (p_gt _ _ _ _ _ _ _ _ (by with_reducible assumption) (by with_reducible assumption)) ?k1x9zq ?k2x9zq ?k3x9zq ?k4x9zq ?k5x9zq ?kfx9zq ?kKx9zq ?kpx9zq ?kdx9zq ?kux9zq ?_; (case k1x9zq => k_asm); (case k2x9zq => k_asm); (case k3x9zq => k_asm); (case k4x9zq => k_asm); (case k5x9zq => k_asm); (case kfx9zq => exact rfl); (case kKx9zq => first | exact rfl | assumption); (case kpx9zq => first | trivial | exact News.isList (by k_asm) (by k_mem) | assumption); (case kdx9zq => (walk_at "m_room")); (case kux9zq => (walk_at "m_units")); intro y9 t9 h9 tk9 le9 q9 l9 F9 N9; (try dsimp only at le9); (try (have lb9 := LB.tr (by (walk_at "lbt")) le9)); (try dsimp only); (try k_fold)) | (refine' pure_useI (p_gt _ _ _ _ _ _ _ _ (by with_reducible assumption) (by with_reducible assumption)) ?k1x9zq ?k2x9zq ?k3x9zq ?k4x9zq ?k5x9zq ?kfx9zq ?kKx9zq ?kpx9zq ?kdx9zq ?kux9zq ?_; (case k1x9zq => k_asm); (case k2x9zq => k_asm); (case k3x9zq => k_asm); (case k4x9zq => k_asm); (case k5x9zq => k_asm); (case kfx9zq => exact rfl); (case kKx9zq => first | exact rfl | assumption); (case kpx9zq => first | trivial | exact News.isList (by k_asm) (by k_mem) | assumption); (case kdx9zq => (walk_at "m_room")); (case kux9zq => (walk_at "m_units")); intro t9 h9 tk9 le9 F9 N9; (try dsimp only at le9); (try (have lb9 := LB.tr (by (walk_at "lbt")) le9)); (try dsimp only); (try k_fold)) | (refine' pure_useS (p_gt _ _ _ _ _ _ _ _ (by with_reducible assumption) (by with_reducible assumption)) ?k1x9zq ?k2x9zq ?k3x9zq ?k4x9zq ?k5x9zq ?kfx9zq ?kKx9zq ?kpx9zq ?kdx9zq ?kux9zq ?_; (case k1x9zq => k_asm); (case k2x9zq => k_asm); (case k3x9zq => k_asm); (case k4x9zq => k_asm); (case k5x9zq => k_asm); (case kfx9zq => exact rfl); (case kKx9zq => first | exact rfl | assumption); (case kpx9zq => first | trivial | exact News.isList (by k_asm) (by k_mem) | assumption); (case kdx9zq => (walk_at "m_room")); (case kux9zq => (walk_at "m_units")); intro t9 h9 tk9 le9 F9 N9; (try dsimp only at le9); (try (have lb9 := LB.tr (by (walk_at "lbt")) le9)); (try dsimp only); (try k_fold)) | (refine' pure_useB (p_gt _ _ _ _ _ _ _ _ (by with_reducible assumption) (by with_reducible assumption)) ?k1x9zq ?k2x9zq ?k3x9zq ?k4x9zq ?k5x9zq ?kfx9zq ?kKx9zq ?kpx9zq ?kdx9zq ?kux9zq ?_; (case k1x9zq => k_asm); (case k2x9zq => k_asm); (case k3x9zq => k_asm); (case k4x9zq => k_asm); (case k5x9zq => k_asm); (case kfx9zq => exact rfl); (case kKx9zq => first | exact rfl | assumption); (case kpx9zq => first | trivial | exact News.isList (by k_asm) (by k_mem) | assumption); (case kdx9zq => (walk_at "m_room")); (case kux9zq => (walk_at "m_units")); intro h9 tk9 le9 F9 N9; (try dsimp only at le9); (try (have lb9 := LB.tr (by (walk_at "lbt")) le9)); (try dsimp only); (try k_fold)))))
  exact trivial
theorem listed1 {a b y : Str} (e : y = comF a b) (h : (y == a) = true) : (a.length : Int) - b.length = listedF a b := by
  unfold listedF; rw [← e, if_pos (Or.inl (by simpa using h))]
theorem listed2 {a b y : Str} (e : y = comF a b) (h : (y == b) = true) : (a.length : Int) - b.length = listedF a b := by
  unfold listedF; rw [← e, if_pos (Or.inr (by simpa using h))]
theorem listed3 {a b y l r : Str} (e : y = comF a b) (el : l = belowF y a) (er : r = belowF y b) (h : (y == a) = false) (h' : (y == b) = false) :
    b2i (decide (r.cps.toList < l.cps.toList)) - b2i (decide (l.cps.toList < r.cps.toList)) = listedF a b := by
  unfold listedF; rw [← e, if_neg (fun o => o.elim (by simpa using h) (by simpa using h')), ← el, ← er]
theorem p_listed (a b : Str) (t u : Tok) (h : a.length < 1000) (hb : b.length < 1000) (hc : (comF a b).length < 1000) (ha' : Txt.startswith a (Str.ofString "/") = true) (hb' : Txt.startswith b (Str.ofString "/") = true) : Pure w mean mg mb 5 220 [.str a t, .str b u] yes (isI (listedF a b)) := by
  have mk' : Mk (a, b) := .mk
  (walk_at "p_open")
  k_dflt (walk_at "m_enter")
  k_steps
  all_goals ((walk_at "p_end"); refine ⟨_, congrArg (Value.int · _) ?_⟩)
  all_goals first | exact listed1 (by with_reducible assumption) (by with_reducible assumption) | exact listed2 (by with_reducible assumption) (by with_reducible assumption) | exact listed3 (by with_reducible assumption) (by with_reducible assumption) (by with_reducible assumption) (by with_reducible assumption) (by with_reducible assumption)
example : True := by
  k_with "execs cons" => (k_here; k_dflt (refine execs_Q (by k_asm) rfl (by (walk_at "lbt")) ?_; intro tk' lc' lb' Qt' hq'; clear lc'))
  k_with "call builtin:str.replace" => (k_here; (with_reducible show wpAny _ _ (call (Value.builtin "str.replace") [Value.str _ _, Value.str _ _, Value.str _ _]) _ _ _); k_dflt (refine' replace_E ?ezq ?nzq ?uzq ?vzq ?uvzq ?yzzq ?xzq ?zzq ?_; (case ezq => with_reducible assumption); (case nzq => (walk_at "lbt")); (case uzq => exact LB.ne (by (walk_at "lbt")) (by assumption)); (case vzq => exact LB.ne (by (walk_at "lbt")) (by assumption)); (case uvzq => exact Nat.ne_of_lt (Nat.lt_succ_self _)); (case yzzq => decide); (case xzq => omega); (case zzq => decide)); intro t' k' lb')
  exact trivial
noncomputable def sharedF (a b : Str) : Str := comF (Txt.replace a (Str.ofString "/") (Str.ofString "//./")) (Txt.replace b (Str.ofString "/") (Str.ofString "/.//"))
theorem p_shared (a b c d : Str) (t u : Tok) (h : a.length < 1000) (hb : b.length < 1000) (ec : Txt.replace a (Str.ofString "/") (Str.ofString "//./") = c) (ed : Txt.replace b (Str.ofString "/") (Str.ofString "/.//") = d)
    (hc : (comF c d).length < 1000) (hlc : c.length < 1000) (hld : d.length < 1000) (ha' : Txt.startswith c (Str.ofString "/") = true) (hb' : Txt.startswith d (Str.ofString "/") = true) : Pure w mean mg mb 5 227 [.str a t, .str b u] (fun s => 0 < s.toks) (isLG (comF c d)) := by
  have mk' : Mk (c, d) := .mk
  (walk_at "p_open")
  have h0 : 0 < s.toks := hpre
  k_dflt (walk_at "m_enter")
  have lb0 : LB s.toks (s.toks + 2) := ⟨by omega⟩
  k_steps
  all_goals ((walk_at "p_end"); exact ⟨_, _, rfl, by assumption, by assumption, by assumption⟩)
end
end
-- MadeP
example : True := by
  w_top off
  k_with_none
  exact trivial
section

section
noncomputable def S1 : Str := Str.ofString "/"
noncomputable def S2 : Str := Str.ofString "//"
noncomputable def c1F (p : Str) : Str := Txt.replace p S1 S2
noncomputable def climbF (p : Str) : Str := Txt.replace (dirF (c1F p)) S2 S1
noncomputable def nmF : List Str := [Str.ofString "b", Str.ofString "a-", Str.ofString "a", Str.ofString "ab", Str.ofString "a.b", Str.ofString "c"]
noncomputable def UF : Nat → List Str
  | 0 => [S1]
  | k + 1 => UF k ++ (UF k).map fun p => joinF p (nmF.getD k S1)
structure Good (p : Str) : Prop where
  len : p.length < 1000
  pos : 0 < p.length
  st : Txt.startswith p S1 = true
  l1 : (c1F p).length < 1000
  occ : (Builtin.Str.occurrences (dirF (c1F p)) S2 0 (dirF (c1F p)).length ((dirF (c1F p)).length + 1)).isEmpty = false
noncomputable def goodB (p : Str) : Bool := decide (p.length < 1000) && decide (0 < p.length) && Txt.startswith p S1 && decide ((c1F p).length < 1000) && !(Builtin.Str.occurrences (dirF (c1F p)) S2 0 (dirF (c1F p)).length ((dirF (c1F p)).length + 1)).isEmpty
theorem good_of {p : Str} (h : goodB p = true) : Good p := by
  simp only [goodB, Bool.and_eq_true, decide_eq_true_eq, Bool.not_eq_true'] at h
  exact ⟨h.1.1.1.1, h.1.1.1.2, h.1.1.2, h.1.2, h.2⟩
theorem U_good : (UF 6).all goodB = true := by decide +kernel
theorem U_climb : (List.range 6).all (fun k => (UF k).all fun p => climbF (joinF p (nmF.getD k S1)) == p && (joinF p (nmF.getD k S1) != S1)) = true := by decide +kernel
theorem nm_ok : (List.range 6).all (fun k => decide (0 < (nmF.getD k S1).length) && decide ((nmF.getD k S1).length < 1000) && !Txt.startswith (nmF.getD k S1) S1) = true := by decide +kernel
theorem good_U {p : Str} (h : p ∈ UF 6) : Good p := good_of (List.all_eq_true.mp U_good p h)
theorem UF_sub {k : Nat} : ∀ {j : Nat}, k ≤ j → ∀ p ∈ UF k, p ∈ UF j
  | 0, h, p, hp => by have : k = 0 := Nat.le_zero.mp h; exact this ▸ hp
  | j + 1, h, p, hp => by
    rcases Nat.lt_succ_iff_lt_or_eq.mp (Nat.lt_succ_of_le h) with h | h
    · exact List.mem_append_left _ (UF_sub (Nat.le_of_lt_succ h) p hp)
    · exact h ▸ hp
theorem climb_join {k : Nat} (hk : k < 6) {p : Str} (hp : p ∈ UF k) : climbF (joinF p (nmF.getD k S1)) = p ∧ joinF p (nmF.getD k S1) ≠ S1 := by
  have h := List.all_eq_true.mp (List.all_eq_true.mp U_climb k (List.mem_range.mpr hk)) p hp
  simp only [Bool.and_eq_true, beq_iff_eq, bne_iff_ne] at h
  exact h
noncomputable def findF (ps : List Str) (p : Str) : Nat := (ps ++ ps).findIdx (· == p)
noncomputable def goUp (ns : List Int) (ps : List Str) (k : Nat) (p : Str) : Str := if (p != S1) = true ∧ ns.getD k 0 ≤ ns.getD (findF ps p - 1) 0 then climbF p else p
noncomputable def upN (ns : List Int) (ps : List Str) (k : Nat) (p : Str) : Nat → Str
  | 0 => p
  | i + 1 => goUp ns ps k (upN ns ps k p i)
noncomputable def nextP (ns : List Int) (ps : List Str) (k : Nat) : List Str := ps ++ [joinF (upN ns ps k (ps.getLastD S1) k) (nmF.getD k S1)]
noncomputable def madeN (ns : List Int) : Nat → List Str
  | 0 => [S1]
  | k + 1 => nextP ns (madeN ns k) k
noncomputable def madeF (ns : List Int) : List Str := (madeN ns 6).drop 1
structure MadeInv (ps : List Str) (k : Nat) : Prop where
  len : ps.length = k + 1
  first : ps[0]? = some S1
  sub : ∀ p ∈ ps, p ∈ UF k
  up : ∀ p ∈ ps, p ≠ S1 → climbF p ∈ ps
theorem MadeInv.zero : MadeInv [S1] 0 := ⟨rfl, rfl, fun p hp => hp, fun p hp h => absurd (List.mem_singleton.mp hp) h⟩
theorem MadeInv.goUp {ns : List Int} {ps : List Str} {k : Nat} (M : MadeInv ps k) {p : Str} (hp : p ∈ ps) : Mine.goUp ns ps k p ∈ ps := by
  unfold Mine.goUp
  split
  · rename_i h; exact M.up p hp (by simpa using h.1)
  · exact hp
theorem MadeInv.upN {ns : List Int} {ps : List Str} {k : Nat} (M : MadeInv ps k) {p : Str} (hp : p ∈ ps) : ∀ i, Mine.upN ns ps k p i ∈ ps
  | 0 => hp
  | i + 1 => M.goUp (M.upN hp i)
theorem MadeInv.last {ps : List Str} {k : Nat} (M : MadeInv ps k) : ps.getLastD S1 ∈ ps := by
  cases ps with
  | nil => have := M.len; simp at this
  | cons p ps => rw [List.getLastD_cons]; exact List.getLastD_mem_cons
theorem MadeInv.next {ps : List Str} {k : Nat} (M : MadeInv ps k) (hk : k < 6) {q : Str} (hq : q ∈ ps) : MadeInv (ps ++ [joinF q (nmF.getD k S1)]) (k + 1) := by
  refine ⟨by rw [List.length_append, M.len]; rfl, by rw [List.getElem?_append_left (by rw [M.len]; exact Nat.succ_pos _)]; exact M.first, fun p hp => ?_, fun p hp h => ?_⟩
  · rcases List.mem_append.mp hp with hp | hp
    · exact List.mem_append_left _ (M.sub p hp)
    · rw [List.mem_singleton.mp hp]; exact List.mem_append_right _ (List.mem_map_of_mem (f := fun p => joinF p (nmF.getD k S1)) (M.sub q hq))
  · rcases List.mem_append.mp hp with hp | hp
    · exact List.mem_append_left _ (M.up p hp h)
    · rw [List.mem_singleton.mp hp, (climb_join hk (M.sub q hq)).1]; exact List.mem_append_left _ hq
theorem find_lt {ps : List Str} {p : Str} (h : p ∈ ps) : findF ps p < ps.length := by
  unfold findF
  rw [List.findIdx_append]
  have : List.findIdx (fun x => x == p) ps < ps.length := List.findIdx_lt_length_of_exists ⟨p, h, by simp⟩
  rw [if_pos this]; exact this
theorem MadeInv.find {ps : List Str} {k : Nat} (M : MadeInv ps k) {p : Str} (h : p ∈ ps) (hn : p ≠ S1) : 0 < findF ps p ∧ findF ps p - 1 < k := by
  have h1 := find_lt h
  rw [M.len] at h1
  have h2 : 0 < findF ps p := by
    rcases Nat.eq_zero_or_pos (findF ps p) with h0 | h0
    · exfalso
      have hl : 0 < (ps ++ ps).length := by rw [List.length_append, M.len]; omega
      have := (List.findIdx_eq hl).mp h0
      have e : (ps ++ ps)[0] = S1 := by
        have := M.first
        rw [List.getElem?_eq_getElem (by rw [M.len]; omega)] at this
        rw [List.getElem_append_left (by rw [M.len]; omega)]
        exact Option.some.inj this
      rw [e] at this
      exact hn (by simpa using this.1 : S1 = p).symm
    · exact h0
  omega
theorem madeInv (ns : List Int) : ∀ {k : Nat}, k ≤ 6 → MadeInv (madeN ns k) k
  | 0, _ => MadeInv.zero
  | k + 1, h => (madeInv ns (Nat.le_of_succ_le h)).next h ((madeInv ns (Nat.le_of_succ_le h)).upN (madeInv ns (Nat.le_of_succ_le h)).last k)
structure TokInv (pl : List (Str × Tok)) (n : Nat) : Prop where
  nz : ∀ p ∈ pl, p.2 ≠ 0
  lt : ∀ p ∈ pl, (p.2 : Nat) < n
  eq : ∀ p ∈ pl, ∀ q ∈ pl, p.2 = q.2 → p.1 = q.1
structure PlaceOk (pl : List (Str × Tok)) (x : Str) (t : Tok) : Prop where
  mem : x ∈ pl.map (·.1)
  nz : t ≠ 0
  eq : ∀ q ∈ pl, q.2 = t → q.1 = x
theorem TokInv.last {pl : List (Str × Tok)} {n : Nat} (T : TokInv pl n) {x : Str} {t : Tok} (h : pl.getLast? = some (x, t)) : PlaceOk pl x t := by
  have hm : (x, t) ∈ pl := List.mem_of_getLast? h
  exact ⟨List.mem_map_of_mem (f := fun p : Str × Tok => p.1) hm, T.nz _ hm, fun q hq e => T.eq q hq (x, t) hm e⟩
theorem TokInv.le {pl : List (Str × Tok)} {n k : Nat} (T : TokInv pl n) (h : n ≤ k) : TokInv pl k := ⟨T.nz, fun p hp => Nat.lt_of_lt_of_le (T.lt p hp) h, T.eq⟩
theorem TokInv.push {pl : List (Str × Tok)} {n t k : Nat} {x : Str} (T : TokInv pl n) (h0 : 0 < n) (h1 : n ≤ t) (h2 : t < k) : TokInv (pl ++ [(x, t)]) k := by
  have key : ∀ p ∈ pl, p.2 ≠ t := fun p hp e => absurd (T.lt p hp) (by rw [e]; exact Nat.not_lt.mpr h1)
  refine ⟨fun p hp => ?_, fun p hp => ?_, fun p hp q hq e => ?_⟩
  · rcases List.mem_append.mp hp with hp | hp
    · exact T.nz p hp
    · rw [List.mem_singleton.mp hp]; exact Nat.ne_of_gt (Nat.lt_of_lt_of_le h0 h1)
  · rcases List.mem_append.mp hp with hp | hp
    · exact Nat.lt_trans (Nat.lt_of_lt_of_le (T.lt p hp) h1) h2
    · rw [List.mem_singleton.mp hp]; exact h2
  · rcases List.mem_append.mp hp with hp | hp <;> rcases List.mem_append.mp hq with hq | hq
    · exact T.eq p hp q hq e
    · rw [List.mem_singleton.mp hq] at e; exact absurd e (key p hp)
    · rw [List.mem_singleton.mp hp] at e; exact absurd e.symm (key q hq)
    · rw [List.mem_singleton.mp hp, List.mem_singleton.mp hq]
theorem fresh_ok {pl : List (Str × Tok)} {n t : Nat} {x : Str} (T : TokInv pl n) (h0 : 0 < n) (h1 : n ≤ t) (hm : x ∈ pl.map (·.1)) : PlaceOk pl x t :=
  ⟨hm, Nat.ne_of_gt (Nat.lt_of_lt_of_le h0 h1), fun q hq e => absurd (T.lt q hq) (by rw [e]; exact Nat.not_lt.mpr h1)⟩
end
end
-- Lst3
example : True := by
  w_top off
  k_with_none
  exact trivial
section
open PySem.Builtin PySem.Builtin.Str
section
noncomputable abbrev intsV (ns : List (Int × Tok)) : List Value := ns.map fun p => .int p.1 p.2
section
variable {prog : Program} {w : World} {A : Around} {E : Value → Shared → Prop} {s : Shared} {h₀ : Heap} {L : Addr} {m : Str → Option Value} {news : List (Addr × Obj)} {Q : Value → Shared → Prop}
theorem item0 {value slice : Expr} {l : Addr} {vs : List Value} {k : Int} {j : Nat} {u : Tok} {v : Value} (hl : h₀.IsList l vs.toArray) (F : Fr h₀ L s.heap m) (hk : k = (j : Int)) (hx : vs[j]? = some v) (hj : j < 2000) (h : Q v s)
    (hs : subscripted slice false (.ref l) (.int k u) = operate [.ref l, .int k u] (getItem (.ref l) (.int k u)) := by with_unfolding_all rfl) :
    wpAny (model prog w) A (subscriptTail value slice (.ref l) (.int k u)) Q E s := by
  have hl' : s.heap.IsList l vs.toArray := hl.at fun o e => F.keep l o e
  subst hk
  exact tail_any hl'.typeIs slot_list_getitem.lookup (wpAny_getItem_list hl' (Int.natCast_nonneg j) (by omega) (by simpa using hx) h) hs
theorem last_own {value slice : Expr} {l : Addr} {zs : List (Str × Tok)} {n : Nat} {u tx : Tok} {x : Str} (N : News h₀ L s.heap news) (hm : (l, strsO zs n) ∈ news) (hx : zs.getLast? = some (x, tx)) (h : Q (.str x tx) s)
    (hs : subscripted slice false (.ref l) (.int (-1) u) = operate [.ref l, .int (-1) u] (getItem (.ref l) (.int (-1) u)) := by with_unfolding_all rfl) :
    wpAny (model prog w) A (subscriptTail value slice (.ref l) (.int (-1) u)) Q E s := by
  have hl : s.heap.IsList l (strValues zs).toArray := ⟨_, (N _ hm).1, rfl, n, rfl⟩
  have hsz : (strValues zs).toArray.size = zs.length := by simp [strValues]
  have hne : 0 < zs.length := by
    cases zs with
    | nil => cases hx
    | cons _ _ => exact Nat.succ_pos _
  refine tail_any hl.typeIs slot_list_getitem.lookup (wpAny_getItem_list_neg (x := .str x tx) hl (by decide) (by rw [hsz]; omega) (by decide) ?_ h) hs
  rw [hsz]
  have e : ((-1 : Int) + (zs.length : Int)).toNat = zs.length - 1 := by omega
  rw [e]
  rw [List.getLast?_eq_getElem?] at hx
  simp only [List.getElem?_toArray, strValues, List.getElem?_map, hx, Option.map_some]
theorem cat_own {a b : Addr} {zs ys : List (Str × Tok)} {n1 n2 : Nat} (F : Fr h₀ L s.heap m) (N : News h₀ L s.heap news) (ha : (a, strsO zs n1) ∈ news) (hb : (b, strsO ys n2) ∈ news) (hz : zs.length < 2000) (hy : ys.length < 2000)
    (h : ∀ D h', Fr h₀ L h' m → News h₀ L h' ((D, strsO (zs ++ ys) 0) :: news) → (∀ p ∈ news, p.1 < D) → Q (.ref D) { s with heap := h' }) : wpAny (model prog w) A (binaryOp .Add (.ref a) (.ref b)) Q E s := by
  have hla : s.heap.IsList a (strValues zs).toArray := ⟨_, (N _ ha).1, rfl, n1, rfl⟩
  have hlb : s.heap.IsList b (strValues ys).toArray := ⟨_, (N _ hb).1, rfl, n2, rfl⟩
  refine kmk_add_lit F N hla hlb (zs := strValues (zs ++ ys)) (by simp [strValues]) h ?_
  simp only [strValues, List.length_map]
  rw [PySem.sizeLine_eq]; omega
theorem append_S {D : Addr} {zs : List (Str × Tok)} {n : Nat} {x : Str} {t : Tok} {news' : List (Addr × Obj)} (F : Fr h₀ L s.heap m) (N : News h₀ L s.heap news) (U : Upd D (strsO zs n) (strsO (zs ++ [(x, t)]) (n + 1)) news news') (hz : zs.length < 2000)
    (h : ∀ h', Fr h₀ L h' m → News h₀ L h' news' → Q .none { s with heap := h' }) : wpAny (model prog w) A (call (.builtin "list.append") [.ref D, .str x t]) Q E s := by
  have e : (strValues zs).toArray.push (.str x t) = (strValues (zs ++ [(x, t)])).toArray := by simp [strValues]
  refine append_K (its := (strValues zs).toArray) (n := n) F N ?_ h (hsz := by simp only [List.size_toArray, strValues, List.length_map]; rw [PySem.sizeLine_eq]; omega)
  rw [e]; exact U
theorem slice1_own {value slice : Expr} {l : Addr} {zs : List (Str × Tok)} {n : Nat} {u : Tok} (F : Fr h₀ L s.heap m) (N : News h₀ L s.heap news) (hm : (l, strsO zs n) ∈ news) (hz : zs.length < 2000)
    (h : ∀ D h', Fr h₀ L h' m → News h₀ L h' ((D, strsO (zs.drop 1) 0) :: news) → (∀ p ∈ news, p.1 < D) → Q (.ref D) { s with heap := h' })
    (hs : subscripted slice false (.ref l) (.ref s.heap.objs.size) = operate [.ref s.heap.objs.size, .ref l] (getItem (.ref l) (.ref s.heap.objs.size))) (ht : ∀ r, letTemporaryGo value (.ref l) r = pure ()) :
    wpAny (model prog w) A (subscriptTail value slice (.ref l) (.ref s.heap.objs.size)) Q E { s with heap := s.heap.push { cls := .type "slice", data := .fields #[.int 1 u, .none, .none] } } := by
  have hl : s.heap.IsList l (strValues zs).toArray := ⟨_, (N _ hm).1, rfl, n, rfl⟩
  refine kms_slice_lit F N hl (.int 1 u) .none (zs := strValues (zs.drop 1)) ?_ h hs ht (by rw [sizeLine_eq, List.size_toArray, strValues, List.length_map]; omega)
  have h0 : ¬ ((1 : Int) < 0) := by decide
  simp only [kms_pick, kms_lo, kms_hi, if_neg h0, strValues, List.map_drop, List.length_map]
  cases zs with
  | nil => rfl
  | cons z zs =>
    simp
    exact List.take_of_length_le (by simp)
theorem replace_F {x y z c : Str} {t u v : Tok} (e : Txt.replace x y z = c) (hne : (Builtin.Str.occurrences x y 0 x.length (x.length + 1)).isEmpty = false) (hy : 0 < y.length) (hu : u ≠ 0) (hv : v ≠ 0) (huv : u ≠ v) (hyz : (y == z) = false) (hx : x.length ≤ 1048576) (hz : z.length ≤ 14)
    (hq : Q (.str c s.toks) { s with toks := s.toks + 1 }) : wpAny (model prog w) A (call (.builtin "str.replace") [.str x t, .str y u, .str z v]) Q E s := by
  have hb : x.length + (x.length + 1) * z.length ≤ 16777216 := by
    have h1 : (x.length + 1) * z.length ≤ (x.length + 1) * 14 := Nat.mul_le_mul_left _ hz
    omega
  have hl : tooLong (x.length + (Builtin.Str.occurrences x y 0 x.length (x.length + 1)).length * z.length) = false := by
    have h1 := StrLaws.occ_length_le x y 0 x.length (x.length + 1)
    have h2 : (Builtin.Str.occurrences x y 0 x.length (x.length + 1)).length * z.length ≤ (x.length + 1) * z.length := Nat.mul_le_mul_right _ h1
    unfold tooLong sizeLine
    exact decide_eq_false (by omega)
  have hc : ((Builtin.Str.occurrences x y 0 x.length (x.length + 1)).isEmpty || (y.length == 0 && z.length == 0)) = false := by
    have h3 : (y.length == 0) = false := by simp only [beq_eq_false_iff_ne]; omega
    rw [hne, h3]; rfl
  refine call_gives F.slot_str_replace (typeIs_str _ _ _) F.entry_str_replace (F.args_str_replace_3 _ _ _)
    (gives_str_replace x y z t u v fun _ => ⟨by simp [hu, hv], by simp [huv], hyz, hl⟩) ?_
  rw [if_neg (by rw [hc]; exact Bool.false_ne_true)]
  have e' : Builtin.Str.glued z (Builtin.Str.partsBetween x (Builtin.Str.occurrences x y 0 x.length (x.length + 1)) y.length) = c := by
    rw [← e]; unfold Txt.replace; rw [if_neg (by rw [hc]; exact Bool.false_ne_true)]
  rw [e']
  refine ⟨?_, hq⟩
  rw [← e']
  exact fits_replaced y hb
end
end
end
-- SrcL
example : True := by
  w_top off
  k_with_none
  exact trivial
section

section
noncomputable def ListR (Dp : Addr) (m₀ : Str → Option Value) (D : List Str) (R : List (Str × Tok) → Nat → Prop) (m : Str → Option Value) (nx : List (Addr × Obj)) (tk : Nat) : Prop :=
  (∃ pl n, nx = [(Dp, strsO pl n)] ∧ R pl tk) ∧ ∀ z, (∀ d ∈ D, z ≠ d) → m z = m₀ z
theorem EndT.list {h₀ : Heap} {L Dp I : Addr} {o : Obj} {all : List (Addr × Obj)} {m₀ m' : Str → Option Value} {D : List Str} {R : List (Str × Tok) → Nat → Prop} {s₁ : Shared} {h' : Heap} {tk n : Nat} {pl : List (Str × Tok)} (F : Fr h₀ L h' m') (N : News h₀ L h' all)
    (hd : Dp < I) (hI : SubL [(I, o)] all) (sub : SubL [(Dp, strsO pl n)] all) (h2 : ∀ z, (∀ d ∈ D, z ≠ d) → m' z = m₀ z) (h : R pl tk) : EndT h₀ L s₁ [(I, o)] [] (ListR Dp m₀ D R) { s₁ with heap := h', toks := tk } :=
  ⟨h', tk, m', [(Dp, strsO pl n)], rfl, F, fun p hp => by
    rcases List.mem_append.mp hp with hp | hp
    · exact N p (hI.mem p hp)
    · exact N p (sub.mem p hp), fun p hp q hq => by rw [List.mem_singleton.mp hp, List.mem_singleton.mp hq]; exact Nat.ne_of_lt hd, trivial, ⟨pl, n, rfl, h⟩, h2⟩
section
variable {prog : Program} {w : World} {A : Around} {E : Value → Shared → Prop} {s : Shared} {env : Env} {h₀ : Heap} {body orelse : List Stmt} {Q : Flow → Shared → Prop} {m₀ : Str → Option Value}
theorem rangeTL {x : Str} {px : Pos} {D : List Str} {R : Nat → List (Str × Tok) → Nat → Prop} {Dp r : Addr} {a₀ b₀ : Int} {t₀ u₀ v₀ : Tok} {n n0 : Nat} {pl0 : List (Str × Tok)} (_ : Mk R)
    (hh : A.handled = none) (hr : IsRange s.heap r a₀ b₀ 1 t₀ u₀ v₀) (hsmall : Builtin.Range.small a₀ b₀ 1 = true) (hn : Builtin.Range.rangeSize a₀ b₀ 1 = (n : Int)) (F : Fr h₀ env.locals s.heap m₀) {all : List (Addr × Obj)} (N : News h₀ env.locals s.heap all) (hsub : SubL [(Dp, strsO pl0 n0)] all)
    (h0 : R 0 pl0 s.toks)
    (turn : ∀ (i : Nat) t pl nn tk₀ tk₁ h₁ u I o, i < n → R i pl tk₀ → tk₀ ≤ tk₁ → o.cls = .type "range_iterator" → Dp < I → Fr h₀ env.locals h₁ (ovr D u m₀) → News h₀ env.locals h₁ [(I, o), (Dp, strsO pl nn)] →
      wpAny (model prog w) A (assign (.Name x px) env (.int (a₀ + (i : Int)) t)) (fun _ s₃ => wpAny (model prog w) A (execs body env) (TurnT h₀ env.locals { s with heap := h₁, toks := tk₁ } [(I, o)] [] (ListR Dp m₀ D (R (i + 1))) Q) E s₃) E { s with heap := h₁, toks := tk₁ })
    (fin : ∀ h' tk₀ tk pl nn u, Fr h₀ env.locals h' (ovr D u m₀) → News h₀ env.locals h' [(Dp, strsO pl nn)] → R n pl tk₀ → tk₀ ≤ tk → wpAny (model prog w) A (execs orelse env) Q E { s with heap := h', toks := tk }) :
    wpAny (model prog w) A (pyIter (.ref r)) (fun it s₂ => LoopT prog w A h₀ env (.Name x px) body orelse Q E it s₂) E s := by
  have N0 : News h₀ env.locals s.heap [(Dp, strsO pl0 n0)] := fun p hp => N p (hsub.mem p hp)
  refine wpAny_pyIter_range hr hsmall ?_
  have W : Walks prog w A s.heap.objs.size [s.heap.objs.size] [s.heap.objs.size] n (fun i v => i < n ∧ ∃ t, v = .int (a₀ + i * 1) t)
      (fun i h => IsRangeIter h s.heap.objs.size (a₀ + (i : Nat) * 1) ((n : Int) - (i : Nat)) 1) := (Walks.range hh _ a₀ 1 n).bound
  have hlt : Dp < s.heap.objs.size := Heap.lt_size (N0 _ (.head _)).1
  refine srcT (ws := [(s.heap.objs.size, "range_iterator")]) (keep := []) (KTurns.ofWalks W fun i v s Q E st q => wpAny_pure q) (fun i m nx tk => ListR Dp m₀ D (R i) m nx tk) ?_ ?_ ?_ ?_ ?_ ?_ (by show IsRangeIter _ _ _ _ _; rw [hn]; simpa using Heap.get?_push_size _ rfl) (F.push _) (fun p hp => ⟨Heap.get?_push_of_some _ (N0 p hp).1, (N0 p hp).2⟩) trivial ⟨⟨pl0, n0, rfl, h0⟩, fun _ _ => rfl⟩ ?_ ?_
  · intro i h st
    have st' : ∃ oe : Obj, h.get? s.heap.objs.size = some oe ∧ oe.cls = .type "range_iterator" := ⟨_, st, rfl⟩
    obtain ⟨oe, h1, h2⟩ := st'
    exact ⟨[(s.heap.objs.size, oe)], ⟨⟨rfl, h2⟩, trivial⟩, fun p hp => by rw [List.mem_singleton.mp hp]; exact h1⟩
  · intro b hb
    have hb' : b = s.heap.objs.size := by simpa using hb
    rw [hb']
    exact ⟨List.mem_cons_self .., next_is_new F⟩
  · intro b hb; simpa using hb
  · intro b hb; exact .inl (by simpa using hb)
  · intro hm
    exact absurd F.ns.lt ((List.mem_singleton.mp hm) ▸ Nat.lt_irrefl _)
  · intro p hp hI
    exact absurd (Heap.lt_size (N0 p hp).1) ((List.mem_singleton.mp hI) ▸ Nat.lt_irrefl _)
  · rintro i v m₁ news₁ h₁ tk₀ tk₁ hi ⟨_, t, rfl⟩ ⟨⟨pl, nn, rfl, hR⟩, hm⟩ hle _ F₁
    rw [ovr_eq hm] at F₁
    refine pack1 fun o ho N₁ => ?_
    rw [Int.mul_one]
    exact turn i t pl nn tk₀ tk₁ h₁ m₁ _ o hi hR hle ho hlt F₁ N₁
  · rintro h' tk₀ tk m' news' F' N' ⟨⟨pl, nn, rfl, hR⟩, hm⟩ hle _
    rw [ovr_eq hm] at F'
    exact fin h' tk₀ tk pl nn m' F' N' hR hle
theorem rangeTL0 {x : Str} {px : Pos} {D : List Str} {R : Nat → List (Str × Tok) → Nat → Prop} {Dp r : Addr} {a₀ b₀ : Int} {t₀ u₀ v₀ : Tok} {n n0 : Nat} {x0 : Str} {t0 : Tok} (mk : Mk R)
    (hh : A.handled = none) (hr : IsRange s.heap r a₀ b₀ 1 t₀ u₀ v₀) (hsmall : Builtin.Range.small a₀ b₀ 1 = true) (hn : Builtin.Range.rangeSize a₀ b₀ 1 = (n : Int)) (F : Fr h₀ env.locals s.heap m₀) {all : List (Addr × Obj)} (N : News h₀ env.locals s.heap all) (hm : (Dp, W.listOf #[.str x0 t0] n0) ∈ all)
    (h0 : R 0 [(x0, t0)] s.toks)
    (turn : ∀ (i : Nat) t pl nn tk₀ tk₁ h₁ u I o, i < n → R i pl tk₀ → tk₀ ≤ tk₁ → o.cls = .type "range_iterator" → Dp < I → Fr h₀ env.locals h₁ (ovr D u m₀) → News h₀ env.locals h₁ [(I, o), (Dp, strsO pl nn)] →
      wpAny (model prog w) A (assign (.Name x px) env (.int (a₀ + (i : Int)) t)) (fun _ s₃ => wpAny (model prog w) A (execs body env) (TurnT h₀ env.locals { s with heap := h₁, toks := tk₁ } [(I, o)] [] (ListR Dp m₀ D (R (i + 1))) Q) E s₃) E { s with heap := h₁, toks := tk₁ })
    (fin : ∀ h' tk₀ tk pl nn u, Fr h₀ env.locals h' (ovr D u m₀) → News h₀ env.locals h' [(Dp, strsO pl nn)] → R n pl tk₀ → tk₀ ≤ tk → wpAny (model prog w) A (execs orelse env) Q E { s with heap := h', toks := tk }) :
    wpAny (model prog w) A (pyIter (.ref r)) (fun it s₂ => LoopT prog w A h₀ env (.Name x px) body orelse Q E it s₂) E s :=
  rangeTL (pl0 := [(x0, t0)]) mk hh hr hsmall hn F N ⟨hm, trivial⟩ h0 turn fin
end
end
end
-- T9
example : True := by
  w_top off
  k_with_none
  exact trivial
section
set_option maxHeartbeats 8000000
section
variable (w : World) (mean : ExcName → Option Value) (mg mb : Str → Option Value)
noncomputable abbrev PureH (w : World) (mean : ExcName → Option Value) (mg mb : Str → Option Value) (n : Nat) (f : Addr) (vs : List Value) (pre : Shared → Prop) (P : Value → Shared → Shared → Prop) : Prop :=
  ∀ (dp un : Nat) (gd : Option (List Code)) (outer : List Env) (base : Heap) (s : Shared) (Q E : Value → Shared → Prop),
    Below (AR dp un gd outer) base outer s.heap → (KK w).In s.heap → Top topProg LL mean mg mb s.heap → pre s → dp + n < 900 → un + 10 * n < 9000 →
    (∀ (r : Value) (h' : Heap) (tk' : Nat), (∀ b o, s.heap.get? b = some o → h'.get? b = some o) → P r s { s with heap := h', toks := tk' } → Q r { s with heap := h', toks := tk' }) →
      wpAny (model PG w) (AR dp un gd outer) (call (.ref f) vs) Q E s
section
variable {w : World} {mean : ExcName → Option Value} {mg mb : Str → Option Value}
theorem p_dirE {a d : Str} {t : Tok} (e : dirF a = d) (h : a.length < 1000) : Pure w mean mg mb 2 194 [.str a t] yes (isS d) := e ▸ p_dirname w mean mg mb a t h
theorem p_joinE {a b c : Str} {t u : Tok} (e : joinF a b = c) (h : a.length < 1000) (hb : b.length < 1000) (ha0 : 0 < a.length) (hb0 : 0 < b.length) (hns : Txt.startswith b (Str.ofString "/") = false) : Pure w mean mg mb 2 187 [.str a t, .str b u] yes (isN c) := e ▸ p_join w mean mg mb a b t u h hb ha0 hb0 hns
end
structure MadeR (ns : List Int) (n0 : Nat) (i : Nat) (pl : List (Str × Tok)) (tk : Nat) : Prop where
  lb : LB n0 tk
  pos : 0 < n0
  is : pl.map (·.1) = madeN ns i
  tok : TokInv pl tk
structure UpR (ns : List Int) (n0 k : Nat) (pl : List (Str × Tok)) (i : Nat) (c : Value) (tk : Nat) : Prop where
  lb : LB n0 tk
  tok : TokInv pl tk
  ex : ∃ x t, c = .str x t ∧ x = upN ns (madeN ns k) k ((madeN ns k).getLastD S1) i ∧ PlaceOk pl x t
theorem MadeR.mk2 {ns : List Int} {n0 i : Nat} {pl : List (Str × Tok)} {tk : Nat} (_ : MadeR ns n0 i pl tk) : Mk (UpR ns n0 i pl) := .mk
theorem MadeR.zero {ns : List Int} {n0 tk : Nat} {t : Nat} (lb : LB n0 tk) (pos : 0 < n0) (h : t < tk) (h1 : LB n0 t) : MadeR ns n0 0 [(Str.ofString "/", t)] tk :=
  ⟨lb, pos, rfl, ⟨fun p hp => by rw [List.mem_singleton.mp hp]; exact Nat.ne_of_gt (Nat.lt_of_lt_of_le pos h1.le), fun p hp => by rw [List.mem_singleton.mp hp]; exact h, fun p hp q hq _ => by rw [List.mem_singleton.mp hp, List.mem_singleton.mp hq]⟩⟩
theorem MadeR.short {ns : List Int} {n0 i : Nat} {pl : List (Str × Tok)} {tk : Nat} (R : MadeR ns n0 i pl tk) (hi : i < 6) : pl.length < 2000 := by
  have := (madeInv ns (Nat.le_of_lt hi)).len
  rw [← R.is, List.length_map] at this; omega
theorem MadeR.short6 {ns : List Int} {n0 : Nat} {pl : List (Str × Tok)} {tk : Nat} (R : MadeR ns n0 6 pl tk) : pl.length < 2000 := by
  have := (madeInv ns (Nat.le_refl 6)).len
  rw [← R.is, List.length_map] at this; omega
theorem MadeR.last {ns : List Int} {n0 i : Nat} {pl : List (Str × Tok)} {tk : Nat} (R : MadeR ns n0 i pl tk) (hi : i < 6) : ∃ x t, pl.getLast? = some (x, t) ∧ x = (madeN ns i).getLastD S1 ∧ PlaceOk pl x t := by
  have hl := (madeInv ns (Nat.le_of_lt hi)).len
  rw [← R.is, List.length_map] at hl
  cases e : pl.getLast? with
  | none => rw [List.getLast?_eq_none_iff] at e; rw [e] at hl; simp at hl
  | some p =>
    refine ⟨p.1, p.2, rfl, ?_, R.tok.last e⟩
    rw [← R.is, List.getLastD_eq_getLast?, List.getLast?_map, e]; rfl
theorem MadeR.up0 {ns : List Int} {n0 i : Nat} {pl : List (Str × Tok)} {tk tk' : Nat} {x : Str} {t : Tok} (R : MadeR ns n0 i pl tk) (e : x = (madeN ns i).getLastD S1) (p : PlaceOk pl x t) (l : tk ≤ tk') : UpR ns n0 i pl 0 (.str x t) tk' := ⟨R.lb.tr l, R.tok.le l, x, t, rfl, e, p⟩
structure Here (ns : List Int) (k : Nat) (pl : List (Str × Tok)) (x : Str) (t : Tok) (c1 d1 x2 : Str) : Prop where
  ok : PlaceOk pl x t
  good : Good x
  e1 : Txt.replace x (Str.ofString "/") (Str.ofString "//") = c1
  l1 : c1.length < 1000
  ed : dirF c1 = d1
  ld : d1.length < 1000
  occ : (Builtin.Str.occurrences d1 (Str.ofString "//") 0 d1.length (d1.length + 1)).isEmpty = false
  e2 : Txt.replace d1 (Str.ofString "//") (Str.ofString "/") = x2
  ex : x2 = climbF x
theorem here_of {ns : List Int} {k : Nat} {pl : List (Str × Tok)} {x : Str} {t : Tok} (is : pl.map (·.1) = madeN ns k) (hk : k < 6) (p : PlaceOk pl x t) : ∃ c1 d1 x2, Here ns k pl x t c1 d1 x2 := by
  have M := madeInv ns (Nat.le_of_lt hk)
  have hx : x ∈ madeN ns k := is ▸ p.mem
  have g : Good x := good_U (UF_sub (Nat.le_of_lt hk) x (M.sub x hx))
  exact ⟨_, _, _, p, g, rfl, g.l1, rfl, Nat.lt_of_le_of_lt (by
    have h1 : (headF (c1F x)).length ≤ (c1F x).length := Txt.slice_le _ _ _
    show (dirF (c1F x)).length ≤ (c1F x).length
    exact dirF_len _) g.l1, g.occ, rfl, rfl⟩
theorem tok_all {pl : List (Str × Tok)} {n : Nat} {x : Str} {t : Tok} (T : TokInv pl n) (p : PlaceOk pl x t) : ∀ q ∈ pl ++ pl, TokOk q x t := fun q hq => by
  have hq' : q ∈ pl := (List.mem_append.mp hq).elim id id
  exact ⟨T.nz q hq', p.nz, p.eq q hq'⟩
theorem in_all {pl : List (Str × Tok)} {x : Str} {t : Tok} (p : PlaceOk pl x t) : ∃ t, (x, t) ∈ pl ++ pl := by
  obtain ⟨⟨y, u⟩, hm, e⟩ := List.mem_map.mp p.mem
  have e' : y = x := e
  subst e'
  exact ⟨u, List.mem_append_left _ hm⟩
theorem idxF_find {pl : List (Str × Tok)} {ps : List Str} {x : Str} (is : pl.map (·.1) = ps) : idxF (pl ++ pl) x = findF ps x := by
  unfold idxF findF
  rw [← is, ← List.map_append, List.findIdx_map]
  rfl
theorem ne_S1 {x : Str} (h : (x != Str.ofString "/") = true) : x ≠ S1 := by
  show x ≠ Str.ofString "/"
  simpa using h
theorem idx_fact {ns : List Int} {k : Nat} {pl : List (Str × Tok)} {x : Str} {t : Tok} (is : pl.map (·.1) = madeN ns k) (hk : k < 6) (p : PlaceOk pl x t) (hn : (x != Str.ofString "/") = true) :
    ((idxF (pl ++ pl) x : Nat) : Int) - 1 = ((findF (madeN ns k) x - 1 : Nat) : Int) ∧ findF (madeN ns k) x - 1 < 6 := by
  have h := (madeInv ns (Nat.le_of_lt hk)).find (is ▸ p.mem) (ne_S1 hn)
  rw [idxF_find is]
  omega
section
variable {prog : Program} {w : World} {A : Around} {E : Value → Shared → Prop} {s : Shared} {h₀ : Heap} {L : Addr} {m : Str → Option Value} {Q : Value → Shared → Prop}
theorem item_num {value slice : Expr} {l : Addr} {nt : List (Int × Tok)} {k : Int} {j : Nat} {u : Tok} (hl : h₀.IsList l (intsV nt).toArray) (F : Fr h₀ L s.heap m) (h6 : nt.length = 6) (hk : k = (j : Int)) (hj : j < 6) (h : ∀ t, Q (.int ((nt.map (·.1)).getD j 0) t) s)
    (hs : subscripted slice false (.ref l) (.int k u) = operate [.ref l, .int k u] (getItem (.ref l) (.int k u)) := by with_unfolding_all rfl) :
    wpAny (model prog w) A (subscriptTail value slice (.ref l) (.int k u)) Q E s := by
  have hj' : j < nt.length := by omega
  refine item0 (j := j) (v := .int ((nt.map (·.1)).getD j 0) nt[j].2) hl F hk ?_ (by omega) (h _) hs
  simp [intsV, List.getD_eq_getElem?_getD, List.getElem?_eq_getElem hj']
structure NameOk (j : Nat) (y : Str) : Prop where
  is : nmF.getD j S1 = y
  pos : 0 < y.length
  len : y.length < 1000
  st : Txt.startswith y (Str.ofString "/") = false
theorem name_ok {j : Nat} (hj : j < 6) : NameOk j (nmF.getD j S1) := by
  have h := List.all_eq_true.mp nm_ok j (List.mem_range.mpr hj)
  simp only [Bool.and_eq_true, decide_eq_true_eq, Bool.not_eq_true'] at h
  exact ⟨rfl, h.1.1, h.1.2, h.2⟩
theorem item_name {value slice : Expr} {l : Addr} {mt : List (Str × Tok)} {k : Int} {j : Nat} {u : Tok} (hl : h₀.IsList l (strValues mt).toArray) (F : Fr h₀ L s.heap m) (hm : mt.map (·.1) = nmF) (hk : k = (j : Int)) (hj : j < 6) (h : ∀ y t, NameOk j y → Q (.str y t) s)
    (hs : subscripted slice false (.ref l) (.int k u) = operate [.ref l, .int k u] (getItem (.ref l) (.int k u)) := by with_unfolding_all rfl) :
    wpAny (model prog w) A (subscriptTail value slice (.ref l) (.int k u)) Q E s := by
  have h6 : mt.length = 6 := by have := congrArg List.length hm; rw [List.length_map] at this; exact this
  have hj' : j < mt.length := by omega
  refine item0 (j := j) (v := .str (nmF.getD j S1) mt[j].2) hl F hk ?_ (by omega) (h _ _ (name_ok hj)) hs
  rw [← hm]
  simp [strValues, List.getD_eq_getElem?_getD, List.getElem?_eq_getElem hj']
end

theorem UpR.stayA {ns : List Int} {n0 k : Nat} {pl : List (Str × Tok)} {i tk tkf : Nat} {x : Str} {t : Tok} (T : TokInv pl tk) (lb : LB n0 tk) (lf : LB tk tkf) (ex : x = upN ns (madeN ns k) k ((madeN ns k).getLastD S1) i) (p : PlaceOk pl x t) (h : (x != Str.ofString "/") = false) : UpR ns n0 k pl (i + 1) (.str x t) tkf :=
  ⟨lb.tr lf.le, T.le lf.le, x, t, rfl, by unfold upN goUp; rw [← ex, if_neg (fun c => by rw [show (x != S1) = false from h] at c; exact Bool.false_ne_true c.1)], p⟩
theorem UpR.stayB {ns : List Int} {n0 k : Nat} {pl : List (Str × Tok)} {i tk tkf : Nat} {x : Str} {t : Tok} (T : TokInv pl tk) (lb : LB n0 tk) (lf : LB tk tkf) (ex : x = upN ns (madeN ns k) k ((madeN ns k).getLastD S1) i) (p : PlaceOk pl x t) (h : ¬ ns.getD k 0 ≤ ns.getD (findF (madeN ns k) x - 1) 0) : UpR ns n0 k pl (i + 1) (.str x t) tkf :=
  ⟨lb.tr lf.le, T.le lf.le, x, t, rfl, by unfold upN goUp; rw [← ex, if_neg (fun c => h c.2)], p⟩
theorem UpR.climb {ns : List Int} {n0 k : Nat} {pl : List (Str × Tok)} {i tk tkf t2 : Nat} {x c1 d1 x2 : Str} {t : Tok} (T : TokInv pl tk) (lb : LB n0 tk) (pos : 0 < n0) (lf : LB tk tkf) (ex : x = upN ns (madeN ns k) k ((madeN ns k).getLastD S1) i) (H : Here ns k pl x t c1 d1 x2) (is : pl.map (·.1) = madeN ns k) (hk : k < 6)
    (h : (x != Str.ofString "/") = true) (h' : ns.getD k 0 ≤ ns.getD (findF (madeN ns k) x - 1) 0) (l2 : LB tk t2) : UpR ns n0 k pl (i + 1) (.str x2 t2) tkf := by
  have hx : x ∈ madeN ns k := is ▸ H.ok.mem
  refine ⟨lb.tr lf.le, T.le lf.le, x2, t2, rfl, ?_, fresh_ok T (Nat.lt_of_lt_of_le pos lb.le) l2.le ?_⟩
  · unfold upN goUp; rw [← ex, if_pos ⟨h, h'⟩, H.ex]
  · rw [is, H.ex]; exact (madeInv ns (Nat.le_of_lt hk)).up x hx (ne_S1 h)
theorem MadeR.next {ns : List Int} {n0 i tk tkf t9 : Nat} {pl : List (Str × Tok)} {x y j : Str} (T : TokInv pl tk) (lb : LB n0 tk) (pos : 0 < n0) (is : pl.map (·.1) = madeN ns i) (ex : x = upN ns (madeN ns i) i ((madeN ns i).getLastD S1) i) (ny : NameOk i y) (ej : joinF x y = j) (l9 : tk ≤ t9) (r9 : t9 < tkf) :
    MadeR ns n0 (i + 1) (pl ++ [(j, t9)]) tkf := by
  refine ⟨lb.tr (Nat.le_trans l9 (Nat.le_of_lt r9)), pos, ?_, T.push (Nat.lt_of_lt_of_le pos lb.le) l9 r9⟩
  rw [List.map_append, is, ← ej, ex, ← ny.is]; rfl
theorem LB.refl (n : Nat) : LB n n := ⟨Nat.le_refl n⟩
theorem join_name {pl : List (Str × Tok)} {x y : Str} {t : Tok} {j : Nat} (_ : PlaceOk pl x t) (_ : NameOk j y) : ∃ c, joinF x y = c := ⟨_, rfl⟩
theorem MadeR.up1 {ns : List Int} {n0 i : Nat} {pl : List (Str × Tok)} {tk tk1 tk' : Nat} {x : Str} {t : Tok} (R : MadeR ns n0 i pl tk) (l1 : tk ≤ tk1) (l2 : LB tk1 tk') (e : x = (madeN ns i).getLastD S1) (p : PlaceOk pl x t) : UpR ns n0 i pl 0 (.str x t) tk' := R.up0 e p (Nat.le_trans l1 l2.le)
section
variable {prog : Program} {w : World} {A : Around} {E : Value → Shared → Prop} {s : Shared} {h₀ : Heap} {L : Addr} {m : Str → Option Value} {news : List (Addr × Obj)} {Q : Value → Shared → Prop}
theorem range_T {b : Nat} {k : Int} {t : Tok} (hn : LB b s.toks) (F : Fr h₀ L s.heap m) (N : News h₀ L s.heap news)
    (h : ∀ r h' tk t₁ v₁, LB s.toks tk → LB b tk → IsRange h' r 0 k 1 t₁ t v₁ → Fr h₀ L h' m → News h₀ L h' news → Q (.ref r) { s with heap := h', toks := tk }) : wpAny (model prog w) A (call (.type "range") [.int k t]) Q E s :=
  call_range_1 (h _ _ _ _ _ (LB.sn 2 ⟨Nat.le_refl _⟩) hn.s1.s1 (IsRange.new s.heap 0 k 1 _ _ _) (F.push _) fun p hp => ⟨Heap.get?_push_of_some _ (N p hp).1, (N p hp).2⟩)
end
theorem rangeSize_k (k : Nat) : Builtin.Range.rangeSize 0 (0 + (k : Int)) 1 = (k : Int) := by
  rw [rangeSize_nat]; omega
theorem TokInv.drop {pl : List (Str × Tok)} {n : Nat} (T : TokInv pl n) (k : Nat) : TokInv (pl.drop k) n := ⟨fun p hp => T.nz p (List.mem_of_mem_drop hp), fun p hp => T.lt p (List.mem_of_mem_drop hp), fun p hp q hq => T.eq p (List.mem_of_mem_drop hp) q (List.mem_of_mem_drop hq)⟩
theorem made_is {pl : List (Str × Tok)} {ns : List Int} (is : pl.map (·.1) = madeN ns 6) : (pl.drop 1).map (·.1) = madeF ns := by rw [List.map_drop, is]; rfl
end
end
-- SrcI
example : True := by
  w_top off
  k_with_none
  exact trivial
section

section
noncomputable abbrev rangeIt (a n : Int) : Obj := { cls := .type "range_iterator", data := .fields #[rawInt a, rawInt n, rawInt 1] }
section
variable {prog : Program} {w : World} {A : Around} {E : Value → Shared → Prop} {s : Shared} {env : Env} {h₀ : Heap} {body orelse : List Stmt} {Q : Flow → Shared → Prop} {m₀ : Str → Option Value} {news : List (Addr × Obj)}
theorem iter_call {x : Value} {Q : Value → Shared → Prop} (h : wpAny (model prog w) A.in1 (pyIter x) (fun r s' => Q r s') E s) : wpAny (model prog w) A (call (.builtin "iter") [x]) Q E s := by
  refine call_function_entry (by decide +kernel) (by decide +kernel) kdk_entry_iter (kdk_args_iter _) ?_
  unfold Builtin.«iter»
  refine wpAny_bind (m := someArgs "iter" 1 2 _) (wpAny_of_eq (a := [x]) (by first | rfl | kernel_rfl!) ?_)
  show wpAny _ _ (pyIter x >>= _) _ _ _
  refine wpAny_bind (wpAny_mono h (fun r s' q => ?_) fun _ _ e => e)
  exact wpAny_pure ⟨_, rfl, q⟩
theorem iter_range {L : Addr} {m : Str → Option Value} {r : Addr} {a b : Int} {t u v : Tok} {n : Nat} {Q : Value → Shared → Prop} (hr : IsRange s.heap r a b 1 t u v) (hsmall : Builtin.Range.small a b 1 = true) (hn : Builtin.Range.rangeSize a b 1 = (n : Int)) (F : Fr h₀ L s.heap m) (N : News h₀ L s.heap news)
    (h : ∀ I h', Fr h₀ L h' m → News h₀ L h' ((I, rangeIt a n) :: news) → (∀ p ∈ news, p.1 < I) → Q (.ref I) { s with heap := h' }) : wpAny (model prog w) A (call (.builtin "iter") [.ref r]) Q E s := by
  refine iter_call (wpAny_pyIter_range hr hsmall ?_)
  rw [hn]
  exact h _ _ (F.push _) (News.push F N _ rfl) fun q hq => Heap.lt_size (N q hq).1
theorem iterT1 {x y : Str} {px : Pos} {D : List Str} {R : Nat → Value → Nat → Prop} {I : Addr} {n : Nat} {all : List (Addr × Obj)} (_ : Mk R)
    (hh : A.handled = none) (F : Fr h₀ env.locals s.heap m₀) (N : News h₀ env.locals s.heap all) (hm : (I, rangeIt 0 n) ∈ all) (sub : SubL news all) (off : ∀ p ∈ news, p.1 ≠ I)
    (hj : ∃ v, m₀ y = some v ∧ R 0 v s.toks)
    (turn : ∀ (i : Nat) t c tk₀ tk₁ h₁ u o, i < n → R i c tk₀ → tk₀ ≤ tk₁ → o.cls = .type "range_iterator" → Fr h₀ env.locals h₁ (fun z => if z = y then some c else ovr D u m₀ z) → News h₀ env.locals h₁ ((I, o) :: news) →
      wpAny (model prog w) A (assign (.Name x px) env (.int (i : Int) t)) (fun _ s₃ => wpAny (model prog w) A (execs body env) (TurnT h₀ env.locals { s with heap := h₁, toks := tk₁ } [(I, o)] [] (OneR news m₀ y D (R (i + 1))) Q) E s₃) E { s with heap := h₁, toks := tk₁ })
    (fin : ∀ h' tk₀ tk c u, Fr h₀ env.locals h' (fun z => if z = y then some c else ovr D u m₀ z) → News h₀ env.locals h' news → R n c tk₀ → tk₀ ≤ tk → wpAny (model prog w) A (execs orelse env) Q E { s with heap := h', toks := tk }) :
    wpAny (model prog w) A (pyIter (.ref I)) (fun it s₂ => LoopT prog w A h₀ env (.Name x px) body orelse Q E it s₂) E s := by
  have hI := N _ hm
  have N0 : News h₀ env.locals s.heap news := fun p hp => N p (sub.mem p hp)
  have W : Walks prog w A I [I] [I] n (fun i v => i < n ∧ ∃ t, v = .int (0 + i * 1) t)
      (fun i h => IsRangeIter h I (0 + (i : Nat) * 1) ((n : Int) - (i : Nat)) 1) := (Walks.range hh I 0 1 n).bound
  refine wpAny_pyIter_rangeiter (it := I) (x := 0) (left := n) (step := 1) hI.1 ?_
  refine srcT (ws := [(I, "range_iterator")]) (keep := []) (hp := s.heap) (tk0 := s.toks) (KTurns.ofWalks W fun i v s Q E st q => wpAny_pure q) (fun i m nx tk => OneR news m₀ y D (R i) m nx tk) ?_ ?_ ?_ ?_ ?_ ?_ (by show IsRangeIter _ _ _ _ _; simpa using hI.1) F N0 trivial ⟨subL_of fun _ h => h, hj, fun _ _ _ => rfl⟩ ?_ ?_
  · intro i h st
    have st' : ∃ oe : Obj, h.get? I = some oe ∧ oe.cls = .type "range_iterator" := ⟨_, st, rfl⟩
    obtain ⟨oe, h1, h2⟩ := st'
    exact ⟨[(I, oe)], ⟨⟨rfl, h2⟩, trivial⟩, fun p hp => by rw [List.mem_singleton.mp hp]; exact h1⟩
  · intro b hb
    have hb' : b = I := by simpa using hb
    rw [hb']
    exact ⟨List.mem_cons_self .., hI.2.2⟩
  · intro b hb; simpa using hb
  · intro b hb; exact .inl (by simpa using hb)
  · intro hm'
    exact hI.2.1 (List.mem_singleton.mp hm').symm
  · intro p hp hI'
    exact off p hp (List.mem_singleton.mp hI')
  · rintro i v m₁ news₁ h₁ tk₀ tk₁ hi ⟨_, t, rfl⟩ ⟨hs, ⟨c, hc, hR⟩, hm⟩ hle _ F₁
    rw [one_eq hc hm] at F₁
    refine pack1 fun o ho N₁ => ?_
    rw [Int.mul_one, Int.zero_add]
    exact turn i t c tk₀ tk₁ h₁ m₁ o hi hR hle ho F₁ fun p hp => N₁ p (by
      rcases List.mem_cons.mp hp with rfl | hp
      · exact .head _
      · exact .tail _ (hs.mem _ hp))
  · rintro h' tk₀ tk m' news' F' N' ⟨hs, ⟨c, hc, hR⟩, hm⟩ hle _
    rw [one_eq hc hm] at F'
    exact fin h' tk₀ tk c m' F' (fun p hp => N' p (hs.mem _ hp)) hR hle
end
end
end
-- T12
example : True := by
  w_top off
  k_with_none
  k_with "end_one" => (dsimp only [TurnT]; k_dflt (refine EndT.one (by assumption) (by assumption) (by first | exact off_of (by assumption) | exact (fun _ hp => nomatch hp)) (by k_subL) (by k_subL) (by k_subL) (by with_unfolding_all rfl) (by (intro z h1 h2; (try simp only [List.mem_cons, List.not_mem_nil, or_false, forall_eq_or_imp, forall_eq] at h2); first | rfl | (simp [h1, h2, ovr]; done) | (simp_all [ovr]; done))) ?_))
  k_with "m_clean" => ((repeat (first | (rename News _ _ _ _ => zq9; clear zq9) | (rename Fr _ _ _ _ => zq9; clear zq9))); (try skip))
  k_with "m_room" => (first | exact rm0 hdp | exact rm1 hdp (by decide) | exact rm2 hdp | ((try simp only [depth_under_make, depth_under_kw, depth_in1, depth_deeper, depth_caller] at *); (try dsimp only [AR] at *); omega) | ((simp only [recursionLimit, depth_under_make, depth_under_kw, depth_in1, depth_deeper, depth_caller] at *); (try dsimp only [AR] at *); omega) | decide)
  k_with "m_units" => (first | exact un1 hun (by decide) | exact un2 hun (by decide) | exact un3 hun (by decide) | exact un4 hun | (have hcL9 := cLine_is; (try simp only [units_in1, units_deeper, Around.mark_units, units_caller] at *); (try dsimp only [AR] at *); omega))
  k_with "p_end" => (refine hret _ _ _ (Fr.keep (by assumption)) ?_; (walk_at "m_clean"))
  k_with "p_open" => (dsimp only [Pure, PG, KK, LL]; k_fill; intro dp un gd outer base s Q E B X T hpre hdp hun hret; refine wpAny_call ?_)
  exact trivial
section
set_option maxHeartbeats 8000000
section
variable (w : World) (mean : ExcName → Option Value) (mg mb : Str → Option Value)
example : True := by
  k_with "execs cons" => (k_here; k_dflt (refine execs_P (by k_asm) rfl ?_; intro tk' Qt' hq'))
  k_with "Post" => (k_here; (rename Then _ _ => hq'); refine hq' _ _ ?_; clear hq')
  exact trivial
example : True := by
  k_with "m_enterD" => (refine' enterP (g := _) (news := []) (fun _ _ e => e) (Nat.le_refl _) (fun _ hp => nomatch hp) ?k3zq ?k5zq ?k6zq ?k7zq ?k8zq ?k9zq ?kBzq ?_ ?c2zq ?c3zq ?c4zq ?c5zq; (case k3zq => k_asm); (case k5zq => k_asm); (case k6zq => k_is); (case k7zq => k_is); (case k8zq => (walk_at "m_room")); (case k9zq => exact binds_K (by k_in) rfl (by k_is) rfl rfl rfl); (case c5zq => decide); (case kBzq => exact locs rfl); (case c2zq => exact rfl); (case c3zq => exact rfl); (case c4zq => exact rfl); k_whole; intro L' h' F' N' _ Qt' Et' hq' hE'; (try dsimp only); (try k_fold))
  exact trivial
noncomputable def redF (f : Int → Int → Int) (c : Int) : Nat → Int
  | 0 => c
  | i + 1 => f (redF f c i) (i : Int)
noncomputable def Calls (w : World) (mean : ExcName → Option Value) (mg mb : Str → Option Value) (fl : Addr) (g₀ : Heap) (f : Int → Int → Int) : Prop := ∀ x y tx ty, Pure w mean mg mb 3 fl [.int x tx, .int y ty] (fun s => ∀ b o, g₀.get? b = some o → s.heap.get? b = some o) (isI (f x y))
theorem Calls.use {w : World} {mean : ExcName → Option Value} {mg mb : Str → Option Value} {fl : Addr} {g₀ : Heap} {f : Int → Int → Int} (H : Calls w mean mg mb fl g₀ f) {x y : Int} {tx ty : Tok} : Pure w mean mg mb 3 fl [.int x tx, .int y ty] (fun s => ∀ b o, g₀.get? b = some o → s.heap.get? b = some o) (isI (f x y)) := H x y tx ty
noncomputable def RedR (f : Int → Int → Int) (c : Int) (i : Nat) (v : Value) (_ : Nat) : Prop := ∃ t, v = .int (redF f c i) t
theorem RedR.next {f : Int → Int → Int} {c : Int} {i tk : Nat} {t : Tok} : RedR f c (i + 1) (.int (f (redF f c i) (i : Int)) t) tk := ⟨t, rfl⟩
theorem ext_tr {g₀ h₀ h : Heap} {L : Addr} {m : Str → Option Value} (h1 : ∀ b o, g₀.get? b = some o → h₀.get? b = some o) (F : Fr h₀ L h m) : ∀ b o, g₀.get? b = some o → h.get? b = some o := fun b o e => F.keep b o (h1 b o e)
theorem rangeSize_n (k : Nat) : Builtin.Range.rangeSize 0 (k : Int) 1 = (k : Int) := by
  rw [rangeSize_nat]; omega
example : True := by
  k_with "call builtin:iter" => (k_here; (with_reducible show wpAny _ _ (call (Value.builtin "iter") [Value.ref _]) _ _ _); k_dflt (refine' iter_range (Fr.keep ?F0zq _ _ (by with_reducible assumption)) ?smzq ?szzq ?Fzq ?Nzq ?_; (case F0zq => k_asm); (case smzq => exact small_one (by decide) (by decide) (by omega) (by omega)); (case szzq => exact rangeSize_n _); (case Fzq => k_asm); (case Nzq => k_asm)); intro I' h' F' N' l1; (try k_lt l1))
  k_with "exec For Name Name cons nil" => (k_here; (rename Fr _ _ _ _ => lF'); (with_unfolding_all refine' For_TF lF' ?_; k_whole))
  k_with "pyIter ref" => (k_here; (with_reducible show wpAny _ _ (pyIter (Value.ref _)) (fun it s₂ => LoopT _ _ _ _ _ _ _ _ _ _ it s₂) _ _); k_dflt (refine' iterT1 (R := RedR _ _) (y := Str.ofString "value") (D := [Str.ofString "element"]) (news := []) (by with_reducible assumption) ?hhzq ?Fzq ?Nzq ?Mzq trivial (fun _ hp => nomatch hp) ?hjzq ?turnzq ?finzq; (case hhzq => exact rfl); (case Fzq => k_asm); (case Nzq => k_asm); (case Mzq => k_mem); (case hjzq => exact ⟨_, rfl, _, rfl⟩); (case' turnzq => (intro i' t' c' tk0' tk1' h' u' o' hi' hR' hle' ho' F' N'; obtain ⟨tx', e'⟩ := hR'; subst e')); (case' finzq => (intro h' tk0' tk' c' u' F' N' hR' hle'; obtain ⟨tx', e'⟩ := hR'; subst e'))))
  exact trivial
theorem fnAt_keep {q : Addr} {h₀ h : Heap} {L : Addr} {m : Str → Option Value} (X : FnAt q h₀) (F : Fr h₀ L h m) : FnAt q h := let ⟨a, b, c, d, e⟩ := X; ⟨a, b, c, d, F.keep _ _ e⟩
example : True := by
  k_with "callWith ref" => (k_here; k_dflt (refine' callWith_F ?k1zq ?_; (case k1zq => exact fnAt_keep (by with_reducible assumption) (by assumption)); k_whole))
  k_with "FnAt" => (k_dflt (exact fnAt_keep (by with_reducible assumption) (by assumption)))
  k_with "call ref" => (k_here; k_dflt ((refine' pure_use (Calls.use (by with_reducible assumption)) ?k1x10zq ?k2x10zq ?k3x10zq ?k4x10zq ?k5x10zq ?kfx10zq ?kKx10zq ?kpx10zq ?kdx10zq ?kux10zq ?_; (case k1x10zq => k_asm); (case k2x10zq => k_asm); (case k3x10zq => k_asm); (case k4x10zq => k_asm); (case k5x10zq => k_asm); (case kfx10zq => exact rfl); (case kKx10zq => first | exact rfl | assumption); (case kpx10zq => exact ext_tr (by with_reducible assumption) (by assumption)); (case kdx10zq => (walk_at "m_room")); (case kux10zq => (walk_at "m_units")); intro r9 h9 tk9 le9 P9 F9 N9; (obtain ⟨t9, e9⟩ := P9; subst e9); (try dsimp only); (try k_fold))))
  k_with "compareOp Is int ref" => (k_here; (with_reducible show wpAny _ _ (compareOp CmpOp.Is (Value.int _ _) (Value.ref _)) _ _ _); k_dflt (refine wpAny_is_other rfl (fun e => nomatch e) ?_))
  k_with "TurnT" => (k_here; (walk_at "end_one"))
  k_with "RedR" => (k_dflt (exact RedR.next))
  exact trivial
theorem p_reduce (f : Int → Int → Int) (fl r : Addr) (c : Int) (t : Tok) (n : Nat) (u0 u1 u2 : Tok) (g₀ : Heap) (hn : n < 2000) (hf : Calls w mean mg mb fl g₀ f) :
    Pure w mean mg mb 5 93 [.ref fl, .ref r, .int c t] (fun s => (∀ b o, g₀.get? b = some o → s.heap.get? b = some o) ∧ FnAt fl s.heap ∧ IsRange s.heap r 0 (n : Int) 1 u0 u1 u2) (isI (redF f c n)) := by
  have mk' : Mk (RedR f c) := .mk
  (walk_at "p_open")
  obtain ⟨hg, hfn, hr⟩ := hpre
  k_dflt (walk_at "m_enterD")
  k_steps
  all_goals ((walk_at "p_end"); exact ⟨_, rfl⟩)
end
end
-- T13
example : True := by
  w_top off
  k_with_none
  k_with "lbt" => ((try dsimp only); (first | assumption | (apply LB.s1; first | assumption | (apply LB.s1; first | assumption | (apply LB.s1; first | assumption | (apply LB.s1; assumption))))))
  k_with "m_room" => (first | exact rm0 hdp | exact rm1 hdp (by decide) | exact rm2 hdp | ((try simp only [depth_under_make, depth_under_kw, depth_in1, depth_deeper, depth_caller] at *); (try dsimp only [AR] at *); omega) | ((simp only [recursionLimit, depth_under_make, depth_under_kw, depth_in1, depth_deeper, depth_caller] at *); (try dsimp only [AR] at *); omega) | decide)
  k_with "m_units" => (first | exact un1 hun (by decide) | exact un2 hun (by decide) | exact un3 hun (by decide) | exact un4 hun | (have hcL9 := cLine_is; (try simp only [units_in1, units_deeper, Around.mark_units, units_caller] at *); (try dsimp only [AR] at *); omega))
  exact trivial
section
set_option maxHeartbeats 8000000
section
variable (w : World) (mean : ExcName → Option Value) (mg mb : Str → Option Value)
example : True := by
  k_with "execs cons" => (k_here; k_dflt (refine execs_P (by k_asm) rfl ?_; intro tk' Qt' hq'))
  k_with "Post" => (k_here; (rename Then _ _ => hq'); refine hq' _ _ ?_; clear hq')
  exact trivial
noncomputable def lamPos : Pos := { line := 0, col := 0, endLine := 0, endCol := 0 }
noncomputable def TabAt (tb : List (Addr × Obj)) : Prop := tb = [(229, tabObj #[])] ∨ ∃ c' oc vs t, tb = [(229, tabObj (#[] ++ #[rawInt ((212 : Nat) : Int), rawInt ((18 : Nat) : Int), .ref c'])), (c', oc)] ∧ oc.data = .fields vs ∧ vs[1]? = some (.str (Str.ofString "_law_terms.<locals>.<lambda>") t)
example : True := by
  k_with "m_enterCT" => (refine' enterC (g := g) hkeep hsz hid ?k3zq ?k5zq ?k6zq ?k7zq ?k8zq ?k9zq ?kBzq ?kDzq ?_ ?c2zq ?c3zq ?c4zq; (case k3zq => k_asm); (case k5zq => k_asm); (case k6zq => k_is); (case k7zq => k_is); (case k8zq => (walk_at "m_room")); (case k9zq => exact BindsTo.of_eq rfl); (case kBzq => exact rfl); (case kDzq => decide +kernel); (case c2zq => exact rfl); (case c3zq => exact rfl); (case c4zq => exact rfl); k_whole; intro L' h' tk' cells' lb' F' N' Y' l0' Qt' Et' hq' hE'; k_lt l0'; k_cells Y'; (try simp only [List.cons_append, List.nil_append] at N'); (try dsimp only); (try k_fold))
  exact trivial
section
variable {prog : Program} {w : World} {A : Around} {s : Shared} {K : Frag} {p : Program} {loose : List Str} {mean : ExcName → Option Value} {mg mb : Str → Option Value} {R : Result → Shared → Prop} {name qual : Str} {params : Arguments} {body : Expr} {scope : Scope} {cl : List (Str × Addr)} {pm ctv : Value} {c' f : Addr} {args : Args} {binds : List (Str × Value)}
theorem enterL (T : Top p loose mean mg mb s.heap) (ho : s.heap.get? f = some (kla_obj name qual params body scope cl pm c' ctv)) (hcd : s.heap.CodeRec (.ref c') qual) (hroom : A.depth < recursionLimit)
    (hbind : bindArgs (kla_fn name qual params body scope cl pm (.ref c') ctv) args = pure binds) (hloc : ∀ y ∈ binds, scope.names.lookup y.1 = some .local)
    (h : ∀ L' h₁, Fr s.heap L' h₁ (fun y => binds.reverse.lookup y) → News s.heap L' h₁ [] →
      wpAny (model prog w) (A.deeper (envX qual scope L' f (.ref c') cl)) (eval body (envX qual scope L' f (.ref c') cl))
        (fun v s' => R (.ok (.ret v)) s')
        (fun e s' => wpAny (model prog w) (A.deeper (envX qual scope L' f (.ref c') cl)) (leaving (envX qual scope L' f (.ref c') cl) e) (fun _ s'' => R (.error e) s'') (fun e' s'' => R (.error e') s'') s')
        { s with heap := h₁, toks := s.toks + binds.length })
    (hco : scope.isCoroutine = false) (hgen : scope.isGenerator = false) (hk : scope.kind = .function) (hcell : ∀ x ∈ scope.names, x.2 ≠ .cell) : codeAny (model prog w) A (.call (.ref f) args) R s := by
  refine kla_callFunE hroom ho rfl hco hgen rfl hcd ?_
  rw [hbind]
  refine wpAny_pure (wpAny_newFunctionEnv hcell hloc (fun h₁ hns hsb => ⟨(T.nolimit).fresh _ hsb, ?_⟩) hk)
  show codeAny _ _ (.expr body (envX qual scope s.heap.objs.size f (.ref c') cl)) _ _
  have hk₁ : ∀ b o, s.heap.get? b = some o → h₁.get? b = some o := fun b o e => hsb.extBut b o (Nat.ne_of_lt (Heap.lt_size e)) (Heap.get?_push_of_some _ e)
  exact kla_codeExpr (h s.heap.objs.size h₁ ⟨hns, hk₁, Nat.le_refl _⟩ (fun _ hp => nomatch hp))
end
theorem nameX_Q {M : Model} {A : Around} {E : Value → Shared → Prop} {s : Shared} {h₀ : Heap} {L a c : Addr} {m : Str → Option Value} {cn : Str} {cs : Scope} {ccd : Value} {cl : List (Str × Addr)} {x : Str} {v : Value} {o : Obj} {pos : Pos} {Q : Value → Shared → Prop} (F : Fr h₀ L s.heap m) (hc : cl.lookup x = some c) (hg : h₀.get? c = some o) (hd : o.data = .cell (some v)) (h : Q v s)
    (hk : cs.kind = .function := by rfl) (hx : (envX cn cs L a ccd cl).kindOf x = some .free := by rfl) (hb : (x == ("__debug__" : Str)) = false := by decide) (hn : (x == ("__classdict__" : Str)) = false := by decide) :
    wpAny M A (eval (.Name x pos) (envX cn cs L a ccd cl)) Q E s := wpAny_Name (wpAny_loadName_free hk hx hc ⟨o, F.keep _ _ hg, hd⟩ h hn) hb
noncomputable abbrev PureTab (w : World) (mean : ExcName → Option Value) (mg mb : Str → Option Value) (n : Nat) (f : Addr) (vs : List Value) (P : Value → Prop) : Prop :=
  ∀ (dp un : Nat) (gd : Option (List Code)) (outer : List Env) (base g : Heap) (s : Shared) (tb : List (Addr × Obj)) (Q E : Value → Shared → Prop), (∀ b o, g.get? b = some o → s.heap.get? b = some o) → g.objs.size ≤ s.heap.objs.size → (∀ p ∈ tb, s.heap.get? p.1 = some p.2 ∧ g.get? p.1 = none) → TabAt tb → CodeHd g 233 229 →
    Below (AR dp un gd outer) base outer g → (KK w).In g → Top topProg LL mean mg mb g → dp + n < 900 → un + 10 * n < 9000 →
    (∀ (r : Value) (h' : Heap) (tk' : Nat) (tb' : List (Addr × Obj)), (∀ b o, g.get? b = some o → h'.get? b = some o) → (∀ p ∈ tb', h'.get? p.1 = some p.2 ∧ g.get? p.1 = none) → TabAt tb' → P r → Q r { s with heap := h', toks := tk' }) →
      wpAny (model PG w) (AR dp un gd outer) (call (.ref f) vs) Q E s
theorem callsOf {w : World} {mean : ExcName → Option Value} {mg mb : Str → Option Value} {fl : Addr} {g₀ : Heap} {o : Obj} {f : Int → Int → Int} (_ : g₀.get? fl = some o) (h : Calls w mean mg mb fl g₀ f) : Calls w mean mg mb fl g₀ f := h
theorem codeRec_up {g h : Heap} {cv : Value} {qual : Str} (X : g.CodeRec cv qual) (k : ∀ b o, g.get? b = some o → h.get? b = some o) : h.CodeRec cv qual :=
  let ⟨c, oc, vs, t, e1, e2, r⟩ := X; ⟨c, oc, vs, t, e1, k _ _ e2, r⟩
example : True := by
  k_with "eval Name" => (k_here; (with_reducible show wpAny _ _ (eval (Expr.Name (Str.ofString "q") _) _) _ _ _); k_dflt (refine' nameX_Q ?Fzq rfl (by with_reducible assumption) ?dzq ?_ ?kzq ?xzq; (case Fzq => k_asm); (case dzq => assumption); (case kzq => rfl); (case xzq => rfl)))
  k_with "call ref" => (k_here; k_dflt (first | (first | (refine' pure_useLG (p_mul _ _ _ _ _ _ _ _ (IntMulOk.of_right (by assumption))) ?k1x107zq ?k2x107zq ?k3x107zq ?k4x107zq ?k5x107zq ?kfx107zq ?kKx107zq ?kpx107zq ?kdx107zq ?kux107zq ?_; (case k1x107zq => k_asm); (case k2x107zq => k_asm); (case k3x107zq => k_asm); (case k4x107zq => k_asm); (case k5x107zq => k_asm); (case kfx107zq => exact rfl); (case kKx107zq => first | exact rfl | assumption); (case kpx107zq => first | trivial | exact News.isList (by k_asm) (by k_mem) | assumption); (case kdx107zq => (walk_at "m_room")); (case kux107zq => (walk_at "m_units")); intro y9 t9 h9 tk9 le9 q9 l9 g9 F9 N9; (try dsimp only at le9); (try (have lb9 := LB.tr (by (walk_at "lbt")) le9)); (try (have gb9 := LB.tr (by (walk_at "lbt")) g9.le)); (try dsimp only); (try k_fold)) | (refine' pure_useL (p_mul _ _ _ _ _ _ _ _ (IntMulOk.of_right (by assumption))) ?k1x107zq ?k2x107zq ?k3x107zq ?k4x107zq ?k5x107zq ?kfx107zq ?kKx107zq ?kpx107zq ?kdx107zq ?kux107zq ?_; (case k1x107zq => k_asm); (case k2x107zq => k_asm); (case k3x107zq => k_asm); (case k4x107zq => k_asm); (case k5x107zq => k_asm); (case kfx107zq => exact rfl); (case kKx107zq => first | exact rfl | assumption); (case kpx107zq => first | trivial | exact News.isList (by k_asm) (by k_mem) | assumption); (case kdx107zq => (walk_at "m_room")); (case kux107zq => (walk_at "m_units")); intro y9 t9 h9 tk9 le9 q9 l9 F9 N9; (try dsimp only at le9); (try (have lb9 := LB.tr (by (walk_at "lbt")) le9)); (try dsimp only); (try k_fold)) | (refine' pure_useI (p_mul _ _ _ _ _ _ _ _ (IntMulOk.of_right (by assumption))) ?k1x107zq ?k2x107zq ?k3x107zq ?k4x107zq ?k5x107zq ?kfx107zq ?kKx107zq ?kpx107zq ?kdx107zq ?kux107zq ?_; (case k1x107zq => k_asm); (case k2x107zq => k_asm); (case k3x107zq => k_asm); (case k4x107zq => k_asm); (case k5x107zq => k_asm); (case kfx107zq => exact rfl); (case kKx107zq => first | exact rfl | assumption); (case kpx107zq => first | trivial | exact News.isList (by k_asm) (by k_mem) | assumption); (case kdx107zq => (walk_at "m_room")); (case kux107zq => (walk_at "m_units")); intro t9 h9 tk9 le9 F9 N9; (try dsimp only at le9); (try (have lb9 := LB.tr (by (walk_at "lbt")) le9)); (try dsimp only); (try k_fold)) | (refine' pure_useS (p_mul _ _ _ _ _ _ _ _ (IntMulOk.of_right (by assumption))) ?k1x107zq ?k2x107zq ?k3x107zq ?k4x107zq ?k5x107zq ?kfx107zq ?kKx107zq ?kpx107zq ?kdx107zq ?kux107zq ?_; (case k1x107zq => k_asm); (case k2x107zq => k_asm); (case k3x107zq => k_asm); (case k4x107zq => k_asm); (case k5x107zq => k_asm); (case kfx107zq => exact rfl); (case kKx107zq => first | exact rfl | assumption); (case kpx107zq => first | trivial | exact News.isList (by k_asm) (by k_mem) | assumption); (case kdx107zq => (walk_at "m_room")); (case kux107zq => (walk_at "m_units")); intro t9 h9 tk9 le9 F9 N9; (try dsimp only at le9); (try (have lb9 := LB.tr (by (walk_at "lbt")) le9)); (try dsimp only); (try k_fold)) | (refine' pure_useB (p_mul _ _ _ _ _ _ _ _ (IntMulOk.of_right (by assumption))) ?k1x107zq ?k2x107zq ?k3x107zq ?k4x107zq ?k5x107zq ?kfx107zq ?kKx107zq ?kpx107zq ?kdx107zq ?kux107zq ?_; (case k1x107zq => k_asm); (case k2x107zq => k_asm); (case k3x107zq => k_asm); (case k4x107zq => k_asm); (case k5x107zq => k_asm); (case kfx107zq => exact rfl); (case kKx107zq => first | exact rfl | assumption); (case kpx107zq => first | trivial | exact News.isList (by k_asm) (by k_mem) | assumption); (case kdx107zq => (walk_at "m_room")); (case kux107zq => (walk_at "m_units")); intro h9 tk9 le9 F9 N9; (try dsimp only at le9); (try (have lb9 := LB.tr (by (walk_at "lbt")) le9)); (try dsimp only); (try k_fold))) | (first | (refine' pure_useLG (p_add _ _ _ _ _ _ _ _) ?k1x108zq ?k2x108zq ?k3x108zq ?k4x108zq ?k5x108zq ?kfx108zq ?kKx108zq ?kpx108zq ?kdx108zq ?kux108zq ?_; (case k1x108zq => k_asm); (case k2x108zq => k_asm); (case k3x108zq => k_asm); (case k4x108zq => k_asm); (case k5x108zq => k_asm); (case kfx108zq => exact rfl); (case kKx108zq => first | exact rfl | assumption); (case kpx108zq => first | trivial | exact News.isList (by k_asm) (by k_mem) | assumption); (case kdx108zq => (walk_at "m_room")); (case kux108zq => (walk_at "m_units")); intro y9 t9 h9 tk9 le9 q9 l9 g9 F9 N9; (try dsimp only at le9); (try (have lb9 := LB.tr (by (walk_at "lbt")) le9)); (try (have gb9 := LB.tr (by (walk_at "lbt")) g9.le)); (try dsimp only); (try k_fold)) | (refine' pure_useL (p_add _ _ _ _ _ _ _ _) ?k1x108zq ?k2x108zq ?k3x108zq ?k4x108zq ?k5x108zq ?kfx108zq ?kKx108zq ?kpx108zq ?kdx108zq ?kux108zq ?_; (case k1x108zq => k_asm); (case k2x108zq => k_asm); (case k3x108zq => k_asm); (case k4x108zq => k_asm); (case k5x108zq => k_asm); (case kfx108zq => exact rfl); (case kKx108zq => first | exact rfl | assumption); (case kpx108zq => first | trivial | exact News.isList (by k_asm) (by k_mem) | assumption); (case kdx108zq => (walk_at "m_room")); (case kux108zq => (walk_at "m_units")); intro y9 t9 h9 tk9 le9 q9 l9 F9 N9; (try dsimp only at le9); (try (have lb9 := LB.tr (by (walk_at "lbt")) le9)); (try dsimp only); (try k_fold)) | (refine' pure_useI (p_add _ _ _ _ _ _ _ _) ?k1x108zq ?k2x108zq ?k3x108zq ?k4x108zq ?k5x108zq ?kfx108zq ?kKx108zq ?kpx108zq ?kdx108zq ?kux108zq ?_; (case k1x108zq => k_asm); (case k2x108zq => k_asm); (case k3x108zq => k_asm); (case k4x108zq => k_asm); (case k5x108zq => k_asm); (case kfx108zq => exact rfl); (case kKx108zq => first | exact rfl | assumption); (case kpx108zq => first | trivial | exact News.isList (by k_asm) (by k_mem) | assumption); (case kdx108zq => (walk_at "m_room")); (case kux108zq => (walk_at "m_units")); intro t9 h9 tk9 le9 F9 N9; (try dsimp only at le9); (try (have lb9 := LB.tr (by (walk_at "lbt")) le9)); (try dsimp only); (try k_fold)) | (refine' pure_useS (p_add _ _ _ _ _ _ _ _) ?k1x108zq ?k2x108zq ?k3x108zq ?k4x108zq ?k5x108zq ?kfx108zq ?kKx108zq ?kpx108zq ?kdx108zq ?kux108zq ?_; (case k1x108zq => k_asm); (case k2x108zq => k_asm); (case k3x108zq => k_asm); (case k4x108zq => k_asm); (case k5x108zq => k_asm); (case kfx108zq => exact rfl); (case kKx108zq => first | exact rfl | assumption); (case kpx108zq => first | trivial | exact News.isList (by k_asm) (by k_mem) | assumption); (case kdx108zq => (walk_at "m_room")); (case kux108zq => (walk_at "m_units")); intro t9 h9 tk9 le9 F9 N9; (try dsimp only at le9); (try (have lb9 := LB.tr (by (walk_at "lbt")) le9)); (try dsimp only); (try k_fold)) | (refine' pure_useB (p_add _ _ _ _ _ _ _ _) ?k1x108zq ?k2x108zq ?k3x108zq ?k4x108zq ?k5x108zq ?kfx108zq ?kKx108zq ?kpx108zq ?kdx108zq ?kux108zq ?_; (case k1x108zq => k_asm); (case k2x108zq => k_asm); (case k3x108zq => k_asm); (case k4x108zq => k_asm); (case k5x108zq => k_asm); (case kfx108zq => exact rfl); (case kKx108zq => first | exact rfl | assumption); (case kpx108zq => first | trivial | exact News.isList (by k_asm) (by k_mem) | assumption); (case kdx108zq => (walk_at "m_room")); (case kux108zq => (walk_at "m_units")); intro h9 tk9 le9 F9 N9; (try dsimp only at le9); (try (have lb9 := LB.tr (by (walk_at "lbt")) le9)); (try dsimp only); (try k_fold)))))
  exact trivial
example : True := by
  k_with "lam_calls" => (intro x y tx ty; dsimp only [Pure, PG, KK, LL]; intro dp' un' gd' outer' base' s' Q' E' B' X' T' hpre' hdp' hun' hret'; have hoS := hpre' _ _ ho; have hcS := hpre' _ _ hcq; have hrS := codeRec_up hrec hpre'; refine wpAny_call ?_; k_dflt (refine' enterL T' hoS hrS ?roomzq ?bindzq ?loczq ?_ ?c2zq ?c3zq ?c4zq ?c5zq; (case roomzq => (walk_at "m_room")); (case bindzq => exact rfl); (case loczq => exact locs rfl); (case c5zq => decide); (case c2zq => exact rfl); (case c3zq => exact rfl); (case c4zq => exact rfl)); intro L2 h2 F2 N2; (try dsimp only); (try k_fold); k_steps)
  exact trivial
theorem tabs_of {g h : Heap} {L : Addr} {news : List (Addr × Obj)} {a b : Addr × Obj} (N : News g L h news) (h1 : a ∈ news) (h2 : b ∈ news) : ∀ p ∈ [a, b], h.get? p.1 = some p.2 ∧ g.get? p.1 = none := fun p hp => by
  rcases List.mem_cons.mp hp with rfl | hp
  · exact ⟨(N _ h1).1, (N _ h1).2.2⟩
  · rw [List.mem_singleton.mp hp]; exact ⟨(N _ h2).1, (N _ h2).2.2⟩
theorem tabs_ret {g h : Heap} {L c' : Addr} {oc : Obj} {vs : Array Value} {t : Tok} {news : List (Addr × Obj)} (N : News g L h news) (h1 : (229, tabObj (#[] ++ #[rawInt ((212 : Nat) : Int), rawInt ((18 : Nat) : Int), .ref c'])) ∈ news) (h2 : (c', oc) ∈ news) (d1 : oc.data = .fields vs) (d2 : vs[1]? = some (.str (Str.ofString "_law_terms.<locals>.<lambda>") t)) :
    ∃ tb', (∀ p ∈ tb', h.get? p.1 = some p.2 ∧ g.get? p.1 = none) ∧ TabAt tb' := ⟨_, tabs_of N h1 h2, Or.inr ⟨c', oc, vs, t, rfl, d1, d2⟩⟩
example : True := by
  k_with "use_red" => (refine' pure_use (p_reduce _ _ _ _ _ _ _ _ _ many _ _ _ _ hm2 hcalls) ?k1zq ?k2zq ?k3zq ?k4zq ?k5zq ?kfzq ?kKzq ?kpzq ?kdzq ?kuzq ?_; (case k1zq => k_asm); (case k2zq => k_asm); (case k3zq => k_asm); (case k4zq => exact NN); (case k5zq => k_asm); (case kfzq => exact rfl); (case kKzq => first | exact rfl | assumption); (case kpzq => exact ⟨fun _ _ e => e, ⟨_, _, _, _, ho⟩, by assumption⟩); (case kdzq => (walk_at "m_room")); (case kuzq => (walk_at "m_units")); intro r9 h9 tk9 le9 P9 F9 N9; (obtain ⟨t9, e9⟩ := P9; subst e9); (try dsimp only); (try k_fold))
  k_with "use_red2" => (refine' pure_use (p_reduce _ _ _ _ _ _ _ _ _ many _ _ _ _ hm2 hcalls) ?zk1zq ?zk2zq ?zk3zq ?zk4zq ?zk5zq ?zkfzq ?zkKzq ?zkpzq ?zkdzq ?zkuzq ?_; (case zk1zq => k_asm); (case zk2zq => k_asm); (case zk3zq => k_asm); (case zk4zq => exact NN); (case zk5zq => k_asm); (case zkfzq => exact rfl); (case zkKzq => first | exact rfl | assumption); (case zkpzq => exact ⟨fun _ _ e => e, ⟨_, _, _, _, ho⟩, by assumption⟩); (case zkdzq => (walk_at "m_room")); (case zkuzq => (walk_at "m_units")); intro r9 h9 tk9 le9 P9 F9 N9; (obtain ⟨t9, e9⟩ := P9; subst e9); (try dsimp only); (try k_fold))
  exact trivial
theorem p_terms (many : Nat) (q : Int) (t u : Tok) (hm : many < 1000) (hq : Builtin.Int.intBits q ≤ 64) : PureTab w mean mg mb 8 234 [.int (many : Int) t, .int q u] (fun r => ∃ t, r = .int (redF (fun x _ => x * q + 1) 0 many) t) := by
  have hm2 : many < 2000 := by omega
  dsimp only [PureTab, PG, KK, LL]
  k_fill
  intro dp un gd outer base g s tb Q E hkeep hsz hid ht hcode B X T hdp hun hret
  rcases ht with rfl | ⟨c', oc, vs, tt, rfl, hd, hv⟩
  · refine wpAny_call ?_
    k_dflt (walk_at "m_enterCT")
    k_steps
    all_goals (
      rename News _ _ _ _ => NN
      rename Fr _ _ _ _ => FF
      have ho := (NN _ (.head _)).1
      have hrec := codeRec_news NN (.tail _ (.head _)) (by assumption) (by assumption)
      have hcq := (NN _ (.tail _ (.tail _ (.head _)))).1
      have hcalls : Calls w mean mg mb _ _ (fun x _ => x * q + 1) := callsOf ho (by (walk_at "lam_calls"); all_goals exact hret' _ _ _ (Fr.keep (by assumption)) ⟨_, rfl⟩)
      k_dflt (walk_at "use_red")
      k_steps)
    all_goals (
      obtain ⟨tb', a1, a2⟩ := tabs_ret N9 (by k_mem) (by k_mem) (by assumption) (by assumption)
      exact hret _ _ _ tb' (Fr.keep F9) a1 a2 ⟨_, rfl⟩)
  · refine wpAny_call ?_
    k_dflt (walk_at "m_enterCT")
    k_steps
    all_goals (
      rename News _ _ _ _ => NN
      rename Fr _ _ _ _ => FF
      have ho := (NN _ (.head _)).1
      have hrec := codeRec_news NN (.tail _ (.tail _ (.tail _ (.head _)))) (by assumption) (by assumption)
      have hcq := (NN _ (.tail _ (.head _))).1
      have hcalls : Calls w mean mg mb _ _ (fun x _ => x * q + 1) := callsOf ho (by (walk_at "lam_calls"); all_goals exact hret' _ _ _ (Fr.keep (by assumption)) ⟨_, rfl⟩)
      k_dflt (walk_at "use_red2")
      k_steps)
    all_goals (
      obtain ⟨tb', a1, a2⟩ := tabs_ret N9 (by k_mem) (by k_mem) hd hv
      exact hret _ _ _ tb' (Fr.keep F9) a1 a2 ⟨_, rfl⟩)
end
end
-- SrcJ
example : True := by
  w_top off
  k_with_none
  exact trivial
section

section
section
variable {prog : Program} {w : World} {A : Around} {E : Value → Shared → Prop} {s : Shared}
theorem special_list {it l : Addr} {i : Nat} {items : Array Value} {x : Value} {Q : Option Value → Shared → Prop} (hit : s.heap.IsListIter it l i) (hl : s.heap.IsList l items) (hx : items[i]? = some x)
    (hQ : ∀ h', h'.IsListIter it l (i + 1) → Heap.SameBut it s.heap h' → Q (some x) { s with heap := h' }) : wpAny (model prog w) A (callSpecial? (.ref it) (Str.ofString "__next__")) Q E s := by
  obtain ⟨o, ho, hc, hd⟩ := id hit
  obtain ⟨ol, hol, _, nl, hdl⟩ := hl
  refine wpAny_callSpecial?_slot (name := Str.ofString "__next__") hit.typeIs slot_listiter_next
    (wpAny_call_entry slot_listiter_next hit.typeIs entry_listiter_next ?_ (args_listiter_next _))
  show wpAny _ _ (field (.ref it) 0 >>= _) _ _ s
  refine wpAny_bind (wpAny_field ho hd (x := .ref l) rfl ?_)
  show wpAny _ _ (if (Value.ref l == Value.none) = true then _ else _) _ _ s
  rw [if_neg (show ¬ ((Value.ref l == Value.none) = true) from Bool.false_ne_true)]
  show wpAny _ _ (field (.ref it) 1 >>= _) _ _ s
  refine wpAny_bind (wpAny_field ho hd (x := .int i 0) rfl ?_)
  show wpAny _ _ (seqItems? (.ref l) >>= _) _ _ s
  refine wpAny_bind (wpAny_seqItems hol hdl ?_)
  simp only [Int.toNat_natCast, hx]
  refine wpAny_bind (wpAny_setField ho hd (by simp) (wpAny_pure ⟨x, rfl, hQ _ ?_ (Heap.SameBut.update ..)⟩))
  exact ⟨_, Heap.get?_update_self _ ho (Obj.isFreed_of_fields (Obj.data_mapFields hd _)), (Obj.cls_mapFields ..).trans hc, by
    rw [Obj.data_mapFields hd]; simp [rawInt]⟩
theorem next_list {it l : Addr} {i : Nat} {items : Array Value} {x : Value} {Q : Value → Shared → Prop} (hit : s.heap.IsListIter it l i) (hl : s.heap.IsList l items) (hx : items[i]? = some x)
    (hQ : ∀ h', h'.IsListIter it l (i + 1) → Heap.SameBut it s.heap h' → Q x { s with heap := h' }) : wpAny (model prog w) A (call (.builtin "next") [.ref it]) Q E s := by
  refine call_function_entry (by decide +kernel) (by decide +kernel) kdk_entry_next (kdk_args_next _) ?_
  unfold Builtin.«next»
  refine wpAny_bind (m := someArgs "next" 1 2 _) (wpAny_of_eq (a := [Value.ref it]) (by first | rfl | kernel_rfl!) ?_)
  dsimp only
  refine wpAny_bind (wpAny_specialOf (name := Str.ofString "__next__") hit.typeIs slot_listiter_next.lookup ?_)
  refine wpAny_ite_split (fun hab => absurd hab (by decide)) (fun _ => ?_)
  refine wpAny_bind (special_list hit hl hx fun h' hit' hs => ?_)
  exact wpAny_pure ⟨_, rfl, hQ h' hit' hs⟩
theorem iter_list {it l : Addr} {i : Nat} {Q : Value → Shared → Prop} (hit : s.heap.IsListIter it l i) (h : Q (.ref it) s) : wpAny (model prog w) A (call (.builtin "iter") [.ref it]) Q E s :=
  iter_call (wpAny_pyIter_listiter hit h)
end
end
section
structure ItAt (o : Obj) (l : Addr) (i : Nat) : Prop where
  c : o.cls = .type "list_iterator"
  d : o.data = .fields #[.ref l, .int i 0]
theorem Walks.shift {prog : Program} {w : World} {A : Around} {I : Addr} {fp wr : List Addr} {n : Nat} {P : Nat → Value → Prop} {St : Nat → Heap → Prop} (W : Walks prog w A I fp wr (n + 1) P St) : Walks prog w A I fp wr n (fun i => P (i + 1)) (fun i => St (i + 1)) where
  sub := W.sub
  frame := fun i h h' st k => W.frame (i + 1) h h' st k
  item := fun i s Q E hi st hQ => W.item (i + 1) s Q E (Nat.succ_lt_succ hi) st hQ
  done := fun s Q E st hQ => W.done s Q E st hQ
  self := fun i s Q E st hQ => W.self (i + 1) s Q E st hQ
section
variable {prog : Program} {w : World} {A : Around} {E : Value → Shared → Prop} {s : Shared} {env : Env} {h₀ : Heap} {body orelse : List Stmt} {Q : Flow → Shared → Prop} {m₀ : Str → Option Value}
theorem iterLT1 {x y : Str} {px : Pos} {D : List Str} {R : Nat → Value → Nat → Prop} {I l : Addr} {o0 : Obj} {v0 : Value} {vs : List Value} (_ : Mk R)
    (hh : A.handled = none) (F : Fr h₀ env.locals s.heap m₀) (N : News h₀ env.locals s.heap [(I, o0)]) (ha : ItAt o0 l 1) (hl : h₀.IsList l (v0 :: vs).toArray)
    (hj : ∃ v, m₀ y = some v ∧ R 0 v s.toks)
    (turn : ∀ (i : Nat) v c tk₀ tk₁ h₁ u o, vs[i]? = some v → R i c tk₀ → tk₀ ≤ tk₁ → o.cls = .type "list_iterator" → Fr h₀ env.locals h₁ (fun z => if z = y then some c else ovr D u m₀ z) → News h₀ env.locals h₁ [(I, o)] →
      wpAny (model prog w) A (assign (.Name x px) env v) (fun _ s₃ => wpAny (model prog w) A (execs body env) (TurnT h₀ env.locals { s with heap := h₁, toks := tk₁ } [(I, o)] [] (OneR [] m₀ y D (R (i + 1))) Q) E s₃) E { s with heap := h₁, toks := tk₁ })
    (fin : ∀ h' tk₀ tk c u, Fr h₀ env.locals h' (fun z => if z = y then some c else ovr D u m₀ z) → R vs.length c tk₀ → tk₀ ≤ tk → wpAny (model prog w) A (execs orelse env) Q E { s with heap := h', toks := tk }) :
    wpAny (model prog w) A (pyIter (.ref I)) (fun it s₂ => LoopT prog w A h₀ env (.Name x px) body orelse Q E it s₂) E s := by
  have hI := N _ (.head _)
  have hit : s.heap.IsListIter I l 1 := ⟨o0, hI.1, ha.c, ha.d⟩
  obtain ⟨ol, hol, _⟩ := id hl
  have hlI : l ≠ I := fun e => by rw [e, hI.2.2] at hol; cases hol
  have hls : s.heap.IsList l (v0 :: vs).toArray := hl.at fun o e => F.keep l o e
  have W0 := Walks.list (prog := prog) (w := w) hh I l hlI (v0 :: vs).toArray
  rw [show (v0 :: vs).toArray.size = vs.length + 1 from List.size_toArray ..] at W0
  have W := KTurns.ofWalks (target := .Name x px) (Walks.shift W0) fun i v s Q E st q => letGo_listiter st.1 q
  refine wpAny_pyIter_listiter hit ?_
  refine srcT (ws := [(I, "list_iterator")]) (keep := []) (hp := s.heap) (tk0 := s.toks) (news := []) W (fun i m nx tk => OneR [] m₀ y D (R i) m nx tk) ?_ ?_ ?_ ?_ ?_ (fun _ hp => nomatch hp) ⟨hit, hls⟩ F (fun _ hp => nomatch hp) trivial ⟨trivial, hj, fun _ _ _ => rfl⟩ ?_ ?_
  · rintro i h ⟨⟨it, hit, hic, _⟩, _⟩
    exact ⟨[(I, it)], ⟨⟨rfl, hic⟩, trivial⟩, fun p hp => by rw [List.mem_singleton.mp hp]; exact hit⟩
  · intro b hb
    have hb' : b = I := by simpa using hb
    rw [hb']
    exact ⟨List.mem_cons_self .., hI.2.2⟩
  · intro b hb; simpa using hb
  · intro b hb
    have hb' : b = I ∨ b = l := by simpa using hb
    rcases hb' with e | e
    · exact .inl (by simp [e])
    · exact .inr (.inr ⟨ol, by rw [e]; exact hol⟩)
  · intro hm
    rcases List.mem_cons.mp hm with e | hm
    · exact hI.2.1 e.symm
    · exact absurd (Heap.lt_size hol) (Nat.not_lt.mpr ((List.mem_singleton.mp hm) ▸ F.above))
  · rintro i v m₁ news₁ h₁ tk₀ tk₁ hi hv ⟨hs, ⟨c, hc, hR⟩, hm⟩ hle _ F₁
    rw [one_eq hc hm] at F₁
    refine pack1 fun o ho N₁ => ?_
    exact turn i v c tk₀ tk₁ h₁ m₁ o (by simpa using hv) hR hle ho F₁ fun p hp => N₁ p (by rw [List.mem_singleton.mp hp]; exact .head _)
  · rintro h' tk₀ tk m' news' F' N' ⟨hs, ⟨c, hc, hR⟩, hm⟩ hle _
    rw [one_eq hc hm] at F'
    exact fin h' tk₀ tk c m' F' hR hle
end
section
variable {prog : Program} {w : World} {A : Around} {E : Value → Shared → Prop} {s : Shared} {h₀ : Heap} {L : Addr} {m : Str → Option Value} {Q : Value → Shared → Prop}
theorem next_T {I l : Addr} {o0 : Obj} {v0 : Value} {vs : List Value} (F : Fr h₀ L s.heap m) (N : News h₀ L s.heap [(I, o0)]) (hit : s.heap.IsListIter I l 0) (hl : h₀.IsList l (v0 :: vs).toArray)
    (h : ∀ h' o', ItAt o' l 1 → Fr h₀ L h' m → News h₀ L h' [(I, o')] → Q v0 { s with heap := h' }) : wpAny (model prog w) A (call (.builtin "next") [.ref I]) Q E s := by
  have hI := N _ (.head _)
  refine next_list (x := v0) hit (hl.at fun o e => F.keep l o e) (by simp) fun h' hit' hs => ?_
  obtain ⟨o', ho', r⟩ := id hit'
  exact h h' o' ⟨r.1, r.2⟩ (F.change hs hI.2.1 hI.2.2) fun p hp => by rw [List.mem_singleton.mp hp]; exact ⟨ho', hI.2⟩
end
end
end
-- T14
example : True := by
  w_top off
  k_with_none
  k_with "end_one" => (dsimp only [TurnT]; k_dflt (refine EndT.one (by assumption) (by assumption) (by first | exact off_of (by assumption) | exact (fun _ hp => nomatch hp)) (by k_subL) (by k_subL) (by k_subL) (by with_unfolding_all rfl) (by (intro z h1 h2; (try simp only [List.mem_cons, List.not_mem_nil, or_false, forall_eq_or_imp, forall_eq] at h2); first | rfl | (simp [h1, h2, ovr]; done) | (simp_all [ovr]; done))) ?_))
  k_with "lbt" => ((try dsimp only); (first | assumption | (apply LB.s1; first | assumption | (apply LB.s1; first | assumption | (apply LB.s1; first | assumption | (apply LB.s1; assumption))))))
  k_with "m_room" => (first | exact rm0 hdp | exact rm1 hdp (by decide) | exact rm2 hdp | ((try simp only [depth_under_make, depth_under_kw, depth_in1, depth_deeper, depth_caller] at *); (try dsimp only [AR] at *); omega) | ((simp only [recursionLimit, depth_under_make, depth_under_kw, depth_in1, depth_deeper, depth_caller] at *); (try dsimp only [AR] at *); omega) | decide)
  k_with "m_units" => (first | exact un1 hun (by decide) | exact un2 hun (by decide) | exact un3 hun (by decide) | exact un4 hun | (have hcL9 := cLine_is; (try simp only [units_in1, units_deeper, Around.mark_units, units_caller] at *); (try dsimp only [AR] at *); omega))
  exact trivial
section
set_option maxHeartbeats 8000000
section
variable (w : World) (mean : ExcName → Option Value) (mg mb : Str → Option Value)
example : True := by
  k_with "execs cons" => (k_here; k_dflt (refine execs_P (by k_asm) rfl ?_; intro tk' Qt' hq'))
  k_with "Post" => (k_here; (rename Then _ _ => hq'); refine hq' _ _ ?_; clear hq')
  exact trivial
noncomputable def mulF (v0 : Int) (vs : List (Int × Tok)) (i : Nat) : Int := (vs.take i).foldl (fun a p => a * p.1) v0
noncomputable def MulR (v0 : Int) (vs : List (Int × Tok)) (i : Nat) (c : Value) (_ : Nat) : Prop := ∃ t, c = .int (mulF v0 vs i) t
theorem MulR.next {v0 : Int} {vs : List (Int × Tok)} {i tk : Nat} {x : Int} {tx t : Tok} (h : vs[i]? = some (x, tx)) : MulR v0 vs (i + 1) (.int (mulF v0 vs i * x) t) tk := by
  refine ⟨t, congrArg (Value.int · t) ?_⟩
  unfold mulF
  rw [List.take_add_one, h, List.foldl_append]; rfl
theorem ints_at {vs : List (Int × Tok)} {i : Nat} {v : Value} (h : (intsV vs)[i]? = some v) : ∃ x t, vs[i]? = some (x, t) ∧ v = .int x t ∧ (x, t) ∈ vs := by
  unfold intsV at h
  rw [List.getElem?_map] at h
  obtain ⟨⟨x, t⟩, hc, rfl⟩ := Option.map_eq_some_iff.mp h
  exact ⟨x, t, hc, rfl, List.mem_of_getElem? hc⟩
noncomputable abbrev PureIt (w : World) (mean : ExcName → Option Value) (mg mb : Str → Option Value) (n : Nat) (f : Addr) (args : Addr → List Value) (vs : List Value) (P : Value → Prop) : Prop :=
  ∀ (dp un : Nat) (gd : Option (List Code)) (outer : List Env) (base g : Heap) (s : Shared) (I l : Addr) (Q E : Value → Shared → Prop), (∀ b o, g.get? b = some o → s.heap.get? b = some o) → g.objs.size ≤ s.heap.objs.size → (∀ p ∈ [(I, lit l 0)], s.heap.get? p.1 = some p.2 ∧ g.get? p.1 = none) → g.IsList l vs.toArray →
    Below (AR dp un gd outer) base outer g → (KK w).In g → Top topProg LL mean mg mb g → dp + n < 900 → un + 10 * n < 9000 →
    (∀ (r : Value) (h' : Heap) (tk' : Nat), (∀ b o, g.get? b = some o → h'.get? b = some o) → P r → Q r { s with heap := h', toks := tk' }) →
      wpAny (model PG w) (AR dp un gd outer) (call (.ref f) (args I)) Q E s
example : True := by
  k_with "m_enterDT" => (refine' enterP (g := g) hkeep hsz hid ?k3zq ?k5zq ?k6zq ?k7zq ?k8zq ?k9zq ?kBzq ?_ ?c2zq ?c3zq ?c4zq ?c5zq; (case k3zq => k_asm); (case k5zq => k_asm); (case k6zq => k_is); (case k7zq => k_is); (case k8zq => (walk_at "m_room")); (case k9zq => exact binds_K (X.keeps hkeep) rfl (by k_is) rfl rfl rfl); (case c5zq => decide); (case kBzq => exact locs rfl); (case c2zq => exact rfl); (case c3zq => exact rfl); (case c4zq => exact rfl); k_whole; intro L' h' F' N' l0' Qt' Et' hq' hE'; k_lt l0'; (try dsimp only); (try k_fold))
  exact trivial
theorem wpAny_is_same {M : Model} {A : Around} {E : Value → Shared → Prop} {s : Shared} {a : Addr} {Q : Value → Shared → Prop} (h : Q (.bool true) s) : wpAny M A (compareOp .Is (.ref a) (.ref a)) Q E s := by
  unfold compareOp
  refine wpAny_bind ?_
  show wpAny M A (if (a == a) = true then pure true else _) _ _ _
  rw [if_pos (by simp)]
  exact wpAny_pure (wpAny_pure h)
theorem lit_at {g h : Heap} {L I l : Addr} (N : News g L h [(I, lit l 0)]) : h.IsListIter I l 0 := ⟨_, (N _ (.head _)).1, rfl, rfl⟩
example : True := by
  k_with "call builtin:iter" => (k_here; (with_reducible show wpAny _ _ (call (Value.builtin "iter") [Value.ref _]) _ _ _); k_dflt (refine' iter_list (lit_at ?Nzq) ?_; (case Nzq => k_asm)))
  k_with "compareOp Is ref ref" => (k_here; (with_reducible show wpAny _ _ (compareOp CmpOp.Is (Value.ref 85) (Value.ref 85)) _ _ _); k_dflt (refine wpAny_is_same ?_))
  k_with "exec Try" => (k_here; (with_reducible show wpAny _ _ (exec (Stmt.Try _ (_ :: _) _ [] _) _) _ _ _); refine wpAny_Try_except ?_)
  k_with "call builtin:next" => (k_here; (with_reducible show wpAny _ _ (call (Value.builtin "next") [Value.ref _]) _ _ _); k_dflt (refine' next_T ?Fzq ?Nzq (lit_at ?N2zq) (by with_reducible assumption) ?_; (case Fzq => k_asm); (case Nzq => k_asm); (case N2zq => k_asm)); intro h' o' hit' F' N')
  k_with "exec For Name Name cons nil" => (k_here; (rename Fr _ _ _ _ => lF'); (with_unfolding_all refine' For_TF lF' ?_; k_whole))
  k_with "pyIter ref" => (k_here; (with_reducible show wpAny _ _ (pyIter (Value.ref _)) (fun it s₂ => LoopT _ _ _ _ _ _ _ _ _ _ it s₂) _ _); k_dflt (refine' iterLT1 (R := MulR _ _) (y := Str.ofString "value") (D := [Str.ofString "element"]) (by with_reducible assumption) ?hhzq ?Fzq ?Nzq ?itzq (by with_reducible assumption) ?hjzq ?turnzq ?finzq; (case hhzq => exact rfl); (case Fzq => k_asm); (case Nzq => k_asm); (case itzq => assumption); (case hjzq => exact ⟨_, rfl, _, rfl⟩); (case' turnzq => (intro i' v' c' tk0' tk1' h' u' o' hv' hR' hle' ho' F' N'; obtain ⟨tx', e'⟩ := hR'; subst e'; obtain ⟨x', t', hx', e', hm'⟩ := ints_at hv'; subst e'; (have hb' := (by assumption : ∀ p ∈ _, Builtin.Int.intBits p.1 ≤ 64) _ hm'))); (case' finzq => (intro h' tk0' tk' c' u' F' hR' hle'; obtain ⟨tx', e'⟩ := hR'; subst e'))))
  k_with "call ref" => (k_here; k_dflt ((first | (refine' pure_useLG (p_mul _ _ _ _ _ _ _ _ (IntMulOk.of_right (by assumption))) ?k1x391zq ?k2x391zq ?k3x391zq ?k4x391zq ?k5x391zq ?kfx391zq ?kKx391zq ?kpx391zq ?kdx391zq ?kux391zq ?_; (case k1x391zq => k_asm); (case k2x391zq => k_asm); (case k3x391zq => k_asm); (case k4x391zq => k_asm); (case k5x391zq => k_asm); (case kfx391zq => exact rfl); (case kKx391zq => first | exact rfl | assumption); (case kpx391zq => first | trivial | exact News.isList (by k_asm) (by k_mem) | assumption); (case kdx391zq => (walk_at "m_room")); (case kux391zq => (walk_at "m_units")); intro y9 t9 h9 tk9 le9 q9 l9 g9 F9 N9; (try dsimp only at le9); (try (have lb9 := LB.tr (by (walk_at "lbt")) le9)); (try (have gb9 := LB.tr (by (walk_at "lbt")) g9.le)); (try dsimp only); (try k_fold)) | (refine' pure_useL (p_mul _ _ _ _ _ _ _ _ (IntMulOk.of_right (by assumption))) ?k1x391zq ?k2x391zq ?k3x391zq ?k4x391zq ?k5x391zq ?kfx391zq ?kKx391zq ?kpx391zq ?kdx391zq ?kux391zq ?_; (case k1x391zq => k_asm); (case k2x391zq => k_asm); (case k3x391zq => k_asm); (case k4x391zq => k_asm); (case k5x391zq => k_asm); (case kfx391zq => exact rfl); (case kKx391zq => first | exact rfl | assumption); (case kpx391zq => first | trivial | exact News.isList (by k_asm) (by k_mem) | assumption); (case kdx391zq => (walk_at "m_room")); (case kux391zq => (walk_at "m_units")); intro y9 t9 h9 tk9 le9 q9 l9 F9 N9; (try dsimp only at le9); (try (have lb9 := LB.tr (by (walk_at "lbt")) le9)); (try dsimp only); (try k_fold)) | (refine' pure_useI (p_mul _ _ _ _ _ _ _ _ (IntMulOk.of_right (by assumption))) ?k1x391zq ?k2x391zq ?k3x391zq ?k4x391zq ?k5x391zq ?kfx391zq ?kKx391zq ?kpx391zq ?kdx391zq ?kux391zq ?_; (case k1x391zq => k_asm); (case k2x391zq => k_asm); (case k3x391zq => k_asm); (case k4x391zq => k_asm); (case k5x391zq => k_asm); (case kfx391zq => exact rfl); (case kKx391zq => first | exact rfl | assumption); (case kpx391zq => first | trivial | exact News.isList (by k_asm) (by k_mem) | assumption); (case kdx391zq => (walk_at "m_room")); (case kux391zq => (walk_at "m_units")); intro t9 h9 tk9 le9 F9 N9; (try dsimp only at le9); (try (have lb9 := LB.tr (by (walk_at "lbt")) le9)); (try dsimp only); (try k_fold)) | (refine' pure_useS (p_mul _ _ _ _ _ _ _ _ (IntMulOk.of_right (by assumption))) ?k1x391zq ?k2x391zq ?k3x391zq ?k4x391zq ?k5x391zq ?kfx391zq ?kKx391zq ?kpx391zq ?kdx391zq ?kux391zq ?_; (case k1x391zq => k_asm); (case k2x391zq => k_asm); (case k3x391zq => k_asm); (case k4x391zq => k_asm); (case k5x391zq => k_asm); (case kfx391zq => exact rfl); (case kKx391zq => first | exact rfl | assumption); (case kpx391zq => first | trivial | exact News.isList (by k_asm) (by k_mem) | assumption); (case kdx391zq => (walk_at "m_room")); (case kux391zq => (walk_at "m_units")); intro t9 h9 tk9 le9 F9 N9; (try dsimp only at le9); (try (have lb9 := LB.tr (by (walk_at "lbt")) le9)); (try dsimp only); (try k_fold)) | (refine' pure_useB (p_mul _ _ _ _ _ _ _ _ (IntMulOk.of_right (by assumption))) ?k1x391zq ?k2x391zq ?k3x391zq ?k4x391zq ?k5x391zq ?kfx391zq ?kKx391zq ?kpx391zq ?kdx391zq ?kux391zq ?_; (case k1x391zq => k_asm); (case k2x391zq => k_asm); (case k3x391zq => k_asm); (case k4x391zq => k_asm); (case k5x391zq => k_asm); (case kfx391zq => exact rfl); (case kKx391zq => first | exact rfl | assumption); (case kpx391zq => first | trivial | exact News.isList (by k_asm) (by k_mem) | assumption); (case kdx391zq => (walk_at "m_room")); (case kux391zq => (walk_at "m_units")); intro h9 tk9 le9 F9 N9; (try dsimp only at le9); (try (have lb9 := LB.tr (by (walk_at "lbt")) le9)); (try dsimp only); (try k_fold)))))
  k_with "TurnT" => (k_here; (walk_at "end_one"))
  k_with "MulR" => (k_dflt (exact MulR.next (by with_reducible assumption)))
  exact trivial
theorem p_redmul (v0 : Int) (t0 : Tok) (vs : List (Int × Tok)) (hb : ∀ p ∈ vs, Builtin.Int.intBits p.1 ≤ 64) : PureIt w mean mg mb 4 93 (fun I => [.ref 56, .ref I]) (intsV ((v0, t0) :: vs)) (fun r => ∃ t, r = .int (mulF v0 vs vs.length) t) := by
  have mk' : Mk (MulR v0 vs) := .mk
  dsimp only [PureIt, PG, KK, LL]
  k_fill
  intro dp un gd outer base g s I l Q E hkeep hsz hid hl B X T hdp hun hret
  have hl2 : g.IsList l (Value.int v0 t0 :: intsV vs).toArray := hl
  refine wpAny_call ?_
  k_dflt (walk_at "m_enterDT")
  k_steps
  all_goals exact hret _ _ _ (Fr.keep (by assumption)) ⟨_, by rw [show (intsV vs).length = vs.length from by simp]⟩
end
end
-- SumS
example : True := by
  w_top off
  k_with_none
  exact trivial
section

section
theorem pick_ints {vs : List Value} {ns : List Int} (h : IntsAre vs ns) : ∀ is : List Nat, ∃ ms, IntsAre (is.filterMap (vs.toArray[·]?)) ms ∧ ms.length ≤ is.length
  | [] => ⟨[], .nil, Nat.le_refl _⟩
  | i :: is => by
    obtain ⟨ms, hm, hl⟩ := pick_ints h is
    cases e : vs.toArray[i]? with
    | none => exact ⟨ms, by rw [List.filterMap_cons, e]; exact hm, Nat.le_succ_of_le hl⟩
    | some v =>
      have e' : vs[i]? = some v := by simpa using e
      have hlt : i < ns.length := by
        have := (List.getElem?_eq_some_iff.mp e').1
        rwa [h.length] at this
      obtain ⟨t, ht⟩ := h.get i ns[i] (List.getElem?_eq_getElem hlt)
      rw [e'] at ht
      cases ht
      exact ⟨ns[i] :: ms, by rw [List.filterMap_cons, e]; exact .cons _ _ hm, Nat.succ_le_succ hl⟩
section
variable {prog : Program} {w : World} {A : Around} {E : Value → Shared → Prop} {s : Shared} {h₀ : Heap} {L : Addr} {m : Str → Option Value} {news : List (Addr × Obj)} {Q : Value → Shared → Prop}
theorem slice_ints {value slice : Expr} {l : Addr} {vs : List Value} {ns : List Int} {vl vu vk : Value} {lo hi st : Option Int} {ops : List Value} (F : Fr h₀ L s.heap m) (N : News h₀ L s.heap news) (hl : s.heap.IsList l vs.toArray) (hi' : IntsAre vs ns) (pl : IsPart vl lo) (pu : IsPart vu hi) (pk : IsPart vk st) (h0 : st ≠ some 0) (hz : vs.length ≤ 1000000)
    (h : ∀ D h' zs ms, IntsAre zs ms → Fr h₀ L h' m → News h₀ L h' ((D, listOf zs.toArray 0) :: news) → (∀ p ∈ news, p.1 < D) → Q (.ref D) { s with heap := h' })
    (hs : subscripted slice false (.ref l) (.ref s.heap.objs.size) = operate ops (getItem (.ref l) (.ref s.heap.objs.size))) (ht : ∀ r, letTemporaryGo value (.ref l) r = pure ()) :
    wpAny (model prog w) A (subscriptTail value slice (.ref l) (.ref s.heap.objs.size)) Q E { s with heap := s.heap.push { cls := .type "slice", data := .fields #[vl, vu, vk] } } := by
  obtain ⟨ms, hm, _⟩ := pick_ints hi' (sliceRange (sliceBounds lo hi st vs.toArray.size).1 (sliceBounds lo hi st vs.toArray.size).2.1 (sliceBounds lo hi st vs.toArray.size).2.2)
  refine kmk_slice3_lit F N hl pl pu pk h0 (zs := (slicePick vs.toArray lo hi st).toList) rfl (fun D h' F' N' l1 => h D h' _ ms ?_ F' N' l1) hs ht (by rw [List.size_toArray, PySem.sizeLine_eq]; omega)
  simpa [slicePick] using hm
end
end
end
-- CompV
example : True := by
  w_top off
  k_with_none
  exact trivial
section
open PyProof.Rows.LCg
section
noncomputable def EltTo (h₀ : Heap) (L : Addr) (m : Str → Option Value) (led : List (Addr × Obj)) (s₁ : Shared) (V : Value → Prop) (y : Value) (s' : Shared) : Prop :=
  ∃ h' tk, s' = { s₁ with heap := h', toks := tk } ∧ Fr h₀ L h' m ∧ News h₀ L h' led ∧ V y
theorem EltTo.intro {h₀ : Heap} {L : Addr} {m : Str → Option Value} {led all : List (Addr × Obj)} {s₁ : Shared} {V : Value → Prop} {y : Value} {h' : Heap} {tk : Nat} (F : Fr h₀ L h' m) (N : News h₀ L h' all) (sub : SubL led all) (v : V y) :
    EltTo h₀ L m led s₁ V y { s₁ with heap := h', toks := tk } := ⟨_, _, rfl, F, fun p hp => N p (sub.mem p hp), v⟩
section
variable {prog : Program} {w : World} {A : Around} {h₀ : Heap} {L : Addr} {m : Str → Option Value} {env : Env} {elt : Expr} {x : Str} {scope : Scope} {cl : List (Str × Addr)} {s : Shared} {S : List (Addr × Obj) → Prop} {P : Nat → Value → Prop} {Fin : List Value → List (Addr × Obj) → Prop} {news : List (Addr × Obj)}
theorem vals_rest {n : Nat} (V : Nat → Value → Prop) (hS : S news)
    (turn : ∀ i v I oI C oC D m₂ ys h tk (E' : Value → Shared → Prop), i < n → P i v → ys.length = i → NsObj oC m₂ → m₂ x = some v → Fr h₀ L h m → News h₀ L h ((I, oI) :: (C, oC) :: (D, lst ys) :: news) → Off3 I C D news → ((@Ne Nat I C) ∧ (@Ne Nat I D) ∧ (@Ne Nat C D)) →
      wpAny (model prog w) A (eval elt (compEnvC scope cl C env)) (EltTo h₀ L m ((I, oI) :: (C, oC) :: (D, lst ys) :: news) { s with heap := h, toks := tk } (V i)) E' { s with heap := h, toks := tk })
    (fin : ∀ ys : List Value, ys.length = n → (∀ (i : Nat) v, ys[i]? = some v → V i v) → Fin ys news) : CompRest prog w A h₀ L m env elt x scope cl s S P Fin n 0 [] news := by
  have key : ∀ (j i : Nat) (ys : List Value), i + j = n → ys.length = i → (∀ (k : Nat) v, ys[k]? = some v → V k v) → CompRest prog w A h₀ L m env elt x scope cl s S P Fin j i ys news := by
    intro j
    induction j with
    | zero => intro i ys hi hy hv; exact CompRest.zero (fin ys (by omega) hv)
    | succ j ih =>
      intro i ys hi hy hv
      refine CompRest.succ ?_
      intro v I oI C oC D m₂ h tk E' hp hC hx F N off ne
      refine wpAny_mono (turn i v I oI C oC D m₂ ys h tk E' (by omega) hp hy hC hx F N off ne) (fun y s₃ hr => ?_) fun _ _ e => e
      obtain ⟨h', tk', e, F', N', hV⟩ := hr
      refine ⟨h', tk', news, e, F', N', off, hS, ih (i + 1) _ (by omega) (by simp [hy]) fun k u hk => ?_⟩
      rcases Nat.lt_trichotomy k ys.length with h1 | h1 | h1
      · rw [List.getElem?_append_left h1] at hk; exact hv k u hk
      · subst h1; simp at hk; subst hk; rw [hy]; exact hV
      · rw [List.getElem?_append_right (Nat.le_of_lt h1), List.getElem?_eq_none (by simp; omega)] at hk; cases hk
  exact key n 0 [] (by omega) rfl (by simp)
end
end
end
-- Rng
example : True := by
  w_top off
  k_with_none
  exact trivial
section
open PyProof.Rows.LCg PyProof.Rows.LCt
section
section
variable {prog : Program} {w : World} {A : Around} {E : Value → Shared → Prop} {s : Shared} {env : Env} {h₀ : Heap} {target : Expr} {body orelse : List Stmt} {Q : Flow → Shared → Prop} {m₀ : Str → Option Value} {news : List (Addr × Obj)}
theorem TurnT.off {L : Addr} {s₁ : Shared} {its keep : List (Addr × Obj)} {J : (Str → Option Value) → List (Addr × Obj) → Nat → Prop} {I : Addr} {n : Nat} (hI : ∃ o, (I, o) ∈ its) {f : Flow} {s₂ : Shared} (hn : n ≤ s₂.toks) (h : TurnT h₀ L s₁ its keep (fun m nx tk => n ≤ tk → J m nx tk) Q f s₂) :
    TurnT h₀ L s₁ its keep (fun m nx tk => J m nx tk ∧ ∀ p ∈ nx, p.1 ≠ I) Q f s₂ := by
  have key : EndT h₀ L s₁ its keep (fun m nx tk => n ≤ tk → J m nx tk) s₂ → EndT h₀ L s₁ its keep (fun m nx tk => J m nx tk ∧ ∀ p ∈ nx, p.1 ≠ I) s₂ := by
    rintro ⟨h', tk, m', news', e, F, N, off, hk, r⟩
    obtain ⟨o, ho⟩ := hI
    exact ⟨h', tk, m', news', e, F, N, off, hk, r (by rw [e] at hn; exact hn), fun p hp => off p hp _ ho⟩
  cases f with
  | ret v => exact h
  | brk => exact h
  | next => exact key h
  | cont => exact key h
theorem rangeJ {x : Str} {px : Pos} {r : Addr} {a₀ b₀ : Int} {t₀ u₀ v₀ : Tok} {n : Nat} (J : Nat → (Str → Option Value) → List (Addr × Obj) → Nat → Prop)
    (hh : A.handled = none) (hr : IsRange s.heap r a₀ b₀ 1 t₀ u₀ v₀) (hsmall : Builtin.Range.small a₀ b₀ 1 = true) (hn : Builtin.Range.rangeSize a₀ b₀ 1 = (n : Int)) (F : Fr h₀ env.locals s.heap m₀) (N : News h₀ env.locals s.heap news)
    (hj : J 0 m₀ news s.toks)
    (turn : ∀ (i : Nat) t m₁ news₁ tk₀ tk₁ h₁ I o, i < n → J i m₁ news₁ tk₀ → tk₀ ≤ tk₁ → o.cls = .type "range_iterator" → (∀ p ∈ news₁, @Ne Nat p.1 I) → Fr h₀ env.locals h₁ m₁ → News h₀ env.locals h₁ ((I, o) :: news₁) →
      wpAny (model prog w) A (assign (.Name x px) env (.int (a₀ + (i : Int)) t)) (fun _ s₃ => wpAny (model prog w) A (execs body env) (TurnT h₀ env.locals { s with heap := h₁, toks := tk₁ } [(I, o)] [] (fun m nx tk => tk₁ ≤ tk → J (i + 1) m nx tk) Q) E s₃) E { s with heap := h₁, toks := tk₁ })
    (fin : ∀ h' tk₀ tk m' news', Fr h₀ env.locals h' m' → News h₀ env.locals h' news' → J n m' news' tk₀ → tk₀ ≤ tk → wpAny (model prog w) A (execs orelse env) Q E { s with heap := h', toks := tk }) :
    wpAny (model prog w) A (pyIter (.ref r)) (fun it s₂ => LoopT prog w A h₀ env (.Name x px) body orelse Q E it s₂) E s := by
  refine wpAny_pyIter_range hr hsmall ?_
  have W : Walks prog w A s.heap.objs.size [s.heap.objs.size] [s.heap.objs.size] n (fun i v => i < n ∧ ∃ t, v = .int (a₀ + i * 1) t)
      (fun i h => IsRangeIter h s.heap.objs.size (a₀ + (i : Nat) * 1) ((n : Int) - (i : Nat)) 1) := (Walks.range hh _ a₀ 1 n).bound
  refine srcT (ws := [(s.heap.objs.size, "range_iterator")]) (keep := []) (KTurns.ofWalks W fun i v s Q E st q => wpAny_pure q) (fun i m nx tk => J i m nx tk ∧ ∀ p ∈ nx, p.1 ≠ s.heap.objs.size) ?_ ?_ ?_ ?_ ?_ ?_ (by show IsRangeIter _ _ _ _ _; rw [hn]; simpa using Heap.get?_push_size _ rfl) (F.push _) (fun p hp => ⟨Heap.get?_push_of_some _ (N p hp).1, (N p hp).2⟩) trivial ⟨hj, fun p hp => Nat.ne_of_lt (Heap.lt_size (N p hp).1)⟩ ?_ ?_
  · intro i h st
    have st' : ∃ oe : Obj, h.get? s.heap.objs.size = some oe ∧ oe.cls = .type "range_iterator" := ⟨_, st, rfl⟩
    obtain ⟨oe, h1, h2⟩ := st'
    exact ⟨[(s.heap.objs.size, oe)], ⟨⟨rfl, h2⟩, trivial⟩, fun p hp => by rw [List.mem_singleton.mp hp]; exact h1⟩
  · intro b hb
    have hb' : b = s.heap.objs.size := by simpa using hb
    rw [hb']
    exact ⟨List.mem_cons_self .., next_is_new F⟩
  · intro b hb; simpa using hb
  · intro b hb; exact .inl (by simpa using hb)
  · intro hm
    exact absurd F.ns.lt ((List.mem_singleton.mp hm) ▸ Nat.lt_irrefl _)
  · intro p hp hI
    exact absurd (Heap.lt_size (N p hp).1) ((List.mem_singleton.mp hI) ▸ Nat.lt_irrefl _)
  · rintro i v m₁ news₁ h₁ tk₀ tk₁ hi ⟨_, t, rfl⟩ ⟨hJ, hne⟩ hle _ F₁
    refine pack1 fun o ho N₁ => ?_
    rw [Int.mul_one]
    refine with_toksL (n := tk₁) (Nat.le_refl _) (wpAny_mono (turn i t m₁ news₁ tk₀ tk₁ h₁ _ o hi hJ hle ho hne F₁ N₁) (fun _ s₂ h₂ hl => with_toksL hl (wpAny_mono h₂ (fun f s₃ p hl2 => TurnT.off ⟨o, .head _⟩ hl2 p) fun _ _ e => e)) fun _ _ e => e)
  · rintro h' tk₀ tk m' news' F' N' ⟨hJ, _⟩ hle _
    exact fin h' tk₀ tk m' news' F' N' hJ hle
theorem listJ {x : Str} {px : Pos} {ax : Addr} {lo : Obj} {vs : List Value} {n : Nat} (J : Nat → (Str → Option Value) → List (Addr × Obj) → Nat → Prop)
    (hh : A.handled = none) (hm : (ax, lo) ∈ news) (hc : lo.cls = .type "list") (hd : lo.data = .seq vs.toArray n) (F : Fr h₀ env.locals s.heap m₀) (N : News h₀ env.locals s.heap news)
    (hj : J 0 m₀ news s.toks)
    (turn : ∀ (i : Nat) v m₁ news₁ tk₀ tk₁ h₁ I o, vs[i]? = some v → J i m₁ news₁ tk₀ → tk₀ ≤ tk₁ → o.cls = .type "list_iterator" → (ax, lo) ∈ news₁ → (∀ p ∈ news₁, @Ne Nat p.1 I) → Fr h₀ env.locals h₁ m₁ → News h₀ env.locals h₁ ((I, o) :: news₁) →
      wpAny (model prog w) A (assign (.Name x px) env v) (fun _ s₃ => wpAny (model prog w) A (execs body env) (TurnT h₀ env.locals { s with heap := h₁, toks := tk₁ } [(I, o)] [(ax, lo)] (fun m nx tk => tk₁ ≤ tk → J (i + 1) m nx tk) Q) E s₃) E { s with heap := h₁, toks := tk₁ })
    (fin : ∀ h' tk₀ tk m' news', Fr h₀ env.locals h' m' → News h₀ env.locals h' news' → J vs.length m' news' tk₀ → tk₀ ≤ tk → wpAny (model prog w) A (execs orelse env) Q E { s with heap := h', toks := tk }) :
    wpAny (model prog w) A (pyIter (.ref ax)) (fun it s₂ => LoopT prog w A h₀ env (.Name x px) body orelse Q E it s₂) E s := by
  have hax := N _ hm
  have hl : s.heap.IsList ax vs.toArray := ⟨lo, hax.1, hc, n, hd⟩
  have hlt : ax < s.heap.objs.size := Heap.lt_size hax.1
  have hne : ax ≠ s.heap.objs.size := Nat.ne_of_lt hlt
  refine wpAny_pyIter_list hl ?_
  have W := KTurns.ofWalks (target := .Name x px) (Walks.list (prog := prog) (w := w) hh s.heap.objs.size ax hne vs.toArray) fun i v s Q E st q => letGo_listiter st.1 q
  rw [show vs.toArray.size = vs.length from List.size_toArray ..] at W
  refine srcT (ws := [(s.heap.objs.size, "list_iterator")]) (keep := [(ax, lo)]) (tk0 := s.toks) W (fun i m nx tk => J i m nx tk ∧ ∀ p ∈ nx, p.1 ≠ s.heap.objs.size) (fun i h st => ?_) (fun b hb => ?_) (fun b hb => by simpa using hb) (fun b hb => ?_) ?_ (fun p hp hI => ?_) ?_ (F.push _) (fun p hp => ⟨Heap.get?_push_of_some _ (N p hp).1, (N p hp).2⟩) (And.intro hm trivial) ⟨hj, fun p hp => Nat.ne_of_lt (Heap.lt_size (N p hp).1)⟩ ?_ ?_
  · obtain ⟨it, hit, hic, _⟩ := st.1
    exact ⟨[(s.heap.objs.size, it)], ⟨⟨rfl, hic⟩, trivial⟩, fun p hp => by rw [List.mem_singleton.mp hp]; exact hit⟩
  · have hb' : b = s.heap.objs.size := by simpa using hb
    rw [hb']
    exact ⟨List.mem_cons_self .., next_is_new F⟩
  · have hb' : b = s.heap.objs.size ∨ b = ax := by simpa using hb
    rcases hb' with e | e
    · exact .inl (by simp [e])
    · exact .inr (.inl ⟨lo, by simp [e]⟩)
  · intro hm'
    rcases List.mem_cons.mp hm' with e | hm'
    · exact absurd F.ns.lt (e ▸ Nat.lt_irrefl _)
    · exact hax.2.1 (List.mem_singleton.mp hm').symm
  · exact absurd (Heap.lt_size (N p hp).1) ((List.mem_singleton.mp hI) ▸ Nat.lt_irrefl _)
  · exact ⟨⟨_, Heap.get?_push_size _ rfl, rfl, rfl⟩, hl.push _⟩
  · rintro i v m₁ news₁ h₁ tk₀ tk₁ hi hv ⟨hJ, hne⟩ hle hk F₁
    refine pack1 fun o ho N₁ => ?_
    refine with_toksL (n := tk₁) (Nat.le_refl _) (wpAny_mono (turn i v m₁ news₁ tk₀ tk₁ h₁ _ o (by simpa using hv) hJ hle ho (hk.mem _ (.head _)) hne F₁ N₁) (fun _ s₂ h₂ hl => with_toksL hl (wpAny_mono h₂ (fun f s₃ p hl2 => TurnT.off ⟨o, .head _⟩ hl2 p) fun _ _ e => e)) fun _ _ e => e)
  · rintro h' tk₀ tk m' news' F' N' ⟨hJ, _⟩ hle _
    exact fin h' tk₀ tk m' news' F' N' hJ hle
end
theorem turn_gen {α : Type} {M : Model} {A : Around} {E : Value → Shared → Prop} {s : Shared} {t : Sem α} {body : List Stmt} {env : Env} {Q : Flow → Shared → Prop}
    (h : ∀ Q' : Flow → Shared → Prop, (∀ f s', Q f s' → Q' f s') → wpAny M A t (fun _ s₃ => wpAny M A (execs body env) Q' E s₃) E s) : wpAny M A t (fun _ s₃ => wpAny M A (execs body env) Q E s₃) E s := h Q fun _ _ x => x
noncomputable abbrev intsO (zs : List (Int × Tok)) (n : Nat) : Obj := W.listOf (intsV zs).toArray n
noncomputable def IFltYes (h₀ : Heap) (L : Addr) (m : Str → Option Value) (led : List (Addr × Obj)) (s₁ : Shared) (good : Bool) (v : Int) (y : Value) (s' : Shared) : Prop :=
  ∃ h' tk t, s' = { s₁ with heap := h', toks := tk } ∧ Fr h₀ L h' m ∧ News h₀ L h' led ∧ y = .int v t ∧ good = true
noncomputable def IFltNo (h₀ : Heap) (L : Addr) (m : Str → Option Value) (led : List (Addr × Obj)) (s₁ : Shared) (good : Bool) (s' : Shared) : Prop :=
  ∃ h' tk, s' = { s₁ with heap := h', toks := tk } ∧ Fr h₀ L h' m ∧ News h₀ L h' led ∧ good = false
theorem IFltYes.intro {h₀ : Heap} {L : Addr} {m : Str → Option Value} {led all : List (Addr × Obj)} {s₁ : Shared} {good : Bool} {v : Int} {t : Tok} {h' : Heap} {tk : Nat} (F : Fr h₀ L h' m) (N : News h₀ L h' all) (sub : SubL led all) (g : good = true) :
    IFltYes h₀ L m led s₁ good v (.int v t) { s₁ with heap := h', toks := tk } := ⟨_, _, _, rfl, F, fun p hp => N p (sub.mem p hp), rfl, g⟩
theorem IFltNo.intro {h₀ : Heap} {L : Addr} {m : Str → Option Value} {led all : List (Addr × Obj)} {s₁ : Shared} {good : Bool} {h' : Heap} {tk : Nat} (F : Fr h₀ L h' m) (N : News h₀ L h' all) (sub : SubL led all) (g : good = false) :
    IFltNo h₀ L m led s₁ good { s₁ with heap := h', toks := tk } := ⟨_, _, rfl, F, fun p hp => N p (sub.mem p hp), g⟩
section
variable {prog : Program} {w : World} {A : Around} {h₀ : Heap} {L : Addr} {m : Str → Option Value} {env : Env} {ct elt : Expr} {x : Str} {scope : Scope} {cl : List (Str × Addr)} {s : Shared} {S : List (Addr × Obj) → Prop} {P : Nat → Value → Prop} {Fin : List Value → List (Addr × Obj) → Prop} {news : List (Addr × Obj)}
theorem fltI_rest {n : Nat} (good : Nat → Bool) (val : Nat → Int) (hS : S news)
    (turn : ∀ i v I oI C oC D m₂ ys h tk (E' : Value → Shared → Prop), i < n → P i v → NsObj oC m₂ → m₂ x = some v → Fr h₀ L h m → News h₀ L h ((I, oI) :: (C, oC) :: (D, lst ys) :: news) → Off3 I C D news → ((@Ne Nat I C) ∧ (@Ne Nat I D) ∧ (@Ne Nat C D)) →
      wpAny (model prog w) A (isTrue ct (compEnvC scope cl C env) (eval ct (compEnvC scope cl C env))) (fun b s' => if b = true then wpAny (model prog w) A (eval elt (compEnvC scope cl C env)) (IFltYes h₀ L m ((I, oI) :: (C, oC) :: (D, lst ys) :: news) { s with heap := h, toks := tk } (good i) (val i)) E' s'
        else IFltNo h₀ L m ((I, oI) :: (C, oC) :: (D, lst ys) :: news) { s with heap := h, toks := tk } (good i) s') E' { s with heap := h, toks := tk })
    (fin : ∀ zs : List (Int × Tok), zs.map (·.1) = ((List.range n).filter good).map val → Fin (intsV zs) news) : CompRestT prog w A h₀ L m env ct elt x scope cl s S P Fin n 0 [] news := by
  have key : ∀ (j i : Nat) (zs : List (Int × Tok)), i + j = n → zs.map (·.1) = ((List.range i).filter good).map val → CompRestT prog w A h₀ L m env ct elt x scope cl s S P Fin j i (intsV zs) news := by
    intro j
    induction j with
    | zero =>
      intro i zs hi hy
      have e : i = n := by omega
      subst e
      exact CompRestT.zero (fin zs hy)
    | succ j ih =>
      intro i zs hi hy
      refine CompRestT.succ ?_
      intro v I oI C oC D m₂ h tk E' hv hC hx F N off ne
      have hs : List.range (i + 1) = List.range i ++ [i] := List.range_succ
      refine wpAny_mono (turn i v I oI C oC D m₂ (intsV zs) h tk E' (by omega) hv hC hx F N off ne) (fun b s₂ hq => ?_) fun _ _ e => e
      cases b with
      | true =>
        simp only [if_true] at hq ⊢
        refine wpAny_mono hq (fun y s₃ hr => ?_) fun _ _ e => e
        obtain ⟨h', tk', t, e, F', N', rfl, hg⟩ := hr
        have q := ih (i + 1) (zs ++ [(val i, t)]) (by omega) (by rw [hs, List.filter_append, List.map_append, List.map_append, hy]; simp [hg])
        have e2 : intsV (zs ++ [(val i, t)]) = intsV zs ++ [Value.int (val i) t] := by simp [intsV]
        rw [e2] at q
        exact ⟨h', tk', news, e, F', N', off, hS, q⟩
      | false =>
        simp only [Bool.false_eq_true, if_false] at hq ⊢
        obtain ⟨h', tk', e, F', N', hg⟩ := hq
        exact ⟨h', tk', news, e, F', N', off, hS, ih (i + 1) zs (by omega) (by rw [hs, List.filter_append, List.map_append, hy]; simp [hg])⟩
  exact key n 0 [] (by omega) rfl
end
end
end
-- LwP
example : True := by
  w_top off
  k_with_none
  exact trivial
section
set_option maxHeartbeats 8000000
section
noncomputable def aboveF (ns : List Int) (k : Nat) : Int := (((List.range k).filter fun j : Nat => decide (ns.getD j 0 < ns.getD k 0)).map fun j : Nat => Int.ofNat j).foldl (fun (a b : Int) => if a < b then b else a) (-1)
theorem foldmax (l : List Int) : ∀ a : Int, (l.foldl (fun (a b : Int) => if a < b then b else a) a ∈ a :: l) ∧ ∀ x ∈ a :: l, x ≤ l.foldl (fun (a b : Int) => if a < b then b else a) a := by
  induction l with
  | nil => intro a; exact ⟨.head _, fun x hx => by rw [List.mem_singleton.mp hx]; exact Int.le_refl _⟩
  | cons y l ih =>
    intro a
    rw [List.foldl_cons]
    obtain ⟨h1, h2⟩ := ih (if a < y then y else a)
    have h3 := h2 _ (.head _)
    by_cases c : a < y
    · rw [if_pos c] at h1 h2 h3 ⊢
      refine ⟨.tail _ h1, fun x hx => ?_⟩
      rcases List.mem_cons.mp hx with rfl | hx
      · exact Int.le_trans (Int.le_of_lt c) h3
      · exact h2 x hx
    · rw [if_neg c] at h1 h2 h3 ⊢
      refine ⟨?_, fun x hx => ?_⟩
      · rcases List.mem_cons.mp h1 with h | h
        · rw [h]; exact .head _
        · exact .tail _ (.tail _ h)
      · rcases List.mem_cons.mp hx with rfl | hx
        · exact h3
        · rcases List.mem_cons.mp hx with rfl | hx
          · exact Int.le_trans (by omega) h3
          · exact h2 x (.tail _ hx)
theorem above_is {ns : List Int} {k : Nat} {M : Int} {zs : List (Int × Tok)} (e : zs.map (·.1) = ((List.range k).filter fun j : Nat => decide (ns.getD j 0 < ns.getD k 0)).map fun j : Nat => 0 + (j : Int))
    (h1 : M ∈ (-1 : Int) :: zs.map (·.1)) (h2 : ∀ a ∈ (-1 : Int) :: zs.map (·.1), a ≤ M) : M = aboveF ns k := by
  have e3 : (fun j : Nat => 0 + (j : Int)) = fun j : Nat => Int.ofNat j := funext fun j => Int.zero_add _
  rw [e3] at e
  rw [e] at h1 h2
  obtain ⟨h3, h4⟩ := foldmax (((List.range k).filter fun j : Nat => decide (ns.getD j 0 < ns.getD k 0)).map fun j : Nat => Int.ofNat j) (-1)
  exact Int.le_antisymm (h4 _ h1) (h2 _ h3)
theorem flt_len {k : Nat} {p : Nat → Bool} {f : Nat → Int} {zs : List (Int × Tok)} (e : zs.map (·.1) = ((List.range k).filter p).map f) : zs.length ≤ k := by
  have h := congrArg List.length e
  rw [List.length_map, List.length_map] at h
  rw [h]
  exact Nat.le_trans (List.length_filter_le ..) (by rw [List.length_range]; exact Nat.le_refl _)
theorem above_lt (ns : List Int) (k : Nat) : -1 ≤ aboveF ns k ∧ aboveF ns k < (k : Int) := by
  obtain ⟨h3, h4⟩ := foldmax (((List.range k).filter fun j : Nat => decide (ns.getD j 0 < ns.getD k 0)).map fun j : Nat => Int.ofNat j) (-1)
  refine ⟨h4 _ (.head _), ?_⟩
  unfold aboveF
  rcases List.mem_cons.mp h3 with h | h
  · rw [h]; omega
  · obtain ⟨j, hj, e⟩ := List.mem_map.mp h
    have := List.mem_range.mp (List.mem_filter.mp hj).1
    rw [← e]
    show (j : Int) < k
    omega
noncomputable def rowsF (above : List Int) : Nat → List (List Str)
  | 0 => []
  | k + 1 => rowsF above k ++ [(if 0 ≤ above.getD k 0 then (rowsF above k).getD (above.getD k 0).toNat [] else []) ++ [nmF.getD k S1]]
theorem rowsF_length (above : List Int) : ∀ k, (rowsF above k).length = k
  | 0 => rfl
  | k + 1 => by unfold rowsF; rw [List.length_append, rowsF_length above k]; rfl
theorem rowsF_len (above : List Int) : ∀ k, ∀ r ∈ rowsF above k, r.length ≤ k
  | 0 => fun r hr => by cases hr
  | k + 1 => fun r hr => by
    unfold rowsF at hr
    rcases List.mem_append.mp hr with hr | hr
    · exact Nat.le_succ_of_le (rowsF_len above k r hr)
    · rw [List.mem_singleton.mp hr, List.length_append]
      refine Nat.succ_le_succ ?_
      split
      · rw [List.getD_eq_getElem?_getD]
        cases e : (rowsF above k)[(above.getD k 0).toNat]? with
        | none => exact Nat.zero_le _
        | some q => exact rowsF_len above k q (List.mem_of_getElem? e)
      · exact Nat.zero_le _
theorem row_len {above : List Int} {i j : Nat} {zs : List (Str × Tok)} (e : zs.map (·.1) = (rowsF above i).getD j []) (hi : i < 6) : zs.length < 2000 := by
  have h := congrArg List.length e
  rw [List.length_map, List.getD_eq_getElem?_getD] at h
  cases e2 : (rowsF above i)[j]? with
  | none => rw [e2] at h; change zs.length = 0 at h; omega
  | some q => rw [e2] at h; have := rowsF_len above i q (List.mem_of_getElem? e2); change zs.length = q.length at h; omega
noncomputable abbrev RowR := Addr × List (Str × Tok) × Nat
noncomputable def rowsLed (rs : List RowR) : List (Addr × Obj) := rs.map fun r => (r.1, strsO r.2.1 r.2.2)
noncomputable abbrev rowsO (rs : List RowR) (n : Nat) : Obj := W.listOf (rs.map fun r => Value.ref r.1).toArray n
structure LoopA (ns : List Int) (lA lR kc : Addr) (i : Nat) (am : List (Int × Tok)) (rs : List RowR) (oc : Obj) (tk : Nat) : Prop where
  lb : LB 1 tk
  am : am.map (·.1) = (List.range i).map (aboveF ns)
  rows : rs.map (fun r => r.2.1.map (·.1)) = rowsF ((List.range 6).map (aboveF ns)) i
  cell : ∃ v, oc.data = .cell v
  nA : ∀ p ∈ rowsLed rs, p.1 ≠ lA
  nR : ∀ p ∈ rowsLed rs, p.1 ≠ lR
  nk : ∀ p ∈ rowsLed rs, p.1 ≠ kc
theorem rowsLed_snoc {rs : List RowR} {r : RowR} : rowsLed (rs ++ [r]) = rowsLed rs ++ [(r.1, strsO r.2.1 r.2.2)] := by simp [rowsLed]
theorem rows_at {ns : List Int} {lA lR kc : Addr} {i : Nat} {am : List (Int × Tok)} {rs : List RowR} {oc : Obj} {tk : Nat} (J : LoopA ns lA lR kc i am rs oc tk) (h0 : 0 ≤ aboveF ns i) : ∃ a zs n, rs[(aboveF ns i).toNat]? = some (a, zs, n) ∧ (a, strsO zs n) ∈ rowsLed rs ∧ zs.map (·.1) = (rowsF ((List.range 6).map (aboveF ns)) i).getD (aboveF ns i).toNat [] := by
  have hl : rs.length = i := by have := congrArg List.length J.rows; rwa [List.length_map, rowsF_length] at this
  have h1 := (above_lt ns i).2
  have hj : (aboveF ns i).toNat < rs.length := by omega
  refine ⟨_, _, _, List.getElem?_eq_getElem hj, List.mem_map.mpr ⟨_, List.getElem_mem hj, rfl⟩, ?_⟩
  rw [← J.rows]
  simp [List.getD_eq_getElem?_getD, List.getElem?_eq_getElem hj]
theorem LoopA.next {ns : List Int} {lA lR kc : Addr} {i : Nat} {am : List (Int × Tok)} {rs : List RowR} {oc oc' : Obj} {tk tk' : Nat} (J : LoopA ns lA lR kc i am rs oc tk) (hi : i < 6) (hle : tk ≤ tk') {t ty : Tok} {D n : Nat} {zs : List (Str × Tok)} {y : Str} {v : Option Value}
    (hz : zs.map (·.1) = if 0 ≤ aboveF ns i then (rowsF ((List.range 6).map (aboveF ns)) i).getD (aboveF ns i).toNat [] else []) (hy : y = nmF.getD i S1) (hc : oc'.data = .cell v) (h1 : @Ne Nat D lA) (h2 : @Ne Nat D lR) (h3 : @Ne Nat D kc) :
    LoopA ns lA lR kc (i + 1) (am ++ [(aboveF ns i, t)]) (rs ++ [(D, zs ++ [(y, ty)], n)]) oc' tk' where
  lb := ⟨Nat.le_trans J.lb.le hle⟩
  am := by rw [List.map_append, J.am, List.range_succ, List.map_append]; rfl
  rows := by
    rw [List.map_append, J.rows]
    show _ = rowsF _ i ++ _
    have e : ((List.range 6).map (aboveF ns)).getD i 0 = aboveF ns i := by simp [List.getD_eq_getElem?_getD, hi]
    rw [e]
    simp [hz, hy]
  cell := ⟨v, hc⟩
  nA := fun p hp => by
    rw [rowsLed_snoc] at hp
    rcases List.mem_append.mp hp with hp | hp
    · exact J.nA p hp
    · rw [List.mem_singleton.mp hp]; exact h1
  nR := fun p hp => by
    rw [rowsLed_snoc] at hp
    rcases List.mem_append.mp hp with hp | hp
    · exact J.nR p hp
    · rw [List.mem_singleton.mp hp]; exact h2
  nk := fun p hp => by
    rw [rowsLed_snoc] at hp
    rcases List.mem_append.mp hp with hp | hp
    · exact J.nk p hp
    · rw [List.mem_singleton.mp hp]; exact h3
section
variable {prog : Program} {w : World} {A : Around} {E : Value → Shared → Prop} {s : Shared} {h₀ : Heap} {L : Addr} {m : Str → Option Value} {Q : Value → Shared → Prop} {news news' : List (Addr × Obj)}
theorem itemL {value slice : Expr} {l : Addr} {its : Array Value} {n : Nat} {k : Int} {j : Nat} {u : Tok} {v : Value} (N : News h₀ L s.heap news) (hm : (l, W.listOf its n) ∈ news) (hk : k = (j : Int)) (hx : its[j]? = some v) (hj : j < 2000) (h : Q v s)
    (hs : subscripted slice false (.ref l) (.int k u) = operate [.ref l, .int k u] (getItem (.ref l) (.int k u)) := by with_unfolding_all rfl) :
    wpAny (model prog w) A (subscriptTail value slice (.ref l) (.int k u)) Q E s := by
  have hl' : s.heap.IsList l its := ⟨_, (N _ hm).1, rfl, n, rfl⟩
  subst hk
  exact tail_any hl'.typeIs slot_list_getitem.lookup (wpAny_getItem_list hl' (Int.natCast_nonneg j) (by omega) hx h) hs
theorem item_numL {value slice : Expr} {l : Addr} {nt : List (Int × Tok)} {n : Nat} {k : Int} {j : Nat} {u : Tok} (N : News h₀ L s.heap news) (hm : (l, W.listOf (intsV nt).toArray n) ∈ news) (h6 : j < nt.length) (hk : k = (j : Int)) (hj : j < 2000) (h : ∀ t, Q (.int ((nt.map (·.1)).getD j 0) t) s)
    (hs : subscripted slice false (.ref l) (.int k u) = operate [.ref l, .int k u] (getItem (.ref l) (.int k u)) := by with_unfolding_all rfl) :
    wpAny (model prog w) A (subscriptTail value slice (.ref l) (.int k u)) Q E s := by
  refine itemL (v := .int ((nt.map (·.1)).getD j 0) nt[j].2) N hm hk ?_ hj (h _) hs
  simp [intsV, List.getD_eq_getElem?_getD, List.getElem?_eq_getElem h6]
theorem item_strL {value slice : Expr} {l : Addr} {zs : List (Str × Tok)} {n : Nat} {k : Int} {j : Nat} {u : Tok} (N : News h₀ L s.heap news) (hm : (l, strsO zs n) ∈ news) (h6 : j < zs.length) (hk : k = (j : Int)) (hj : j < 2000) (h : ∀ y t, y = (zs.map (·.1)).getD j S1 → zs[j]? = some (y, t) → Q (.str y t) s)
    (hs : subscripted slice false (.ref l) (.int k u) = operate [.ref l, .int k u] (getItem (.ref l) (.int k u)) := by with_unfolding_all rfl) :
    wpAny (model prog w) A (subscriptTail value slice (.ref l) (.int k u)) Q E s := by
  refine itemL (v := .str zs[j].1 zs[j].2) N hm hk ?_ hj (h _ _ ?_ (List.getElem?_eq_getElem h6)) hs
  · simp [strValues, List.getElem?_eq_getElem h6]
  · simp [List.getD_eq_getElem?_getD, List.getElem?_eq_getElem h6]
theorem item_rowL {value slice : Expr} {l : Addr} {rs : List RowR} {n : Nat} {k : Int} {u : Tok} {a : Addr} {zs : List (Str × Tok)} {q : Nat} (N : News h₀ L s.heap news) (hm : (l, rowsO rs n) ∈ news) (hr : rs[k.toNat]? = some (a, zs, q)) (h0 : 0 ≤ k) (hj : k.toNat < 2000) (h : Q (.ref a) s)
    (hs : subscripted slice false (.ref l) (.int k u) = operate [.ref l, .int k u] (getItem (.ref l) (.int k u)) := by with_unfolding_all rfl) :
    wpAny (model prog w) A (subscriptTail value slice (.ref l) (.int k u)) Q E s := by
  refine itemL (j := k.toNat) (v := .ref a) N hm (Int.toNat_of_nonneg h0).symm ?_ hj h hs
  simp [hr]
theorem item_lastI {value slice : Expr} {l : Addr} {am : List (Int × Tok)} {x : Int} {tx : Tok} {n : Nat} {k : Int} {j : Nat} {u : Tok} (N : News h₀ L s.heap news) (hm : (l, intsO (am ++ [(x, tx)]) n) ∈ news) (hl : am.length = j) (hk : k = (j : Int)) (hj : j < 2000) (h : Q (.int x tx) s)
    (hs : subscripted slice false (.ref l) (.int k u) = operate [.ref l, .int k u] (getItem (.ref l) (.int k u)) := by with_unfolding_all rfl) :
    wpAny (model prog w) A (subscriptTail value slice (.ref l) (.int k u)) Q E s := by
  refine itemL (v := .int x tx) N hm hk ?_ hj h hs
  subst hl
  simp [intsV]
theorem catS1 {a b : Addr} {its : Array Value} {zs : List (Str × Tok)} {y : Str} {t : Tok} {n1 n2 : Nat} (F : Fr h₀ L s.heap m) (N : News h₀ L s.heap news) (ha : (a, W.listOf its n1) ∈ news) (hb : (b, W.listOf #[.str y t] n2) ∈ news) (hz : zs.length < 2000) (e : its.toList = strValues zs)
    (h : ∀ D h', Fr h₀ L h' m → News h₀ L h' ((D, strsO (zs ++ [(y, t)]) 0) :: news) → (∀ p ∈ news, p.1 < D) → Q (.ref D) { s with heap := h' }) : wpAny (model prog w) A (binaryOp .Add (.ref a) (.ref b)) Q E s := by
  have hla : s.heap.IsList a its := ⟨_, (N _ ha).1, rfl, n1, rfl⟩
  have hlb : s.heap.IsList b #[.str y t] := ⟨_, (N _ hb).1, rfl, n2, rfl⟩
  refine kmk_add_lit F N hla hlb (zs := strValues (zs ++ [(y, t)])) (by rw [e]; simp [strValues]) h ?_
  rw [e, PySem.sizeLine_eq]
  simp [strValues]
  omega
theorem catS2 {a b : Addr} {zs : List (Str × Tok)} {y : Str} {t : Tok} {n1 n2 : Nat} (F : Fr h₀ L s.heap m) (N : News h₀ L s.heap news) (ha : (a, strsO zs n1) ∈ news) (hb : (b, W.listOf #[.str y t] n2) ∈ news) (hz : zs.length < 2000)
    (h : ∀ D h', Fr h₀ L h' m → News h₀ L h' ((D, strsO (zs ++ [(y, t)]) 0) :: news) → (∀ p ∈ news, p.1 < D) → Q (.ref D) { s with heap := h' }) : wpAny (model prog w) A (binaryOp .Add (.ref a) (.ref b)) Q E s := catS1 (its := (strValues zs).toArray) F N ha hb hz rfl h
theorem catS3 {a b : Addr} {y : Str} {t : Tok} {n1 n2 : Nat} (F : Fr h₀ L s.heap m) (N : News h₀ L s.heap news) (ha : (a, W.listOf #[] n1) ∈ news) (hb : (b, W.listOf #[.str y t] n2) ∈ news)
    (h : ∀ D h', Fr h₀ L h' m → News h₀ L h' ((D, strsO ([] ++ [(y, t)]) 0) :: news) → (∀ p ∈ news, p.1 < D) → Q (.ref D) { s with heap := h' }) : wpAny (model prog w) A (binaryOp .Add (.ref a) (.ref b)) Q E s := catS1 (its := #[]) (zs := []) F N ha hb (by decide) rfl h
theorem rows_push {rs : List RowR} {a : Addr} {zs : List (Str × Tok)} {n : Nat} : (rs.map fun r => Value.ref r.1).toArray.push (.ref a) = ((rs ++ [(a, zs, n)]).map fun r => Value.ref r.1).toArray := by simp
theorem cat1I {a b : Addr} {zs : List (Int × Tok)} {v : Int} {t : Tok} {n1 n2 : Nat} (F : Fr h₀ L s.heap m) (N : News h₀ L s.heap news) (ha : (a, W.listOf #[.int v t] n1) ∈ news) (hb : (b, W.listOf (intsV zs).toArray n2) ∈ news) (hz : zs.length < 2000)
    (h : ∀ D h', Fr h₀ L h' m → News h₀ L h' ((D, intsO ((v, t) :: zs) 0) :: news) → (∀ p ∈ news, p.1 < D) → Q (.ref D) { s with heap := h' }) : wpAny (model prog w) A (binaryOp .Add (.ref a) (.ref b)) Q E s := by
  have hla : s.heap.IsList a #[.int v t] := ⟨_, (N _ ha).1, rfl, n1, rfl⟩
  have hlb : s.heap.IsList b (intsV zs).toArray := ⟨_, (N _ hb).1, rfl, n2, rfl⟩
  refine kmk_add_lit F N hla hlb (zs := intsV ((v, t) :: zs)) (by simp [intsV]) h ?_
  rw [PySem.sizeLine_eq]
  simp [intsV]
  omega
theorem intsAre_intsV : ∀ zs : List (Int × Tok), IntsAre (intsV zs) (zs.map (·.1))
  | [] => .nil
  | (v, t) :: zs => .cons v t (intsAre_intsV zs)
theorem max_I {l : Addr} {zs : List (Int × Tok)} {n : Nat} (F : Fr h₀ L s.heap m) (N : News h₀ L s.heap news) (hm : (l, intsO zs n) ∈ news) (hne : 0 < zs.length) (hh : A.handled = none)
    (h : ∀ h' M (t : Tok) tk, Fr h₀ L h' m → News h₀ L h' news → M ∈ zs.map (·.1) → (∀ a, a ∈ zs.map (·.1) → a ≤ M) → Q (.int M t) { s with heap := h', toks := tk }) : wpAny (model prog w) A (call (.builtin "max") [.ref l]) Q E s :=
  kso_max F N ⟨_, (N _ hm).1, rfl, n, rfl⟩ (intsAre_intsV zs) (by rw [List.length_map]; exact hne) hh h
theorem append_I {D : Addr} {zs : List (Int × Tok)} {n : Nat} {x : Int} {t : Tok} (F : Fr h₀ L s.heap m) (N : News h₀ L s.heap news) (U : Upd D (intsO zs n) (intsO (zs ++ [(x, t)]) (n + 1)) news news') (hz : zs.length < 2000)
    (h : ∀ h', Fr h₀ L h' m → News h₀ L h' news' → Q .none { s with heap := h' }) : wpAny (model prog w) A (call (.builtin "list.append") [.ref D, .int x t]) Q E s := by
  have e : (intsV zs).toArray.push (.int x t) = (intsV (zs ++ [(x, t)])).toArray := by simp [intsV]
  refine append_K (its := (intsV zs).toArray) (n := n) F N ?_ h (hsz := by simp only [List.size_toArray, intsV, List.length_map]; rw [PySem.sizeLine_eq]; omega)
  rw [e]; exact U
theorem append_R {D a : Addr} {rs : List RowR} {zs : List (Str × Tok)} {n k : Nat} (F : Fr h₀ L s.heap m) (N : News h₀ L s.heap news) (_ : (a, strsO zs k) ∈ news) (U : Upd D (rowsO rs n) (rowsO (rs ++ [(a, zs, k)]) (n + 1)) news news') (hz : rs.length < 2000)
    (h : ∀ h', Fr h₀ L h' m → News h₀ L h' news' → Q .none { s with heap := h' }) : wpAny (model prog w) A (call (.builtin "list.append") [.ref D, .ref a]) Q E s := by
  have e : (rs.map fun r => Value.ref r.1).toArray.push (.ref a) = ((rs ++ [(a, zs, k)]).map fun r => Value.ref r.1).toArray := by simp
  refine append_K (its := (rs.map fun r => Value.ref r.1).toArray) (n := n) F N ?_ h (hsz := by simp only [List.size_toArray, List.length_map]; rw [PySem.sizeLine_eq]; omega)
  rw [e]; exact U
end
end
end
-- Ev
example : True := by
  w_top off
  k_with_none
  exact trivial
section

section
structure EvC where
  prog : Program
  par : Params
  K : Nat → Option Obj
  ad : Nat → Nat
  t0 : Nat
structure EvS where
  os : List Obj
  i : Nat
  scr : List Nat
  ob : List (Nat × Nat)
noncomputable abbrev EvT : Type 1 := (α : Type) → Sem α → EvS → Option (Except Value α × EvS)
noncomputable abbrev EvK : Type := Code → EvS → Option (Result × EvS)
noncomputable def evStep (c : EvC) (ih : EvT) (ihC : EvK) : EvT := fun α t st => match t with
  | .pure a => some (.ok a, st)
  | .raise e => some (.error e, st)
  | .rule _ k => ih α (k ()) st
  | .at _ k => ih α (k ()) st
  | .point _ k => ih α (k ()) st
  | .ask k => ih α (k ⟨c.prog, c.par⟩) st
  | .load a _ k => match st with
    | ⟨os, i, scr, ob⟩ => match scr with
      | [] => none
      | x :: r => match x with
        | 0 => match c.K a with
          | some o => ih α (k o) ⟨os, i, r, ob⟩
          | none => none
        | j + 1 => match os[j]? with
          | some o => ih α (k o) ⟨os, i, r, (a, c.ad j) :: ob⟩
          | none => none
  | .update a _ f k => match st with
    | ⟨os, i, scr, ob⟩ => match scr with
      | [] => none
      | x :: r => match x with
        | 0 => none
        | j + 1 => match os[j]? with
          | some o => match (f o).isFreed with
            | true => none
            | false => ih α (k ()) ⟨os.set j (f o), i, r, (a, c.ad j) :: ob⟩
          | none => none
  | .alloc o k => match o.isFreed with
    | true => none
    | false => match st with
      | ⟨os, i, scr, ob⟩ => ih α (k (c.ad os.length)) ⟨os ++ [o], i, scr, ob⟩
  | .fresh k => match st with
    | ⟨os, i, scr, ob⟩ => ih α (k (c.t0 + i)) ⟨os, i + 1, scr, ob⟩
  | .handled own k => match own with
    | true => none
    | false => ih α (k none) st
  | .call c' hd _ _ k => match hd with
    | some _ => none
    | none => match ihC c' st with
      | some (r, st') => ih α (k r) st'
      | none => none
  | _ => none
noncomputable def evCode (ih : EvT) (ihC : EvK) : EvK := fun c st => match ih PySem.Fin (denote treeTable c) st with
  | some (.ok (.done f), st') => some (.ok f, st')
  | some (.ok (.again c'), st') => match c'.quiet with
    | true => ihC c' st'
    | false => none
  | some (.error e, st') => some (.error e, st')
  | none => none
noncomputable def evs (c : EvC) : Nat → EvT × EvK
  | 0 => (fun _ _ _ => none, fun _ _ => none)
  | n + 1 => (evStep c (evs c n).1 (evs c n).2, evCode (evs c n).1 (evs c n).2)
noncomputable def evResOf {α : Type} : Option (Except Value α × EvS) → Option (Except Value α)
  | some (r, _) => some r
  | none => none
noncomputable def evStOf {α : Type} : Option (Except Value α × EvS) → EvS
  | some (_, s) => s
  | none => ⟨[], 0, [], []⟩
end
end
-- EvS
example : True := by
  w_top off
  k_with_none
  exact trivial
section
open PySem.W.X
section
structure EvOk (g : Heap) (n1 n0 : Nat) (c : EvC) : Prop where
  new : ∀ m, n0 ≤ m → c.ad m + n0 = n1 + m
  lt : ∀ i, i < n0 → c.ad i < n1
  inj : ∀ i j, i < n0 → j < n0 → c.ad i = c.ad j → i = j
  off : ∀ i, i < n0 → g.get? (c.ad i) = none
  gs : g.objs.size ≤ n1
  K : ∀ a o, c.K a = some o → g.get? a = some o
structure EvRep (g : Heap) (n1 n0 : Nat) (c : EvC) (s0 : Shared) (st : EvS) (s : Shared) : Prop where
  eq : s = { s0 with heap := s.heap, toks := c.t0 + st.i }
  size : s.heap.objs.size + n0 = n1 + st.os.length
  len : n0 ≤ st.os.length
  own : ∀ (i : Nat) o, st.os[i]? = some o → s.heap.get? (c.ad i) = some o
  old : ∀ b o, g.get? b = some o → s.heap.get? b = some o
theorem EvOk.ne {g : Heap} {n1 n0 : Nat} {c : EvC} (O : EvOk g n1 n0 c) {i j : Nat} (h : c.ad i = c.ad j) : i = j := by
  rcases Nat.lt_or_ge i n0 with hi | hi <;> rcases Nat.lt_or_ge j n0 with hj | hj
  · exact O.inj i j hi hj h
  · have h1 := O.lt i hi; have h2 := O.new j hj; omega
  · have h1 := O.lt j hj; have h2 := O.new i hi; omega
  · have h1 := O.new i hi; have h2 := O.new j hj; omega
theorem EvOk.offAll {g : Heap} {n1 n0 : Nat} {c : EvC} (O : EvOk g n1 n0 c) (i : Nat) : g.get? (c.ad i) = none := by
  rcases Nat.lt_or_ge i n0 with hi | hi
  · exact O.off i hi
  · have h1 := O.new i hi; exact Heap.get?_none_of_le (Nat.le_trans O.gs (by omega))
noncomputable def ObOk (l : List (Nat × Nat)) : Prop := ∀ p ∈ l, p.1 = p.2
noncomputable def EvGrow {α : Type} (f : EvS → Option (α × EvS)) : Prop := ∀ st r st', f st = some (r, st') → ∃ l, st'.ob = l ++ st.ob
theorem ev_grow (c : EvC) : ∀ n, (∀ α t, EvGrow ((evs c n).1 α t)) ∧ (∀ k, EvGrow ((evs c n).2 k)) := by
  intro n
  induction n with
  | zero => exact ⟨fun _ _ _ _ _ h => (nomatch h), fun _ _ _ _ h => (nomatch h)⟩
  | succ n ih =>
    obtain ⟨i1, i2⟩ := ih
    refine ⟨fun α t st r st' h => ?_, fun k st r st' h => ?_⟩
    · replace h : evStep c (evs c n).1 (evs c n).2 α t st = some (r, st') := h
      cases t with
      | pure a => cases h; exact ⟨[], rfl⟩
      | raise e => cases h; exact ⟨[], rfl⟩
      | rule _ k => exact i1 _ _ _ _ _ h
      | «at» _ k => exact i1 _ _ _ _ _ h
      | point _ k => exact i1 _ _ _ _ _ h
      | ask k => exact i1 _ _ _ _ _ h
      | load a q k =>
        obtain ⟨os, i, scr, ob⟩ := st
        (delta evStep at h; dsimp only at h)
        split at h
        · cases h
        · split at h
          · split at h
            · obtain ⟨l, e⟩ := i1 _ _ _ _ _ h; exact ⟨l, e⟩
            · cases h
          · split at h
            · obtain ⟨l, e⟩ := i1 _ _ _ _ _ h; exact ⟨l ++ [_], by rw [e, List.append_assoc]; rfl⟩
            · cases h
      | update a q f k =>
        obtain ⟨os, i, scr, ob⟩ := st
        (delta evStep at h; dsimp only at h)
        split at h
        · cases h
        · split at h
          · cases h
          · split at h
            · split at h
              · cases h
              · obtain ⟨l, e⟩ := i1 _ _ _ _ _ h; exact ⟨l ++ [_], by rw [e, List.append_assoc]; rfl⟩
            · cases h
      | alloc o k =>
        obtain ⟨os, i, scr, ob⟩ := st
        (delta evStep at h; dsimp only at h)
        split at h
        · cases h
        · obtain ⟨l, e⟩ := i1 _ _ _ _ _ h; exact ⟨l, e⟩
      | fresh k =>
        obtain ⟨os, i, scr, ob⟩ := st
        obtain ⟨l, e⟩ := i1 _ _ _ _ _ h; exact ⟨l, e⟩
      | handled own k =>
        cases own with
        | true => cases h
        | false => exact i1 _ _ _ _ _ h
      | call c' hd g l k =>
        cases hd with
        | some _ => cases h
        | none =>
          (delta evStep at h; dsimp only at h)
          split at h
          · rename_i r1 st1 h1
            obtain ⟨l1, e1⟩ := i2 _ _ _ _ h1
            obtain ⟨l2, e2⟩ := i1 _ _ _ _ _ h
            exact ⟨l2 ++ l1, by rw [e2, e1, List.append_assoc]⟩
          · cases h
      | _ => cases h
    · replace h : evCode (evs c n).1 (evs c n).2 k st = some (r, st') := h
      unfold evCode at h
      split at h
      · rename_i h1; cases h; exact i1 _ _ _ _ _ h1
      · rename_i c' st1 h1
        split at h
        · obtain ⟨l1, e1⟩ := i1 _ _ _ _ _ h1
          obtain ⟨l2, e2⟩ := i2 _ _ _ _ h
          exact ⟨l2 ++ l1, by rw [e2, e1, List.append_assoc]⟩
        · cases h
      · rename_i h1; cases h; exact i1 _ _ _ _ _ h1
      · cases h
theorem ObOk.of {st st' : EvS} (h : ∃ l, st'.ob = l ++ st.ob) (o : ObOk st'.ob) : ObOk st.ob := by
  obtain ⟨l, e⟩ := h
  exact fun p hp => o p (e ▸ List.mem_append_right _ hp)
section
variable {w : World} {g : Heap} {n1 n0 : Nat} {c : EvC} {s0 : Shared}
theorem ev_sound (O : EvOk g n1 n0 c) (hw : c.par = w.params) : ∀ n,
    (∀ (α : Type) (t : Sem α) (A : Around) (Q : α → Shared → Prop) (E : Value → Shared → Prop) (st : EvS) (s : Shared) (r : Except Value α) (st' : EvS), A.handled = none → (evs c n).1 α t st = some (r, st') → ObOk st'.ob → EvRep g n1 n0 c s0 st s →
      (∀ s', EvRep g n1 n0 c s0 st' s' → match r with | .ok a => Q a s' | .error e => E e s') → wpAny (model c.prog w) A t Q E s) ∧
    (∀ (k : Code) (A : Around) (R : Result → Shared → Prop) (st : EvS) (s : Shared) (r : Result) (st' : EvS), A.handled = none → (evs c n).2 k st = some (r, st') → ObOk st'.ob → EvRep g n1 n0 c s0 st s →
      (∀ s', EvRep g n1 n0 c s0 st' s' → R r s') → codeAny (model c.prog w) A k R s) := by
  intro n
  induction n with
  | zero => exact ⟨fun _ _ _ _ _ _ _ _ _ _ h => (nomatch h), fun _ _ _ _ _ _ _ _ h => (nomatch h)⟩
  | succ n ih =>
    obtain ⟨i1, i2⟩ := ih
    refine ⟨fun α t A Q E st s r st' hA h ob D hQ => ?_, fun k A R st s r st' hA h ob D hR => ?_⟩
    · replace h : evStep c (evs c n).1 (evs c n).2 α t st = some (r, st') := h
      cases t with
      | pure a => cases h; exact wpAny_pure (hQ s D)
      | raise e => cases h; exact wpAny_throw (hQ s D)
      | rule tag k => exact wpAny_bind (m := rule tag) (f := k) (wpAny_rule (i1 _ _ _ _ _ _ _ _ _ hA h ob D hQ))
      | «at» p k => exact wpAny_bind (m := standAt p) (f := k) (wpAny_standAt (i1 _ _ _ _ _ _ _ _ _ hA h ob D hQ))
      | point l k => exact fun Γ p hΓ => i1 _ _ _ _ _ _ _ _ _ hA h ob D hQ Γ p hΓ
      | ask k =>
        refine wpAny_bind (m := ask) (f := k) (wpAny_askSetting ?_)
        show wpAny _ _ (k ⟨c.prog, w.params⟩) _ _ _
        rw [← hw]
        exact i1 _ _ _ _ _ _ _ _ _ hA h ob D hQ
      | load a q k =>
        obtain ⟨os, i, scr, obl⟩ := st
        (delta evStep at h; dsimp only at h)
        split at h
        · cases h
        · split at h
          · split at h
            · rename_i o ho
              exact wpAny_bind (m := loadPart a q) (f := k) (wpAny_loadPart (D.old _ _ (O.K _ _ ho)) (i1 _ _ _ _ _ _ _ _ _ hA h ob ⟨D.eq, D.size, D.len, D.own, D.old⟩ hQ))
            · cases h
          · split at h
            · rename_i j _ o ho
              have e : a = c.ad j := (ObOk.of ((ev_grow c n).1 _ _ _ _ _ h) ob) (a, c.ad j) (.head _)
              refine wpAny_bind (m := loadPart a q) (f := k) (wpAny_loadPart (o := o) ?_ (i1 _ _ _ _ _ _ _ _ _ hA h ob ⟨D.eq, D.size, D.len, D.own, D.old⟩ hQ))
              rw [e]; exact D.own j o ho
            · cases h
      | update a q f k =>
        obtain ⟨os, i, scr, obl⟩ := st
        (delta evStep at h; dsimp only at h)
        split at h
        · cases h
        · split at h
          · cases h
          · split at h
            · rename_i j _ o ho
              split at h
              · cases h
              · rename_i hf
                have e : a = c.ad j := (ObOk.of ((ev_grow c n).1 _ _ _ _ _ h) ob) (a, c.ad j) (.head _)
                have hg : s.heap.get? a = some o := by rw [e]; exact D.own j o ho
                have hs : Heap.SameBut a s.heap (s.heap.update a f) := Heap.SameBut.update ..
                refine wpAny_bind (m := updatePart a q f) (f := k) (wpAny_updatePart hg (i1 _ _ _ _ _ _ _ _ _ hA h ob ⟨?_, ?_, ?_, fun i' o' hi' => ?_, fun b o' hb => ?_⟩ hQ))
                · have := D.eq; rw [this]
                · rw [hs.1, D.size]; simp
                · have := D.len; simpa using this
                · by_cases hij : i' = j
                  · subst hij
                    have hl : i' < os.length := (List.getElem?_eq_some_iff.mp ho).1
                    rw [List.getElem?_set_self hl] at hi'
                    cases hi'
                    rw [← e]
                    exact Heap.get?_update_self _ hg hf
                  · have hi'' : os[i']? = some o' := by rwa [List.getElem?_set_ne (fun q => hij q.symm)] at hi'
                    exact (hs.2 _ fun q => hij (O.ne (q.trans e))).trans (D.own i' o' hi'')
                · exact (hs.2 b fun q => by rw [q, e, O.offAll j] at hb; cases hb).trans (D.old b o' hb)
            · cases h
      | alloc o k =>
        obtain ⟨os, i, scr, obl⟩ := st
        (delta evStep at h; dsimp only at h)
        split at h
        · cases h
        · rename_i hf
          have ea : s.heap.objs.size = c.ad os.length := by
            have h1 := D.size; have h2 := O.new os.length D.len
            dsimp only at h1
            omega
          refine wpAny_bind (m := alloc o) (f := k) (wpAny_alloc ?_)
          rw [ea]
          refine i1 _ _ _ _ _ _ _ _ _ hA h ob ⟨?_, ?_, ?_, fun i' o' hi' => ?_, fun b o' hb => Heap.get?_push_of_some _ (D.old b o' hb)⟩ hQ
          · have := D.eq; rw [this]
          · have h1 := D.size
            dsimp only at h1 ⊢
            rw [Heap.size_push, List.length_append, List.length_singleton]; omega
          · have := D.len; dsimp only at this ⊢; rw [List.length_append]; omega
          · rcases Nat.lt_trichotomy i' os.length with hl | hl | hl
            · rw [List.getElem?_append_left hl] at hi'
              exact Heap.get?_push_of_some _ (D.own i' o' hi')
            · subst hl
              simp at hi'
              subst hi'
              rw [← ea]
              exact Heap.get?_push_size _ hf
            · rw [List.getElem?_append_right (Nat.le_of_lt hl), List.getElem?_eq_none (by simp; omega)] at hi'
              cases hi'
      | fresh k =>
        obtain ⟨os, i, scr, obl⟩ := st
        refine wpAny_bind (m := fresh) (f := k) (wpAny_fresh ?_)
        have et : s.toks = c.t0 + i := by have := D.eq; rw [this]
        rw [et]
        refine i1 _ _ _ _ _ _ _ _ _ hA h ob ⟨?_, D.size, D.len, D.own, D.old⟩ hQ
        have := D.eq; rw [this]; rfl
      | handled own k =>
        cases own with
        | true => cases h
        | false =>
          refine wpAny_bind (m := handled) (f := k) (wpAny_handled ?_)
          rw [hA]
          exact i1 _ _ _ _ _ _ _ _ _ hA h ob D hQ
      | call c' hd gd l k =>
        cases hd with
        | some _ => cases h
        | none =>
          (delta evStep at h; dsimp only at h)
          split at h
          · rename_i r1 st1 h1
            refine x_call ?_ (fun e => nomatch e)
            rw [Around.mark_none]
            exact i2 _ _ _ _ _ _ _ hA h1 (ObOk.of ((ev_grow c n).1 _ _ _ _ _ h) ob) D fun s' D' => i1 _ _ _ _ _ _ _ _ _ hA h ob D' hQ
          · cases h
      | _ => cases h
    · replace h : evCode (evs c n).1 (evs c n).2 k st = some (r, st') := h
      unfold evCode at h
      rw [← table_eq_tree] at h
      have hA' : (A.under k).handled = none := hA
      split at h
      · rename_i f st1 h1
        cases h
        exact x_code (i1 _ _ _ _ _ _ _ _ _ hA' h1 ob D fun s' D' => hR s' D')
      · rename_i c' st1 h1
        split at h
        · rename_i hq
          exact x_code (i1 _ _ _ _ _ _ _ _ _ hA' h1 (ObOk.of ((ev_grow c n).2 _ _ _ _ h) ob) D fun s' D' => ⟨hq, i2 _ _ _ _ _ _ _ hA h ob D' hR⟩)
        · cases h
      · rename_i e st1 h1
        cases h
        exact x_code (i1 _ _ _ _ _ _ _ _ _ hA' h1 ob D fun s' D' => hR s' D')
      · cases h
end
end
end
-- EvU
example : True := by
  w_top off
  k_with_none
  exact trivial
section
open PySem.W.X
section
theorem obOk_of {l : List (Nat × Nat)} (h : l.map (·.1) = l.map (·.2)) : ObOk l := by
  induction l with
  | nil => exact fun _ h => nomatch h
  | cons p l ih =>
    simp only [List.map_cons, List.cons.injEq] at h
    intro q hq
    rcases List.mem_cons.mp hq with rfl | hq
    · exact h.1
    · exact ih h.2 q hq
theorem ev_res {α : Type} {x : Option (Except Value α × EvS)} {r : Except Value α} (h : evResOf x = some r) : x = some (r, evStOf x) := by
  cases x with
  | none => cases h
  | some p => cases h; rfl
theorem ev_use {α : Type} {w : World} {g : Heap} {n1 n0 : Nat} {c : EvC} {s0 s : Shared} {t : Sem α} {A : Around} {Q : α → Shared → Prop} {E : Value → Shared → Prop} {st : EvS} (n : Nat) (scr : List Nat) (v : α) (O : EvOk g n1 n0 c) (hw : c.par = w.params) (hA : A.handled = none) (D : EvRep g n1 n0 c s0 st s)
    (hr : evResOf ((evs c n).1 α t ⟨st.os, st.i, scr, []⟩) = some (.ok v)) (ho : (evStOf ((evs c n).1 α t ⟨st.os, st.i, scr, []⟩)).ob.map (·.1) = (evStOf ((evs c n).1 α t ⟨st.os, st.i, scr, []⟩)).ob.map (·.2))
    (k : ∀ s', EvRep g n1 n0 c s0 (evStOf ((evs c n).1 α t ⟨st.os, st.i, scr, []⟩)) s' → Q v s') : wpAny (model c.prog w) A t Q E s :=
  (ev_sound O hw n).1 α t A Q E ⟨st.os, st.i, scr, []⟩ s (.ok v) _ hA (ev_res hr) (obOk_of ho) ⟨D.eq, D.size, D.len, D.own, D.old⟩ k
theorem EvRep.norm {g : Heap} {n1 n0 : Nat} {c : EvC} {s0 s : Shared} {st : EvS} (D : EvRep g n1 n0 c s0 st s) (os : List Obj) (i : Nat) (h1 : st.os = os) (h2 : st.i = i) : EvRep g n1 n0 c s0 ⟨os, i, [], []⟩ s := by
  subst h1 h2
  exact ⟨D.eq, D.size, D.len, D.own, D.old⟩
theorem ev_collect {w : World} {g : Heap} {n1 n0 : Nat} {c : EvC} {s0 s : Shared} {A : Around} {Q : List Value → Shared → Prop} {E : Value → Shared → Prop} {st : EvS} (O : EvOk g n1 n0 c) (D : EvRep g n1 n0 c s0 st s) (j : Nat) (vs : List Value) (e : Nat)
    (hj : st.os[j]? = some (seqObj "list" vs.toArray e)) (hv : vs.length ≤ sizeLine)
    (k : ∀ s', EvRep g n1 n0 c s0 ⟨st.os ++ [Obj.mapSeq (· ++ vs.toArray) (seqObj "list" #[] 0)], st.i, [], []⟩ s' → Q vs s') : wpAny (model c.prog w) A (collect (.ref (c.ad j))) Q E s := by
  have ho := D.own j _ hj
  refine collect_list ⟨_, ho, rfl, e, rfl⟩ (k _ ?_) hv
  have hsz : ((s.heap.push (seqObj "list" #[] 0)).update s.heap.objs.size (Obj.mapSeq (· ++ vs.toArray))).objs.size = s.heap.objs.size + 1 := by
    rw [Heap.size_update, Heap.size_push]
  have hp : (s.heap.push (seqObj "list" #[] 0)).get? s.heap.objs.size = some (seqObj "list" #[] 0) := Heap.get?_push_size _ rfl
  have ea : s.heap.objs.size = c.ad st.os.length := by
    have h1 := D.size; have h2 := O.new st.os.length D.len
    omega
  have old : ∀ b o, s.heap.get? b = some o → ((s.heap.push (seqObj "list" #[] 0)).update s.heap.objs.size (Obj.mapSeq (· ++ vs.toArray))).get? b = some o := fun b o hb =>
    ((Heap.SameBut.update ..).2 b (Nat.ne_of_lt (Heap.lt_size hb))).trans (Heap.get?_push_of_some _ hb)
  refine ⟨?_, ?_, ?_, fun i o hi => ?_, fun b o hb => old b o (D.old b o hb)⟩
  · have := D.eq; rw [this]
  · have h1 := D.size
    show ((s.heap.push (seqObj "list" #[] 0)).update s.heap.objs.size (Obj.mapSeq (· ++ vs.toArray))).objs.size + n0 = n1 + (st.os ++ [_]).length
    rw [hsz, List.length_append, List.length_singleton]; omega
  · have := D.len
    show n0 ≤ (st.os ++ [_]).length
    rw [List.length_append]; omega
  · dsimp only at hi
    rcases Nat.lt_trichotomy i st.os.length with hl | hl | hl
    · rw [List.getElem?_append_left hl] at hi
      exact old _ _ (D.own i o hi)
    · subst hl
      simp at hi
      subst hi
      rw [← ea]
      exact Heap.get?_update_self _ hp rfl
    · rw [List.getElem?_append_right (Nat.le_of_lt hl), List.getElem?_eq_none (by simp; omega)] at hi
      cases hi
end
end
-- C1
example : True := by
  w_top off
  k_with_none
  exact trivial
section
set_option maxHeartbeats 8000000
section
section
variable {M : Model} {A : Around} {E : Value → Shared → Prop} {s : Shared}
theorem spliced_one {x : Sem Value} {Q : List Value → Shared → Prop} (h : wpAny M A x (fun v s' => Q [v] s') E s) : wpAny M A (spliced [(false, x)]) Q E s := by
  unfold spliced
  refine wpAny_bind (wpAny_mono h (fun v s' hv => ?_) fun _ _ e => e)
  exact wpAny_bind (wpAny_pure (wpAny_bind (wpAny_holding (wpAny_pure (wpAny_pure hv)))))
theorem evalArgs_one {f : Value} {x : Sem Value} {Q : Args → Shared → Prop} (h : wpAny M A x (fun v s' => Q ⟨[v], []⟩ s') E s) : wpAny M A (evalArgs f false [(false, x)] []) Q E s := by
  unfold evalArgs
  refine wpAny_bind ?_
  refine spliced_one (wpAny_mono h (fun v s' hv => ?_) fun _ _ e => e)
  refine wpAny_bind (wpAny_pure (wpAny_holding ?_))
  exact wpAny_bind (wpAny_pure (wpAny_bind (wpAny_pure (wpAny_pure hv))))
theorem classDef_any {name : Str} {e : PySem.Expr} {body : List Stmt} {scope : Scope} {x1 : Option Scope} {bind : Str} {statics : List Str} {pos : Pos} {env : Env} {Q : Flow → Shared → Prop}
    (hst : starEach [e] env = [(false, PySem.eval e env)])
    (h : wpAny M A (buildClassGuard env) (fun _ s₁ => wpAny M A (PySem.eval e env) (fun v s₂ => wpAny M A (buildClass name (qualnameIn env name bind) [v] [] body scope statics (firstLineOf [] pos) env pos none)
      (fun c s₃ => wpAny M A (bindName env bind c) (fun _ s₄ => Q .next s₄) E s₃) E s₂) E s₁) E s) :
    wpAny M A (exec (.ClassDef name [e] [] body [] [] scope x1 bind statics pos) env) Q E s := by
  rw [arm_exec_ClassDef]
  refine wpAny_bind (wpAny_pure (wpAny_bind (wpAny_standAt (wpAny_bind (wpAny_mono h (fun _ s₁ h₁ => wpAny_bind (wpAny_holding (wpAny_bind ?_))) fun _ _ e => e)))))
  rw [hst]
  show wpAny M A (evalArgs (.builtin "__build_class__") false [(false, PySem.eval e env)] []) _ _ s₁
  refine evalArgs_one (wpAny_mono h₁ (fun v s₂ h₂ => ?_) fun _ _ e => e)
  refine wpAny_bind (wpAny_standAt (wpAny_holding (wpAny_mono h₂ (fun c s₃ h₃ => ?_) fun _ _ e => e)))
  refine wpAny_bind (wpAny_pure ?_)
  exact wpAny_bind (wpAny_standAt (wpAny_bind (wpAny_mono h₃ (fun _ s₄ h₄ => wpAny_pure h₄) fun _ _ e => e)))
theorem guard_any {env : Env} {m : Str → Option Value} {Q : Unit → Shared → Prop} (hb : s.heap.Ns env.builtins m) (hm : m (Str.ofString "__build_class__") = some (.builtin "__build_class__")) (h : Q () s) : wpAny M A (buildClassGuard env) Q E s := by
  unfold buildClassGuard
  refine wpAny_bind (wpAny_nsGet hb ?_)
  rw [show m "__build_class__" = _ from hm]
  exact wpAny_pure h
theorem boot_build : bootBuiltins (Str.ofString "__build_class__") = some (.builtin "__build_class__") := by first | rfl | decide +kernel | kernel_rfl
end
end
end
-- Hide
example : True := by
  w_top off
  k_with_none
  exact trivial
section

section
noncomputable def freedO : Obj := { cls := .none, data := .freed }
theorem hide_one (h : Heap) (a : Addr) : ∃ g : Heap, g.objs.size = h.objs.size ∧ (∀ b o, g.get? b = some o ↔ h.get? b = some o ∧ b ≠ a) := by
  have hs := Heap.SameBut.update h a (fun _ => freedO)
  refine ⟨h.update a (fun _ => freedO), hs.1, fun b o => ?_⟩
  by_cases hb : b = a
  · subst hb
    have : (h.update b fun _ => freedO).get? b = none := by
      obtain ⟨objs, l⟩ := h
      simp only [Heap.update, Heap.get?, Array.getElem?_modify, if_true]
      cases objs[b]? <;> rfl
    rw [this]
    simp
  · rw [hs.2 b hb]
    simp [hb]
theorem hide (h : Heap) : ∀ l : List Addr, ∃ g : Heap, g.objs.size = h.objs.size ∧ (∀ b o, g.get? b = some o ↔ h.get? b = some o ∧ b ∉ l)
  | [] => ⟨h, rfl, fun b o => by simp⟩
  | a :: l => by
    obtain ⟨g, e, q⟩ := hide h l
    obtain ⟨g', e', q'⟩ := hide_one g a
    refine ⟨g', e'.trans e, fun b o => ?_⟩
    rw [q', q]
    simp only [List.mem_cons, not_or]
    exact ⟨fun ⟨⟨x, y⟩, z⟩ => ⟨x, z, y⟩, fun ⟨x, z, y⟩ => ⟨⟨x, y⟩, z⟩⟩
end
end
-- C2
example : True := by
  w_top off
  k_with_none
  exact trivial
section
set_option maxHeartbeats 8000000
section
noncomputable def keyK (P : Params) (sl : Array (Option Value)) (a : Nat) : Option Obj := match Nat.beq a 4 with
  | true => some ⟨.type "module", some 0, .plain, sl⟩
  | false => (hd.heap_1 P).lookup a
noncomputable def keyAd (E : Nat → Nat) : Nat → Nat
  | 0 => 79
  | i + 1 => E i + 250
noncomputable def keyC (w : World) (sl : Array (Option Value)) (E : Nat → Nat) (t : Nat) : EvC := ⟨PG, w.params, keyK w.params sl, keyAd E, t⟩
theorem key_four {w : World} {mean : ExcName → Option Value} {mg mb : Str → Option Value} {g : Heap} (X : (KK w).In g) (T : Top topProg LL mean mg mb g) : ∃ sl, g.get? 4 = some ⟨.type "module", some 0, .plain, sl⟩ := by
  obtain ⟨bm, ob, e1, e2, e3, e4, e5, e6⟩ := T.bmain
  obtain ⟨o, es, ep, h1, h2, h3⟩ := T.g
  have h4 : g.get? 3 = some _ := X 3 _ (by rfl)
  have h1' : g.get? 3 = some o := h1
  rw [h1'] at h4
  have eo := Option.some.inj h4
  rw [eo] at h2
  injection h2 with q1 q2
  have e7 := h3.2 (Str.ofString "__builtins__")
  rw [e1, ← q1] at e7
  have e8 : some (Value.ref 4) = some (Value.ref bm) := by rw [← e7]; kernel_rfl
  injection e8 with e8
  injection e8 with e8
  subst e8
  obtain ⟨c, d, dt, sl⟩ := ob
  exact ⟨sl, by rw [e3]; simp only at e4 e5 e6; rw [e4, e5, e6]; rfl⟩
theorem key_K {w : World} {g : Heap} {sl : Array (Option Value)} (X : (KK w).In g) (h4 : g.get? 4 = some ⟨.type "module", some 0, .plain, sl⟩) : ∀ a o, keyK w.params sl a = some o → g.get? a = some o := by
  intro a o h
  unfold keyK at h
  split at h
  · rename_i q
    have : a = 4 := Nat.eq_of_beq_eq_true q
    subst this
    rw [h4]; exact h
  · exact X a o h
theorem key_start {w : World} {mean : ExcName → Option Value} {mg mb : Str → Option Value} {g : Heap} {s : Shared} (X : (KK w).In g) (T : Top topProg LL mean mg mb g) (hkeep : ∀ b o, g.get? b = some o → s.heap.get? b = some o)
    (h79 : s.heap.get? 79 = some (tabObj #[])) (g79 : g.get? 79 = none) :
    ∃ g1 sl E n1 t0, s.heap.objs.size = n1 ∧ s.toks = t0 ∧ (∀ i, E i + 250 = n1 + i) ∧ (∀ b o, s.heap.get? b = some o → b ≠ 79 → g1.get? b = some o) ∧ (∀ b o, g.get? b = some o → g1.get? b = some o) ∧ (∀ a o, keyK w.params sl a = some o → g.get? a = some o) ∧
      EvOk g1 n1 1 (keyC w sl E t0) ∧ EvRep g1 n1 1 (keyC w sl E t0) s ⟨[tabObj #[]], 0, [], []⟩ s := by
  obtain ⟨sl, h4⟩ := key_four X T
  obtain ⟨g1, z1, q1⟩ := hide s.heap [79]
  have n250 : 250 ≤ s.heap.objs.size := Heap.lt_size (hkeep 249 _ (X 249 _ rfl))
  have hE : ∀ i, (fun i => s.heap.objs.size + i - 250) i + 250 = s.heap.objs.size + i := fun i => by dsimp only; omega
  generalize (fun i => s.heap.objs.size + i - 250) = E at hE
  have hg : ∀ b o, g.get? b = some o → g1.get? b = some o := fun b o e => (q1 b o).mpr ⟨hkeep b o e, fun m => by rw [List.mem_singleton.mp m, g79] at e; cases e⟩
  refine ⟨g1, sl, E, _, _, rfl, rfl, hE, fun b o e n => (q1 b o).mpr ⟨e, fun m => n (List.mem_singleton.mp m)⟩, hg, key_K X h4, ⟨fun m hm => ?_, fun i hi => ?_, fun i j hi hj _ => ?_, fun i hi => ?_, Nat.le_of_eq z1, fun a o e => hg a o (key_K X h4 a o e)⟩,
    ⟨rfl, by simp, by simp, fun i o hi => ?_, fun b o e => ((q1 b o).mp e).1⟩⟩
  · obtain ⟨m, rfl⟩ : ∃ k, m = k + 1 := ⟨m - 1, by omega⟩
    show E m + 250 + 1 = _
    rw [hE]; omega
  · have : i = 0 := by omega
    subst this
    show 79 < _
    omega
  · omega
  · have : i = 0 := by omega
    subst this
    cases e : g1.get? (keyAd E 0) with
    | none => exact e
    | some o => exact absurd (List.mem_singleton.mpr rfl) ((q1 _ _).mp e).2
  · cases i with
    | zero => cases hi; exact h79
    | succ i => simp at hi
end
end
-- C4
example : True := by
  w_top off
  k_with_none
  exact trivial
section
set_option maxHeartbeats 8000000
section
noncomputable def entK (P : Params) (x : Str) (t : Nat) (v : Value) : DictEntry := ⟨PyData.keyHash P x, .str x t, v⟩
noncomputable def tupO (vs : List Value) : Obj := { cls := .type "tuple", data := .seq vs.toArray }
noncomputable def fnO (d : Data) : Obj := { cls := .type "function", data := d }
noncomputable def qualK : Str := Str.ofString "cmp_to_key.<locals>.K"
noncomputable def nsK (P : Params) (E : Nat → Nat) (t0 : Nat) : List DictEntry := [
  entK P (Str.ofString "__module__") (t0 + 8) (.str (Str.ofString "cpy313.functools") (t0 + 13)),
  entK P (Str.ofString "__qualname__") (t0 + 10) (.str qualK (t0 + 9)),
  entK P (Str.ofString "__firstlineno__") (t0 + 12) (.int 32 (t0 + 11)),
  entK P (Str.ofString "__slots__") (t0 + 16) (.ref (E 7 + 250)),
  entK P (Str.ofString "__init__") (t0 + 24) (.ref (E 14 + 250)),
  entK P (Str.ofString "__lt__") (t0 + 33) (.ref (E 22 + 250)),
  entK P (Str.ofString "__gt__") (t0 + 42) (.ref (E 30 + 250)),
  entK P (Str.ofString "__eq__") (t0 + 51) (.ref (E 38 + 250)),
  entK P (Str.ofString "__le__") (t0 + 60) (.ref (E 46 + 250)),
  entK P (Str.ofString "__ge__") (t0 + 69) (.ref (E 54 + 250)),
  entK P (Str.ofString "__hash__") (t0 + 70) .none,
  entK P (Str.ofString "__static_attributes__") (t0 + 72) (.ref (E 55 + 250))]
noncomputable def keyAd2 (E : Nat → Nat) : Nat → Nat
  | 0 => E 0 + 250
  | 1 => E 2 + 250
  | 2 => E 7 + 250
  | 3 => E 14 + 250
  | 4 => E 22 + 250
  | 5 => E 30 + 250
  | 6 => E 38 + 250
  | 7 => E 46 + 250
  | 8 => E 54 + 250
  | i + 9 => E (55 + i) + 250
noncomputable def keyC2 (w : World) (sl : Array (Option Value)) (E : Nat → Nat) (t : Nat) : EvC := ⟨PG, w.params, keyK w.params sl, keyAd2 E, t⟩
noncomputable def osK (P : Params) (E : Nat → Nat) (t0 : Nat) (d1 d2 d3 d4 d5 d6 : Data) : List Obj := [tupO [.type "object"], { cls := .type "dict", data := .dict (nsK P E t0).toArray 12 }, { cls := .type "list", data := .seq #[.str (Str.ofString "obj") (t0 + 15)] },
  fnO d1, fnO d2, fnO d3, fnO d4, fnO d5, fnO d6, tupO [.str (Str.ofString "obj") (t0 + 71)]]


theorem entry_typeNew : entryFor table "type.__new__" = some Builtin.«type.__new__» := entryFor_of_tree (by kernel_rfl)

noncomputable def nsK2 (P : Params) (E : Nat → Nat) (t0 : Nat) : List DictEntry := [
  entK P (Str.ofString "__module__") (t0 + 8) (.str (Str.ofString "cpy313.functools") (t0 + 13)),
  entK P (Str.ofString "__firstlineno__") (t0 + 12) (.int 32 (t0 + 11)),
  entK P (Str.ofString "__slots__") (t0 + 16) (.ref (E 7 + 250)),
  entK P (Str.ofString "__init__") (t0 + 24) (.ref (E 14 + 250)),
  entK P (Str.ofString "__lt__") (t0 + 33) (.ref (E 22 + 250)),
  entK P (Str.ofString "__gt__") (t0 + 42) (.ref (E 30 + 250)),
  entK P (Str.ofString "__eq__") (t0 + 51) (.ref (E 38 + 250)),
  entK P (Str.ofString "__le__") (t0 + 60) (.ref (E 46 + 250)),
  entK P (Str.ofString "__ge__") (t0 + 69) (.ref (E 54 + 250)),
  entK P (Str.ofString "__hash__") (t0 + 70) .none,
  entK P (Str.ofString "__static_attributes__") (t0 + 72) (.ref (E 55 + 250)),
  entK P (Str.ofString "obj") (t0 + 74) (.ref (E 59 + 250)),
  entK P (Str.ofString "__doc__") (t0 + 75) .none]
noncomputable def clsK (E : Nat → Nat) (t0 : Nat) : Obj := { cls := .type "type", slots := #[some (.ref (E 0 + 250)), none, some (.str (Str.ofString "K") (t0 + 0)), some (.str qualK (t0 + 9)), some (.builtin "object.__new__"), some (.bool false)], data := .cls { name := Str.ofString "K", bases := [.type "object"], mro := [.ref (E 58 + 250), .type "object"], ns := E 57 + 250, qualname := qualK, hasDict := false, slotNames := [Str.ofString "obj"], hasDel := false } }
noncomputable def mdK (E : Nat → Nat) (t0 : Nat) : Obj := { cls := .type "member_descriptor", data := .fields #[.str (Str.ofString "obj") (t0 + 73), .ref (E 58 + 250), .builtin "proto.slot", .builtin "proto.slot#set", rawInt 0] }
noncomputable def osK2 (P : Params) (E : Nat → Nat) (t0 : Nat) (d1 d2 d3 d4 d5 d6 : Data) : List Obj := osK P E t0 d1 d2 d3 d4 d5 d6 ++ [{ cls := .type "list", data := .seq #[.str (Str.ofString "obj") (t0 + 15)] 1 }, { cls := .type "dict", data := .dict (nsK2 P E t0).toArray 3 }, clsK E t0, mdK E t0]
theorem find_slots (P : Params) (E : Nat → Nat) (t0 : Nat) : (nsK P E t0).toArray.find? (fun x => x.key.isStr (Str.ofString "__slots__")) = some (entK P (Str.ofString "__slots__") (t0 + 16) (.ref (E 7 + 250))) := by kernel_rfl
theorem filter_self (v : Value) (l : List Value) : List.filter (fun x => x != v) (v :: l) = List.filter (fun x => x != v) l := by rw [List.filter_cons, if_neg (by simp)]
set_option genInjectivity false in
set_option genSizeOf false in
structure KL where
  w : World
  g : Heap
  n1 : Nat
  t0 : Nat
  sl : Array (Option Value)
  E : Nat → Nat
  s : Shared
  s0 : Shared
  A : Around
  Q : Value → Shared → Prop
  Eh : Value → Shared → Prop
  F : PySem.Fin → Shared → Prop
  d1 : Data
  d2 : Data
  d3 : Data
  d4 : Data
  d5 : Data
  d6 : Data
  L : Nat
theorem kl_ne : Nonempty KL := ⟨⟨fun _ _ => 0, { strHash := fun _ => 0, shareClass := fun _ => 0, mergeTok := fun _ => 0, idOf := fun _ => 0, idOfShared := fun _ _ => 0, followText := fun _ => false, idOfImm := fun _ => 0 }⟩, {}, 0, 0, #[], fun _ => 0, {}, {}, AR 0 0 none [], fun _ _ => True, fun _ _ => True, fun _ _ => True, .plain, .plain, .plain, .plain, .plain, .plain, 0⟩
noncomputable def epsL (P : KL → Prop) : KL := @Classical.epsilon KL kl_ne fun c => ¬ P c
theorem epsL_all {P : KL → Prop} (h : P (epsL P)) (c : KL) : P c := Classical.byContradiction fun n => @Classical.epsilon_spec KL (fun c => ¬ P c) ⟨c, n⟩ h
end
end
-- C5
example : True := by
  w_top off
  k_with_none
  k_with "ifF" => (refine wpAny_ite_false (by first | rfl | kernel_rfl) ?_)
  k_with "ifT" => (refine wpAny_ite_true (by first | rfl | kernel_rfl) ?_)
  exact trivial
section
set_option maxHeartbeats 8000000
section
theorem entry_superInit : entryFor table "super.__init__" = some Builtin.«super.__init__» := entryFor_of_tree (by kernel_rfl)
theorem entry_superGet : entryFor table "super.__getattribute__" = some Builtin.«super.__getattribute__» := entryFor_of_tree (by kernel_rfl)
noncomputable def supK (E : Nat → Nat) : Obj := { cls := .type "super", data := .fields #[.ref (E 58 + 250), .ref (E 58 + 250), .ref (E 58 + 250)] }
noncomputable def bmK (E : Nat → Nat) : Obj := { cls := .type "builtin_function_or_method", data := .fields #[.builtin "object.__init_subclass__", .ref (E 58 + 250)] }
noncomputable def PkS (c : KL) : Prop := (∀ i, c.E i + 250 = c.n1 + i) → (EvOk c.g (c.n1 + 56) 10 (keyC2 c.w c.sl c.E c.t0)) → (EvRep c.g (c.n1 + 56) 10 (keyC2 c.w c.sl c.E c.t0) c.s0 ⟨osK2 c.w.params c.E c.t0 c.d1 c.d2 c.d3 c.d4 c.d5 c.d6, 76, [], []⟩ c.s) → (c.A.handled = none) → (∀ s', EvRep c.g (c.n1 + 56) 10 (keyC2 c.w c.sl c.E c.t0) c.s0 ⟨osK2 c.w.params c.E c.t0 c.d1 c.d2 c.d3 c.d4 c.d5 c.d6 ++ [supK c.E], 76, [], []⟩ s' → c.Q (.ref (c.E 60 + 250)) s') → wpAny (model PG c.w) c.A (call (.type "super") [.ref (c.E 58 + 250), .ref (c.E 58 + 250)]) c.Q c.Eh c.s
noncomputable def kS : KL := epsL PkS
theorem key_super_c : PkS kS := by
  intro hE O D9 hA h
  refine wpAny_call (PySem.W.X.x_code (ev_use 300 [] (.again (.builtin "type.__call__" ⟨[.type "super", .ref (kS.E 58 + 250), .ref (kS.E 58 + 250)], []⟩)) O rfl hA D9 (by kernel_rfl) (by kernel_rfl) fun s9 D9 => ?_))
  refine ⟨Code.quiet_builtin _ (by decide +kernel), codeAny_builtin entry_typeCall ?_⟩
  unfold Builtin.«type.__call__»
  (walk_at "ifF")
  (walk_at "ifF")
  (refine wpAny_bind (ev_use 300 [13] () O rfl hA (by assumption) (by kernel_rfl) (by kernel_rfl) fun s9 D9 => ?_))
  (refine wpAny_bind (ev_use 300 [] [.type "super", .type "object"] O rfl hA (by assumption) (by kernel_rfl) (by kernel_rfl) fun s9 D9 => ?_))
  (walk_at "ifF")
  (refine wpAny_bind (ev_use 300 [] (some "super.__new__") O rfl hA (by assumption) (by kernel_rfl) (by kernel_rfl) fun s9 D9 => ?_))
  refine wpAny_bind (wpAny_pure (wpAny_bind (wpAny_holding ?_)))
  (refine ev_use 300 [] (.ref (kS.E 60 + 250)) O rfl hA (by assumption) (by kernel_rfl) (by kernel_rfl) fun s9 D9 => ?_)
  (refine wpAny_bind (ev_use 300 [15] true O rfl hA (by assumption) (by kernel_rfl) (by kernel_rfl) fun s9 D9 => ?_))
  (walk_at "ifF")
  refine wpAny_bind (wpAny_holding ?_)
  unfold callSpecial?
  (refine wpAny_bind (ev_use 300 [15] (some (.builtin "super.__init__")) O rfl hA (by assumption) (by kernel_rfl) (by kernel_rfl) fun s9 D9 => ?_))
  refine wpAny_holding ?_
  (refine wpAny_bind (ev_use 300 [] (.builtin "super.__init__", [.ref (kS.E 60 + 250)]) O rfl hA (by assumption) (by kernel_rfl) (by kernel_rfl) fun s9 D9 => ?_))
  refine wpAny_bind (wpAny_call (PySem.W.X.x_code (ev_use 300 [15] (.again (.builtin "super.__init__" ⟨[.ref (kS.E 60 + 250), .ref (kS.E 58 + 250), .ref (kS.E 58 + 250)], []⟩)) O rfl hA D9 (by kernel_rfl) (by kernel_rfl) fun s9 D9 => ?_)))
  refine ⟨Code.quiet_builtin _ (by decide +kernel), codeAny_builtin entry_superInit ?_⟩
  unfold Builtin.«super.__init__»
  (refine wpAny_bind (ev_use 300 [] () O rfl hA (by assumption) (by kernel_rfl) (by kernel_rfl) fun s9 D9 => ?_))
  refine wpAny_bind (wpAny_pure ?_)
  (refine wpAny_bind (ev_use 300 [13] true O rfl hA (by assumption) (by kernel_rfl) (by kernel_rfl) fun s9 D9 => ?_))
  (walk_at "ifF")
  (walk_at "ifF")
  refine wpAny_bind ?_
  wp_delta
  (refine wpAny_bind (ev_use 300 [13] true O rfl hA (by assumption) (by kernel_rfl) (by kernel_rfl) fun s9 D9 => ?_))
  (walk_at "ifT")
  (refine wpAny_bind (ev_use 300 [13] (List.contains [Value.ref (kS.E 58 + 250), Value.type "object"] (Value.ref (kS.E 58 + 250))) O rfl hA (by assumption) (by kernel_rfl) (by kernel_rfl) fun s9 D9 => ?_))
  refine wpAny_ite_true (by simp) ?_
  refine wpAny_pure ?_
  (refine wpAny_bind (ev_use 300 [15, 15] () O rfl hA (by assumption) (by kernel_rfl) (by kernel_rfl) fun s9 D9 => ?_))
  (refine wpAny_bind (ev_use 300 [15, 15] () O rfl hA (by assumption) (by kernel_rfl) (by kernel_rfl) fun s9 D9 => ?_))
  (refine wpAny_bind (ev_use 300 [15, 15] () O rfl hA (by assumption) (by kernel_rfl) (by kernel_rfl) fun s9 D9 => ?_))
  refine wpAny_pure ?_
  refine wpAny_pure ?_
  (walk_at "ifF")
  refine wpAny_pure (h _ (EvRep.norm D9 _ _ (by kernel_rfl) (by kernel_rfl)))
theorem key_super {w : World} {g : Heap} {n1 t0 : Nat} {sl : Array (Option Value)} {E : Nat → Nat} {s s0 : Shared} {A : Around} {Q : Value → Shared → Prop} {Eh : Value → Shared → Prop} {d1 d2 d3 d4 d5 d6 : Data} (hE : ∀ i, E i + 250 = n1 + i)
    (O : EvOk g (n1 + 56) 10 (keyC2 w sl E t0)) (D9 : EvRep g (n1 + 56) 10 (keyC2 w sl E t0) s0 ⟨osK2 w.params E t0 d1 d2 d3 d4 d5 d6, 76, [], []⟩ s) (hA : A.handled = none)
    (h : ∀ s', EvRep g (n1 + 56) 10 (keyC2 w sl E t0) s0 ⟨osK2 w.params E t0 d1 d2 d3 d4 d5 d6 ++ [supK E], 76, [], []⟩ s' → Q (.ref (E 60 + 250)) s') : wpAny (model PG w) A (call (.type "super") [.ref (E 58 + 250), .ref (E 58 + 250)]) Q Eh s :=
  epsL_all key_super_c ⟨w, g, n1, t0, sl, E, s, s0, A, Q, Eh, fun _ _ => True, d1, d2, d3, d4, d5, d6, 0⟩ hE O D9 hA h
theorem drop_self (v : Value) (l : List Value) : List.drop 1 (List.dropWhile (fun x => x != v) (v :: l)) = l := by rw [List.dropWhile_cons, if_neg (by simp)]; rfl
noncomputable def PkH (c : KL) : Prop := (∀ i, c.E i + 250 = c.n1 + i) → (EvOk c.g (c.n1 + 56) 10 (keyC2 c.w c.sl c.E c.t0)) → (EvRep c.g (c.n1 + 56) 10 (keyC2 c.w c.sl c.E c.t0) c.s0 ⟨osK2 c.w.params c.E c.t0 c.d1 c.d2 c.d3 c.d4 c.d5 c.d6 ++ [supK c.E], 76, [], []⟩ c.s) → (c.A.handled = none) → (∀ s', EvRep c.g (c.n1 + 56) 10 (keyC2 c.w c.sl c.E c.t0) c.s0 ⟨osK2 c.w.params c.E c.t0 c.d1 c.d2 c.d3 c.d4 c.d5 c.d6 ++ [supK c.E, bmK c.E], 77, [], []⟩ s' → c.Q (.ref (c.E 61 + 250)) s') → wpAny (model PG c.w) c.A (getAttr (.ref (c.E 60 + 250)) (Str.ofString "__init_subclass__")) c.Q c.Eh c.s
noncomputable def kH : KL := epsL PkH
theorem key_hook_c : PkH kH := by
  intro hE O D9 hA h
  unfold getAttr
  (refine wpAny_bind (ev_use 300 [] (.str (Str.ofString "__init_subclass__") (kH.t0 + 76)) O rfl hA (by assumption) (by kernel_rfl) (by kernel_rfl) fun s9 D9 => ?_))
  unfold getAttrBy
  refine wpAny_holding ?_
  (refine wpAny_bind (ev_use 300 [15] (.type "super") O rfl hA (by assumption) (by kernel_rfl) (by kernel_rfl) fun s9 D9 => ?_))
  (refine wpAny_bind (ev_use 300 [] (some (.builtin "super.__getattribute__")) O rfl hA (by assumption) (by kernel_rfl) (by kernel_rfl) fun s9 D9 => ?_))
  (walk_at "ifF")
  unfold getAttrByItsOwn
  (refine wpAny_bind (ev_use 300 [] none O rfl hA (by assumption) (by kernel_rfl) (by kernel_rfl) fun s9 D9 => ?_))
  refine wpAny_bind (wpAny_attempt (wpAny_holding ?_))
  unfold callGetattribute
  (walk_at "ifF")
  unfold boundAndCalled
  (refine wpAny_bind (ev_use 300 [] (.builtin "super.__getattribute__", [.ref (kH.E 60 + 250)]) O rfl hA (by assumption) (by kernel_rfl) (by kernel_rfl) fun s9 D9 => ?_))
  refine wpAny_call (PySem.W.X.x_code (ev_use 300 [15] (.again (.builtin "super.__getattribute__" ⟨[.ref (kH.E 60 + 250), .str (Str.ofString "__init_subclass__") (kH.t0 + 76)], []⟩)) O rfl hA D9 (by kernel_rfl) (by kernel_rfl) fun s9 D9 => ?_))
  refine ⟨Code.quiet_builtin _ (by decide +kernel), codeAny_builtin entry_superGet ?_⟩
  unfold Builtin.«super.__getattribute__»
  (refine wpAny_bind (ev_use 300 [] (some (Str.ofString "__init_subclass__")) O rfl hA (by assumption) (by kernel_rfl) (by kernel_rfl) fun s9 D9 => ?_))
  (walk_at "ifF")
  (refine wpAny_bind (ev_use 300 [] (some (Str.ofString "__init_subclass__")) O rfl hA (by assumption) (by kernel_rfl) (by kernel_rfl) fun s9 D9 => ?_))
  (refine wpAny_bind (ev_use 300 [15] (.ref (kH.E 58 + 250)) O rfl hA (by assumption) (by kernel_rfl) (by kernel_rfl) fun s9 D9 => ?_))
  (refine wpAny_bind (ev_use 300 [15] (.ref (kH.E 58 + 250)) O rfl hA (by assumption) (by kernel_rfl) (by kernel_rfl) fun s9 D9 => ?_))
  (refine wpAny_bind (ev_use 300 [15] (.ref (kH.E 58 + 250)) O rfl hA (by assumption) (by kernel_rfl) (by kernel_rfl) fun s9 D9 => ?_))
  (walk_at "ifF")
  (refine wpAny_bind (ev_use 300 [0] () O rfl hA (by assumption) (by kernel_rfl) (by kernel_rfl) fun s9 D9 => ?_))
  (walk_at "ifF")
  (refine wpAny_bind (ev_use 300 [13] [.ref (kH.E 58 + 250), .type "object"] O rfl hA (by assumption) (by kernel_rfl) (by kernel_rfl) fun s9 D9 => ?_))
  refine wpAny_bind ?_
  rw [drop_self]
  simp only [beq_self_eq_true, if_true]
  (refine ev_use 400 [13, 13] (some (.done (.ret (.ref (kH.E 61 + 250)))), ()) O rfl hA (by assumption) (by kernel_rfl) (by kernel_rfl) fun s9 D9 => ?_)
  refine wpAny_pure ?_
  (refine ev_use 300 [] (.ref (kH.E 61 + 250)) O rfl hA (by assumption) (by kernel_rfl) (by kernel_rfl) fun s9 D9 => ?_)
  exact h _ (EvRep.norm D9 _ _ (by kernel_rfl) (by kernel_rfl))
theorem key_hook {w : World} {g : Heap} {n1 t0 : Nat} {sl : Array (Option Value)} {E : Nat → Nat} {s s0 : Shared} {A : Around} {Q : Value → Shared → Prop} {Eh : Value → Shared → Prop} {d1 d2 d3 d4 d5 d6 : Data} (hE : ∀ i, E i + 250 = n1 + i)
    (O : EvOk g (n1 + 56) 10 (keyC2 w sl E t0)) (D9 : EvRep g (n1 + 56) 10 (keyC2 w sl E t0) s0 ⟨osK2 w.params E t0 d1 d2 d3 d4 d5 d6 ++ [supK E], 76, [], []⟩ s) (hA : A.handled = none)
    (h : ∀ s', EvRep g (n1 + 56) 10 (keyC2 w sl E t0) s0 ⟨osK2 w.params E t0 d1 d2 d3 d4 d5 d6 ++ [supK E, bmK E], 77, [], []⟩ s' → Q (.ref (E 61 + 250)) s') : wpAny (model PG w) A (getAttr (.ref (E 60 + 250)) (Str.ofString "__init_subclass__")) Q Eh s :=
  epsL_all key_hook_c ⟨w, g, n1, t0, sl, E, s, s0, A, Q, Eh, fun _ _ => True, d1, d2, d3, d4, d5, d6, 0⟩ hE O D9 hA h
theorem key_sub {w : World} {g : Heap} {n1 t0 : Nat} {sl : Array (Option Value)} {E : Nat → Nat} {s s0 : Shared} {A : Around} {Q : Value → Shared → Prop} {Eh : Value → Shared → Prop} {d1 d2 d3 d4 d5 d6 : Data} (hE : ∀ i, E i + 250 = n1 + i)
    (O : EvOk g (n1 + 56) 10 (keyC2 w sl E t0)) (D9 : EvRep g (n1 + 56) 10 (keyC2 w sl E t0) s0 ⟨osK2 w.params E t0 d1 d2 d3 d4 d5 d6 ++ [supK E, bmK E], 77, [], []⟩ s) (hA : A.handled = none)
    (h : ∀ s', EvRep g (n1 + 56) 10 (keyC2 w sl E t0) s0 ⟨osK2 w.params E t0 d1 d2 d3 d4 d5 d6 ++ [supK E, bmK E], 77, [], []⟩ s' → Q .none s') : wpAny (model PG w) A (call (.ref (E 61 + 250)) []) Q Eh s := by
  (refine ev_use 400 [16, 13, 13, 13, 13] .none O rfl hA (by assumption) (by kernel_rfl) (by kernel_rfl) fun s9 D9 => ?_)
  exact h _ (EvRep.norm D9 _ _ (by kernel_rfl) (by kernel_rfl))
end
end
-- C6
example : True := by
  w_top off
  k_with_none
  k_with "ifF" => (refine wpAny_ite_false (by first | rfl | kernel_rfl) ?_)
  k_with "ifT" => (refine wpAny_ite_true (by first | rfl | kernel_rfl) ?_)
  exact trivial
section
set_option maxHeartbeats 8000000
section
noncomputable def PkN (c : KL) : Prop := (∀ i, c.E i + 250 = c.n1 + i) → (EvOk c.g (c.n1 + 56) 10 (keyC2 c.w c.sl c.E c.t0)) → (EvRep c.g (c.n1 + 56) 10 (keyC2 c.w c.sl c.E c.t0) c.s0 ⟨osK c.w.params c.E c.t0 c.d1 c.d2 c.d3 c.d4 c.d5 c.d6, 73, [], []⟩ c.s) → (c.A.handled = none) → (∀ s', EvRep c.g (c.n1 + 56) 10 (keyC2 c.w c.sl c.E c.t0) c.s0 ⟨osK2 c.w.params c.E c.t0 c.d1 c.d2 c.d3 c.d4 c.d5 c.d6 ++ [supK c.E, bmK c.E], 77, [], []⟩ s' → c.F (.done (.ret (.ref (c.E 58 + 250)))) s') → wpAny (model PG c.w) c.A (Builtin.«type.__new__» ⟨[.type "type", .str (Str.ofString "K") (c.t0 + 0), .ref (c.E 0 + 250), .ref (c.E 2 + 250)], []⟩) c.F c.Eh c.s
noncomputable def kN : KL := epsL PkN
theorem key_new_c : PkN kN := by
  intro hE O D hA h
  unfold Builtin.«type.__new__»
  (refine wpAny_bind (ev_use 300 [] (some (Str.ofString "K")) O rfl hA (by assumption) (by kernel_rfl) (by kernel_rfl) fun s9 D9 => ?_))
  (refine wpAny_bind (ev_use 300 [1] true O rfl hA (by assumption) (by kernel_rfl) (by kernel_rfl) fun s9 D9 => ?_))
  (walk_at "ifF")
  (refine wpAny_bind (ev_use 300 [2] true O rfl hA (by assumption) (by kernel_rfl) (by kernel_rfl) fun s9 D9 => ?_))
  (walk_at "ifF")
  (refine wpAny_bind (ev_use 300 [1] (some #[.type "object"]) O rfl hA (by assumption) (by kernel_rfl) (by kernel_rfl) fun s9 D9 => ?_))
  (walk_at "ifF")
  (refine wpAny_bind (ev_use 300 [] PUnit.unit O rfl hA (by assumption) (by kernel_rfl) (by kernel_rfl) fun s9 D9 => ?_))
  (refine wpAny_bind (ev_use 300 [] (.type "type") O rfl hA (by assumption) (by kernel_rfl) (by kernel_rfl) fun s9 D9 => ?_))
  (walk_at "ifF")
  (refine wpAny_bind (ev_use 300 [] () O rfl hA (by assumption) (by kernel_rfl) (by kernel_rfl) fun s9 D9 => ?_))
  (refine wpAny_bind (ev_use 300 [] (.type "object") O rfl hA (by assumption) (by kernel_rfl) (by kernel_rfl) fun s9 D9 => ?_))
  (walk_at "ifF")
  (refine wpAny_bind (ev_use 300 [2] (nsK kN.w.params kN.E kN.t0).toArray O rfl hA (by assumption) (by kernel_rfl) (by kernel_rfl) fun s9 D9 => ?_))
  (refine wpAny_bind (ev_use 300 [2] (some (.builtin "dict.__iter__")) O rfl hA (by assumption) (by kernel_rfl) (by kernel_rfl) fun s9 D9 => ?_))
  (walk_at "ifT")
  refine wpAny_bind (wpAny_pure (wpAny_bind (wpAny_holding ?_)))
  unfold Builtin.Slots.read
  (refine wpAny_bind (ev_use 300 [] (.type "object") O rfl hA (by assumption) (by kernel_rfl) (by kernel_rfl) fun s9 D9 => ?_))
  (refine wpAny_bind (ev_use 300 [] ([] : List Str) O rfl hA (by assumption) (by kernel_rfl) (by kernel_rfl) fun s9 D9 => ?_))
  (refine wpAny_bind (ev_use 300 [] false O rfl hA (by assumption) (by kernel_rfl) (by kernel_rfl) fun s9 D9 => ?_))
  (refine wpAny_bind (ev_use 300 [] false O rfl hA (by assumption) (by kernel_rfl) (by kernel_rfl) fun s9 D9 => ?_))
  (refine wpAny_bind (ev_use 300 [] false O rfl hA (by assumption) (by kernel_rfl) (by kernel_rfl) fun s9 D9 => ?_))
  rw [find_slots]
  refine wpAny_bind (wpAny_rule ?_)
  (refine wpAny_bind (ev_use 300 [3] none O rfl hA (by assumption) (by kernel_rfl) (by kernel_rfl) fun s9 D9 => ?_))
  (walk_at "ifF")
  refine wpAny_bind (ev_collect O D9 2 [.str (Str.ofString "obj") (kN.t0 + 15)] 0 rfl (show 1 ≤ sizeLine by rw [sizeLine_eq]; decide) fun s9 D9 => ?_)
  (walk_at "ifT")
  (refine wpAny_bind (ev_use 300 [] false O rfl hA (by assumption) (by kernel_rfl) (by kernel_rfl) fun s9 D9 => ?_))
  (walk_at "ifF")
  (refine wpAny_bind (ev_use 300 [] (false, false, #[Str.ofString "obj"], ([] : List Str)) O rfl hA (by assumption) (by kernel_rfl) (by kernel_rfl) fun s9 D9 => ?_))
  (refine wpAny_bind (ev_use 300 [] ([Str.ofString "obj"], 3) O rfl hA (by assumption) (by kernel_rfl) (by kernel_rfl) fun s9 D9 => ?_))
  (refine wpAny_bind (ev_use 300 [] (false, false) O rfl hA (by assumption) (by kernel_rfl) (by kernel_rfl) fun s9 D9 => ?_))
  refine wpAny_pure ?_
  (refine wpAny_bind (ev_use 300 [] (.ref (kN.E 57 + 250)) O rfl hA (by assumption) (by kernel_rfl) (by kernel_rfl) fun s9 D9 => ?_))
  (walk_at "ifF")
  (refine wpAny_bind (ev_use 300 [] () O rfl hA (by assumption) (by kernel_rfl) (by kernel_rfl) fun s9 D9 => ?_))
  (walk_at "ifF")
  (refine wpAny_bind (ev_use 300 [12] (some (.str qualK (kN.t0 + 9))) O rfl hA (by assumption) (by kernel_rfl) (by kernel_rfl) fun s9 D9 => ?_))
  (refine wpAny_bind (ev_use 300 [12] (some (.str qualK (kN.t0 + 9))) O rfl hA (by assumption) (by kernel_rfl) (by kernel_rfl) fun s9 D9 => ?_))
  (refine wpAny_bind (ev_use 300 [] (some qualK) O rfl hA (by assumption) (by kernel_rfl) (by kernel_rfl) fun s9 D9 => ?_))
  refine wpAny_bind (wpAny_pure ?_)
  (refine wpAny_bind (ev_use 300 [12] none O rfl hA (by assumption) (by kernel_rfl) (by kernel_rfl) fun s9 D9 => ?_))
  (refine wpAny_bind (ev_use 300 [] (kN.E 58 + 250) O rfl hA (by assumption) (by kernel_rfl) (by kernel_rfl) fun s9 D9 => ?_))
  (walk_at "ifT")
  (refine wpAny_bind (ev_use 300 [13] () O rfl hA (by assumption) (by kernel_rfl) (by kernel_rfl) fun s9 D9 => ?_))
  (refine wpAny_bind (ev_use 300 [13] () O rfl hA (by assumption) (by kernel_rfl) (by kernel_rfl) fun s9 D9 => ?_))
  (refine wpAny_bind (ev_use 300 [13] () O rfl hA (by assumption) (by kernel_rfl) (by kernel_rfl) fun s9 D9 => ?_))
  (refine wpAny_bind (ev_use 300 [12, 12] true O rfl hA (by assumption) (by kernel_rfl) (by kernel_rfl) fun s9 D9 => ?_))
  (refine wpAny_bind (ev_use 300 [12] none O rfl hA (by assumption) (by kernel_rfl) (by kernel_rfl) fun s9 D9 => ?_))
  (refine wpAny_bind (ev_use 300 [12, 12] PUnit.unit O rfl hA (by assumption) (by kernel_rfl) (by kernel_rfl) fun s9 D9 => ?_))
  (refine wpAny_bind (ev_use 300 [12] none O rfl hA (by assumption) (by kernel_rfl) (by kernel_rfl) fun s9 D9 => ?_))
  (refine wpAny_bind (ev_use 300 [12] none O rfl hA (by assumption) (by kernel_rfl) (by kernel_rfl) fun s9 D9 => ?_))
  (refine wpAny_bind (ev_use 300 [] none O rfl hA (by assumption) (by kernel_rfl) (by kernel_rfl) fun s9 D9 => ?_))
  (refine wpAny_bind (ev_use 300 [] [.type "object"] O rfl hA (by assumption) (by kernel_rfl) (by kernel_rfl) fun s9 D9 => ?_))
  refine wpAny_bind (wpAny_pure ?_)
  refine wpAny_bind ?_
  rw [filter_self]
  (refine ev_use 300 [] false O rfl hA (by assumption) (by kernel_rfl) (by kernel_rfl) fun s9 D9 => ?_)
  (refine wpAny_bind (ev_use 300 [13, 13, 13] () O rfl hA (by assumption) (by kernel_rfl) (by kernel_rfl) fun s9 D9 => ?_))
  (refine wpAny_bind (ev_use 300 [] (some "object.__new__") O rfl hA (by assumption) (by kernel_rfl) (by kernel_rfl) fun s9 D9 => ?_))
  (refine wpAny_bind (ev_use 300 [13] () O rfl hA (by assumption) (by kernel_rfl) (by kernel_rfl) fun s9 D9 => ?_))
  (refine wpAny_bind (ev_use 300 [13, 13, 13, 12] () O rfl hA (by assumption) (by kernel_rfl) (by kernel_rfl) fun s9 D9 => ?_))
  (refine wpAny_bind (ev_use 300 [12, 12, 12, 12, 13, 13, 13] () O rfl hA (by assumption) (by kernel_rfl) (by kernel_rfl) fun s9 D9 => ?_))
  (refine wpAny_bind (ev_use 300 [] false O rfl hA (by assumption) (by kernel_rfl) (by kernel_rfl) fun s9 D9 => ?_))
  (refine wpAny_bind (ev_use 300 [13] () O rfl hA (by assumption) (by kernel_rfl) (by kernel_rfl) fun s9 D9 => ?_))
  (walk_at "ifF")
  (walk_at "ifF")
  (refine wpAny_bind (ev_use 300 [12] none O rfl hA (by assumption) (by kernel_rfl) (by kernel_rfl) fun s9 D9 => ?_))
  (refine wpAny_bind (ev_use 300 [12, 12] () O rfl hA (by assumption) (by kernel_rfl) (by kernel_rfl) fun s9 D9 => ?_))
  (refine wpAny_bind (ev_use 300 [12] (some (.ref (kN.E 38 + 250))) O rfl hA (by assumption) (by kernel_rfl) (by kernel_rfl) fun s9 D9 => ?_))
  (walk_at "ifT")
  (refine wpAny_bind (ev_use 300 [12] (some .none) O rfl hA (by assumption) (by kernel_rfl) (by kernel_rfl) fun s9 D9 => ?_))
  (walk_at "ifF")
  (refine wpAny_bind (ev_use 300 [] PUnit.unit O rfl hA (by assumption) (by kernel_rfl) (by kernel_rfl) fun s9 D9 => ?_))
  refine wpAny_bind (wpAny_tryCatch (wpAny_holding ?_))
  (refine wpAny_bind (ev_use 300 [12] (nsK2 kN.w.params kN.E kN.t0).toArray O rfl hA (by assumption) (by kernel_rfl) (by kernel_rfl) fun s9 D9 => ?_))
  (refine wpAny_bind (ev_use 300 [] false O rfl hA (by assumption) (by kernel_rfl) (by kernel_rfl) fun s9 D9 => ?_))
  (walk_at "ifF")
  (refine wpAny_bind (ev_use 300 [12] (nsK2 kN.w.params kN.E kN.t0).toArray O rfl hA (by assumption) (by kernel_rfl) (by kernel_rfl) fun s9 D9 => ?_))
  (refine wpAny_bind (ev_use 800 [3, 4, 5, 6, 7, 8, 9, 10, 14] PUnit.unit O rfl hA (by assumption) (by kernel_rfl) (by kernel_rfl) fun s9 D9 => ?_))
  replace D9 := EvRep.norm D9 (osK2 kN.w.params kN.E kN.t0 kN.d1 kN.d2 kN.d3 kN.d4 kN.d5 kN.d6) 76 (by kernel_rfl) (by kernel_rfl)
  refine wpAny_bind (key_super hE O D9 hA fun s9 D9 => ?_)
  refine wpAny_bind (wpAny_holding (key_hook hE O D9 hA fun s9 D9 => ?_))
  refine wpAny_bind (key_sub hE O D9 hA fun s9 D9 => ?_)
  exact wpAny_pure (wpAny_pure (h _ D9))
theorem key_new {w : World} {g : Heap} {n1 t0 : Nat} {sl : Array (Option Value)} {E : Nat → Nat} {s s0 : Shared} {A : Around} {Q : PySem.Fin → Shared → Prop} {Eh : Value → Shared → Prop} {d1 d2 d3 d4 d5 d6 : Data} (hE : ∀ i, E i + 250 = n1 + i)
    (O : EvOk g (n1 + 56) 10 (keyC2 w sl E t0)) (D : EvRep g (n1 + 56) 10 (keyC2 w sl E t0) s0 ⟨osK w.params E t0 d1 d2 d3 d4 d5 d6, 73, [], []⟩ s) (hA : A.handled = none)
    (h : ∀ s', EvRep g (n1 + 56) 10 (keyC2 w sl E t0) s0 ⟨osK2 w.params E t0 d1 d2 d3 d4 d5 d6 ++ [supK E, bmK E], 77, [], []⟩ s' → Q (.done (.ret (.ref (E 58 + 250)))) s') : wpAny (model PG w) A (Builtin.«type.__new__» ⟨[.type "type", .str (Str.ofString "K") (t0 + 0), .ref (E 0 + 250), .ref (E 2 + 250)], []⟩) Q Eh s :=
  epsL_all key_new_c ⟨w, g, n1, t0, sl, E, s, s0, A, fun _ _ => True, Eh, Q, d1, d2, d3, d4, d5, d6, 0⟩ hE O D hA h
noncomputable def PkT (c : KL) : Prop := (∀ i, c.E i + 250 = c.n1 + i) → (EvOk c.g (c.n1 + 56) 10 (keyC2 c.w c.sl c.E c.t0)) → (EvRep c.g (c.n1 + 56) 10 (keyC2 c.w c.sl c.E c.t0) c.s0 ⟨osK c.w.params c.E c.t0 c.d1 c.d2 c.d3 c.d4 c.d5 c.d6, 73, [], []⟩ c.s) → (c.A.handled = none) → (∀ s', EvRep c.g (c.n1 + 56) 10 (keyC2 c.w c.sl c.E c.t0) c.s0 ⟨osK2 c.w.params c.E c.t0 c.d1 c.d2 c.d3 c.d4 c.d5 c.d6 ++ [supK c.E, bmK c.E], 77, [], []⟩ s' → c.Q (.ref (c.E 58 + 250)) s') → wpAny (model PG c.w) c.A (call (.type "type") [.str (Str.ofString "K") (c.t0 + 0), .ref (c.E 0 + 250), .ref (c.E 2 + 250)]) c.Q c.Eh c.s
noncomputable def kT : KL := epsL PkT
theorem key_type_c : PkT kT := by
  intro hE O D hA h
  refine wpAny_call (PySem.W.X.x_code (ev_use 300 [] (.again (.builtin "type.__call__" ⟨[.type "type", .str (Str.ofString "K") (kT.t0 + 0), .ref (kT.E 0 + 250), .ref (kT.E 2 + 250)], []⟩)) O rfl hA D (by kernel_rfl) (by kernel_rfl) fun s1 D1 => ?_))
  refine ⟨Code.quiet_builtin _ (by decide +kernel), codeAny_builtin entry_typeCall ?_⟩
  unfold Builtin.«type.__call__»
  (walk_at "ifT")
  (walk_at "ifF")
  (walk_at "ifF")
  (walk_at "ifF")
  (refine wpAny_bind (ev_use 300 [] () O rfl hA (by assumption) (by kernel_rfl) (by kernel_rfl) fun s9 D9 => ?_))
  (refine wpAny_bind (ev_use 300 [] [.type "type", .type "object"] O rfl hA (by assumption) (by kernel_rfl) (by kernel_rfl) fun s9 D9 => ?_))
  (walk_at "ifF")
  (refine wpAny_bind (ev_use 300 [] (some "type.__new__") O rfl hA (by assumption) (by kernel_rfl) (by kernel_rfl) fun s9 D9 => ?_))
  refine wpAny_bind (wpAny_pure (wpAny_bind (wpAny_holding (wpAny_call (PySem.W.X.x_code (ev_use 300 [] (.again (.builtin "type.__new__" ⟨[.type "type", .str (Str.ofString "K") (kT.t0 + 0), .ref (kT.E 0 + 250), .ref (kT.E 2 + 250)], []⟩)) O rfl hA (by assumption) (by kernel_rfl) (by kernel_rfl) fun s9 D9 => ?_))))))
  refine ⟨Code.quiet_builtin _ (by decide +kernel), codeAny_builtin entry_typeNew ?_⟩
  refine key_new (d1 := kT.d1) (d2 := kT.d2) (d3 := kT.d3) (d4 := kT.d4) (d5 := kT.d5) (d6 := kT.d6) hE O (EvRep.norm D9 _ _ (by kernel_rfl) (by kernel_rfl)) hA fun s9 D9 => ?_
  (refine wpAny_bind (ev_use 300 [13] true O rfl hA (by assumption) (by kernel_rfl) (by kernel_rfl) fun s9 D9 => ?_))
  (walk_at "ifF")
  refine wpAny_bind (wpAny_holding ?_)
  (refine ev_use 400 [13, 13] (some .none) O rfl hA (by assumption) (by kernel_rfl) (by kernel_rfl) fun s9 D9 => ?_)
  (walk_at "ifF")
  exact wpAny_pure (h _ (EvRep.norm D9 _ _ (by kernel_rfl) (by kernel_rfl)))
theorem key_type {w : World} {g : Heap} {n1 t0 : Nat} {sl : Array (Option Value)} {E : Nat → Nat} {s s0 : Shared} {A : Around} {Q : Value → Shared → Prop} {Eh : Value → Shared → Prop} {d1 d2 d3 d4 d5 d6 : Data} (hE : ∀ i, E i + 250 = n1 + i)
    (O : EvOk g (n1 + 56) 10 (keyC2 w sl E t0)) (D : EvRep g (n1 + 56) 10 (keyC2 w sl E t0) s0 ⟨osK w.params E t0 d1 d2 d3 d4 d5 d6, 73, [], []⟩ s) (hA : A.handled = none)
    (h : ∀ s', EvRep g (n1 + 56) 10 (keyC2 w sl E t0) s0 ⟨osK2 w.params E t0 d1 d2 d3 d4 d5 d6 ++ [supK E, bmK E], 77, [], []⟩ s' → Q (.ref (E 58 + 250)) s') : wpAny (model PG w) A (call (.type "type") [.str (Str.ofString "K") (t0 + 0), .ref (E 0 + 250), .ref (E 2 + 250)]) Q Eh s :=
  epsL_all key_type_c ⟨w, g, n1, t0, sl, E, s, s0, A, Q, Eh, fun _ _ => True, d1, d2, d3, d4, d5, d6, 0⟩ hE O D hA h
end
end
-- C7
example : True := by
  w_top off
  k_with_none
  exact trivial
section
set_option maxHeartbeats 8000000
section
noncomputable def keyIx : List Nat := [0, 2, 7, 14, 22, 30, 38, 46, 54, 55]
theorem keyAd2_ix (E : Nat → Nat) : ∀ i, i < 10 → keyAd2 E i = E (keyIx.getD i 0) + 250 := by
  intro i hi
  iterate 9 (cases i with | zero => rfl | succ i => _)
  cases i with
  | zero => rfl
  | succ i => omega
theorem keyIx_inj : ∀ i j, i < 10 → j < 10 → keyIx.getD i 0 = keyIx.getD j 0 → i = j := by
  have h : ∀ i : Fin 10, ∀ j : Fin 10, keyIx.getD i.1 0 = keyIx.getD j.1 0 → i.1 = j.1 := by decide
  exact fun i j hi hj e => h ⟨i, hi⟩ ⟨j, hj⟩ e
theorem keyIx_lt : ∀ i, i < 10 → keyIx.getD i 0 < 56 := by
  have h : ∀ i : Fin 10, keyIx.getD i.1 0 < 56 := by decide
  exact fun i hi => h ⟨i, hi⟩
theorem key_two {w : World} {g g1 : Heap} {n1 t0 : Nat} {sl : Array (Option Value)} {E : Nat → Nat} {s s0 : Shared} {st : EvS} {d1 d2 d3 d4 d5 d6 : Data} (hE : ∀ i, E i + 250 = n1 + i) (hK : ∀ a o, keyK w.params sl a = some o → g.get? a = some o)
    (hgg : ∀ b o, g.get? b = some o → g1.get? b = some o) (O : EvOk g1 n1 1 (keyC w sl E t0)) (D : EvRep g1 n1 1 (keyC w sl E t0) s0 st s) (hi : st.i = 73) (hl : st.os.length = 57)
    (q1 : st.os[1]? = some (tupO [.type "object"])) (q3 : st.os[3]? = some { cls := .type "dict", data := .dict (nsK w.params E t0).toArray 12 }) (q8 : st.os[8]? = some { cls := .type "list", data := .seq #[.str (Str.ofString "obj") (t0 + 15)] })
    (r1 : st.os[15]? = some (fnO d1)) (r2 : st.os[23]? = some (fnO d2)) (r3 : st.os[31]? = some (fnO d3)) (r4 : st.os[39]? = some (fnO d4)) (r5 : st.os[47]? = some (fnO d5)) (r6 : st.os[55]? = some (fnO d6))
    (q9 : st.os[56]? = some (tupO [.str (Str.ofString "obj") (t0 + 71)])) :
    ∃ g2, (∀ b o, s.heap.get? b = some o → (∀ i, i < 10 → keyAd2 E i ≠ b) → g2.get? b = some o) ∧ EvOk g2 (n1 + 56) 10 (keyC2 w sl E t0) ∧ EvRep g2 (n1 + 56) 10 (keyC2 w sl E t0) s ⟨osK w.params E t0 d1 d2 d3 d4 d5 d6, 73, [], []⟩ s := by
  have hsz : s.heap.objs.size = n1 + 56 := by have := D.size; omega
  obtain ⟨g2, z2, p2⟩ := hide s.heap ((List.range 10).map (keyAd2 E))
  have mem : ∀ i, i < 10 → keyAd2 E i ∈ (List.range 10).map (keyAd2 E) := fun i hi => List.mem_map_of_mem (List.mem_range.mpr hi)
  have hold : ∀ a o, g.get? a = some o → g2.get? a = some o := fun a o e => by
    refine (p2 a o).mpr ⟨D.old a o (hgg a o e), fun m => ?_⟩
    obtain ⟨i, hi, ea⟩ := List.mem_map.mp m
    have hi' := List.mem_range.mp hi
    rw [keyAd2_ix E i hi', hE] at ea
    have h1 : @LT.lt Nat _ a g1.objs.size := Heap.lt_size (hgg a o e)
    have h2 : g1.objs.size ≤ n1 := O.gs
    have h3 : @Eq Nat (n1 + keyIx.getD i 0) a := ea
    omega
  refine ⟨g2, fun b o e n => (p2 b o).mpr ⟨e, fun m => ?_⟩, ⟨fun m hm => ?_, fun i hi => ?_, fun i j hi hj e => ?_, fun i hi => ?_, by rw [z2, hsz]; exact Nat.le_refl _, fun a o e => hold a o (hK a o e)⟩, ⟨?_, ?_, Nat.le_refl _, fun i o ho => ?_, fun b o e => ((p2 b o).mp e).1⟩⟩
  · obtain ⟨i, hi, ea⟩ := List.mem_map.mp m
    exact n i (List.mem_range.mp hi) ea
  · obtain ⟨i, rfl⟩ : ∃ k, m = k + 9 := ⟨m - 9, by omega⟩
    show keyAd2 E (i + 9) + 10 = _
    have : keyAd2 E (i + 9) = E (55 + i) + 250 := by cases i <;> rfl
    rw [this, hE]; omega
  · show keyAd2 E i < _
    rw [keyAd2_ix E i hi, hE]
    have := keyIx_lt i hi
    omega
  · have e' : keyAd2 E i = keyAd2 E j := e
    rw [keyAd2_ix E i hi, keyAd2_ix E j hj, hE, hE] at e'
    exact keyIx_inj i j hi hj (by omega)
  · show g2.get? (keyAd2 E i) = none
    cases e : g2.get? (keyAd2 E i) with
    | none => rfl
    | some o => exact absurd (mem i hi) ((p2 _ _).mp e).2
  · have := D.eq
    rw [hi] at this
    have ht : s.toks = t0 + 73 := by rw [this]; rfl
    show s = { s with heap := s.heap, toks := t0 + 73 }
    rw [← ht]
  · rw [hsz]; rfl
  · show s.heap.get? (keyAd2 E i) = some o
    have key : ∀ (j : Nat) (x : Obj), st.os[j + 1]? = some x → s.heap.get? (E j + 250) = some x := fun j x e => D.own (j + 1) x e
    match i, ho with
    | 0, ho => cases ho; exact key 0 _ q1
    | 1, ho => cases ho; exact key 2 _ q3
    | 2, ho => cases ho; exact key 7 _ q8
    | 3, ho => cases ho; exact key 14 _ r1
    | 4, ho => cases ho; exact key 22 _ r2
    | 5, ho => cases ho; exact key 30 _ r3
    | 6, ho => cases ho; exact key 38 _ r4
    | 7, ho => cases ho; exact key 46 _ r5
    | 8, ho => cases ho; exact key 54 _ r6
    | 9, ho => cases ho; exact key 55 _ q9
    | i + 10, ho => cases ho
end
end
-- C8
example : True := by
  w_top off
  k_with_none
  k_with "m_enterCT" => (refine' enterC (g := g) hkeep hsz hid ?k3zq ?k5zq ?k6zq ?k7zq ?k8zq ?k9zq ?kBzq ?kDzq ?_ ?c2zq ?c3zq ?c4zq; (case k3zq => k_asm); (case k5zq => k_asm); (case k6zq => k_is); (case k7zq => k_is); (case k8zq => (walk_at "m_room")); (case k9zq => exact BindsTo.of_eq rfl); (case kBzq => exact rfl); (case kDzq => decide +kernel); (case c2zq => exact rfl); (case c3zq => exact rfl); (case c4zq => exact rfl); k_whole; intro L' h' tk' cells' lb' F' N' Y' l0' Qt' Et' hq' hE'; k_lt l0'; k_cells Y'; (try simp only [List.cons_append, List.nil_append] at N'); (try dsimp only); (try k_fold))
  k_with "m_room" => (first | exact rm0 hdp | exact rm1 hdp (by decide) | exact rm2 hdp | ((try simp only [depth_under_make, depth_under_kw, depth_in1, depth_deeper, depth_caller] at *); (try dsimp only [AR] at *); omega) | ((simp only [recursionLimit, depth_under_make, depth_under_kw, depth_in1, depth_deeper, depth_caller] at *); (try dsimp only [AR] at *); omega) | decide)
  exact trivial
section
set_option maxHeartbeats 8000000
section

noncomputable def clsBody (P : Params) : List Stmt := match (hd.heap_1 P).lookup 84 with
  | some ⟨_, _, .func fd, _⟩ => match fd.body with
    | .stmts (.ClassDef _ _ _ body _ _ _ _ _ _ _ :: _) => body
    | _ => []
  | _ => []
noncomputable def stK (P : Params) (i : Nat) : Stmt := (clsBody P).getD i (.Pass { line := 0, col := 0, endLine := 0, endCol := 0 })
noncomputable def argsS : Stmt → Arguments
  | .FunctionDef _ a _ _ _ _ _ _ _ _ => a
  | _ => { posonlyargs := [], args := [], vararg := none, kwonlyargs := [], kw_defaults := [], kwarg := none, defaults := [] }
noncomputable def bodyS : Stmt → List Stmt
  | .FunctionDef _ _ b _ _ _ _ _ _ _ => b
  | _ => []
noncomputable def scopeS : Stmt → Scope
  | .FunctionDef _ _ _ _ _ _ s _ _ _ => s
  | _ => { kind := .function, names := [], isGenerator := false, isCoroutine := false }
noncomputable def qInit : Str := Str.ofString "cmp_to_key.<locals>.K.__init__"
noncomputable def qLt : Str := Str.ofString "cmp_to_key.<locals>.K.__lt__"
noncomputable def fdI (P : Params) (cd pm : Value) : FuncData := fnX (Str.ofString "__init__") qInit (argsS (stK P 2)) (bodyS (stK P 2)) (scopeS (stK P 2)) [] .none .none .none pm none cd .none
noncomputable def fdL (P : Params) (cd pm ct : Value) (cl : Addr) : FuncData := fnX (Str.ofString "__lt__") qLt (argsS (stK P 3)) (bodyS (stK P 3)) (scopeS (stK P 3)) [(Str.ofString "mycmp", cl)] .none .none .none pm none cd ct
theorem getD_some {l : List Obj} {i n : Nat} (hl : l.length = n) (hi : i < n) : l[i]? = some (l.getD i default) := by
  rw [List.getElem?_eq_getElem (by omega)]
  simp [List.getD_eq_getElem?_getD, List.getElem?_eq_getElem (show i < l.length by omega)]

theorem key_two2 {w : World} {g g1 : Heap} {n1 t0 : Nat} {sl : Array (Option Value)} {E : Nat → Nat} {s s0 : Shared} {st : EvS} (hE : ∀ i, E i + 250 = n1 + i) (hK : ∀ a o, keyK w.params sl a = some o → g.get? a = some o)
    (hgg : ∀ b o, g.get? b = some o → g1.get? b = some o) (O : EvOk g1 n1 1 (keyC w sl E t0)) (D : EvRep g1 n1 1 (keyC w sl E t0) s0 st s) (hi : st.i = 73) (hl : st.os.length = 57)
    (q1 : st.os.getD 1 default = (tupO [.type "object"])) (q3 : st.os.getD 3 default = { cls := .type "dict", data := .dict (nsK w.params E t0).toArray 12 }) (q8 : st.os.getD 8 default = { cls := .type "list", data := .seq #[.str (Str.ofString "obj") (t0 + 15)] })
    (r1 : st.os.getD 15 default = fnO (st.os.getD 15 default).data) (r2 : st.os.getD 23 default = fnO (st.os.getD 23 default).data) (r3 : st.os.getD 31 default = fnO (st.os.getD 31 default).data) (r4 : st.os.getD 39 default = fnO (st.os.getD 39 default).data) (r5 : st.os.getD 47 default = fnO (st.os.getD 47 default).data) (r6 : st.os.getD 55 default = fnO (st.os.getD 55 default).data)
    (q9 : st.os.getD 56 default = tupO [.str (Str.ofString "obj") (t0 + 71)]) :
    ∃ g2, (∀ b o, s.heap.get? b = some o → (∀ i, i < 10 → keyAd2 E i ≠ b) → g2.get? b = some o) ∧ EvOk g2 (n1 + 56) 10 (keyC2 w sl E t0) ∧ EvRep g2 (n1 + 56) 10 (keyC2 w sl E t0) s ⟨osK w.params E t0 (st.os.getD 15 default).data (st.os.getD 23 default).data (st.os.getD 31 default).data (st.os.getD 39 default).data (st.os.getD 47 default).data (st.os.getD 55 default).data, 73, [], []⟩ s :=
  key_two hE hK hgg O D hi hl ((getD_some hl (by decide)).trans (congrArg some q1)) ((getD_some hl (by decide)).trans (congrArg some q3)) ((getD_some hl (by decide)).trans (congrArg some q8)) ((getD_some hl (by decide)).trans (congrArg some r1)) ((getD_some hl (by decide)).trans (congrArg some r2))
    ((getD_some hl (by decide)).trans (congrArg some r3)) ((getD_some hl (by decide)).trans (congrArg some r4)) ((getD_some hl (by decide)).trans (congrArg some r5)) ((getD_some hl (by decide)).trans (congrArg some r6)) ((getD_some hl (by decide)).trans (congrArg some q9))

noncomputable def fieldsO (o : Obj) : Array Value := match o.data with
  | .fields vs => vs
  | _ => #[]
theorem ne_new {E : Nat → Nat} {n1 k : Nat} (hE : ∀ i, E i + 250 = n1 + i) (hk : ∀ i, i < 10 → keyIx.getD i 0 ≠ k) : ∀ i, i < 10 → keyAd2 E i ≠ E k + 250 := fun i hi e => by
  rw [keyAd2_ix E i hi, hE, hE] at e
  exact hk i hi (by omega)
theorem ne_old {E : Nat → Nat} {n1 b : Nat} (hE : ∀ i, E i + 250 = n1 + i) (hb : b < n1) : ∀ i, i < 10 → keyAd2 E i ≠ b := fun i hi e => by
  rw [keyAd2_ix E i hi, hE] at e
  omega
theorem ix13 : ∀ i, i < 10 → keyIx.getD i 0 ≠ 13 := by
  have h : ∀ i : Fin 10, keyIx.getD i.1 0 ≠ 13 := by decide
  exact fun i hi => h ⟨i, hi⟩
theorem ix21 : ∀ i, i < 10 → keyIx.getD i 0 ≠ 21 := by
  have h : ∀ i : Fin 10, keyIx.getD i.1 0 ≠ 21 := by decide
  exact fun i hi => h ⟨i, hi⟩
theorem EvRep.same {g : Heap} {n1 n0 : Nat} {c : EvC} {s0 s : Shared} {st : EvS} (D : EvRep g n1 n0 c s0 st s) : s.gens = s0.gens ∧ s.drawn = s0.drawn ∧ s.os = s0.os := by
  have := D.eq
  exact ⟨by rw [this], by rw [this], by rw [this]⟩
theorem shared_eq {s s' : Shared} (h : s'.gens = s.gens ∧ s'.drawn = s.drawn ∧ s'.os = s.os) : s' = { s with heap := s'.heap, toks := s'.toks } := by
  obtain ⟨h1, g1, d1, t1, o1⟩ := s'
  obtain ⟨h2, g2, d2, t2, o2⟩ := s
  obtain ⟨a, b, c⟩ := h
  simp only at a b c
  subst a b c
  rfl

noncomputable def keyNews (P : Params) (E : Nat → Nat) (t0 : Nat) (pm : Value) (cl : Addr) (oc1 oc2 : Obj) : List (Addr × Obj) := [(E 58 + 250, clsK E t0), (E 57 + 250, { cls := .type "dict", data := .dict (nsK2 P E t0).toArray 3 }), (E 59 + 250, mdK E t0),
  (E 14 + 250, fnO (.func (fdI P (.ref (E 13 + 250)) pm))), (E 22 + 250, fnO (.func (fdL P (.ref (E 21 + 250)) pm (.ref (E 15 + 250)) cl))), (E 13 + 250, oc1), (E 21 + 250, oc2)]
structure KeyOf (P : Params) (f : Addr) (led : List (Addr × Obj)) (C : Addr) : Prop where
  ex : ∃ E t0 n1 cl oc pm oc1 oc2 vs1 vs2, (∀ i : Nat, E i + 250 = n1 + i) ∧ C = E 58 + 250 ∧ led = (cl, oc) :: keyNews P E t0 pm cl oc1 oc2 ∧ oc1.data = .fields vs1 ∧ vs1[1]? = some (.str qInit (t0 + 18)) ∧ oc2.data = .fields vs2 ∧ vs2[1]? = some (.str qLt (t0 + 26)) ∧ oc.data = .cell (some (.ref f))
theorem key_news {w : World} {g1 g2 : Heap} {n1 t0 : Nat} {sl : Array (Option Value)} {E : Nat → Nat} {s17 s18 s0 : Shared} {st : EvS} {pm : Value} {cl : Addr} (hE : ∀ i, E i + 250 = n1 + i) (D17 : EvRep g1 n1 1 (keyC w sl E t0) s0 st s17)
    (hg2 : ∀ b o, s17.heap.get? b = some o → (∀ i, i < 10 → keyAd2 E i ≠ b) → g2.get? b = some o)
    (D18 : EvRep g2 (n1 + 56) 10 (keyC2 w sl E t0) s17 ⟨osK2 w.params E t0 (st.os.getD 15 default).data (st.os.getD 23 default).data (st.os.getD 31 default).data (st.os.getD 39 default).data (st.os.getD 47 default).data (st.os.getD 55 default).data ++ [supK E, bmK E], 77, [], []⟩ s18)
    (hl : st.os.length = 57) (e1 : (st.os.getD 15 default).data = .func (fdI w.params (.ref (E 13 + 250)) pm)) (e2 : (st.os.getD 23 default).data = .func (fdL w.params (.ref (E 21 + 250)) pm (.ref (E 15 + 250)) cl))
    (c1 : (st.os.getD 14 default).data = .fields (fieldsO (st.os.getD 14 default))) (c2 : (fieldsO (st.os.getD 14 default))[1]? = some (.str qInit (t0 + 18)))
    (c3 : (st.os.getD 22 default).data = .fields (fieldsO (st.os.getD 22 default))) (c4 : (fieldsO (st.os.getD 22 default))[1]? = some (.str qLt (t0 + 26))) :
    ∃ oc1 oc2 vs1 vs2, oc1.data = .fields vs1 ∧ vs1[1]? = some (.str qInit (t0 + 18)) ∧ oc2.data = .fields vs2 ∧ vs2[1]? = some (.str qLt (t0 + 26)) ∧ ∀ p ∈ keyNews w.params E t0 pm cl oc1 oc2, s18.heap.get? p.1 = some p.2 ∧ @LE.le Nat _ n1 p.1 := by
  refine ⟨_, _, _, _, c1, c2, c3, c4, fun p hp => ?_⟩
  have kq : ∀ k o, (∀ i, i < 10 → keyIx.getD i 0 ≠ k) → s17.heap.get? (E k + 250) = some o → s18.heap.get? (E k + 250) = some o := fun k o hk e => D18.old _ o (hg2 _ o e (ne_new hE hk))
  have big : ∀ k, @LE.le Nat _ n1 (E k + 250) := fun k => by rw [hE]; omega
  unfold keyNews at hp
  rcases List.mem_cons.mp hp with rfl | hp
  · exact ⟨D18.own 12 _ rfl, big _⟩
  rcases List.mem_cons.mp hp with rfl | hp
  · exact ⟨D18.own 11 _ rfl, big _⟩
  rcases List.mem_cons.mp hp with rfl | hp
  · exact ⟨D18.own 13 _ rfl, big _⟩
  rcases List.mem_cons.mp hp with rfl | hp
  · exact ⟨D18.own 3 _ (by rw [← e1]; rfl), big _⟩
  rcases List.mem_cons.mp hp with rfl | hp
  · exact ⟨D18.own 4 _ (by rw [← e2]; rfl), big _⟩
  rcases List.mem_cons.mp hp with rfl | hp
  · exact ⟨kq 13 _ ix13 (D17.own 14 _ (getD_some hl (by decide))), big _⟩
  rcases List.mem_cons.mp hp with rfl | hp
  · exact ⟨kq 21 _ ix21 (D17.own 22 _ (getD_some hl (by decide))), big _⟩
  · cases hp
theorem key_tab {w : World} {g1 : Heap} {n1 t0 : Nat} {sl : Array (Option Value)} {E : Nat → Nat} {s0 s : Shared} {st : EvS} (D : EvRep g1 n1 1 (keyC w sl E t0) s0 st s) (hl : st.os.length = 57) (h0 : st.os.getD 0 default = tabObj (fieldsO (st.os.getD 0 default))) :
    ∃ ps, s.heap.get? 79 = some (tabObj ps) := ⟨_, D.own 0 _ ((getD_some hl (by decide)).trans (congrArg some h0))⟩
theorem key_same {w : World} {g1 g2 : Heap} {n1 t0 : Nat} {sl : Array (Option Value)} {E : Nat → Nat} {s s17 s18 : Shared} {st st' : EvS} {h' : Heap} {tk : Nat} (D17 : EvRep g1 n1 1 (keyC w sl E t0) { s with heap := h', toks := tk } st s17) (D18 : EvRep g2 (n1 + 56) 10 (keyC2 w sl E t0) s17 st' s18) :
    s18 = { s with heap := s18.heap, toks := s18.toks } := by
  have a := EvRep.same D17
  have b := EvRep.same D18
  exact shared_eq ⟨b.1.trans a.1, b.2.1.trans a.2.1, b.2.2.trans a.2.2⟩
noncomputable def keyEnv (L : Nat) : Env := envOfC (Str.ofString "cmp_to_key") { kind := ScopeKind.function, names := [(Str.ofString "mycmp", NameKind.cell), (Str.ofString "K", NameKind.local), (Str.ofString "object", NameKind.globalImplicit)], isGenerator := false, isCoroutine := false } L 84 (Value.ref 83)
noncomputable def clsCall (P : Params) (env : Env) : Sem Value := buildClass (Str.ofString "K") (qualnameIn env (Str.ofString "K") (Str.ofString "K")) [Value.type "object"] [] (clsBody P)
  { kind := ScopeKind.class, names := [(Str.ofString "__module__", NameKind.local), (Str.ofString "__slots__", NameKind.local), (Str.ofString "__init__", NameKind.local), (Str.ofString "__lt__", NameKind.local), (Str.ofString "__gt__", NameKind.local), (Str.ofString "__eq__", NameKind.local), (Str.ofString "__le__", NameKind.local), (Str.ofString "__ge__", NameKind.local), (Str.ofString "__hash__", NameKind.local), (Str.ofString "mycmp", NameKind.free)], isGenerator := false, isCoroutine := false }
  [Str.ofString "obj"] (firstLineOf [] { line := 32, col := 4, endLine := 53, endCol := 23 }) env { line := 32, col := 4, endLine := 53, endCol := 23 } none
noncomputable abbrev pmK : Value := .str (Str.ofString "law_ik0053_01") 436
noncomputable def PkB (c : KL) : Prop := (∀ i, c.E i + 250 = c.n1 + i) → (∀ a o, keyK c.w.params c.sl a = some o → c.g.get? a = some o) → c.g.NoLimit → EvOk c.g c.n1 1 (keyC c.w c.sl c.E c.t0) → EvRep c.g c.n1 1 (keyC c.w c.sl c.E c.t0) c.s0 ⟨[tabObj #[]], 0, [], []⟩ c.s → c.A.handled = none → c.A.depth < recursionLimit →
  (∀ (g2 : Heap) (s17 s18 : Shared) (st : EvS), (∀ b o, s17.heap.get? b = some o → (∀ i, i < 10 → keyAd2 c.E i ≠ b) → g2.get? b = some o) → EvRep c.g c.n1 1 (keyC c.w c.sl c.E c.t0) c.s0 st s17 →
    EvRep g2 (c.n1 + 56) 10 (keyC2 c.w c.sl c.E c.t0) s17 ⟨osK2 c.w.params c.E c.t0 (st.os.getD 15 default).data (st.os.getD 23 default).data (st.os.getD 31 default).data (st.os.getD 39 default).data (st.os.getD 47 default).data (st.os.getD 55 default).data ++ [supK c.E, bmK c.E], 77, [], []⟩ s18 →
    st.os.length = 57 → (st.os.getD 15 default).data = .func (fdI c.w.params (.ref (c.E 13 + 250)) pmK) → (st.os.getD 23 default).data = .func (fdL c.w.params (.ref (c.E 21 + 250)) pmK (.ref (c.E 15 + 250)) (c.L + 1)) →
    (st.os.getD 14 default).data = .fields (fieldsO (st.os.getD 14 default)) → (fieldsO (st.os.getD 14 default))[1]? = some (.str qInit (c.t0 + 18)) → (st.os.getD 22 default).data = .fields (fieldsO (st.os.getD 22 default)) → (fieldsO (st.os.getD 22 default))[1]? = some (.str qLt (c.t0 + 26)) →
    st.os.getD 0 default = tabObj (fieldsO (st.os.getD 0 default)) → c.Q (.ref (c.E 58 + 250)) s18) →
  wpAny (model PG c.w) c.A (clsCall c.w.params (keyEnv c.L)) c.Q c.Eh c.s
noncomputable def kB : KL := epsL PkB
theorem key_build_c : PkB kB := by
  intro hE hK hlim O D hA hroom h
  unfold clsCall
  unfold buildClass
  refine wpAny_bind (ev_use 100 [] (.ref (kB.E 0 + 250)) O rfl hA D (by kernel_rfl) (by kernel_rfl) fun s1 D1 => ?_)
  refine wpAny_bind (ev_use 100 [] ([.type "object"], false) O rfl hA D1 (by kernel_rfl) (by kernel_rfl) fun s2 D2 => ?_)
  refine wpAny_bind (ev_use 100 [] (.type "type") O rfl hA D2 (by kernel_rfl) (by kernel_rfl) fun s3 D3 => ?_)
  refine wpAny_bind (ev_use 100 [] true O rfl hA D3 (by kernel_rfl) (by kernel_rfl) fun s4 D4 => ?_)
  refine wpAny_ite_true rfl ?_
  refine wpAny_bind (ev_use 100 [] (.type "type") O rfl hA D4 (by kernel_rfl) (by kernel_rfl) fun s5 D5 => ?_)
  refine wpAny_bind (ev_use 100 [] (.str (Str.ofString "K") (kB.t0 + 0)) O rfl hA D5 (by kernel_rfl) (by kernel_rfl) fun s6 D6 => ?_)
  refine wpAny_ite_false rfl ?_
  refine wpAny_bind (wpAny_pure (wpAny_holding ?_))
  refine wpAny_bind (ev_use 300 [] (some (.ref (kB.E 1 + 250))) O rfl hA D6 (by kernel_rfl) (by kernel_rfl) fun s7 D7 => ?_)
  refine wpAny_bind (ev_use 300 [3] (.ref (kB.E 2 + 250)) O rfl hA D7 (by kernel_rfl) (by kernel_rfl) fun s8 D8 => ?_)
  refine wpAny_bind (ev_use 300 [4] () O rfl hA D8 (by kernel_rfl) (by kernel_rfl) fun s9 D9 => ?_)
  refine wpAny_bind (ev_use 300 [4] (some (.builtin "dict.__getitem__")) O rfl hA D9 (by kernel_rfl) (by kernel_rfl) fun s10 D10 => ?_)
  refine wpAny_ite_false rfl ?_
  refine wpAny_holding ?_
  refine wpAny_ite_false rfl ?_
  refine wpAny_bind (wpAny_pure ?_)
  refine wpAny_ite_false rfl ?_
  refine wpAny_bind (wpAny_pure ?_)
  refine wpAny_bind (ev_use 300 [0, 1, 1, 1, 1] (.ref (kB.E 5 + 250)) O rfl hA D10 (by kernel_rfl) (by kernel_rfl) fun s11 D11 => ?_)
  refine wpAny_bind (ev_use 300 [0, 0] (0 : Nat) O rfl hA D11 (by kernel_rfl) (by kernel_rfl) fun s12 D12 => ?_)
  refine wpAny_bind (ev_use 300 [0] (kB.E 6 + 250) O rfl hA D12 (by kernel_rfl) (by kernel_rfl) fun s13 D13 => ?_)
  refine wpAny_bind (ev_use 300 [] [(Str.ofString "mycmp", kB.L + 1)] O rfl hA D13 (by kernel_rfl) (by kernel_rfl) fun s14 D14 => ?_)
  refine wpAny_holding ?_
  refine wpAny_bind (wpAny_enterFrame (hlim.keeps fun b o e => D14.old b o e) hroom ?_)
  refine wpAny_bind (ev_use 300 [4, 4, 0, 4, 4, 4, 4, 4, 4, 4, 4, 4] () O rfl hA D14 (by kernel_rfl) (by kernel_rfl) fun s15 D15 => ?_)
  refine wpAny_bind (ev_use 1500 [4, 4, 4, 4, 4, 4, 7, 6, 6, 6, 6, 0, 0, 0, 4, 4, 4, 7, 6, 6, 6, 6, 0, 0, 0, 4, 4, 4, 7, 6, 6, 6, 6, 0, 0, 0, 4, 4, 4, 7, 6, 6, 6, 6, 0, 0, 0, 4, 4, 4, 7, 6, 6, 6, 6, 0, 0, 0, 4, 4, 4, 7, 6, 6, 6, 6, 0, 0, 0, 4, 4, 4, 4, 4, 4] .next O rfl hA D15 (by kernel_rfl) (by kernel_rfl) fun s16 D16 => ?_)
  refine wpAny_bind (ev_use 300 [4, 4, 4] () O rfl hA D16 (by kernel_rfl) (by kernel_rfl) fun s17 D17 => ?_)
  refine wpAny_ite_false rfl ?_
  have T2 := key_two2 hE hK (fun _ _ e => e) O D17 (by kernel_rfl) (by kernel_rfl) (by kernel_rfl) (by kernel_rfl) (by kernel_rfl) (by kernel_rfl) (by kernel_rfl) (by kernel_rfl) (by kernel_rfl) (by kernel_rfl) (by kernel_rfl) (by kernel_rfl)
  obtain ⟨g2, hg2, O2, D2⟩ := T2
  refine wpAny_bind (key_type hE O2 D2 hA fun s18 D18 => ?_)
  refine wpAny_pure ?_
  exact h g2 s17 s18 _ hg2 D17 D18 (by kernel_rfl) (by kernel_rfl) (by kernel_rfl) (by kernel_rfl) (by kernel_rfl) (by kernel_rfl) (by kernel_rfl) (by kernel_rfl)
variable (w : World) (mean : ExcName → Option Value) (mg mb : Str → Option Value)
example : True := by
  k_with "execs cons" => (k_here; k_dflt (refine execs_P (by k_asm) rfl ?_; intro tk' Qt' hq'))
  k_with "Post" => (k_here; (rename Then _ _ => hq'); refine hq' _ _ ?_; clear hq')
  exact trivial
theorem p_key :   ∀ (dp un : Nat) (gd : Option (List Code)) (outer : List Env) (base g : Heap) (s : Shared) (Q E : Value → Shared → Prop), (∀ b o, g.get? b = some o → s.heap.get? b = some o) → g.objs.size ≤ s.heap.objs.size → (∀ p ∈ [((79 : Addr), tabObj #[])], s.heap.get? p.1 = some p.2 ∧ g.get? p.1 = none) → CodeHd g 83 79 →
    Below (AR dp un gd outer) base outer g → (KK w).In g → Top topProg LL mean mg mb g → dp + 8 < 900 → un + 10 * 8 < 9000 →
    (∀ (C : Addr) (h' : Heap) (tk' : Nat) (led : List (Addr × Obj)) (ps : Array Value), (∀ b o, g.get? b = some o → h'.get? b = some o) → (∀ p ∈ led, h'.get? p.1 = some p.2 ∧ g.get? p.1 = none ∧ @Ne Nat p.1 79) → h'.get? 79 = some (tabObj ps) → KeyOf w.params 220 led C → Q (.ref C) { s with heap := h', toks := tk' }) →
      wpAny (model PG w) (AR dp un gd outer) (call (.ref 84) [.ref 220]) Q E s := by
  dsimp only [PG, KK, LL]
  k_fill
  intro dp un gd outer base g s Q E hkeep hsz hid hcode B X T hdp hun hret
  refine wpAny_call ?_
  k_dflt (walk_at "m_enterCT")
  iterate 1 walk1
  refine classDef_any rfl ?_
  refine guard_any (m := mb) (T.b.keeps F'.keep) ((T.builtins _ (by decide)).trans boot_build) ?_
  iterate 1 walk1
  obtain ⟨g1, sl, E', n1, t0, en1, et0, hE, hg1, hgg, hK, O, D⟩ := key_start (w := w) (s := { s with heap := h', toks := _ }) X T F'.keep (N' _ (.tail _ (.head _))).1 (N' _ (.tail _ (.head _))).2.2
  have hA : ((AR dp un gd outer).deeper (envOfC (Str.ofString "cmp_to_key") { kind := ScopeKind.function, names := [(Str.ofString "mycmp", NameKind.cell), (Str.ofString "K", NameKind.local), (Str.ofString "object", NameKind.globalImplicit)], isGenerator := false, isCoroutine := false } L' 84 (Value.ref 83))).handled = none := rfl
  refine epsL_all key_build_c ⟨w, g1, n1, t0, sl, E', _, _, _, _, Et', fun _ _ => True, .plain, .plain, .plain, .plain, .plain, .plain, L'⟩ hE (fun a o e => hgg a o (hK a o e)) (T.nolimit.keeps hgg) O D hA (by (walk_at "m_room")) fun g2 s17 s18 st hg2 D17 D18 hl e1 e2 k1 k2 k3 k4 k0 => ?_
  change wpAny _ _ (bindName _ _ _) _ _ _
  have n1e : n1 = h'.objs.size := en1.symm
  have hLn : @LT.lt Nat _ L' n1 := by rw [n1e]; exact F'.ns.lt
  have hcl := N' _ (.head _)
  have hcn : @LT.lt Nat _ (L' + 1) n1 := by rw [n1e]; exact Heap.lt_size hcl.1
  have kp : ∀ b o, h'.get? b = some o → b ≠ 79 → s17.heap.get? b = some o := fun b o e n => D17.old b o (hg1 b o e n)
  have kq : ∀ b o, s17.heap.get? b = some o → (∀ i, i < 10 → keyAd2 E' i ≠ b) → s18.heap.get? b = some o := fun b o e n => D18.old b o (hg2 b o e n)
  have kr : ∀ b o, h'.get? b = some o → b ≠ 79 → s18.heap.get? b = some o := fun b o e n => kq b o (kp b o e n) (ne_old hE (by rw [n1e]; exact Heap.lt_size e))
  have es := key_same D17 D18
  have KN := key_news hE D17 hg2 D18 hl e1 e2 k1 k2 k3 k4
  obtain ⟨oc1, oc2, vs1, vs2, c1, c2, c3, c4, hN⟩ := KN
  have K0 := key_tab D17 hl k0
  obtain ⟨pst, hpst⟩ := K0
  have h79n : @LT.lt Nat _ 79 n1 := by rw [n1e]; exact Nat.lt_trans l0' F'.ns.lt
  have kt : s18.heap.get? 79 = some (tabObj pst) := kq 79 _ hpst (ne_old hE h79n)
  have F18 : Fr g L' s18.heap _ := ⟨by obtain ⟨o, es, ep, e, r⟩ := F'.ns; exact ⟨o, es, ep, kr _ _ e (Nat.ne_of_gt l0'), r⟩, fun b o e => D18.old b o (hg2 b o (D17.old b o (hgg b o e)) (ne_old hE (Nat.lt_of_lt_of_le (Heap.lt_size (hgg b o e)) O.gs))), F'.above⟩
  have gn : ∀ b, @LE.le Nat _ n1 b → g.get? b = none := fun b hb => Heap.get?_none_of_le (Nat.le_trans F'.above (Nat.le_trans (Nat.le_of_lt hLn) hb))
  have N18 : News g L' s18.heap ((L' + 1, _) :: keyNews w.params E' t0 (.str (Str.ofString "law_ik0053_01") 436) (L' + 1) oc1 oc2 ++ [((79 : Addr), tabObj pst)]) := fun p hp => by
    rcases List.mem_cons.mp hp with rfl | hp
    · exact ⟨kr _ _ hcl.1 (by show (_ : Nat) ≠ _; omega), hcl.2⟩
    rcases List.mem_append.mp hp with hp | hp
    rotate_left
    · rw [List.mem_singleton.mp hp]; exact ⟨kt, Nat.ne_of_lt l0', (hid _ (.head _)).2⟩
    · have h1 := hN p hp
      exact ⟨h1.1, fun e => by have := h1.2; rw [e] at this; exact absurd hLn (Nat.not_lt.mpr this), gn _ h1.2⟩
  have hbig : ∀ p ∈ keyNews w.params E' t0 pmK (L' + 1) oc1 oc2, @LE.le Nat _ n1 p.1 := fun p hp => (hN p hp).2
  rw [es]
  generalize s18.heap = h18 at F18 N18
  generalize s18.toks = tk18
  clear es hN kr kq kp D18 hg2 D17 D O hg1 hgg hK k0 k1 k2 k3 k4 e1 e2 hl
  unfold keyNews at N18
  k_steps
  all_goals (
    rename News _ _ _ _ => NN
    have n8 := (NN _ (.tail _ (.tail _ (.tail _ (.tail _ (.tail _ (.tail _ (.tail _ (.tail _ (.head _))))))))))
    refine hret _ _ _ ((L' + 1, _) :: keyNews w.params E' t0 (.str (Str.ofString "law_ik0053_01") 436) (L' + 1) oc1 oc2) pst (Fr.keep (by assumption)) (fun p hp => ?_) n8.1 ⟨⟨E', t0, n1, L' + 1, _, _, oc1, oc2, vs1, vs2, hE, rfl, rfl, c1, c2, c3, c4, by assumption⟩⟩
    rcases List.mem_cons.mp hp with rfl | hp
    · have q1 := NN _ (.head _)
      exact ⟨q1.1, q1.2.2, by show (_ : Nat) ≠ _; omega⟩
    · have q1 := NN p (.tail _ (List.mem_append_left (bs := [((79 : Addr), tabObj pst)]) hp))
      exact ⟨q1.1, q1.2.2, fun e => absurd h79n (Nat.not_lt.mpr (e ▸ hbig p hp))⟩)
end
end
-- C9
example : True := by
  w_top off
  k_with_none
  exact trivial
section
set_option maxHeartbeats 8000000
section
noncomputable def ns2O (P : Params) (E : Nat → Nat) (t0 : Nat) : Obj := { cls := .type "dict", data := .dict (nsK2 P E t0).toArray 3 }
noncomputable def keyFrag (P : Params) (E : Nat → Nat) (t0 : Nat) (dI dL : Data) : Frag := [(E 58 + 250, clsK E t0), (E 57 + 250, ns2O P E t0), (E 59 + 250, mdK E t0), (E 14 + 250, fnO dI), (E 22 + 250, fnO dL)]
section
variable {P : Params} {E : Nat → Nat} {t0 n1 : Nat} {dI dL : Data} (hE : ∀ i : Nat, E i + 250 = n1 + i)
include hE
theorem E_ne {i j : Nat} (h : i ≠ j) : (E i + 250 == E j + 250) = false := by
  rw [beq_eq_false_iff_ne, hE, hE]
  omega
theorem lk1 : (keyFrag P E t0 dI dL).lookup (E 58 + 250) = some (clsK E t0) := by
  simp only [keyFrag, List.lookup, beq_self_eq_true]
theorem lk2 : (keyFrag P E t0 dI dL).lookup (E 57 + 250) = some (ns2O P E t0) := by
  simp only [keyFrag, List.lookup, beq_self_eq_true, E_ne hE (show 57 ≠ 58 by decide)]
theorem lk3 : (keyFrag P E t0 dI dL).lookup (E 59 + 250) = some (mdK E t0) := by
  simp only [keyFrag, List.lookup, beq_self_eq_true, E_ne hE (show 59 ≠ 58 by decide), E_ne hE (show 59 ≠ 57 by decide)]
theorem lk4 : (keyFrag P E t0 dI dL).lookup (E 14 + 250) = some (fnO dI) := by
  simp only [keyFrag, List.lookup, beq_self_eq_true, E_ne hE (show 14 ≠ 58 by decide), E_ne hE (show 14 ≠ 57 by decide), E_ne hE (show 14 ≠ 59 by decide)]
theorem lk5 : (keyFrag P E t0 dI dL).lookup (E 22 + 250) = some (fnO dL) := by
  simp only [keyFrag, List.lookup, beq_self_eq_true, E_ne hE (show 22 ≠ 58 by decide), E_ne hE (show 22 ≠ 57 by decide), E_ne hE (show 22 ≠ 59 by decide), E_ne hE (show 22 ≠ 14 by decide)]
theorem kf_cls : clsIn (keyFrag P E t0 dI dL) (E 58 + 250) = some { name := Str.ofString "K", bases := [.type "object"], mro := [.ref (E 58 + 250), .type "object"], ns := E 57 + 250, qualname := qualK, hasDict := false, slotNames := [Str.ofString "obj"], hasDel := false } := by
  unfold clsIn; rw [lk1 hE]; rfl
theorem kf_find {name : Str} {r r' : Option Value} (h : lookIn name (ns2O P E t0) = some r) (h' : r' = match r with | some v => some v | none => fastBuiltinOwn "object" name) : findIn (keyFrag P E t0 dI dL) (.ref (E 58 + 250)) name = some r' := by
  have own : ownIn (keyFrag P E t0 dI dL) name (.ref (E 58 + 250)) = some r := by
    simp only [ownIn]
    rw [lk1 hE]
    show nsIn _ (E 57 + 250) name = _
    unfold nsIn
    rw [lk2 hE]
    exact h
  simp only [findIn]
  rw [lk1 hE]
  show alongIn _ name [.ref (E 58 + 250), .type "object"] = _
  unfold alongIn
  rw [own]
  subst h'
  cases r with
  | some v => rfl
  | none =>
    show alongIn _ name [.type "object"] = _
    have q : ownIn (keyFrag P E t0 dI dL) name (.type "object") = some (fastBuiltinOwn "object" name) := rfl
    unfold alongIn
    rw [q]
    cases fastBuiltinOwn "object" name with
    | some v => rfl
    | none => rfl
theorem kf_mro (b : Value) : mroIn (keyFrag P E t0 dI dL) (E 58 + 250) b = some ([Value.ref (E 58 + 250), Value.type "object"].contains b) := by
  unfold mroIn; rw [kf_cls hE]; rfl
theorem kf_init : findIn (keyFrag P E t0 dI dL) (.ref (E 58 + 250)) "__init__" = some (some (.ref (E 14 + 250))) := kf_find hE (r := some (.ref (E 14 + 250))) (by kernel_rfl) rfl
theorem kf_lt : findIn (keyFrag P E t0 dI dL) (.ref (E 58 + 250)) "__lt__" = some (some (.ref (E 22 + 250))) := kf_find hE (r := some (.ref (E 22 + 250))) (by kernel_rfl) rfl
theorem kf_obj : findIn (keyFrag P E t0 dI dL) (.ref (E 58 + 250)) "obj" = some (some (.ref (E 59 + 250))) := kf_find hE (r := some (.ref (E 59 + 250))) (by kernel_rfl) rfl
theorem kf_set : findIn (keyFrag P E t0 dI dL) (.ref (E 58 + 250)) "__setattr__" = some (some (.builtin "object.__setattr__")) := kf_find hE (r := none) (by kernel_rfl) (by kernel_rfl)
theorem kf_getattribute : findIn (keyFrag P E t0 dI dL) (.ref (E 58 + 250)) "__getattribute__" = some (some (.builtin "object.__getattribute__")) := kf_find hE (r := none) (by kernel_rfl) (by kernel_rfl)
theorem kf_getattr : findIn (keyFrag P E t0 dI dL) (.ref (E 58 + 250)) "__getattr__" = some none := kf_find hE (r := none) (by kernel_rfl) (by kernel_rfl)
theorem kf_fI : typeIn (keyFrag P E t0 dI dL) (.ref (E 14 + 250)) = some (.type "function") := by show Option.map _ (List.lookup _ _) = _; rw [lk4 hE]; rfl
theorem kf_fL : typeIn (keyFrag P E t0 dI dL) (.ref (E 22 + 250)) = some (.type "function") := by show Option.map _ (List.lookup _ _) = _; rw [lk5 hE]; rfl
theorem kf_md : typeIn (keyFrag P E t0 dI dL) (.ref (E 59 + 250)) = some (.type "member_descriptor") := by show Option.map _ (List.lookup _ _) = _; rw [lk3 hE]; rfl
theorem kf_C : typeIn (keyFrag P E t0 dI dL) (.ref (E 58 + 250)) = some (.type "type") := by show Option.map _ (List.lookup _ _) = _; rw [lk1 hE]; rfl
theorem kf_makes : makesIn (keyFrag P E t0 dI dL) (E 58 + 250) = true := by
  unfold makesIn
  rw [lk1 hE]
  show (_ && _ && _ && _ && _ && _ && _ && _) = true
  simp only [Bool.and_eq_true]
  refine ⟨⟨⟨⟨⟨⟨⟨rfl, rfl⟩, by kernel_rfl⟩, rfl⟩, by simp⟩, by simp⟩, ?_⟩, ?_⟩
  · unfold specialIn; rw [kf_C hE]; kernel_rfl
  · unfold instIn; rw [kf_C hE]; kernel_rfl
theorem kf_plain : plainOver (keyFrag P E t0 dI dL) (E 58 + 250) = true := by unfold plainOver; rw [kf_cls hE]; rfl
theorem kf_special {name : Str} : specialIn (keyFrag P E t0 dI dL) (.ref (E 59 + 250)) name = findIn (keyFrag P E t0 dI dL) (.type "member_descriptor") name := by unfold specialIn; rw [kf_md hE]; rfl
theorem kf_get : specialIn (keyFrag P E t0 dI dL) (.ref (E 59 + 250)) "__get__" = some (some (.builtin "member_descriptor.__get__")) := by rw [kf_special hE]; kernel_rfl
theorem kf_takes : takesIn (keyFrag P E t0 dI dL) (.ref (E 59 + 250)) = some true := by unfold takesIn; rw [kf_special hE]; kernel_rfl
theorem kf_taker : takerIn (keyFrag P E t0 dI dL) (E 58 + 250) "obj" = some (some (.ref (E 59 + 250))) := by
  unfold takerIn
  rw [kf_obj hE]
  show (takesIn _ _).map _ = _
  rw [kf_takes hE]; rfl
theorem kf_slot : slotIn (keyFrag P E t0 dI dL) (E 59 + 250) (E 58 + 250) = some 0 := by
  unfold slotIn recIn
  rw [lk3 hE, kf_cls hE]
  show (if _ then _ else _) = _
  simp
theorem kf_isCls : isClsIn (keyFrag P E t0 dI dL) (E 58 + 250) = true := by unfold isClsIn; rw [kf_cls hE]; rfl
theorem kf_plainGet : plainGet (keyFrag P E t0 dI dL) (E 58 + 250) "obj" = true := by
  unfold plainGet
  rw [kf_getattribute hE, kf_getattr hE]; simp
end
end
end
-- C10
example : True := by
  w_top off
  k_with_none
  k_with "m_room" => (first | exact rm0 hdp | exact rm1 hdp (by decide) | exact rm2 hdp | ((try simp only [depth_under_make, depth_under_kw, depth_in1, depth_deeper, depth_caller] at *); (try dsimp only [AR] at *); omega) | ((simp only [recursionLimit, depth_under_make, depth_under_kw, depth_in1, depth_deeper, depth_caller] at *); (try dsimp only [AR] at *); omega) | decide)
  exact trivial
section
set_option maxHeartbeats 8000000
section
variable (w : World) (mean : ExcName → Option Value) (mg mb : Str → Option Value)
structure KeyIs (P : Params) (f : Addr) (h : Heap) (E : Nat → Nat) (t0 n1 cl : Nat) (pm : Value) : Prop where
  e : ∀ i : Nat, E i + 250 = n1 + i
  frag : (keyFrag P E t0 (.func (fdI P (.ref (E 13 + 250)) pm)) (.func (fdL P (.ref (E 21 + 250)) pm (.ref (E 15 + 250)) cl))).In h
  cI : h.CodeRec (.ref (E 13 + 250)) qInit
  cL : h.CodeRec (.ref (E 21 + 250)) qLt
  cell : ∃ oc, h.get? cl = some oc ∧ oc.data = .cell (some (.ref f))
theorem KeyOf.is {P : Params} {f : Addr} {led : List (Addr × Obj)} {C : Addr} (K : KeyOf P f led C) : ∃ E t0 n1 cl pm, C = E 58 + 250 ∧ ∀ h : Heap, (∀ p ∈ led, h.get? p.1 = some p.2) → KeyIs P f h E t0 n1 cl pm := by
  obtain ⟨E, t0, n1, cl, oc, pm, oc1, oc2, vs1, vs2, hE, rfl, rfl, c1, c2, c3, c4, c5⟩ := K.ex
  refine ⟨E, t0, n1, cl, pm, rfl, fun h H => ?_⟩
  unfold keyNews at H
  have a8 := H _ (.head _)
  have a1 := H _ (.tail _ (.head _))
  have a2 := H _ (.tail _ (.tail _ (.head _)))
  have a3 := H _ (.tail _ (.tail _ (.tail _ (.head _))))
  have a4 := H _ (.tail _ (.tail _ (.tail _ (.tail _ (.head _)))))
  have a5 := H _ (.tail _ (.tail _ (.tail _ (.tail _ (.tail _ (.head _))))))
  have a6 := H _ (.tail _ (.tail _ (.tail _ (.tail _ (.tail _ (.tail _ (.head _)))))))
  have a7 := H _ (.tail _ (.tail _ (.tail _ (.tail _ (.tail _ (.tail _ (.tail _ (.head _))))))))
  refine ⟨hE, fun a o e => ?_, ⟨_, _, _, _, rfl, a6, c1, c2⟩, ⟨_, _, _, _, rfl, a7, c3, c4⟩, oc, a8, c5⟩
  unfold keyFrag at e
  simp only [List.lookup] at e
  split at e
  · rename_i q; cases e; rw [beq_iff_eq.mp q]; exact a1
  split at e
  · rename_i q; cases e; rw [beq_iff_eq.mp q]; exact a2
  split at e
  · rename_i q; cases e; rw [beq_iff_eq.mp q]; exact a3
  split at e
  · rename_i q; cases e; rw [beq_iff_eq.mp q]; exact a4
  split at e
  · rename_i q; cases e; rw [beq_iff_eq.mp q]; exact a5
  · cases e
theorem KeyIs.keeps {P : Params} {f : Addr} {h h' : Heap} {E : Nat → Nat} {t0 n1 cl : Nat} {pm : Value} (K : KeyIs P f h E t0 n1 cl pm) (k : ∀ b o, h.get? b = some o → h'.get? b = some o) : KeyIs P f h' E t0 n1 cl pm :=
  ⟨K.e, K.frag.keeps k, codeRec_up K.cI k, codeRec_up K.cL k, let ⟨oc, a, b⟩ := K.cell; ⟨oc, k _ _ a, b⟩⟩
section
variable {prog : Program} {w : World} {A : Around} {s : Shared} {g : Heap} {news : List (Addr × Obj)}
  {R : Result → Shared → Prop} {name qual : Str} {params : Arguments} {body : List Stmt} {scope : Scope} {cl : List (Str × Addr)} {dV kV doc pm cdv ct : Value} {an : Option Addr} {f : Addr} {args : Args} {binds : List (Str × Value)}
theorem enterX (keep : ∀ b o, g.get? b = some o → s.heap.get? b = some o) (hsz : g.objs.size ≤ s.heap.objs.size) (hid : ∀ p ∈ news, s.heap.get? p.1 = some p.2 ∧ g.get? p.1 = none)
    (hlim : g.NoLimit) (ho : g.get? f = some (fnO (.func (fnX name qual params body scope cl dV kV doc pm an cdv ct)))) (hcd : g.CodeRec cdv qual) (hroom : A.depth < recursionLimit)
    (hbind : BindsTo s (fnX name qual params body scope cl dV kV doc pm an cdv ct) args binds) (hloc : ∀ y ∈ binds, scope.names.lookup y.1 = some .local)
    (h : ∀ L' h₁, Fr g L' h₁ (fun y => binds.reverse.lookup y) → News g L' h₁ news → (∀ p ∈ news, p.1 < L') →
      wpAny (model prog w) (A.deeper (envX qual scope L' f cdv cl)) (execs body (envX qual scope L' f cdv cl))
        (fun fl s' => R (.ok (.ret (match fl with | .ret v => v | _ => .none))) s')
        (fun e s' => wpAny (model prog w) (A.deeper (envX qual scope L' f cdv cl)) (leaving (envX qual scope L' f cdv cl) e) (fun _ s'' => R (.error e) s'') (fun e' s'' => R (.error e') s'') s')
        { s with heap := h₁, toks := s.toks + binds.length })
    (hco : scope.isCoroutine = false) (hgen : scope.isGenerator = false) (hk : scope.kind = .function)
    (hcell : ∀ x ∈ scope.names, x.2 ≠ .cell) : codeAny (model prog w) A (.call (.ref f) args) R s := by
  refine codeAny_call_def (fd := fnX name qual params body scope cl dV kV doc pm an cdv ct) (body := body) (binds := binds) hroom (keep _ _ ho) rfl (hlim.keeps keep) (codeRec_up hcd keep) rfl hbind hcell hloc (fun h₁ hns hk₁ => ?_) hco hgen hk
  exact h s.heap.objs.size h₁ ⟨hns, fun b o e => hk₁ b o (keep _ _ e), hsz⟩ (fun p hp => ⟨hk₁ _ _ (hid p hp).1, Nat.ne_of_lt (Heap.lt_size (hid p hp).1), (hid p hp).2⟩) (fun p hp => Heap.lt_size (hid p hp).1)
end
noncomputable def instK (C d : Addr) (v : Value) : Obj := { cls := .ref C, dict := some d, data := .plain, slots := #[some v] }
example : True := by
  k_with "setAttr ref" => (k_here; k_dflt (refine' set_slot (ox' := instK _ _ _) ?Fzq (KeyIs.frag (by with_reducible assumption)) ?Nzq ?Izq (kf_set (KeyIs.e (by with_reducible assumption))) (kf_plain (KeyIs.e (by with_reducible assumption))) (kf_taker (KeyIs.e (by with_reducible assumption))) (kf_md (KeyIs.e (by with_reducible assumption))) (kf_slot (KeyIs.e (by with_reducible assumption))) (by decide) ?ezq rfl ?Uzq ?_; (case Fzq => k_asm); (case Nzq => k_asm); (case Izq => k_inst); (case ezq => exact rfl); (case Uzq => k_upd)); intro h' F' N')
  exact trivial
theorem p_mk (f : Addr) (E : Nat → Nat) (t0 n1 cl : Nat) (pm v : Value) : ∀ (dp un : Nat) (gd : Option (List Code)) (outer : List Env) (base : Heap) (s : Shared) (Q Eh : Value → Shared → Prop),
    Below (AR dp un gd outer) base outer s.heap → (KK w).In s.heap → Top topProg LL mean mg mb s.heap → KeyIs w.params f s.heap E t0 n1 cl pm → dp + 8 < 900 → un + 10 * 8 < 9000 →
    (∀ (a d : Addr) (h' : Heap) (tk' : Nat), (∀ b o, s.heap.get? b = some o → h'.get? b = some o) → h'.get? a = some (instK (E 58 + 250) d v) → h'.get? d = some emptyDict → s.heap.get? a = none → s.heap.get? d = none → Q (.ref a) { s with heap := h', toks := tk' }) →
      wpAny (model PG w) (AR dp un gd outer) (call (.ref (E 58 + 250)) [v]) Q Eh s := by
  dsimp only [PG, KK, LL]
  k_fill
  intro dp un gd outer base s Q Eh B X T K hdp hun hret
  refine wpAny_call ?_
  obtain ⟨h, g, d, t, os⟩ := s
  refine make_core (makes_of K.frag (kf_makes K.e)) (looks_findIn K.frag (kf_init K.e)) (fun self => bind_fn K.frag self (kf_fI K.e)) (.inl rfl) ?_
  replace K : KeyIs w.params f h E t0 n1 cl pm := K
  have k1 : ∀ b o, h.get? b = some o → ((h.push emptyDict).push (instObj (E 58 + 250) h.objs.size)).get? b = some o := fun b o e => Heap.get?_push_of_some _ (Heap.get?_push_of_some _ e)
  have hx : ((h.push emptyDict).push (instObj (E 58 + 250) h.objs.size)).get? (h.objs.size + 1) = some (instObj (E 58 + 250) h.objs.size) := by
    have q : (h.push emptyDict).objs.size = h.objs.size + 1 := Heap.size_push ..
    rw [← q]
    exact Heap.get?_push_size _ rfl
  have hd : ((h.push emptyDict).push (instObj (E 58 + 250) h.objs.size)).get? h.objs.size = some emptyDict := Heap.get?_push_of_some _ (Heap.get?_push_size _ rfl)
  have hI : h.get? (E 14 + 250) = some (fnO (.func (fnX (Str.ofString "__init__") qInit ⟨[], [⟨_, none, _⟩, ⟨_, none, _⟩], none, [], [], none, []⟩ (_ :: []) ⟨.function, [(_, .local), (_, .local)], false, false, _⟩ [] .none .none .none pm none (.ref (E 13 + 250)) .none))) := K.frag _ _ (lk4 K.e)
  refine' enterX (g := h) (news := [(h.objs.size + 1, instObj (E 58 + 250) h.objs.size), (h.objs.size, emptyDict)]) k1 ?sz ?hid T.nolimit hI K.cI ?room ?bind ?loc ?_ ?c2 ?c3 ?c4 ?c5
  case sz => rw [Heap.size_push, Heap.size_push]; exact Nat.le_succ_of_le (Nat.le_succ _)
  case hid =>
    intro p hp
    rcases List.mem_cons.mp hp with rfl | hp
    · exact ⟨hx, Heap.get?_none_of_le (Nat.le_succ _)⟩
    · rw [List.mem_singleton.mp hp]; exact ⟨hd, Heap.get?_none_of_le (Nat.le_refl _)⟩
  case room => (walk_at "m_room")
  case bind => exact BindsTo.of_eq rfl
  case loc => exact locs rfl
  case c2 => exact rfl
  case c3 => exact rfl
  case c4 => exact rfl
  case c5 => decide
  intro L' h' F' N' l0'
  k_lt l0'
  (try dsimp only)
  (try k_fold)
  k_steps
  all_goals exact ⟨rfl, hret _ _ _ _ (Fr.keep (by assumption)) (‹News _ _ _ _› _ (.head _)).1 (‹News _ _ _ _› _ (.tail _ (.head _))).1 (Heap.get?_none_of_le (Nat.le_succ _)) (Heap.get?_none_of_le (Nat.le_refl _))⟩
end
end
-- C11
example : True := by
  w_top off
  k_with_none
  k_with "lbt" => ((try dsimp only); (first | assumption | (apply LB.s1; first | assumption | (apply LB.s1; first | assumption | (apply LB.s1; first | assumption | (apply LB.s1; assumption))))))
  k_with "m_room" => (first | exact rm0 hdp | exact rm1 hdp (by decide) | exact rm2 hdp | ((try simp only [depth_under_make, depth_under_kw, depth_in1, depth_deeper, depth_caller] at *); (try dsimp only [AR] at *); omega) | ((simp only [recursionLimit, depth_under_make, depth_under_kw, depth_in1, depth_deeper, depth_caller] at *); (try dsimp only [AR] at *); omega) | decide)
  k_with "m_units" => (first | exact un1 hun (by decide) | exact un2 hun (by decide) | exact un3 hun (by decide) | exact un4 hun | (have hcL9 := cLine_is; (try simp only [units_in1, units_deeper, Around.mark_units, units_caller] at *); (try dsimp only [AR] at *); omega))
  exact trivial
section
set_option maxHeartbeats 8000000
section
variable (w : World) (mean : ExcName → Option Value) (mg mb : Str → Option Value)
section
variable {prog : Program} {w : World} {A : Around} {E : Value → Shared → Prop} {s : Shared} {K : Frag} {x C f : Addr} {ox : Obj} {od : Option Obj} {b : Value} {Q : Bool → Shared → Prop}
theorem klt_inst (hu : A.units < cLine) (X : K.In s.heap) (I : InstAt s.heap x ox C od) (hs : findIn K (.ref C) "__lt__" = some (some (.ref f))) (hf : isFn K (.ref f) = true)
    (h : wpAny (model prog w) A (call (.ref f) [.ref x, b]) (PySem.W.BoolBack Q) E s) : wpAny (model prog w) A (keyLt' oneType' (.ref x) b) Q E s := by
  rw [keyLt'_oneType, oneLt'_eq]
  simp only [if_true]
  refine wpAny_bind (wpAny_cRoomFor hu ?_)
  refine wpAny_bind (ifBound_K X I hs hf (wpAny_mono h (fun v s' hv => ?_) fun _ _ e => e))
  cases v <;> first | exact hv.elim | skip
  exact wpAny_truthy_bool hv
end
theorem inst_at {h : Heap} {a C d : Addr} {v : Value} (h1 : h.get? a = some (instK C d v)) (h2 : h.get? d = some emptyDict) : InstAt h a (instK C d v) C (some emptyDict) := ⟨h1, rfl, rfl, h2⟩
theorem str_handed (x : Str) (t : Tok) : handedIn (.str x t) = true := rfl
example : True := by
  k_with "getAttr ref" => (k_here; k_dflt (refine' get_slot ?Fzq (KeyIs.frag (by with_reducible assumption)) (inst_at (Fr.keep ?F2zq _ _ (by with_reducible assumption)) (Fr.keep ?F3zq _ _ (by with_reducible assumption))) (kf_plainGet (KeyIs.e (by with_reducible assumption))) (kf_isCls (KeyIs.e (by with_reducible assumption))) (kf_obj (KeyIs.e (by with_reducible assumption))) (kf_get (KeyIs.e (by with_reducible assumption))) (kf_takes (KeyIs.e (by with_reducible assumption))) (kf_slot (KeyIs.e (by with_reducible assumption))) rfl (str_handed _ _) ?_; (case Fzq => k_asm); (case F2zq => k_asm); (case F3zq => k_asm)))
  k_with "eval Name" => (k_here; (with_reducible show wpAny _ _ (eval (Expr.Name (Str.ofString "mycmp") _) _) _ _ _); k_dflt (refine' nameX_Q ?Fzq rfl (by with_reducible assumption) ?dzq ?_ ?kzq ?xzq; (case Fzq => k_asm); (case dzq => assumption); (case kzq => rfl); (case xzq => rfl)))
  k_with "call ref" => (k_here; k_dflt ((first | (refine' pure_useLG (p_listed _ _ _ _ _ _ _ _ (by with_reducible assumption) (by with_reducible assumption) (by with_reducible assumption) (by with_reducible assumption) (by with_reducible assumption)) ?k1x573zq ?k2x573zq ?k3x573zq ?k4x573zq ?k5x573zq ?kfx573zq ?kKx573zq ?kpx573zq ?kdx573zq ?kux573zq ?_; (case k1x573zq => k_asm); (case k2x573zq => k_asm); (case k3x573zq => k_asm); (case k4x573zq => k_asm); (case k5x573zq => k_asm); (case kfx573zq => exact rfl); (case kKx573zq => first | exact rfl | assumption); (case kpx573zq => first | trivial | exact News.isList (by k_asm) (by k_mem) | assumption); (case kdx573zq => (walk_at "m_room")); (case kux573zq => (walk_at "m_units")); intro y9 t9 h9 tk9 le9 q9 l9 g9 F9 N9; (try dsimp only at le9); (try (have lb9 := LB.tr (by (walk_at "lbt")) le9)); (try (have gb9 := LB.tr (by (walk_at "lbt")) g9.le)); (try dsimp only); (try k_fold)) | (refine' pure_useL (p_listed _ _ _ _ _ _ _ _ (by with_reducible assumption) (by with_reducible assumption) (by with_reducible assumption) (by with_reducible assumption) (by with_reducible assumption)) ?k1x573zq ?k2x573zq ?k3x573zq ?k4x573zq ?k5x573zq ?kfx573zq ?kKx573zq ?kpx573zq ?kdx573zq ?kux573zq ?_; (case k1x573zq => k_asm); (case k2x573zq => k_asm); (case k3x573zq => k_asm); (case k4x573zq => k_asm); (case k5x573zq => k_asm); (case kfx573zq => exact rfl); (case kKx573zq => first | exact rfl | assumption); (case kpx573zq => first | trivial | exact News.isList (by k_asm) (by k_mem) | assumption); (case kdx573zq => (walk_at "m_room")); (case kux573zq => (walk_at "m_units")); intro y9 t9 h9 tk9 le9 q9 l9 F9 N9; (try dsimp only at le9); (try (have lb9 := LB.tr (by (walk_at "lbt")) le9)); (try dsimp only); (try k_fold)) | (refine' pure_useI (p_listed _ _ _ _ _ _ _ _ (by with_reducible assumption) (by with_reducible assumption) (by with_reducible assumption) (by with_reducible assumption) (by with_reducible assumption)) ?k1x573zq ?k2x573zq ?k3x573zq ?k4x573zq ?k5x573zq ?kfx573zq ?kKx573zq ?kpx573zq ?kdx573zq ?kux573zq ?_; (case k1x573zq => k_asm); (case k2x573zq => k_asm); (case k3x573zq => k_asm); (case k4x573zq => k_asm); (case k5x573zq => k_asm); (case kfx573zq => exact rfl); (case kKx573zq => first | exact rfl | assumption); (case kpx573zq => first | trivial | exact News.isList (by k_asm) (by k_mem) | assumption); (case kdx573zq => (walk_at "m_room")); (case kux573zq => (walk_at "m_units")); intro t9 h9 tk9 le9 F9 N9; (try dsimp only at le9); (try (have lb9 := LB.tr (by (walk_at "lbt")) le9)); (try dsimp only); (try k_fold)) | (refine' pure_useS (p_listed _ _ _ _ _ _ _ _ (by with_reducible assumption) (by with_reducible assumption) (by with_reducible assumption) (by with_reducible assumption) (by with_reducible assumption)) ?k1x573zq ?k2x573zq ?k3x573zq ?k4x573zq ?k5x573zq ?kfx573zq ?kKx573zq ?kpx573zq ?kdx573zq ?kux573zq ?_; (case k1x573zq => k_asm); (case k2x573zq => k_asm); (case k3x573zq => k_asm); (case k4x573zq => k_asm); (case k5x573zq => k_asm); (case kfx573zq => exact rfl); (case kKx573zq => first | exact rfl | assumption); (case kpx573zq => first | trivial | exact News.isList (by k_asm) (by k_mem) | assumption); (case kdx573zq => (walk_at "m_room")); (case kux573zq => (walk_at "m_units")); intro t9 h9 tk9 le9 F9 N9; (try dsimp only at le9); (try (have lb9 := LB.tr (by (walk_at "lbt")) le9)); (try dsimp only); (try k_fold)) | (refine' pure_useB (p_listed _ _ _ _ _ _ _ _ (by with_reducible assumption) (by with_reducible assumption) (by with_reducible assumption) (by with_reducible assumption) (by with_reducible assumption)) ?k1x573zq ?k2x573zq ?k3x573zq ?k4x573zq ?k5x573zq ?kfx573zq ?kKx573zq ?kpx573zq ?kdx573zq ?kux573zq ?_; (case k1x573zq => k_asm); (case k2x573zq => k_asm); (case k3x573zq => k_asm); (case k4x573zq => k_asm); (case k5x573zq => k_asm); (case kfx573zq => exact rfl); (case kKx573zq => first | exact rfl | assumption); (case kpx573zq => first | trivial | exact News.isList (by k_asm) (by k_mem) | assumption); (case kdx573zq => (walk_at "m_room")); (case kux573zq => (walk_at "m_units")); intro h9 tk9 le9 F9 N9; (try dsimp only at le9); (try (have lb9 := LB.tr (by (walk_at "lbt")) le9)); (try dsimp only); (try k_fold)))))
  exact trivial
theorem p_klt (E : Nat → Nat) (t0 n1 cl : Nat) (pm : Value) (a b da db : Addr) (x y : Str) (tx ty : Tok) (hx : x.length < 1000) (hy : y.length < 1000) (hc : (comF x y).length < 1000) (hx' : Txt.startswith x (Str.ofString "/") = true) (hy' : Txt.startswith y (Str.ofString "/") = true) :
    ∀ (dp un : Nat) (gd : Option (List Code)) (outer : List Env) (base : Heap) (s : Shared) (Q : Bool → Shared → Prop) (Eh : Value → Shared → Prop),
    Below (AR dp un gd outer) base outer s.heap → (KK w).In s.heap → Top topProg LL mean mg mb s.heap → KeyIs w.params 220 s.heap E t0 n1 cl pm →
    s.heap.get? a = some (instK (E 58 + 250) da (.str x tx)) → s.heap.get? da = some emptyDict → s.heap.get? b = some (instK (E 58 + 250) db (.str y ty)) → s.heap.get? db = some emptyDict → dp + 8 < 900 → un + 10 * 8 < 9000 →
    (∀ (h' : Heap) (tk' : Nat), (∀ b o, s.heap.get? b = some o → h'.get? b = some o) → Q (decide (listedF x y < 0)) { s with heap := h', toks := tk' }) →
      wpAny (model PG w) (AR dp un gd outer) (keyLt' oneType' (.ref a) (.ref b)) Q Eh s := by
  dsimp only [PG, KK, LL]
  k_fill
  intro dp un gd outer base s Q Eh B X T K ha hda hb hdb hdp hun hret
  refine klt_inst (by have := cLine_is; show un < cLine; omega) K.frag (inst_at ha hda) (kf_lt K.e) (by unfold isFn; rw [kf_fL K.e]; rfl) ?_
  have hI : s.heap.get? (E 22 + 250) = some (fnO (.func (fnX (Str.ofString "__lt__") qLt ⟨[], [⟨_, none, _⟩, ⟨_, none, _⟩], none, [], [], none, []⟩ (_ :: []) ⟨.function, [(_, .local), (_, .local), (_, .free)], false, false, _⟩ [(Str.ofString "mycmp", cl)] .none .none .none pm none (.ref (E 21 + 250)) (.ref (E 15 + 250))))) := K.frag _ _ (lk5 K.e)
  obtain ⟨oc, hoc, hod⟩ := K.cell
  refine wpAny_call ?_
  refine' enterX (g := s.heap) (news := []) (fun _ _ e => e) (Nat.le_refl _) (fun _ hp => nomatch hp) T.nolimit hI K.cL ?room ?bind ?loc ?_ ?c2 ?c3 ?c4 ?c5
  case room => (walk_at "m_room")
  case bind => exact BindsTo.of_eq rfl
  case loc => exact locs rfl
  case c2 => exact rfl
  case c3 => exact rfl
  case c4 => exact rfl
  case c5 => decide
  intro L' h' F' N' _
  (try dsimp only)
  (try k_fold)
  k_steps
  all_goals exact hret _ _ (Fr.keep (by assumption))
end
end
-- SortK
example : True := by
  w_top off
  k_with_none
  exact trivial
section
set_option maxHeartbeats 8000000
section
noncomputable def kasRun {α : Type} (n : Nat) (lt : Nat → Nat → Bool) : PySem.W.KasT α → Option α
  | .ret a => some a
  | .ask i j k => if i < n ∧ j < n then kasRun n lt (k (lt i j)) else none
theorem kas_run {α : Type} {n : Nat} {lt : Nat → Nat → Bool} {cmp : Nat → Nat → (Bool → Shared → Prop) → Shared → Prop} {Q : α → Shared → Prop} {a : α} (Inv : Shared → Prop)
    (hc : ∀ i j s (C : Bool → Shared → Prop), i < n → j < n → Inv s → (∀ s', Inv s' → C (lt i j) s') → cmp i j C s) :
    ∀ (t : PySem.W.KasT α) s, Inv s → kasRun n lt t = some a → (∀ s', Inv s' → Q a s') → t.kasWp cmp Q s := by
  intro t
  induction t with
  | ret b => intro s hs h hq; cases h; exact hq s hs
  | ask i j k ih =>
    intro s hs h hq
    unfold kasRun at h
    split at h
    · rename_i hij
      exact hc i j s _ hij.1 hij.2 hs fun s' hs' => ih _ s' hs' h hq
    · cases h
section
variable {prog : Program} {w : World} {A : Around} {E : Value → Shared → Prop} {s : Shared} {h₀ : Heap} {L : Addr} {m : Str → Option Value} {news : List (Addr × Obj)} {a kS : Addr} {vs : List Value} {e1 : Nat} {P : PySem.Fin → Shared → Prop}
noncomputable abbrev withTwo (own news : List (Addr × Obj)) (kS a : Addr) (ks : Array Value) (e e1 : Nat) : List (Addr × Obj) := own ++ (news ++ [(kS, seqObj "list" ks e), (a, seqObj "list" #[] e1)])
variable (KV : List (Addr × Obj) → Value → Value → Prop) (mono : ∀ own own' k v, (∀ p ∈ own, p ∈ own') → KV own k v → KV own' k v)
noncomputable def KeysOf (KV : List (Addr × Obj) → Value → Value → Prop) (own : List (Addr × Obj)) (ks vs : List Value) : Prop := ks.length = vs.length ∧ ∀ (i : Nat) k v, ks[i]? = some k → vs[i]? = some v → KV own k v
theorem KeysOf.snoc {KV : List (Addr × Obj) → Value → Value → Prop} (mono : ∀ own own' k v, (∀ p ∈ own, p ∈ own') → KV own k v → KV own' k v) {own own' : List (Addr × Obj)} {ks vs : List Value} {k v : Value} (h : KeysOf KV own ks vs) (ho : ∀ p ∈ own, p ∈ own') (hk : KV own' k v) : KeysOf KV own' (ks ++ [k]) (vs ++ [v]) := by
  refine ⟨by simp [h.1], fun i k' v' e1 e2 => ?_⟩
  rcases Nat.lt_trichotomy i ks.length with hl | hl | hl
  · rw [List.getElem?_append_left hl] at e1
    rw [List.getElem?_append_left (h.1 ▸ hl)] at e2
    exact mono _ _ _ _ ho (h.2 i k' v' e1 e2)
  · subst hl
    simp at e1
    rw [h.1] at e2
    simp at e2
    subst e1 e2
    exact hk
  · rw [List.getElem?_append_right (Nat.le_of_lt hl), List.getElem?_eq_none (by simp; omega)] at e1; cases e1
include mono in
theorem sortK_rest {f T : Value} {lt : Nat → Nat → Bool} {p : Array Nat} (F : Fr h₀ L s.heap m) (N : News h₀ L s.heap (withTwo [] news kS a #[] 0 e1)) (hka : kS ≠ a) (hnk : ∀ q ∈ news, q.1 ≠ kS) (hna : ∀ q ∈ news, q.1 ≠ a)
    (h2 : 2 ≤ vs.length) (h64 : vs.length < 64)
    (turn : ∀ v ∈ vs, ∀ (h : Heap) (tk : Nat) (led : List (Addr × Obj)) (Q : Value → Shared → Prop), Fr h₀ L h m → News h₀ L h led → (∀ q ∈ news, q ∈ led) →
      (∀ k h' tk' o2, Fr h₀ L h' m → News h₀ L h' (o2 ++ led) → (∀ q ∈ o2, ∀ q' ∈ led, q.1 ≠ q'.1) → KV o2 k v → Q k { s with heap := h', toks := tk' }) → wpAny (model prog w) A (call f [v]) Q (fun _ _ => False) { s with heap := h, toks := tk })
    (hT : ∀ own h k v, News h₀ L h own → KV own k v → Looks (model prog w) h (typeOf k) T) (hT1 : (T != Value.type "tuple") = true) (hT2 : (T == T) = true)
    (cmp : ∀ own ks, KeysOf KV own ks vs → ∀ i j (h : Heap) (tk : Nat) (led : List (Addr × Obj)) (C : Bool → Shared → Prop), i < vs.length → j < vs.length → Fr h₀ L h m → News h₀ L h led → (∀ q ∈ own, q ∈ led) → (∀ q ∈ news, q ∈ led) →
      (∀ h' tk', Fr h₀ L h' m → News h₀ L h' led → C (lt i j) { s with heap := h', toks := tk' }) → wpAny (model prog w) A (keyLt' oneType' (ks.getD i .none) (ks.getD j .none)) C (fun _ _ => False) { s with heap := h, toks := tk })
    (run : kasRun vs.length lt (kas_sort vs.length) = some p) (psz : p.size = vs.length) (plt : ∀ i ∈ p.toList, i < vs.length)
    (h : ∀ h' tk c, Fr h₀ L h' m → News h₀ L h' ((a, seqObj "list" (p.toList.map fun i => vs.getD i .none).toArray c) :: news) → P (.done (.ret .none)) { s with heap := h', toks := tk }) :
    wpAny (model prog w) A (ksk_rest a f false vs.toArray e1 (.ref kS)) P E s := by
  unfold ksk_rest
  refine wpAny_bind (wpAny_rule ?_)
  rw [List.forIn_toArray]
  refine wpAny_bind (ksk_fold (fun i s' => ∃ h' tk kA e own, s' = { s with heap := h', toks := tk } ∧ Fr h₀ L h' m ∧ News h₀ L h' (withTwo own news kS a kA e e1) ∧ (∀ q ∈ own, q.1 ≠ kS ∧ q.1 ≠ a) ∧ KeysOf KV own kA.toList (vs.take i)) vs 0 s
    ⟨s.heap, s.toks, #[], 0, [], rfl, F, N, (fun _ hq => (nomatch hq)), ⟨by simp, fun i k v e _ => by simp at e⟩⟩ ?step ?done)
  case step =>
    rintro j x s' hx ⟨h', tk, kA, e, own, rfl, F', N', ho, hk⟩
    simp only [Nat.zero_add] at hk ⊢
    have hj : j < vs.length := (List.getElem?_eq_some_iff.mp hx).1
    have hz : kA.size ≤ vs.length := by
      have h1 := hk.1
      rw [Array.length_toList, List.length_take] at h1
      omega
    refine wpAny_bind (wpAny_attempt (wpAny_mono (turn x (List.mem_of_getElem? hx) h' tk _ _ F' N' (fun q hq => List.mem_append_right _ (List.mem_append_left _ hq)) fun k g tk2 o2 F2 N2 hd hv => ?_) (fun _ _ z => z) fun _ _ hF => hF.elim))
    try dsimp only
    have mk : (kS, seqObj "list" kA e) ∈ withTwo own news kS a kA e e1 := List.mem_append_right _ (List.mem_append_right _ (.head _))
    have ma : (a, seqObj "list" #[] e1) ∈ withTwo own news kS a kA e e1 := List.mem_append_right _ (List.mem_append_right _ (.tail _ (.head _)))
    have nk := N2 (kS, seqObj "list" kA e) (List.mem_append_right _ mk)
    have na := N2 (a, seqObj "list" #[] e1) (List.mem_append_right _ ma)
    have s1 := Heap.SameBut.update g kS (Obj.mapSeq (·.push k))
    obtain ⟨c2, hc2⟩ : ∃ c2, (g.update kS (Obj.mapSeq (·.push k))).get? kS = some (seqObj "list" (kA.push k) c2) := ⟨_, get?_update_seq nk.1 (·.push k)⟩
    have ek : vs.take (j + 1) = vs.take j ++ [x] := by rw [List.take_add_one, hx]; simp
    have ea : (kA.push k).toList = kA.toList ++ [k] := by simp
    have o2k : ∀ q ∈ o2, q.1 ≠ kS ∧ q.1 ≠ a := fun q hq => ⟨hd q hq _ mk, hd q hq _ ma⟩
    refine wpAny_bind (listUpdate_at nk.1 rfl ?_ (by rw [sizeLine_eq]; omega) (Nat.le_trans (Nat.le_of_eq (Array.size_push ..)) (by rw [sizeLine_eq]; omega)))
    refine wpAny_pure ⟨rfl, _, _, kA.push k, c2, o2 ++ own, rfl, ksk_fr F2 s1 nk.2.1 nk.2.2, fun q hq => ?_, fun q hq => ?_, by rw [ea, ek]; exact KeysOf.snoc mono hk (fun q hq => List.mem_append_right _ hq) (mono _ _ _ _ (fun q hq => List.mem_append_left _ hq) hv)⟩
    · rcases List.mem_append.mp hq with hq | hq
      · have hne : q.1 ≠ kS := by
          rcases List.mem_append.mp hq with hq | hq
          · exact (o2k q hq).1
          · exact (ho q hq).1
        have hm : q ∈ o2 ++ withTwo own news kS a kA e e1 := by
          rcases List.mem_append.mp hq with hq | hq
          · exact List.mem_append_left _ hq
          · exact List.mem_append_right _ (List.mem_append_left _ hq)
        exact ⟨(s1.2 _ hne).trans (N2 q hm).1, (N2 q hm).2⟩
      · rcases List.mem_append.mp hq with hq | hq
        · have hm : q ∈ o2 ++ withTwo own news kS a kA e e1 := List.mem_append_right _ (List.mem_append_right _ (List.mem_append_left _ hq))
          exact ⟨(s1.2 _ (hnk q hq)).trans (N2 q hm).1, (N2 q hm).2⟩
        · rcases List.mem_cons.mp hq with rfl | hq
          · exact ⟨hc2, nk.2⟩
          · rw [List.mem_singleton.mp hq]
            exact ⟨(s1.2 a hka.symm).trans na.1, na.2⟩
    · rcases List.mem_append.mp hq with hq | hq
      · exact o2k q hq
      · exact ho q hq
  case done =>
    rintro s' ⟨h', tk, kA, e, own, rfl, F', N', ho, hk⟩
    rw [List.take_of_length_le (by omega)] at hk
    have mk : (kS, seqObj "list" kA e) ∈ withTwo own news kS a kA e e1 := List.mem_append_right _ (List.mem_append_right _ (.head _))
    have nk := N' _ mk
    have hsz : kA.size = vs.length := by have := hk.1; rwa [Array.length_toList] at this
    try dsimp only
    refine wpAny_bind (listItems_at nk.1 rfl ?_)
    unfold ksk_end
    try dsimp only
    simp only [Bool.false_eq_true, if_false]
    have hn2 : ¬ vs.toArray.size < 2 := by rw [List.size_toArray]; omega
    rw [if_neg hn2, if_neg hn2]
    have eA : kA = kA.toList.toArray := by simp
    refine wpAny_bind ?_
    rw [eA]
    refine kas_kind (by rw [hk.1]; exact h2) (fun k hkm => ?_) hT1 hT2 ?_
    · obtain ⟨i, hi⟩ := List.mem_iff_getElem?.mp hkm
      have hil : i < vs.length := by rw [← hk.1]; exact (List.getElem?_eq_some_iff.mp hi).1
      exact hT own h' k _ (fun q hq => N' q (List.mem_append_left _ hq)) (hk.2 i k _ hi (List.getElem?_eq_getElem hil))
    rw [← eA]
    have hzs : (kA.zip vs.toArray).size = vs.length := by rw [Array.size_zip, hsz, List.size_toArray, Nat.min_self]
    have est : SortSt.mk' oneType' (kA.zip vs.toArray) #[] 7 none = kas_st oneType' (kA.zip vs.toArray) (List.toArray (List.range vs.length)) := by
      have q := kas_range (kA.zip vs.toArray)
      rw [hzs] at q
      show SortSt.mk' oneType' (kA.zip vs.toArray) #[] 7 none = SortSt.mk' oneType' ((List.toArray (List.range vs.length)).map (kas_item (kA.zip vs.toArray))) #[] 7 none
      rw [q]
    have item : ∀ i, i < vs.length → kas_item (kA.zip vs.toArray) i = (kA.toList.getD i .none, vs.getD i .none) := fun i hi => by
      unfold kas_item
      have hi' : i < (kA.zip vs.toArray).size := by rw [hzs]; exact hi
      have hi2 : i < kA.size := by rw [hsz]; exact hi
      have q1 : (kA.zip vs.toArray).getD i (Value.none, Value.none) = (kA.zip vs.toArray)[i] := by unfold Array.getD; rw [dif_pos hi']; rfl
      have q2 : (kA.zip vs.toArray)[i] = (kA[i], vs[i]) := by simp
      rw [q1, q2]
      simp [List.getD_eq_getElem?_getD, hi2, hi]
    have ask : (kas_sort vs.length).kasWp (kas_cmp prog w A oneType' (kA.zip vs.toArray)) (fun p' s'' => p' = p ∧ ∃ h2 tk2, s'' = { s with heap := h2, toks := tk2 } ∧ Fr h₀ L h2 m ∧ News h₀ L h2 (withTwo own news kS a kA e e1)) { s with heap := h', toks := tk } := by
      refine kas_run (n := vs.length) (lt := lt) (a := p) (fun s'' => ∃ h2 tk2, s'' = { s with heap := h2, toks := tk2 } ∧ Fr h₀ L h2 m ∧ News h₀ L h2 (withTwo own news kS a kA e e1)) ?_ _ _ ⟨_, _, rfl, F', N'⟩ run fun s'' hs => ⟨rfl, hs⟩
      rintro i j s'' C hi hj ⟨h2, tk2, rfl, F2, N2⟩ hC
      unfold kas_cmp
      rw [item i hi, item j hj]
      exact cmp own kA.toList hk i j h2 tk2 _ C hi hj F2 N2 (fun q hq => List.mem_append_left _ hq) (fun q hq => List.mem_append_right _ (List.mem_append_left _ hq)) fun h3 tk3 F3 N3 => hC _ ⟨_, _, rfl, F3, N3⟩
    have runs := kas_runs (E := E) (Q := fun _ st' s' => (arrOf st' = p.map (kas_item (kA.zip vs.toArray)) ∧ failedOf st' = none) ∧ ∃ h2 tk2, s' = { s with heap := h2, toks := tk2 } ∧ Fr h₀ L h2 m ∧ News h₀ L h2 (withTwo own news kS a kA e e1))
      h2 h64 (fun p' st' s' a1 a2 a3 a4 => by obtain ⟨rfl, a5⟩ := a4; exact ⟨⟨a2, a3⟩, a5⟩) ask
    rw [← est] at runs
    refine wpAny_bind (wpAny_mono runs ?_ fun _ _ e => e)
    rintro ⟨⟨⟩, st'⟩ s' ⟨⟨har, hf⟩, h2', tk2, rfl, F2, N2⟩
    try dsimp only
    have nk2 := N2 _ mk
    have ma : (a, seqObj "list" #[] e1) ∈ withTwo own news kS a kA e e1 := List.mem_append_right _ (List.mem_append_right _ (.tail _ (.head _)))
    have na2 := N2 _ ma
    have hout : (arrOf st').map (·.2) = (p.toList.map fun i => vs.getD i .none).toArray := by
      apply Array.toList_inj.mp
      rw [har, Array.map_map, Array.toList_map]
      exact List.map_congr_left fun i hi => by show (kas_item (kA.zip vs.toArray) i).2 = _; rw [item i (plt i hi)]
    have s1 := Heap.SameBut.update h2' kS (Obj.mapSeq fun _ => (#[] : Array Value))
    have na3 : (h2'.update kS (Obj.mapSeq fun _ => (#[] : Array Value))).get? a = some (seqObj "list" #[] e1) := (s1.2 a hka.symm).trans na2.1
    have s2 := Heap.SameBut.update (h2'.update kS (Obj.mapSeq fun _ => (#[] : Array Value))) a (Obj.mapSeq fun _ => (p.toList.map fun i => vs.getD i .none).toArray)
    obtain ⟨c2, hc2⟩ : ∃ c2, ((h2'.update kS (Obj.mapSeq fun _ => (#[] : Array Value))).update a (Obj.mapSeq fun _ => (p.toList.map fun i => vs.getD i .none).toArray)).get? a = some (seqObj "list" (p.toList.map fun i => vs.getD i .none).toArray c2) :=
      ⟨_, get?_update_seq na3 fun _ => (p.toList.map fun i => vs.getD i .none).toArray⟩
    unfold ksk_tail
    rw [hout]
    refine wpAny_bind (listUpdate_at nk2.1 rfl ?_ (by rw [hsz, sizeLine_eq]; omega) (Nat.zero_le _))
    refine wpAny_bind (wpAny_letGo ?_)
    refine wpAny_bind (seqEpoch_at na3 rfl ?_)
    refine wpAny_bind (listUpdate_at na3 rfl ?_ (Nat.zero_le _) (by show ((p.toList.map fun i => vs.getD i .none).toArray).size ≤ _; rw [List.size_toArray, List.length_map, Array.length_toList, psz, sizeLine_eq]; omega))
    rw [hf]
    simp only [bne_self_eq_false, Bool.false_eq_true, if_false]
    refine wpAny_pure (h _ _ c2 (ksk_fr (ksk_fr F2 s1 nk2.2.1 nk2.2.2) s2 na2.2.1 na2.2.2) fun q hq => ?_)
    rcases List.mem_cons.mp hq with rfl | hq
    · exact ⟨hc2, na2.2⟩
    · have hm : q ∈ withTwo own news kS a kA e e1 := List.mem_append_right _ (List.mem_append_left _ hq)
      exact ⟨(s2.2 _ (hna q hq)).trans ((s1.2 _ (hnk q hq)).trans (N2 q hm).1), (N2 q hm).2⟩
include mono in
theorem sortK {q l : Addr} {T : Value} {lt : Nat → Nat → Bool} {p : Array Nat} {Q : Value → Shared → Prop} (F : Fr h₀ L s.heap m) (N : News h₀ L s.heap news) (hl : s.heap.IsList l vs.toArray) (h2 : 2 ≤ vs.length) (h64 : vs.length < 64)
    (turn : ∀ v ∈ vs, ∀ (h : Heap) (tk : Nat) (led : List (Addr × Obj)) (Q : Value → Shared → Prop), Fr h₀ L h m → News h₀ L h led → (∀ q ∈ news, q ∈ led) →
      (∀ k h' tk' o2, Fr h₀ L h' m → News h₀ L h' (o2 ++ led) → (∀ q ∈ o2, ∀ q' ∈ led, q.1 ≠ q'.1) → KV o2 k v → Q k { s with heap := h', toks := tk' }) → wpAny (model prog w) A.in1.in1 (call (.ref q) [v]) Q (fun _ _ => False) { s with heap := h, toks := tk })
    (hT : ∀ own h k v, News h₀ L h own → KV own k v → Looks (model prog w) h (typeOf k) T) (hT1 : (T != Value.type "tuple") = true) (hT2 : (T == T) = true)
    (cmp : ∀ own ks, KeysOf KV own ks vs → ∀ i j (h : Heap) (tk : Nat) (led : List (Addr × Obj)) (C : Bool → Shared → Prop), i < vs.length → j < vs.length → Fr h₀ L h m → News h₀ L h led → (∀ q ∈ own, q ∈ led) → (∀ q ∈ news, q ∈ led) →
      (∀ h' tk', Fr h₀ L h' m → News h₀ L h' led → C (lt i j) { s with heap := h', toks := tk' }) → wpAny (model prog w) A.in1.in1 (keyLt' oneType' (ks.getD i .none) (ks.getD j .none)) C (fun _ _ => False) { s with heap := h, toks := tk })
    (run : kasRun vs.length lt (kas_sort vs.length) = some p) (psz : p.size = vs.length) (plt : ∀ i ∈ p.toList, i < vs.length)
    (h : ∀ D h' tk c, Fr h₀ L h' m → News h₀ L h' ((D, seqObj "list" (p.toList.map fun i => vs.getD i .none).toArray c) :: news) → (∀ q ∈ news, q.1 < D) → Q (.ref D) { s with heap := h', toks := tk }) :
    wpAny (model prog w) A (call (.builtin "sorted") [.ref l] [(Str.ofString "key", .ref q)]) Q E s := by
  refine call_function_entry_kw kind_sorted plain_sorted entry_sorted (ksk_s1 _ _) ?_
  unfold Builtin.«sorted»
  refine wpAny_bind (m := checkCount "sorted" 1 1 _) (wpAny_pure ?_)
  refine wpAny_bind (collect_list hl ?_ (by rw [sizeLine_eq]; omega))
  refine wpAny_bind (wpAny_newList ?_ (by rw [sizeLine_eq]; omega))
  generalize hg1 : (s.heap.push (seqObj "list" #[] 0)).update s.heap.objs.size (Obj.mapSeq (· ++ vs.toArray)) = g1
  have hsz : g1.objs.size = s.heap.objs.size + 1 := by rw [← hg1, Heap.size_update, Heap.size_push]
  have k1 : ∀ b o, s.heap.get? b = some o → g1.get? b = some o := fun b o e => by
    rw [← hg1]
    exact ((Heap.SameBut.update ..).2 b (Nat.ne_of_lt (Heap.lt_size e))).trans (Heap.get?_push_of_some _ e)
  have hoa : (g1.push (seqObj "list" vs.toArray 0)).get? g1.objs.size = some (seqObj "list" vs.toArray 0) := Heap.get?_push_size _ rfl
  have keep : ∀ b o, s.heap.get? b = some o → (g1.push (seqObj "list" vs.toArray 0)).get? b = some o := fun b o e => Heap.get?_push_of_some _ (k1 b o e)
  have hL : @LT.lt Nat _ L s.heap.objs.size := F.ns.lt
  show wpAny _ _ _ _ _ { s with heap := g1.push (seqObj "list" vs.toArray 0) }
  have F0 : Fr h₀ L (g1.push (seqObj "list" vs.toArray 0)) m := F.kept keep
  have N0 : News h₀ L (g1.push (seqObj "list" vs.toArray 0)) news := N.grown keep
  have aL : @Ne Nat g1.objs.size L := by rw [hsz]; omega
  have a0 : h₀.get? g1.objs.size = none := Heap.get?_none_of_le (Nat.le_trans F.above (by rw [hsz]; exact Nat.le_succ_of_le (Nat.le_of_lt hL)))
  have an : ∀ r ∈ news, r.1 < g1.objs.size := fun r hr => by rw [hsz]; exact Nat.lt_succ_of_lt (Heap.lt_size (N r hr).1)
  refine wpAny_bind (wpAny_holding (wpAny_call_entry_kw slot_list_sort ⟨_, hoa, rfl⟩ entry_list_sort ?body (ksk_l1 _ _)))
  case body =>
    generalize hz : g1.objs.size = a at hoa aL a0 an
    generalize hg2 : g1.push (seqObj "list" vs.toArray 0) = g2 at hoa F0 N0
    show wpAny (model prog w) A.in1.in1 (Builtin.«list.sort» ⟨[.ref a], [(Str.ofString "key", .ref q)]⟩) _ _ _
    rw [ksk_t1]
    have s1 := Heap.SameBut.update g2 a (Obj.mapSeq fun _ => (#[] : Array Value))
    obtain ⟨e1, ho1⟩ : ∃ e1, (g2.update a (Obj.mapSeq fun _ => (#[] : Array Value))).get? a = some (seqObj "list" #[] e1) := ⟨_, get?_update_seq hoa fun _ => #[]⟩
    have F1 := ksk_fr F0 s1 aL a0
    have N1 := ksk_news N0 s1 fun r hr => Nat.ne_of_lt (an r hr)
    unfold ksk_tree
    refine wpAny_bind (listItems_at hoa rfl ?_)
    refine wpAny_bind (listUpdate_at hoa rfl ?_ (by rw [List.size_toArray, sizeLine_eq]; omega) (Nat.zero_le _))
    refine wpAny_bind (seqEpoch_at ho1 rfl ?_)
    refine wpAny_bind (wpAny_newTuple ?_ (by show vs.length ≤ _; rw [sizeLine_eq]; omega))
    refine wpAny_bind (wpAny_newList ?_ (Nat.zero_le _))
    refine wpAny_holding ?_
    generalize hg3 : g2.update a (Obj.mapSeq fun _ => (#[] : Array Value)) = g3 at s1 ho1 F1 N1
    have hal : @LT.lt Nat _ a g3.objs.size := Heap.lt_size ho1
    have hk : (g3.push (seqObj "tuple" vs.toArray 0)).objs.size = g3.objs.size + 1 := Heap.size_push ..
    refine sortK_rest KV mono (s := { s with heap := (g3.push (seqObj "tuple" vs.toArray 0)).push (seqObj "list" #[] 0) }) (kS := (g3.push (seqObj "tuple" vs.toArray 0)).objs.size) (a := a) (e1 := e1) (p := p) (lt := lt) (T := T) (news := news)
      ((F1.push _).push _) (fun r hr => ?_) (by rw [hk]; exact Nat.ne_of_gt (Nat.lt_succ_of_lt hal)) (fun r hr => ?_) (fun r hr => Nat.ne_of_lt (an r hr)) h2 h64 turn hT hT1 hT2 cmp run psz plt (fun h' tk c F' N' => ⟨_, rfl, wpAny_pure ⟨_, rfl, h _ h' tk c F' N' an⟩⟩)
    · rcases List.mem_append.mp hr with hr | hr
      · cases hr
      rcases List.mem_append.mp hr with hr | hr
      · exact ⟨Heap.get?_push_of_some _ (Heap.get?_push_of_some _ (N1 r hr).1), (N1 r hr).2⟩
      · rcases List.mem_cons.mp hr with rfl | hr
        · have hLk : @LT.lt Nat _ L (g3.push (seqObj "tuple" vs.toArray 0)).objs.size := (F1.push _).ns.lt
          exact ⟨Heap.get?_push_size _ rfl, Nat.ne_of_gt hLk, Heap.get?_none_of_le (Nat.le_trans F.above (Nat.le_of_lt hLk))⟩
        · rw [List.mem_singleton.mp hr]
          exact ⟨Heap.get?_push_of_some _ (Heap.get?_push_of_some _ ho1), aL, a0⟩
    · rw [hk]
      exact Nat.ne_of_lt (Nat.lt_trans (an r hr) (Nat.lt_succ_of_lt hal))
end
end
end
-- T10
example : True := by
  w_top off
  k_with_none
  k_with "end_one" => (dsimp only [TurnT]; k_dflt (refine EndT.one (by assumption) (by assumption) (by first | exact off_of (by assumption) | exact (fun _ hp => nomatch hp)) (by k_subL) (by k_subL) (by k_subL) (by with_unfolding_all rfl) (by (intro z h1 h2; (try simp only [List.mem_cons, List.not_mem_nil, or_false, forall_eq_or_imp, forall_eq] at h2); first | rfl | (simp [h1, h2, ovr]; done) | (simp_all [ovr]; done))) ?_))
  k_with "lb_all" => ((repeat (with_reducible rename LB _ _ => lbx; cases lbx)); (try dsimp only at *))
  k_with "lbt" => ((try dsimp only); (first | assumption | (apply LB.s1; first | assumption | (apply LB.s1; first | assumption | (apply LB.s1; first | assumption | (apply LB.s1; assumption))))))
  k_with "m_clean" => ((repeat (first | (rename News _ _ _ _ => zq9; clear zq9) | (rename Fr _ _ _ _ => zq9; clear zq9))); (try skip))
  k_with "m_enter" => (refine' enterP (g := _) (news := []) (fun _ _ e => e) (Nat.le_refl _) (fun _ hp => nomatch hp) ?k3zq ?k5zq ?k6zq ?k7zq ?k8zq ?k9zq ?kBzq ?_ ?c2zq ?c3zq ?c4zq ?c5zq; (case k3zq => k_asm); (case k5zq => k_asm); (case k6zq => k_is); (case k7zq => k_is); (case k8zq => (walk_at "m_room")); (case k9zq => exact BindsTo.of_eq rfl); (case c5zq => decide); (case kBzq => exact locs rfl); (case c2zq => exact rfl); (case c3zq => exact rfl); (case c4zq => exact rfl); k_whole; intro L' h' F' N' _ Qt' Et' hq' hE'; (try dsimp only); (try k_fold))
  k_with "m_room" => (first | exact rm0 hdp | exact rm1 hdp (by decide) | exact rm2 hdp | ((try simp only [depth_under_make, depth_under_kw, depth_in1, depth_deeper, depth_caller] at *); (try dsimp only [AR] at *); omega) | ((simp only [recursionLimit, depth_under_make, depth_under_kw, depth_in1, depth_deeper, depth_caller] at *); (try dsimp only [AR] at *); omega) | decide)
  k_with "m_units" => (first | exact un1 hun (by decide) | exact un2 hun (by decide) | exact un3 hun (by decide) | exact un4 hun | (have hcL9 := cLine_is; (try simp only [units_in1, units_deeper, Around.mark_units, units_caller] at *); (try dsimp only [AR] at *); omega))
  k_with "p_open" => (dsimp only [Pure, PG, KK, LL]; k_fill; intro dp un gd outer base s Q E B X T hpre hdp hun hret; refine wpAny_call ?_)
  exact trivial
section
set_option maxHeartbeats 8000000
section
variable (w : World) (mean : ExcName → Option Value) (mg mb : Str → Option Value)
example : True := by
  k_with "Post" => (k_here; (rename Then _ _ => hq'); refine hq' _ _ ?_; clear hq')
  k_with "execs cons" => (k_here; k_dflt (refine execs_Q (by k_asm) rfl (by (walk_at "lbt")) ?_; intro tk' lc' lb' Qt' hq'; (try dsimp only at lc')))
  k_with "execs nil" => (k_here; k_dflt (refine wpAny_execs_nil ?_); (try dsimp only))
  k_with "exec If" => (k_here; k_dflt (refine if_T (by (walk_at "lbt")) ?_))
  k_with "call type:range" => (k_here; (with_reducible show wpAny _ _ (call (Value.type "range") [Value.int _ _]) _ _ _); k_dflt (refine' range_T ?nzq ?Fzq ?Nzq ?_; (case nzq => (walk_at "lbt")); (case Fzq => k_asm); (case Nzq => k_asm)); intro r' h' tk' t1' v1' lc' lb' rgX' F' N'; (try dsimp only at lc'))
  k_with "exec For Name Call cons nil" => (k_here; (rename Fr _ _ _ _ => lF'); (with_unfolding_all refine' For_TF lF' ?_; k_whole))
  k_with "pyIter ref" => (k_here; (with_reducible show wpAny _ _ (pyIter (Value.ref _)) (fun it s₂ => LoopT _ _ _ _ _ _ _ _ _ _ it s₂) _ _); (rename IsRange _ _ _ _ _ _ _ _ => rgX); k_dflt (refine' rangeTL0 (D := [Str.ofString "k", Str.ofString "place", Str.ofString "step"]) (n := 6) (by assumption) ?hhzq rgX ?smzq ?szzq ?Fzq ?Nzq ?Mzq ?h0zq ?turnzq ?finzq; (case hhzq => exact rfl); (case smzq => decide); (case szzq => exact rfl); (case Fzq => k_asm); (case Nzq => k_asm); (case Mzq => k_mem); (case h0zq => exact MadeR.zero (by (walk_at "lbt")) (by assumption) (by (show (_ : Nat) < _); (walk_at "lb_all"); omega) (by (walk_at "lbt"))); (case' turnzq => (intro i' t' pl' nn' tk0' tk1' h' u' I' o' hi' hR' hle' ho' hd' F' N'; (have mk2' := MadeR.mk2 hR'); obtain ⟨x', tx', gl', ex', po'⟩ := MadeR.last hR' hi'; (have sh' := MadeR.short hR' hi'); (have is' := hR'.is); (have T1' := TokInv.le hR'.tok hle'); (have lbn' := LB.tr hR'.lb hle'); (have hd2' := ltN hd'); (have lbs' := LB.refl tk1'))); (case' finzq => (intro h' tk0' tk' pl' nn' u' F' N' hR' hle'; (have sh' := MadeR.short6 hR'); (have T1' := TokInv.le hR'.tok hle'); (have is' := hR'.is); (have lbs' := LB.refl tk')))))
  k_with "pyIter ref" => (k_here; (with_reducible show wpAny _ _ (pyIter (Value.ref _)) (fun it s₂ => LoopT _ _ _ _ _ _ _ _ _ _ it s₂) _ _); (rename IsRange _ _ _ _ _ _ _ _ => rgX); k_dflt (refine' rangeT1 (R := UpR _ _ _ _) (y := Str.ofString "place") (D := [Str.ofString "step"]) (by with_reducible assumption) ?hhzq rgX ?smzq ?szzq ?Fzq ?Nzq ?hjzq ?turn2zq ?fin2zq; (case hhzq => exact rfl); (case smzq => exact small_one (by decide) (by decide) (by omega) (by omega)); (case szzq => exact rangeSize_k _); (case Fzq => k_asm); (case Nzq => k_asm); (case hjzq => exact ⟨_, rfl, MadeR.up1 (by with_reducible assumption) (by with_reducible assumption) (by (walk_at "lbt")) (by with_reducible assumption) (by with_reducible assumption)⟩); (case' turn2zq => (intro i' t' c' tk0' tk1' h' u' I' o' hi' hR' hle' ho' l1 F' N'; obtain ⟨lb', T', x', tx', e', ex', po'⟩ := hR'; subst e'; obtain ⟨c1', d1', x2', He'⟩ := here_of (by with_reducible assumption) (by with_reducible assumption) po'; (have T1' := TokInv.le T' hle'); (have lbn' := LB.tr lb' hle'); (have gl' := He'.good.len); (have ge1' := He'.e1); (have gl1' := He'.l1); (have ged' := He'.ed); (have gld' := He'.ld); (have goc' := He'.occ); (have ge2' := He'.e2); (have hall' := tok_all T1' po'); (have hin' := in_all po'); (have lbs' := LB.refl tk1'); (have l1r := l1); (try k_lt l1))); (case' fin2zq => (intro h' tk0' tk' c' u' F' N' hR' hle'; obtain ⟨lb', T', x', tx', e', ex', po'⟩ := hR'; subst e'; obtain ⟨c1', d1', x2', He'⟩ := here_of (by with_reducible assumption) (by with_reducible assumption) po'; (have T1' := TokInv.le T' hle'); (have lbn' := LB.tr lb' hle'); (have gl' := He'.good.len); (have gp' := He'.good.pos); (have lbs' := LB.refl tk')))))
  k_with "subscriptTail" => (k_here; (with_reducible show wpAny _ _ (subscriptTail (Expr.Name (Str.ofString "numbers") _) _ (Value.ref _) (Value.int _ _)) _ _ _); k_dflt (refine' item_num ?lzq ?Fzq (by with_reducible assumption) ?kzq ?jzq ?_ ?szq; (case lzq => with_reducible assumption); (case Fzq => k_asm); (case kzq => first | exact Int.zero_add _ | exact (idx_fact (by with_reducible assumption) (by with_reducible assumption) (by with_reducible assumption) (by with_reducible assumption)).1); (case jzq => first | assumption | exact (idx_fact (by with_reducible assumption) (by with_reducible assumption) (by with_reducible assumption) (by with_reducible assumption)).2); (case szq => with_unfolding_all rfl)); intro t')
  k_with "subscriptTail" => (k_here; (with_reducible show wpAny _ _ (subscriptTail (Expr.Name (Str.ofString "names") _) _ (Value.ref _) (Value.int _ _)) _ _ _); k_dflt (refine' item_name ?lzq ?Fzq (by with_reducible assumption) ?kzq ?jzq ?_ ?szq; (case lzq => with_reducible assumption); (case Fzq => k_asm); (case kzq => exact Int.zero_add _); (case jzq => assumption); (case szq => with_unfolding_all rfl)); intro y' ty' ny'; (have ny1' := ny'.pos); (have ny2' := ny'.len); (have ny3' := ny'.st); obtain ⟨j', ej'⟩ := join_name (by with_reducible assumption) ny')
  k_with "subscriptTail" => (k_here; (with_reducible show wpAny _ _ (subscriptTail (Expr.Name (Str.ofString "places") _) _ (Value.ref _) (Value.int _ _)) _ _ _); k_dflt (refine' last_own ?Nzq ?Mzq ?xzq ?_ ?szq; (case Nzq => k_asm); (case Mzq => k_mem); (case xzq => assumption); (case szq => with_unfolding_all rfl)))
  k_with "subscriptTail Name Slice ref ref" => (k_here; (with_reducible show wpAny _ _ (subscriptTail _ (PySem.Expr.Slice _ _ none _) (Value.ref _) (Value.ref _)) _ _ _); k_dflt (refine' slice1_own ?Fzq ?Nzq ?Mzq (by with_reducible assumption) ?_ ?szq ?tzq; (case Fzq => k_asm); (case Nzq => k_asm); (case Mzq => k_mem); (case szq => with_unfolding_all rfl); (case tzq => (intro _; with_unfolding_all rfl))); intro D' h' F' N' l1; (try k_lt l1); (try k_sweep))
  k_with "binaryOp Add ref ref" => (k_here; (with_reducible show wpAny _ _ (binaryOp _ (Value.ref _) (Value.ref _)) _ _ _); k_dflt (refine' cat_own ?Fzq ?Nzq ?azq ?bzq ?zzq ?yzq ?_; (case Fzq => k_asm); (case Nzq => k_asm); (case azq => k_mem); (case bzq => k_mem); (case zzq => assumption); (case yzq => assumption)); intro D' h' F' N' l1; (try k_lt l1); (try k_sweep))
  k_with "call builtin:list.append" => (k_here; (with_reducible show wpAny _ _ (call (Value.builtin _) [Value.ref _, Value.str _ _]) _ _ _); k_dflt (refine' append_S ?Fzq ?Nzq ?Uzq (by with_reducible assumption) ?_; (case Fzq => k_asm); (case Nzq => k_asm); (case Uzq => k_upd)); intro h' F' N'; (try k_sweep))
  k_with "call builtin:str.replace" => (k_here; (with_reducible show wpAny _ _ (call (Value.builtin "str.replace") [Value.str _ _, Value.str _ _, Value.str _ _]) _ _ _); k_dflt (refine' replace_E ?ezq ?nzq ?uzq ?vzq ?uvzq ?yzzq ?xzq ?zzq ?_; (case ezq => with_reducible assumption); (case nzq => (walk_at "lbt")); (case uzq => exact LB.ne (by (walk_at "lbt")) (Nat.lt_of_lt_of_le (by assumption) (LB.le (by with_reducible assumption)))); (case vzq => exact LB.ne (by (walk_at "lbt")) (Nat.lt_of_lt_of_le (by assumption) (LB.le (by with_reducible assumption)))); (case uvzq => exact Nat.ne_of_lt (Nat.lt_succ_self _)); (case yzzq => decide); (case xzq => omega); (case zzq => decide)); intro t' k' lb')
  k_with "call builtin:str.replace" => (k_here; (with_reducible show wpAny _ _ (call (Value.builtin "str.replace") [Value.str _ _, Value.str _ _, Value.str _ _]) _ _ _); k_dflt (refine' replace_F ?ezq ?oczq ?yzq ?uzq ?vzq ?uvzq ?yzzq ?xzq ?zzq ?_; (case ezq => with_reducible assumption); (case oczq => with_reducible assumption); (case yzq => decide); (case uzq => exact LB.ne (by (walk_at "lbt")) (Nat.lt_of_lt_of_le (by assumption) (LB.le (by with_reducible assumption)))); (case vzq => exact LB.ne (by (walk_at "lbt")) (Nat.lt_of_lt_of_le (by assumption) (LB.le (by with_reducible assumption)))); (case uvzq => exact Nat.ne_of_lt (Nat.lt_succ_self _)); (case yzzq => decide); (case xzq => omega); (case zzq => decide)))
  k_with "call ref" => (k_here; k_dflt (first | (refine' pure_use (p_index _ _ _ _ _ _ _ _ (by with_reducible assumption) (by with_reducible assumption)) ?k1x574zq ?k2x574zq ?k3x574zq ?k4x574zq ?k5x574zq ?kfx574zq ?kKx574zq ?kpx574zq ?kdx574zq ?kux574zq ?_; (case k1x574zq => k_asm); (case k2x574zq => k_asm); (case k3x574zq => k_asm); (case k4x574zq => k_asm); (case k5x574zq => k_asm); (case kfx574zq => exact rfl); (case kKx574zq => first | exact rfl | assumption); (case kpx574zq => first | trivial | exact News.isList (by k_asm) (by k_mem) | assumption); (case kdx574zq => (walk_at "m_room")); (case kux574zq => (walk_at "m_units")); intro r9 h9 tk9 le9 P9 F9 N9; (try dsimp only at le9); (try (have lb9 := LB.tr (by (walk_at "lbt")) le9)); (first | (obtain ⟨t9, e9, g9, g9b⟩ := P9; subst e9; (try dsimp only at g9)) | (obtain ⟨t9, e9⟩ := P9; subst e9) | subst P9); (try dsimp only); (try k_fold)) | (refine' pure_use (p_ge _ _ _ _ _ _ _ _) ?k1x575zq ?k2x575zq ?k3x575zq ?k4x575zq ?k5x575zq ?kfx575zq ?kKx575zq ?kpx575zq ?kdx575zq ?kux575zq ?_; (case k1x575zq => k_asm); (case k2x575zq => k_asm); (case k3x575zq => k_asm); (case k4x575zq => k_asm); (case k5x575zq => k_asm); (case kfx575zq => exact rfl); (case kKx575zq => first | exact rfl | assumption); (case kpx575zq => first | trivial | exact News.isList (by k_asm) (by k_mem) | assumption); (case kdx575zq => (walk_at "m_room")); (case kux575zq => (walk_at "m_units")); intro r9 h9 tk9 le9 P9 F9 N9; (try dsimp only at le9); (try (have lb9 := LB.tr (by (walk_at "lbt")) le9)); (first | (obtain ⟨t9, e9, g9, g9b⟩ := P9; subst e9; (try dsimp only at g9)) | (obtain ⟨t9, e9⟩ := P9; subst e9) | subst P9); (try dsimp only); (try k_fold)) | (refine' pure_use (p_dirE (by with_reducible assumption) (by with_reducible assumption)) ?k1x576zq ?k2x576zq ?k3x576zq ?k4x576zq ?k5x576zq ?kfx576zq ?kKx576zq ?kpx576zq ?kdx576zq ?kux576zq ?_; (case k1x576zq => k_asm); (case k2x576zq => k_asm); (case k3x576zq => k_asm); (case k4x576zq => k_asm); (case k5x576zq => k_asm); (case kfx576zq => exact rfl); (case kKx576zq => first | exact rfl | assumption); (case kpx576zq => first | trivial | exact News.isList (by k_asm) (by k_mem) | assumption); (case kdx576zq => (walk_at "m_room")); (case kux576zq => (walk_at "m_units")); intro r9 h9 tk9 le9 P9 F9 N9; (try dsimp only at le9); (try (have lb9 := LB.tr (by (walk_at "lbt")) le9)); (first | (obtain ⟨t9, e9, g9, g9b⟩ := P9; subst e9; (try dsimp only at g9)) | (obtain ⟨t9, e9⟩ := P9; subst e9) | subst P9); (try dsimp only); (try k_fold)) | (refine' pure_use (p_joinE (by with_reducible assumption) (by with_reducible assumption) (by with_reducible assumption) (by with_reducible assumption) (by with_reducible assumption) (by with_reducible assumption)) ?k1x577zq ?k2x577zq ?k3x577zq ?k4x577zq ?k5x577zq ?kfx577zq ?kKx577zq ?kpx577zq ?kdx577zq ?kux577zq ?_; (case k1x577zq => k_asm); (case k2x577zq => k_asm); (case k3x577zq => k_asm); (case k4x577zq => k_asm); (case k5x577zq => k_asm); (case kfx577zq => exact rfl); (case kKx577zq => first | exact rfl | assumption); (case kpx577zq => first | trivial | exact News.isList (by k_asm) (by k_mem) | assumption); (case kdx577zq => (walk_at "m_room")); (case kux577zq => (walk_at "m_units")); intro r9 h9 tk9 le9 P9 F9 N9; (try dsimp only at le9); (try (have lb9 := LB.tr (by (walk_at "lbt")) le9)); (first | (obtain ⟨t9, e9, g9, g9b⟩ := P9; subst e9; (try dsimp only at g9)) | (obtain ⟨t9, e9⟩ := P9; subst e9) | subst P9); (try dsimp only); (try k_fold))))
  k_with "TurnT" => (k_here; first | (walk_at "end_one") | (dsimp only [TurnT]; k_dflt (refine EndT.list (by assumption) (by assumption) (by assumption) (by k_subL) (by k_subL) (by (intro z h2; (try simp only [List.mem_cons, List.not_mem_nil, or_false, forall_eq_or_imp, forall_eq] at h2); first | rfl | (simp [h2, ovr]; done) | (simp_all [ovr]; done))) ?_)))
  k_with "UpR" => (k_dflt (first | exact UpR.stayA (by with_reducible assumption) (by with_reducible assumption) (by (walk_at "lbt")) (by with_reducible assumption) (by with_reducible assumption) (by with_reducible assumption) | exact UpR.stayB (by with_reducible assumption) (by with_reducible assumption) (by (walk_at "lbt")) (by with_reducible assumption) (by with_reducible assumption) (by with_reducible assumption) | exact UpR.climb (by with_reducible assumption) (by with_reducible assumption) (by with_reducible assumption) (by (walk_at "lbt")) (by with_reducible assumption) (by with_reducible assumption) (by with_reducible assumption) (by with_reducible assumption) (by with_reducible assumption) (by with_reducible assumption) (by (walk_at "lbt"))))
  k_with "MadeR" => (k_dflt (refine MadeR.next (by with_reducible assumption) (by with_reducible assumption) (by with_reducible assumption) (by with_reducible assumption) (by with_reducible assumption) (by with_reducible assumption) (by with_reducible assumption) ?_ ?_ <;> (show (_ : Nat) ≤ _; (walk_at "lb_all"); omega)))
  exact trivial
theorem p_made (nt : List (Int × Tok)) (mt : List (Str × Tok)) (ln lm : Addr) (h6 : nt.length = 6) (hm : mt.map (·.1) = nmF) : PureH w mean mg mb 6 206 [.ref ln, .ref lm] (fun s => s.heap.IsList ln (intsV nt).toArray ∧ s.heap.IsList lm (strValues mt).toArray ∧ 0 < s.toks)
    (fun r s s' => ∃ D zs n, r = .ref D ∧ s'.heap.get? D = some (strsO zs n) ∧ s.heap.get? D = none ∧ zs.map (·.1) = madeF (nt.map (·.1)) ∧ TokInv zs s'.toks) := by
  dsimp only [PureH]
  (walk_at "p_open")
  obtain ⟨hln, hlm, h0⟩ := hpre
  have mk' : Mk (MadeR (nt.map (·.1)) s.toks) := .mk
  k_dflt (walk_at "m_enter")
  have lb0 : LB s.toks (s.toks + 2) := ⟨by omega⟩
  k_steps
  all_goals (refine hret _ _ _ (Fr.keep (by assumption)) ⟨_, _, _, rfl, (‹News _ _ _ _› _ (.head _)).1, (‹News _ _ _ _› _ (.head _)).2.2, made_is (by assumption), TokInv.drop (TokInv.le (by assumption) ?_) 1⟩; (walk_at "m_clean"); (show (_ : Nat) ≤ _); (walk_at "lb_all"); omega)
end
end
-- T11
example : True := by
  w_top off
  k_with_none
  k_with "end_one" => (dsimp only [TurnT]; k_dflt (refine EndT.one (by assumption) (by assumption) (by first | exact off_of (by assumption) | exact (fun _ hp => nomatch hp)) (by k_subL) (by k_subL) (by k_subL) (by with_unfolding_all rfl) (by (intro z h1 h2; (try simp only [List.mem_cons, List.not_mem_nil, or_false, forall_eq_or_imp, forall_eq] at h2); first | rfl | (simp [h1, h2, ovr]; done) | (simp_all [ovr]; done))) ?_))
  k_with "m_clean" => ((repeat (first | (rename News _ _ _ _ => zq9; clear zq9) | (rename Fr _ _ _ _ => zq9; clear zq9))); (try skip))
  k_with "m_enterC" => (refine' enterC (g := _) (news := []) (fun _ _ e => e) (Nat.le_refl _) (fun _ hp => nomatch hp) ?k3zq ?k5zq ?k6zq ?k7zq ?k8zq ?k9zq ?kBzq ?kDzq ?_ ?c2zq ?c3zq ?c4zq; (case k3zq => k_asm); (case k5zq => k_asm); (case k6zq => k_is); (case k7zq => k_is); (case k8zq => (walk_at "m_room")); (case k9zq => exact BindsTo.of_eq rfl); (case kBzq => exact rfl); (case kDzq => decide +kernel); (case c2zq => exact rfl); (case c3zq => exact rfl); (case c4zq => exact rfl); k_whole; intro L' h' tk' cells' lb' F' N' Y' _ Qt' Et' hq' hE'; k_cells Y'; (try simp only [List.cons_append, List.nil_append] at N'); (try dsimp only); (try k_fold))
  k_with "m_room" => (first | exact rm0 hdp | exact rm1 hdp (by decide) | exact rm2 hdp | ((try simp only [depth_under_make, depth_under_kw, depth_in1, depth_deeper, depth_caller] at *); (try dsimp only [AR] at *); omega) | ((simp only [recursionLimit, depth_under_make, depth_under_kw, depth_in1, depth_deeper, depth_caller] at *); (try dsimp only [AR] at *); omega) | decide)
  k_with "p_end" => (refine hret _ _ _ (Fr.keep (by assumption)) ?_; (walk_at "m_clean"))
  k_with "p_open" => (dsimp only [Pure, PG, KK, LL]; k_fill; intro dp un gd outer base s Q E B X T hpre hdp hun hret; refine wpAny_call ?_)
  exact trivial
section
set_option maxHeartbeats 8000000
section
variable (w : World) (mean : ExcName → Option Value) (mg mb : Str → Option Value)
example : True := by
  k_with "execs cons" => (k_here; k_dflt (refine execs_P (by k_asm) rfl ?_; intro tk' Qt' hq'))
  k_with "Post" => (k_here; (rename Then _ _ => hq'); refine hq' _ _ ?_; clear hq')
  exact trivial
noncomputable def sumQ (q : Int) (n : Nat) : Int := (List.map (fun k' : Int => q ^ k'.toNat) (rangeKs 0 n)).sum
noncomputable def prodN (q : Int) : Nat → Int
  | 0 => 1
  | i + 1 => prodN q i * sumQ q (i + 1)
theorem sum_bits_all : (List.range 100).all (fun i => (List.range 7).all fun n => decide (Builtin.Int.intBits (sumQ ((i : Int) - 50) n) ≤ 64)) = true := by decide +kernel
theorem sum_bits {q : Int} (h1 : -50 ≤ q) (h2 : q ≤ 49) {n : Nat} (hn : n < 7) : Builtin.Int.intBits (List.map (fun k' : Int => q ^ k'.toNat) (rangeKs 0 n)).sum ≤ 64 := by
  have h := List.all_eq_true.mp (List.all_eq_true.mp sum_bits_all (q + 50).toNat (List.mem_range.mpr (by omega))) n (List.mem_range.mpr hn)
  rw [show (((q + 50).toNat : Int) - 50) = q by omega] at h
  exact of_decide_eq_true h
noncomputable def ProdR (q : Int) (i : Nat) (c : Value) (_ : Nat) : Prop := ∃ t, c = .int (prodN q i) t
theorem ProdR.next {q : Int} {i tk : Nat} {t : Tok} : ProdR q (i + 1) (.int (prodN q i * (List.map (fun k' : Int => q ^ k'.toNat) (rangeKs 0 (1 + (i : Int) - 0).toNat)).sum) t) tk := by
  refine ⟨t, congrArg (Value.int · t) ?_⟩
  show _ = prodN q i * sumQ q (i + 1)
  rw [show (1 + (i : Int) - 0).toNat = i + 1 by omega]; rfl
theorem pow_k {i : Nat} {k : Int} (h : k < 0 + (((1 : Int) + i - 0).toNat : Int)) (hi : i < 6) : k ≤ 1000000 := by omega
theorem pow_q {q : Int} (h1 : -50 ≤ q) (h2 : q ≤ 49) : q.natAbs < 2 ^ 64 := by omega
example : True := by
  k_with "binaryOp Pow int int" => (k_here; k_dflt (refine' pow_int_small ?kb1zq ?kb2zq ?kb3zq ?_; (case kb1zq => assumption); (case kb2zq => exact pow_k (by with_reducible assumption) (by with_reducible assumption)); (case kb3zq => exact pow_q (by with_reducible assumption) (by with_reducible assumption))))
  k_with "binaryOp Mult int int" => (k_here; k_dflt (refine PyProof.Rows.mul_int ?_ (IntMulOk.of_right (sum_bits (by assumption) (by assumption) (by omega)))))
  k_with "exec For Name Call cons nil" => (k_here; (rename Fr _ _ _ _ => lF'); (with_unfolding_all refine' For_TF lF' ?_; k_whole))
  k_with "pyIter ref" => (k_here; (with_reducible show wpAny _ _ (pyIter (Value.ref _)) (fun it s₂ => LoopT _ _ _ _ _ _ _ _ _ _ it s₂) _ _); (rename IsRange _ _ _ _ _ _ _ _ => rgX); k_dflt (refine' rangeT1 (R := ProdR _) (y := Str.ofString "whole") (D := [Str.ofString "m"]) (n := 6) (by with_reducible assumption) ?hhzq rgX ?smzq ?szzq ?Fzq ?Nzq ?hjzq ?turnzq ?finzq; (case hhzq => exact rfl); (case smzq => decide); (case szzq => exact rfl); (case Fzq => k_asm); (case Nzq => k_asm); (case hjzq => exact ⟨_, rfl, _, rfl⟩); (case' turnzq => (intro i' t' c' tk0' tk1' h' u' I' o' hi' hR' hle' ho' l1 F' N'; obtain ⟨tx', e'⟩ := hR'; subst e'; (have l1r := l1); (try k_lt l1))); (case' finzq => (intro h' tk0' tk' c' u' F' N' hR' hle'; obtain ⟨tx', e'⟩ := hR'; subst e'))))
  k_with "TurnT" => (k_here; (walk_at "end_one"))
  k_with "ProdR" => (k_dflt (exact ProdR.next))
  exact trivial
theorem p_product (q : Int) (t : Tok) (h1 : -50 ≤ q) (h2 : q ≤ 49) : Pure w mean mg mb 3 244 [.int q t] yes (isI (prodN q 6)) := by
  have mk' : Mk (ProdR q) := .mk
  (walk_at "p_open")
  k_dflt (walk_at "m_enterC")
  k_steps
  all_goals ((walk_at "p_end"); exact ⟨_, rfl⟩)
end
end
-- LwQ
example : True := by
  w_top off
  k_with_none
  exact trivial
section
set_option maxHeartbeats 8000000
section
section
variable {w : World} {mean : ExcName → Option Value} {mg mb : Str → Option Value} {A₀ : Around} {base h₀ : Heap} {outer : List Env} {L : Addr} {m : Str → Option Value} {news : List (Addr × Obj)} {env : Env} {s : Shared} {dp un n : Nat} {gd : Option (List Code)} {f : Addr} {vs : List Value} {pre : Shared → Prop} {Q E : Value → Shared → Prop}
theorem pureH_use {P : Value → Shared → Shared → Prop} (H : PureH w mean mg mb n f vs pre P) (B : Below A₀ base outer h₀) (F : Fr h₀ L s.heap m) (X : (KK w).In h₀) (N : News h₀ L s.heap news) (T : Top topProg LL mean mg mb h₀) (hf : env.frame = some L) (hk : env.scope.kind = .function)
    (hp : pre s) (hd : dp + n < 900) (hu : un + 10 * n < 9000)
    (ret : ∀ (r : Value) (h' : Heap) (tk' : Nat), s.toks ≤ tk' → P r s { s with heap := h', toks := tk' } → Fr h₀ L h' m → News h₀ L h' news → Q r { s with heap := h', toks := tk' }) : wpAny (model PG w) (AR dp un gd (env :: outer)) (call (.ref f) vs) Q E s := by
  have B₁ := pushX B F hf hk
  refine with_toks (Nat.le_refl s.toks) ?_
  exact H dp un gd (env :: outer) base s _ E ⟨rfl, B₁.stays, B₁.frames⟩ (X.keeps F.keep) (T.keeps F.keep) hp hd hu fun r h' tk' hk' hP hle => ret r h' tk' hle hP (F.keeps hk') (N.grown hk')
theorem key_use (B : Below A₀ base outer h₀) (F : Fr h₀ L s.heap m) (X : (KK w).In h₀) (N : News h₀ L s.heap ((79, tabObj #[]) :: news)) (T : Top topProg LL mean mg mb h₀) (hf : env.frame = some L) (hk : env.scope.kind = .function)
    (hc : CodeHd h₀ 83 79) (hne : ∀ p ∈ news, @Ne Nat p.1 79) (hL : @Ne Nat L 79) (hd : dp + 8 < 900) (hu : un + 10 * 8 < 9000)
    (ret : ∀ (C : Addr) (led : List (Addr × Obj)) (ps : Array Value) (h' : Heap) (tk' : Nat), s.toks ≤ tk' → Fr h₀ L h' m → News h₀ L h' (led ++ (79, tabObj ps) :: news) → KeyOf w.params 220 led C → (∀ p ∈ led, ∀ q ∈ (79, tabObj ps) :: news, p.1 ≠ q.1) → Q (.ref C) { s with heap := h', toks := tk' }) :
    wpAny (model PG w) (AR dp un gd (env :: outer)) (call (.ref 84) [.ref 220]) Q E s := by
  obtain ⟨g, z1, q1⟩ := hide s.heap [79]
  have n79 := N _ (.head _)
  have hkeep : ∀ b o, h₀.get? b = some o → g.get? b = some o := fun b o e => (q1 b o).mpr ⟨F.keep b o e, fun hm => by rw [List.mem_singleton.mp hm, n79.2.2] at e; cases e⟩
  have hL' : L ∉ [79] := fun hm => hL (List.mem_singleton.mp hm)
  have F1 : Fr h₀ L g m := ⟨F.ns.at' fun o e => (q1 L o).mpr ⟨e, hL'⟩, hkeep, F.above⟩
  have B₁ := pushX B F1 hf hk
  have up : ∀ b o, g.get? b = some o → s.heap.get? b = some o := fun b o e => ((q1 b o).mp e).1
  have g79 : g.get? 79 = none := by
    cases e : g.get? 79 with
    | none => rfl
    | some o => exact absurd (List.mem_singleton.mpr rfl) ((q1 _ _).mp e).2
  refine with_toks (Nat.le_refl s.toks) ?_
  refine p_key w mean mg mb dp un gd (env :: outer) base g s _ E up (Nat.le_of_eq z1) (fun p hp => ?_) (hc.keeps hkeep) ⟨rfl, B₁.stays, B₁.frames⟩ (X.keeps hkeep) (T.keeps hkeep) hd hu fun C h' tk' led ps hk' hled h79 hK hle => ?_
  · rw [List.mem_singleton.mp hp]; exact ⟨n79.1, g79⟩
  · have gn : ∀ p ∈ news, g.get? p.1 = some p.2 := fun p hp => (q1 _ _).mpr ⟨(N p (.tail _ hp)).1, fun hm => hne p hp (List.mem_singleton.mp hm)⟩
    refine ret C led ps h' tk' hle (F1.keeps hk') (fun p hp => ?_) hK fun p hp q hq e => ?_
    · rcases List.mem_append.mp hp with hp | hp
      · have a := hled p hp
        refine ⟨a.1, fun e => ?_, ?_⟩
        · obtain ⟨o, es, ep, e2, _⟩ := F1.ns
          rw [← e, a.2.1] at e2; cases e2
        · cases e2 : h₀.get? p.1 with
          | none => rfl
          | some o => rw [hkeep _ _ e2] at a; cases a.2.1
      · rcases List.mem_cons.mp hp with rfl | hp
        · exact ⟨h79, n79.2⟩
        · exact ⟨hk' _ _ (gn p hp), (N p (.tail _ hp)).2⟩
    · have a := hled p hp
      rcases List.mem_cons.mp hq with rfl | hq
      · exact a.2.2 e
      · rw [e, gn q hq] at a; cases a.2.1
noncomputable def KVl (C : Addr) (own : List (Addr × Obj)) (k v : Value) : Prop := ∃ a d, k = .ref a ∧ (a, instK C d v) ∈ own ∧ (d, emptyDict) ∈ own
theorem KVl.mono {C : Addr} (own own' : List (Addr × Obj)) (k v : Value) (h : ∀ p ∈ own, p ∈ own') : KVl C own k v → KVl C own' k v := fun ⟨a, d, e, h1, h2⟩ => ⟨a, d, e, h _ h1, h _ h2⟩
theorem strs_get {zs : List (Str × Tok)} {i : Nat} (hi : i < zs.length) : (strValues zs)[i]? = some (.str ((zs.map (·.1)).getD i S1) zs[i].2) := by
  simp [strValues, List.getD_eq_getElem?_getD, List.getElem?_eq_getElem hi]
theorem getD_map1 {zs : List (Str × Tok)} {i : Nat} (hi : i < zs.length) : (zs.map (·.1)).getD i S1 = zs[i].1 := by simp [List.getD_eq_getElem?_getD, List.getElem?_eq_getElem hi]
theorem sort_key_use {P C : Addr} {led : List (Addr × Obj)} {zs : List (Str × Tok)} {p : Array Nat} {k : Nat} (B : Below A₀ base outer h₀) (F : Fr h₀ L s.heap m) (X : (KK w).In h₀) (N : News h₀ L s.heap news) (T : Top topProg LL mean mg mb h₀) (hf : env.frame = some L) (hk : env.scope.kind = .function)
    (hK : KeyOf w.params 220 led C) (hled : ∀ p ∈ led, p ∈ news) (hm : (P, strsO zs k) ∈ news) (h2 : 2 ≤ zs.length) (h64 : zs.length < 64) (hg : ∀ x ∈ zs.map (·.1), x.length < 1000 ∧ Txt.startswith x (Str.ofString "/") = true) (hcom : ∀ x ∈ zs.map (·.1), ∀ y ∈ zs.map (·.1), (comF x y).length < 1000)
    (run : kasRun zs.length (fun i j => decide (listedF ((zs.map (·.1)).getD i S1) ((zs.map (·.1)).getD j S1) < 0)) (kas_sort zs.length) = some p) (psz : p.size = zs.length) (plt : ∀ i ∈ p.toList, i < zs.length) (hd : dp + 8 < 900) (hu : un + 10 * 8 + 10 < 9000)
    (ret : ∀ (D : Addr) (h' : Heap) (tk c : Nat), Fr h₀ L h' m → News h₀ L h' ((D, strsO (p.toList.map fun i => zs.getD i (S1, 0)) c) :: news) → (∀ q ∈ news, q.1 < D) → Q (.ref D) { s with heap := h', toks := tk }) :
    wpAny (model PG w) (AR dp un gd (env :: outer)) (call (.builtin "sorted") [.ref P] [(Str.ofString "key", .ref C)]) Q E s := by
  obtain ⟨Ek, t0, n1, cl, pm, rfl, hI⟩ := hK.is
  have hsz : (strValues zs).length = zs.length := by simp [strValues]
  have e0 : (p.toList.map fun i => (strValues zs).getD i .none) = strValues (p.toList.map fun i => zs.getD i (S1, 0)) := by
    show _ = ((p.toList.map fun i => zs.getD i (S1, 0)).map fun q => Value.str q.1 q.2)
    rw [List.map_map]
    refine List.map_congr_left fun i hi => ?_
    have hi' := plt i hi
    simp [strValues, List.getD_eq_getElem?_getD, List.getElem?_eq_getElem hi']
  refine sortK (KVl (Ek 58 + 250)) KVl.mono (T := .ref (Ek 58 + 250)) (lt := fun i j => decide (listedF ((zs.map (·.1)).getD i S1) ((zs.map (·.1)).getD j S1) < 0)) (p := p) F N ⟨_, (N _ hm).1, rfl, k, rfl⟩ (by rw [hsz]; exact h2) (by rw [hsz]; exact h64) ?turn ?hT rfl (beq_self_eq_true _) ?cmp (by rw [hsz]; exact run) (by rw [hsz]; exact psz) (by rw [hsz]; exact plt) ?fin
  case turn =>
    intro v hv h tk led' Q' F' N' hs ret'
    have B₁ := pushX B F' hf hk
    refine p_mk w mean mg mb 220 Ek t0 n1 cl pm v dp (un + 2) gd (env :: outer) base { s with heap := h, toks := tk } _ _ ⟨rfl, B₁.stays, B₁.frames⟩ (X.keeps F'.keep) (T.keeps F'.keep) (hI h fun q hq => (N' q (hs q (hled q hq))).1) hd (by omega) fun a d h' tk' hk' ha hd' na nd => ?_
    have nw : ∀ x, h.get? x = none → x ≠ L ∧ h₀.get? x = none := fun x e => by
      refine ⟨fun q => ?_, ?_⟩
      · obtain ⟨o, es, ep, e2, _⟩ := F'.ns
        rw [← q, e] at e2; cases e2
      · cases e2 : h₀.get? x with
        | none => rfl
        | some o => rw [F'.keep _ _ e2] at e; cases e
    refine ret' (.ref a) h' tk' [(a, instK (Ek 58 + 250) d v), (d, emptyDict)] (F'.keeps hk') (fun q hq => ?_) (fun q hq q' hq' e => ?_) ⟨a, d, rfl, .head _, .tail _ (.head _)⟩
    · rcases List.mem_cons.mp hq with rfl | hq
      · exact ⟨ha, nw a na⟩
      · rcases List.mem_cons.mp hq with rfl | hq
        · exact ⟨hd', nw d nd⟩
        · exact ⟨hk' _ _ (N' q hq).1, (N' q hq).2⟩
    · have e3 := (N' q' hq').1
      rcases List.mem_cons.mp hq with rfl | hq
      · rw [← e, na] at e3; cases e3
      · rw [List.mem_singleton.mp hq] at e
        rw [← e, nd] at e3; cases e3
  case hT =>
    rintro own h k v N' ⟨a, d, rfl, h1, h3⟩
    exact (inst_at (N' _ h1).1 (N' _ h3).1).type
  case cmp =>
    intro own ks hks i j h tk led' C' hi hj F' N' ho hs ret'
    have B₁ := pushX B F' hf hk
    rw [hsz] at hi hj
    have get : ∀ i, i < zs.length → ∃ a d, ks.getD i .none = .ref a ∧ h.get? a = some (instK (Ek 58 + 250) d (.str ((zs.map (·.1)).getD i S1) zs[i]!.2)) ∧ h.get? d = some emptyDict := fun i hi => by
      have hl : i < ks.length := by rw [hks.1, hsz]; exact hi
      obtain ⟨a, d, e, h1, h3⟩ := hks.2 i _ _ (List.getElem?_eq_getElem hl) (strs_get hi)
      refine ⟨a, d, by rw [← e]; simp [List.getD_eq_getElem?_getD, List.getElem?_eq_getElem hl], ?_, (N' _ (ho _ h3)).1⟩
      have := (N' _ (ho _ h1)).1
      simpa [hi] using this
    obtain ⟨a, da, ea, h1, h3⟩ := get i hi
    obtain ⟨b, db, eb, h4, h5⟩ := get j hj
    have mi : (zs.map (·.1)).getD i S1 ∈ zs.map (·.1) := by rw [getD_map1 hi]; exact List.mem_map.mpr ⟨_, List.getElem_mem hi, rfl⟩
    have mj : (zs.map (·.1)).getD j S1 ∈ zs.map (·.1) := by rw [getD_map1 hj]; exact List.mem_map.mpr ⟨_, List.getElem_mem hj, rfl⟩
    rw [ea, eb]
    exact p_klt w mean mg mb Ek t0 n1 cl pm a b da db _ _ _ _ (hg _ mi).1 (hg _ mj).1 (hcom _ mi _ mj) (hg _ mi).2 (hg _ mj).2 dp (un + 2) gd (env :: outer) base { s with heap := h, toks := tk } _ _ ⟨rfl, B₁.stays, B₁.frames⟩ (X.keeps F'.keep) (T.keeps F'.keep) (hI h fun q hq => (N' q (hs q (hled q hq))).1) h1 h3 h4 h5 hd (by omega)
      fun h' tk' hk' => ret' h' tk' (F'.keeps hk') (N'.grown hk')
  case fin =>
    intro D h' tk c F' N' hD
    rw [e0] at N'
    exact ret D h' tk c F' N' hD
end
end
end
-- LwR
example : True := by
  w_top off
  k_with_none
  exact trivial
section
open PyProof.V PySem.Spec
set_option maxHeartbeats 8000000
section
section
variable {prog : Program} {w : World} {A : Around} {E : Value → Shared → Prop} {s : Shared} {h₀ : Heap} {L : Addr} {m : Str → Option Value} {news : List (Addr × Obj)}
theorem oneLt_list {l b : Addr} {xs ys : List (Str × Tok)} {n n2 : Nat} {Q : Bool → Shared → Prop} (hl : s.heap.get? l = some (strsO xs n)) (hb : s.heap.get? b = some (strsO ys n2)) (hu : A.units < cLine)
    (h : Q (ltL (xs.map (·.1)) (ys.map (·.1))) s) : wpAny (model prog w) A (keyLt' oneType' (.ref l) (.ref b)) Q E s := by
  rw [keyLt'_oneType, oneLt'_eq]
  simp only [if_true]
  refine wpAny_bind (wpAny_cRoomFor hu ?_)
  refine wpAny_bind (wpAny_callSpecialIfBound?_slot (s := s) ⟨_, hl, rfl⟩ F.slot_list_lt (call_meets F.slot_list_lt ⟨_, hl, rfl⟩ F.entry_list_lt (F.args_list_lt_2 _ _) (list_ltM l b xs ys n n2) ⟨hl, hb, ?_⟩))
  exact wpAny_truthy_bool h
noncomputable abbrev rowS (rs : List RowR) : List (List Str) := rs.map fun r => r.2.1.map (·.1)
theorem sort_rows {l : Addr} {rs : List RowR} {n : Nat} {p : Array Nat} {Q : Value → Shared → Prop} (F : Fr h₀ L s.heap m) (N : News h₀ L s.heap news) (hm : (l, rowsO rs n) ∈ news) (hrows : ∀ q ∈ rowsLed rs, q ∈ news) (h2 : 2 ≤ rs.length) (h64 : rs.length < 64) (hu : A.units + 2 < cLine)
    (run : kasRun rs.length (fun i j => ltL ((rowS rs).getD i []) ((rowS rs).getD j [])) (kas_sort rs.length) = some p) (plt : ∀ i ∈ p.toList, i < rs.length)
    (h : ∀ (D : Addr) (h' : Heap) (c : Nat), Fr h₀ L h' m → News h₀ L h' ((D, rowsO (p.toList.map fun i => rs.getD i default) c) :: news) → (∀ q ∈ news, q.1 < D) → Q (.ref D) { s with heap := h' }) : wpAny (model prog w) A (call (.builtin "sorted") [.ref l]) Q E s := by
  have hv : ∀ i, i < rs.length → (rs.map fun r => Value.ref r.1).getD i .none = .ref (rs.getD i default).1 := fun i hi => by
    simp [List.getD_eq_getElem?_getD, List.getElem?_eq_getElem hi]
  have hr : ∀ i, i < rs.length → ((rs.getD i default).1, strsO (rs.getD i default).2.1 (rs.getD i default).2.2) ∈ rowsLed rs := fun i hi => by
    refine List.mem_map.mpr ⟨rs.getD i default, ?_, rfl⟩
    simp [List.getD_eq_getElem?_getD, List.getElem?_eq_getElem hi]
  have hs : ∀ i, i < rs.length → (rowS rs).getD i [] = (rs.getD i default).2.1.map (·.1) := fun i hi => by
    simp [rowS, List.getD_eq_getElem?_getD, List.getElem?_eq_getElem hi]
  have hlen : (rs.map fun r => Value.ref r.1).length = rs.length := List.length_map ..
  refine kas_sorted (vs := rs.map fun r => Value.ref r.1) (T := .type "list") F N ⟨_, (N _ hm).1, rfl, n, rfl⟩ (by rw [hlen]; exact h2) (by rw [hlen]; exact h64) ?hT (by decide) ?h
  case hT =>
    intro h F' N' v hv'
    obtain ⟨r, hr', rfl⟩ := List.mem_map.mp hv'
    exact kitAt_ty _ _ ⟨_, (N' _ (hrows _ (List.mem_map.mpr ⟨r, hr', rfl⟩))).1, rfl⟩
  case h =>
    intro D e1 h' F' N' hD
    rw [hlen]
    refine kas_run (n := rs.length) (lt := fun i j => ltL ((rowS rs).getD i []) ((rowS rs).getD j [])) (a := p) (fun s' => s' = { s with heap := h' }) ?_ _ _ rfl run fun s' e => ?_
    · rintro i j s' C hi hj rfl hC
      unfold kas_ask
      rw [hv i hi, hv j hj]
      refine oneLt_list (N' _ (.tail _ (hrows _ (hr i hi)))).1 (N' _ (.tail _ (hrows _ (hr j hj)))).1 ?_ ?_
      · show A.in1.in1.units < cLine
        simpa using hu
      · rw [← hs i hi, ← hs j hj]
        exact hC _ rfl
    · subst e
      refine KasFin.intro F' N' (.head fun q hq => Nat.ne_of_lt (hD q hq)) fun h'' c F2 N2 => h D h'' c F2 ?_ hD
      have e : (p.toList.map fun i => (rs.map fun r => Value.ref r.1).getD i .none) = (p.toList.map fun i => rs.getD i default).map fun r => Value.ref r.1 := by
        rw [List.map_map]
        exact List.map_congr_left fun i hi => hv i (plt i hi)
      rw [e] at N2
      exact N2
noncomputable def rowStr (r : RowR) : Str := Str.ofString "/" ++ Txt.join (Str.ofString "/") (r.2.1.map (·.1))
theorem map_rangeD {α β : Type} {l : List α} {d : α} {f : α → β} {n : Nat} (hn : n = l.length) : (List.range n).map (fun i => f (l.getD i d)) = l.map f := by
  subst hn
  apply List.ext_getElem?
  intro i
  simp only [List.getElem?_map, List.getElem?_range]
  by_cases h : i < l.length
  · simp [h, List.getElem?_eq_getElem h]
  · simp [h, List.getElem?_eq_none (Nat.not_lt.mp h)]
theorem rows_same {rs : List RowR} {p2 : Array Nat} (h6 : rs.length = 6) (plt : ∀ i ∈ p2.toList, i < 6) : (p2.toList.map fun i => Str.ofString "/" ++ Txt.join (Str.ofString "/") ((rs.map fun r => r.2.1.map (·.1)).getD i [])) = (p2.toList.map fun i => rs.getD i default).map rowStr := by
  rw [List.map_map]
  refine List.map_congr_left fun i hi => ?_
  have hi' : i < rs.length := by rw [h6]; exact plt i hi
  simp [rowStr, List.getD_eq_getElem?_getD, List.getElem?_eq_getElem hi']
theorem refs_at {rs : List RowR} {i : Nat} {v : Value} (h : (rs.map fun r => Value.ref r.1).toArray[i]? = some v) : ∃ a zs n, rs[i]? = some (a, zs, n) ∧ v = .ref a := by
  rw [List.getElem?_toArray, List.getElem?_map] at h
  cases e : rs[i]? with
  | none => rw [e] at h; cases h
  | some p => rw [e] at h; exact ⟨p.1, p.2.1, p.2.2, rfl, (Option.some.inj h).symm⟩
theorem strs_of {ys : List Value} {n : Nat} {f : Nat → Str} (hl : ys.length = n) (h : ∀ (i : Nat) v, ys[i]? = some v → ∃ t, v = .str (f i) t) : ∃ zs : List (Str × Tok), ys = strValues zs ∧ zs.map (·.1) = (List.range n).map f := by
  induction n generalizing ys with
  | zero => exact ⟨[], List.length_eq_zero_iff.mp hl, rfl⟩
  | succ n ih =>
    have hne : ys ≠ [] := fun e => by rw [e] at hl; cases hl
    obtain ⟨zs, e1, e2⟩ := ih (ys := ys.dropLast) (by rw [List.length_dropLast, hl]; rfl) fun i v hv => h i v (by rw [List.getElem?_dropLast] at hv; split at hv <;> simp_all)
    obtain ⟨t, ht⟩ := h n (ys.getLast hne) (by rw [List.getLast_eq_getElem, List.getElem?_eq_getElem (by omega)]; simp [hl])
    refine ⟨zs ++ [(f n, t)], ?_, by rw [List.map_append, e2, List.range_succ, List.map_append]; rfl⟩
    rw [← List.dropLast_concat_getLast hne, e1, ht]
    simp [strValues]
theorem str_carried : ∀ zs : List (Str × Tok), CarriedAll (strValues zs) ((zs.map (·.1)).map PyData.str)
  | [] => .nil
  | (x, t) :: zs => .cons (.str x t) (str_carried zs)
theorem canLay_strs : ∀ ss : List Str, (∀ x ∈ ss, PyData.strOk x = true) → PyData.canLayAll0 (ss.map PyData.str) = true
  | [], _ => rfl
  | x :: r, h => by simp [PyData.canLayAll0, PyData.canLay0, canLay_strs r fun y hy => h y (.tail _ hy), h x (.head _)]
theorem depth_strs : ∀ ss : List Str, PyData.depthAll (ss.map PyData.str) = 0
  | [] => rfl
  | _ :: r => by simp [PyData.depthAll, PyData.depth, depth_strs r]
theorem shaped_strs (ss : List Str) (h : ∀ x ∈ ss, PyData.strOk x = true) : SeqAt.shaped (.list (ss.map PyData.str)) = true := by
  simp [SeqAt.shaped, PyData.canLay0, PyData.depth, canLay_strs ss h, depth_strs]
theorem same_strs : ∀ ns ms : List Str, PySem.Spec.sameAll (ns.map PyData.str) (ms.map PyData.str) = decide (ns = ms)
  | [], [] => by simp [PySem.Spec.sameAll]
  | [], _ :: _ => by simp [PySem.Spec.sameAll]
  | _ :: _, [] => by simp [PySem.Spec.sameAll]
  | a :: r, b :: t => by
    simp only [List.map_cons, PySem.Spec.sameAll, PySem.Spec.same, same_strs r t]
    by_cases h : a = b <;> by_cases h' : r = t <;> simp [h, h']
theorem ne_strs {a b : Addr} {xs ys : List (Str × Tok)} {n1 n2 : Nat} {Q : Value → Shared → Prop} (N : News h₀ L s.heap news) (ha : (a, strsO xs n1) ∈ news) (hb : (b, strsO ys n2) ∈ news) (hu : A.units + 64 < cLine) (hx : ∀ x ∈ xs.map (·.1), PyData.strOk x = true) (hy : ∀ x ∈ ys.map (·.1), PyData.strOk x = true) (h : Q (.bool (!decide (xs.map (·.1) = ys.map (·.1)))) s) :
    wpAny (model prog w) A (compareOp .NotEq (.ref a) (.ref b)) Q E s :=
  ne_dataH_same (reads_newData ⟨_, (N _ ha).1, rfl, n1, rfl⟩ (str_carried xs)) (reads_newData ⟨_, (N _ hb).1, rfl, n2, rfl⟩ (str_carried ys)) (shaped_strs _ hx) (shaped_strs _ hy) hu (SeqAt.noMix_of_shape (.list .str) rfl _ _ (list_map_has fun _ => rfl) (list_map_has fun _ => rfl)) (by
    rw [show PySem.Spec.same (.list ((xs.map (·.1)).map PyData.str)) (.list ((ys.map (·.1)).map PyData.str)) = decide (xs.map (·.1) = ys.map (·.1)) from by simp only [PySem.Spec.same]; exact same_strs _ _]
    exact h)
theorem ints_of2 {ys : List Value} {n : Nat} {f : Nat → Int} (hl : ys.length = n) (h : ∀ (i : Nat) v, ys[i]? = some v → ∃ t, v = .int (f i) t) : ∃ zs : List (Int × Tok), ys = intsV zs ∧ zs.map (·.1) = (List.range n).map f := by
  induction n generalizing ys with
  | zero => exact ⟨[], List.length_eq_zero_iff.mp hl, rfl⟩
  | succ n ih =>
    have hne : ys ≠ [] := fun e => by rw [e] at hl; cases hl
    obtain ⟨zs, e1, e2⟩ := ih (ys := ys.dropLast) (by rw [List.length_dropLast, hl]; rfl) fun i v hv => h i v (by rw [List.getElem?_dropLast] at hv; split at hv <;> simp_all)
    obtain ⟨t, ht⟩ := h n (ys.getLast hne) (by rw [List.getLast_eq_getElem, List.getElem?_eq_getElem (by omega)]; simp [hl])
    refine ⟨zs ++ [(f n, t)], ?_, by rw [List.map_append, e2, List.range_succ, List.map_append]; rfl⟩
    rw [← List.dropLast_concat_getLast hne, e1, ht]
    simp [intsV]
theorem ne_strs_eq {a b : Addr} {xs ys : List (Str × Tok)} {n1 n2 : Nat} {Q : Value → Shared → Prop} (N : News h₀ L s.heap news) (ha : (a, strsO xs n1) ∈ news) (hb : (b, strsO ys n2) ∈ news) (hu : A.units + 64 < cLine) (hx : ∀ x ∈ xs.map (·.1), PyData.strOk x = true) (e : ys.map (·.1) = xs.map (·.1)) (h : Q (.bool false) s) :
    wpAny (model prog w) A (compareOp .NotEq (.ref a) (.ref b)) Q E s := ne_strs N ha hb hu hx (by rw [e]; exact hx) (by rw [e, decide_eq_true rfl]; exact h)
noncomputable def isStr (x : Str) : Value → Bool
  | .str y _ => y == x
  | _ => false
theorem index_S {l : Addr} {zs : List (Str × Tok)} {n : Nat} {x : Str} {t : Tok} {Q : Value → Shared → Prop} (N : News h₀ L s.heap news) (hm : (l, strsO zs n) ∈ news) (hx : x ∈ zs.map (·.1)) (hz : zs.length < 2000)
    (h : Q (.int (((zs.map (·.1)).findIdx (· == x) : Nat) : Int) s.toks) { s with toks := s.toks + 1 }) : wpAny (model prog w) A (call (.builtin "list.index") [.ref l, .str x t]) Q E s := by
  have hlt : (zs.map (·.1)).findIdx (· == x) < (zs.map (·.1)).length := List.findIdx_lt_length.mpr ⟨x, hx, by simp⟩
  have hlt2 : (zs.map (·.1)).findIdx (· == x) < (strValues zs).toArray.size := by simpa [strValues] using hlt
  have hsz : (strValues zs).toArray.size < 2000 := by simpa [strValues] using hz
  have at_ : ∀ k (hk : k < (strValues zs).toArray.size), isStr x (strValues zs).toArray[k] = ((zs.map (·.1))[k]'(by simpa [strValues] using hk) == x) := fun k hk => by simp [strValues, isStr]
  refine call_meets PySem.F.slot_list_index ⟨_, (N _ hm).1, rfl⟩ PySem.F.entry_list_index (PySem.F.args_list_index_2 _ _)
    (MeetsSeq.list_index l (strValues zs).toArray n (.str x t) (isStr x) (fun y hy => ?_) _ hlt2 (by omega) ?_ fun k hk hlt3 => ?_) ⟨(N _ hm).1, h⟩
  · have hy' : y ∈ strValues zs := by simpa using hy
    obtain ⟨p, _, rfl⟩ := List.mem_map.mp hy'
    exact fun _ _ _ _ _ _ h => PySem.wpAny_eqBool_str h
  · rw [at_]
    exact List.findIdx_getElem (w := hlt)
  · rw [at_]
    exact Bool.eq_false_iff.mpr (by simpa using List.not_of_lt_findIdx hlt3)
end
end
end
-- CompK
example : True := by
  w_top off
  k_with_none
  exact trivial
section
open PyProof.Rows.LCg
section
structure KSt (h₀ : Heap) (L : Addr) (m : Str → Option Value) (I D C ax : Addr) (news : List (Addr × Obj)) (V : Nat → Value → Prop) (n0 i : Nat) (ys : List Value) (h : Heap) (tk : Nat) : Prop where
  it : h.IsListIter I ax i
  len : ys.length = i
  lb : n0 ≤ tk
  fr : Fr h₀ L h m
  ns : ∃ m', h.Ns C m'
  nw : News h₀ L h ((D, lst ys) :: news)
  vs : ∀ (k : Nat) v, ys[k]? = some v → V k v
structure KAp (h₀ : Heap) (L I D C : Addr) (news : List (Addr × Obj)) : Prop where
  IC : I ≠ C
  ID : I ≠ D
  DC : D ≠ C
  LI : L ≠ I
  LC : L ≠ C
  LD : L ≠ D
  I0 : h₀.get? I = none
  C0 : h₀.get? C = none
  D0 : h₀.get? D = none
  off : ∀ p ∈ news, p.1 ≠ I ∧ p.1 ≠ C ∧ p.1 ≠ D
section
variable {prog : Program} {w : World} {A : Around} {E : Value → Shared → Prop} {s : Shared} {h₀ : Heap} {L : Addr} {m : Str → Option Value} {env : Env} {news : List (Addr × Obj)}
theorem KAp.fr {I D C c : Addr} {h h' : Heap} (a : KAp h₀ L I D C news) (hc : c = I ∨ c = C ∨ c = D) (F : Fr h₀ L h m) (k : ∀ b o, b ≠ c → h.get? b = some o → h'.get? b = some o) : Fr h₀ L h' m :=
  ⟨F.ns.at' fun o e => k L o (by rcases hc with rfl | rfl | rfl; exact a.LI; exact a.LC; exact a.LD) e, fun b o e => k b o (fun q => by
    rcases hc with rfl | rfl | rfl
    · rw [q, a.I0] at e; cases e
    · rw [q, a.C0] at e; cases e
    · rw [q, a.D0] at e; cases e) (F.keep b o e), F.above⟩
theorem KAp.nw {I D C c : Addr} {h h' : Heap} (a : KAp h₀ L I D C news) (hc : c = I ∨ c = C ∨ c = D) (N : News h₀ L h news) (k : ∀ b o, b ≠ c → h.get? b = some o → h'.get? b = some o) : News h₀ L h' news :=
  fun p hp => ⟨k _ _ (by rcases hc with rfl | rfl | rfl; exact (a.off p hp).1; exact (a.off p hp).2.1; exact (a.off p hp).2.2) (N p hp).1, (N p hp).2⟩
theorem comp_loop {elt iter : Expr} {x : Str} {px : Pos} {scope : Scope} {cl : List (Str × Addr)} {pos : Pos} {I D C ax : Addr} {its : Array Value} {kx n0 : Nat} {V : Nat → Value → Prop} {R : Result → Shared → Prop}
    (hh : A.handled = none) (a : KAp h₀ L I D C news) (hm : (ax, W.listOf its kx) ∈ news) (hsz : its.size ≤ sizeLine) (hkind : scope.kind = .function) (hx : scope.names.lookup x = some .local)
    (turn : ∀ i v oI oC m₂ ys h tk (E' : Value → Shared → Prop), its[i]? = some v → n0 ≤ tk → NsObj oC m₂ → m₂ x = some v → Fr h₀ L h m → News h₀ L h ((I, oI) :: (C, oC) :: (D, lst ys) :: news) →
      wpAny (model prog w) A (eval elt (compEnvC scope cl C env)) (EltTo h₀ L m ((I, oI) :: (C, oC) :: (D, lst ys) :: news) { s with heap := h, toks := tk } (V i)) E' { s with heap := h, toks := tk })
    (fin : ∀ ys h tk, ys.length = its.size → n0 ≤ tk → Fr h₀ L h m → (∃ m', h.Ns C m') → News h₀ L h ((D, lst ys) :: news) → (∀ (k : Nat) v, ys[k]? = some v → V k v) → R (.ok .next) { s with heap := h, toks := tk })
    {i : Nat} {ys : List Value} {h : Heap} {tk : Nat} (hi : i ≤ its.size) (K : KSt h₀ L m I D C ax news V n0 i ys h tk) :
    codeAny (model prog w) A (.compLoop (.ListComp elt [⟨.Name x px, iter, [], 0⟩] scope pos) 0 (.ref I) (.ref D) (compEnvC scope cl C env)) R { s with heap := h, toks := tk } := by
  have axN : ax ≠ I := (a.off _ hm).1
  have W := Walks.list (prog := prog) (w := w) hh I ax axN its
  refine codeAny_compLoop_tests (fun k s' => ∃ i ys h tk, s' = { s with heap := h, toks := tk } ∧ i ≤ its.size ∧ k = its.size + 1 - i ∧ KSt h₀ L m I D C ax news V n0 i ys h tk) ?_ (its.size + 1 - i) ⟨i, ys, h, tk, rfl, hi, rfl, K⟩
  rintro k s' ⟨i, ys, h, tk, rfl, hi, rfl, K⟩
  have hl : ∀ h', News h₀ L h' news → h'.IsList ax its := fun h' N => ⟨_, (N _ hm).1, rfl, kx, rfl⟩
  have N0 : News h₀ L h news := fun p hp => K.nw p (.tail _ hp)
  obtain ⟨m', hns⟩ := K.ns
  by_cases hlt : i < its.size
  · refine with_toksL (n := tk) (Nat.le_refl _) (W.item i _ _ _ hlt ⟨K.it, hl h N0⟩ fun v h₂ tk₂ hv st₂ hk₂ (hle : tk ≤ tk₂) => ?_)
    have k2 : ∀ b o, b ≠ I → h.get? b = some o → h₂.get? b = some o := fun b o hb e => hk₂ b o (by simpa using hb) e
    refine wpAny_assign_Name (wpAny_storeName_local (lookup_relabel_local hx) (hns.at' fun o e => k2 _ o (Ne.symm a.IC) e) (fun h₃ hn₃ hs₃ => ?_) (by simp [compEnvC, relabel, hkind]))
    have k3 : ∀ b o, b ≠ C → h₂.get? b = some o → h₃.get? b = some o := fun b o hb e => hs₃.extBut b o hb e
    refine wpAny_tests_nil ?_
    simp only [if_true]
    obtain ⟨oI, heI, hcI, hdI⟩ := st₂.1
    obtain ⟨oC, heC, hoC⟩ := ns_obj hn₃
    have F₃ : Fr h₀ L h₃ m := a.fr (.inr (.inl rfl)) (a.fr (.inl rfl) K.fr k2) k3
    have eD : h₃.get? D = some (lst ys) := k3 _ _ a.DC (k2 _ _ (Ne.symm a.ID) (K.nw _ (.head _)).1)
    have N₃ : News h₀ L h₃ ((I, oI) :: (C, oC) :: (D, lst ys) :: news) := fun p hp => by
      rcases List.mem_cons.mp hp with rfl | hp
      · exact ⟨k3 _ _ a.IC heI, Ne.symm a.LI, a.I0⟩
      rcases List.mem_cons.mp hp with rfl | hp
      · exact ⟨heC, Ne.symm a.LC, a.C0⟩
      rcases List.mem_cons.mp hp with rfl | hp
      · exact ⟨eD, Ne.symm a.LD, a.D0⟩
      · exact a.nw (.inr (.inl rfl)) (a.nw (.inl rfl) N0 k2) k3 p hp
    refine with_toksL (Nat.le_refl _) (wpAny_mono (turn i v oI oC _ ys h₃ _ _ hv ?_ hoC (by simp) F₃ N₃) (fun y s₄ h₄ hle₄ => ?_) fun _ _ e => e)
    · show n0 ≤ tk₂ + 1
      exact Nat.le_succ_of_le (Nat.le_trans K.lb hle)
    · obtain ⟨h₄, tk₄, rfl, F₄, N₄, hV⟩ := h₄
      have zD := (N₄ (D, lst ys) (.tail _ (.tail _ (.head _)))).1
      refine append_at (hsz := by show ys.toArray.size ≤ sizeLine; rw [List.size_toArray, K.len]; omega) zD fun h₅ hs₅ hD₅ => ?_
      have k5 : ∀ b o, b ≠ D → h₄.get? b = some o → h₅.get? b = some o := fun b o hb e => hs₅.extBut b o hb e
      have N₄' : News h₀ L h₄ news := fun p hp => N₄ p (.tail _ (.tail _ (.tail _ hp)))
      refine ⟨its.size + 1 - (i + 1), by omega, i + 1, ys ++ [y], h₅, tk₄, rfl, hlt, rfl, ⟨⟨oI, k5 _ _ a.ID (N₄ _ (.head _)).1, hcI, hdI⟩, by rw [List.length_append, K.len]; rfl, ?_, a.fr (.inr (.inr rfl)) F₄ k5, ⟨_, (hoC.ns (N₄ _ (.tail _ (.head _))).1).sameBut hs₅ (Ne.symm a.DC)⟩, fun p hp => ?_, fun k v hk => ?_⟩⟩
      · have : tk₂ + 1 ≤ tk₄ := hle₄
        have := K.lb
        omega
      · rcases List.mem_cons.mp hp with rfl | hp
        · exact ⟨hD₅.trans (congrArg some (lst_snoc ys y)), Ne.symm a.LD, a.D0⟩
        · exact a.nw (.inr (.inr rfl)) N₄' k5 p hp
      · rcases Nat.lt_trichotomy k ys.length with h1 | h1 | h1
        · rw [List.getElem?_append_left h1] at hk; exact K.vs k v hk
        · subst h1; simp at hk; subst hk; rw [K.len]; exact hV
        · rw [List.getElem?_append_right (Nat.le_of_lt h1), List.getElem?_eq_none (by simp; omega)] at hk; cases hk
  · obtain rfl : i = its.size := by omega
    refine with_toksL (n := tk) (Nat.le_refl _) (W.done _ _ _ ⟨K.it, hl h N0⟩ fun h₂ tk₂ hk₂ (hle : tk ≤ tk₂) => ?_)
    have k2 : ∀ b o, b ≠ I → h.get? b = some o → h₂.get? b = some o := fun b o hb e => hk₂ b o (by simpa using hb) e
    refine fin ys h₂ tk₂ K.len (Nat.le_trans K.lb hle) (a.fr (.inl rfl) K.fr k2) ⟨m', hns.at' fun o e => k2 _ o (Ne.symm a.IC) e⟩ (fun p hp => ?_) K.vs
    rcases List.mem_cons.mp hp with rfl | hp
    · exact ⟨k2 _ _ (Ne.symm a.ID) (K.nw _ (.head _)).1, Ne.symm a.LD, a.D0⟩
    · exact a.nw (.inl rfl) N0 k2 p hp
noncomputable def CompK (prog : Program) (w : World) (A : Around) (h₀ : Heap) (L : Addr) (m : Str → Option Value) (env : Env) (elt : Expr) (x : Str) (scope : Scope) (cl : List (Str × Addr)) (y : Str) (Q : Flow → Shared → Prop) (xv : Value) (s₁ : Shared) : Prop :=
  ∃ ax its kx news n0, ∃ V : Nat → Value → Prop, xv = .ref ax ∧ A.handled = none ∧ Fr h₀ L s₁.heap m ∧ News h₀ L s₁.heap news ∧ (ax, W.listOf its kx) ∈ news ∧ its.size ≤ sizeLine ∧ n0 ≤ s₁.toks ∧
    (∀ I C D i v oI oC m₂ ys h tk (E' : Value → Shared → Prop), its[i]? = some v → n0 ≤ tk → NsObj oC m₂ → m₂ x = some v → Fr h₀ L h m → News h₀ L h ((I, oI) :: (C, oC) :: (D, lst ys) :: news) → Off3 I C D news → ((@Ne Nat I C) ∧ (@Ne Nat I D) ∧ (@Ne Nat C D)) →
      wpAny (model prog w) A (eval elt (compEnvC scope cl C env)) (EltTo h₀ L m ((I, oI) :: (C, oC) :: (D, lst ys) :: news) { s₁ with heap := h, toks := tk } (V i)) E' { s₁ with heap := h, toks := tk }) ∧
    (∀ D ys h tk, ys.length = its.size → n0 ≤ tk → Fr h₀ L h (fun z => if z = y then some (.ref D) else m z) → News h₀ L h ((D, lst ys) :: news) → Off1 D news → (∀ (k : Nat) v, ys[k]? = some v → V k v) → Q .next { s₁ with heap := h, toks := tk })
theorem Assign_ListComp_K {elt iter : Expr} {x y : Str} {px py : Pos} {scope : Scope} {cl : List (Str × Addr)} {pos spos : Pos} {Q : Flow → Shared → Prop} (F₀ : Fr h₀ L s.heap m) (hLe : env.locals = L)
    (hsw : swapsWith (.ListComp elt [⟨.Name x px, iter, [], 0⟩] scope pos) (some (.Name y py)) spos.line env = pure true)
    (hclos : closureFor scope env = pure cl) (hcell : ∀ z ∈ scope.names, z.2 ≠ .cell) (hkind : scope.kind = .function)
    (hnames : ∀ z ∈ scope.names, z.2 = .local → scope.names.lookup z.1 = some .local) (hx : scope.names.lookup x = some .local)
    (hy : env.kindOf y = some .local) (hp : (env.scope.kind == .class || (env.scope.kind == .module && env.locals != env.globals)) = false)
    (h : wpAny (model prog w) A (eval iter env) (CompK prog w A h₀ L m env elt x scope cl y Q) E s)
    (hs : ∀ x, foldedSetIterable iter env x = pure x := by intro _; rfl) :
    wpAny (model prog w) A (exec (.Assign [.Name y py] (.ListComp elt [⟨.Name x px, iter, [], 0⟩] scope pos) spos) env) Q E s := by
  subst hLe
  rw [exec_Assign_Name_used _ _ _ _ hsw]
  refine wpAny_bind (wpAny_standAt (wpAny_bind ?_))
  show wpAny _ A (do let _ ← comprehension (.ListComp elt [⟨.Name x px, iter, [], 0⟩] scope pos) scope env _ (newList []) false (eval iter env) (some (assign (.Name y py) env))) _ _ s
  refine wpAny_bind (wpAny_mono (wpAny_comprehension_free (use := some (assign (.Name y py) env)) (Q := fun _ s' => Q .next s') rfl hs hclos hkind hnames
    (wpAny_mono h (fun xv s₁ h₁ => ?_) fun _ _ e => e)) (fun _ s' hq => wpAny_pure (wpAny_pure hq)) fun _ _ e => e)
  obtain ⟨ax, its, kx, news, n0, V, rfl, hh, F, N, hm, hsz, hn0, turn, fin⟩ := h₁
  have hl : s₁.heap.IsList ax its := ⟨_, (N _ hm).1, rfl, kx, rfl⟩
  refine wpAny_pyIter_list hl ?_
  refine wpAny_newObj_type (wpAny_newFunctionEnv hcell (by intro y hy; simp at hy) (fun h₁ hns₁ hsb₁ => ?_) hkind)
  dsimp only at hns₁ hsb₁ ⊢
  have zI : ((s₁.heap.push { cls := .type "list_iterator", data := .fields #[.ref ax, .int 0 0] }).push { cls := .type "list", dict := none, data := .seq ([] : List Value).toArray }).objs.size = s₁.heap.objs.size + 1 + 1 := by rw [Heap.size_push, Heap.size_push]
  have zJ : (s₁.heap.push { cls := .type "list_iterator", data := .fields #[.ref ax, .int 0 0] }).objs.size = s₁.heap.objs.size + 1 := Heap.size_push ..
  rw [zI] at hns₁ hsb₁ ⊢
  rw [zJ]
  have old : ∀ b o, s₁.heap.get? b = some o → h₁.get? b = some o := fun b o e => hsb₁.extBut b o (Nat.ne_of_lt (Nat.lt_succ_of_lt (Nat.lt_succ_of_lt (Heap.lt_size e)))) (Heap.get?_push_of_some _ (Heap.get?_push_of_some _ (Heap.get?_push_of_some _ e)))
  have eI : h₁.get? s₁.heap.objs.size = some { cls := .type "list_iterator", data := .fields #[.ref ax, .int 0 0] } := hsb₁.extBut _ _ (Nat.ne_of_lt (Nat.lt_succ_of_lt (Nat.lt_succ_self _))) (Heap.get?_push_of_some _ (Heap.get?_push_of_some _ (Heap.get?_push_size _ rfl)))
  have eD : h₁.get? (s₁.heap.objs.size + 1) = some (lst []) := hsb₁.extBut _ _ (Nat.ne_of_lt (Nat.lt_succ_self _)) (Heap.get?_push_of_some _ (by rw [← zJ]; exact Heap.get?_push_size _ rfl))
  have fresh : ∀ a, s₁.heap.objs.size ≤ a → h₀.get? a = none := fun a ha => by
    cases e : h₀.get? a with
    | none => rfl
    | some o' => exact absurd (Heap.lt_size (F.keep a o' e)) (Nat.not_lt.mpr ha)
  have hL : env.locals < s₁.heap.objs.size := F.ns.lt
  have fresh₀ : h₀.get? env.locals = none := Heap.get?_none_of_le F.above
  have ap : KAp h₀ env.locals s₁.heap.objs.size (s₁.heap.objs.size + 1) (s₁.heap.objs.size + 1 + 1) news := by
    refine ⟨Nat.ne_of_lt (Nat.lt_succ_of_lt (Nat.lt_succ_self _)), Nat.ne_of_lt (Nat.lt_succ_self _), Nat.ne_of_lt (Nat.lt_succ_self _), Nat.ne_of_lt hL, Nat.ne_of_lt (Nat.lt_succ_of_lt (Nat.lt_succ_of_lt hL)), Nat.ne_of_lt (Nat.lt_succ_of_lt hL), fresh _ (Nat.le_refl _), fresh _ (Nat.le_succ_of_le (Nat.le_succ _)), fresh _ (Nat.le_succ _), fun p hp => ?_⟩
    have := Heap.lt_size (N p hp).1
    exact ⟨Nat.ne_of_lt this, Nat.ne_of_lt (Nat.lt_succ_of_lt (Nat.lt_succ_of_lt this)), Nat.ne_of_lt (Nat.lt_succ_of_lt this)⟩
  have o3 : Off3 s₁.heap.objs.size (s₁.heap.objs.size + 1 + 1) (s₁.heap.objs.size + 1) news := Off3.of ap.off
  have K : KSt h₀ env.locals m s₁.heap.objs.size (s₁.heap.objs.size + 1) (s₁.heap.objs.size + 1 + 1) ax news V n0 0 [] h₁ (s₁.toks + ([] : List (Str × Value)).length) := by
    refine ⟨⟨_, eI, rfl, rfl⟩, rfl, Nat.le_trans hn0 (Nat.le_add_right _ _), F.keeps old, ⟨_, hns₁⟩, fun p hp => ?_, fun k v hk => by simp at hk⟩
    rcases List.mem_cons.mp hp with rfl | hp
    · exact ⟨eD, Ne.symm ap.LD, ap.D0⟩
    · exact ⟨old _ _ (N p hp).1, (N p hp).2⟩
  have loop := fun (R : Result → Shared → Prop) (hR : _) => comp_loop (prog := prog) (w := w) (A := A) (s := s₁) (env := env) (elt := elt) (iter := iter) (x := x) (px := px) (scope := scope) (cl := cl) (pos := pos) (its := its) (kx := kx) (R := R) hh ap hm hsz hkind hx
    (fun i v oI oC m₂ ys h tk E' hv hn hC hx' F' N' => turn _ _ _ i v oI oC m₂ ys h tk E' hv hn hC hx' F' N' o3 ⟨ap.IC, ap.ID, Ne.symm ap.DC⟩) hR (Nat.zero_le _) K
  refine codeAny_compStart_list (loop _ ?_) ((Walks.list (prog := prog) (w := w) hh s₁.heap.objs.size ax (ap.off _ hm).1 its).self 0 _ _ _ ⟨K.it, ⟨_, old _ _ (N _ hm).1, rfl, kx, rfl⟩⟩ (loop _ ?_))
  all_goals (
    rintro ys h' tk hlen hn F' ⟨m', hn'⟩ N' hv
    show wpAny _ A (assign (.Name y py) env (.ref (s₁.heap.objs.size + 1))) _ _ _
    refine wpAny_assign_Name (wpAny_storeName_local hy F'.ns (fun h₂ hn₂ hs₂ => ?_) hp)
    have F₂ : Fr h₀ env.locals h₂ (fun z => if z = y then some (.ref (s₁.heap.objs.size + 1)) else m z) := ⟨hn₂, fun b o e => hs₂.extBut b o (fun q => by rw [q, fresh₀] at e; cases e) (F'.keep b o e), F'.above⟩
    refine ⟨m', hn'.sameBut hs₂ (Ne.symm ap.LC), fun h'' hs'' => fin (s₁.heap.objs.size + 1) ys h'' _ hlen ?_ (F₂.change hs'' (Ne.symm ap.LC) ap.C0) (fun p hp => ?_) o3.one hv⟩
    · show n0 ≤ tk + 1
      exact Nat.le_succ_of_le hn
    have z : h₂.get? p.1 = some p.2 := hs₂.extBut _ _ (N' p hp).2.1 (N' p hp).1
    refine ⟨hs''.extBut _ _ ?_ z, (N' p hp).2⟩
    rcases List.mem_cons.mp hp with rfl | hp
    · exact ap.DC
    · exact (ap.off p hp).2.1)
end
end
end
-- LwS
example : True := by
  w_top off
  k_with_none
  exact trivial
section
set_option maxHeartbeats 8000000
section
section
variable {prog : Program} {w : World} {A : Around} {E : Value → Shared → Prop} {s : Shared} {h₀ : Heap} {L : Addr} {m : Str → Option Value} {news : List (Addr × Obj)} {Q : Value → Shared → Prop}
theorem pick_strs (zs : List (Str × Tok)) : ∀ is : List Nat, is.filterMap ((strValues zs).toArray[·]?) = strValues (is.filterMap (zs[·]?))
  | [] => rfl
  | i :: is => by
    rw [List.filterMap_cons, List.filterMap_cons, pick_strs zs is]
    simp only [List.getElem?_toArray, strValues, List.getElem?_map]
    cases zs[i]? <;> rfl
theorem slice_strs {value slice : Expr} {l : Addr} {zs : List (Str × Tok)} {n z : Nat} {vl vu vk : Value} {lo hi st : Option Int} {ops : List Value} (is : List Nat) (F : Fr h₀ L s.heap m) (N : News h₀ L s.heap news) (hm : (l, strsO zs n) ∈ news) (pl : IsPart vl lo) (pu : IsPart vu hi) (pk : IsPart vk st) (h0 : st ≠ some 0) (hz : zs.length = z) (hz2 : z ≤ 1000)
    (his : sliceRange (sliceBounds lo hi st z).1 (sliceBounds lo hi st z).2.1 (sliceBounds lo hi st z).2.2 = is)
    (h : ∀ D h', Fr h₀ L h' m → News h₀ L h' ((D, strsO (is.filterMap (zs[·]?)) 0) :: news) → (∀ p ∈ news, p.1 < D) → Q (.ref D) { s with heap := h' })
    (hs : subscripted slice false (.ref l) (.ref s.heap.objs.size) = operate ops (getItem (.ref l) (.ref s.heap.objs.size))) (ht : ∀ r, letTemporaryGo value (.ref l) r = pure ()) :
    wpAny (model prog w) A (subscriptTail value slice (.ref l) (.ref s.heap.objs.size)) Q E { s with heap := s.heap.push { cls := .type "slice", data := .fields #[vl, vu, vk] } } := by
  have hl : s.heap.IsList l (strValues zs).toArray := ⟨_, (N _ hm).1, rfl, n, rfl⟩
  have hsz : (strValues zs).toArray.size = z := by simp [strValues, hz]
  refine kmk_slice3_lit F N hl pl pu pk h0 (zs := (slicePick (strValues zs).toArray lo hi st).toList) rfl (fun D h' F' N' l1 => h D h' F' ?_ l1) hs ht (by rw [hsz, PySem.sizeLine_eq]; omega)
  have e : (slicePick (strValues zs).toArray lo hi st).toList = strValues (is.filterMap (zs[·]?)) := by
    rw [← pick_strs, ← his, ← hsz]
    simp [slicePick]
  rw [e] at N'
  exact N'
end
structure SharedOk (a b : Str) : Prop where
  c : (sharedF a b).length < 1000
  la : a.length < 1000
  lb : b.length < 1000
  la2 : (Txt.replace a (Str.ofString "/") (Str.ofString "//./")).length < 1000
  lb2 : (Txt.replace b (Str.ofString "/") (Str.ofString "/.//")).length < 1000
  sa : Txt.startswith (Txt.replace a (Str.ofString "/") (Str.ofString "//./")) (Str.ofString "/") = true
  sb : Txt.startswith (Txt.replace b (Str.ofString "/") (Str.ofString "/.//")) (Str.ofString "/") = true
theorem p_sharedK {w : World} {mean : ExcName → Option Value} {mg mb : Str → Option Value} {a b : Str} {t u : Tok} (k : SharedOk a b) : Pure w mean mg mb 5 227 [.str a t, .str b u] (fun s => 0 < s.toks) (isLG (sharedF a b)) :=
  p_shared w mean mg mb a b _ _ t u k.la k.lb rfl rfl k.c k.la2 k.lb2 k.sa k.sb
theorem eo_len {α : Type} (l : List α) : ([0, 2, 4].filterMap (l[·]?) ++ [1, 3, 5].filterMap (l[·]?)).length ≤ 6 := by
  rw [List.length_append]
  exact Nat.add_le_add (List.length_filterMap_le (fun i : Nat => l[i]?) [0, 2, 4]) (List.length_filterMap_le (fun i : Nat => l[i]?) [1, 3, 5])
noncomputable def evenOdd {α : Type} (l : List α) : List α := [0, 2, 4].filterMap (l[·]?) ++ [1, 3, 5].filterMap (l[·]?)
noncomputable def sizeF (ps lz : List Str) (x : Str) : Int := ((((evenOdd ps).map (sharedF x) ++ lz).countP (· == x) : Nat) : Int) - 1
theorem evenOdd_map {α β : Type} (f : α → β) (l : List α) : evenOdd (l.map f) = (evenOdd l).map f := by
  have key : ∀ is : List Nat, is.filterMap ((l.map f)[·]?) = (is.filterMap (l[·]?)).map f := by
    intro is
    induction is with
    | nil => rfl
    | cons i is ih =>
      rw [List.filterMap_cons, List.filterMap_cons, ih]
      simp only [List.getElem?_map]
      cases l[i]? <;> rfl
  unfold evenOdd
  rw [key, key, List.map_append]
theorem strs_ofT {ys : List Value} {n n0 : Nat} {f : Nat → Str} (hl : ys.length = n) (h : ∀ (i : Nat) v, ys[i]? = some v → ∃ (z : Str) (t : Nat), v = .str z t ∧ z = f i ∧ LB n0 t) : ∃ zs : List (Str × Tok), ys = strValues zs ∧ zs.map (·.1) = (List.range n).map f ∧ ∀ p ∈ zs, LB n0 p.2 := by
  induction n generalizing ys with
  | zero => exact ⟨[], List.length_eq_zero_iff.mp hl, rfl, fun _ hp => nomatch hp⟩
  | succ n ih =>
    have hne : ys ≠ [] := fun e => by rw [e] at hl; cases hl
    obtain ⟨zs, e1, e2, e3⟩ := ih (ys := ys.dropLast) (by rw [List.length_dropLast, hl]; rfl) fun i v hv => h i v (by rw [List.getElem?_dropLast] at hv; split at hv <;> simp_all)
    obtain ⟨z, t, ht, hz, hb⟩ := h n (ys.getLast hne) (by rw [List.getLast_eq_getElem, List.getElem?_eq_getElem (by omega)]; simp [hl])
    refine ⟨zs ++ [(z, t)], ?_, by rw [List.map_append, e2, List.range_succ, List.map_append, hz]; rfl, fun p hp => ?_⟩
    · rw [← List.dropLast_concat_getLast hne, e1, ht]
      simp [strValues]
    · rcases List.mem_append.mp hp with hp | hp
      · exact e3 p hp
      · rw [List.mem_singleton.mp hp]; exact hb
theorem cntF_all (zs : List (Str × Tok)) (x : Str) : cntF zs x zs.length = (zs.map (·.1)).countP (· == x) := by
  unfold cntF
  rw [List.take_length, List.countP_map]
  rfl
theorem pick_eq {qs eo : List (Str × Tok)} {n : Nat} (f : Str → Str) (e : qs.map (·.1) = (List.range n).map fun j => f ((eo.map (·.1)).getD j S1)) (hn : n = eo.length) : qs.map (·.1) = (eo.map (·.1)).map f := by
  rw [e]
  exact map_rangeD (by rw [List.length_map]; exact hn)
theorem allLt_ne {d : Nat} : ∀ {l : List (Addr × Obj)}, AllLt d l → ∀ q ∈ l, q.1 ≠ d
  | [], _, _, hq => nomatch hq
  | _ :: _, h, q, hq => by
    rcases List.mem_cons.mp hq with rfl | hq
    · exact Nat.ne_of_lt h.1
    · exact allLt_ne h.2 q hq
theorem size_step {zs ss qs lz : List (Str × Tok)} {i : Nat} {x : Str} {tx : Tok} {sn : List (Int × Tok)} {t8 : Tok} (hi : zs[i]? = some (x, tx)) (hs : sn.map (·.1) = ((zs.map (·.1)).take i).map (sizeF (zs.map (·.1)) (lz.map (·.1))))
    (hq : qs.map (·.1) = ((evenOdd zs).map (·.1)).map (sharedF x)) : (sn ++ [((cntF (qs ++ lz) x (qs ++ lz).length : Int) - 1, t8)]).map (·.1) = ((zs.map (·.1)).take (i + 1)).map (sizeF (zs.map (·.1)) (lz.map (·.1))) := by
  have hx : (zs.map (·.1))[i]? = some x := by rw [List.getElem?_map, hi]; rfl
  rw [List.take_add_one, hx, List.map_append, List.map_append, hs, cntF_all, List.map_append, hq]
  simp [sizeF, evenOdd_map]
end
end
-- LwT
example : True := by
  w_top off
  k_with_none
  exact trivial
section
set_option maxHeartbeats 8000000
section
section
variable {w : World} {mean : ExcName → Option Value} {mg mb : Str → Option Value} {A₀ : Around} {base h₀ : Heap} {outer : List Env} {L : Addr} {m : Str → Option Value} {news : List (Addr × Obj)} {env : Env} {s : Shared} {dp un n : Nat} {gd : Option (List Code)} {f : Addr} {vs : List Value} {Q E : Value → Shared → Prop}
theorem tab_use {P : Value → Prop} {tb : List (Addr × Obj)} (H : PureTab w mean mg mb n f vs P) (B : Below A₀ base outer h₀) (F : Fr h₀ L s.heap m) (X : (KK w).In h₀) (N : News h₀ L s.heap (news ++ tb)) (T : Top topProg LL mean mg mb h₀) (hf : env.frame = some L) (hk : env.scope.kind = .function)
    (hc : CodeHd h₀ 233 229) (ht : TabAt tb) (hne : ∀ p ∈ news, ∀ q ∈ tb, p.1 ≠ q.1) (hd : dp + n < 900) (hu : un + 10 * n < 9000)
    (ret : ∀ (r : Value) (h' : Heap) (tk' : Nat) (tb' : List (Addr × Obj)), Fr h₀ L h' m → News h₀ L h' (news ++ tb') → TabAt tb' → (∀ p ∈ news, ∀ q ∈ tb', p.1 ≠ q.1) → P r → Q r { s with heap := h', toks := tk' }) :
    wpAny (model PG w) (AR dp un gd (env :: outer)) (call (.ref f) vs) Q E s := by
  obtain ⟨g, z1, q1⟩ := hide s.heap (tb.map (·.1))
  have nt : ∀ p ∈ tb, s.heap.get? p.1 = some p.2 ∧ p.1 ≠ L ∧ h₀.get? p.1 = none := fun p hp => N p (List.mem_append_right _ hp)
  have hkeep : ∀ b o, h₀.get? b = some o → g.get? b = some o := fun b o e => (q1 b o).mpr ⟨F.keep b o e, fun hm => by
    obtain ⟨p, hp, rfl⟩ := List.mem_map.mp hm
    rw [(nt p hp).2.2] at e; cases e⟩
  have F1 : Fr h₀ L g m := ⟨F.ns.at' fun o e => (q1 L o).mpr ⟨e, fun hm => by
    obtain ⟨p, hp, e2⟩ := List.mem_map.mp hm
    exact (nt p hp).2.1 e2⟩, hkeep, F.above⟩
  have B₁ := pushX B F1 hf hk
  have up : ∀ b o, g.get? b = some o → s.heap.get? b = some o := fun b o e => ((q1 b o).mp e).1
  have gn : ∀ p ∈ news, g.get? p.1 = some p.2 := fun p hp => (q1 _ _).mpr ⟨(N p (List.mem_append_left _ hp)).1, fun hm => by
    obtain ⟨q, hq, e⟩ := List.mem_map.mp hm
    exact hne p hp q hq e.symm⟩
  refine H dp un gd (env :: outer) base g s tb _ E up (Nat.le_of_eq z1) (fun p hp => ⟨(nt p hp).1, ?_⟩) ht (hc.keeps hkeep) ⟨rfl, B₁.stays, B₁.frames⟩ (X.keeps hkeep) (T.keeps hkeep) hd hu fun r h' tk' tb' hk' hl' ht' hP => ?_
  · cases e : g.get? p.1 with
    | none => rfl
    | some o => exact absurd (List.mem_map.mpr ⟨p, hp, rfl⟩) ((q1 _ _).mp e).2
  · refine ret r h' tk' tb' (F1.keeps hk') (fun p hp => ?_) ht' (fun p hp q hq e => ?_) hP
    · rcases List.mem_append.mp hp with hp | hp
      · exact ⟨hk' _ _ (gn p hp), (N p (List.mem_append_left _ hp)).2⟩
      · refine ⟨(hl' p hp).1, fun e => ?_, ?_⟩
        · obtain ⟨o, es, ep, e2, _⟩ := F1.ns
          rw [← e, (hl' p hp).2] at e2; cases e2
        · cases e2 : h₀.get? p.1 with
          | none => rfl
          | some o => have := (hl' p hp).2; rw [hkeep _ _ e2] at this; cases this
    · have := (hl' q hq).2
      rw [← e, gn p hp] at this; cases this
theorem it_use {P : Value → Prop} {args : Addr → List Value} {I l : Addr} {k : Nat} (H : PureIt w mean mg mb n f args vs P) (B : Below A₀ base outer h₀) (F : Fr h₀ L s.heap m) (X : (KK w).In h₀) (N : News h₀ L s.heap ((I, lit l 0) :: news)) (hm : (l, W.listOf vs.toArray k) ∈ news) (T : Top topProg LL mean mg mb h₀) (hf : env.frame = some L) (hk : env.scope.kind = .function)
    (hne : ∀ p ∈ news, p.1 ≠ I) (hd : dp + n < 900) (hu : un + 10 * n < 9000)
    (ret : ∀ (r : Value) (h' : Heap) (tk' : Nat), Fr h₀ L h' m → News h₀ L h' news → P r → Q r { s with heap := h', toks := tk' }) :
    wpAny (model PG w) (AR dp un gd (env :: outer)) (call (.ref f) (args I)) Q E s := by
  obtain ⟨g, z1, q1⟩ := hide s.heap [I]
  have nI := N _ (.head _)
  have hkeep : ∀ b o, h₀.get? b = some o → g.get? b = some o := fun b o e => (q1 b o).mpr ⟨F.keep b o e, fun hm => by rw [List.mem_singleton.mp hm, nI.2.2] at e; cases e⟩
  have F1 : Fr h₀ L g m := ⟨F.ns.at' fun o e => (q1 L o).mpr ⟨e, fun hm => nI.2.1 (List.mem_singleton.mp hm).symm⟩, hkeep, F.above⟩
  have B₁ := pushX B F1 hf hk
  have up : ∀ b o, g.get? b = some o → s.heap.get? b = some o := fun b o e => ((q1 b o).mp e).1
  have gn : ∀ p ∈ news, g.get? p.1 = some p.2 := fun p hp => (q1 _ _).mpr ⟨(N p (.tail _ hp)).1, fun hm => hne p hp (List.mem_singleton.mp hm)⟩
  refine H dp un gd (env :: outer) base g s I l _ E up (Nat.le_of_eq z1) (fun p hp => ?_) ⟨_, gn _ hm, rfl, k, rfl⟩ ⟨rfl, B₁.stays, B₁.frames⟩ (X.keeps hkeep) (T.keeps hkeep) hd hu fun r h' tk' hk' hP => ret r h' tk' (F1.keeps hk') (fun p hp => ⟨hk' _ _ (gn p hp), (N p (.tail _ hp)).2⟩) hP
  rw [List.mem_singleton.mp hp]
  refine ⟨nI.1, ?_⟩
  cases e : g.get? I with
  | none => rfl
  | some o => exact absurd (List.mem_singleton.mpr rfl) ((q1 _ _).mp e).2
end
open PyProof.Rows.LCg in
noncomputable def EltTab (h₀ : Heap) (L : Addr) (m : Str → Option Value) (led : List (Addr × Obj)) (s₁ : Shared) (V : Value → Prop) (y : Value) (s' : Shared) : Prop :=
  ∃ h' tk tb, s' = { s₁ with heap := h', toks := tk } ∧ Fr h₀ L h' m ∧ News h₀ L h' (led ++ tb) ∧ TabAt tb ∧ (∀ p ∈ led, ∀ q ∈ tb, p.1 ≠ q.1) ∧ V y
section
open PyProof.Rows.LCg
variable {prog : Program} {w : World} {A : Around} {h₀ : Heap} {L : Addr} {m : Str → Option Value} {env : Env} {elt : Expr} {x : Str} {scope : Scope} {cl : List (Str × Addr)} {s : Shared} {S : List (Addr × Obj) → Prop} {P : Nat → Value → Prop} {Fin : List Value → List (Addr × Obj) → Prop} {news : List (Addr × Obj)}
theorem tabs_rest {n : Nat} {tb : List (Addr × Obj)} (V : Nat → Value → Prop) (ht : TabAt tb) (hd : ∀ p ∈ news, ∀ q ∈ tb, p.1 ≠ q.1) (hS : ∀ tb, S (news ++ tb))
    (turn : ∀ i v I oI C oC D m₂ ys h tk tb (E' : Value → Shared → Prop), TabAt tb → (∀ p ∈ (I, oI) :: (C, oC) :: (D, lst ys) :: news, ∀ q ∈ tb, p.1 ≠ q.1) → i < n → P i v → ys.length = i → NsObj oC m₂ → m₂ x = some v → Fr h₀ L h m → News h₀ L h ((I, oI) :: (C, oC) :: (D, lst ys) :: (news ++ tb)) → ((@Ne Nat I C) ∧ (@Ne Nat I D) ∧ (@Ne Nat C D)) →
      wpAny (model prog w) A (eval elt (compEnvC scope cl C env)) (EltTab h₀ L m ((I, oI) :: (C, oC) :: (D, lst ys) :: news) { s with heap := h, toks := tk } (V i)) E' { s with heap := h, toks := tk })
    (fin : ∀ (ys : List Value) tb, TabAt tb → (∀ p ∈ news, ∀ q ∈ tb, p.1 ≠ q.1) → ys.length = n → (∀ (i : Nat) v, ys[i]? = some v → V i v) → Fin ys (news ++ tb)) : CompRest prog w A h₀ L m env elt x scope cl s S P Fin n 0 [] (news ++ tb) := by
  have key : ∀ (j i : Nat) (ys : List Value) (tb : List (Addr × Obj)), TabAt tb → (∀ p ∈ news, ∀ q ∈ tb, p.1 ≠ q.1) → i + j = n → ys.length = i → (∀ (k : Nat) v, ys[k]? = some v → V k v) → CompRest prog w A h₀ L m env elt x scope cl s S P Fin j i ys (news ++ tb) := by
    intro j
    induction j with
    | zero => intro i ys tb ht hd hi hy hv; exact CompRest.zero (fin ys tb ht hd (by omega) hv)
    | succ j ih =>
      intro i ys tb ht hd hi hy hv
      refine CompRest.succ ?_
      intro v I oI C oC D m₂ h tk E' hp hC hx F N off ne
      have hoff := off.mem
      have hd3 : ∀ p ∈ (I, oI) :: (C, oC) :: (D, lst ys) :: news, ∀ q ∈ tb, p.1 ≠ q.1 := fun p hp q hq e => by
        have ho := hoff q (List.mem_append_right _ hq)
        rcases List.mem_cons.mp hp with rfl | hp
        · exact ho.1 e.symm
        rcases List.mem_cons.mp hp with rfl | hp
        · exact ho.2.1 e.symm
        rcases List.mem_cons.mp hp with rfl | hp
        · exact ho.2.2 e.symm
        · exact hd p hp q hq e
      refine wpAny_mono (turn i v I oI C oC D m₂ ys h tk tb E' ht hd3 (by omega) hp hy hC hx F N ne) (fun y s₃ hr => ?_) fun _ _ e => e
      obtain ⟨h', tk', tb', e, F', N', ht', hd', hV⟩ := hr
      refine ⟨h', tk', news ++ tb', e, F', N', Off3.of fun p hp => ?_, hS tb', ih (i + 1) _ tb' ht' (fun p hp q hq => hd' p (.tail _ (.tail _ (.tail _ hp))) q hq) (by omega) (by simp [hy]) fun k u hk => ?_⟩
      · rcases List.mem_append.mp hp with hp | hp
        · exact hoff p (List.mem_append_left _ hp)
        · exact ⟨fun e => hd' _ (.head _) p hp e.symm, fun e => hd' _ (.tail _ (.head _)) p hp e.symm, fun e => hd' _ (.tail _ (.tail _ (.head _))) p hp e.symm⟩
      · rcases Nat.lt_trichotomy k ys.length with h1 | h1 | h1
        · rw [List.getElem?_append_left h1] at hk; exact hv k u hk
        · subst h1; simp at hk; subst hk; rw [hy]; exact hV
        · rw [List.getElem?_append_right (Nat.le_of_lt h1), List.getElem?_eq_none (by simp; omega)] at hk; cases hk
  exact key n 0 [] tb ht hd (by omega) rfl (by simp)
end
section
variable {prog : Program} {w : World} {A : Around} {E : Value → Shared → Prop} {s : Shared} {h₀ : Heap} {L : Addr} {m : Str → Option Value} {news : List (Addr × Obj)} {Q : Value → Shared → Prop}
theorem iter_own {l : Addr} {its : Array Value} {n : Nat} (F : Fr h₀ L s.heap m) (N : News h₀ L s.heap news) (hm : (l, W.listOf its n) ∈ news)
    (h : ∀ I h', Fr h₀ L h' m → News h₀ L h' ((I, lit l 0) :: news) → (∀ p ∈ news, p.1 < I) → Q (.ref I) { s with heap := h' }) : wpAny (model prog w) A (call (.builtin "iter") [.ref l]) Q E s :=
  iter_call (wpAny_pyIter_list ⟨_, (N _ hm).1, rfl, n, rfl⟩ (h _ _ (F.push _) (News.push F N _ rfl) fun q hq => Heap.lt_size (N q hq).1))
end
end
end
-- DctJ
example : True := by
  w_top off
  k_with_none
  exact trivial
section
open PyProof.Rows.LCg PyProof.Rows.LCt
section
section
variable {prog : Program} {w : World} {A : Around} {E : Value → Shared → Prop} {s : Shared} {env : Env} {h₀ : Heap} {body orelse : List Stmt} {Q : Flow → Shared → Prop} {m₀ : Str → Option Value} {news : List (Addr × Obj)}
theorem dictJ {x : Str} {px : Pos} {d : Addr} {lo : Obj} {kvs : List (Int × Value)} (J : Nat → (Str → Option Value) → List (Addr × Obj) → Nat → Prop)
    (hh : A.handled = none) (hm : (d, lo) ∈ news) (hd : Obj.IsDictOf (intKind prog w) lo kvs) (hds : (d == sysModules) = false) (F : Fr h₀ env.locals s.heap m₀) (N : News h₀ env.locals s.heap news)
    (hj : J 0 m₀ news s.toks)
    (turn : ∀ (i : Nat) k v t m₁ news₁ tk₀ tk₁ h₁ I o, kvs[i]? = some (k, v) → J i m₁ news₁ tk₀ → tk₀ ≤ tk₁ → o.cls = .type "dict_keyiterator" → (d, lo) ∈ news₁ → (∀ p ∈ news₁, @Ne Nat p.1 I) → Fr h₀ env.locals h₁ m₁ → News h₀ env.locals h₁ ((I, o) :: news₁) →
      wpAny (model prog w) A (assign (.Name x px) env (.int k t)) (fun _ s₃ => wpAny (model prog w) A (execs body env) (TurnT h₀ env.locals { s with heap := h₁, toks := tk₁ } [(I, o)] [(d, lo)] (fun m nx tk => tk₁ ≤ tk → J (i + 1) m nx tk) Q) E s₃) E { s with heap := h₁, toks := tk₁ })
    (fin : ∀ h' tk₀ tk m' news', Fr h₀ env.locals h' m' → News h₀ env.locals h' news' → J kvs.length m' news' tk₀ → tk₀ ≤ tk → wpAny (model prog w) A (execs orelse env) Q E { s with heap := h', toks := tk }) :
    wpAny (model prog w) A (pyIter (.ref d)) (fun it s₂ => LoopT prog w A h₀ env (.Name x px) body orelse Q E it s₂) E s := by
  have hax := N _ hm
  obtain ⟨es, ep, r⟩ := hd
  have hat : s.heap.DictAt (intKind prog w) d kvs ep := ⟨lo, es, hax.1, r⟩
  have hlt : d < s.heap.objs.size := Heap.lt_size hax.1
  have hne : d ≠ s.heap.objs.size := Nat.ne_of_lt hlt
  refine wpAny_pyIter_dict hds hat ?_
  have W := KTurns.ofWalks (target := .Name x px) (Walks.dictKeys (prog := prog) (w := w) (knd := intKind prog w) hh s.heap.objs.size d hne kvs ep) fun i v s Q E st q => letGo_keyiter st.1 q
  refine srcT (ws := [(s.heap.objs.size, "dict_keyiterator")]) (keep := [(d, lo)]) (tk0 := s.toks) W (fun i m nx tk => J i m nx tk ∧ ∀ p ∈ nx, p.1 ≠ s.heap.objs.size) (fun i h st => ?_) (fun b hb => ?_) (fun b hb => by simpa using hb) (fun b hb => ?_) ?_ (fun p hp hI => ?_) ?_ (F.push _) (fun p hp => ⟨Heap.get?_push_of_some _ (N p hp).1, (N p hp).2⟩) (And.intro hm trivial) ⟨hj, fun p hp => Nat.ne_of_lt (Heap.lt_size (N p hp).1)⟩ ?_ ?_
  · obtain ⟨it, hit, hic, _⟩ := st.1
    exact ⟨[(s.heap.objs.size, it)], ⟨⟨rfl, hic⟩, trivial⟩, fun p hp => by rw [List.mem_singleton.mp hp]; exact hit⟩
  · have hb' : b = s.heap.objs.size := by simpa using hb
    rw [hb']
    exact ⟨List.mem_cons_self .., next_is_new F⟩
  · have hb' : b = s.heap.objs.size ∨ b = d := by simpa using hb
    rcases hb' with e | e
    · exact .inl (by simp [e])
    · exact .inr (.inl ⟨lo, by simp [e]⟩)
  · intro hm'
    rcases List.mem_cons.mp hm' with e | hm'
    · exact absurd F.ns.lt (e ▸ Nat.lt_irrefl _)
    · exact hax.2.1 (List.mem_singleton.mp hm').symm
  · exact absurd (Heap.lt_size (N p hp).1) ((List.mem_singleton.mp hI) ▸ Nat.lt_irrefl _)
  · exact ⟨⟨_, Heap.get?_push_size _ rfl, rfl, rfl⟩, ⟨lo, es, Heap.get?_push_of_some _ hax.1, r⟩⟩
  · rintro i v m₁ news₁ h₁ tk₀ tk₁ hi ⟨k, y, hk2, hv⟩ ⟨hJ, hne⟩ hle hk F₁
    refine pack1 fun o ho N₁ => ?_
    obtain ⟨t, rfl⟩ : ∃ t, v = .int k t := by
      cases v <;> simp [intKind, Value.isInt] at hv
      subst hv
      exact ⟨_, rfl⟩
    refine with_toksL (n := tk₁) (Nat.le_refl _) (wpAny_mono (turn i k y t m₁ news₁ tk₀ tk₁ h₁ _ o hk2 hJ hle ho (hk.mem _ (.head _)) hne F₁ N₁) (fun _ s₂ h₂ hl => with_toksL hl (wpAny_mono h₂ (fun f s₃ p hl2 => TurnT.off ⟨o, .head _⟩ hl2 p) fun _ _ e => e)) fun _ _ e => e)
  · rintro h' tk₀ tk m' news' F' N' ⟨hJ, _⟩ hle _
    exact fin h' tk₀ tk m' news' F' N' hJ hle
end
end
end
-- OrB
example : True := by
  w_top off
  k_with_none
  exact trivial
section
set_option maxHeartbeats 8000000
section
noncomputable def Stop (P : Prop) : Prop := P
theorem Stop.intro {P : Prop} (h : Stop P) : P := h
theorem Stop.go {P : Prop} (h : P) : Stop P := h
noncomputable def ordBody (P : Params) : List Stmt := match (hd.heap_1 P).lookup 239 with
  | some ⟨_, _, .func fd, _⟩ => match fd.body with
    | .stmts b => b
    | _ => []
  | _ => []
noncomputable def ordScope (P : Params) : Scope := match (hd.heap_1 P).lookup 239 with
  | some ⟨_, _, .func fd, _⟩ => fd.scope
  | _ => { kind := .function, names := [], isGenerator := false, isCoroutine := false }
noncomputable def forBody : List Stmt → List Stmt
  | .For _ _ b _ _ :: _ => b
  | _ => []
noncomputable abbrev ordEnv (P : Params) (L : Addr) : Env := envOfC (Str.ofString "_law_orders") (ordScope P) L 239 (.ref 238)
end
end
-- PlA
example : True := by
  w_top off
  k_with_none
  exact trivial
section

section
noncomputable def bitF (made k : Int) : Int := Builtin.bitAnd (made.fdiv (2 ^ k.toNat)) 1
noncomputable def canF (ab : List Int) (made : Int) (k : Nat) : Bool := decide (bitF made (k : Int) = 0) && (decide (ab.getD k 0 < 0) || decide (bitF made (ab.getD k 0) = 1))
noncomputable def lateF (rk : List Int) (made : Int) (k : Nat) : Nat := ((List.range 6).filter fun j : Nat => decide (bitF made (j : Int) = 1) && decide (rk.getD k 0 < rk.getD j 0)).length
section
variable {α : Type}
noncomputable def gPut (c : List (Int × α)) (k : Int) (v : α) : List (Int × α) :=
  if c.any (fun p => decide (p.1 = k)) then c.map (fun p => if decide (p.1 = k) then (p.1, v) else p) else c ++ [(k, v)]
noncomputable def gLook (c : List (Int × α)) (k : Int) (d : α) : α := ((c.find? fun p => decide (p.1 = k)).map (·.2)).getD d
noncomputable def gK (add : α → α → α) (sh : α → Nat → α) (z : α) (ab rk : List Int) (c : List (Int × α)) (made : Int) (after : List (Int × α)) (k : Nat) : List (Int × α) :=
  if canF ab made k = true then gPut after (made + 2 ^ k) (add (gLook after (made + 2 ^ k) z) (sh (gLook c made z) (lateF rk made k))) else after
noncomputable def gM (add : α → α → α) (sh : α → Nat → α) (z : α) (ab rk : List Int) (c after : List (Int × α)) (made : Int) : List (Int × α) := (List.range 6).foldl (gK add sh z ab rk c made) after
noncomputable def gS (add : α → α → α) (sh : α → Nat → α) (z : α) (ab rk : List Int) (c : List (Int × α)) : List (Int × α) := (c.map (·.1)).foldl (gM add sh z ab rk c) []
noncomputable def gW (add : α → α → α) (sh : α → Nat → α) (z o : α) (ab rk : List Int) : Nat → List (Int × α)
  | 0 => [(0, o)]
  | i + 1 => gS add sh z ab rk (gW add sh z o ab rk i)
end
noncomputable abbrev shQ (q : Int) : Int → Nat → Int := fun v n => v * q ^ n
noncomputable abbrev ordW (ab rk : List Int) (q : Int) : Nat → List (Int × Int) := gW (· + ·) (shQ q) 0 1 ab rk
section
variable {α β : Type} (h : α → β)
noncomputable abbrev hm : Int × α → Int × β := fun p => (p.1, h p.2)
theorem gLook_hom (c : List (Int × α)) (k : Int) (d : α) : gLook (c.map (hm h)) k (h d) = h (gLook c k d) := by
  unfold gLook
  induction c with
  | nil => rfl
  | cons p c ih =>
    rw [List.map_cons, List.find?_cons, List.find?_cons]
    by_cases e : p.1 = k
    · simp [e]
    · simp [e]; simpa using ih
theorem gPut_hom (c : List (Int × α)) (k : Int) (v : α) : gPut (c.map (hm h)) k (h v) = (gPut c k v).map (hm h) := by
  unfold gPut
  have e : (c.map (hm h)).any (fun p => decide (p.1 = k)) = c.any (fun p => decide (p.1 = k)) := by rw [List.any_map]; rfl
  rw [e]
  split
  · rw [List.map_map, List.map_map]
    refine List.map_congr_left fun p _ => ?_
    show (if decide (p.1 = k) = true then (p.1, h v) else hm h p) = hm h (if decide (p.1 = k) = true then (p.1, v) else p)
    split <;> rfl
  · rw [List.map_append]; rfl
variable {add : α → α → α} {sh : α → Nat → α} {z o : α} {add' : β → β → β} {sh' : β → Nat → β} (h1 : ∀ a b, h (add a b) = add' (h a) (h b)) (h2 : ∀ a n, h (sh a n) = sh' (h a) n) (ab rk : List Int)
include h1 h2
theorem gK_hom (c : List (Int × α)) (made : Int) (after : List (Int × α)) (k : Nat) : gK add' sh' (h z) ab rk (c.map (hm h)) made (after.map (hm h)) k = (gK add sh z ab rk c made after k).map (hm h) := by
  unfold gK
  split
  · rw [gLook_hom, gLook_hom, ← h2, ← h1, gPut_hom]
  · rfl
theorem gM_hom (c after : List (Int × α)) (made : Int) : gM add' sh' (h z) ab rk (c.map (hm h)) (after.map (hm h)) made = (gM add sh z ab rk c after made).map (hm h) := by
  unfold gM
  generalize List.range 6 = l
  induction l generalizing after with
  | nil => rfl
  | cons k l ih => rw [List.foldl_cons, List.foldl_cons, gK_hom h h1 h2, ih]
theorem gS_hom (c : List (Int × α)) : gS add' sh' (h z) ab rk (c.map (hm h)) = (gS add sh z ab rk c).map (hm h) := by
  unfold gS
  have e : (c.map (hm h)).map (·.1) = c.map (·.1) := by rw [List.map_map]; rfl
  rw [e]
  have key : ∀ (l : List Int) (after : List (Int × α)), l.foldl (gM add' sh' (h z) ab rk (c.map (hm h))) (after.map (hm h)) = (l.foldl (gM add sh z ab rk c) after).map (hm h) := by
    intro l
    induction l with
    | nil => intro after; rfl
    | cons k l ih => intro after; rw [List.foldl_cons, List.foldl_cons, gM_hom h h1 h2, ih]
  exact key _ []
theorem gW_hom (i : Nat) : gW add' sh' (h z) (h o) ab rk i = (gW add sh z o ab rk i).map (hm h) := by
  induction i with
  | zero => rfl
  | succ i ih => unfold gW; rw [ih, gS_hom h h1 h2]
end
noncomputable def evP (q : Int) : List Int → Int
  | [] => 0
  | a :: p => a + q * evP q p
noncomputable def addP : List Int → List Int → List Int
  | [], b => b
  | a, [] => a
  | x :: a, y :: b => (x + y) :: addP a b
noncomputable def shP (a : List Int) : Nat → List Int
  | 0 => a
  | n + 1 => 0 :: shP a n
noncomputable def mulP : List Int → List Int → List Int
  | [], _ => []
  | x :: a, b => addP (b.map (x * ·)) (0 :: mulP a b)
noncomputable def onesP : Nat → List Int
  | 0 => []
  | n + 1 => 1 :: onesP n
theorem evP_add (q : Int) : ∀ a b, evP q (addP a b) = evP q a + evP q b
  | [], b => by simp [addP, evP]
  | x :: a, [] => by simp [addP, evP]
  | x :: a, y :: b => by simp only [addP, evP]; rw [evP_add q a b, Int.mul_add]; omega
theorem evP_sh (q : Int) (a : List Int) : ∀ n, evP q (shP a n) = evP q a * q ^ n
  | 0 => by simp [shP]
  | n + 1 => by simp only [shP, evP]; rw [evP_sh q a n, Int.pow_succ, Int.zero_add, Int.mul_comm q, Int.mul_assoc]
theorem evP_smul (q x : Int) : ∀ b, evP q (b.map (x * ·)) = x * evP q b
  | [] => by simp [evP]
  | y :: b => by simp only [List.map_cons, evP]; rw [evP_smul q x b, Int.mul_add, ← Int.mul_assoc, ← Int.mul_assoc, Int.mul_comm q x]
theorem evP_mul (q : Int) : ∀ a b, evP q (mulP a b) = evP q a * evP q b
  | [], b => by simp [mulP, evP]
  | x :: a, b => by simp only [mulP, evP]; rw [evP_add, evP_smul]; simp only [evP]; rw [evP_mul q a b, Int.add_mul, Int.mul_assoc]; omega
theorem evP_ones (q : Int) : ∀ n, evP q (onesP n) = redF (fun x _ => x * q + 1) 0 n
  | 0 => rfl
  | n + 1 => by
    show 1 + q * evP q (onesP n) = redF (fun x _ => x * q + 1) 0 n * q + 1
    rw [evP_ones q n, Int.mul_comm]; omega
theorem ord_poly (ab rk : List Int) (q : Int) (i : Nat) : ordW ab rk q i = (gW addP shP [] [1] ab rk i).map (hm (evP q)) := by
  have h := gW_hom (evP q) (add := addP) (sh := shP) (z := []) (o := [1]) (add' := (· + ·)) (sh' := shQ q) (evP_add q) (evP_sh q) ab rk i
  have e1 : evP q [1] = 1 := by simp [evP]
  rw [e1] at h
  exact h
theorem natAbs_evP {q : Int} {Q : Nat} (hq : q.natAbs ≤ Q) : ∀ p : List Int, ((evP q p).natAbs : Int) ≤ evP (Q : Int) (p.map fun x => (x.natAbs : Int))
  | [] => by simp [evP]
  | a :: p => by
    have ih := natAbs_evP hq p
    simp only [List.map_cons, evP]
    have h1 : (a + q * evP q p).natAbs ≤ a.natAbs + (q * evP q p).natAbs := Int.natAbs_add_le ..
    have h2 : (q * evP q p).natAbs = q.natAbs * (evP q p).natAbs := Int.natAbs_mul ..
    have h3 : q.natAbs * (evP q p).natAbs ≤ Q * (evP q p).natAbs := Nat.mul_le_mul_right _ hq
    have h4 : (Q : Int) * ((evP q p).natAbs : Int) ≤ (Q : Int) * evP (Q : Int) (p.map fun x => (x.natAbs : Int)) := Int.mul_le_mul_of_nonneg_left ih (by omega)
    have h5 : ((Q * (evP q p).natAbs : Nat) : Int) = (Q : Int) * ((evP q p).natAbs : Int) := by simp
    omega
theorem bits_evP {q : Int} (h1 : -50 ≤ q) (h2 : q ≤ 49) {p : List Int} {m : Nat} (h : evP 50 (p.map fun x => (x.natAbs : Int)) < ((2 ^ m : Nat) : Int)) : Builtin.Int.intBits (evP q p) ≤ m := by
  refine PySem.intBits_le_iff.mpr ?_
  exact Int.ofNat_lt.mp (Int.lt_of_le_of_lt (natAbs_evP (q := q) (Q := 50) (by omega) p) h)
end
end
-- Or1
example : True := by
  w_top off
  k_with_none
  exact trivial
section
set_option maxHeartbeats 8000000
section
example : True := by
  k_with "k_ne" => (refine neN ?_; (try dsimp only); first | exact hne.1 | exact Ne.symm hne.1 | exact hne.2.1 | exact Ne.symm hne.2.1 | exact hne.2.2.1 | exact Ne.symm hne.2.2.1 | exact hne.2.2.2 | exact Ne.symm hne.2.2.2 | (clear hne; omega) | omega)
  k_with "k_all" => (with_reducible assumption)
  exact trivial
section
variable {prog : Program} {w : World} {A : Around} {E : Value → Shared → Prop} {s : Shared} {h₀ : Heap} {L : Addr} {m : Str → Option Value}
theorem itemG {Q : Value → Shared → Prop} {value slice : Expr} {l : Addr} {nt : List (Int × Tok)} {k : Int} {j : Nat} {u : Tok} (F : Fr h₀ L s.heap m) (hl : h₀.IsList l (intsV nt).toArray) (h6 : j < nt.length) (hk : k = (j : Int)) (hj : j < 2000) (h : ∀ t, Q (.int ((nt.map (·.1)).getD j 0) t) s)
    (hs : subscripted slice false (.ref l) (.int k u) = operate [.ref l, .int k u] (getItem (.ref l) (.int k u)) := by with_unfolding_all rfl) :
    wpAny (model prog w) A (subscriptTail value slice (.ref l) (.int k u)) Q E s := by
  have hl' : s.heap.IsList l (intsV nt).toArray := by
    obtain ⟨o, e, r⟩ := hl
    exact ⟨o, F.keep _ _ e, r⟩
  subst hk
  refine tail_any hl'.typeIs slot_list_getitem.lookup (wpAny_getItem_list hl' (Int.natCast_nonneg j) (by omega) (x := .int ((nt.map (·.1)).getD j 0) nt[j].2) ?_ (h _)) hs
  simp [intsV, List.getD_eq_getElem?_getD, List.getElem?_eq_getElem h6]
end
theorem two_more {a b c d : Option Value} {R : Str → Option Value} : (fun y => if y = Str.ofString "more" then a else if y = Str.ofString "late" then b else if y = Str.ofString "more" then c else if y = Str.ofString "late" then d else R y) = fun y => if y = Str.ofString "more" then a else if y = Str.ofString "late" then b else R y := by
  funext y
  by_cases h1 : y = Str.ofString "more"
  · simp only [if_pos h1]
  · by_cases h2 : y = Str.ofString "late"
    · simp only [if_neg h1, if_pos h2]
    · simp only [if_neg h1, if_neg h2]
theorem Fr.two {g h : Heap} {L : Addr} {a b c d : Option Value} {R : Str → Option Value} (F : Fr g L h (fun y => if y = Str.ofString "more" then a else if y = Str.ofString "late" then b else if y = Str.ofString "more" then c else if y = Str.ofString "late" then d else R y)) : Fr g L h (fun y => if y = Str.ofString "more" then a else if y = Str.ofString "late" then b else R y) := two_more (c := c) (d := d) ▸ F
noncomputable def CondR (b0 : Bool) (s : Shared) (b : Bool) (s' : Shared) : Prop := b = b0 ∧ ∃ tk, s' = { s with toks := tk }
theorem if_R {env : Env} {prog : Program} {w : World} {A : Around} {s : Shared} {E : Value → Shared → Prop} {test : Expr} {body orelse : List Stmt} {pos : Pos} {Q : Flow → Shared → Prop} (b0 : Bool)
    (h : wpAny (model prog w) A (isTrue test env (eval test env)) (CondR b0 s) E s)
    (h1 : ∀ tk, b0 = true → wpAny (model prog w) A (execs body env) Q E { s with toks := tk }) (h2 : ∀ tk, b0 = false → wpAny (model prog w) A (execs orelse env) Q E { s with toks := tk }) :
    wpAny (model prog w) A (exec (.If test body orelse pos) env) Q E s := by
  refine wpAny_If (wpAny_mono h ?_ fun _ _ e => e)
  rintro b s' ⟨rfl, tk, rfl⟩
  cases b with
  | true => exact h1 tk rfl
  | false => exact h2 tk rfl
theorem late_y {rk : List Int} {made : Int} {k j : Nat} (h : Builtin.bitAnd (made.fdiv (2 ^ (0 + (j : Int)).toNat)) 1 = 1) (h2 : rk.getD k 0 < rk.getD j 0) : (decide (bitF made (j : Int) = 1) && decide (rk.getD k 0 < rk.getD j 0)) = true := by
  rw [Int.zero_add] at h
  unfold bitF; rw [decide_eq_true h, decide_eq_true h2]; rfl
theorem late_n1 {rk : List Int} {made : Int} {k j : Nat} (h : ¬ Builtin.bitAnd (made.fdiv (2 ^ (0 + (j : Int)).toNat)) 1 = 1) : (decide (bitF made (j : Int) = 1) && decide (rk.getD k 0 < rk.getD j 0)) = false := by
  rw [Int.zero_add] at h
  unfold bitF; rw [decide_eq_false h]; rfl
theorem late_n2 {rk : List Int} {made : Int} {k j : Nat} (h2 : ¬ rk.getD k 0 < rk.getD j 0) : (decide (bitF made (j : Int) = 1) && decide (rk.getD k 0 < rk.getD j 0)) = false := by
  rw [decide_eq_false h2, Bool.and_false]
theorem late_len {rk : List Int} {made : Int} {k : Nat} {zs : List (Int × Tok)} (h : zs.map (·.1) = ((List.range 6).filter fun j : Nat => decide (bitF made (j : Int) = 1) && decide (rk.getD k 0 < rk.getD j 0)).map fun j : Nat => 0 + (j : Int)) : zs.length = lateF rk made k := by
  have h1 := congrArg List.length h
  rw [List.length_map, List.length_map] at h1
  exact h1
theorem late_le (rk : List Int) (made : Int) (k : Nat) : lateF rk made k ≤ 6 := Nat.le_trans (List.length_filter_le ..) (by rw [List.length_range]; exact Nat.le_refl _)
theorem len_I {prog : Program} {w : World} {A : Around} {s : Shared} {E : Value → Shared → Prop} {h₀ : Heap} {L : Addr} {news : List (Addr × Obj)} {l : Addr} {zs : List (Int × Tok)} {n : Nat} {Q : Value → Shared → Prop} (N : News h₀ L s.heap news) (hm : (l, LCg.lst (intsV zs)) ∈ news) (hk : zs.length = n) (hz : n ≤ 6) (h : ∀ t tk, Q (.int (n : Int) t) { s with toks := tk }) :
    wpAny (model prog w) A (call (.builtin "len") [.ref l]) Q E s := by
  subst hk
  refine kun_lenL (items := (intsV zs).toArray) (k := (zs.length : Int)) ⟨_, (N _ hm).1, rfl, _, rfl⟩ ?_ (by omega) (h _ _)
  rw [List.size_toArray]
  unfold intsV
  rw [List.length_map]
theorem qn_bits {q : Int} {n : Nat} (hq : -50 ≤ q ∧ q ≤ 49) (hn : n ≤ 6) : Builtin.Int.intBits (q ^ ((n : Int)).toNat) ≤ 64 := by
  have h := PySem.intBits_pow_le (x := q) (m := 6) (PySem.intBits_le_iff.mpr (by omega)) n
  exact Nat.le_trans h (by omega)
theorem can_no {ab : List Int} {made : Int} {k : Nat} (h : ¬ Builtin.bitAnd (made.fdiv (2 ^ ((k : Int)).toNat)) 1 = 0) : false = canF ab made k := by
  unfold canF bitF; rw [decide_eq_false h]; rfl
theorem can_yes {ab : List Int} {made : Int} {k : Nat} (h : Builtin.bitAnd (made.fdiv (2 ^ ((k : Int)).toNat)) 1 = 0) (h2 : ab.getD k 0 < 0) : true = canF ab made k := by
  unfold canF bitF; rw [decide_eq_true h, decide_eq_true h2]; rfl
theorem can_yes2 {ab : List Int} {made : Int} {k : Nat} (h : Builtin.bitAnd (made.fdiv (2 ^ ((k : Int)).toNat)) 1 = 0) (h3 : Builtin.bitAnd (made.fdiv (2 ^ (ab.getD k 0).toNat)) 1 = 1) : true = canF ab made k := by
  unfold canF bitF; rw [decide_eq_true h, decide_eq_true h3, Bool.or_true]; rfl
theorem can_no2 {ab : List Int} {made : Int} {k : Nat} (h2 : ¬ ab.getD k 0 < 0) (h3 : ¬ Builtin.bitAnd (made.fdiv (2 ^ (ab.getD k 0).toNat)) 1 = 1) : false = canF ab made k := by
  unfold canF bitF; rw [decide_eq_false h2, decide_eq_false h3, Bool.or_false, Bool.and_false]
example : True := by
  k_with "subscriptTail" => (k_here; (with_reducible show wpAny _ _ (subscriptTail (Expr.Name (Str.ofString "above") _) _ (Value.ref _) (Value.int _ _)) _ _ _); k_dflt (refine' itemG ?Fzq ?lzq ?h6zq rfl ?jzq ?_ ?szq; (case Fzq => k_asm); (case lzq => assumption); (case h6zq => omega); (case jzq => omega); (case szq => with_unfolding_all rfl)); intro t')
  k_with "subscriptTail" => (k_here; (with_reducible show wpAny _ _ (subscriptTail (Expr.Name (Str.ofString "ranks") _) _ (Value.ref _) (Value.int _ _)) _ _ _); k_dflt (refine' itemG ?Fzq ?lzq ?h6zq (Int.zero_add _) ?jzq ?_ ?szq; (case Fzq => k_asm); (case lzq => assumption); (case h6zq => omega); (case jzq => omega); (case szq => with_unfolding_all rfl)); intro t')
  k_with "subscriptTail" => (k_here; (with_reducible show wpAny _ _ (subscriptTail (Expr.Name (Str.ofString "ranks") _) _ (Value.ref _) (Value.int _ _)) _ _ _); k_dflt (refine' itemG ?Fzq ?lzq ?h6zq rfl ?jzq ?_ ?szq; (case Fzq => k_asm); (case lzq => assumption); (case h6zq => omega); (case jzq => omega); (case szq => with_unfolding_all rfl)); intro t')
  k_with "eval ListComp" => (k_here; (with_reducible show wpAny _ _ (eval (Expr.ListComp _ [⟨_, _, [_], _⟩] _ _) _) _ _ _); k_dflt (refine LCt.ListComp_T (F₀ := by k_asm) (by with_unfolding_all rfl) (by decide) (by rfl) (by decide) (by rfl) ?_))
  k_with "IFltYes" => (refine Stop.intro ?_)
  k_with "IFltNo" => (refine Stop.intro ?_)
  k_with "CondR" => (refine Stop.intro ?_)
  k_with "exec If" => (refine Stop.intro ?_)
  k_with "call builtin:len" => (refine Stop.intro ?_)
  k_with "binaryOp Mult int int" => (k_here; k_dflt (refine PyProof.Rows.mul_int ?_ (IntMulOk.of_right (qn_bits (by assumption) (by assumption)))))
  k_with "setItem ref int" => (refine Stop.intro ?_)
  k_with "CompSrcT" => (refine Stop.intro ?_)
  k_with "TurnT" => (refine Stop.intro ?_)
  exact trivial
variable {w : World} {mean : ExcName → Option Value} {mg mb : Str → Option Value} {dp un : Nat} {gd : Option (List Code)} {outer : List Env} {base g : Heap} {Q : Flow → Shared → Prop} {E : Value → Shared → Prop} {s : Shared} {L : Nat}
  (B : Below (AR dp un gd outer) base outer g) (X : (KK w).In g) (T : Top topProg LL mean mg mb g) (hdp : dp + 3 < 900) (hun : un + 10 * 3 < 9000)
include B X T hdp hun
theorem ord_if {oR oM oK oa ow : Obj} {la lr aw aa : Nat} {ab rk : List (Int × Tok)} {made : Int} {k : Nat} {tm tk' tq tst : Tok} {q st : Int} {kvw kva : List (Int × Value)} {c after : List (Int × Int)} {u1 u2 : Option Value} {tl : List (Addr × Obj)}
    (F : Fr g L s.heap (fun y => if y = Str.ofString "more" then u2 else if y = Str.ofString "late" then u1 else if y = Str.ofString "after" then some (Value.ref aa) else if y = Str.ofString "step" then some (Value.int st tst) else if y = Str.ofString "ways" then some (Value.ref aw) else if y = Str.ofString "q" then some (Value.int q tq) else if y = Str.ofString "above" then some (Value.ref la) else none))
    (N : News g L s.heap ((aa, oa) :: (aw, ow) :: (L + 1 + 1 + 1, oK) :: (L + 1 + 1, oM) :: (L + 1, oR) :: tl))
    (dR : oR.data = .cell (some (.ref lr))) (dM : oM.data = .cell (some (.int made tm))) (dK : oK.data = .cell (some (.int (0 + (k : Int)) tk'))) (hla : g.IsList la (intsV ab).toArray) (hlr : g.IsList lr (intsV rk).toArray)
    (hsa : ((aa : Addr) == sysModules) = false) (hsw : ((aw : Addr) == sysModules) = false) (hk : k < 6) (hkm : kdfHas c made = true) (hcl : c.length ≤ 100000) (hal : after.length ≤ 100000) (hab : ab.length = 6) (hrk : rk.length = 6) (hq : -50 ≤ q ∧ q ≤ 49)
    (dw : ow.IsDictOf (PySem.intKind PG w) kvw) (fw : PyProof.V.FlatPairs PyData.int kvw (kdfD c)) (da : oa.IsDictOf (PySem.intKind PG w) kva) (fa : PyProof.V.FlatPairs PyData.int kva (kdfD after))
    (hne : aw ≠ aa ∧ L + 1 + 1 + 1 ≠ aa ∧ L + 1 + 1 ≠ aa ∧ L + 1 ≠ aa) (hta : ∀ p ∈ tl, p.1 ≠ aa)
    (next : ∀ (h' : Heap) (tk : Nat) (oa' : Obj) (kva' : List (Int × Value)) (u1 u2 : Option Value), Fr g L h' (fun y => if y = Str.ofString "more" then u2 else if y = Str.ofString "late" then u1 else if y = Str.ofString "after" then some (Value.ref aa) else if y = Str.ofString "step" then some (Value.int st tst) else if y = Str.ofString "ways" then some (Value.ref aw) else if y = Str.ofString "q" then some (Value.int q tq) else if y = Str.ofString "above" then some (Value.ref la) else none) →
      News g L h' ((aa, oa') :: (aw, ow) :: (L + 1 + 1 + 1, oK) :: (L + 1 + 1, oM) :: (L + 1, oR) :: tl) → oa'.IsDictOf (PySem.intKind PG w) kva' → PyProof.V.FlatPairs PyData.int kva' (kdfD (gK (· + ·) (shQ q) 0 (ab.map (·.1)) (rk.map (·.1)) c made after k)) →
      Q .next { s with heap := h', toks := tk }) :
    wpAny (model PG w) ((AR dp un gd outer).deeper (ordEnv w.params L)) (execs (forBody (forBody ((forBody ((ordBody w.params).drop 1)).drop 1))) (ordEnv w.params L)) Q E s := by
  dsimp only [PG, KK, LL, ordEnv] at *
  generalize hsc : ordScope w.params = sc
  generalize hbo : forBody (forBody ((forBody ((ordBody w.params).drop 1)).drop 1)) = bo
  rw [Int.zero_add] at dK
  conv at hsc => lhs; whnf
  conv at hbo => lhs; whnf
  subst hsc hbo
  revert X; k_fill; intro X
  k_steps
  rename News _ _ _ _ => NN
  rename Fr _ _ _ _ => FF
  with_reducible refine Stop.go ?_
  refine if_R (canF (ab.map (·.1)) made k) ?cond ?yes ?no
  case cond =>
    k_steps
    all_goals (with_reducible refine Stop.go ?_)
    all_goals refine ⟨?_, _, rfl⟩
    all_goals first | exact can_no (by assumption) | exact can_yes (by assumption) (by assumption) | exact can_yes2 (by assumption) (by assumption) | exact can_no2 (by assumption) (by assumption) | skip
  case no =>
    intro tk0 hc
    k_steps
    refine next _ _ _ _ _ _ FF NN da ?_
    unfold gK
    rw [if_neg (by rw [hc]; exact Bool.false_ne_true)]
    exact fa
  case yes =>
    intro tk0 hc
    k_steps
    rename News _ _ _ _ => NN2
    rename Fr _ _ _ _ => FF2
    try clear FF NN
    with_reducible refine Stop.go ?_
    rename IsRange _ _ _ _ _ _ _ _ => rgX
    refine LCt.CompSrcT.range (n := 6) rfl FF2 NN2 rgX (by decide) rfl (by decide) ?_
    intro g'
    refine fltI_rest (fun j : Nat => decide (bitF made (j : Int) = 1) && decide ((rk.map (·.1)).getD k 0 < (rk.map (·.1)).getD j 0)) (fun j : Nat => 0 + (j : Int)) True.intro ?ct ?cf
    case ct =>
      clear rgX FF2 NN2
      rintro j v I2 oI C oC D2 m₂ ys h tk' E' hj ⟨tj, rfl⟩ hC hx F' N' off' ne'
      clear ne'
      k_steps
      all_goals (with_reducible refine Stop.go ?_)
      all_goals first
        | exact IFltYes.intro F' N' (subL_of fun _ h => h) (late_y (by assumption) (by assumption))
        | exact IFltNo.intro F' N' (subL_of fun _ h => h) (late_n1 (by assumption))
        | exact IFltNo.intro F' N' (subL_of fun _ h => h) (late_n2 (by assumption))
        | skip
    case cf =>
      clear rgX FF2 NN2
      intro zs hz
      have hzl := flt_len hz
      k_steps
      rename News _ _ _ _ => NN3
      rename Fr _ _ _ _ => FF3
      with_reducible refine Stop.go ?_
      refine len_I NN3 (.head _) (late_len hz) (late_le _ _ _) ?_
      intro t9 tk9
      clear hz hzl
      have hnle := late_le (rk.map (·.1)) made k
      generalize hnn : lateF (rk.map (·.1)) made k = n at hnle ⊢
      k_steps
      rename News _ _ _ _ => NN4
      rename Fr _ _ _ _ => FF4
      with_reducible refine Stop.go ?_
      have N5 : News g L _ ((aa, oa) :: (aw, ow) :: (L + 1 + 1 + 1, oK) :: (L + 1 + 1, oM) :: (L + 1, oR) :: tl) := fun p hp => NN4 p (.tail _ hp)
      refine kdf_setItem FF4 N5 (.head ?up) da fa (by omega) ?_
      case up =>
        intro p hp
        iterate 4 (rcases List.mem_cons.mp hp with rfl | hp; · k_ne)
        exact hta p hp
      intro h' o' kvs' F' N' d' f'
      k_steps
      have F6 := Fr.two F'
      refine next _ _ _ _ _ _ F6 N' d' ?_
      unfold gK
      rw [if_pos hc, hnn]
      exact f'
end
end
-- Or2
example : True := by
  w_top off
  k_with_none
  exact trivial
section
set_option maxHeartbeats 8000000
section
theorem gPut_len {α : Type} (c : List (Int × α)) (k : Int) (v : α) : (gPut c k v).length ≤ c.length + 1 := by
  unfold gPut
  split
  · rw [List.length_map]; omega
  · rw [List.length_append]; exact Nat.le_refl _
theorem gK_len {α : Type} (add : α → α → α) (sh : α → Nat → α) (z : α) (ab rk : List Int) (c : List (Int × α)) (made : Int) (after : List (Int × α)) (k : Nat) : (gK add sh z ab rk c made after k).length ≤ after.length + 1 := by
  unfold gK
  split
  · exact gPut_len _ _ _
  · exact Nat.le_succ _
theorem elimJ4 {U1 U2 A B C D : Sort _} {M : U1 → U2 → Str → Option Value} {X : A → B → List (Addr × Obj)} {R : A → B → C → D → Prop} {m : Str → Option Value} {nx : List (Addr × Obj)} {P : (Str → Option Value) → List (Addr × Obj) → Prop}
    (h : (∃ u1 u2, m = M u1 u2) ∧ ∃ a b c d, nx = X a b ∧ R a b c d) (k : ∀ u1 u2 a b c d, R a b c d → P (M u1 u2) (X a b)) : P m nx := by
  obtain ⟨⟨u1, u2, rfl⟩, a, b, c, d, rfl, r⟩ := h
  exact k u1 u2 a b c d r
theorem off5 {a b c d e : Addr × Obj} {tl : List (Addr × Obj)} {I : Nat} (h : ∀ p ∈ a :: b :: c :: d :: e :: tl, @Ne Nat p.1 I) : @Ne Nat a.1 I ∧ @Ne Nat b.1 I ∧ @Ne Nat c.1 I ∧ @Ne Nat d.1 I ∧ @Ne Nat e.1 I ∧ ∀ p ∈ tl, @Ne Nat p.1 I :=
  ⟨h a (.head _), h b (.tail _ (.head _)), h c (.tail _ (.tail _ (.head _))), h d (.tail _ (.tail _ (.tail _ (.head _)))), h e (.tail _ (.tail _ (.tail _ (.tail _ (.head _))))), fun p hp => h p (.tail _ (.tail _ (.tail _ (.tail _ (.tail _ hp)))))⟩
theorem offl5 {a b c d e : Addr × Obj} {tl : List (Addr × Obj)} {I : Nat} {o : Obj} (h : @Ne Nat a.1 I ∧ @Ne Nat b.1 I ∧ @Ne Nat c.1 I ∧ @Ne Nat d.1 I ∧ @Ne Nat e.1 I ∧ ∀ p ∈ tl, @Ne Nat p.1 I) : ∀ p ∈ a :: b :: c :: d :: e :: tl, ∀ q ∈ [((I : Addr), o)], p.1 ≠ q.1 := fun p hp q hq => by
  rw [List.mem_singleton.mp hq]
  rcases List.mem_cons.mp hp with rfl | hp; · exact h.1
  rcases List.mem_cons.mp hp with rfl | hp; · exact h.2.1
  rcases List.mem_cons.mp hp with rfl | hp; · exact h.2.2.1
  rcases List.mem_cons.mp hp with rfl | hp; · exact h.2.2.2.1
  rcases List.mem_cons.mp hp with rfl | hp; · exact h.2.2.2.2.1
  exact h.2.2.2.2.2 p hp
theorem sub6 {a b c d e f : Addr × Obj} {tl l : List (Addr × Obj)} {g h : Heap} {L : Addr} (N : News g L h l) (ha : a ∈ l) (hb : b ∈ l) (hc : c ∈ l) (hd : d ∈ l) (he : e ∈ l) (hf : f ∈ l) (ht : ∀ p ∈ tl, p ∈ l) : News g L h (a :: b :: c :: d :: e :: f :: tl) := fun p hp => by
  rcases List.mem_cons.mp hp with rfl | hp; · exact N _ ha
  rcases List.mem_cons.mp hp with rfl | hp; · exact N _ hb
  rcases List.mem_cons.mp hp with rfl | hp; · exact N _ hc
  rcases List.mem_cons.mp hp with rfl | hp; · exact N _ hd
  rcases List.mem_cons.mp hp with rfl | hp; · exact N _ he
  rcases List.mem_cons.mp hp with rfl | hp; · exact N _ hf
  exact N p (ht p hp)
example : True := by
  k_with "k_ne" => (refine neN ?_; (try dsimp only); first | exact hne.1 | exact Ne.symm hne.1 | exact hne.2.1 | exact Ne.symm hne.2.1 | exact hne.2.2.1 | exact Ne.symm hne.2.2.1 | exact hne.2.2.2 | exact Ne.symm hne.2.2.2 | exact hne2 | exact Ne.symm hne2 | exact hnI.1 | exact Ne.symm hnI.1 | exact hnI.2.1 | exact Ne.symm hnI.2.1 | exact hnI.2.2.1 | exact Ne.symm hnI.2.2.1 | exact hnI.2.2.2.1 | exact Ne.symm hnI.2.2.2.1 | exact hnI.2.2.2.2.1 | exact Ne.symm hnI.2.2.2.2.1 | (clear hne hnI; omega) | omega)
  k_with "k_all" => (with_reducible assumption)
  exact trivial
example : True := by
  k_with "execs cons" => ((with_reducible show wpAny _ _ (execs (Stmt.If _ _ _ _ :: _) _) _ _ _); refine Stop.intro ?_)
  k_with "exec For Name Call cons nil" => (k_here; (rename Fr _ _ _ _ => lF'); (with_unfolding_all refine' For_TF lF' (hE := by assumption) ?_; k_whole))
  k_with "pyIter ref" => (refine Stop.intro ?_)
  exact trivial
variable {w : World} {mean : ExcName → Option Value} {mg mb : Str → Option Value} {dp un : Nat} {gd : Option (List Code)} {outer : List Env} {base g : Heap} {Q : Flow → Shared → Prop} {E : Value → Shared → Prop} {s : Shared} {L : Nat}
  (B : Below (AR dp un gd outer) base outer g) (X : (KK w).In g) (T : Top topProg LL mean mg mb g) (hdp : dp + 3 < 900) (hun : un + 10 * 3 < 9000)
include B X T hdp hun
theorem ord_k {oR oM oK oa ow : Obj} {la lr aw aa : Nat} {ab rk : List (Int × Tok)} {made : Int} {tm tq tst : Tok} {q st : Int} {kvw kva : List (Int × Value)} {c after : List (Int × Int)} {u1 u2 : Option Value} {tl : List (Addr × Obj)} {vK : Option Value}
    (hE : PassesOwn (model PG w) ((AR dp un gd outer).deeper (ordEnv w.params L)) (ordEnv w.params L) E)
    (F : Fr g L s.heap (fun y => if y = Str.ofString "more" then u2 else if y = Str.ofString "late" then u1 else if y = Str.ofString "after" then some (Value.ref aa) else if y = Str.ofString "step" then some (Value.int st tst) else if y = Str.ofString "ways" then some (Value.ref aw) else if y = Str.ofString "q" then some (Value.int q tq) else if y = Str.ofString "above" then some (Value.ref la) else none))
    (N : News g L s.heap ((aa, oa) :: (aw, ow) :: (L + 1 + 1 + 1, oK) :: (L + 1 + 1, oM) :: (L + 1, oR) :: tl))
    (dR : oR.data = .cell (some (.ref lr))) (dM : oM.data = .cell (some (.int made tm))) (dK : oK.data = .cell vK) (hla : g.IsList la (intsV ab).toArray) (hlr : g.IsList lr (intsV rk).toArray)
    (hsa : ((aa : Addr) == sysModules) = false) (hsw : ((aw : Addr) == sysModules) = false) (hkm : kdfHas c made = true) (hcl : c.length ≤ 100000) (hal : after.length ≤ 90000) (hab : ab.length = 6) (hrk : rk.length = 6) (hq : -50 ≤ q ∧ q ≤ 49)
    (dw : ow.IsDictOf (PySem.intKind PG w) kvw) (fw : PyProof.V.FlatPairs PyData.int kvw (kdfD c)) (da : oa.IsDictOf (PySem.intKind PG w) kva) (fa : PyProof.V.FlatPairs PyData.int kva (kdfD after))
    (hne : aw ≠ aa ∧ L + 1 + 1 + 1 ≠ aa ∧ L + 1 + 1 ≠ aa ∧ L + 1 ≠ aa) (hne2 : aw ≠ L + 1 + 1 + 1) (hta : ∀ p ∈ tl, p.1 ≠ aa) (htK : ∀ p ∈ tl, p.1 ≠ L + 1 + 1 + 1)
    (next : ∀ (h' : Heap) (tk : Nat) (oa' oK' : Obj) (kva' : List (Int × Value)) (u1 u2 vK' : Option Value), Fr g L h' (fun y => if y = Str.ofString "more" then u2 else if y = Str.ofString "late" then u1 else if y = Str.ofString "after" then some (Value.ref aa) else if y = Str.ofString "step" then some (Value.int st tst) else if y = Str.ofString "ways" then some (Value.ref aw) else if y = Str.ofString "q" then some (Value.int q tq) else if y = Str.ofString "above" then some (Value.ref la) else none) →
      News g L h' ((aa, oa') :: (aw, ow) :: (L + 1 + 1 + 1, oK') :: (L + 1 + 1, oM) :: (L + 1, oR) :: tl) → oK'.data = .cell vK' → oa'.IsDictOf (PySem.intKind PG w) kva' → PyProof.V.FlatPairs PyData.int kva' (kdfD (gM (· + ·) (shQ q) 0 (ab.map (·.1)) (rk.map (·.1)) c after made)) →
      (gM (· + ·) (shQ q) 0 (ab.map (·.1)) (rk.map (·.1)) c after made).length ≤ after.length + 6 → Q .next { s with heap := h', toks := tk }) :
    wpAny (model PG w) ((AR dp un gd outer).deeper (ordEnv w.params L)) (execs (forBody ((forBody ((ordBody w.params).drop 1)).drop 1)) (ordEnv w.params L)) Q E s := by
  have IF := @ord_if w mean mg mb dp un gd outer base g
  dsimp only [PG, KK, LL, ordEnv] at *
  generalize hsc : ordScope w.params = sc at hE IF ⊢
  generalize hb2 : forBody (forBody ((forBody ((ordBody w.params).drop 1)).drop 1)) = b2 at IF
  generalize hbo : forBody ((forBody ((ordBody w.params).drop 1)).drop 1) = bo
  conv at hsc => lhs; whnf
  conv at hbo => lhs; whnf
  conv at hb2 => lhs; whnf
  subst hsc hbo hb2
  have X0 := X
  have T0 := T
  revert X; k_fill; intro X
  k_steps
  rename IsRange _ _ _ _ _ _ _ _ => rgX
  rename News _ _ _ _ => NN
  rename Fr _ _ _ _ => FF
  with_reducible refine Stop.go ?_
  refine rangeJ (n := 6) (fun i m nx tk => (∃ u1 u2, m = fun y => if y = Str.ofString "more" then u2 else if y = Str.ofString "late" then u1 else if y = Str.ofString "after" then some (Value.ref aa) else if y = Str.ofString "step" then some (Value.int st tst) else if y = Str.ofString "ways" then some (Value.ref aw) else if y = Str.ofString "q" then some (Value.int q tq) else if y = Str.ofString "above" then some (Value.ref la) else none) ∧ ∃ oa' oK' kva' vK', nx = (aa, oa') :: (aw, ow) :: (L + 1 + 1 + 1, oK') :: (L + 1 + 1, oM) :: (L + 1, oR) :: tl ∧ oK'.data = .cell vK' ∧ oa'.IsDictOf (PySem.intKind PG w) kva' ∧
      PyProof.V.FlatPairs PyData.int kva' (kdfD ((List.range i).foldl (gK (· + ·) (shQ q) 0 (ab.map (·.1)) (rk.map (·.1)) c made) after)) ∧ ((List.range i).foldl (gK (· + ·) (shQ q) 0 (ab.map (·.1)) (rk.map (·.1)) c made) after).length ≤ after.length + i)
    rfl rgX (by decide) rfl FF NN ⟨⟨u1, u2, rfl⟩, oa, oK, kva, vK, rfl, dK, da, fa, Nat.le_refl _⟩ ?turn ?fin
  case turn =>
    clear NN FF rgX
    clear dK da fa
    intro i t m₁ news₁ tk₀ tk₁ h₁ I o hi hJ hle ho
    refine elimJ4 (P := fun m nx => (∀ p ∈ nx, @Ne Nat p.1 I) → Fr g L h₁ m → News g L h₁ ((I, o) :: nx) → _) hJ ?_
    clear hJ
    intro u1 u2 oa' oK' kva' vK' hR hnI F' N'
    replace hnI := off5 hnI
    have dK' := hR.1
    refine turn_gen fun Qt hQt => ?_
    k_steps
    rename News _ _ _ _ => NN
    rename Fr _ _ _ _ => FF
    with_reducible refine Stop.go ?_
    have N2 : News g L _ ((aa, oa') :: (aw, ow) :: (L + 1 + 1 + 1, _) :: (L + 1 + 1, oM) :: (L + 1, oR) :: (I, o) :: tl) := sub6 NN (by k_mem) (by k_mem) (by k_mem) (by k_mem) (by k_mem) (by k_mem) fun p hp => .tail _ (.tail _ (.tail _ (.tail _ (.tail _ (.tail _ hp)))))
    refine IF B X0 T0 hdp hun FF N2 dR dM (by assumption) hla hlr hsa hsw hi hkm hcl (by have := hR.2.2.2; omega) hab hrk hq dw fw hR.2.1 hR.2.2.1 hne ?hta2 ?nx
    case hta2 =>
      intro p hp
      rcases List.mem_cons.mp hp with rfl | hp
      · exact fun e => hnI.1 e.symm
      · exact hta p hp
    case nx =>
      intro h2 tk2 oa2 kva2 v1 v2 F2 N3 d2 f2
      refine hQt _ _ ?_
      refine ⟨_, _, _, (aa, oa2) :: (aw, ow) :: (L + 1 + 1 + 1, _) :: (L + 1 + 1, oM) :: (L + 1, oR) :: tl, rfl, F2, ?hN, ?hO, trivial, fun hl => ⟨⟨_, _, rfl⟩, _, _, _, _, rfl, by assumption, d2, ?hf, ?hl2⟩⟩
      case hN =>
        exact sub6 N3 (by k_mem) (by k_mem) (by k_mem) (by k_mem) (by k_mem) (by k_mem) fun p hp => .tail _ (.tail _ (.tail _ (.tail _ (.tail _ (.tail _ hp)))))
      case hO =>
        exact offl5 hnI
      case hf => rw [List.range_succ, List.foldl_append]; exact f2
      case hl2 =>
        rw [List.range_succ, List.foldl_append]
        exact Nat.le_trans (gK_len _ _ _ _ _ _ _ _ _) (Nat.succ_le_succ hR.2.2.2)
  case fin =>
    clear NN FF rgX
    intro h' tk₀ tk m' news' F' N' hJ hle
    revert F' N'
    refine elimJ4 (P := fun m nx => Fr g L h' m → News g L h' nx → _) hJ ?_
    intro u1 u2 oa' oK' kva' vK' hR F' N'
    k_steps
    exact next _ _ _ _ _ _ _ _ F' N' hR.1 hR.2.1 hR.2.2.1 hR.2.2.2
end
end
-- Or3
example : True := by
  w_top off
  k_with_none
  exact trivial
section
set_option maxHeartbeats 8000000
section
theorem gM_len {α : Type} (add : α → α → α) (sh : α → Nat → α) (z : α) (ab rk : List Int) (c after : List (Int × α)) (made : Int) : (gM add sh z ab rk c after made).length ≤ after.length + 6 := by
  have key : ∀ (l : List Nat) (after : List (Int × α)), (l.foldl (gK add sh z ab rk c made) after).length ≤ after.length + l.length := by
    intro l
    induction l with
    | nil => intro after; exact Nat.le_refl _
    | cons k l ih =>
      intro after
      rw [List.foldl_cons, List.length_cons]
      have h1 := ih (gK add sh z ab rk c made after k)
      have h2 := gK_len add sh z ab rk c made after k
      omega
  exact key _ _
theorem flat_keys {c : List (Int × Int)} : ∀ {kvs : List (Int × Value)}, PyProof.V.FlatPairs PyData.int kvs (kdfD c) → kvs.map (·.1) = c.map (·.1) := by
  induction c with
  | nil =>
    intro kvs h
    cases kvs with
    | nil => rfl
    | cons p kvs => have := h.length; simp [kdfD] at this
  | cons p c ih =>
    intro kvs h
    generalize hD : kdfD (p :: c) = D at h
    cases h with
    | nil => cases hD
    | @cons k v d kvs D f r =>
      have h1 : (PyData.int p.1, PyData.int p.2) = (PyData.int k, d) := (List.cons.inj hD).1
      have h2 : kdfD c = D := (List.cons.inj hD).2
      have h3 : p.1 = k := by have := (Prod.mk.inj h1).1; injection this
      rw [List.map_cons, List.map_cons, ih (h2 ▸ r), h3]
theorem flat_key {c : List (Int × Int)} {kvs : List (Int × Value)} (h : PyProof.V.FlatPairs PyData.int kvs (kdfD c)) {i : Nat} {k : Int} {v : Value} (e : kvs[i]? = some (k, v)) : (c.map (·.1))[i]? = some k ∧ kdfHas c k = true := by
  have h1 : (c.map (·.1))[i]? = some k := by rw [← flat_keys h, List.getElem?_map, e]; rfl
  refine ⟨h1, ?_⟩
  obtain ⟨p, hp, e2⟩ := List.mem_map.mp (List.mem_of_getElem? h1)
  exact List.any_eq_true.mpr ⟨p, hp, decide_eq_true e2⟩
theorem Fr.ways {g h : Heap} {L : Addr} {u a b c d e : Option Value} {R : Str → Option Value} (F : Fr g L h (fun y => if y = Str.ofString "ways" then u else if y = Str.ofString "more" then a else if y = Str.ofString "late" then b else if y = Str.ofString "after" then c else if y = Str.ofString "step" then d else if y = Str.ofString "ways" then e else R y)) :
    Fr g L h (fun y => if y = Str.ofString "more" then a else if y = Str.ofString "late" then b else if y = Str.ofString "after" then c else if y = Str.ofString "step" then d else if y = Str.ofString "ways" then u else R y) := by
  have key : (fun y => if y = Str.ofString "ways" then u else if y = Str.ofString "more" then a else if y = Str.ofString "late" then b else if y = Str.ofString "after" then c else if y = Str.ofString "step" then d else if y = Str.ofString "ways" then e else R y) = (fun y => if y = Str.ofString "more" then a else if y = Str.ofString "late" then b else if y = Str.ofString "after" then c else if y = Str.ofString "step" then d else if y = Str.ofString "ways" then u else R y) := by
    funext y
    by_cases h1 : y = Str.ofString "ways"
    · subst h1; rfl
    · simp only [if_neg h1]
  exact key ▸ F
theorem Fr.after {g h : Heap} {L : Addr} {u v a b c d : Option Value} {R : Str → Option Value} (F : Fr g L h (fun y => if y = Str.ofString "after" then u else if y = Str.ofString "step" then v else if y = Str.ofString "more" then a else if y = Str.ofString "late" then b else if y = Str.ofString "after" then c else if y = Str.ofString "step" then d else R y)) :
    Fr g L h (fun y => if y = Str.ofString "more" then a else if y = Str.ofString "late" then b else if y = Str.ofString "after" then u else if y = Str.ofString "step" then v else R y) := by
  have key : (fun y => if y = Str.ofString "after" then u else if y = Str.ofString "step" then v else if y = Str.ofString "more" then a else if y = Str.ofString "late" then b else if y = Str.ofString "after" then c else if y = Str.ofString "step" then d else R y) = (fun y => if y = Str.ofString "more" then a else if y = Str.ofString "late" then b else if y = Str.ofString "after" then u else if y = Str.ofString "step" then v else R y) := by
    funext y
    by_cases h1 : y = Str.ofString "after"
    · subst h1; rfl
    · by_cases h2 : y = Str.ofString "step"
      · subst h2; rfl
      · simp only [if_neg h1, if_neg h2]
  exact key ▸ F
theorem key_lt {c : List (Int × Int)} {i : Nat} {k : Int} (h : (c.map (·.1))[i]? = some k) : i < c.length := by
  have := (List.getElem?_eq_some_iff.mp h).1
  simpa using this
theorem take_one {α : Type} {l : List α} {i : Nat} {k : α} (h : l[i]? = some k) : l.take (i + 1) = l.take i ++ [k] := by rw [List.take_add_one, h]; rfl
theorem elimJ6 {U1 U2 A B C D E F : Sort _} {M : U1 → U2 → Str → Option Value} {X : A → B → C → List (Addr × Obj)} {R : A → B → C → D → E → F → Prop} {m : Str → Option Value} {nx : List (Addr × Obj)} {P : (Str → Option Value) → List (Addr × Obj) → Prop}
    (h : (∃ u1 u2, m = M u1 u2) ∧ ∃ a b c d e f, nx = X a b c ∧ R a b c d e f) (k : ∀ u1 u2 a b c d e f, R a b c d e f → P (M u1 u2) (X a b c)) : P m nx := by
  obtain ⟨⟨u1, u2, rfl⟩, a, b, c, d, e, f, rfl, r⟩ := h
  exact k u1 u2 a b c d e f r
example : True := by
  k_with "k_ne" => (refine neN ?_; (try dsimp only); first | exact hne.1 | exact Ne.symm hne.1 | exact hne.2.1 | exact Ne.symm hne.2.1 | exact hne.2.2.1 | exact Ne.symm hne.2.2.1 | exact hne.2.2.2 | exact Ne.symm hne.2.2.2 | exact hne2.1 | exact Ne.symm hne2.1 | exact hne2.2 | exact Ne.symm hne2.2 | exact hnI.1 | exact Ne.symm hnI.1 | exact hnI.2.1 | exact Ne.symm hnI.2.1 | exact hnI.2.2.1 | exact Ne.symm hnI.2.2.1 | exact hnI.2.2.2.1 | exact Ne.symm hnI.2.2.2.1 | exact hnI.2.2.2.2.1 | exact Ne.symm hnI.2.2.2.2.1 | (clear hne hnI; omega) | omega)
  k_with "k_all" => (with_reducible assumption)
  exact trivial
example : True := by
  k_with "execs cons" => ((with_reducible show wpAny _ _ (execs [Stmt.For (Expr.Name (Str.ofString "k") _) _ _ _ _] _) _ _ _); refine Stop.intro ?_)
  k_with "exec For Name Name cons nil" => (k_here; (rename Fr _ _ _ _ => lF'); (with_unfolding_all refine' For_TF lF' (hE := by assumption) ?_; k_whole))
  k_with "pyIter ref" => (refine Stop.intro ?_)
  exact trivial
variable {w : World} {mean : ExcName → Option Value} {mg mb : Str → Option Value} {dp un : Nat} {gd : Option (List Code)} {outer : List Env} {base g : Heap} {Q : Flow → Shared → Prop} {E : Value → Shared → Prop} {s : Shared} {L : Nat}
  (B : Below (AR dp un gd outer) base outer g) (X : (KK w).In g) (T : Top topProg LL mean mg mb g) (hdp : dp + 3 < 900) (hun : un + 10 * 3 < 9000)
include B X T hdp hun
theorem ord_m {oR oM oK oa ow : Obj} {la lr aw aa : Nat} {ab rk : List (Int × Tok)} {tq tst : Tok} {q st : Int} {kvw kva : List (Int × Value)} {c : List (Int × Int)} {u1 u2 : Option Value} {tl : List (Addr × Obj)} {vK vM : Option Value}
    (hE : PassesOwn (model PG w) ((AR dp un gd outer).deeper (ordEnv w.params L)) (ordEnv w.params L) E)
    (F : Fr g L s.heap (fun y => if y = Str.ofString "more" then u2 else if y = Str.ofString "late" then u1 else if y = Str.ofString "after" then some (Value.ref aa) else if y = Str.ofString "step" then some (Value.int st tst) else if y = Str.ofString "ways" then some (Value.ref aw) else if y = Str.ofString "q" then some (Value.int q tq) else if y = Str.ofString "above" then some (Value.ref la) else none))
    (N : News g L s.heap ((aa, oa) :: (aw, ow) :: (L + 1 + 1 + 1, oK) :: (L + 1 + 1, oM) :: (L + 1, oR) :: tl))
    (dR : oR.data = .cell (some (.ref lr))) (dM : oM.data = .cell vM) (dK : oK.data = .cell vK) (hla : g.IsList la (intsV ab).toArray) (hlr : g.IsList lr (intsV rk).toArray)
    (hsa : ((aa : Addr) == sysModules) = false) (hsw : ((aw : Addr) == sysModules) = false) (hcl : c.length ≤ 10000) (hab : ab.length = 6) (hrk : rk.length = 6) (hq : -50 ≤ q ∧ q ≤ 49)
    (dw : ow.IsDictOf (PySem.intKind PG w) kvw) (fw : PyProof.V.FlatPairs PyData.int kvw (kdfD c)) (da : oa.IsDictOf (PySem.intKind PG w) kva) (fa : PyProof.V.FlatPairs PyData.int kva (kdfD []))
    (hne : aw ≠ aa ∧ L + 1 + 1 + 1 ≠ aa ∧ L + 1 + 1 ≠ aa ∧ L + 1 ≠ aa) (hne2 : aw ≠ L + 1 + 1 + 1 ∧ aw ≠ L + 1 + 1) (hta : ∀ p ∈ tl, p.1 ≠ aa) (htK : ∀ p ∈ tl, p.1 ≠ L + 1 + 1 + 1) (htM : ∀ p ∈ tl, p.1 ≠ L + 1 + 1)
    (next : ∀ (h' : Heap) (tk : Nat) (oa' oM' oK' : Obj) (kva' : List (Int × Value)) (u1 u2 vM' vK' : Option Value), Fr g L h' (fun y => if y = Str.ofString "more" then u2 else if y = Str.ofString "late" then u1 else if y = Str.ofString "after" then some (Value.ref aa) else if y = Str.ofString "step" then some (Value.int st tst) else if y = Str.ofString "ways" then some (Value.ref aa) else if y = Str.ofString "q" then some (Value.int q tq) else if y = Str.ofString "above" then some (Value.ref la) else none) →
      News g L h' ((aa, oa') :: (aw, ow) :: (L + 1 + 1 + 1, oK') :: (L + 1 + 1, oM') :: (L + 1, oR) :: tl) → oM'.data = .cell vM' → oK'.data = .cell vK' → oa'.IsDictOf (PySem.intKind PG w) kva' → PyProof.V.FlatPairs PyData.int kva' (kdfD (gS (· + ·) (shQ q) 0 (ab.map (·.1)) (rk.map (·.1)) c)) →
      (gS (· + ·) (shQ q) 0 (ab.map (·.1)) (rk.map (·.1)) c).length ≤ 6 * c.length → Q .next { s with heap := h', toks := tk }) :
    wpAny (model PG w) ((AR dp un gd outer).deeper (ordEnv w.params L)) (execs ((forBody ((ordBody w.params).drop 1)).drop 1) (ordEnv w.params L)) Q E s := by
  have IF := @ord_k w mean mg mb dp un gd outer base g
  dsimp only [PG, KK, LL, ordEnv] at *
  generalize hsc : ordScope w.params = sc at hE IF ⊢
  generalize hb2 : forBody ((forBody ((ordBody w.params).drop 1)).drop 1) = b2 at IF
  generalize hbo : (forBody ((ordBody w.params).drop 1)).drop 1 = bo
  conv at hsc => lhs; whnf
  conv at hbo => lhs; whnf
  conv at hb2 => lhs; whnf
  subst hsc hbo hb2
  have X0 := X
  have T0 := T
  revert X; k_fill; intro X
  k_steps
  rename News _ _ _ _ => NN
  rename Fr _ _ _ _ => FF
  with_reducible refine Stop.go ?_
  have hcn : kvw.length = c.length := by have := congrArg List.length (flat_keys fw); simpa using this
  refine dictJ (d := aw) (lo := ow) (kvs := kvw) (fun i m nx tk => (∃ u1 u2, m = fun y => if y = Str.ofString "more" then u2 else if y = Str.ofString "late" then u1 else if y = Str.ofString "after" then some (Value.ref aa) else if y = Str.ofString "step" then some (Value.int st tst) else if y = Str.ofString "ways" then some (Value.ref aw) else if y = Str.ofString "q" then some (Value.int q tq) else if y = Str.ofString "above" then some (Value.ref la) else none) ∧ ∃ oa' oM' oK' kva' vM' vK', nx = (aa, oa') :: (aw, ow) :: (L + 1 + 1 + 1, oK') :: (L + 1 + 1, oM') :: (L + 1, oR) :: tl ∧ oM'.data = .cell vM' ∧ oK'.data = .cell vK' ∧ oa'.IsDictOf (PySem.intKind PG w) kva' ∧
      PyProof.V.FlatPairs PyData.int kva' (kdfD (((c.map (·.1)).take i).foldl (gM (· + ·) (shQ q) 0 (ab.map (·.1)) (rk.map (·.1)) c) [])) ∧ (((c.map (·.1)).take i).foldl (gM (· + ·) (shQ q) 0 (ab.map (·.1)) (rk.map (·.1)) c) []).length ≤ 6 * i)
    rfl (by k_mem) dw hsw FF NN ⟨⟨u1, u2, rfl⟩, oa, oM, oK, kva, vM, vK, rfl, dM, dK, da, fa, Nat.le_refl _⟩ ?turn ?fin
  case turn =>
    clear NN FF
    clear dK dM da fa
    intro i k v t m₁ news₁ tk₀ tk₁ h₁ I o hkv hJ hle ho hkeep
    clear hkeep
    have hkk := flat_key fw hkv
    have hic : i < c.length := key_lt hkk.1
    have htake : (c.map (·.1)).take (i + 1) = (c.map (·.1)).take i ++ [k] := take_one hkk.1
    refine elimJ6 (P := fun m nx => (∀ p ∈ nx, @Ne Nat p.1 I) → Fr g L h₁ m → News g L h₁ ((I, o) :: nx) → _) hJ ?_
    clear hJ
    intro u1 u2 oa' oM' oK' kva' vM' vK' hR hnI F' N'
    replace hnI := off5 hnI
    have dM' := hR.1
    refine turn_gen fun Qt hQt => ?_
    k_steps
    rename News _ _ _ _ => NN
    rename Fr _ _ _ _ => FF
    with_reducible refine Stop.go ?_
    rename (_ = Data.cell (some (Value.int _ _))) => dMn
    have N2 : News g L _ ((aa, oa') :: (aw, ow) :: (L + 1 + 1 + 1, oK') :: (L + 1 + 1, _) :: (L + 1, oR) :: (I, o) :: tl) := sub6 NN (by k_mem) (by k_mem) (by k_mem) (by k_mem) (by k_mem) (by k_mem) fun p hp => .tail _ (.tail _ (.tail _ (.tail _ (.tail _ (.tail _ hp)))))
    refine' IF B X0 T0 hdp hun ?hE2 ?hFF ?hN2 dR dMn hR.2.1 hla hlr hsa hsw hkk.2 (by omega) (by have := hR.2.2.2.2; omega) hab hrk hq dw fw hR.2.2.1 hR.2.2.2.1 hne hne2.1 ?hta2 ?htK2 ?nx
    case hFF => exact FF
    case hN2 => exact N2
    case hE2 => assumption
    case hta2 =>
      intro p hp
      rcases List.mem_cons.mp hp with rfl | hp
      · exact fun e => hnI.1 e.symm
      · exact hta p hp
    case htK2 =>
      intro p hp
      rcases List.mem_cons.mp hp with rfl | hp
      · exact fun e => hnI.2.2.1 e.symm
      · exact htK p hp
    case nx =>
      intro h2 tk2 oa2 oK2 kva2 v1 v2 vK2 F2 N3 dK2 d2 f2 l2
      refine hQt _ _ ?_
      refine ⟨_, _, _, (aa, oa2) :: (aw, ow) :: (L + 1 + 1 + 1, oK2) :: (L + 1 + 1, _) :: (L + 1, oR) :: tl, rfl, F2, ?hN, ?hO, ⟨by k_mem, trivial⟩, fun hl => ⟨⟨_, _, rfl⟩, _, _, _, _, _, _, rfl, dMn, dK2, d2, ?hf, ?hl2⟩⟩
      case hN =>
        exact sub6 N3 (by k_mem) (by k_mem) (by k_mem) (by k_mem) (by k_mem) (by k_mem) fun p hp => .tail _ (.tail _ (.tail _ (.tail _ (.tail _ (.tail _ hp)))))
      case hO =>
        exact offl5 hnI
      case hf => rw [htake, List.foldl_append]; exact f2
      case hl2 =>
        rw [htake, List.foldl_append]
        exact Nat.le_trans (gM_len _ _ _ _ _ _ _ _) (by have := hR.2.2.2.2; omega)
  case fin =>
    clear NN FF
    intro h' tk₀ tk m' news' F' N' hJ hle
    revert F' N'
    rw [hcn, List.take_of_length_le (by rw [List.length_map]; exact Nat.le_refl _)] at hJ
    refine elimJ6 (P := fun m nx => Fr g L h' m → News g L h' nx → _) hJ ?_
    intro u1 u2 oa' oM' oK' kva' vM' vK' hR F' N'
    k_steps
    rename News _ _ _ _ => NN
    rename Fr _ _ _ _ => FF
    have F2 := Fr.ways FF
    exact next _ _ _ _ _ _ _ _ _ _ F2 NN hR.1 hR.2.1 hR.2.2.1 hR.2.2.2.1 hR.2.2.2.2
end
end
-- Or4
example : True := by
  w_top off
  k_with_none
  exact trivial
section
set_option maxHeartbeats 8000000
section
theorem elimS {U A B C D E F : Sort _} {W0 : Type} {M : W0 → U → U → U → U → Str → Option Value} {X : W0 → A → B → C → List (Addr × Obj)} {R : W0 → A → B → C → D → E → F → Prop} {m : Str → Option Value} {nx : List (Addr × Obj)} {P : (Str → Option Value) → List (Addr × Obj) → Prop}
    (h : ∃ (w : W0) (u1 u2 u3 u4 : U), m = M w u1 u2 u3 u4 ∧ ∃ a b c d e f, nx = X w a b c ∧ R w a b c d e f) (k : ∀ w u1 u2 u3 u4 a b c d e f, R w a b c d e f → P (M w u1 u2 u3 u4) (X w a b c)) : P m nx := by
  obtain ⟨w, u1, u2, u3, u4, rfl, a, b, c, d, e, f, rfl, r⟩ := h
  exact k w u1 u2 u3 u4 a b c d e f r
theorem off4 {a b c d : Addr × Obj} {I : Nat} (h : ∀ p ∈ a :: b :: c :: d :: [], @Ne Nat p.1 I) : @Ne Nat a.1 I ∧ @Ne Nat b.1 I ∧ @Ne Nat c.1 I ∧ @Ne Nat d.1 I :=
  ⟨h a (.head _), h b (.tail _ (.head _)), h c (.tail _ (.tail _ (.head _))), h d (.tail _ (.tail _ (.tail _ (.head _))))⟩
example : True := by
  k_with "k_ne" => (refine neN ?_; (try dsimp only); first | exact hnI.1 | exact Ne.symm hnI.1 | exact hnI.2.1 | exact Ne.symm hnI.2.1 | exact hnI.2.2.1 | exact Ne.symm hnI.2.2.1 | exact hnI.2.2.2 | exact Ne.symm hnI.2.2.2 | (clear hnI; omega) | omega)
  k_with "k_all" => (with_reducible assumption)
  exact trivial
example : True := by
  k_with "execs cons" => ((with_reducible show wpAny _ _ (execs (Stmt.For (Expr.Name (Str.ofString "made") _) _ _ _ _ :: _) _) _ _ _); refine Stop.intro ?_)
  k_with "exec For Name Call cons nil" => (k_here; (rename Fr _ _ _ _ => lF'); (with_unfolding_all refine' For_TF lF' (hE := by assumption) ?_; k_whole))
  k_with "pyIter ref" => (refine Stop.intro ?_)
  k_with "execs cons" => ((with_reducible show wpAny _ _ (execs (Stmt.Return _ _ :: _) _) _ _ _); refine Stop.intro ?_)
  exact trivial
variable {w : World} {mean : ExcName → Option Value} {mg mb : Str → Option Value} {dp un : Nat} {gd : Option (List Code)} {outer : List Env} {base g : Heap} {Q : Flow → Shared → Prop} {E : Value → Shared → Prop} {s : Shared} {L : Nat}
  (B : Below (AR dp un gd outer) base outer g) (X : (KK w).In g) (T : Top topProg LL mean mg mb g) (hdp : dp + 3 < 900) (hun : un + 10 * 3 < 9000)
include B X T hdp hun
theorem ord_s {oR oM oK ow : Obj} {la lr aw : Nat} {ab rk : List (Int × Tok)} {tq : Tok} {q : Int} {kvw : List (Int × Value)} {u1 u2 u3 u4 : Option Value} {vK vM : Option Value}
    (hE : PassesOwn (model PG w) ((AR dp un gd outer).deeper (ordEnv w.params L)) (ordEnv w.params L) E)
    (F : Fr g L s.heap (fun y => if y = Str.ofString "more" then u2 else if y = Str.ofString "late" then u1 else if y = Str.ofString "after" then u3 else if y = Str.ofString "step" then u4 else if y = Str.ofString "ways" then some (Value.ref aw) else if y = Str.ofString "q" then some (Value.int q tq) else if y = Str.ofString "above" then some (Value.ref la) else none))
    (N : News g L s.heap ((aw, ow) :: (L + 1 + 1 + 1, oK) :: (L + 1 + 1, oM) :: (L + 1, oR) :: []))
    (dR : oR.data = .cell (some (.ref lr))) (dM : oM.data = .cell vM) (dK : oK.data = .cell vK) (hla : g.IsList la (intsV ab).toArray) (hlr : g.IsList lr (intsV rk).toArray)
    (hsw : ((aw : Addr) == sysModules) = false) (hab : ab.length = 6) (hrk : rk.length = 6) (hq : -50 ≤ q ∧ q ≤ 49)
    (dw : ow.IsDictOf (PySem.intKind PG w) kvw) (fw : PyProof.V.FlatPairs PyData.int kvw (kdfD [(0, 1)])) (hne2 : L + 3 < aw)
    (next : ∀ (h' : Heap) (tk : Nat) (aw : Nat) (ow oM' oK' : Obj) (kvw : List (Int × Value)) (u1 u2 u3 u4 : Option Value), Fr g L h' (fun y => if y = Str.ofString "more" then u2 else if y = Str.ofString "late" then u1 else if y = Str.ofString "after" then u3 else if y = Str.ofString "step" then u4 else if y = Str.ofString "ways" then some (Value.ref aw) else if y = Str.ofString "q" then some (Value.int q tq) else if y = Str.ofString "above" then some (Value.ref la) else none) →
      News g L h' ((aw, ow) :: (L + 1 + 1 + 1, oK') :: (L + 1 + 1, oM') :: (L + 1, oR) :: []) → ((aw : Addr) == sysModules) = false → ow.IsDictOf (PySem.intKind PG w) kvw → PyProof.V.FlatPairs PyData.int kvw (kdfD (ordW (ab.map (·.1)) (rk.map (·.1)) q 6)) →
      wpAny (model PG w) ((AR dp un gd outer).deeper (ordEnv w.params L)) (execs ((ordBody w.params).drop 2) (ordEnv w.params L)) Q E { s with heap := h', toks := tk }) :
    wpAny (model PG w) ((AR dp un gd outer).deeper (ordEnv w.params L)) (execs ((ordBody w.params).drop 1) (ordEnv w.params L)) Q E s := by
  have IF := @ord_m w mean mg mb dp un gd outer base g
  dsimp only [PG, KK, LL, ordEnv] at *
  generalize hsc : ordScope w.params = sc at hE IF next ⊢
  generalize hb2 : (forBody ((ordBody w.params).drop 1)).drop 1 = b2 at IF
  generalize hb3 : (ordBody w.params).drop 2 = b3 at next
  generalize hbo : (ordBody w.params).drop 1 = bo
  conv at hsc => lhs; whnf
  conv at hbo => lhs; whnf
  conv at hb2 => lhs; whnf
  conv at hb3 => lhs; whnf
  subst hsc hbo hb2 hb3
  have X0 := X
  have T0 := T
  revert X; k_fill; intro X
  k_steps
  rename IsRange _ _ _ _ _ _ _ _ => rgX
  rename News _ _ _ _ => NN
  rename Fr _ _ _ _ => FF
  with_reducible refine Stop.go ?_
  refine rangeJ (n := 6) (fun i m nx tk => ∃ (aw : Nat) (u1 u2 u3 u4 : Option Value), (m = fun y => if y = Str.ofString "more" then u2 else if y = Str.ofString "late" then u1 else if y = Str.ofString "after" then u3 else if y = Str.ofString "step" then u4 else if y = Str.ofString "ways" then some (Value.ref aw) else if y = Str.ofString "q" then some (Value.int q tq) else if y = Str.ofString "above" then some (Value.ref la) else none) ∧ ∃ ow oM' oK' kvw vM' vK', nx = (aw, ow) :: (L + 1 + 1 + 1, oK') :: (L + 1 + 1, oM') :: (L + 1, oR) :: [] ∧ oM'.data = .cell vM' ∧ oK'.data = .cell vK' ∧ ((aw : Addr) == sysModules) = false ∧ L + 3 < aw ∧ ow.IsDictOf (PySem.intKind PG w) kvw ∧
      PyProof.V.FlatPairs PyData.int kvw (kdfD (ordW (ab.map (·.1)) (rk.map (·.1)) q i)) ∧ (ordW (ab.map (·.1)) (rk.map (·.1)) q i).length ≤ 6 ^ i)
    rfl rgX (by decide) rfl FF NN ⟨aw, u1, u2, u3, u4, rfl, ow, oM, oK, kvw, vM, vK, rfl, dM, dK, hsw, hne2, dw, fw, Nat.le_refl _⟩ ?turn ?fin
  case turn =>
    clear NN FF rgX
    clear dK dM dw fw hsw hne2
    intro i t m₁ news₁ tk₀ tk₁ h₁ I o hi hJ hle ho
    refine elimS (P := fun m nx => (∀ p ∈ nx, @Ne Nat p.1 I) → Fr g L h₁ m → News g L h₁ ((I, o) :: nx) → _) hJ ?_
    clear hJ
    intro aw u1 u2 u3 u4 ow oM' oK' kvw vM' vK' hR hnI F' N'
    replace hnI := off4 hnI
    have hne2 := hR.2.2.2.1
    have hsw := hR.2.2.1
    refine turn_gen fun Qt hQt => ?_
    k_steps
    rename News _ _ _ _ => NN
    rename Fr _ _ _ _ => FF
    with_reducible refine Stop.go ?_
    have F2 := Fr.after FF
    rename Obj.IsDictOf (strKind _ _) _ [] => z1
    rename PyProof.V.FlatPairs PyData.str [] [] => z2
    clear z1 z2
    have h65 : 6 ^ i ≤ 6 ^ 5 := Nat.pow_le_pow_right (by decide) (Nat.le_of_lt_succ hi)
    rename Obj.IsDictOf (intKind _ w) _ [] => hi9
    rename PyProof.V.FlatPairs PyData.int [] [] => fi9
    rename (_ == sysModules) = false => lo9
    rename (_ < _ ∧ _) => l9
    have N2 : News g L _ ((_, _) :: (aw, ow) :: (L + 1 + 1 + 1, oK') :: (L + 1 + 1, oM') :: (L + 1, oR) :: [(I, o)]) := sub6 NN (by k_mem) (by k_mem) (by k_mem) (by k_mem) (by k_mem) (by k_mem) (fun _ hp => nomatch hp)
    refine IF B X0 T0 hdp hun ?hE2 F2 N2 dR hR.1 hR.2.1 hla hlr lo9 hsw (by have := hR.2.2.2.2.2.2; omega) hab hrk hq hR.2.2.2.2.1 hR.2.2.2.2.2.1 hi9 fi9 ?n1 ?n2 ?n3 ?n4 ?n5 ?nx
    case hE2 => assumption
    case n1 => exact ⟨by k_ne, by k_ne, by k_ne, by k_ne⟩
    case n2 => exact ⟨by k_ne, by k_ne⟩
    case n3 => intro p hp; rw [List.mem_singleton.mp hp]; k_ne
    case n4 => intro p hp; rw [List.mem_singleton.mp hp]; k_ne
    case n5 => intro p hp; rw [List.mem_singleton.mp hp]; k_ne
    case nx =>
      intro h2 tk2 oa2 oM2 oK2 kva2 v1 v2 vM2 vK2 F3 N3 dM2 dK2 d2 f2 l2
      refine hQt _ _ ?_
      refine ⟨_, _, _, (_, oa2) :: (L + 1 + 1 + 1, oK2) :: (L + 1 + 1, oM2) :: (L + 1, oR) :: [], rfl, F3, ?hN, ?hO, trivial, fun hl => ⟨_, _, _, _, _, rfl, _, _, _, _, _, _, rfl, dM2, dK2, lo9, ?hlt, d2, f2, ?hl2⟩⟩
      case hlt => show (_ : Nat) < _; omega
      case hN =>
        intro p hp
        iterate 5 (rcases List.mem_cons.mp hp with rfl | hp; · exact N3 _ (by k_mem))
        exact nomatch hp
      case hO =>
        intro p hp q hq
        rw [List.mem_singleton.mp hq]
        iterate 4 (rcases List.mem_cons.mp hp with rfl | hp; · k_ne)
        exact nomatch hp
      case hl2 =>
        refine Nat.le_trans l2 ?_
        have := hR.2.2.2.2.2.2
        rw [Nat.pow_succ]
        omega
  case fin =>
    clear NN FF dK dM dw fw hsw hne2
    intro h' tk₀ tk m' news' F' N' hJ hle
    revert F' N'
    refine elimS (P := fun m nx => Fr g L h' m → News g L h' nx → _) hJ ?_
    intro aw u1 u2 u3 u4 ow oM' oK' kvw vM' vK' hR F' N'
    k_steps
    with_reducible refine Stop.go ?_
    exact next _ _ _ _ _ _ _ _ _ _ _ F' N' hR.2.2.1 hR.2.2.2.2.1 hR.2.2.2.2.2.1
end
end
-- Or5
example : True := by
  w_top off
  k_with_none
  k_with "m_enterC" => (refine' enterC (g := _) (news := []) (fun _ _ e => e) (Nat.le_refl _) (fun _ hp => nomatch hp) ?k3zq ?k5zq ?k6zq ?k7zq ?k8zq ?k9zq ?kBzq ?kDzq ?_ ?c2zq ?c3zq ?c4zq; (case k3zq => k_asm); (case k5zq => k_asm); (case k6zq => k_is); (case k7zq => k_is); (case k8zq => (walk_at "m_room")); (case k9zq => exact BindsTo.of_eq rfl); (case kBzq => exact rfl); (case kDzq => decide +kernel); (case c2zq => exact rfl); (case c3zq => exact rfl); (case c4zq => exact rfl); k_whole; intro L' h' tk' cells' lb' F' N' Y' _ Qt' Et' hq' hE'; k_cells Y'; (try simp only [List.cons_append, List.nil_append] at N'); (try dsimp only); (try k_fold))
  k_with "m_room" => (first | exact rm0 hdp | exact rm1 hdp (by decide) | exact rm2 hdp | ((try simp only [depth_under_make, depth_under_kw, depth_in1, depth_deeper, depth_caller] at *); (try dsimp only [AR] at *); omega) | ((simp only [recursionLimit, depth_under_make, depth_under_kw, depth_in1, depth_deeper, depth_caller] at *); (try dsimp only [AR] at *); omega) | decide)
  k_with "p_open" => (dsimp only [Pure, PG, KK, LL]; k_fill; intro dp un gd outer base s Q E B X T hpre hdp hun hret; refine wpAny_call ?_)
  exact trivial
section
set_option maxHeartbeats 8000000
section
variable (w : World) (mean : ExcName → Option Value) (mg mb : Str → Option Value)
example : True := by
  k_with "k_all" => (with_reducible assumption)
  exact trivial
example : True := by
  k_with "execs cons" => ((with_reducible show wpAny _ _ (execs (Stmt.For _ _ _ _ _ :: _) _) _ _ _); refine Stop.intro ?_)
  exact trivial
theorem Fr.six {g h : Heap} {L : Addr} {u : Option Value} {R' R : Str → Option Value} (hR : R' = R) (h0 : R (Str.ofString "more") = none ∧ R (Str.ofString "late") = none ∧ R (Str.ofString "after") = none ∧ R (Str.ofString "step") = none) (F : Fr g L h (fun y => if y = Str.ofString "ways" then u else R' y)) :
    Fr g L h (fun y => if y = Str.ofString "more" then none else if y = Str.ofString "late" then none else if y = Str.ofString "after" then none else if y = Str.ofString "step" then none else if y = Str.ofString "ways" then u else R y) := by
  rw [hR] at F
  have key : (fun y => if y = Str.ofString "ways" then u else R y) = (fun y => if y = Str.ofString "more" then none else if y = Str.ofString "late" then none else if y = Str.ofString "after" then none else if y = Str.ofString "step" then none else if y = Str.ofString "ways" then u else R y) := by
    funext y
    by_cases h1 : y = Str.ofString "more"
    · subst h1; exact h0.1
    by_cases h2 : y = Str.ofString "late"
    · subst h2; exact h0.2.1
    by_cases h3 : y = Str.ofString "after"
    · subst h3; exact h0.2.2.1
    by_cases h4 : y = Str.ofString "step"
    · subst h4; exact h0.2.2.2
    simp only [if_neg h1, if_neg h2, if_neg h3, if_neg h4]
  exact key ▸ F
theorem p_orders (q : Int) (t : Tok) (la lr : Addr) (ab rk : List (Int × Tok)) (hab : ab.length = 6) (hrk : rk.length = 6) (hq : -50 ≤ q ∧ q ≤ 49) (hk : kdfHas (ordW (ab.map (·.1)) (rk.map (·.1)) q 6) 63 = true) :
    Pure w mean mg mb 3 239 [.ref la, .ref lr, .int q t] (fun s => s.heap.IsList la (intsV ab).toArray ∧ s.heap.IsList lr (intsV rk).toArray) (isI (kdfLook (ordW (ab.map (·.1)) (rk.map (·.1)) q 6) 63 0)) := by
  have IF := @ord_s w mean mg mb
  dsimp only [PG, KK, LL, ordEnv] at IF
  generalize hsc : ordScope w.params = sc at IF
  generalize hb3 : (ordBody w.params).drop 2 = b3 at IF
  generalize hbo : (ordBody w.params).drop 1 = bo at IF
  conv at hsc => lhs; whnf
  conv at hbo => lhs; whnf
  conv at hb3 => lhs; whnf
  subst hsc hbo hb3
  (walk_at "p_open")
  obtain ⟨hla, hlr⟩ := hpre
  have X0 := X
  have T0 := T
  k_dflt (walk_at "m_enterC")
  k_steps
  rename News _ _ _ _ => NN
  rename Fr _ _ _ _ => FF
  with_reducible refine Stop.go ?_
  rename (_ == sysModules) = false => lo9
  rename Obj.IsDictOf (intKind _ w) _ _ => hd9
  rename PyProof.V.FlatPairs PyData.int _ _ => hf9
  have F3 := Fr.six (R := fun y => if y = Str.ofString "q" then some (Value.int q t) else if y = Str.ofString "above" then some (Value.ref la) else none) (by with_unfolding_all rfl) ⟨rfl, rfl, rfl, rfl⟩ FF
  refine IF (vM := none) (vK := none) B X0 T0 ?h1 ?h2 ?hE F3 NN ?dR ?dM ?dK hla hlr lo9 hab hrk hq hd9 hf9 ?lt ?nx
  case h1 => omega
  case h2 => omega
  case hE => passes_own
  case dR => with_unfolding_all assumption
  case dM => with_unfolding_all assumption
  case dK => with_unfolding_all assumption
  case lt => rename (_ < _ ∧ _) => l9; exact l9.1
  case nx =>
    clear FF F3 NN
    intro h2 tk2 aw ow oM oK kvw u1 u2 u3 u4 F4 N4 lo4 d4 f4
    k_steps
    dsimp only
    rename Then _ _ => hq'
    refine hq' _ _ ?_
    exact hret _ _ _ F4.keep ⟨_, rfl⟩
end
end
-- HkL
example : True := by
  w_top off
  k_with_none
  exact trivial
section

section
noncomputable def hookL (q : Int) (ns : List Int) : List Int := ns.map fun n => redF (fun x _ => x * q + 1) 0 n.toNat
noncomputable def prodL : List Int → Int
  | [] => 1
  | v :: r => r.foldl (· * ·) v
end
end
-- PlC
example : True := by
  w_top off
  k_with_none
  exact trivial
section

section
noncomputable abbrev rowT (r : List Str) : Str := Str.ofString "/" ++ Txt.join (Str.ofString "/") r
noncomputable def RF : Nat → List (List Str)
  | 0 => [[]]
  | k + 1 => RF k ++ (RF k).map fun r => r ++ [nmF.getD k S1]
noncomputable abbrev rep1 (x : Str) : Str := Txt.replace x (Str.ofString "/") (Str.ofString "//./")
noncomputable abbrev rep2 (x : Str) : Str := Txt.replace x (Str.ofString "/") (Str.ofString "/.//")
theorem rows_c1 : (RF 6).all (fun r => decide (partsF (rowT r) = r)) = true := by decide +kernel
theorem rows_c2 : (RF 6).all (fun r => decide (partsF (rep1 (rowT r)) = r) && decide ((rep1 (rowT r)).length < 1000) && Txt.startswith (rep1 (rowT r)) (Str.ofString "/")) = true := by decide +kernel
theorem rows_c3 : (RF 6).all (fun r => decide (partsF (rep2 (rowT r)) = r) && decide ((rep2 (rowT r)).length < 1000) && Txt.startswith (rep2 (rowT r)) (Str.ofString "/")) = true := by decide +kernel
theorem rows_c4 : (RF 6).all (fun r => decide (dirF (rowT r) = rowT r.dropLast)) = true := by decide +kernel
theorem rows_c5 : (RF 6).all (fun r => decide ((rowT r).length < 1000) && Txt.startswith (rowT r) (Str.ofString "/") && PyData.strOk (rowT r)) = true := by decide +kernel
theorem rows_c6 : (RF 6).all (fun r => decide (r = []) || decide ((rowT r.dropLast).length < (rowT r).length)) = true := by decide +kernel
theorem rows_c7 : (List.range 6).all (fun k => (RF k).all fun r => decide (joinF (rowT r) (nmF.getD k S1) = rowT (r ++ [nmF.getD k S1])) && decide (climbF (rowT (r ++ [nmF.getD k S1])) = rowT r)) = true := by decide +kernel
end
end
-- PlD
example : True := by
  w_top off
  k_with_none
  exact trivial
section

section
theorem rows_c8 : (RF 6).all (fun r => decide (r = []) || decide ((rowT r).cps.toList = ((if r.dropLast = [] then Str.ofString "/" else rowT r.dropLast ++ Str.ofString "/").cps.toList ++ (r.getLastD S1).cps.toList))) = true := by decide +kernel
theorem nm_c1 : nmF.all (fun a => nmF.all fun b => decide (a = b) || (decide (a.cps.toList < b.cps.toList) == !decide (b.cps.toList < a.cps.toList))) = true := by decide +kernel
theorem nm_c2 : nmF.all (fun a => decide (a.length < 1000)) = true := by decide +kernel
theorem nm_c3 : (List.range 6).all (fun i => (List.range 6).all fun j => decide (i = j) || decide (nmF.getD i S1 ≠ nmF.getD j S1)) = true := by decide +kernel
theorem RF_nil : ∀ k, [] ∈ RF k
  | 0 => .head _
  | k + 1 => List.mem_append_left _ (RF_nil k)
theorem RF_sub {k : Nat} : ∀ {j : Nat}, k ≤ j → ∀ r ∈ RF k, r ∈ RF j
  | 0, h, r, hr => by have : k = 0 := Nat.le_zero.mp h; exact this ▸ hr
  | j + 1, h, r, hr => by
    rcases Nat.lt_succ_iff_lt_or_eq.mp (Nat.lt_succ_of_le h) with h | h
    · exact List.mem_append_left _ (RF_sub (Nat.le_of_lt_succ h) r hr)
    · exact h ▸ hr
theorem RF_snoc {k : Nat} {r : List Str} (h : r ∈ RF k) : r ++ [nmF.getD k S1] ∈ RF (k + 1) := List.mem_append_right _ (List.mem_map_of_mem (f := fun r => r ++ [nmF.getD k S1]) h)
theorem RF_len : ∀ k, ∀ r ∈ RF k, r.length ≤ k
  | 0, r, h => by rw [List.mem_singleton.mp h]; exact Nat.le_refl _
  | k + 1, r, h => by
    rcases List.mem_append.mp h with h | h
    · exact Nat.le_succ_of_le (RF_len k r h)
    · obtain ⟨t, ht, rfl⟩ := List.mem_map.mp h
      rw [List.length_append]
      exact Nat.succ_le_succ (RF_len k t ht)
theorem RF_pre : ∀ k {r s : List Str}, r ++ s ∈ RF k → r ∈ RF k
  | 0, r, s, h => by
    have := List.append_eq_nil_iff.mp (List.mem_singleton.mp h)
    rw [this.1]; exact .head _
  | k + 1, r, s, h => by
    rcases List.mem_append.mp h with h1 | h1
    · exact List.mem_append_left _ (RF_pre k h1)
    · obtain ⟨t, ht, e⟩ := List.mem_map.mp h1
      rcases List.eq_nil_or_concat s with rfl | ⟨s', n, e5⟩
      · rw [List.append_nil] at h; exact h
      · rw [List.concat_eq_append] at e5
        subst e5
        rw [← List.append_assoc] at e
        have := (List.append_inj' e rfl).1
        exact List.mem_append_left _ (RF_pre k (this ▸ ht))
theorem RF_nm : ∀ k, k ≤ 6 → ∀ r ∈ RF k, ∀ n ∈ r, n ∈ nmF
  | 0, _, r, h, n, hn => by rw [List.mem_singleton.mp h] at hn; cases hn
  | k + 1, hk, r, h, n, hn => by
    rcases List.mem_append.mp h with h | h
    · exact RF_nm k (Nat.le_of_succ_le hk) r h n hn
    · obtain ⟨t, ht, rfl⟩ := List.mem_map.mp h
      rcases List.mem_append.mp hn with hn | hn
      · exact RF_nm k (Nat.le_of_succ_le hk) t ht n hn
      · rw [List.mem_singleton.mp hn]
        have h6 : k < nmF.length := hk
        rw [List.getD_eq_getElem?_getD, List.getElem?_eq_getElem h6]
        exact List.getElem_mem _
section
variable {r r' : List Str} (h : r ∈ RF 6) (h' : r' ∈ RF 6)
include h
theorem parts_T : partsF (rowT r) = r := of_decide_eq_true (List.all_eq_true.mp rows_c1 r h)
theorem parts_1 : partsF (rep1 (rowT r)) = r := by
  have := List.all_eq_true.mp rows_c2 r h
  simp only [Bool.and_eq_true] at this
  exact of_decide_eq_true this.1.1
theorem parts_2 : partsF (rep2 (rowT r)) = r := by
  have := List.all_eq_true.mp rows_c3 r h
  simp only [Bool.and_eq_true] at this
  exact of_decide_eq_true this.1.1
theorem dir_T : dirF (rowT r) = rowT r.dropLast := of_decide_eq_true (List.all_eq_true.mp rows_c4 r h)
theorem row_ok : (rowT r).length < 1000 ∧ Txt.startswith (rowT r) (Str.ofString "/") = true ∧ PyData.strOk (rowT r) = true := by
  have := List.all_eq_true.mp rows_c5 r h
  simp only [Bool.and_eq_true] at this
  exact ⟨of_decide_eq_true this.1.1, this.1.2, this.2⟩
include h'
theorem rowT_inj (e : rowT r = rowT r') : r = r' := by rw [← parts_T h, ← parts_T h', e]
theorem rowT_iff : rowT r = rowT r' ↔ r = r' := ⟨rowT_inj h h', fun e => by rw [e]⟩
end
theorem preF_comm : ∀ a b, preF a b = preF b a
  | [], [] => rfl
  | [], _ :: _ => rfl
  | _ :: _, [] => rfl
  | x :: a, y :: b => by
    unfold preF
    by_cases e : x = y
    · subst e; rw [if_pos rfl, if_pos rfl, preF_comm a b]
    · rw [if_neg e, if_neg fun q => e q.symm]
theorem preF_self : ∀ a, preF a a = a
  | [] => rfl
  | x :: a => by unfold preF; rw [if_pos rfl, preF_self a]
theorem preF_pre : ∀ a b, ∃ s, a = preF a b ++ s
  | [], b => ⟨[], by cases b <;> rfl⟩
  | x :: a, [] => ⟨x :: a, rfl⟩
  | x :: a, y :: b => by
    unfold preF
    by_cases e : x = y
    · obtain ⟨s, hs⟩ := preF_pre a b
      exact ⟨s, by rw [if_pos e, List.cons_append, ← hs]⟩
    · exact ⟨x :: a, by rw [if_neg e]; rfl⟩
theorem preF_RF {k : Nat} {r r' : List Str} (h : r ∈ RF k) : preF r r' ∈ RF k := by
  obtain ⟨s, hs⟩ := preF_pre r r'
  rw [hs] at h
  exact RF_pre k h
theorem preF_split : ∀ a b, preF a b ≠ a → preF a b ≠ b → ∃ c n s n' s', a = c ++ n :: s ∧ b = c ++ n' :: s' ∧ n ≠ n' ∧ preF a b = c
  | [], b, h, _ => absurd (by cases b <;> rfl) h
  | x :: a, [], _, h => absurd rfl h
  | x :: a, y :: b, h1, h2 => by
    unfold preF at h1 h2 ⊢
    by_cases e : x = y
    · subst e
      rw [if_pos rfl] at h1 h2 ⊢
      obtain ⟨c, n, s, n', s', e1, e2, hn, e3⟩ := preF_split a b (fun q => h1 (by rw [q])) (fun q => h2 (by rw [q]))
      exact ⟨x :: c, n, s, n', s', by rw [e1]; rfl, by rw [e2]; rfl, hn, by rw [e3]⟩
    · exact ⟨[], x, a, y, b, rfl, rfl, e, by rw [if_neg e]⟩
theorem ltL_self : ∀ a, ltL a a = false
  | [] => rfl
  | x :: a => by unfold ltL; rw [if_pos rfl, ltL_self a]
theorem ltL_app : ∀ c a b, ltL (c ++ a) (c ++ b) = ltL a b
  | [], _, _ => rfl
  | x :: c, a, b => by
    show (if x = x then ltL (c ++ a) (c ++ b) else _) = _
    rw [if_pos rfl, ltL_app c a b]
theorem nm_tri {a b : Str} (ha : a ∈ nmF) (hb : b ∈ nmF) (hn : a ≠ b) : decide (a.cps.toList < b.cps.toList) = !decide (b.cps.toList < a.cps.toList) := by
  have := List.all_eq_true.mp (List.all_eq_true.mp nm_c1 a ha) b hb
  rw [Bool.or_eq_true] at this
  rcases this with h | h
  · exact absurd (of_decide_eq_true h) hn
  · simpa using h
theorem ltL_flip : ∀ {a b : List Str}, (∀ n ∈ a, n ∈ nmF) → (∀ n ∈ b, n ∈ nmF) → a ≠ b → ltL a b = !ltL b a
  | [], [], _, _, h => absurd rfl h
  | [], _ :: _, _, _, _ => rfl
  | _ :: _, [], _, _, _ => rfl
  | x :: a, y :: b, ha, hb, h => by
    unfold ltL
    by_cases e : x = y
    · subst e
      rw [if_pos rfl, if_pos rfl]
      exact ltL_flip (fun n hn => ha n (.tail _ hn)) (fun n hn => hb n (.tail _ hn)) fun q => h (by rw [q])
    · rw [if_neg e, if_neg fun q => e q.symm]
      exact nm_tri (ha x (.head _)) (hb y (.head _)) e
theorem com_pick {r r' : List Str} (h : r ∈ RF 6) (h' : r' ∈ RF 6) : preF (if ltL r' r then r' else r) (if ltL r r' then r' else r) = preF r r' := by
  by_cases e : r = r'
  · subst e; rw [ltL_self]; rfl
  · have hf := ltL_flip (RF_nm 6 (Nat.le_refl _) r h) (RF_nm 6 (Nat.le_refl _) r' h') e
    cases q : ltL r' r with
    | true => rw [q] at hf; rw [hf]; exact preF_comm _ _
    | false => rw [q] at hf; rw [hf]; rfl
theorem com_T {r r' : List Str} (h : r ∈ RF 6) (h' : r' ∈ RF 6) : comF (rowT r) (rowT r') = rowT (preF r r') := by
  unfold comF
  rw [parts_T h, parts_T h', com_pick h h']
theorem shared_T {r r' : List Str} (h : r ∈ RF 6) (h' : r' ∈ RF 6) : sharedF (rowT r) (rowT r') = rowT (preF r r') := by
  have h1 := parts_1 h
  have h2 := parts_2 h'
  unfold sharedF comF
  rw [h1, h2, com_pick h h']
theorem sharedOk_T {r r' : List Str} (h : r ∈ RF 6) (h' : r' ∈ RF 6) : SharedOk (rowT r) (rowT r') := by
  have h1 := List.all_eq_true.mp rows_c2 r h
  have h2 := List.all_eq_true.mp rows_c3 r' h'
  simp only [Bool.and_eq_true] at h1 h2
  exact ⟨by rw [shared_T h h']; exact (row_ok (preF_RF h)).1, (row_ok h).1, (row_ok h').1, of_decide_eq_true h1.1.2, of_decide_eq_true h2.1.2, h1.2, h2.2⟩
theorem below_T {c s : List Str} {n : Str} (h : c ++ n :: s ∈ RF 6) : belowF (rowT c) (rowT (c ++ n :: s)) = rowT (c ++ [n]) := by
  have hpre : ∀ m, c ++ n :: s.take m ∈ RF 6 := fun m => by
    have e : c ++ n :: s = (c ++ n :: s.take m) ++ s.drop m := by rw [List.append_assoc, List.cons_append, List.take_append_drop]
    rw [e] at h
    exact RF_pre 6 h
  have hc : c ∈ RF 6 := RF_pre 6 h
  have hd : ∀ m, m < s.length → (c ++ n :: s.take (m + 1)).dropLast = c ++ n :: s.take m := fun m hm => by
    rw [List.take_add_one, List.getElem?_eq_getElem hm]
    show (c ++ n :: (s.take m ++ [s[m]])).dropLast = _
    rw [← List.cons_append, ← List.append_assoc, List.dropLast_concat]
  have hd0 : (c ++ [n]).dropLast = c := List.dropLast_concat
  have key : ∀ i, turnsB (rowT c) (rowT (c ++ n :: s)) i = (rowT (c ++ n :: s.take (s.length - i)), rowT (c ++ n :: s.take (s.length - i)).dropLast) := by
    intro i
    induction i with
    | zero =>
      have e : s.take (s.length - 0) = s := List.take_length
      rw [e]
      show (_, dirF _) = _
      rw [dir_T h]
    | succ i ih =>
      unfold turnsB
      rw [ih]
      unfold stepB
      dsimp only
      by_cases hi : s.length - i = 0
      · have e : s.length - (i + 1) = 0 := by rw [Nat.sub_succ, hi]; rfl
        rw [hi, e]
        rw [show (c ++ n :: s.take 0).dropLast = c from hd0]
        rw [if_neg (by simp)]
      · have e : s.length - i = (s.length - (i + 1)) + 1 := by rw [Nat.sub_succ]; exact (Nat.succ_pred hi).symm
        have el : s.length - (i + 1) < s.length := by rw [Nat.sub_succ]; exact Nat.lt_of_lt_of_le (Nat.pred_lt hi) (Nat.sub_le _ _)
        rw [e, hd _ el]
        have hne : (rowT (c ++ n :: s.take (s.length - (i + 1))) != rowT c) = true := by
          rw [bne_iff_ne]
          intro q
          have := rowT_inj (hpre _) hc q
          have := congrArg List.length this
          simp at this
        rw [if_pos hne, dir_T (hpre _)]
  unfold belowF
  rw [key 6]
  have hl := RF_len 6 _ h
  rw [List.length_append, List.length_cons] at hl
  rw [show s.length - 6 = 0 from Nat.sub_eq_zero_of_le (Nat.le_trans (Nat.le_succ _) (Nat.le_trans (Nat.le_add_left _ _) hl))]
  rfl
theorem lt_app : ∀ (p a b : List Nat), (p ++ a < p ++ b) ↔ (a < b)
  | [], _, _ => Iff.rfl
  | x :: p, a, b => by
    rw [List.cons_append, List.cons_append, List.cons_lt_cons_iff]
    constructor
    · rintro (h | ⟨_, h⟩)
      · exact absurd h (Nat.lt_irrefl _)
      · exact (lt_app p a b).mp h
    · intro h; exact .inr ⟨rfl, (lt_app p a b).mpr h⟩
theorem row_last {c : List Str} {n : Str} (h : c ++ [n] ∈ RF 6) : (rowT (c ++ [n])).cps.toList = (if c = [] then Str.ofString "/" else rowT c ++ Str.ofString "/").cps.toList ++ n.cps.toList := by
  have := List.all_eq_true.mp rows_c8 _ h
  rw [Bool.or_eq_true] at this
  rcases this with q | q
  · have := of_decide_eq_true q; simp at this
  · have := of_decide_eq_true q
    rw [List.dropLast_concat] at this
    rw [this]
    simp
theorem row_lt {c : List Str} {n n' : Str} (h : c ++ [n] ∈ RF 6) (h' : c ++ [n'] ∈ RF 6) : decide ((rowT (c ++ [n])).cps.toList < (rowT (c ++ [n'])).cps.toList) = decide (n.cps.toList < n'.cps.toList) := by
  rw [row_last h, row_last h']
  exact decide_eq_decide.mpr (lt_app _ _ _)
theorem len_T : ∀ (m : Nat) {r s : List Str}, s.length = m → r ++ s ∈ RF 6 → s ≠ [] → (rowT r).length < (rowT (r ++ s)).length
  | 0, r, s, e, _, hn => absurd (List.length_eq_zero_iff.mp e) hn
  | m + 1, r, s, e, h, hn => by
    rcases List.eq_nil_or_concat s with rfl | ⟨t, n, e5⟩
    · exact absurd rfl hn
    · rw [List.concat_eq_append] at e5
      subst e5
      have h1 : (rowT (r ++ t)).length < (rowT (r ++ (t ++ [n]))).length := by
        have := List.all_eq_true.mp rows_c6 _ h
        rw [Bool.or_eq_true] at this
        rcases this with q | q
        · have := of_decide_eq_true q; simp at this
        · have := of_decide_eq_true q
          rw [← List.append_assoc, List.dropLast_concat] at this
          rw [← List.append_assoc]
          exact this
      by_cases ht : t = []
      · subst ht; rw [List.append_nil] at h1; exact h1
      · rw [List.length_append] at e
        exact Nat.lt_trans (len_T m (by simpa using e) (RF_pre 6 (s := [n]) (by rw [List.append_assoc]; exact h)) ht) h1
theorem listed_T {r r' : List Str} (h : r ∈ RF 6) (h' : r' ∈ RF 6) : decide (listedF (rowT r) (rowT r') < 0) = ltL r r' := by
  unfold listedF
  rw [com_T h h']
  have hp := preF_RF (r' := r') h
  by_cases e1 : preF r r' = r
  · rw [if_pos (.inl (by rw [e1]))]
    obtain ⟨s, hs⟩ := preF_pre r' r
    rw [preF_comm, e1] at hs
    by_cases hn : s = []
    · subst hn; rw [List.append_nil] at hs; subst hs; rw [ltL_self]; exact decide_eq_false (by omega)
    · rw [hs] at h'
      have hl := len_T _ rfl h' hn
      rw [hs]
      have e2 : ltL r (r ++ s) = true := by
        have := ltL_app r [] s
        rw [List.append_nil] at this
        rw [this]
        cases s with
        | nil => exact absurd rfl hn
        | cons _ _ => rfl
      rw [e2]
      exact decide_eq_true (by omega)
  by_cases e2 : preF r r' = r'
  · rw [if_pos (.inr (by rw [e2]))]
    obtain ⟨s, hs⟩ := preF_pre r r'
    rw [e2] at hs
    have hn : s ≠ [] := fun q => e1 (by rw [e2, hs, q, List.append_nil])
    rw [hs] at h
    have hl := len_T _ rfl h hn
    rw [hs]
    have e3 : ltL (r' ++ s) r' = false := by
      have := ltL_app r' s []
      rw [List.append_nil] at this
      rw [this]
      cases s with
      | nil => rfl
      | cons _ _ => rfl
    rw [e3]
    exact decide_eq_false (by omega)
  rw [if_neg (fun o => o.elim (fun q => e1 (rowT_inj hp h q)) (fun q => e2 (rowT_inj hp h' q)))]
  obtain ⟨c, n, s, n', s', f1, f2, hn, f3⟩ := preF_split r r' e1 e2
  subst f1 f2
  rw [f3, below_T h, below_T h', ltL_app]
  have m1 : c ++ [n] ∈ RF 6 := RF_pre 6 (s := s) (by rw [List.append_assoc]; exact h)
  have m2 : c ++ [n'] ∈ RF 6 := RF_pre 6 (s := s') (by rw [List.append_assoc]; exact h')
  rw [row_lt m1 m2, row_lt m2 m1]
  show _ = (if n = n' then _ else decide (n.cps.toList < n'.cps.toList))
  rw [if_neg hn, nm_tri (RF_nm 6 (Nat.le_refl _) _ m1 n (by simp)) (RF_nm 6 (Nat.le_refl _) _ m2 n' (by simp)) hn]
  cases decide (n'.cps.toList < n.cps.toList) <;> rfl
end
end
-- PlE
example : True := by
  w_top off
  k_with_none
  exact trivial
section

section
theorem above_spec (ns : List Int) (k : Nat) : (aboveF ns k = -1 ∨ (0 ≤ aboveF ns k ∧ ns.getD (aboveF ns k).toNat 0 < ns.getD k 0)) ∧ ∀ j : Nat, j < k → ns.getD j 0 < ns.getD k 0 → (j : Int) ≤ aboveF ns k := by
  obtain ⟨h3, h4⟩ := foldmax (((List.range k).filter fun j : Nat => decide (ns.getD j 0 < ns.getD k 0)).map fun j : Nat => Int.ofNat j) (-1)
  refine ⟨?_, fun j hj hl => ?_⟩
  · rcases List.mem_cons.mp h3 with h | h
    · exact .inl h
    · obtain ⟨j, hj, e⟩ := List.mem_map.mp h
      have e' : (j : Int) = aboveF ns k := e
      have := of_decide_eq_true (List.mem_filter.mp hj).2
      refine .inr ⟨by rw [← e']; exact Int.natCast_nonneg j, ?_⟩
      rw [← e', Int.toNat_natCast]
      exact this
  · exact h4 _ (.tail _ (List.mem_map.mpr ⟨j, List.mem_filter.mpr ⟨List.mem_range.mpr hj, decide_eq_true hl⟩, rfl⟩))
noncomputable def goI (ns : List Int) (k : Nat) (j : Int) : Int := if 0 ≤ j ∧ ns.getD k 0 ≤ ns.getD j.toNat 0 then aboveF ns j.toNat else j
noncomputable def itI (ns : List Int) (k : Nat) : Nat → Int
  | 0 => (k : Int) - 1
  | i + 1 => goI ns k (itI ns k i)
structure ItOk (ns : List Int) (k i : Nat) (x : Int) : Prop where
  lo : -1 ≤ x
  hi : x < (k : Int)
  gt : ∀ j : Nat, x < (j : Int) → j < k → ns.getD k 0 ≤ ns.getD j 0
  fin : x ≤ (k : Int) - 1 - i ∨ x < 0 ∨ ns.getD x.toNat 0 < ns.getD k 0
theorem it_ok (ns : List Int) (k : Nat) : ∀ i, ItOk ns k i (itI ns k i)
  | 0 => ⟨by unfold itI; omega, by unfold itI; omega, fun j h1 h2 => by unfold itI at h1; omega, .inl (by unfold itI; omega)⟩
  | i + 1 => by
    have ih := it_ok ns k i
    show ItOk ns k (i + 1) (goI ns k (itI ns k i))
    generalize itI ns k i = x at ih
    unfold goI
    by_cases c : 0 ≤ x ∧ ns.getD k 0 ≤ ns.getD x.toNat 0
    · rw [if_pos c]
      have hb := above_lt ns x.toNat
      have hs := (above_spec ns x.toNat).2
      have ex : (x.toNat : Int) = x := Int.toNat_of_nonneg c.1
      have h1 := ih.hi
      refine ⟨hb.1, by omega, fun j g1 g2 => ?_, ?_⟩
      · rcases Int.lt_trichotomy (j : Int) x with q | q | q
        · refine Int.le_trans c.2 (Int.not_lt.mp fun hl => ?_)
          have := hs j (by omega) hl
          omega
        · have e : x.toNat = j := by omega
          rw [e] at c; exact c.2
        · exact ih.gt j q g2
      · rcases ih.fin with q | q | q
        · exact .inl (by omega)
        · omega
        · omega
    · rw [if_neg c]
      refine ⟨ih.lo, ih.hi, ih.gt, .inr ?_⟩
      by_cases h0 : 0 ≤ x
      · exact .inr (Int.not_le.mp fun q => c ⟨h0, q⟩)
      · exact .inl (by omega)
theorem it_end (ns : List Int) (k : Nat) : itI ns k k = aboveF ns k := by
  have h := it_ok ns k k
  generalize itI ns k k = x at h
  obtain ⟨s1, s2⟩ := above_spec ns k
  have hb := above_lt ns k
  have hx : x < 0 ∨ ns.getD x.toNat 0 < ns.getD k 0 := by
    rcases h.fin with q | q
    · exact .inl (by omega)
    · exact q
  have h1 := h.lo
  have h2 := h.hi
  have top : aboveF ns k ≤ x := by
    rcases s1 with q | ⟨q0, q⟩
    · omega
    · refine Int.not_lt.mp fun hl => ?_
      have := h.gt (aboveF ns k).toNat (by omega) (by omega)
      omega
  by_cases h0 : 0 ≤ x
  · have := s2 x.toNat (by omega) (by rcases hx with q | q; omega; exact q)
    omega
  · omega
noncomputable abbrev abF (ns : List Int) : List Int := (List.range 6).map (aboveF ns)
theorem ab_getD (ns : List Int) {k : Nat} (h : k < 6) : (abF ns).getD k 0 = aboveF ns k := by simp [List.getD_eq_getElem?_getD, h]
theorem rows_app (ab : List Int) (k : Nat) : ∀ m, ∃ s, rowsF ab (k + m) = rowsF ab k ++ s
  | 0 => ⟨[], by rw [List.append_nil]; rfl⟩
  | m + 1 => by
    obtain ⟨s, hs⟩ := rows_app ab k m
    exact ⟨_, by show rowsF ab (k + m) ++ _ = _; rw [hs, List.append_assoc]⟩
theorem rows_getD (ab : List Int) {j k : Nat} (hj : j < k) (hk : k ≤ 6) : (rowsF ab k).getD j [] = (rowsF ab 6).getD j [] := by
  obtain ⟨s, hs⟩ := rows_app ab k (6 - k)
  rw [show k + (6 - k) = 6 by omega] at hs
  rw [hs, List.getD_eq_getElem?_getD, List.getD_eq_getElem?_getD, List.getElem?_append_left (by rw [rowsF_length]; exact hj)]
noncomputable def RW (ab : List Int) (j : Int) : List Str := if 0 ≤ j then (rowsF ab 6).getD j.toNat [] else []
theorem RW_step (ns : List Int) {j : Nat} (h : j < 6) : RW (abF ns) (j : Int) = RW (abF ns) (aboveF ns j) ++ [nmF.getD j S1] := by
  have hb := above_lt ns j
  unfold RW
  rw [if_pos (by omega), Int.toNat_natCast, ← rows_getD (abF ns) (k := j + 1) (by omega) h]
  show (rowsF (abF ns) j ++ [_]).getD j [] = _
  have e : (rowsF (abF ns) j ++ [(if 0 ≤ (abF ns).getD j 0 then (rowsF (abF ns) j).getD ((abF ns).getD j 0).toNat [] else []) ++ [nmF.getD j S1]]).getD j [] = (if 0 ≤ (abF ns).getD j 0 then (rowsF (abF ns) j).getD ((abF ns).getD j 0).toNat [] else []) ++ [nmF.getD j S1] := by
    rw [List.getD_eq_getElem?_getD, List.getElem?_append_right (by rw [rowsF_length]; exact Nat.le_refl _), rowsF_length, Nat.sub_self]
    rfl
  rw [e, ab_getD ns h]
  by_cases h0 : 0 ≤ aboveF ns j
  · rw [if_pos h0, if_pos h0, rows_getD (abF ns) (k := j) (by omega) (by omega)]
  · rw [if_neg h0, if_neg h0]
theorem RW_RF (ns : List Int) : ∀ (m : Nat) (j : Int), -1 ≤ j → j + 1 = (m : Int) → m ≤ 6 → RW (abF ns) j ∈ RF m := by
  intro m
  induction m using Nat.strongRecOn with
  | _ m ih =>
    intro j h1 h2 h3
    cases m with
    | zero => unfold RW; rw [if_neg (by omega)]; exact .head _
    | succ m =>
      have e : j = (m : Int) := by omega
      subst e
      rw [RW_step ns (by omega)]
      have hb := above_lt ns m
      exact RF_snoc (RF_sub (k := (aboveF ns m + 1).toNat) (by omega) _ (ih (aboveF ns m + 1).toNat (by omega) _ hb.1 (by omega) (by omega)))
theorem RW_mem (ns : List Int) {j : Int} (h1 : -1 ≤ j) (h2 : j < 6) : RW (abF ns) j ∈ RF 6 := RF_sub (k := (j + 1).toNat) (by omega) _ (RW_RF ns _ j h1 (by omega) (by omega))
theorem rowT_nil : rowT [] = S1 := by decide +kernel
theorem RW_ne (ns : List Int) {j : Nat} (h : j < 6) : RW (abF ns) (j : Int) ≠ [] := by
  rw [RW_step ns h]; simp
theorem RW_inj (ns : List Int) {i j : Nat} (hi : i < 6) (hj : j < 6) (e : RW (abF ns) (i : Int) = RW (abF ns) (j : Int)) : i = j := by
  rw [RW_step ns hi, RW_step ns hj] at e
  have e2 := List.cons.inj (List.append_inj' e rfl).2
  have := List.all_eq_true.mp (List.all_eq_true.mp nm_c3 i (List.mem_range.mpr hi)) j (List.mem_range.mpr hj)
  rw [Bool.or_eq_true] at this
  rcases this with q | q
  · exact of_decide_eq_true q
  · exact absurd e2.1 (of_decide_eq_true q)
theorem find_at {l : List Str} {p : Str} {i : Nat} (hi : i < l.length) (h : l[i] = p) (hn : ∀ j (hj : j < i), l[j]'(Nat.lt_trans hj hi) ≠ p) : l.findIdx (· == p) = i := by
  refine (List.findIdx_eq hi).mpr ⟨by simp [h], fun j hj => by simpa using hn j hj⟩
theorem made_T (ns : List Int) : ∀ k, k ≤ 6 → madeN ns k = S1 :: (rowsF (abF ns) k).map rowT
  | 0, _ => rfl
  | k + 1, hk => by
    have ih := made_T ns k (Nat.le_of_succ_le hk)
    show nextP ns (madeN ns k) k = _
    rw [ih]
    generalize hps : (S1 :: (rowsF (abF ns) k).map rowT) = ps
    have hlen : ps.length = k + 1 := by rw [← hps]; simp [rowsF_length]
    have hat : ∀ (j : Nat) (hj : j < k), ps[j + 1]'(by omega) = rowT (RW (abF ns) (j : Int)) := fun j hj => by
      subst hps
      have hj2 : j < (rowsF (abF ns) k).length := by rw [rowsF_length]; exact hj
      have e := rows_getD (abF ns) hj (Nat.le_of_succ_le hk)
      unfold RW
      rw [if_pos (Int.natCast_nonneg j), Int.toNat_natCast, ← e]
      simp [List.getD_eq_getElem?_getD, List.getElem?_eq_getElem hj2]
    have hat0 : ps[0]'(by omega) = S1 := by subst hps; rfl
    have hfind : ∀ (j : Nat), j < k → findF ps (rowT (RW (abF ns) (j : Int))) = j + 1 := fun j hj => by
      unfold findF
      refine find_at (i := j + 1) (by rw [List.length_append]; omega) ?_ fun i hi => ?_
      · rw [List.getElem_append_left (by omega)]; exact hat j hj
      · rw [List.getElem_append_left (by omega)]
        cases i with
        | zero => rw [hat0, ← rowT_nil]; exact fun q => RW_ne ns (by omega) (rowT_inj (RF_nil 6) (RW_mem ns (by omega) (by omega)) q).symm
        | succ i => rw [hat i (by omega)]; exact fun q => by have := RW_inj ns (by omega) (by omega) (rowT_inj (RW_mem ns (by omega) (by omega)) (RW_mem ns (by omega) (by omega)) q); omega
    have hgo : ∀ x : Int, -1 ≤ x → x < (k : Int) → goUp ns ps k (rowT (RW (abF ns) x)) = rowT (RW (abF ns) (goI ns k x)) := fun x h1 h2 => by
      unfold goUp goI
      by_cases h0 : 0 ≤ x
      · obtain ⟨j, rfl⟩ := Int.eq_ofNat_of_zero_le h0
        have hjk : j < k := by omega
        have hne : (rowT (RW (abF ns) (j : Int)) != S1) = true := by
          rw [bne_iff_ne, ← rowT_nil]
          exact fun q => RW_ne ns (by omega) (rowT_inj (RW_mem ns (by omega) (by omega)) (RF_nil 6) q)
        rw [hfind j hjk, hne, Nat.add_sub_cancel, Int.toNat_natCast]
        by_cases c : ns.getD k 0 ≤ ns.getD j 0
        · rw [if_pos ⟨rfl, c⟩, if_pos ⟨h0, c⟩, RW_step ns (by omega)]
          have hb := above_lt ns j
          have := List.all_eq_true.mp (List.all_eq_true.mp rows_c7 j (List.mem_range.mpr (by omega))) (RW (abF ns) (aboveF ns j)) (RF_sub (k := (aboveF ns j + 1).toNat) (by omega) _ (RW_RF ns _ _ hb.1 (by omega) (by omega)))
          rw [Bool.and_eq_true] at this
          exact of_decide_eq_true this.2
        · rw [if_neg (fun q => c q.2), if_neg (fun q => c q.2)]
      · have e : RW (abF ns) x = [] := by unfold RW; rw [if_neg h0]
        have hc : ¬ ((rowT (RW (abF ns) x) != S1) = true ∧ ns.getD k 0 ≤ ns.getD (findF ps (rowT (RW (abF ns) x)) - 1) 0) := fun q => by
          have := q.1
          rw [e, rowT_nil] at this
          simp at this
        rw [if_neg hc, if_neg (fun q => h0 q.1)]
    have hlast : ps.getLastD S1 = rowT (RW (abF ns) (itI ns k 0)) := by
      unfold itI
      cases k with
      | zero =>
        have : RW (abF ns) (((0 : Nat) : Int) - 1) = [] := rfl
        rw [this, rowT_nil, ← hps]; rfl
      | succ k =>
        have e : (((k + 1 : Nat) : Int) - 1) = (k : Int) := by omega
        have h9 : ps.getLast? = some (rowT (RW (abF ns) (k : Int))) := by
          rw [List.getLast?_eq_getElem?, ← hat k (by omega)]
          rw [show ps.length - 1 = k + 1 by omega]
          exact List.getElem?_eq_getElem (by omega)
        rw [e, List.getLastD_eq_getLast?, h9]; rfl
    have hup : ∀ i, upN ns ps k (ps.getLastD S1) i = rowT (RW (abF ns) (itI ns k i)) := by
      intro i
      induction i with
      | zero => exact hlast
      | succ i ihi =>
        show goUp ns ps k (upN ns ps k (ps.getLastD S1) i) = _
        rw [ihi]
        have h := it_ok ns k i
        exact hgo _ h.lo h.hi
    unfold nextP
    rw [hup k, it_end]
    have hb := above_lt ns k
    have hj := List.all_eq_true.mp (List.all_eq_true.mp rows_c7 k (List.mem_range.mpr (by omega))) (RW (abF ns) (aboveF ns k)) (RF_sub (k := (aboveF ns k + 1).toNat) (by omega) _ (RW_RF ns _ _ hb.1 (by omega) (by omega)))
    rw [Bool.and_eq_true] at hj
    rw [of_decide_eq_true hj.1, ← RW_step ns (by omega), ← hps]
    show _ = S1 :: (rowsF (abF ns) k ++ [_]).map rowT
    rw [List.map_append, List.cons_append]
    congr 2
    show [_] = [rowT _]
    congr 2
    unfold RW
    rw [if_pos (Int.natCast_nonneg k), Int.toNat_natCast, ← rows_getD (abF ns) (k := k + 1) (by omega) hk]
    show (rowsF (abF ns) k ++ [_]).getD k [] = _
    rw [List.getD_eq_getElem?_getD, List.getElem?_append_right (by rw [rowsF_length]; exact Nat.le_refl _), rowsF_length, Nat.sub_self]
    rfl
theorem madeF_T (ns : List Int) : madeF ns = (rowsF (abF ns) 6).map rowT := by
  unfold madeF
  rw [made_T ns 6 (Nat.le_refl _)]
  rfl
end
end
-- PlF
example : True := by
  w_top off
  k_with_none
  exact trivial
section

section
noncomputable abbrev hookP (ns : List Int) : List (List Int) := ns.map fun n => onesP n.toNat
noncomputable def prodP : List (List Int) → List Int
  | [] => [1]
  | v :: r => r.foldl mulP v
noncomputable abbrev absP (p : List Int) : List Int := p.map fun x => (x.natAbs : Int)
noncomputable def prodQ : List Int := prodP ((List.range 6).map fun i => onesP (i + 1))
noncomputable def polyOk (ab rk sz : List Int) (w : List (Int × List Int)) : Bool :=
  w.any (fun p => decide (p.1 = 63)) && decide (mulP (gLook w 63 []) (prodP (hookP sz)) = prodQ) && decide (evP 50 (absP (gLook w 63 [])) < ((2 ^ 1000 : Nat) : Int)) && (hookP sz).all (fun p => decide (evP 50 (absP p) < ((2 ^ 64 : Nat) : Int)))
noncomputable def runR (rows : List (List Str)) : Option (Array Nat) := kasRun 6 (fun i j => ltL (rows.getD i []) (rows.getD j [])) (kas_sort 6)
noncomputable abbrev lzR (rows : List (List Str)) (p : List Nat) : List (List Str) := p.map fun i => rows.getD i []
noncomputable abbrev rkR (rows lz : List (List Str)) : List Int := rows.map fun r => ((lz.findIdx (· == r) : Nat) : Int)
noncomputable abbrev szR (rows lz : List (List Str)) : List Int := rows.map fun r => ((((evenOdd rows).map (preF r) ++ lz).countP (· == r) : Nat) : Int) - 1
noncomputable def okP (ab : List Int) (rows : List (List Str)) (p : Array Nat) : Bool :=
  decide (p.size = 6) && p.toList.all (fun i => decide (i < 6)) && rows.all (fun r => (lzR rows p.toList).contains r) && (szR rows (lzR rows p.toList)).all (fun n => decide (0 ≤ n) && decide (n < 1000)) &&
    polyOk ab (rkR rows (lzR rows p.toList)) (szR rows (lzR rows p.toList)) (gW addP shP [] [1] ab (rkR rows (lzR rows p.toList)) 6)
noncomputable def okR (ab : List Int) : Bool := match runR (rowsF ab 6) with
  | some p => okP ab (rowsF ab 6) p
  | none => false
noncomputable def chainL (ab : List Int) : Nat → Int → List Int
  | 0, j => [j]
  | n + 1, j => j :: (if 0 ≤ j then chainL ab n (ab.getD j.toNat 0) else [])
noncomputable def shapes : Nat → List (List Int)
  | 0 => [[]]
  | k + 1 => (shapes k).flatMap fun ab => (chainL ab k ((k : Int) - 1)).map fun a => ab ++ [a]
end
end
-- PlG
example : True := by
  w_top off
  k_with_none
  exact trivial
section

section
theorem all_ok1 : ((shapes 6).take 22).all okR = true := by decide +kernel
theorem all_ok2 : (((shapes 6).drop 22).take 22).all okR = true := by decide +kernel
theorem all_ok3 : (((shapes 6).drop 44).take 22).all okR = true := by decide +kernel
theorem all_ok4 : (((shapes 6).drop 66).take 22).all okR = true := by decide +kernel
theorem all_ok5 : (((shapes 6).drop 88).take 22).all okR = true := by decide +kernel
theorem all_ok6 : ((shapes 6).drop 110).all okR = true := by decide +kernel
theorem all_take {α : Type} {l : List α} {f : α → Bool} {a b : Nat} (h1 : ((l.drop a).take b).all f = true) (h2 : (l.drop (a + b)).all f = true) : (l.drop a).all f = true := by
  rw [← List.take_append_drop b (l.drop a), List.all_append, h1, List.drop_drop, h2]; rfl
theorem all_ok : (shapes 6).all okR = true :=
  all_take (l := shapes 6) (a := 0) (b := 22) all_ok1 (all_take (b := 22) all_ok2 (all_take (b := 22) all_ok3 (all_take (b := 22) all_ok4 (all_take (b := 22) all_ok5 all_ok6))))
theorem chain_mono (ab : List Int) : ∀ n j x, x ∈ chainL ab n j → x ∈ chainL ab (n + 1) j
  | 0, j, x, h => by rw [List.mem_singleton.mp h]; exact .head _
  | n + 1, j, x, h => by
    rcases List.mem_cons.mp h with h | h
    · rw [h]; exact .head _
    · refine .tail _ ?_
      by_cases h0 : 0 ≤ j
      · rw [if_pos h0] at h ⊢; exact chain_mono ab n _ x h
      · rw [if_neg h0] at h; cases h
theorem chain_next (ab : List Int) : ∀ n j x, x ∈ chainL ab n j → 0 ≤ x → ab.getD x.toNat 0 ∈ chainL ab (n + 1) j
  | 0, j, x, h, h0 => by
    rw [List.mem_singleton.mp h] at h0 ⊢
    refine .tail _ ?_
    rw [if_pos h0]; exact .head _
  | n + 1, j, x, h, h0 => by
    rcases List.mem_cons.mp h with h | h
    · rw [h] at h0 ⊢
      refine .tail _ ?_
      rw [if_pos h0]; exact .head _
    · refine .tail _ ?_
      by_cases hj : 0 ≤ j
      · rw [if_pos hj] at h ⊢; exact chain_next ab n _ x h h0
      · rw [if_neg hj] at h; cases h
noncomputable abbrev abN (ns : List Int) (k : Nat) : List Int := (List.range k).map (aboveF ns)
theorem it_chain (ns : List Int) (k : Nat) : ∀ i, itI ns k i ∈ chainL (abN ns k) i ((k : Int) - 1)
  | 0 => .head _
  | i + 1 => by
    have ih := it_chain ns k i
    have h := it_ok ns k i
    show goI ns k (itI ns k i) ∈ _
    generalize itI ns k i = x at ih h
    unfold goI
    by_cases c : 0 ≤ x ∧ ns.getD k 0 ≤ ns.getD x.toNat 0
    · rw [if_pos c]
      have := chain_next _ _ _ _ ih c.1
      have h1 := h.hi
      rw [show (abN ns k).getD x.toNat 0 = aboveF ns x.toNat by simp [List.getD_eq_getElem?_getD, show x.toNat < k by omega]] at this
      exact this
    · rw [if_neg c]; exact chain_mono _ _ _ _ ih
theorem shape_mem (ns : List Int) : ∀ k, abN ns k ∈ shapes k
  | 0 => .head _
  | k + 1 => by
    have ih := shape_mem ns k
    have e : abN ns (k + 1) = abN ns k ++ [aboveF ns k] := by simp [abN, List.range_succ]
    rw [e]
    refine List.mem_flatMap.mpr ⟨_, ih, List.mem_map.mpr ⟨_, ?_, rfl⟩⟩
    rw [← it_end]
    exact it_chain ns k k
theorem shape_ok (ns : List Int) : okR (abF ns) = true := List.all_eq_true.mp all_ok _ (shape_mem ns 6)
end
end
-- PlH
example : True := by
  w_top off
  k_with_none
  exact trivial
section

section
noncomputable abbrev lzF (ns : List Int) (p : Array Nat) : List Str := p.toList.map fun i => (madeF ns).getD i S1
noncomputable abbrev ksF (ns : List Int) (p : Array Nat) : List Int := (madeF ns).map fun x => (((lzF ns p).findIdx (· == x) : Nat) : Int)
noncomputable abbrev ssF (ns : List Int) (p : Array Nat) : List Int := (madeF ns).map (sizeF (madeF ns) (lzF ns p))
structure LawOk (ns : List Int) (p : Array Nat) : Prop where
  hg : ∀ x ∈ madeF ns, x.length < 1000 ∧ Txt.startswith x (Str.ofString "/") = true
  hcom : ∀ x ∈ madeF ns, ∀ y ∈ madeF ns, (comF x y).length < 1000
  h6 : (madeF ns).length = 6
  run : kasRun 6 (fun i j => decide (listedF ((madeF ns).getD i S1) ((madeF ns).getD j S1) < 0)) (kas_sort 6) = some p
  psz : p.size = 6
  plt : ∀ i ∈ p.toList, i < 6
  hok : ∀ x ∈ lzF ns p, PyData.strOk x = true
  run2 : kasRun 6 (fun i j => ltL ((rowsF (abF ns) 6).getD i []) ((rowsF (abF ns) 6).getD j [])) (kas_sort 6) = some p
  heq : lzF ns p = p.toList.map fun i => Str.ofString "/" ++ Txt.join (Str.ofString "/") ((rowsF (abF ns) 6).getD i [])
  hrl : ∀ r ∈ rowsF (abF ns) 6, ∀ x ∈ r, x.length < 1000
  hrn : ∀ r ∈ rowsF (abF ns) 6, r.length < 2000
  hin : ∀ x ∈ madeF ns, x ∈ lzF ns p
  hsh : ∀ x ∈ madeF ns, ∀ y ∈ madeF ns, SharedOk x y
  hsn : ∀ n ∈ ssF ns p, 0 ≤ n ∧ n < 1000
  hk63 : ∀ q : Int, -50 ≤ q → q ≤ 49 → kdfHas (ordW (abF ns) (ksF ns p) q 6) 63 = true
  hhk : ∀ q : Int, -50 ≤ q → q ≤ 49 → ∀ v ∈ hookL q (ssF ns p), Builtin.Int.intBits v ≤ 64
  hmo : ∀ q : Int, -50 ≤ q → q ≤ 49 → IntMulOk (kdfLook (ordW (abF ns) (ksF ns p) q 6) 63 0) (prodL (hookL q (ssF ns p)))
  hlaw : ∀ q : Int, -50 ≤ q → q ≤ 49 → kdfLook (ordW (abF ns) (ksF ns p) q 6) 63 0 * prodL (hookL q (ssF ns p)) = prodN q 6
theorem run_congr {α : Type} {n : Nat} {f g : Nat → Nat → Bool} (h : ∀ i j, i < n → j < n → f i j = g i j) : ∀ t : KasT α, kasRun n f t = kasRun n g t := by
  intro t
  induction t with
  | ret a => rfl
  | ask i j k ih =>
    unfold kasRun
    by_cases c : i < n ∧ j < n
    · rw [if_pos c, if_pos c, h i j c.1 c.2, ih]
    · rw [if_neg c, if_neg c]
theorem evP_pow (q : Int) : ∀ n, evP q (onesP (n + 1)) = evP q (onesP n) + q ^ n
  | 0 => by simp [onesP, evP]
  | n + 1 => by
    show 1 + q * evP q (onesP (n + 1)) = (1 + q * evP q (onesP n)) + q ^ (n + 1)
    rw [evP_pow q n, Int.mul_add, Int.pow_succ, Int.mul_comm q (q ^ n)]
    omega
theorem sumQ_ones (q : Int) : ∀ n, sumQ q n = evP q (onesP n)
  | 0 => rfl
  | n + 1 => by
    rw [evP_pow, ← sumQ_ones q n]
    unfold sumQ rangeKs
    rw [List.range_succ, List.map_append, List.map_append, List.sum_append]
    simp
theorem prodL_ev (q : Int) : ∀ l : List (List Int), prodL (l.map (evP q)) = evP q (prodP l)
  | [] => by simp [prodL, prodP, evP]
  | v :: r => by
    show (r.map (evP q)).foldl (· * ·) (evP q v) = evP q (r.foldl mulP v)
    induction r generalizing v with
    | nil => rfl
    | cons a r ih => rw [List.map_cons, List.foldl_cons, List.foldl_cons, ← evP_mul]; exact ih _
theorem prodN_ev (q : Int) : prodN q 6 = evP q prodQ := by
  unfold prodQ
  rw [← prodL_ev]
  show (((((1 * sumQ q 1) * sumQ q 2) * sumQ q 3) * sumQ q 4) * sumQ q 5) * sumQ q 6 = ((((evP q (onesP 1) * evP q (onesP 2)) * evP q (onesP 3)) * evP q (onesP 4)) * evP q (onesP 5)) * evP q (onesP 6)
  simp only [sumQ_ones, Int.one_mul]
theorem hook_ev (q : Int) (sz : List Int) : hookL q sz = (hookP sz).map (evP q) := by
  unfold hookL hookP
  rw [List.map_map]
  exact List.map_congr_left fun n _ => (evP_ones q n.toNat).symm
theorem look_ev (ab rk : List Int) (q : Int) : kdfLook (ordW ab rk q 6) 63 0 = evP q (gLook (gW addP shP [] [1] ab rk 6) 63 []) := by
  rw [ord_poly]
  exact gLook_hom (evP q) _ 63 []
theorem bits_prod {q : Int} : ∀ (l : List Int) (a : Int) (m : Nat), Builtin.Int.intBits a ≤ m → (∀ v ∈ l, Builtin.Int.intBits v ≤ 64) → Builtin.Int.intBits (l.foldl (· * ·) a) ≤ m + 64 * l.length
  | [], a, m, h, _ => by simpa using h
  | v :: l, a, m, h, hl => by
    have := bits_prod (q := q) l (a * v) (m + 64) (PySem.intBits_mul_le h (hl v (.head _))) fun u hu => hl u (.tail _ hu)
    rw [List.foldl_cons, List.length_cons]
    omega
theorem countP_T {l : List (List Str)} {r : List Str} (hr : r ∈ RF 6) (hl : ∀ x ∈ l, x ∈ RF 6) : (l.map rowT).countP (· == rowT r) = l.countP (· == r) := by
  rw [List.countP_map]
  refine List.countP_congr fun x hx => ?_
  simp only [Function.comp, beq_iff_eq]
  exact rowT_iff (hl x hx) hr
theorem find_T {l : List (List Str)} {r : List Str} (hr : r ∈ RF 6) (hl : ∀ x ∈ l, x ∈ RF 6) : (l.map rowT).findIdx (· == rowT r) = l.findIdx (· == r) := by
  induction l with
  | nil => rfl
  | cons x l ih =>
    have e : (rowT x == rowT r) = (x == r) := by
      rw [Bool.eq_iff_iff, beq_iff_eq, beq_iff_eq]
      exact rowT_iff (hl x (.head _)) hr
    rw [List.map_cons, List.findIdx_cons, List.findIdx_cons, e, ih fun y hy => hl y (.tail _ hy)]
theorem rowsF_RF (ab : List Int) : ∀ k, ∀ r ∈ rowsF ab k, r ∈ RF k
  | 0, r, h => by cases h
  | k + 1, r, h => by
    rcases List.mem_append.mp h with h | h
    · exact List.mem_append_left _ (rowsF_RF ab k r h)
    · rw [List.mem_singleton.mp h]
      refine RF_snoc ?_
      by_cases h0 : 0 ≤ ab.getD k 0
      · rw [if_pos h0, List.getD_eq_getElem?_getD]
        cases e : (rowsF ab k)[(ab.getD k 0).toNat]? with
        | none => exact RF_nil k
        | some x => exact rowsF_RF ab k x (List.mem_of_getElem? e)
      · rw [if_neg h0]; exact RF_nil k
theorem law_ok (ns : List Int) : ∃ p, LawOk ns p := by
  have ok := shape_ok ns
  unfold okR at ok
  cases e : runR (rowsF (abF ns) 6) with
  | none => rw [e] at ok; cases ok
  | some p =>
    rw [e] at ok
    replace ok : okP (abF ns) (rowsF (abF ns) 6) p = true := ok
    generalize hrows : rowsF (abF ns) 6 = rows at e ok
    have hR : ∀ r ∈ rows, r ∈ RF 6 := fun r hr => rowsF_RF (abF ns) 6 r (hrows ▸ hr)
    have hm : madeF ns = rows.map rowT := by rw [madeF_T, hrows]
    have hlen : rows.length = 6 := by rw [← hrows, rowsF_length]
    have hget : ∀ i, i < 6 → (madeF ns).getD i S1 = rowT (rows.getD i []) := fun i hi => by
      have hi' : i < rows.length := by rw [hlen]; exact hi
      rw [hm]
      simp [List.getD_eq_getElem?_getD, List.getElem?_eq_getElem hi']
    have hgR : ∀ i, i < 6 → rows.getD i [] ∈ RF 6 := fun i hi => by
      have hi' : i < rows.length := by rw [hlen]; exact hi
      rw [List.getD_eq_getElem?_getD, List.getElem?_eq_getElem hi']
      exact hR _ (List.getElem_mem _)
    simp only [okP, polyOk, Bool.and_eq_true, decide_eq_true_eq, List.all_eq_true] at ok
    obtain ⟨⟨⟨⟨psz, plt⟩, hin⟩, hsz⟩, ⟨⟨h63, hmul⟩, hbit⟩, hhb⟩ := ok
    have hlz : lzF ns p = (lzR rows p.toList).map rowT := by
      rw [List.map_map]
      exact List.map_congr_left fun i hi => hget i (plt i hi)
    have hlR : ∀ r ∈ lzR rows p.toList, r ∈ RF 6 := fun r hr => by
      obtain ⟨i, hi, rfl⟩ := List.mem_map.mp hr
      exact hgR i (plt i hi)
    have hks : ksF ns p = rkR rows (lzR rows p.toList) := by
      unfold ksF
      rw [hlz, hm, List.map_map]
      exact List.map_congr_left fun r hr => by
        show ((List.findIdx _ _ : Nat) : Int) = _
        rw [find_T (hR r hr) hlR]
    have hss : ssF ns p = szR rows (lzR rows p.toList) := by
      unfold ssF
      rw [hlz, hm, List.map_map]
      refine List.map_congr_left fun r hr => ?_
      show sizeF _ _ _ = _
      unfold sizeF
      rw [evenOdd_map, List.map_map]
      have heo : ∀ x ∈ evenOdd rows, x ∈ RF 6 := fun x hx => by
        rcases List.mem_append.mp hx with hx | hx
        all_goals (obtain ⟨j, _, hj⟩ := List.mem_filterMap.mp hx; exact hR _ (List.mem_of_getElem? hj))
      have e1 : (evenOdd rows).map (sharedF (rowT r) ∘ rowT) = ((evenOdd rows).map (preF r)).map rowT := by
        rw [List.map_map]
        exact List.map_congr_left fun x hx => shared_T (hR r hr) (heo x hx)
      rw [e1, ← List.map_append, countP_T (hR r hr) fun x hx => ?_]
      rcases List.mem_append.mp hx with hx | hx
      · obtain ⟨y, _, rfl⟩ := List.mem_map.mp hx
        exact preF_RF (hR r hr)
      · exact hlR x hx
    have hmr : ∀ x ∈ madeF ns, ∃ r ∈ RF 6, x = rowT r := fun x hx => by
      rw [hm] at hx
      obtain ⟨r, hr, rfl⟩ := List.mem_map.mp hx
      exact ⟨r, hR r hr, rfl⟩
    have hhk : ∀ q : Int, -50 ≤ q → q ≤ 49 → ∀ v ∈ hookL q (ssF ns p), Builtin.Int.intBits v ≤ 64 := fun q h1 h2 v hv => by
      rw [hss, hook_ev] at hv
      obtain ⟨P, hP, rfl⟩ := List.mem_map.mp hv
      exact bits_evP h1 h2 (hhb P hP)
    have hlk : ∀ q : Int, kdfLook (ordW (abF ns) (ksF ns p) q 6) 63 0 = evP q (gLook (gW addP shP [] [1] (abF ns) (rkR rows (lzR rows p.toList)) 6) 63 []) := fun q => by rw [hks, look_ev]
    have hpr : ∀ q : Int, prodL (hookL q (ssF ns p)) = evP q (prodP (hookP (szR rows (lzR rows p.toList)))) := fun q => by rw [hss, hook_ev, prodL_ev]
    refine ⟨p, ?_, ?_, ?_, ?_, psz, plt, ?_, ?_, ?_, ?_, ?_, ?_, ?_, ?_, ?_, hhk, ?_, ?_⟩
    · intro x hx
      obtain ⟨r, hr, rfl⟩ := hmr x hx
      exact ⟨(row_ok hr).1, (row_ok hr).2.1⟩
    · intro x hx y hy
      obtain ⟨r, hr, rfl⟩ := hmr x hx
      obtain ⟨r', hr', rfl⟩ := hmr y hy
      rw [com_T hr hr']
      exact (row_ok (preF_RF hr)).1
    · rw [hm, List.length_map, hlen]
    · rw [← e]
      unfold runR
      refine run_congr (fun i j hi hj => ?_) _
      rw [hget i hi, hget j hj]
      exact listed_T (hgR i hi) (hgR j hj)
    · intro x hx
      rw [hlz] at hx
      obtain ⟨r, hr, rfl⟩ := List.mem_map.mp hx
      exact (row_ok (hlR r hr)).2.2
    · rw [hrows]; exact e
    · rw [hrows]
      exact List.map_congr_left fun i hi => hget i (plt i hi)
    · intro r hr x hx
      have := RF_nm 6 (Nat.le_refl _) r (rowsF_RF _ 6 r hr) x hx
      exact of_decide_eq_true (List.all_eq_true.mp nm_c2 x this)
    · intro r hr
      have := RF_len 6 r (rowsF_RF _ 6 r hr)
      omega
    · intro x hx
      rw [hm] at hx
      obtain ⟨r, hr, rfl⟩ := List.mem_map.mp hx
      rw [hlz]
      exact List.mem_map.mpr ⟨r, by simpa using hin r hr, rfl⟩
    · intro x hx y hy
      obtain ⟨r, hr, rfl⟩ := hmr x hx
      obtain ⟨r', hr', rfl⟩ := hmr y hy
      exact sharedOk_T hr hr'
    · intro n hn
      rw [hss] at hn
      exact hsz n hn
    · intro q h1 h2
      rw [hks, ord_poly]
      unfold kdfHas
      rw [List.any_map]
      exact h63
    · intro q h1 h2
      have hb1 : Builtin.Int.intBits (kdfLook (ordW (abF ns) (ksF ns p) q 6) 63 0) ≤ 1000 := by
        rw [hlk]; exact bits_evP h1 h2 hbit
      have hb2 : Builtin.Int.intBits (prodL (hookL q (ssF ns p))) ≤ 1000 := by
        have hl6 : (hookL q (ssF ns p)).length = 6 := by rw [hss]; simp [hookL, hlen]
        have hb := hhk q h1 h2
        generalize hookL q (ssF ns p) = l at hb hl6
        cases l with
        | nil => cases hl6
        | cons v l =>
          have := bits_prod (q := q) l v 64 (hb v (.head _)) fun u hu => hb u (.tail _ hu)
          rw [List.length_cons] at hl6
          show Builtin.Int.intBits (l.foldl (· * ·) v) ≤ 1000
          omega
      exact IntMulOk.of_le hb1 hb2 (by decide)
    · intro q h1 h2
      rw [hlk, hpr, ← evP_mul, hmul, prodN_ev]
end
end
-- LwB
example : True := by
  w_top off
  k_with_none
  exact trivial
section
set_option maxHeartbeats 8000000
section
noncomputable def lawBody (P : Params) : List Stmt := match (hd.heap_1 P).lookup 249 with
  | some ⟨_, _, .func fd, _⟩ => match fd.body with
    | .stmts b => b
    | _ => []
  | _ => []
noncomputable def lawScope (P : Params) : Scope := match (hd.heap_1 P).lookup 249 with
  | some ⟨_, _, .func fd, _⟩ => fd.scope
  | _ => { kind := .function, names := [], isGenerator := false, isCoroutine := false }
noncomputable abbrev lawEnv (P : Params) (L : Addr) : Env := envOfC (Str.ofString "law") (lawScope P) L 249 (.ref 248)
theorem newsC {g h : Heap} {L : Addr} {all l : List (Addr × Obj)} {a : Addr × Obj} (N : News g L h all) (ha : a ∈ all) (hl : News g L h l) : News g L h (a :: l) := fun p hp =>
  (List.mem_cons.mp hp).elim (fun e => e ▸ N _ ha) (hl p)
theorem offC {l : List (Addr × Obj)} {a : Addr × Obj} {I : Nat} {o : Obj} (ha : @Ne Nat a.1 I) (hl : ∀ p ∈ l, ∀ q ∈ [((I : Addr), o)], p.1 ≠ q.1) : ∀ p ∈ a :: l, ∀ q ∈ [((I : Addr), o)], p.1 ≠ q.1 := fun p hp q hq =>
  (List.mem_cons.mp hp).elim (fun e => by rw [List.mem_singleton.mp hq, e]; exact ha) fun h => hl p h q hq
theorem oF1 {L b : Nat} (h : L + 6 < b) : L + 1 ≠ b := Nat.ne_of_lt (Nat.lt_of_le_of_lt (Nat.add_le_add_left (by decide : 1 ≤ 6) L) h)
theorem oF2 {L b : Nat} (h : L + 6 < b) : L + 1 + 1 ≠ b := Nat.ne_of_lt (Nat.lt_of_le_of_lt (Nat.add_le_add_left (by decide : 2 ≤ 6) L) h)
theorem oF3 {L b : Nat} (h : L + 6 < b) : L + 1 + 1 + 1 ≠ b := Nat.ne_of_lt (Nat.lt_of_le_of_lt (Nat.add_le_add_left (by decide : 3 ≤ 6) L) h)
theorem oF4 {L b : Nat} (h : L + 6 < b) : L + 1 + 1 + 1 + 1 ≠ b := Nat.ne_of_lt (Nat.lt_of_le_of_lt (Nat.add_le_add_left (by decide : 4 ≤ 6) L) h)
theorem oF5 {L b : Nat} (h : L + 6 < b) : L + 1 + 1 + 1 + 1 + 1 ≠ b := Nat.ne_of_lt (Nat.lt_of_le_of_lt (Nat.add_le_add_left (by decide : 5 ≤ 6) L) h)
theorem oF6 {L b : Nat} (h : L + 6 < b) : L + 1 + 1 + 1 + 1 + 1 + 1 ≠ b := Nat.ne_of_lt (Nat.lt_of_le_of_lt (Nat.add_le_add_left (by decide : 6 ≤ 6) L) h)
theorem oF7 {L b k : Nat} (hk : k < L) (h : L + 6 < b) : k ≠ b := Nat.ne_of_lt (Nat.lt_trans hk (Nat.lt_of_le_of_lt (Nat.le_add_right L 6) h))
theorem oF8 {L k : Nat} (j : Nat) (h : k < L) : k ≠ L + j := Nat.ne_of_lt (Nat.lt_of_lt_of_le h (Nat.le_add_right _ _))
theorem off12 {a1 a2 a3 a4 a5 a6 a7 a8 a9 a10 a11 a12 : Addr × Obj} {tl : List (Addr × Obj)} {I : Nat} (h : ∀ p ∈ a1 :: a2 :: a3 :: a4 :: a5 :: a6 :: a7 :: a8 :: a9 :: a10 :: a11 :: a12 :: tl, @Ne Nat p.1 I) : @Ne Nat a1.1 I ∧ @Ne Nat a2.1 I ∧ @Ne Nat a3.1 I ∧ @Ne Nat a4.1 I ∧ @Ne Nat a5.1 I ∧ @Ne Nat a6.1 I ∧ @Ne Nat a7.1 I ∧ @Ne Nat a8.1 I ∧ @Ne Nat a9.1 I ∧ @Ne Nat a10.1 I ∧ @Ne Nat a11.1 I ∧ @Ne Nat a12.1 I ∧ ∀ p ∈ tl, @Ne Nat p.1 I := by
  simpa only [List.forall_mem_cons] using h
theorem q_bounds (x : Int) : -50 ≤ x.fmod 100 - 50 ∧ x.fmod 100 - 50 ≤ 49 := by
  have h1 := Int.fmod_nonneg_of_pos x (b := 100) (by decide)
  have h2 := Int.fmod_lt_of_pos x (b := 100) (by decide)
  omega
theorem ints_of {ys : List Value} (h : ∀ (i : Nat) v, ys[i]? = some v → ∃ n t, v = .int n t) : ∃ nt : List (Int × Tok), ys = intsV nt ∧ nt.length = ys.length := by
  induction ys with
  | nil => exact ⟨[], rfl, rfl⟩
  | cons y ys ih =>
    obtain ⟨nt, e, l⟩ := ih fun i v hv => h (i + 1) v (by simpa using hv)
    obtain ⟨n, t, ey⟩ := h 0 y rfl
    exact ⟨(n, t) :: nt, by rw [ey, e]; rfl, by simp [l]⟩
example : True := by
  k_with "exec Assign cons ListComp" => (k_here; (with_reducible show wpAny _ _ (exec (Stmt.Assign [Expr.Name (Str.ofString "numbers") _] _ _) _) _ _ _); k_dflt (refine LCg.Assign_ListComp_U (F₀ := by k_asm) (by rfl) (by with_unfolding_all rfl) (by rfl) (by decide) (by rfl) (by decide) (by rfl) (by rfl) (by rfl) ?_))
  k_with "eval ListComp" => (k_here; k_dflt (refine LCg.ListComp_U (F₀ := by k_asm) (by with_unfolding_all rfl) (by decide) (by rfl) (by decide) (by rfl) ?_))
  k_with "CompSrc" => (k_here; (rename IsRange _ _ _ _ _ _ _ _ => rgX); k_dflt (refine' LCg.CompSrc.range (n := 6) rfl ?Fzq ?Nzq rgX ?smzq ?szzq (Nat.le_of_ble_eq_true rfl) ?_; (case Fzq => k_asm); (case Nzq => k_asm); (case smzq => decide); (case szzq => exact rfl); intro g'; refine' vals_rest (n := 6) (fun _ v => ∃ n t, v = Value.int n t) True.intro ?vturnzq ?vfinzq; (case' vturnzq => (intro i' v' I' oI' C' oC' D' m' ys' h' tk' E' hi' hp' hy' hC' hx' F' N' off' ne'; obtain ⟨t', e'⟩ := hp'; subst e'; clear ne')); (case' vfinzq => (intro ys' hy' hv'; obtain ⟨nt', e', l'⟩ := ints_of hv'; subst e'))))
  k_with "EltTo" => (k_here; k_dflt (exact EltTo.intro (by assumption) (by assumption) (by k_subL) ⟨_, _, rfl⟩))
  k_with "subscriptTail Name Slice ref ref" => (k_here; (with_reducible show wpAny _ _ (subscriptTail _ (PySem.Expr.Slice _ _ (some _) _) (Value.ref _) (Value.ref _)) _ _ _); k_dflt (refine' slice_ints ?Fzq ?Nzq ?lzq ?izq ?pzq ?qzq ?kzq ?ozq ?zzq ?_ ?szq ?tzq; (case Fzq => k_asm); (case Nzq => k_asm); (case lzq => kmk_list); (case izq => assumption); (case pzq => kmk_part); (case qzq => kmk_part); (case kzq => kmk_part); (case ozq => decide); (case zzq => omega); (case szq => with_unfolding_all rfl); (case tzq => (intro _; with_unfolding_all rfl))); intro D' h' zs' ms' hI' F' N' l1; (try k_lt l1))
  exact trivial
end
end
-- L1
example : True := by
  w_top off
  k_with_none
  k_with "exec Assign cons ListComp" => ((k_here; (with_reducible show wpAny _ _ (exec (Stmt.Assign [Expr.Name (Str.ofString "numbers") _] _ _) _) _ _ _); k_dflt (refine LCg.Assign_ListComp_U (F₀ := by k_asm) (by rfl) (by with_unfolding_all rfl) (by rfl) (by decide) (by rfl) (by decide) (by rfl) (by rfl) (by rfl) ?_)))
  k_with "eval ListComp" => ((k_here; k_dflt (refine LCg.ListComp_U (F₀ := by k_asm) (by with_unfolding_all rfl) (by decide) (by rfl) (by decide) (by rfl) ?_)))
  k_with "CompSrc" => ((k_here; (rename IsRange _ _ _ _ _ _ _ _ => rgX); k_dflt (refine' LCg.CompSrc.range (n := 6) rfl ?Fzq ?Nzq rgX ?smzq ?szzq (Nat.le_of_ble_eq_true rfl) ?_; (case Fzq => k_asm); (case Nzq => k_asm); (case smzq => decide); (case szzq => exact rfl); intro g'; refine' vals_rest (n := 6) (fun _ v => ∃ n t, v = Value.int n t) True.intro ?vturnzq ?vfinzq; (case' vturnzq => (intro i' v' I' oI' C' oC' D' m' ys' h' tk' E' hi' hp' hy' hC' hx' F' N' off' ne'; obtain ⟨t', e'⟩ := hp'; subst e'; clear ne')); (case' vfinzq => (intro ys' hy' hv'; obtain ⟨nt', e', l'⟩ := ints_of hv'; subst e')))))
  k_with "EltTo" => ((k_here; k_dflt (exact EltTo.intro (by assumption) (by assumption) (by k_subL) ⟨_, _, rfl⟩)))
  k_with "subscriptTail Name Slice ref ref" => ((k_here; (with_reducible show wpAny _ _ (subscriptTail _ (PySem.Expr.Slice _ _ (some _) _) (Value.ref _) (Value.ref _)) _ _ _); k_dflt (refine' slice_ints ?Fzq ?Nzq ?lzq ?izq ?pzq ?qzq ?kzq ?ozq ?zzq ?_ ?szq ?tzq; (case Fzq => k_asm); (case Nzq => k_asm); (case lzq => kmk_list); (case izq => assumption); (case pzq => kmk_part); (case qzq => kmk_part); (case kzq => kmk_part); (case ozq => decide); (case zzq => omega); (case szq => with_unfolding_all rfl); (case tzq => (intro _; with_unfolding_all rfl))); intro D' h' zs' ms' hI' F' N' l1; (try k_lt l1)))
  exact trivial
section
set_option maxHeartbeats 8000000
section
example : True := by
  k_with "k_ne" => (refine neN ?_; (try dsimp only); first | (rename _ ≠ _ ∧ _ => q9; first | exact Ne.symm q9.1 | exact q9.1 | exact Ne.symm q9.2.1 | exact q9.2.1 | exact Ne.symm q9.2.2.1 | exact q9.2.2.1 | exact Ne.symm q9.2.2.2.1 | exact q9.2.2.2.1 | exact Ne.symm q9.2.2.2.2.1 | exact q9.2.2.2.2.1 | exact Ne.symm q9.2.2.2.2.2.1 | exact q9.2.2.2.2.2.1 | exact Ne.symm q9.2.2.2.2.2.2.1 | exact q9.2.2.2.2.2.2.1 | exact Ne.symm q9.2.2.2.2.2.2.2.1 | exact q9.2.2.2.2.2.2.2.1 | exact Ne.symm q9.2.2.2.2.2.2.2.2 | exact q9.2.2.2.2.2.2.2.2 | (clear q9; omega)) | omega)
  exact trivial
example : True := by
  k_with "execs cons" => ((with_reducible show wpAny _ _ (execs (Stmt.For _ _ _ _ _ :: _) _) _ _ _); refine Stop.intro ?_)
  exact trivial
variable {w : World} {mean : ExcName → Option Value} {mg mb : Str → Option Value} {dp un : Nat} {gd : Option (List Code)} {outer : List Env} {base g : Heap} {Q : Flow → Shared → Prop} {E : Value → Shared → Prop} {s : Shared} {L : Nat}
  (B : Below (AR dp un gd outer) base outer g) (X : (KK w).In g) (T : Top topProg LL mean mg mb g) (hdp : dp + 30 < 900) (hun : un + 10 * 30 < 9000) (hc1 : CodeHd g 233 229) (hc2 : CodeHd g 83 79)
include B X T hdp hun hc1 hc2
theorem law_0 {o1 o2 o3 o4 o5 o6 : Obj} {sl : Addr} {vs : List Value} {ns : List Int} (hl : g.IsList sl vs.toArray) (hvs : IntsAre vs ns) (hlen : ns.length ≤ 63) (h79 : 79 < L) (h229 : 229 < L) (F : Fr g L s.heap fun _ => none)
    (N : News g L s.heap [(L + 1 + 1 + 1 + 1 + 1 + 1, o1), (L + 1 + 1 + 1 + 1 + 1, o2), (L + 1 + 1 + 1 + 1, o3), (L + 1 + 1 + 1, o4), (L + 1 + 1, o5), (L + 1, o6), (229, tabObj #[]), (79, tabObj #[])])
    (d1 : o1.data = .cell none) (d2 : o2.data = .cell none) (d3 : o3.data = .cell none) (d4 : o4.data = .cell none) (d5 : o5.data = .cell none) (d6 : o6.data = .cell (some (.ref sl)))
    (next : ∀ (h' : Heap) (tk : Nat) (lN lA lR D : Nat) (mt : List (Str × Tok)) (nt : List (Int × Tok)) (o3 o4 : Obj), Fr g L h' (fun y => if y = Str.ofString "above" then some (Value.ref lA) else if y = Str.ofString "rows" then some (Value.ref lR) else if y = Str.ofString "names" then some (Value.ref lN) else none) →
      News g L h' [(lR, W.listOf #[] 0), (lA, W.listOf #[] 0), (D, LCg.lst (intsV nt)), (lN, strsO mt 0), (L + 1 + 1 + 1 + 1 + 1 + 1, o1), (L + 1 + 1 + 1 + 1 + 1, o2), (L + 1 + 1 + 1 + 1, o3), (L + 1 + 1 + 1, o4), (L + 1 + 1, o5), (L + 1, o6), (229, tabObj #[]), (79, tabObj #[])] →
      o4.data = .cell (some (.ref D)) → (∃ q t, o3.data = .cell (some (.int q t)) ∧ -50 ≤ q ∧ q ≤ 49) → mt.map (·.1) = nmF → nt.length = 6 → L + 6 < lN → lN < lA → lA < lR → (D ≠ lN ∧ D < lA ∧ D ≠ L + 1 + 1 + 1 + 1 + 1 + 1 ∧ D ≠ L + 1 + 1 + 1 + 1 + 1 ∧ D ≠ L + 1 + 1 + 1 + 1 ∧ D ≠ L + 1 + 1 + 1 ∧ D ≠ L + 1 + 1 ∧ D ≠ L + 1 ∧ D ≠ 229 ∧ D ≠ 79) →
      wpAny (model PG w) ((AR dp un gd outer).deeper (lawEnv w.params L)) (execs ((lawBody w.params).drop 4) (lawEnv w.params L)) Q E { s with heap := h', toks := tk }) :
    wpAny (model PG w) ((AR dp un gd outer).deeper (lawEnv w.params L)) (execs (lawBody w.params) (lawEnv w.params L)) Q E s := by
  dsimp only [PG, KK, LL, lawEnv] at *
  generalize hsc : lawScope w.params = sc at next ⊢
  generalize hb2 : (lawBody w.params).drop 4 = b2 at next
  generalize hbo : lawBody w.params = bo
  conv at hsc => lhs; whnf
  conv at hbo => lhs; whnf
  conv at hb2 => lhs; whnf
  subst hsc hbo hb2
  revert X; k_fill; intro X
  have hvl : vs.length ≤ 63 := by rw [hvs.length]; exact hlen
  k_steps
  rename News _ _ _ _ => NN
  rename Fr _ _ _ _ => FF
  refine Stop.go ?_
  refine' next _ _ _ _ _ _ [(Str.ofString "b", _), (Str.ofString "a-", _), (Str.ofString "a", _), (Str.ofString "ab", _), (Str.ofString "a.b", _), (Str.ofString "c", _)] _ _ _ FF (fun p hp => NN p (.tail _ hp)) (by assumption) ⟨_, _, by assumption, q_bounds _⟩ rfl ?k6 ?k7 ?k8 ?k9 ?kA
  case k6 => simpa using ‹(intsV _).length = 6›
  case k7 => omega
  case k8 => omega
  case k9 => omega
  case kA =>
    rename _ ≠ _ ∧ _ => q9
    exact ⟨Ne.symm q9.1, by clear q9; omega, Ne.symm q9.2.1, Ne.symm q9.2.2.1, Ne.symm q9.2.2.2.1, Ne.symm q9.2.2.2.2.1, Ne.symm q9.2.2.2.2.2.1, Ne.symm q9.2.2.2.2.2.2.1, Ne.symm q9.2.2.2.2.2.2.2.1, Ne.symm q9.2.2.2.2.2.2.2.2⟩
end
end
-- L2
example : True := by
  w_top off
  k_with_none
  k_with "exec Assign cons ListComp" => ((k_here; (with_reducible show wpAny _ _ (exec (Stmt.Assign [Expr.Name (Str.ofString "numbers") _] _ _) _) _ _ _); k_dflt (refine LCg.Assign_ListComp_U (F₀ := by k_asm) (by rfl) (by with_unfolding_all rfl) (by rfl) (by decide) (by rfl) (by decide) (by rfl) (by rfl) (by rfl) ?_)))
  k_with "eval ListComp" => ((k_here; k_dflt (refine LCg.ListComp_U (F₀ := by k_asm) (by with_unfolding_all rfl) (by decide) (by rfl) (by decide) (by rfl) ?_)))
  k_with "CompSrc" => ((k_here; (rename IsRange _ _ _ _ _ _ _ _ => rgX); k_dflt (refine' LCg.CompSrc.range (n := 6) rfl ?Fzq ?Nzq rgX ?smzq ?szzq (Nat.le_of_ble_eq_true rfl) ?_; (case Fzq => k_asm); (case Nzq => k_asm); (case smzq => decide); (case szzq => exact rfl); intro g'; refine' vals_rest (n := 6) (fun _ v => ∃ n t, v = Value.int n t) True.intro ?vturnzq ?vfinzq; (case' vturnzq => (intro i' v' I' oI' C' oC' D' m' ys' h' tk' E' hi' hp' hy' hC' hx' F' N' off' ne'; obtain ⟨t', e'⟩ := hp'; subst e'; clear ne')); (case' vfinzq => (intro ys' hy' hv'; obtain ⟨nt', e', l'⟩ := ints_of hv'; subst e')))))
  k_with "EltTo" => ((k_here; k_dflt (exact EltTo.intro (by assumption) (by assumption) (by k_subL) ⟨_, _, rfl⟩)))
  k_with "subscriptTail Name Slice ref ref" => ((k_here; (with_reducible show wpAny _ _ (subscriptTail _ (PySem.Expr.Slice _ _ (some _) _) (Value.ref _) (Value.ref _)) _ _ _); k_dflt (refine' slice_ints ?Fzq ?Nzq ?lzq ?izq ?pzq ?qzq ?kzq ?ozq ?zzq ?_ ?szq ?tzq; (case Fzq => k_asm); (case Nzq => k_asm); (case lzq => kmk_list); (case izq => assumption); (case pzq => kmk_part); (case qzq => kmk_part); (case kzq => kmk_part); (case ozq => decide); (case zzq => omega); (case szq => with_unfolding_all rfl); (case tzq => (intro _; with_unfolding_all rfl))); intro D' h' zs' ms' hI' F' N' l1; (try k_lt l1)))
  exact trivial
section
set_option maxHeartbeats 8000000
section
theorem lt2000 {i n : Nat} (hi : i < 6) (h : n = i) : n < 2000 := h ▸ Nat.lt_trans hi (by decide)
theorem ltbig {i n : Nat} (hi : i < 6) (h : n = i) : n ≤ 16777216 := h ▸ Nat.le_of_lt (Nat.lt_trans hi (by decide))
theorem elimL2 {A B C D E : Sort _} {M : Str → Option Value} {X : A → B → C → D → E → List (Addr × Obj)} {R : A → B → C → D → E → Prop} {m : Str → Option Value} {nx : List (Addr × Obj)} {P : (Str → Option Value) → List (Addr × Obj) → Prop}
    (h : m = M ∧ ∃ a b c d e, nx = X a b c d e ∧ R a b c d e) (k : ∀ a b c d e, R a b c d e → P M (X a b c d e)) : P m nx := by
  obtain ⟨rfl, a, b, c, d, e, rfl, r⟩ := h
  exact k a b c d e r
theorem endN12 {g h : Heap} {L : Addr} {all : List (Addr × Obj)} {i0 b1 b2 b3 b4 b5 b6 b7 b8 b9 b10 b11 b12 : Addr × Obj} {rs : List RowR} {r : RowR} (N : News g L h all) (m0 : i0 ∈ all) (m1 : b1 ∈ all) (m2 : b2 ∈ all) (m3 : b3 ∈ all) (m4 : b4 ∈ all) (m5 : b5 ∈ all) (m6 : b6 ∈ all) (m7 : b7 ∈ all) (m8 : b8 ∈ all) (m9 : b9 ∈ all) (m10 : b10 ∈ all) (m11 : b11 ∈ all) (m12 : b12 ∈ all) (mr : ∀ p ∈ rowsLed rs, p ∈ all) (mx : (r.1, strsO r.2.1 r.2.2) ∈ all) :
    News g L h ([i0] ++ b1 :: b2 :: b3 :: b4 :: b5 :: b6 :: b7 :: b8 :: b9 :: b10 :: b11 :: b12 :: rowsLed (rs ++ [r])) :=
  newsC N m0 (newsC N m1 (newsC N m2 (newsC N m3 (newsC N m4 (newsC N m5 (newsC N m6 (newsC N m7 (newsC N m8 (newsC N m9 (newsC N m10 (newsC N m11 (newsC N m12 (fun p hp => by
    rw [rowsLed_snoc] at hp
    rcases List.mem_append.mp hp with hp | hp
    · exact N p (mr p hp)
    · rw [List.mem_singleton.mp hp]; exact N _ mx)))))))))))))
theorem endO12 {b1 b2 b3 b4 b5 b6 b7 b8 b9 b10 b11 b12 : Addr × Obj} {rs : List RowR} {r : RowR} {I : Nat} {o : Obj} (h : @Ne Nat b1.1 I ∧ @Ne Nat b2.1 I ∧ @Ne Nat b3.1 I ∧ @Ne Nat b4.1 I ∧ @Ne Nat b5.1 I ∧ @Ne Nat b6.1 I ∧ @Ne Nat b7.1 I ∧ @Ne Nat b8.1 I ∧ @Ne Nat b9.1 I ∧ @Ne Nat b10.1 I ∧ @Ne Nat b11.1 I ∧ @Ne Nat b12.1 I ∧ ∀ p ∈ rowsLed rs, @Ne Nat p.1 I) (hx : @Ne Nat r.1 I) : ∀ p ∈ b1 :: b2 :: b3 :: b4 :: b5 :: b6 :: b7 :: b8 :: b9 :: b10 :: b11 :: b12 :: rowsLed (rs ++ [r]), ∀ q ∈ [((I : Addr), o)], p.1 ≠ q.1 :=
  offC h.1 (offC h.2.1 (offC h.2.2.1 (offC h.2.2.2.1 (offC h.2.2.2.2.1 (offC h.2.2.2.2.2.1 (offC h.2.2.2.2.2.2.1 (offC h.2.2.2.2.2.2.2.1 (offC h.2.2.2.2.2.2.2.2.1 (offC h.2.2.2.2.2.2.2.2.2.1 (offC h.2.2.2.2.2.2.2.2.2.2.1 (offC h.2.2.2.2.2.2.2.2.2.2.2.1 (fun p hp q hq => by
    rw [List.mem_singleton.mp hq]
    rw [rowsLed_snoc] at hp
    rcases List.mem_append.mp hp with hp | hp
    · exact h.2.2.2.2.2.2.2.2.2.2.2.2 p hp
    · rw [List.mem_singleton.mp hp]; exact hx))))))))))))
example : True := by
  k_with "pc9" => (first | exact oF1 hlN | exact Ne.symm (oF1 hlN) | exact oF2 hlN | exact Ne.symm (oF2 hlN) | exact oF3 hlN | exact Ne.symm (oF3 hlN) | exact oF4 hlN | exact Ne.symm (oF4 hlN) | exact oF5 hlN | exact Ne.symm (oF5 hlN) | exact oF6 hlN | exact Ne.symm (oF6 hlN) | exact oF7 h79 hlN | exact Ne.symm (oF7 h79 hlN) | exact oF7 h229 hlN | exact Ne.symm (oF7 h229 hlN) | exact oF1 hlA6 | exact Ne.symm (oF1 hlA6) | exact oF2 hlA6 | exact Ne.symm (oF2 hlA6) | exact oF3 hlA6 | exact Ne.symm (oF3 hlA6) | exact oF4 hlA6 | exact Ne.symm (oF4 hlA6) | exact oF5 hlA6 | exact Ne.symm (oF5 hlA6) | exact oF6 hlA6 | exact Ne.symm (oF6 hlA6) | exact oF7 h79 hlA6 | exact Ne.symm (oF7 h79 hlA6) | exact oF7 h229 hlA6 | exact Ne.symm (oF7 h229 hlA6) | exact oF1 hlR6 | exact Ne.symm (oF1 hlR6) | exact oF2 hlR6 | exact Ne.symm (oF2 hlR6) | exact oF3 hlR6 | exact Ne.symm (oF3 hlR6) | exact oF4 hlR6 | exact Ne.symm (oF4 hlR6) | exact oF5 hlR6 | exact Ne.symm (oF5 hlR6) | exact oF6 hlR6 | exact Ne.symm (oF6 hlR6) | exact oF7 h79 hlR6 | exact Ne.symm (oF7 h79 hlR6) | exact oF7 h229 hlR6 | exact Ne.symm (oF7 h229 hlR6) | exact Nat.ne_of_lt hlA | exact Nat.ne_of_gt hlA | exact Nat.ne_of_lt hlR | exact Nat.ne_of_gt hlR | exact Nat.ne_of_lt (Nat.lt_trans hlA hlR) | exact Nat.ne_of_gt (Nat.lt_trans hlA hlR) | exact Nat.ne_of_lt hD.2.1 | exact Nat.ne_of_gt hD.2.1 | exact Nat.ne_of_lt (Nat.lt_trans hD.2.1 hlR) | exact Nat.ne_of_gt (Nat.lt_trans hD.2.1 hlR))
  k_with "pl9" => (first | exact Nat.ne_of_gt l9.1 | exact Nat.ne_of_lt l9.1 | exact Nat.ne_of_gt l9.2.1 | exact Nat.ne_of_lt l9.2.1 | exact Nat.ne_of_gt l9.2.2.1 | exact Nat.ne_of_lt l9.2.2.1 | exact Nat.ne_of_gt l9.2.2.2.1 | exact Nat.ne_of_lt l9.2.2.2.1 | exact Nat.ne_of_gt l9.2.2.2.2.1 | exact Nat.ne_of_lt l9.2.2.2.2.1 | exact Nat.ne_of_gt l9.2.2.2.2.2.1 | exact Nat.ne_of_lt l9.2.2.2.2.2.1 | exact Nat.ne_of_gt l9.2.2.2.2.2.2.1 | exact Nat.ne_of_lt l9.2.2.2.2.2.2.1 | exact Nat.ne_of_gt l9.2.2.2.2.2.2.2.1 | exact Nat.ne_of_lt l9.2.2.2.2.2.2.2.1 | exact Nat.ne_of_gt l9.2.2.2.2.2.2.2.2.1 | exact Nat.ne_of_lt l9.2.2.2.2.2.2.2.2.1 | exact Nat.ne_of_gt l9.2.2.2.2.2.2.2.2.2.1 | exact Nat.ne_of_lt l9.2.2.2.2.2.2.2.2.2.1 | exact Nat.ne_of_gt l9.2.2.2.2.2.2.2.2.2.2.1 | exact Nat.ne_of_lt l9.2.2.2.2.2.2.2.2.2.2.1 | exact Nat.ne_of_gt l9.2.2.2.2.2.2.2.2.2.2.2.1 | exact Nat.ne_of_lt l9.2.2.2.2.2.2.2.2.2.2.2.1 | exact Nat.ne_of_gt l9.2.2.2.2.2.2.2.2.2.2.2.2.1 | exact Nat.ne_of_lt l9.2.2.2.2.2.2.2.2.2.2.2.2.1)
  exact trivial
example : True := by
  k_with "k_ne" => (refine neN ?_; (try dsimp only); first | (walk_at "pc9") | (rename _ ≠ _ ∧ _ => q9; first | exact Ne.symm q9.1 | exact q9.1 | exact Ne.symm q9.2.1 | exact q9.2.1 | exact Ne.symm q9.2.2.1 | exact q9.2.2.1 | exact Ne.symm q9.2.2.2.1 | exact q9.2.2.2.1 | exact Ne.symm q9.2.2.2.2.1 | exact q9.2.2.2.2.1 | exact Ne.symm q9.2.2.2.2.2.1 | exact q9.2.2.2.2.2.1 | exact Ne.symm q9.2.2.2.2.2.2.1 | exact q9.2.2.2.2.2.2.1 | exact Ne.symm q9.2.2.2.2.2.2.2.1 | exact q9.2.2.2.2.2.2.2.1 | exact Ne.symm q9.2.2.2.2.2.2.2.2.1 | exact q9.2.2.2.2.2.2.2.2.1 | exact Ne.symm q9.2.2.2.2.2.2.2.2.2.1 | exact q9.2.2.2.2.2.2.2.2.2.1 | exact Ne.symm q9.2.2.2.2.2.2.2.2.2.2.1 | exact q9.2.2.2.2.2.2.2.2.2.2.1 | exact Ne.symm q9.2.2.2.2.2.2.2.2.2.2.2.1 | exact q9.2.2.2.2.2.2.2.2.2.2.2.1) | (rename _ < _ ∧ _ => l9; (walk_at "pl9")) | (rename _ < _ ∧ _ => l8; clear l8; rename _ < _ ∧ _ => l9; (walk_at "pl9")) | (clear hD hne; omega) | exact Ne.symm hne.1 | exact hne.1 | exact Ne.symm hne.2.1 | exact hne.2.1 | exact Ne.symm hne.2.2.1 | exact hne.2.2.1 | exact Ne.symm hne.2.2.2.1 | exact hne.2.2.2.1 | exact Ne.symm hne.2.2.2.2.1 | exact hne.2.2.2.2.1 | exact Ne.symm hne.2.2.2.2.2.1 | exact hne.2.2.2.2.2.1 | exact Ne.symm hne.2.2.2.2.2.2.1 | exact hne.2.2.2.2.2.2.1 | exact Ne.symm hne.2.2.2.2.2.2.2.1 | exact hne.2.2.2.2.2.2.2.1 | exact Ne.symm hne.2.2.2.2.2.2.2.2.1 | exact hne.2.2.2.2.2.2.2.2.1 | exact Ne.symm hne.2.2.2.2.2.2.2.2.2.1 | exact hne.2.2.2.2.2.2.2.2.2.1 | exact Ne.symm hne.2.2.2.2.2.2.2.2.2.2.1 | exact hne.2.2.2.2.2.2.2.2.2.2.1 | exact Ne.symm hne.2.2.2.2.2.2.2.2.2.2.2.1 | exact hne.2.2.2.2.2.2.2.2.2.2.2.1 | exact Ne.symm hD.1 | exact hD.1 | exact Ne.symm hD.2.1 | exact hD.2.1 | exact Ne.symm hD.2.2.1 | exact hD.2.2.1 | exact Ne.symm hD.2.2.2.1 | exact hD.2.2.2.1 | exact Ne.symm hD.2.2.2.2.1 | exact hD.2.2.2.2.1 | exact Ne.symm hD.2.2.2.2.2.1 | exact hD.2.2.2.2.2.1 | exact Ne.symm hD.2.2.2.2.2.2.1 | exact hD.2.2.2.2.2.2.1 | exact Ne.symm hD.2.2.2.2.2.2.2.1 | exact hD.2.2.2.2.2.2.2.1 | exact Ne.symm hD.2.2.2.2.2.2.2.2.1 | exact hD.2.2.2.2.2.2.2.2.1 | exact Ne.symm hD.2.2.2.2.2.2.2.2.2 | exact hD.2.2.2.2.2.2.2.2.2 | omega)
  k_with "k_all" => (with_reducible assumption)
  exact trivial
example : True := by
  k_with "execs cons" => ((with_reducible show wpAny _ _ (execs (Stmt.Assign [Expr.Name (Str.ofString "places") _] _ _ :: _) _) _ _ _); refine Stop.intro ?_)
  k_with "TurnT" => (refine Stop.intro ?_)
  k_with "exec For Name Call cons nil" => (k_here; (rename Fr _ _ _ _ => lF'); (with_unfolding_all refine' For_TF lF' (hE := by assumption) ?_; k_whole))
  k_with "call type:range" => (k_here; (with_reducible show wpAny _ _ (call (Value.type "range") [Value.int _ _]) _ _ _); k_dflt (refine' range_T (b := 1) ?nzq ?Fzq ?Nzq ?_; (case nzq => exact ⟨Nat.succ_le_succ (Nat.zero_le _)⟩); (case Fzq => k_asm); (case Nzq => k_asm)); intro r' h' tk' t1' v1' lc' lb' rgX' F' N'; clear lc')
  k_with "pyIter ref" => (refine Stop.intro ?_)
  k_with "eval ListComp" => (k_here; (with_reducible show wpAny _ _ (eval (Expr.ListComp _ [⟨_, _, [_], _⟩] _ _) _) _ _ _); k_dflt (refine LCt.ListComp_T (F₀ := by k_asm) (by with_unfolding_all rfl) (by decide) (by rfl) (by decide) (by rfl) ?_))
  k_with "CompSrcT" => (k_here; (rename IsRange _ _ _ _ _ _ _ _ => rgX); k_dflt (refine' LCt.CompSrcT.range rfl ?Fzq ?Nzq rgX ?smzq ?szzq ?zzq ?_; (case Fzq => k_asm); (case Nzq => k_asm); (case smzq => exact small_one (by decide) (by decide) (by omega) (by omega)); (case szzq => exact rangeSize_k _); (case zzq => (rw [PySem.sizeLine_eq]; omega))); intro g'; refine Stop.intro ?_)
  k_with "IFltYes" => (refine Stop.intro ?_)
  k_with "IFltNo" => (refine Stop.intro ?_)
  k_with "subscriptTail" => (k_here; (with_reducible show wpAny _ _ (subscriptTail (Expr.Name (Str.ofString "numbers") _) _ (Value.ref _) (Value.int _ _)) _ _ _); k_dflt (refine' item_numL ?Nzq ?mzq ?lzq (Int.zero_add _) ?jzq ?_ ?szq; (case Nzq => k_asm); (case mzq => k_mem); (case lzq => first | assumption | omega); (case jzq => first | assumption | omega); (case szq => with_unfolding_all rfl)); intro t')
  k_with "binaryOp Add ref ref" => (k_here; (with_reducible show wpAny _ _ (binaryOp _ (Value.ref _) (Value.ref _)) _ _ _); k_dflt (refine' cat1I ?Fzq ?Nzq ?azq ?bzq ?zzq ?_; (case Fzq => k_asm); (case Nzq => k_asm); (case azq => k_mem); (case bzq => k_mem); (case zzq => first | assumption | omega)); intro D' h' F' N' l1; (try k_lt l1); (try k_sweep))
  k_with "binaryOp Add ref ref" => (k_here; (with_reducible show wpAny _ _ (binaryOp _ (Value.ref _) (Value.ref _)) _ _ _); k_dflt (refine' catS3 ?Fzq ?Nzq ?azq ?bzq ?_; (case Fzq => k_asm); (case Nzq => k_asm); (case azq => k_mem); (case bzq => k_mem)); intro Dr' h' F' N' l1; (try k_lt l1); (try k_sweep))
  k_with "binaryOp Add ref ref" => (k_here; (with_reducible show wpAny _ _ (binaryOp _ (Value.ref _) (Value.ref _)) _ _ _); k_dflt (refine' catS2 ?Fzq ?Nzq ?azq ?bzq ?zzq ?_; (case Fzq => k_asm); (case Nzq => k_asm); (case azq => (repeat (first | with_reducible assumption | refine List.mem_cons_of_mem _ ?_))); (case bzq => k_mem); (case zzq => first | assumption | omega)); intro Dr' h' F' N' l1; (try k_lt l1); (try k_sweep))
  k_with "call builtin:list.append" => (k_here; (with_reducible show wpAny _ _ (call (Value.builtin _) [Value.ref _, Value.int _ _]) _ _ _); k_dflt (refine' append_I ?Fzq ?Nzq ?Uzq ?zzq ?_; (case Fzq => k_asm); (case Nzq => k_asm); (case Uzq => k_upd); (case zzq => first | assumption | omega)); intro h' F' N'; (try k_sweep))
  k_with "subscriptTail" => (k_here; (with_reducible show wpAny _ _ (subscriptTail (Expr.Name (Str.ofString "above") _) _ (Value.ref _) (Value.int _ _)) _ _ _); k_dflt (refine' item_lastI ?Nzq ?mzq ?lzq (Int.zero_add _) ?jzq ?_ ?szq; (case Nzq => k_asm); (case mzq => k_mem); (case lzq => assumption); (case jzq => first | assumption | omega); (case szq => with_unfolding_all rfl)))
  k_with "subscriptTail" => (k_here; (with_reducible show wpAny _ _ (subscriptTail (Expr.Name (Str.ofString "names") _) _ (Value.ref _) (Value.int _ _)) _ _ _); k_dflt (refine' item_strL ?Nzq ?mzq ?lzq (Int.zero_add _) ?jzq ?_ ?szq; (case Nzq => k_asm); (case mzq => k_mem); (case lzq => first | assumption | omega); (case jzq => first | assumption | omega); (case szq => with_unfolding_all rfl)); intro y' ty' ey' _)
  k_with "subscriptTail" => (k_here; (with_reducible show wpAny _ _ (subscriptTail (Expr.Name (Str.ofString "rows") _) _ (Value.ref _) (Value.int _ _)) _ _ _); k_dflt (have q' := rows_at (by assumption) (by assumption)); obtain ⟨ra', rz', rn', hr', hm', hz'⟩ := q'; k_dflt (refine' item_rowL ?Nzq ?mzq hr' ?h0zq ?jzq ?_ ?szq; (case Nzq => k_asm); (case mzq => k_mem); (case h0zq => assumption); (case jzq => (have := (above_lt (List.map (fun x => x.1) nt) i).2; omega)); (case szq => with_unfolding_all rfl)); k_dflt (have hzl' := row_len hz' (by omega)); clear hr')
  k_with "call builtin:max" => (k_here; (with_reducible show wpAny _ _ (call (Value.builtin _) [Value.ref _]) _ _ _); k_dflt (refine' max_I ?Fzq ?Nzq ?mzq ?lzq rfl ?_; (case Fzq => k_asm); (case Nzq => k_asm); (case mzq => k_mem); (case lzq => exact Nat.succ_pos _)); intro h' M' tm' tk' F' N' m1' m2'; k_dflt (have eM' := above_is (by assumption) m1' m2'); subst eM'; clear m1' m2')
  exact trivial
variable {w : World} {mean : ExcName → Option Value} {mg mb : Str → Option Value} {dp un : Nat} {gd : Option (List Code)} {outer : List Env} {base g : Heap} {Q : Flow → Shared → Prop} {E : Value → Shared → Prop} {s : Shared} {L : Nat}
  (B : Below (AR dp un gd outer) base outer g) (X : (KK w).In g) (T : Top topProg LL mean mg mb g) (hdp : dp + 30 < 900) (hun : un + 10 * 30 < 9000) (hc1 : CodeHd g 233 229) (hc2 : CodeHd g 83 79)
include B X T hdp hun hc1 hc2
theorem law_1 {o1 o2 o3 o4 o5 o6 : Obj} {lN lA lR D : Nat} {mt : List (Str × Tok)} {nt : List (Int × Tok)} (hE : PassesOwn (model PG w) ((AR dp un gd outer).deeper (lawEnv w.params L)) (lawEnv w.params L) E) (h79 : 79 < L) (h229 : 229 < L)
    (F : Fr g L s.heap (fun y => if y = Str.ofString "above" then some (Value.ref lA) else if y = Str.ofString "rows" then some (Value.ref lR) else if y = Str.ofString "names" then some (Value.ref lN) else none))
    (N : News g L s.heap [(lR, W.listOf #[] 0), (lA, W.listOf #[] 0), (D, LCg.lst (intsV nt)), (lN, strsO mt 0), (L + 1 + 1 + 1 + 1 + 1 + 1, o1), (L + 1 + 1 + 1 + 1 + 1, o2), (L + 1 + 1 + 1 + 1, o3), (L + 1 + 1 + 1, o4), (L + 1 + 1, o5), (L + 1, o6), (229, tabObj #[]), (79, tabObj #[])])
    (d5 : o5.data = .cell none) (d4 : o4.data = .cell (some (.ref D))) (hmt : mt.map (·.1) = nmF) (hnt : nt.length = 6) (hlN : L + 6 < lN) (hlA : lN < lA) (hlR : lA < lR)
    (hD : D ≠ lN ∧ D < lA ∧ D ≠ L + 1 + 1 + 1 + 1 + 1 + 1 ∧ D ≠ L + 1 + 1 + 1 + 1 + 1 ∧ D ≠ L + 1 + 1 + 1 + 1 ∧ D ≠ L + 1 + 1 + 1 ∧ D ≠ L + 1 + 1 ∧ D ≠ L + 1 ∧ D ≠ 229 ∧ D ≠ 79)
    (next : ∀ (h' : Heap) (tk nA nR : Nat) (am : List (Int × Tok)) (rs : List RowR) (o5 : Obj), Fr g L h' (fun y => if y = Str.ofString "above" then some (Value.ref lA) else if y = Str.ofString "rows" then some (Value.ref lR) else if y = Str.ofString "names" then some (Value.ref lN) else none) →
      News g L h' ((lR, rowsO rs nR) :: (lA, intsO am nA) :: (D, LCg.lst (intsV nt)) :: (lN, strsO mt 0) :: (L + 1 + 1 + 1 + 1 + 1 + 1, o1) :: (L + 1 + 1 + 1 + 1 + 1, o2) :: (L + 1 + 1 + 1 + 1, o3) :: (L + 1 + 1 + 1, o4) :: (L + 1 + 1, o5) :: (L + 1, o6) :: (229, tabObj #[]) :: (79, tabObj #[]) :: rowsLed rs) →
      LoopA (nt.map (·.1)) lA lR (L + 1 + 1) 6 am rs o5 tk →
      wpAny (model PG w) ((AR dp un gd outer).deeper (lawEnv w.params L)) (execs ((lawBody w.params).drop 5) (lawEnv w.params L)) Q E { s with heap := h', toks := tk }) :
    wpAny (model PG w) ((AR dp un gd outer).deeper (lawEnv w.params L)) (execs ((lawBody w.params).drop 4) (lawEnv w.params L)) Q E s := by
  dsimp only [PG, KK, LL, lawEnv] at *
  generalize hsc : lawScope w.params = sc at hE next ⊢
  generalize hb2 : (lawBody w.params).drop 5 = b2 at next
  generalize hbo : (lawBody w.params).drop 4 = bo
  conv at hsc => lhs; whnf
  conv at hbo => lhs; whnf
  conv at hb2 => lhs; whnf
  subst hsc hbo hb2
  revert X; k_fill; intro X
  have hlA6 : L + 6 < lA := Nat.lt_trans hlN hlA
  have hlR6 : L + 6 < lR := Nat.lt_trans hlA6 hlR
  k_steps
  rename IsRange _ _ _ _ _ _ _ _ => rgX
  rename LB 1 _ => lb
  rename News _ _ _ _ => NN
  rename Fr _ _ _ _ => FF
  refine Stop.go ?_
  refine rangeJ (n := 6) (fun i m nx tk => m = (fun y => if y = Str.ofString "above" then some (Value.ref lA) else if y = Str.ofString "rows" then some (Value.ref lR) else if y = Str.ofString "names" then some (Value.ref lN) else none) ∧ ∃ nA nR am rs o5, nx = (lR, rowsO rs nR) :: (lA, intsO am nA) :: (D, LCg.lst (intsV nt)) :: (lN, strsO mt 0) :: (L + 1 + 1 + 1 + 1 + 1 + 1, o1) :: (L + 1 + 1 + 1 + 1 + 1, o2) :: (L + 1 + 1 + 1 + 1, o3) :: (L + 1 + 1 + 1, o4) :: (L + 1 + 1, o5) :: (L + 1, o6) :: (229, tabObj #[]) :: (79, tabObj #[]) :: rowsLed rs ∧ LoopA (nt.map (·.1)) lA lR (L + 1 + 1) i am rs o5 tk)
    rfl rgX (by decide) rfl FF NN ⟨rfl, 0, 0, [], [], o5, rfl, ⟨lb, rfl, rfl, ⟨_, d5⟩, fun _ h => (nomatch h), fun _ h => (nomatch h), fun _ h => (nomatch h)⟩⟩ ?turn ?fin
  case turn =>
    clear NN FF rgX
    clear d5 lb
    intro i t m₁ news₁ tk₀ tk₁ h₁ I o hi hJ0 hle ho
    refine elimL2 (P := fun m nx => (∀ p ∈ nx, @Ne Nat p.1 I) → Fr g L h₁ m → News g L h₁ ((I, o) :: nx) → _) hJ0 ?_
    clear hJ0
    intro nA nR am rs o5' hJ hne F' N'
    refine Exists.elim hJ.cell ?_
    intro v5 hv5
    refine turn_gen fun Qt hQt => ?_
    have hRA := hJ.nA
    have hRR := hJ.nR
    have hRk := hJ.nk
    replace hne := off12 hne
    dsimp only at hne
    have hneR : ∀ p ∈ rowsLed rs, @Ne Nat p.1 I := hne.2.2.2.2.2.2.2.2.2.2.2.2
    have lb := hJ.lb.tr hle
    have hml : mt.length = 6 := by have := congrArg List.length hmt; rw [List.length_map] at this; exact this
    have hRl : rs.length = i := by have := congrArg List.length hJ.rows; rwa [List.length_map, rowsF_length] at this
    have hAl : am.length = i := by have := congrArg List.length hJ.am; simpa using this
    have hi2 : i < 2000 := lt2000 hi rfl
    have hR2 : rs.length ≤ 16777216 := ltbig hi hRl
    have hA2 : am.length < 2000 := lt2000 hi hAl
    have hi3 : i < nt.length := hnt ▸ hi
    have hi4 : i < mt.length := hml ▸ hi
    k_steps
    rename IsRange _ _ _ _ _ _ _ _ => rgY
    rename News _ _ _ _ => NN
    rename Fr _ _ _ _ => FF
    refine Stop.go ?_
    refine fltI_rest (fun j : Nat => decide ((nt.map (·.1)).getD j 0 < (nt.map (·.1)).getD i 0)) (fun j : Nat => 0 + (j : Int)) True.intro ?ct ?cf
    case ct =>
      clear rgY FF NN
      rintro j v I2 oI C oC D2 m₂ ys h tk' E' hj ⟨tj, rfl⟩ hC hx F' N' off' ne'
      clear ne'
      k_steps
      · exact Stop.go (IFltYes.intro F' N' (subL_of fun _ h => h) (decide_eq_true (by assumption)))
      · exact Stop.go (IFltNo.intro F' N' (subL_of fun _ h => h) (decide_eq_false (by assumption)))
    case cf =>
      clear rgY FF NN
      intro zs hz
      have hzl := flt_len hz
      k_steps
      all_goals (
        rename News _ _ _ _ => NN
        rename Fr _ _ _ _ => FF
        refine hQt _ _ ?_)
      · rw [rows_push (zs := rz' ++ [(y', ty')]) (n := 0)] at NN
        refine ⟨_, _, _, _, rfl, FF, ?hN, ?hO, trivial, fun hl => ⟨rfl, nA + 1, nR + 1, _, _, _, rfl, hJ.next (D := Dr') (n := 0) (t := tm') (zs := rz') (y := y') (ty := ty') hi (Nat.le_trans hle hl) (by rw [if_pos (by assumption)]; assumption) (by rw [← hmt]; exact ey') (by assumption) ?n1 ?n2 ?n3⟩⟩
        case hN => exact endN12 NN (by k_mem) (by k_mem) (by k_mem) (by k_mem) (by k_mem) (by k_mem) (by k_mem) (by k_mem) (by k_mem) (by k_mem) (by k_mem) (by k_mem) (by k_mem) (fun p hp => by repeat (first | with_reducible assumption | refine List.mem_cons_of_mem _ ?_)) (by k_mem)
        case hO => exact endO12 hne (by k_ne)
        case n1 => k_ne
        case n2 => k_ne
        case n3 => k_ne
      · rw [rows_push (zs := [] ++ [(y', ty')]) (n := 0)] at NN
        refine ⟨_, _, _, _, rfl, FF, ?hN2, ?hO2, trivial, fun hl => ⟨rfl, nA + 1, nR + 1, _, _, _, rfl, hJ.next (D := Dr') (n := 0) (t := tm') (zs := []) (y := y') (ty := ty') hi (Nat.le_trans hle hl) (by rw [if_neg (by assumption)]; rfl) (by rw [← hmt]; exact ey') (by assumption) ?m1 ?m2 ?m3⟩⟩
        case hN2 => exact endN12 NN (by k_mem) (by k_mem) (by k_mem) (by k_mem) (by k_mem) (by k_mem) (by k_mem) (by k_mem) (by k_mem) (by k_mem) (by k_mem) (by k_mem) (by k_mem) (fun p hp => by repeat (first | with_reducible assumption | refine List.mem_cons_of_mem _ ?_)) (by k_mem)
        case hO2 => exact endO12 hne (by k_ne)
        case m1 => k_ne
        case m2 => k_ne
        case m3 => k_ne
  case fin =>
    clear NN FF rgX d5 lb
    intro h' tk₀ tk m' news' F' N' hJ0 hle
    revert F' N'
    refine elimL2 (P := fun m nx => Fr g L h' m → News g L h' nx → _) hJ0 ?_
    clear hJ0
    intro nA nR am rs o5' hJ F' N'
    k_steps
    all_goals (
      with_reducible refine Stop.go ?_
      exact next _ _ _ _ _ _ _ F' N' { hJ with lb := hJ.lb.tr hle })
end
end
-- L3
example : True := by
  w_top off
  k_with_none
  k_with "lbt" => ((try dsimp only); (first | assumption | (apply LB.s1; first | assumption | (apply LB.s1; first | assumption | (apply LB.s1; first | assumption | (apply LB.s1; assumption))))))
  k_with "m_room" => (first | exact rm0 hdp | exact rm1 hdp (by decide) | exact rm2 hdp | ((try simp only [depth_under_make, depth_under_kw, depth_in1, depth_deeper, depth_caller] at *); (try dsimp only [AR] at *); omega) | ((simp only [recursionLimit, depth_under_make, depth_under_kw, depth_in1, depth_deeper, depth_caller] at *); (try dsimp only [AR] at *); omega) | decide)
  k_with "m_units" => (first | exact un1 hun (by decide) | exact un2 hun (by decide) | exact un3 hun (by decide) | exact un4 hun | (have hcL9 := cLine_is; (try simp only [units_in1, units_deeper, Around.mark_units, units_caller] at *); (try dsimp only [AR] at *); omega))
  k_with "exec Assign cons ListComp" => ((k_here; (with_reducible show wpAny _ _ (exec (Stmt.Assign [Expr.Name (Str.ofString "numbers") _] _ _) _) _ _ _); k_dflt (refine LCg.Assign_ListComp_U (F₀ := by k_asm) (by rfl) (by with_unfolding_all rfl) (by rfl) (by decide) (by rfl) (by decide) (by rfl) (by rfl) (by rfl) ?_)))
  k_with "eval ListComp" => ((k_here; k_dflt (refine LCg.ListComp_U (F₀ := by k_asm) (by with_unfolding_all rfl) (by decide) (by rfl) (by decide) (by rfl) ?_)))
  k_with "CompSrc" => ((k_here; (rename IsRange _ _ _ _ _ _ _ _ => rgX); k_dflt (refine' LCg.CompSrc.range (n := 6) rfl ?Fzq ?Nzq rgX ?smzq ?szzq (Nat.le_of_ble_eq_true rfl) ?_; (case Fzq => k_asm); (case Nzq => k_asm); (case smzq => decide); (case szzq => exact rfl); intro g'; refine' vals_rest (n := 6) (fun _ v => ∃ n t, v = Value.int n t) True.intro ?vturnzq ?vfinzq; (case' vturnzq => (intro i' v' I' oI' C' oC' D' m' ys' h' tk' E' hi' hp' hy' hC' hx' F' N' off' ne'; obtain ⟨t', e'⟩ := hp'; subst e'; clear ne')); (case' vfinzq => (intro ys' hy' hv'; obtain ⟨nt', e', l'⟩ := ints_of hv'; subst e')))))
  k_with "EltTo" => ((k_here; k_dflt (exact EltTo.intro (by assumption) (by assumption) (by k_subL) ⟨_, _, rfl⟩)))
  k_with "subscriptTail Name Slice ref ref" => ((k_here; (with_reducible show wpAny _ _ (subscriptTail _ (PySem.Expr.Slice _ _ (some _) _) (Value.ref _) (Value.ref _)) _ _ _); k_dflt (refine' slice_ints ?Fzq ?Nzq ?lzq ?izq ?pzq ?qzq ?kzq ?ozq ?zzq ?_ ?szq ?tzq; (case Fzq => k_asm); (case Nzq => k_asm); (case lzq => kmk_list); (case izq => assumption); (case pzq => kmk_part); (case qzq => kmk_part); (case kzq => kmk_part); (case ozq => decide); (case zzq => omega); (case szq => with_unfolding_all rfl); (case tzq => (intro _; with_unfolding_all rfl))); intro D' h' zs' ms' hI' F' N' l1; (try k_lt l1)))
  exact trivial
section
set_option maxHeartbeats 8000000
section
example : True := by
  k_with "pc9" => (first | exact oF1 hlN | exact Ne.symm (oF1 hlN) | exact oF2 hlN | exact Ne.symm (oF2 hlN) | exact oF3 hlN | exact Ne.symm (oF3 hlN) | exact oF4 hlN | exact Ne.symm (oF4 hlN) | exact oF5 hlN | exact Ne.symm (oF5 hlN) | exact oF6 hlN | exact Ne.symm (oF6 hlN) | exact oF7 h79 hlN | exact Ne.symm (oF7 h79 hlN) | exact oF7 h229 hlN | exact Ne.symm (oF7 h229 hlN) | exact oF1 hlA6 | exact Ne.symm (oF1 hlA6) | exact oF2 hlA6 | exact Ne.symm (oF2 hlA6) | exact oF3 hlA6 | exact Ne.symm (oF3 hlA6) | exact oF4 hlA6 | exact Ne.symm (oF4 hlA6) | exact oF5 hlA6 | exact Ne.symm (oF5 hlA6) | exact oF6 hlA6 | exact Ne.symm (oF6 hlA6) | exact oF7 h79 hlA6 | exact Ne.symm (oF7 h79 hlA6) | exact oF7 h229 hlA6 | exact Ne.symm (oF7 h229 hlA6) | exact oF1 hlR6 | exact Ne.symm (oF1 hlR6) | exact oF2 hlR6 | exact Ne.symm (oF2 hlR6) | exact oF3 hlR6 | exact Ne.symm (oF3 hlR6) | exact oF4 hlR6 | exact Ne.symm (oF4 hlR6) | exact oF5 hlR6 | exact Ne.symm (oF5 hlR6) | exact oF6 hlR6 | exact Ne.symm (oF6 hlR6) | exact oF7 h79 hlR6 | exact Ne.symm (oF7 h79 hlR6) | exact oF7 h229 hlR6 | exact Ne.symm (oF7 h229 hlR6) | exact Nat.ne_of_lt hlA | exact Nat.ne_of_gt hlA | exact Nat.ne_of_lt hlR | exact Nat.ne_of_gt hlR | exact Nat.ne_of_lt (Nat.lt_trans hlA hlR) | exact Nat.ne_of_gt (Nat.lt_trans hlA hlR) | exact Nat.ne_of_lt (Nat.lt_trans hD.2.1 hlR) | exact Nat.ne_of_gt (Nat.lt_trans hD.2.1 hlR) | exact oF8 1 h79 | exact Ne.symm (oF8 1 h79) | exact oF8 2 h79 | exact Ne.symm (oF8 2 h79) | exact oF8 3 h79 | exact Ne.symm (oF8 3 h79) | exact oF8 4 h79 | exact Ne.symm (oF8 4 h79) | exact oF8 5 h79 | exact Ne.symm (oF8 5 h79) | exact oF8 6 h79 | exact Ne.symm (oF8 6 h79) | exact oF8 1 h229 | exact Ne.symm (oF8 1 h229) | exact oF8 2 h229 | exact Ne.symm (oF8 2 h229) | exact oF8 3 h229 | exact Ne.symm (oF8 3 h229) | exact oF8 4 h229 | exact Ne.symm (oF8 4 h229) | exact oF8 5 h229 | exact Ne.symm (oF8 5 h229) | exact oF8 6 h229 | exact Ne.symm (oF8 6 h229) | exact Nat.ne_of_lt (Nat.lt_succ_self _) | exact Nat.ne_of_gt (Nat.lt_succ_self _) | exact Nat.ne_of_lt (Nat.lt_succ_of_lt (Nat.lt_succ_self _)) | exact Nat.ne_of_gt (Nat.lt_succ_of_lt (Nat.lt_succ_self _)))
  k_with "pl9" => (first | exact Nat.ne_of_gt l9.1 | exact Nat.ne_of_lt l9.1 | exact Nat.ne_of_gt l9.2.1 | exact Nat.ne_of_lt l9.2.1 | exact Nat.ne_of_gt l9.2.2.1 | exact Nat.ne_of_lt l9.2.2.1 | exact Nat.ne_of_gt l9.2.2.2.1 | exact Nat.ne_of_lt l9.2.2.2.1 | exact Nat.ne_of_gt l9.2.2.2.2.1 | exact Nat.ne_of_lt l9.2.2.2.2.1 | exact Nat.ne_of_gt l9.2.2.2.2.2.1 | exact Nat.ne_of_lt l9.2.2.2.2.2.1 | exact Nat.ne_of_gt l9.2.2.2.2.2.2.1 | exact Nat.ne_of_lt l9.2.2.2.2.2.2.1 | exact Nat.ne_of_gt l9.2.2.2.2.2.2.2.1 | exact Nat.ne_of_lt l9.2.2.2.2.2.2.2.1 | exact Nat.ne_of_gt l9.2.2.2.2.2.2.2.2.1 | exact Nat.ne_of_lt l9.2.2.2.2.2.2.2.2.1 | exact Nat.ne_of_gt l9.2.2.2.2.2.2.2.2.2.1 | exact Nat.ne_of_lt l9.2.2.2.2.2.2.2.2.2.1 | exact Nat.ne_of_gt l9.2.2.2.2.2.2.2.2.2.2.1 | exact Nat.ne_of_lt l9.2.2.2.2.2.2.2.2.2.2.1 | exact Nat.ne_of_gt l9.2.2.2.2.2.2.2.2.2.2.2.1 | exact Nat.ne_of_lt l9.2.2.2.2.2.2.2.2.2.2.2.1 | exact Nat.ne_of_gt l9.2.2.2.2.2.2.2.2.2.2.2.2.1 | exact Nat.ne_of_lt l9.2.2.2.2.2.2.2.2.2.2.2.2.1)
  exact trivial
example : True := by
  k_with "k_ne" => (refine neN ?_; (try dsimp only); first | exact hD.1 | exact Ne.symm hD.1 | exact Nat.ne_of_lt hD.2.1 | exact Nat.ne_of_gt hD.2.1 | exact hD.2.2.1 | exact Ne.symm hD.2.2.1 | exact hD.2.2.2.1 | exact Ne.symm hD.2.2.2.1 | exact hD.2.2.2.2.1 | exact Ne.symm hD.2.2.2.2.1 | exact hD.2.2.2.2.2.1 | exact Ne.symm hD.2.2.2.2.2.1 | exact hD.2.2.2.2.2.2.1 | exact Ne.symm hD.2.2.2.2.2.2.1 | exact hD.2.2.2.2.2.2.2.1 | exact Ne.symm hD.2.2.2.2.2.2.2.1 | exact hD.2.2.2.2.2.2.2.2.1 | exact Ne.symm hD.2.2.2.2.2.2.2.2.1 | exact hD.2.2.2.2.2.2.2.2.2 | exact Ne.symm hD.2.2.2.2.2.2.2.2.2 | (walk_at "pc9") | (rename _ < _ ∧ _ => l9; (walk_at "pl9")) | (rename _ < _ ∧ _ => l8; clear l8; rename _ < _ ∧ _ => l9; (walk_at "pl9")) | (clear hD; rename _ ≠ _ ∧ _ => q9; first | exact Ne.symm q9.1 | exact q9.1 | exact Ne.symm q9.2.1 | exact q9.2.1 | exact Ne.symm q9.2.2.1 | exact q9.2.2.1 | exact Ne.symm q9.2.2.2.1 | exact q9.2.2.2.1 | exact Ne.symm q9.2.2.2.2.1 | exact q9.2.2.2.2.1 | exact Ne.symm q9.2.2.2.2.2.1 | exact q9.2.2.2.2.2.1 | exact Ne.symm q9.2.2.2.2.2.2.1 | exact q9.2.2.2.2.2.2.1 | exact Ne.symm q9.2.2.2.2.2.2.2.1 | exact q9.2.2.2.2.2.2.2.1 | exact Ne.symm q9.2.2.2.2.2.2.2.2.1 | exact q9.2.2.2.2.2.2.2.2.1 | exact Ne.symm q9.2.2.2.2.2.2.2.2.2.1 | exact q9.2.2.2.2.2.2.2.2.2.1 | exact Ne.symm q9.2.2.2.2.2.2.2.2.2.2.1 | exact q9.2.2.2.2.2.2.2.2.2.2.1 | exact Ne.symm q9.2.2.2.2.2.2.2.2.2.2.2.1 | exact q9.2.2.2.2.2.2.2.2.2.2.2.1 | exact Ne.symm q9.2.2.2.2.2.2.2.2.2.2.2.2.1 | exact q9.2.2.2.2.2.2.2.2.2.2.2.2.1 | (clear q9; omega)) | (clear hD; omega) | omega)
  k_with "k_all" => (with_reducible assumption)
  exact trivial
example : True := by
  k_with "execs cons" => ((with_reducible show wpAny _ _ (execs (Stmt.If _ _ _ _ :: _) _) _ _ _); refine Stop.intro ?_)
  k_with "execs cons" => (k_here; (with_reducible show wpAny _ _ (execs (Stmt.Assign [Expr.Name (Str.ofString "listed") _] _ _ :: _) _) _ _ _); k_dflt (refine execs_T (by (walk_at "lbt")) ?_; intro tk' lc' lb'; clear lc'))
  k_with "call ref" => (refine Stop.intro ?_)
  k_with "call builtin:sorted" => (refine Stop.intro ?_)
  exact trivial
variable {w : World} {mean : ExcName → Option Value} {mg mb : Str → Option Value} {dp un : Nat} {gd : Option (List Code)} {outer : List Env} {base g : Heap} {Q : Flow → Shared → Prop} {E : Value → Shared → Prop} {s : Shared} {L : Nat}
  (B : Below (AR dp un gd outer) base outer g) (X : (KK w).In g) (T : Top topProg LL mean mg mb g) (hdp : dp + 30 < 900) (hun : un + 10 * 30 < 9000) (hc1 : CodeHd g 233 229) (hc2 : CodeHd g 83 79)
include B X T hdp hun hc1 hc2
theorem law_2 {o1 o2 o3 o4 o5 o6 : Obj} {lN lA lR D nA nR : Nat} {mt : List (Str × Tok)} {nt am : List (Int × Tok)} {rs : List RowR} {p : Array Nat} (h79 : 79 < L) (h229 : 229 < L)
    (F : Fr g L s.heap (fun y => if y = Str.ofString "above" then some (Value.ref lA) else if y = Str.ofString "rows" then some (Value.ref lR) else if y = Str.ofString "names" then some (Value.ref lN) else none))
    (N : News g L s.heap ((lR, rowsO rs nR) :: (lA, intsO am nA) :: (D, LCg.lst (intsV nt)) :: (lN, strsO mt 0) :: (L + 1 + 1 + 1 + 1 + 1 + 1, o1) :: (L + 1 + 1 + 1 + 1 + 1, o2) :: (L + 1 + 1 + 1 + 1, o3) :: (L + 1 + 1 + 1, o4) :: (L + 1 + 1, o5) :: (L + 1, o6) :: (229, tabObj #[]) :: (79, tabObj #[]) :: rowsLed rs))
    (d1 : o1.data = .cell none) (d2 : o2.data = .cell none) (d4 : o4.data = .cell (some (.ref D))) (hmt : mt.map (·.1) = nmF) (hnt : nt.length = 6) (hlN : L + 6 < lN) (hlA : lN < lA) (hlR : lA < lR)
    (hD : D ≠ lN ∧ D < lA ∧ D ≠ L + 1 + 1 + 1 + 1 + 1 + 1 ∧ D ≠ L + 1 + 1 + 1 + 1 + 1 ∧ D ≠ L + 1 + 1 + 1 + 1 ∧ D ≠ L + 1 + 1 + 1 ∧ D ≠ L + 1 + 1 ∧ D ≠ L + 1 ∧ D ≠ 229 ∧ D ≠ 79)
    (h0 : 0 < s.toks) (hg : ∀ x ∈ madeF (nt.map (·.1)), x.length < 1000 ∧ Txt.startswith x (Str.ofString "/") = true) (hcom : ∀ x ∈ madeF (nt.map (·.1)), ∀ y ∈ madeF (nt.map (·.1)), (comF x y).length < 1000) (h6 : (madeF (nt.map (·.1))).length = 6)
    (run : kasRun 6 (fun i j => decide (listedF ((madeF (nt.map (·.1))).getD i S1) ((madeF (nt.map (·.1))).getD j S1) < 0)) (kas_sort 6) = some p) (psz : p.size = 6) (plt : ∀ i ∈ p.toList, i < 6)
    (next : ∀ (h' : Heap) (tk P Dl kz cl : Nat) (zs : List (Str × Tok)) (ps : Array Value) (o2 : Obj) (tl : List (Addr × Obj)), Fr g L h' (fun y => if y = Str.ofString "places" then some (Value.ref P) else if y = Str.ofString "above" then some (Value.ref lA) else if y = Str.ofString "rows" then some (Value.ref lR) else if y = Str.ofString "names" then some (Value.ref lN) else none) →
      News g L h' ((Dl, strsO (p.toList.map fun i => zs.getD i (S1, 0)) cl) :: (P, strsO zs kz) :: (lR, rowsO rs nR) :: (lA, intsO am nA) :: (D, LCg.lst (intsV nt)) :: (lN, strsO mt 0) :: (L + 1 + 1 + 1 + 1 + 1 + 1, o1) :: (L + 1 + 1 + 1 + 1 + 1, o2) :: (L + 1 + 1 + 1 + 1, o3) :: (L + 1 + 1 + 1, o4) :: (L + 1 + 1, o5) :: (L + 1, o6) :: (229, tabObj #[]) :: (79, tabObj ps) :: tl) →
      o2.data = .cell (some (.ref Dl)) → zs.map (·.1) = madeF (nt.map (·.1)) → TokInv zs tk → (∀ q ∈ tl, q.1 ≠ L + 1 + 1 + 1 + 1 + 1 + 1) → (∀ q ∈ rowsLed rs, q ∈ tl) →
      (P < Dl ∧ lR < Dl ∧ lA < Dl ∧ D < Dl ∧ lN < Dl ∧ L + 6 < Dl ∧ 229 < Dl ∧ 79 < Dl ∧ AllLt Dl tl) → (P ≠ lR ∧ P ≠ lA ∧ P ≠ D ∧ P ≠ lN ∧ P ≠ L + 1 + 1 + 1 + 1 + 1 + 1 ∧ P ≠ L + 1 + 1 + 1 + 1 + 1 ∧ P ≠ L + 1 + 1 + 1 + 1 ∧ P ≠ L + 1 + 1 + 1 ∧ P ≠ L + 1 + 1 ∧ P ≠ L + 1 ∧ P ≠ 229 ∧ P ≠ 79) →
      wpAny (model PG w) ((AR dp un gd outer).deeper (lawEnv w.params L)) (execs ((lawBody w.params).drop 7) (lawEnv w.params L)) Q E { s with heap := h', toks := tk }) :
    wpAny (model PG w) ((AR dp un gd outer).deeper (lawEnv w.params L)) (execs ((lawBody w.params).drop 5) (lawEnv w.params L)) Q E s := by
  dsimp only [PG, KK, LL, lawEnv] at *
  generalize hsc : lawScope w.params = sc at next ⊢
  generalize hb2 : (lawBody w.params).drop 7 = b2 at next
  generalize hbo : (lawBody w.params).drop 5 = bo
  conv at hsc => lhs; whnf
  conv at hbo => lhs; whnf
  conv at hb2 => lhs; whnf
  subst hsc hbo hb2
  revert X; k_fill; intro X
  have hlA6 : L + 6 < lA := Nat.lt_trans hlN hlA
  have hlR6 : L + 6 < lR := Nat.lt_trans hlA6 hlR
  k_steps
  rename News _ _ _ _ => NN
  rename Fr _ _ _ _ => FF
  with_reducible refine Stop.go ?_
  refine' pureH_use (p_made w mean mg mb nt mt D lN hnt hmt) ?k1 FF X NN T rfl rfl ⟨⟨_, (NN (D, LCg.lst (intsV nt)) (by k_mem)).1, rfl, _, rfl⟩, ⟨_, (NN (lN, strsO mt 0) (by k_mem)).1, rfl, _, rfl⟩, h0⟩ ?kd ?ku ?_
  case k1 => k_asm
  case kd => (walk_at "m_room")
  case ku => (walk_at "m_units")
  rintro r h' tk hle ⟨P, zs, kz, rfl, e1, e2, e3, e4⟩ F' N'
  have nP : ∀ q ∈ ((lR, rowsO rs nR) :: (lA, intsO am nA) :: (D, LCg.lst (intsV nt)) :: (lN, strsO mt 0) :: (L + 1 + 1 + 1 + 1 + 1 + 1, o1) :: (L + 1 + 1 + 1 + 1 + 1, o2) :: (L + 1 + 1 + 1 + 1, o3) :: (L + 1 + 1 + 1, o4) :: (L + 1 + 1, o5) :: (L + 1, o6) :: (229, tabObj #[]) :: (79, tabObj #[]) :: rowsLed rs), @Ne Nat q.1 P := fun q hq e => by
    have := (NN q hq).1
    rw [e, e2] at this; cases this
  have nL : @Ne Nat P L := fun e => by
    obtain ⟨o, es, ep, e5, _⟩ := FF.ns
    rw [← e, e2] at e5; cases e5
  have n0 : g.get? P = none := by
    cases e5 : g.get? P with
    | none => rfl
    | some o => rw [FF.keep _ _ e5] at e2; cases e2
  have N2 : News g L h' ((P, strsO zs kz) :: (lR, rowsO rs nR) :: (lA, intsO am nA) :: (D, LCg.lst (intsV nt)) :: (lN, strsO mt 0) :: (L + 1 + 1 + 1 + 1 + 1 + 1, o1) :: (L + 1 + 1 + 1 + 1 + 1, o2) :: (L + 1 + 1 + 1 + 1, o3) :: (L + 1 + 1 + 1, o4) :: (L + 1 + 1, o5) :: (L + 1, o6) :: (229, tabObj #[]) :: (79, tabObj #[]) :: rowsLed rs) := fun q hq => by
    rcases List.mem_cons.mp hq with rfl | hq
    · exact ⟨e1, nL, n0⟩
    · exact N' q hq
  replace nP := off12 nP
  dsimp only at nP
  clear NN FF N' n0 nL e1 e2
  clear h0 hle
  have lbk : LB tk tk := ⟨Nat.le_refl _⟩
  k_steps
  with_reducible refine Stop.go ?_
  rename News _ _ _ _ => NN
  rename Fr _ _ _ _ => FF
  have c1 := (NN (L + 1 + 1 + 1 + 1 + 1 + 1, o1) (by k_mem)).1
  have c2 := (NN (L + 1 + 1 + 1 + 1 + 1, o2) (by k_mem)).1
  have c3 := (NN (79, tabObj #[]) (by k_mem)).1
  have hr1 : ∀ q ∈ rowsLed rs, q.1 ≠ L + 1 + 1 + 1 + 1 + 1 + 1 := fun q hq e => by
    have c := (NN q (by repeat (first | with_reducible assumption | refine List.mem_cons_of_mem _ ?_))).1
    obtain ⟨r, _, rfl⟩ := List.mem_map.mp hq
    rw [e, c1] at c; cases c; cases d1
  have hr2 : ∀ q ∈ rowsLed rs, q.1 ≠ L + 1 + 1 + 1 + 1 + 1 := fun q hq e => by
    have c := (NN q (by repeat (first | with_reducible assumption | refine List.mem_cons_of_mem _ ?_))).1
    obtain ⟨r, _, rfl⟩ := List.mem_map.mp hq
    rw [e, c2] at c; cases c; cases d2
  have hr3 : ∀ q ∈ rowsLed rs, @Ne Nat q.1 79 := fun q hq e => by
    have c := (NN q (by repeat (first | with_reducible assumption | refine List.mem_cons_of_mem _ ?_))).1
    obtain ⟨r, _, rfl⟩ := List.mem_map.mp hq
    rw [e, c3] at c; cases c
  clear c1 c2 c3
  refine' key_use ?kB FF X (news := (P, strsO zs kz) :: (lR, rowsO rs nR) :: (lA, intsO am nA) :: (D, LCg.lst (intsV nt)) :: (lN, strsO mt 0) :: (L + 1 + 1 + 1 + 1 + 1 + 1, o1) :: (L + 1 + 1 + 1 + 1 + 1, o2) :: (L + 1 + 1 + 1 + 1, o3) :: (L + 1 + 1 + 1, o4) :: (L + 1 + 1, o5) :: (L + 1, o6) :: (229, tabObj #[]) :: rowsLed rs) ?kN T rfl rfl hc2 ?kn ?kl ?kd2 ?ku2 ?_
  case kB => k_asm
  case kN =>
    iterate 13 (refine newsC NN (by k_mem) ?_)
    exact fun q hq => NN q (by repeat (first | with_reducible assumption | refine List.mem_cons_of_mem _ ?_))
  case kn =>
    iterate 12 (refine List.forall_mem_cons.mpr ⟨by dsimp only; first | exact hD.2.2.2.2.2.2.2.2.2 | exact Ne.symm nP.2.2.2.2.2.2.2.2.2.2.2.1 | (walk_at "pc9") | (clear hD; omega) | omega, ?_⟩)
    exact hr3
  case kl => omega
  case kd2 => (walk_at "m_room")
  case ku2 => (walk_at "m_units")
  rintro C led ps h2 tk2 hle F2 N2 hK hdis
  have N3 : News g L h2 ((P, strsO zs kz) :: (lR, rowsO rs nR) :: (lA, intsO am nA) :: (D, LCg.lst (intsV nt)) :: (lN, strsO mt 0) :: (L + 1 + 1 + 1 + 1 + 1 + 1, o1) :: (L + 1 + 1 + 1 + 1 + 1, o2) :: (L + 1 + 1 + 1 + 1, o3) :: (L + 1 + 1 + 1, o4) :: (L + 1 + 1, o5) :: (L + 1, o6) :: (229, tabObj #[]) :: (79, tabObj ps) :: (rowsLed rs ++ led)) := by
    iterate 13 (refine newsC N2 (List.mem_append_right _ (by k_mem)) ?_)
    refine fun q hq => ?_
    rcases List.mem_append.mp hq with hq | hq
    · exact N2 q (List.mem_append_right _ (by repeat (first | with_reducible assumption | refine List.mem_cons_of_mem _ ?_)))
    · exact N2 q (List.mem_append_left _ hq)
  have t1 : ∀ q ∈ rowsLed rs ++ led, q.1 ≠ L + 1 + 1 + 1 + 1 + 1 + 1 := fun q hq => by
    rcases List.mem_append.mp hq with hq | hq
    · exact hr1 q hq
    · exact hdis q hq (L + 1 + 1 + 1 + 1 + 1 + 1, o1) (by k_mem)
  have t2 : ∀ q ∈ rowsLed rs ++ led, q.1 ≠ L + 1 + 1 + 1 + 1 + 1 := fun q hq => by
    rcases List.mem_append.mp hq with hq | hq
    · exact hr2 q hq
    · exact hdis q hq (L + 1 + 1 + 1 + 1 + 1, o2) (by k_mem)
  have t3 : ∀ q ∈ rowsLed rs, q ∈ rowsLed rs ++ led := fun q hq => List.mem_append_left _ hq
  have t4 : ∀ q ∈ led, q ∈ rowsLed rs ++ led := fun q hq => List.mem_append_right _ hq
  generalize rowsLed rs ++ led = tl at N3 t1 t2 t3 t4
  clear NN FF N2 hdis hr1 hr2 hr3
  k_steps
  with_reducible refine Stop.go ?_
  have es : zs.length = 6 := by rw [← h6, ← e3, List.length_map]
  show wpAny _ _ (call (Value.builtin "sorted") [Value.ref P] [(Str.ofString "key", Value.ref C)]) _ _ _
  refine' sort_key_use (p := p) ?kB2 F2 X N3 T rfl rfl hK ?kled (P := P) (zs := zs) (k := kz) (by k_mem) (by omega) (by omega) (by rw [e3]; exact hg) (by rw [e3]; exact hcom) (by rw [es, e3]; exact run) (by rw [es]; exact psz) (by rw [es]; exact plt) ?kd3 ?ku3 ?_
  case kB2 => k_asm
  case kled => exact fun q hq => by repeat (first | exact t4 q hq | refine List.mem_cons_of_mem _ ?_)
  case kd3 => (walk_at "m_room")
  case ku3 => (walk_at "m_units")
  intro Dl h3 tk3 cl F' N' l1
  clear F2 N3
  k_lt l1
  k_steps
  with_reducible refine Stop.go ?_
  rename LB tk _ => lbe
  rename News _ _ _ _ => NN
  rename Fr _ _ _ _ => FF
  refine next _ _ _ _ _ _ _ _ _ _ FF NN (by assumption) e3 (TokInv.le e4 lbe.le) t1 t3 ?ko ?kp
  case ko =>
    obtain ⟨a1, a2, a3, a4, a5, a6, a7, a8, a9, a10, a11, a12, a13, a14⟩ := l1
    exact ⟨a1, a2, a3, a4, a5, by omega, by omega, by omega, a14⟩
  case kp =>
    obtain ⟨a1, a2, a3, a4, a5, a6, a7, a8, a9, a10, a11, a12, a13⟩ := nP
    exact ⟨Ne.symm a1, Ne.symm a2, Ne.symm a3, Ne.symm a4, Ne.symm a5, Ne.symm a6, Ne.symm a7, Ne.symm a8, Ne.symm a9, Ne.symm a10, Ne.symm a11, Ne.symm a12⟩
end
end
-- L4
example : True := by
  w_top off
  k_with_none
  k_with "lbt" => ((try dsimp only); (first | assumption | (apply LB.s1; first | assumption | (apply LB.s1; first | assumption | (apply LB.s1; first | assumption | (apply LB.s1; assumption))))))
  k_with "m_units" => (first | exact un1 hun (by decide) | exact un2 hun (by decide) | exact un3 hun (by decide) | exact un4 hun | (have hcL9 := cLine_is; (try simp only [units_in1, units_deeper, Around.mark_units, units_caller] at *); (try dsimp only [AR] at *); omega))
  k_with "exec Assign cons ListComp" => ((k_here; (with_reducible show wpAny _ _ (exec (Stmt.Assign [Expr.Name (Str.ofString "numbers") _] _ _) _) _ _ _); k_dflt (refine LCg.Assign_ListComp_U (F₀ := by k_asm) (by rfl) (by with_unfolding_all rfl) (by rfl) (by decide) (by rfl) (by decide) (by rfl) (by rfl) (by rfl) ?_)))
  k_with "eval ListComp" => ((k_here; k_dflt (refine LCg.ListComp_U (F₀ := by k_asm) (by with_unfolding_all rfl) (by decide) (by rfl) (by decide) (by rfl) ?_)))
  k_with "CompSrc" => ((k_here; (rename IsRange _ _ _ _ _ _ _ _ => rgX); k_dflt (refine' LCg.CompSrc.range (n := 6) rfl ?Fzq ?Nzq rgX ?smzq ?szzq (Nat.le_of_ble_eq_true rfl) ?_; (case Fzq => k_asm); (case Nzq => k_asm); (case smzq => decide); (case szzq => exact rfl); intro g'; refine' vals_rest (n := 6) (fun _ v => ∃ n t, v = Value.int n t) True.intro ?vturnzq ?vfinzq; (case' vturnzq => (intro i' v' I' oI' C' oC' D' m' ys' h' tk' E' hi' hp' hy' hC' hx' F' N' off' ne'; obtain ⟨t', e'⟩ := hp'; subst e'; clear ne')); (case' vfinzq => (intro ys' hy' hv'; obtain ⟨nt', e', l'⟩ := ints_of hv'; subst e')))))
  k_with "EltTo" => ((k_here; k_dflt (exact EltTo.intro (by assumption) (by assumption) (by k_subL) ⟨_, _, rfl⟩)))
  k_with "subscriptTail Name Slice ref ref" => ((k_here; (with_reducible show wpAny _ _ (subscriptTail _ (PySem.Expr.Slice _ _ (some _) _) (Value.ref _) (Value.ref _)) _ _ _); k_dflt (refine' slice_ints ?Fzq ?Nzq ?lzq ?izq ?pzq ?qzq ?kzq ?ozq ?zzq ?_ ?szq ?tzq; (case Fzq => k_asm); (case Nzq => k_asm); (case lzq => kmk_list); (case izq => assumption); (case pzq => kmk_part); (case qzq => kmk_part); (case kzq => kmk_part); (case ozq => decide); (case zzq => omega); (case szq => with_unfolding_all rfl); (case tzq => (intro _; with_unfolding_all rfl))); intro D' h' zs' ms' hI' F' N' l1; (try k_lt l1)))
  exact trivial
section
set_option maxHeartbeats 8000000
section
example : True := by
  k_with "k_all" => (with_reducible assumption)
  exact trivial
example : True := by
  k_with "execs cons" => (k_here; k_dflt (refine execs_T (by (walk_at "lbt")) ?_; intro tk' lc' lb'; clear lc'))
  k_with "execs cons" => ((with_reducible show wpAny _ _ (execs (Stmt.For _ _ _ _ _ :: _) _) _ _ _); refine Stop.intro ?_)
  k_with "call builtin:sorted" => (refine Stop.intro ?_)
  k_with "CompSrc" => (refine Stop.intro ?_)
  k_with "EltTo" => (refine Stop.intro ?_)
  k_with "compareOp NotEq ref ref" => (refine Stop.intro ?_)
  k_with "call builtin:str.join" => (refine Stop.intro ?_)
  k_with "call builtin:list.index" => (refine Stop.intro ?_)
  exact trivial
variable {w : World} {mean : ExcName → Option Value} {mg mb : Str → Option Value} {dp un : Nat} {gd : Option (List Code)} {outer : List Env} {base g : Heap} {Q : Flow → Shared → Prop} {E : Value → Shared → Prop} {s : Shared} {L : Nat}
  (B : Below (AR dp un gd outer) base outer g) (X : (KK w).In g) (T : Top topProg LL mean mg mb g) (hdp : dp + 30 < 900) (hun : un + 10 * 30 < 9000) (hc1 : CodeHd g 233 229) (hc2 : CodeHd g 83 79)
include B X T hdp hun hc1 hc2
theorem law_3 {o1 o2 o3 : Obj} {lN lA lR P Dl kz cl nA nR : Nat} {am : List (Int × Tok)} {rs : List RowR} {zs lz : List (Str × Tok)} {p2 : Array Nat} {tl : List (Addr × Obj)}
    (F : Fr g L s.heap (fun y => if y = Str.ofString "places" then some (Value.ref P) else if y = Str.ofString "above" then some (Value.ref lA) else if y = Str.ofString "rows" then some (Value.ref lR) else if y = Str.ofString "names" then some (Value.ref lN) else none))
    (N : News g L s.heap ((Dl, strsO lz cl) :: (P, strsO zs kz) :: (lR, rowsO rs nR) :: (lA, intsO am nA) :: (L + 1 + 1 + 1 + 1 + 1 + 1, o1) :: (L + 1 + 1 + 1 + 1 + 1, o2) :: (L + 1 + 1 + 1 + 1, o3) :: (229, tabObj #[]) :: tl))
    (d2 : o2.data = .cell (some (.ref Dl))) (hrows : ∀ q ∈ rowsLed rs, q ∈ tl) (hz6 : zs.length = 6) (hl6 : lz.length = 6) (hr6 : rs.length = 6) (hok : ∀ x ∈ lz.map (·.1), PyData.strOk x = true)
    (run : kasRun 6 (fun i j => ltL ((rowS rs).getD i []) ((rowS rs).getD j [])) (kas_sort 6) = some p2) (plt : ∀ i ∈ p2.toList, i < 6)
    (heq : lz.map (·.1) = p2.toList.map fun i => Str.ofString "/" ++ Txt.join (Str.ofString "/") ((rowS rs).getD i [])) (hrl : ∀ r ∈ rs, ∀ p ∈ r.2.1, p.1.length < 1000) (hrn : ∀ r ∈ rs, r.2.1.length < 2000)
    (hin : ∀ x ∈ zs.map (·.1), x ∈ lz.map (·.1)) {n0 : Nat} (lbn : LB n0 s.toks)
    (next : ∀ (h' : Heap) (tk lS Dr : Nat) (ks : List (Int × Tok)), Fr g L h' (fun y => if y = Str.ofString "sizes" then some (Value.ref lS) else if y = Str.ofString "ranks" then some (Value.ref Dr) else if y = Str.ofString "places" then some (Value.ref P) else if y = Str.ofString "above" then some (Value.ref lA) else if y = Str.ofString "rows" then some (Value.ref lR) else if y = Str.ofString "names" then some (Value.ref lN) else none) →
      News g L h' ((lS, W.listOf #[] 0) :: (Dr, LCg.lst (intsV ks)) :: (Dl, strsO lz cl) :: (P, strsO zs kz) :: (lA, intsO am nA) :: (L + 1 + 1 + 1 + 1 + 1 + 1, o1) :: (L + 1 + 1 + 1 + 1 + 1, o2) :: (L + 1 + 1 + 1 + 1, o3) :: (229, tabObj #[]) :: tl) →
      ks.map (·.1) = (zs.map (·.1)).map (fun x => (((lz.map (·.1)).findIdx (· == x) : Nat) : Int)) → LB n0 tk →
      (Dr < lS ∧ Dl < lS ∧ P < lS ∧ lA < lS ∧ L + 6 < lS ∧ 229 < lS ∧ AllLt lS tl) → (Dl ≠ Dr ∧ P ≠ Dr ∧ lA ≠ Dr ∧ L + 1 + 1 + 1 + 1 + 1 + 1 ≠ Dr ∧ L + 1 + 1 + 1 + 1 + 1 ≠ Dr ∧ L + 1 + 1 + 1 + 1 ≠ Dr ∧ 229 ≠ Dr) →
      wpAny (model PG w) ((AR dp un gd outer).deeper (lawEnv w.params L)) (execs ((lawBody w.params).drop 10) (lawEnv w.params L)) Q E { s with heap := h', toks := tk }) :
    wpAny (model PG w) ((AR dp un gd outer).deeper (lawEnv w.params L)) (execs ((lawBody w.params).drop 7) (lawEnv w.params L)) Q E s := by
  dsimp only [PG, KK, LL, lawEnv] at *
  generalize hsc : lawScope w.params = sc at next ⊢
  generalize hb2 : (lawBody w.params).drop 10 = b2 at next
  generalize hbo : (lawBody w.params).drop 7 = bo
  conv at hsc => lhs; whnf
  conv at hbo => lhs; whnf
  conv at hb2 => lhs; whnf
  subst hsc hbo hb2
  revert X; k_fill; intro X
  k_steps
  rename News _ _ _ _ => NN
  rename Fr _ _ _ _ => FF
  with_reducible refine Stop.go ?_
  refine' sort_rows (p := p2) FF NN (rs := rs) (n := nR) (by k_mem) ?hr (by omega) (by omega) ?hu (by rw [hr6]; exact run) (by rw [hr6]; exact plt) ?_
  case hr => exact fun q hq => by repeat (first | exact hrows q hq | refine List.mem_cons_of_mem _ ?_)
  case hu => (walk_at "m_units")
  intro Ds h1 c1 F' N' l1
  k_lt l1
  clear FF NN
  k_steps
  rename News _ _ _ _ => NN
  rename Fr _ _ _ _ => FF
  with_reducible refine Stop.go ?_
  have hp6 : (p2.toList.map fun i => rs.getD i default).length ≤ 1000 := by have := congrArg List.length heq; simp only [List.length_map] at this ⊢; omega
  have hmem : ∀ r ∈ p2.toList.map (fun i => rs.getD i default), r ∈ rs := fun r hr => by
    obtain ⟨i, hi, rfl⟩ := List.mem_map.mp hr
    have := plt i hi
    rw [← hr6] at this
    simp [List.getD_eq_getElem?_getD, List.getElem?_eq_getElem this]
  refine LCg.CompSrc.ledger rfl FF NN (its := ((p2.toList.map fun i => rs.getD i default).map fun r => Value.ref r.1).toArray) (k := c1) (by k_mem) (by rw [List.size_toArray, List.length_map, PySem.sizeLine_eq]; omega) ?_
  intro g'
  refine vals_rest (fun i v => ∃ t, v = .str (rowStr ((p2.toList.map fun i => rs.getD i default).getD i default)) t) (.inr ⟨_, .head _, rfl, _, rfl⟩) ?turn ?fin
  case turn =>
    clear FF NN
    intro i v I oI C oC D2 m₂ ys h tk E' hi hv hy hC hx F' N' off' ne'
    obtain ⟨a, xs, nx, hi2, rfl⟩ := refs_at hv
    have hr := hmem _ (List.mem_of_getElem? hi2)
    have hq := hrows _ (List.mem_map.mpr ⟨_, hr, rfl⟩)
    clear hv ne'
    k_steps
    rename News _ _ _ _ => NN
    rename Fr _ _ _ _ => FF
    with_reducible refine Stop.go ?_
    refine join_own NN (by repeat (first | exact hq | refine List.mem_cons_of_mem _ ?_)) (by decide) (hrl _ hr) (hrn _ hr) ?_
    intro t' k' hj
    k_steps
    rename News _ _ _ _ => N3
    rename Fr _ _ _ _ => F3
    with_reducible refine Stop.go ?_
    refine EltTo.intro F3 N3 (subL_of fun _ h => h) ?_
    have eg : (p2.toList.map fun i => rs.getD i default).getD i default = (a, xs, nx) := by rw [List.getD_eq_getElem?_getD, hi2]; rfl
    rw [eg]
    exact ⟨_, rfl⟩
  case fin =>
    clear FF NN
    intro ys hy hv
    obtain ⟨qs, rfl, eq⟩ := strs_of hy hv
    have eq2 : qs.map (·.1) = lz.map (·.1) := by rw [eq, heq, rows_same hr6 plt]; exact map_rangeD (by rw [List.size_toArray, List.length_map])
    clear eq hy hv
    k_steps
    rename News _ _ _ _ => NN
    rename Fr _ _ _ _ => FF
    with_reducible refine Stop.go ?_
    refine ne_strs_eq NN (xs := lz) (n1 := cl) (by k_mem) (by k_mem) ?hu2 hok eq2 ?_
    case hu2 => (walk_at "m_units")
    k_steps
    rename News _ _ _ _ => N3
    rename Fr _ _ _ _ => F3
    with_reducible refine Stop.go ?_
    refine LCg.CompSrc.ledger rfl F3 N3 (its := (strValues zs).toArray) (k := kz) (by k_mem) (by rw [List.size_toArray, PySem.sizeLine_eq]; simp only [strValues, List.length_map]; omega) ?_
    intro g'
    refine vals_rest (fun i v => ∃ t, v = .int (((lz.map (·.1)).findIdx (· == (zs.map (·.1)).getD i S1) : Nat) : Int) t) (.inr ⟨_, by k_mem, rfl, _, rfl⟩) ?turn2 ?fin2
    case turn2 =>
      clear N3 F3
      intro i v I oI C oC D3 m₂ ys h tk E' hi hv hy hC hx F' N' off' ne'
      obtain ⟨x, tx, hi2, rfl⟩ := strValues_at hv
      have hg : (zs.map (·.1)).getD i S1 = x := by rw [List.getD_eq_getElem?_getD, List.getElem?_map, hi2]; rfl
      rw [hg]
      have hxin : x ∈ lz.map (·.1) := hin x (List.mem_map.mpr ⟨_, List.mem_of_getElem? hi2, rfl⟩)
      clear hv ne' hi
      k_steps
      rename News _ _ _ _ => N4
      rename Fr _ _ _ _ => F4
      with_reducible refine Stop.go ?_
      refine index_S (zs := lz) (n := cl) N4 (by k_mem) hxin (by omega) ?_
      k_steps
      with_reducible refine Stop.go ?_
      exact EltTo.intro F4 N4 (subL_of fun _ h => h) ⟨_, rfl⟩
    case fin2 =>
      clear N3 F3
      intro ys hy hv
      obtain ⟨ks, rfl, ek⟩ := ints_of2 hy hv
      k_steps
      rename LB n0 _ => lbe
      rename News _ _ _ _ => N4
      rename Fr _ _ _ _ => F4
      with_reducible refine Stop.go ?_
      refine next _ _ _ _ ks F4 (fun q hq => ?hN) ?hk lbe.s1 ?ho ?hp
      case hN =>
        iterate 2 (rcases List.mem_cons.mp hq with rfl | hq; · exact N4 _ (by k_mem))
        iterate 2 (rcases List.mem_cons.mp hq with rfl | hq; · exact N4 _ (by k_mem))
        iterate 5 (rcases List.mem_cons.mp hq with rfl | hq; · exact N4 _ (by k_mem))
        exact N4 q (by repeat (first | exact hq | refine List.mem_cons_of_mem _ ?_))
      case hk =>
        rw [ek]
        exact (map_rangeD (l := zs.map (·.1)) (d := S1) (f := fun x => (((lz.map (·.1)).findIdx (· == x) : Nat) : Int)) (n := (strValues zs).toArray.size) (by simp [strValues]))
      case ho =>
        rename ((_ : Nat) < _ ∧ _) => l5
        obtain ⟨a1, a2, a3, a4, a5, a6, a7, a8, a9, a10, a11, a12⟩ := l5
        exact ⟨a1, a4, a5, a7, by omega, a11, a12⟩
      case hp =>
        rename ((_ : Nat) ≠ _ ∧ _) => l5
        obtain ⟨a1, a2, a3, a4, a5, a6, a7, a8, a9, a10, a11⟩ := l5
        exact ⟨a3, a4, a6, a7, a8, a9, a10⟩
end
end
-- L5
example : True := by
  w_top off
  k_with_none
  k_with "lbt" => ((try dsimp only); (first | assumption | (apply LB.s1; first | assumption | (apply LB.s1; first | assumption | (apply LB.s1; first | assumption | (apply LB.s1; assumption))))))
  k_with "m_room" => (first | exact rm0 hdp | exact rm1 hdp (by decide) | exact rm2 hdp | ((try simp only [depth_under_make, depth_under_kw, depth_in1, depth_deeper, depth_caller] at *); (try dsimp only [AR] at *); omega) | ((simp only [recursionLimit, depth_under_make, depth_under_kw, depth_in1, depth_deeper, depth_caller] at *); (try dsimp only [AR] at *); omega) | decide)
  k_with "m_units" => (first | exact un1 hun (by decide) | exact un2 hun (by decide) | exact un3 hun (by decide) | exact un4 hun | (have hcL9 := cLine_is; (try simp only [units_in1, units_deeper, Around.mark_units, units_caller] at *); (try dsimp only [AR] at *); omega))
  k_with "exec Assign cons ListComp" => ((k_here; (with_reducible show wpAny _ _ (exec (Stmt.Assign [Expr.Name (Str.ofString "numbers") _] _ _) _) _ _ _); k_dflt (refine LCg.Assign_ListComp_U (F₀ := by k_asm) (by rfl) (by with_unfolding_all rfl) (by rfl) (by decide) (by rfl) (by decide) (by rfl) (by rfl) (by rfl) ?_)))
  k_with "eval ListComp" => ((k_here; k_dflt (refine LCg.ListComp_U (F₀ := by k_asm) (by with_unfolding_all rfl) (by decide) (by rfl) (by decide) (by rfl) ?_)))
  k_with "CompSrc" => ((k_here; (rename IsRange _ _ _ _ _ _ _ _ => rgX); k_dflt (refine' LCg.CompSrc.range (n := 6) rfl ?Fzq ?Nzq rgX ?smzq ?szzq (Nat.le_of_ble_eq_true rfl) ?_; (case Fzq => k_asm); (case Nzq => k_asm); (case smzq => decide); (case szzq => exact rfl); intro g'; refine' vals_rest (n := 6) (fun _ v => ∃ n t, v = Value.int n t) True.intro ?vturnzq ?vfinzq; (case' vturnzq => (intro i' v' I' oI' C' oC' D' m' ys' h' tk' E' hi' hp' hy' hC' hx' F' N' off' ne'; obtain ⟨t', e'⟩ := hp'; subst e'; clear ne')); (case' vfinzq => (intro ys' hy' hv'; obtain ⟨nt', e', l'⟩ := ints_of hv'; subst e')))))
  k_with "EltTo" => ((k_here; k_dflt (exact EltTo.intro (by assumption) (by assumption) (by k_subL) ⟨_, _, rfl⟩)))
  k_with "subscriptTail Name Slice ref ref" => ((k_here; (with_reducible show wpAny _ _ (subscriptTail _ (PySem.Expr.Slice _ _ (some _) _) (Value.ref _) (Value.ref _)) _ _ _); k_dflt (refine' slice_ints ?Fzq ?Nzq ?lzq ?izq ?pzq ?qzq ?kzq ?ozq ?zzq ?_ ?szq ?tzq; (case Fzq => k_asm); (case Nzq => k_asm); (case lzq => kmk_list); (case izq => assumption); (case pzq => kmk_part); (case qzq => kmk_part); (case kzq => kmk_part); (case ozq => decide); (case zzq => omega); (case szq => with_unfolding_all rfl); (case tzq => (intro _; with_unfolding_all rfl))); intro D' h' zs' ms' hI' F' N' l1; (try k_lt l1)))
  exact trivial
section
set_option maxHeartbeats 8000000
section
theorem elimL5 {U A B C D : Sort _} {M : U → Str → Option Value} {X : A → B → C → List (Addr × Obj)} {R : A → B → C → D → Prop} {m : Str → Option Value} {nx : List (Addr × Obj)} {P : (Str → Option Value) → List (Addr × Obj) → Prop}
    (h : (∃ u, m = M u) ∧ ∃ a b c d, nx = X a b c ∧ R a b c d) (k : ∀ u a b c d, R a b c d → P (M u) (X a b c)) : P m nx := by
  obtain ⟨⟨u, rfl⟩, a, b, c, d, rfl, r⟩ := h
  exact k u a b c d r
theorem elim_str {zs : List (Str × Tok)} {i : Nat} {v : Value} {P : Value → Prop} (h : (strValues zs)[i]? = some v) (k : ∀ x tx, zs[i]? = some (x, tx) → P (.str x tx)) : P v := by
  obtain ⟨x, tx, e, rfl⟩ := strValues_at (by simpa using h)
  exact k x tx e
theorem off9 {b1 b2 b3 b4 b5 b6 b7 b8 b9 : Addr × Obj} {tl : List (Addr × Obj)} {I : Nat} (h : ∀ p ∈ b1 :: b2 :: b3 :: b4 :: b5 :: b6 :: b7 :: b8 :: b9 :: tl, @Ne Nat p.1 I) : @Ne Nat b1.1 I ∧ @Ne Nat b2.1 I ∧ @Ne Nat b3.1 I ∧ @Ne Nat b4.1 I ∧ @Ne Nat b5.1 I ∧ @Ne Nat b6.1 I ∧ @Ne Nat b7.1 I ∧ @Ne Nat b8.1 I ∧ @Ne Nat b9.1 I ∧ ∀ p ∈ tl, @Ne Nat p.1 I := by
  simpa only [List.forall_mem_cons] using h
theorem endN9 {g h : Heap} {L : Addr} {all : List (Addr × Obj)} {i0 b1 b2 b3 b4 b5 b6 b7 b8 b9 : Addr × Obj} {tl : List (Addr × Obj)} (N : News g L h all) (m0 : i0 ∈ all) (m1 : b1 ∈ all) (m2 : b2 ∈ all) (m3 : b3 ∈ all) (m4 : b4 ∈ all) (m5 : b5 ∈ all) (m6 : b6 ∈ all) (m7 : b7 ∈ all) (m8 : b8 ∈ all) (m9 : b9 ∈ all) (mr : ∀ p ∈ tl, p ∈ all) :
    News g L h ([i0] ++ b1 :: b2 :: b3 :: b4 :: b5 :: b6 :: b7 :: b8 :: b9 :: tl) :=
  newsC N m0 (newsC N m1 (newsC N m2 (newsC N m3 (newsC N m4 (newsC N m5 (newsC N m6 (newsC N m7 (newsC N m8 (newsC N m9 (fun p hp => N p (mr p hp)))))))))))
theorem endO9 {b1 b2 b3 b4 b5 b6 b7 b8 b9 : Addr × Obj} {tl : List (Addr × Obj)} {I : Nat} {o : Obj} (h : @Ne Nat b1.1 I ∧ @Ne Nat b2.1 I ∧ @Ne Nat b3.1 I ∧ @Ne Nat b4.1 I ∧ @Ne Nat b5.1 I ∧ @Ne Nat b6.1 I ∧ @Ne Nat b7.1 I ∧ @Ne Nat b8.1 I ∧ @Ne Nat b9.1 I ∧ ∀ p ∈ tl, @Ne Nat p.1 I) : ∀ p ∈ b1 :: b2 :: b3 :: b4 :: b5 :: b6 :: b7 :: b8 :: b9 :: tl, ∀ q ∈ [((I : Addr), o)], p.1 ≠ q.1 :=
  offC h.1 (offC h.2.1 (offC h.2.2.1 (offC h.2.2.2.1 (offC h.2.2.2.2.1 (offC h.2.2.2.2.2.1 (offC h.2.2.2.2.2.2.1 (offC h.2.2.2.2.2.2.2.1 (offC h.2.2.2.2.2.2.2.2.1 (fun p hp q hq => by rw [List.mem_singleton.mp hq]; exact h.2.2.2.2.2.2.2.2.2 p hp)))))))))
example : True := by
  k_with "pc9" => (first | exact oF1 hord.2.2.2.2.1 | exact Ne.symm (oF1 hord.2.2.2.2.1) | exact oF2 hord.2.2.2.2.1 | exact Ne.symm (oF2 hord.2.2.2.2.1) | exact oF3 hord.2.2.2.2.1 | exact Ne.symm (oF3 hord.2.2.2.2.1) | exact oF4 hord.2.2.2.2.1 | exact Ne.symm (oF4 hord.2.2.2.2.1) | exact oF5 hord.2.2.2.2.1 | exact Ne.symm (oF5 hord.2.2.2.2.1) | exact oF6 hord.2.2.2.2.1 | exact Ne.symm (oF6 hord.2.2.2.2.1) | exact oF7 h6.2.2.2 hord.2.2.2.2.1 | exact Ne.symm (oF7 h6.2.2.2 hord.2.2.2.2.1) | exact Nat.ne_of_lt hord.1 | exact Nat.ne_of_gt hord.1 | exact Nat.ne_of_lt hord.2.1 | exact Nat.ne_of_gt hord.2.1 | exact Nat.ne_of_lt hord.2.2.1 | exact Nat.ne_of_gt hord.2.2.1 | exact Nat.ne_of_lt hord.2.2.2.1 | exact Nat.ne_of_gt hord.2.2.2.1 | exact Nat.ne_of_lt hord.2.2.2.2.2.1 | exact Nat.ne_of_gt hord.2.2.2.2.2.1 | exact oF8 1 h6.2.2.2 | exact Ne.symm (oF8 1 h6.2.2.2) | exact oF8 2 h6.2.2.2 | exact Ne.symm (oF8 2 h6.2.2.2) | exact oF8 3 h6.2.2.2 | exact Ne.symm (oF8 3 h6.2.2.2) | exact oF8 4 h6.2.2.2 | exact Ne.symm (oF8 4 h6.2.2.2) | exact oF8 5 h6.2.2.2 | exact Ne.symm (oF8 5 h6.2.2.2) | exact oF8 6 h6.2.2.2 | exact Ne.symm (oF8 6 h6.2.2.2) | exact Nat.ne_of_lt (Nat.lt_succ_self _) | exact Nat.ne_of_gt (Nat.lt_succ_self _) | exact Nat.ne_of_lt (Nat.lt_succ_of_lt (Nat.lt_succ_self _)) | exact Nat.ne_of_gt (Nat.lt_succ_of_lt (Nat.lt_succ_self _)))
  k_with "pl9" => (first | exact Nat.ne_of_gt l9.1 | exact Nat.ne_of_lt l9.1 | exact Nat.ne_of_gt l9.2.1 | exact Nat.ne_of_lt l9.2.1 | exact Nat.ne_of_gt l9.2.2.1 | exact Nat.ne_of_lt l9.2.2.1 | exact Nat.ne_of_gt l9.2.2.2.1 | exact Nat.ne_of_lt l9.2.2.2.1 | exact Nat.ne_of_gt l9.2.2.2.2.1 | exact Nat.ne_of_lt l9.2.2.2.2.1 | exact Nat.ne_of_gt l9.2.2.2.2.2.1 | exact Nat.ne_of_lt l9.2.2.2.2.2.1 | exact Nat.ne_of_gt l9.2.2.2.2.2.2.1 | exact Nat.ne_of_lt l9.2.2.2.2.2.2.1 | exact Nat.ne_of_gt l9.2.2.2.2.2.2.2.1 | exact Nat.ne_of_lt l9.2.2.2.2.2.2.2.1 | exact Nat.ne_of_gt l9.2.2.2.2.2.2.2.2.1 | exact Nat.ne_of_lt l9.2.2.2.2.2.2.2.2.1 | exact Nat.ne_of_gt l9.2.2.2.2.2.2.2.2.2.1 | exact Nat.ne_of_lt l9.2.2.2.2.2.2.2.2.2.1 | exact Nat.ne_of_gt l9.2.2.2.2.2.2.2.2.2.2.1 | exact Nat.ne_of_lt l9.2.2.2.2.2.2.2.2.2.2.1 | exact Nat.ne_of_gt l9.2.2.2.2.2.2.2.2.2.2.2.1 | exact Nat.ne_of_lt l9.2.2.2.2.2.2.2.2.2.2.2.1 | exact Nat.ne_of_gt l9.2.2.2.2.2.2.2.2.2.2.2.2.1 | exact Nat.ne_of_lt l9.2.2.2.2.2.2.2.2.2.2.2.2.1)
  exact trivial
example : True := by
  k_with "k_ne" => (refine neN ?_; (try dsimp only); first | (rename _ ≠ _ ∧ _ => q9; first | exact Ne.symm q9.1 | exact q9.1 | exact Ne.symm q9.2.1 | exact q9.2.1 | exact Ne.symm q9.2.2.1 | exact q9.2.2.1 | exact Ne.symm q9.2.2.2.1 | exact q9.2.2.2.1 | exact Ne.symm q9.2.2.2.2.1 | exact q9.2.2.2.2.1 | exact Ne.symm q9.2.2.2.2.2.1 | exact q9.2.2.2.2.2.1 | exact Ne.symm q9.2.2.2.2.2.2.1 | exact q9.2.2.2.2.2.2.1 | exact Ne.symm q9.2.2.2.2.2.2.2.1 | exact q9.2.2.2.2.2.2.2.1 | exact Ne.symm q9.2.2.2.2.2.2.2.2.1 | exact q9.2.2.2.2.2.2.2.2.1 | exact Ne.symm q9.2.2.2.2.2.2.2.2.2.1 | exact q9.2.2.2.2.2.2.2.2.2.1 | exact Ne.symm q9.2.2.2.2.2.2.2.2.2.2.1 | exact q9.2.2.2.2.2.2.2.2.2.2.1 | exact Ne.symm q9.2.2.2.2.2.2.2.2.2.2.2.1 | exact q9.2.2.2.2.2.2.2.2.2.2.2.1) | (walk_at "pc9") | (rename _ < _ ∧ _ => l9; (walk_at "pl9")) | (rename _ < _ ∧ _ => l8; clear l8; rename _ < _ ∧ _ => l9; (walk_at "pl9")) | (clear hDr hne h6; omega) | exact Ne.symm hne.1 | exact hne.1 | exact Ne.symm hne.2.1 | exact hne.2.1 | exact Ne.symm hne.2.2.1 | exact hne.2.2.1 | exact Ne.symm hne.2.2.2.1 | exact hne.2.2.2.1 | exact Ne.symm hne.2.2.2.2.1 | exact hne.2.2.2.2.1 | exact Ne.symm hne.2.2.2.2.2.1 | exact hne.2.2.2.2.2.1 | exact Ne.symm hne.2.2.2.2.2.2.1 | exact hne.2.2.2.2.2.2.1 | exact Ne.symm hne.2.2.2.2.2.2.2.1 | exact hne.2.2.2.2.2.2.2.1 | exact Ne.symm hne.2.2.2.2.2.2.2.2.1 | exact hne.2.2.2.2.2.2.2.2.1 | exact Ne.symm hDr.1 | exact hDr.1 | exact Ne.symm hDr.2.1 | exact hDr.2.1 | exact Ne.symm hDr.2.2.1 | exact hDr.2.2.1 | exact Ne.symm hDr.2.2.2.1 | exact hDr.2.2.2.1 | exact Ne.symm hDr.2.2.2.2.1 | exact hDr.2.2.2.2.1 | exact Ne.symm hDr.2.2.2.2.2.1 | exact hDr.2.2.2.2.2.1 | exact Ne.symm hDr.2.2.2.2.2.2 | exact hDr.2.2.2.2.2.2 | exact Ne.symm h6.1 | exact h6.1 | exact Ne.symm h6.2.1 | exact h6.2.1 | exact Ne.symm h6.2.2.1 | exact h6.2.2.1 | exact Ne.symm h6.2.2.2 | exact h6.2.2.2 | (clear hDr h6; omega) | (clear hDr; omega) | omega)
  k_with "k_all" => (with_reducible assumption)
  exact trivial
example : True := by
  k_with "execs cons" => (k_here; k_dflt (refine execs_T (by (walk_at "lbt")) ?_; intro tk' lc' lb'; clear lc'))
  k_with "execs cons" => ((with_reducible show wpAny _ _ (execs (Stmt.Assign [Expr.Name (Str.ofString "hooks") _] _ _ :: _) _) _ _ _); refine Stop.intro ?_)
  k_with "exec For Name Name cons nil" => (k_here; (rename Fr _ _ _ _ => lF'); (with_unfolding_all refine' For_TF lF' (hE := by assumption) ?_; k_whole))
  k_with "pyIter ref" => (refine Stop.intro ?_)
  k_with "TurnT" => (refine Stop.intro ?_)
  k_with "CompK" => (refine Stop.intro ?_)
  k_with "EltTo" => (refine Stop.intro ?_)
  k_with "call ref" => (refine Stop.intro ?_)
  k_with "exec Assign cons ListComp" => (k_here; (with_reducible show wpAny _ _ (exec (Stmt.Assign [Expr.Name (Str.ofString "shared") _] _ _) _) _ _ _); k_dflt (refine Assign_ListComp_K (F₀ := by k_asm) (by rfl) (by with_unfolding_all rfl) (by with_unfolding_all rfl) (by decide) (by rfl) (by decide) (by rfl) (by rfl) (by rfl) ?_))
  k_with "subscriptTail Name Slice ref ref" => (k_here; (with_reducible show wpAny _ _ (subscriptTail _ (PySem.Expr.Slice none none (some _) _) (Value.ref _) (Value.ref _)) _ _ _); k_dflt (refine' slice_strs (z := 6) [0, 2, 4] ?Fzq ?Nzq ?mzq ?pzq ?qzq ?kzq ?ozq ?zzq ?z2zq ?iszq ?_ ?szq ?tzq; (case Fzq => k_asm); (case Nzq => k_asm); (case mzq => k_mem); (case pzq => kmk_part); (case qzq => kmk_part); (case kzq => kmk_part); (case ozq => decide); (case zzq => assumption); (case z2zq => decide); (case iszq => decide); (case szq => with_unfolding_all rfl); (case tzq => (intro _; with_unfolding_all rfl))); intro D' h' F' N' l1; (try k_lt l1))
  k_with "subscriptTail Name Slice ref ref" => (k_here; (with_reducible show wpAny _ _ (subscriptTail _ (PySem.Expr.Slice (some _) none (some _) _) (Value.ref _) (Value.ref _)) _ _ _); k_dflt (refine' slice_strs (z := 6) [1, 3, 5] ?Fzq ?Nzq ?mzq ?pzq ?qzq ?kzq ?ozq ?zzq ?z2zq ?iszq ?_ ?szq ?tzq; (case Fzq => k_asm); (case Nzq => k_asm); (case mzq => k_mem); (case pzq => kmk_part); (case qzq => kmk_part); (case kzq => kmk_part); (case ozq => decide); (case zzq => assumption); (case z2zq => decide); (case iszq => decide); (case szq => with_unfolding_all rfl); (case tzq => (intro _; with_unfolding_all rfl))); intro D' h' F' N' l1; (try k_lt l1))
  k_with "binaryOp Add ref ref" => (k_here; (with_reducible show wpAny _ _ (binaryOp _ (Value.ref _) (Value.ref _)) _ _ _); k_dflt (refine' cat_own ?Fzq ?Nzq ?azq ?bzq ?zzq ?yzq ?_; (case Fzq => k_asm); (case Nzq => k_asm); (case azq => k_mem); (case bzq => k_mem); (case zzq => first | assumption | exact Nat.lt_of_le_of_lt (List.length_filterMap_le _ _) (by decide) | omega); (case yzq => first | assumption | exact Nat.lt_of_le_of_lt (List.length_filterMap_le _ _) (by decide) | omega)); intro D' h' F' N' l1; (try k_lt l1))
  k_with "call builtin:list.append" => (k_here; (with_reducible show wpAny _ _ (call (Value.builtin _) [Value.ref _, Value.int _ _]) _ _ _); k_dflt (refine' append_I ?Fzq ?Nzq ?Uzq ?zzq ?_; (case Fzq => k_asm); (case Nzq => k_asm); (case Uzq => k_upd); (case zzq => omega)); intro h' F' N'; (try k_sweep))
  exact trivial
variable {w : World} {mean : ExcName → Option Value} {mg mb : Str → Option Value} {dp un : Nat} {gd : Option (List Code)} {outer : List Env} {base g : Heap} {Q : Flow → Shared → Prop} {E : Value → Shared → Prop} {s : Shared} {L : Nat}
  (B : Below (AR dp un gd outer) base outer g) (X : (KK w).In g) (T : Top topProg LL mean mg mb g) (hdp : dp + 30 < 900) (hun : un + 10 * 30 < 9000) (hc1 : CodeHd g 233 229) (hc2 : CodeHd g 83 79)
include B X T hdp hun hc1 hc2
theorem law_4 {o1 o2 o3 : Obj} {lN lA lR P Dl kz cl nA lS Dr : Nat} {am ks : List (Int × Tok)} {zs lz : List (Str × Tok)} {tl : List (Addr × Obj)} {n0 : Nat}
    (hE : PassesOwn (model PG w) ((AR dp un gd outer).deeper (lawEnv w.params L)) (lawEnv w.params L) E)
    (F : Fr g L s.heap (fun y => if y = Str.ofString "sizes" then some (Value.ref lS) else if y = Str.ofString "ranks" then some (Value.ref Dr) else if y = Str.ofString "places" then some (Value.ref P) else if y = Str.ofString "above" then some (Value.ref lA) else if y = Str.ofString "rows" then some (Value.ref lR) else if y = Str.ofString "names" then some (Value.ref lN) else none))
    (N : News g L s.heap ((lS, W.listOf #[] 0) :: (Dr, LCg.lst (intsV ks)) :: (Dl, strsO lz cl) :: (P, strsO zs kz) :: (lA, intsO am nA) :: (L + 1 + 1 + 1 + 1 + 1 + 1, o1) :: (L + 1 + 1 + 1 + 1 + 1, o2) :: (L + 1 + 1 + 1 + 1, o3) :: (229, tabObj #[]) :: tl))
    (d1 : o1.data = .cell none) (d2 : o2.data = .cell (some (.ref Dl))) (hz6 : zs.length = 6) (hl6 : lz.length = 6) (hlz : ∀ q ∈ lz, q ∈ zs) (ti : TokInv zs n0) (lbn : LB n0 s.toks) (hn0 : 0 < n0) (hsh : ∀ x ∈ zs.map (·.1), ∀ y ∈ zs.map (·.1), SharedOk x y)
    (ht6 : ∀ q ∈ tl, q.1 ≠ L + 1 + 1 + 1 + 1 + 1 + 1) (hord : Dr < lS ∧ Dl < lS ∧ P < lS ∧ lA < lS ∧ L + 6 < lS ∧ 229 < lS ∧ AllLt lS tl) (hDr : Dl ≠ Dr ∧ P ≠ Dr ∧ lA ≠ Dr ∧ L + 1 + 1 + 1 + 1 + 1 + 1 ≠ Dr ∧ L + 1 + 1 + 1 + 1 + 1 ≠ Dr ∧ L + 1 + 1 + 1 + 1 ≠ Dr ∧ 229 ≠ Dr)
    (h6 : Dl ≠ L + 1 + 1 + 1 + 1 + 1 + 1 ∧ P ≠ L + 1 + 1 + 1 + 1 + 1 + 1 ∧ lA ≠ L + 1 + 1 + 1 + 1 + 1 + 1 ∧ 229 < L)
    (next : ∀ (h' : Heap) (tk nS : Nat) (u : Option Value) (ss : List (Int × Tok)) (oc : Obj), Fr g L h' (fun y => if y = Str.ofString "shared" then u else (if y = Str.ofString "sizes" then some (Value.ref lS) else if y = Str.ofString "ranks" then some (Value.ref Dr) else if y = Str.ofString "places" then some (Value.ref P) else if y = Str.ofString "above" then some (Value.ref lA) else if y = Str.ofString "rows" then some (Value.ref lR) else if y = Str.ofString "names" then some (Value.ref lN) else none : Option Value)) → News g L h' ((lS, intsO ss nS) :: (Dr, LCg.lst (intsV ks)) :: (Dl, strsO lz cl) :: (P, strsO zs kz) :: (lA, intsO am nA) :: (L + 1 + 1 + 1 + 1 + 1 + 1, oc) :: (L + 1 + 1 + 1 + 1 + 1, o2) :: (L + 1 + 1 + 1 + 1, o3) :: (229, tabObj #[]) :: tl) → ss.map (·.1) = (zs.map (·.1)).map (sizeF (zs.map (·.1)) (lz.map (·.1))) → LB n0 tk →
      wpAny (model PG w) ((AR dp un gd outer).deeper (lawEnv w.params L)) (execs ((lawBody w.params).drop 11) (lawEnv w.params L)) Q E { s with heap := h', toks := tk }) :
    wpAny (model PG w) ((AR dp un gd outer).deeper (lawEnv w.params L)) (execs ((lawBody w.params).drop 10) (lawEnv w.params L)) Q E s := by
  dsimp only [PG, KK, LL, lawEnv] at *
  generalize hsc : lawScope w.params = sc at hE next ⊢
  generalize hb2 : (lawBody w.params).drop 11 = b2 at next
  generalize hbo : (lawBody w.params).drop 10 = bo
  conv at hsc => lhs; whnf
  conv at hbo => lhs; whnf
  conv at hb2 => lhs; whnf
  subst hsc hbo hb2
  revert X; k_fill; intro X
  k_steps
  rename News _ _ _ _ => NN
  rename Fr _ _ _ _ => FF
  with_reducible refine Stop.go ?_
  have e0 : (fun y => if y = Str.ofString "sizes" then some (Value.ref lS) else if y = Str.ofString "ranks" then some (Value.ref Dr) else if y = Str.ofString "places" then some (Value.ref P) else if y = Str.ofString "above" then some (Value.ref lA) else if y = Str.ofString "rows" then some (Value.ref lR) else if y = Str.ofString "names" then some (Value.ref lN) else none) = fun y => if y = Str.ofString "shared" then none else (if y = Str.ofString "sizes" then some (Value.ref lS) else if y = Str.ofString "ranks" then some (Value.ref Dr) else if y = Str.ofString "places" then some (Value.ref P) else if y = Str.ofString "above" then some (Value.ref lA) else if y = Str.ofString "rows" then some (Value.ref lR) else if y = Str.ofString "names" then some (Value.ref lN) else none : Option Value) := by
    funext y
    by_cases e : y = Str.ofString "shared"
    · subst e; rfl
    · rw [if_neg e]
  refine listJ (vs := strValues zs) (n := kz) (fun i m nx tk => (∃ u, m = fun y => if y = Str.ofString "shared" then u else (if y = Str.ofString "sizes" then some (Value.ref lS) else if y = Str.ofString "ranks" then some (Value.ref Dr) else if y = Str.ofString "places" then some (Value.ref P) else if y = Str.ofString "above" then some (Value.ref lA) else if y = Str.ofString "rows" then some (Value.ref lR) else if y = Str.ofString "names" then some (Value.ref lN) else none : Option Value)) ∧ ∃ nS ss oc v5, nx = (lS, intsO ss nS) :: (Dr, LCg.lst (intsV ks)) :: (Dl, strsO lz cl) :: (P, strsO zs kz) :: (lA, intsO am nA) :: (L + 1 + 1 + 1 + 1 + 1 + 1, oc) :: (L + 1 + 1 + 1 + 1 + 1, o2) :: (L + 1 + 1 + 1 + 1, o3) :: (229, tabObj #[]) :: tl ∧ oc.data = .cell v5 ∧ ss.map (·.1) = ((zs.map (·.1)).take i).map (sizeF (zs.map (·.1)) (lz.map (·.1))) ∧ LB n0 tk)
    rfl (by k_mem) rfl rfl FF NN ⟨⟨none, e0⟩, 0, [], o1, _, rfl, d1, rfl, ?lb0⟩ ?turn ?fin
  case lb0 => rename LB n0 _ => lbx; exact lbx
  case turn =>
    clear NN FF lbn
    clear d1
    intro i v m₁ news₁ tk₀ tk₁ h₁ I o hv hJ hle ho hkeep
    clear hkeep
    refine elimL5 (P := fun m nx => (∀ p ∈ nx, @Ne Nat p.1 I) → Fr g L h₁ m → News g L h₁ ((I, o) :: nx) → _) hJ ?_
    clear hJ
    intro u0 nS ss oc v5 hR hne F' N'
    have hv5 := hR.1
    have hss := hR.2.1
    have lbn := hR.2.2
    refine turn_gen fun Qt hQt => ?_
    refine elim_str (P := fun v => wpAny _ _ (assign _ _ v) _ _ _) hv ?_
    clear hv
    intro x tx hi2
    have htS : ∀ q ∈ tl, q.1 ≠ lS := allLt_ne hord.2.2.2.2.2.2
    replace hne := off9 hne
    dsimp only at hne
    have lb1 : LB n0 tk₁ := lbn.tr hle
    k_steps
    rename LB n0 _ => lb2
    rename News _ _ _ _ => NN
    rename Fr _ _ _ _ => FF
    with_reducible refine Stop.go ?_
    have hxm : x ∈ zs.map (·.1) := List.mem_map.mpr ⟨_, List.mem_of_getElem? hi2, rfl⟩
    have heo : ∀ q ∈ evenOdd zs, q ∈ zs := fun q hq => by
      rcases List.mem_append.mp hq with hq | hq
      all_goals (obtain ⟨j, _, hj⟩ := List.mem_filterMap.mp hq; exact List.mem_of_getElem? hj)
    refine ⟨_, (strValues (evenOdd zs)).toArray, 0, _, n0, fun j v => ∃ (z : Str) (t : Nat), v = .str z t ∧ z = sharedF x (((evenOdd zs).map (·.1)).getD j S1) ∧ LB n0 t, rfl, rfl, FF, NN, by k_mem, ?csz, ?clb, ?cturn, ?cfin⟩
    case csz =>
      have := eo_len zs
      rw [List.size_toArray, PySem.sizeLine_eq]
      simp only [strValues, List.length_map]
      unfold evenOdd
      omega
    case clb =>
      have := lb2.le
      show (_ : Nat) ≤ _
      dsimp only
      omega
    case cturn =>
      clear NN FF
      intro I2 C2 D2 j v oI oC m₂ ys h tk E' hv2 hn hC hx F' N' off' ne'
      obtain ⟨y, ty, hy2, rfl⟩ := strValues_at hv2
      have hym : y ∈ zs.map (·.1) := List.mem_map.mpr ⟨_, heo _ (List.mem_of_getElem? hy2), rfl⟩
      have hgy : ((evenOdd zs).map (·.1)).getD j S1 = y := by rw [List.getD_eq_getElem?_getD, List.getElem?_map, hy2]; rfl
      clear ne'
      k_steps
      rename News _ _ _ _ => NN
      rename Fr _ _ _ _ => FF
      with_reducible refine Stop.go ?_
      refine' pure_use (p_sharedK (hsh x hxm y hym)) ?k1 FF X NN T rfl rfl (Nat.lt_of_lt_of_le hn0 hn) ?kd ?ku ?_
      case k1 => k_asm
      case kd => (walk_at "m_room")
      case ku => (walk_at "m_units")
      rintro r9 h9 tk9 le9 ⟨y9, t9, rfl, e9, l9, b9⟩ F9 N9
      k_steps
      with_reducible refine Stop.go ?_
      exact EltTo.intro F9 N9 (subL_of fun _ h => h) ⟨y9, t9, rfl, by rw [hgy]; exact e9, ⟨Nat.le_trans hn b9.le⟩⟩
    case cfin =>
      clear NN FF
      intro D2 ys h tk hlen hn F' N' o1' hv2
      obtain ⟨qs, rfl, eq, hq⟩ := strs_ofT hlen hv2
      simp only [LCg.Off1] at o1'
      have eqq : qs.map (·.1) = ((evenOdd zs).map (·.1)).map (sharedF x) := pick_eq (sharedF x) eq (by rw [List.size_toArray]; unfold strValues; rw [List.length_map])
      have hql : qs.length < 2000 := by
        have h1 := congrArg List.length eq
        have h2 := eo_len zs
        have h3 : (evenOdd zs).length ≤ 6 := h2
        rw [List.length_map, List.length_map, List.length_range, List.size_toArray] at h1
        simp only [strValues, List.length_map] at h1
        omega
      clear eq hv2
      k_steps
      rename News _ _ _ _ => NN
      rename Fr _ _ _ _ => FF
      with_reducible refine Stop.go ?_
      have htok : ∀ p ∈ qs ++ lz, TokOk p x tx := fun p hp => by
        have hx0 := List.mem_of_getElem? hi2
        rcases List.mem_append.mp hp with hp | hp
        · have h1 := (hq p hp).le
          have h2 := ti.lt _ hx0
          refine ⟨Nat.ne_of_gt (Nat.lt_of_lt_of_le hn0 h1), ti.nz _ hx0, fun e => ?_⟩
          have h3 : (tx : Nat) < n0 := h2
          rw [← e] at h3
          exact absurd h1 (Nat.not_le.mpr h3)
        · exact ⟨ti.nz _ (hlz p hp), ti.nz _ hx0, fun e => ti.eq _ (hlz p hp) _ hx0 e⟩
      refine' pure_use (p_count w mean mg mb (qs ++ lz) x tx _ htok) ?k1 FF X NN T rfl rfl ⟨_, (NN _ (.head _)).1, rfl, 0, rfl⟩ ?kd ?ku ?_
      case k1 => k_asm
      case kd => (walk_at "m_room")
      case ku => (walk_at "m_units")
      rintro r9 h9 tk9 le9 ⟨t9, e9⟩ F9 N9
      obtain ⟨cv, hcv⟩ : ∃ cv : Int, ((cntF (qs ++ lz) x (qs ++ lz).length : Nat) : Int) = cv := ⟨_, rfl⟩
      rw [hcv] at e9
      subst e9
      clear FF NN
      k_steps
      rename News _ _ _ _ => NN
      rename Fr _ _ _ _ => FF
      with_reducible refine Stop.go ?_
      refine' pure_use (p_sub w mean mg mb _ _ _ _) ?k2 FF X NN T rfl rfl True.intro ?kd2 ?ku2 ?_
      case k2 => k_asm
      case kd2 => (walk_at "m_room")
      case ku2 => (walk_at "m_units")
      rintro r8 h8 tk8 le8 ⟨t8, rfl⟩ F8 N8
      clear FF NN
      have hsl : ss.length < 2000 := by
        have h1 := congrArg List.length hss
        rw [List.length_map, List.length_map, List.length_take, List.length_map] at h1
        omega
      k_steps
      rename News _ _ _ _ => NN
      rename Fr _ _ _ _ => FF
      have em : (fun y => if y = Str.ofString "shared" then some (Value.ref D2) else if y = Str.ofString "shared" then u0 else (if y = Str.ofString "sizes" then some (Value.ref lS) else if y = Str.ofString "ranks" then some (Value.ref Dr) else if y = Str.ofString "places" then some (Value.ref P) else if y = Str.ofString "above" then some (Value.ref lA) else if y = Str.ofString "rows" then some (Value.ref lR) else if y = Str.ofString "names" then some (Value.ref lN) else none : Option Value)) = fun y => if y = Str.ofString "shared" then some (Value.ref D2) else (if y = Str.ofString "sizes" then some (Value.ref lS) else if y = Str.ofString "ranks" then some (Value.ref Dr) else if y = Str.ofString "places" then some (Value.ref P) else if y = Str.ofString "above" then some (Value.ref lA) else if y = Str.ofString "rows" then some (Value.ref lR) else if y = Str.ofString "names" then some (Value.ref lN) else none : Option Value) := by
        funext y
        by_cases e : y = Str.ofString "shared"
        · rw [if_pos e, if_pos e]
        · rw [if_neg e, if_neg e, if_neg e]
      have FE : Fr g L _ (fun y => if y = Str.ofString "shared" then some (Value.ref D2) else (if y = Str.ofString "sizes" then some (Value.ref lS) else if y = Str.ofString "ranks" then some (Value.ref Dr) else if y = Str.ofString "places" then some (Value.ref P) else if y = Str.ofString "above" then some (Value.ref lA) else if y = Str.ofString "rows" then some (Value.ref lR) else if y = Str.ofString "names" then some (Value.ref lN) else none : Option Value)) := em ▸ FF
      rename (_ = Data.cell (some (Value.str _ _))) => dx
      have szs := size_step (ss := zs) (lz := lz) (t8 := t8) hi2 hss eqq
      rw [hcv] at szs
      refine hQt _ _ ?_
      refine ⟨_, _, _, (lS, intsO (ss ++ [(cv - 1, t8)]) (nS + 1)) :: (Dr, LCg.lst (intsV ks)) :: (Dl, strsO lz cl) :: (P, strsO zs kz) :: (lA, intsO am nA) :: (L + 1 + 1 + 1 + 1 + 1 + 1, _) :: (L + 1 + 1 + 1 + 1 + 1, o2) :: (L + 1 + 1 + 1 + 1, o3) :: (229, tabObj #[]) :: tl, rfl, FE, ?hN, ?hO, ⟨by k_mem, trivial⟩, fun hl => ⟨⟨_, rfl⟩, _, _, _, _, rfl, dx, szs, lb1.tr hl⟩⟩
      case hN => exact endN9 NN (by k_mem) (by k_mem) (by k_mem) (by k_mem) (by k_mem) (by k_mem) (by k_mem) (by k_mem) (by k_mem) (by k_mem) (fun p hp => by repeat (first | with_reducible assumption | refine List.mem_cons_of_mem _ ?_))
      case hO => exact endO9 hne
  case fin =>
    clear d1
    intro h' tk₀ tk m' news' F' N' hJ hle
    revert F' N'
    refine elimL5 (P := fun m nx => Fr g L h' m → News g L h' nx → _) hJ ?_
    clear hJ
    intro u0 nS ss oc v5 hR F' N'
    have hss := hR.2.1
    have hlen : (strValues zs).length = 6 := by simp [strValues, hz6]
    rw [hlen, List.take_of_length_le (by rw [List.length_map, hz6]; exact Nat.le_refl _)] at hss
    clear NN FF
    have lb1 : LB n0 tk := hR.2.2.tr hle
    k_steps
    all_goals (
      with_reducible refine Stop.go ?_
      exact next _ _ _ _ _ _ F' N' hss (by assumption))
end
end
-- L6
example : True := by
  w_top off
  k_with_none
  k_with "m_room" => (first | exact rm0 hdp | exact rm1 hdp (by decide) | exact rm2 hdp | ((try simp only [depth_under_make, depth_under_kw, depth_in1, depth_deeper, depth_caller] at *); (try dsimp only [AR] at *); omega) | ((simp only [recursionLimit, depth_under_make, depth_under_kw, depth_in1, depth_deeper, depth_caller] at *); (try dsimp only [AR] at *); omega) | decide)
  k_with "m_units" => (first | exact un1 hun (by decide) | exact un2 hun (by decide) | exact un3 hun (by decide) | exact un4 hun | (have hcL9 := cLine_is; (try simp only [units_in1, units_deeper, Around.mark_units, units_caller] at *); (try dsimp only [AR] at *); omega))
  k_with "exec Assign cons ListComp" => ((k_here; (with_reducible show wpAny _ _ (exec (Stmt.Assign [Expr.Name (Str.ofString "numbers") _] _ _) _) _ _ _); k_dflt (refine LCg.Assign_ListComp_U (F₀ := by k_asm) (by rfl) (by with_unfolding_all rfl) (by rfl) (by decide) (by rfl) (by decide) (by rfl) (by rfl) (by rfl) ?_)))
  k_with "eval ListComp" => ((k_here; k_dflt (refine LCg.ListComp_U (F₀ := by k_asm) (by with_unfolding_all rfl) (by decide) (by rfl) (by decide) (by rfl) ?_)))
  k_with "CompSrc" => ((k_here; (rename IsRange _ _ _ _ _ _ _ _ => rgX); k_dflt (refine' LCg.CompSrc.range (n := 6) rfl ?Fzq ?Nzq rgX ?smzq ?szzq (Nat.le_of_ble_eq_true rfl) ?_; (case Fzq => k_asm); (case Nzq => k_asm); (case smzq => decide); (case szzq => exact rfl); intro g'; refine' vals_rest (n := 6) (fun _ v => ∃ n t, v = Value.int n t) True.intro ?vturnzq ?vfinzq; (case' vturnzq => (intro i' v' I' oI' C' oC' D' m' ys' h' tk' E' hi' hp' hy' hC' hx' F' N' off' ne'; obtain ⟨t', e'⟩ := hp'; subst e'; clear ne')); (case' vfinzq => (intro ys' hy' hv'; obtain ⟨nt', e', l'⟩ := ints_of hv'; subst e')))))
  k_with "EltTo" => ((k_here; k_dflt (exact EltTo.intro (by assumption) (by assumption) (by k_subL) ⟨_, _, rfl⟩)))
  k_with "subscriptTail Name Slice ref ref" => ((k_here; (with_reducible show wpAny _ _ (subscriptTail _ (PySem.Expr.Slice _ _ (some _) _) (Value.ref _) (Value.ref _)) _ _ _); k_dflt (refine' slice_ints ?Fzq ?Nzq ?lzq ?izq ?pzq ?qzq ?kzq ?ozq ?zzq ?_ ?szq ?tzq; (case Fzq => k_asm); (case Nzq => k_asm); (case lzq => kmk_list); (case izq => assumption); (case pzq => kmk_part); (case qzq => kmk_part); (case kzq => kmk_part); (case ozq => decide); (case zzq => omega); (case szq => with_unfolding_all rfl); (case tzq => (intro _; with_unfolding_all rfl))); intro D' h' zs' ms' hI' F' N' l1; (try k_lt l1)))
  exact trivial
section
set_option maxHeartbeats 8000000
section
example : True := by
  k_with "k_all" => (with_reducible assumption)
  exact trivial
theorem mulF_prodL (v0 : Int) (t0 : Tok) (hr : List (Int × Tok)) : mulF v0 hr hr.length = prodL (((v0, t0) :: hr).map (·.1)) := by
  unfold mulF prodL
  rw [List.take_length]
  show _ = (hr.map (·.1)).foldl (· * ·) v0
  rw [List.foldl_map]
theorem hook_list {q : Int} {ns : List Int} (h : ns.length = 6) : (List.range 6).map (fun i => redF (fun x _ => x * q + 1) 0 (ns.getD i 0).toNat) = hookL q ns := map_rangeD (f := fun n : Int => redF (fun x _ => x * q + 1) 0 n.toNat) h.symm
example : True := by
  k_with "CompSrc" => (refine Stop.intro ?_)
  k_with "EltTab" => (refine Stop.intro ?_)
  k_with "EltTo" => (refine Stop.intro ?_)
  k_with "call ref" => (refine Stop.intro ?_)
  k_with "call builtin:iter" => (refine Stop.intro ?_)
  exact trivial
variable {w : World} {mean : ExcName → Option Value} {mg mb : Str → Option Value} {dp un : Nat} {gd : Option (List Code)} {outer : List Env} {base g : Heap} {Q : Flow → Shared → Prop} {E : Value → Shared → Prop} {s : Shared} {L : Nat}
  (B : Below (AR dp un gd outer) base outer g) (X : (KK w).In g) (T : Top topProg LL mean mg mb g) (hdp : dp + 30 < 900) (hun : un + 10 * 30 < 9000) (hc1 : CodeHd g 233 229) (hc2 : CodeHd g 83 79)
include B X T hdp hun hc1 hc2
theorem law_5 {oc o2 o3 : Obj} {lN lA lR P Dl kz cl nA nS lS Dr : Nat} {u : Option Value} {am ks ss : List (Int × Tok)} {zs lz : List (Str × Tok)} {tl : List (Addr × Obj)} {q : Int} {tq : Tok}
    (F : Fr g L s.heap (fun y => if y = Str.ofString "shared" then u else if y = Str.ofString "sizes" then some (Value.ref lS) else if y = Str.ofString "ranks" then some (Value.ref Dr) else if y = Str.ofString "places" then some (Value.ref P) else if y = Str.ofString "above" then some (Value.ref lA) else if y = Str.ofString "rows" then some (Value.ref lR) else if y = Str.ofString "names" then some (Value.ref lN) else none))
    (N : News g L s.heap ((lS, intsO ss nS) :: (Dr, LCg.lst (intsV ks)) :: (Dl, strsO lz cl) :: (P, strsO zs kz) :: (lA, intsO am nA) :: (L + 1 + 1 + 1 + 1 + 1 + 1, oc) :: (L + 1 + 1 + 1 + 1 + 1, o2) :: (L + 1 + 1 + 1 + 1, o3) :: (229, tabObj #[]) :: tl))
    (d3 : o3.data = .cell (some (.int q tq))) (hq : -50 ≤ q ∧ q ≤ 49) (hss : ss.length = 6) (hsn : ∀ p ∈ ss, 0 ≤ p.1 ∧ p.1 < 1000) (ham : am.length = 6) (hks : ks.length = 6) (hk63 : kdfHas (ordW (am.map (·.1)) (ks.map (·.1)) q 6) 63 = true) (hhk : ∀ v ∈ hookL q (ss.map (·.1)), Builtin.Int.intBits v ≤ 64)
    (hmo : IntMulOk (kdfLook (ordW (am.map (·.1)) (ks.map (·.1)) q 6) 63 0) (prodL (hookL q (ss.map (·.1))))) (hlaw : kdfLook (ordW (am.map (·.1)) (ks.map (·.1)) q 6) 63 0 * prodL (hookL q (ss.map (·.1))) = prodN q 6)
    (hne : ∀ p ∈ (lS, intsO ss nS) :: (Dr, LCg.lst (intsV ks)) :: (Dl, strsO lz cl) :: (P, strsO zs kz) :: (lA, intsO am nA) :: (L + 1 + 1 + 1 + 1 + 1 + 1, oc) :: (L + 1 + 1 + 1 + 1 + 1, o2) :: (L + 1 + 1 + 1 + 1, o3) :: tl, p.1 ≠ 229)
    (next : ∀ (h' : Heap) (tk : Nat) (m : Str → Option Value) (tb : List (Addr × Obj)), Fr g L h' m → News g L h' (tl ++ tb) → TabAt tb → (∀ p ∈ tl, ∀ q ∈ tb, p.1 ≠ q.1) → Q (.ret (.bool true)) { s with heap := h', toks := tk }) :
    wpAny (model PG w) ((AR dp un gd outer).deeper (lawEnv w.params L)) (execs ((lawBody w.params).drop 11) (lawEnv w.params L)) Q E s := by
  dsimp only [PG, KK, LL, lawEnv] at *
  generalize hsc : lawScope w.params = sc
  generalize hbo : (lawBody w.params).drop 11 = bo
  conv at hsc => lhs; whnf
  conv at hbo => lhs; whnf
  subst hsc hbo
  revert X; k_fill; intro X
  k_steps
  rename News _ _ _ _ => NN
  rename Fr _ _ _ _ => FF
  with_reducible refine Stop.go ?_
  have N1 : News g L _ (((lS, intsO ss nS) :: (Dr, LCg.lst (intsV ks)) :: (Dl, strsO lz cl) :: (P, strsO zs kz) :: (lA, intsO am nA) :: (L + 1 + 1 + 1 + 1 + 1 + 1, oc) :: (L + 1 + 1 + 1 + 1 + 1, o2) :: (L + 1 + 1 + 1 + 1, o3) :: tl) ++ [((229 : Addr), tabObj #[])]) := fun p hp => by
    rcases List.mem_append.mp hp with hp | hp
    · iterate 8 (rcases List.mem_cons.mp hp with rfl | hp; · exact NN _ (by k_mem))
      exact NN p (by repeat (first | with_reducible assumption | refine List.mem_cons_of_mem _ ?_))
    · rw [List.mem_singleton.mp hp]; exact NN _ (by k_mem)
  refine LCg.CompSrc.ledger rfl FF N1 (its := (intsV ss).toArray) (k := nS) (.head _) (by rw [List.size_toArray, PySem.sizeLine_eq]; simp only [intsV, List.length_map]; omega) ?_
  intro g'
  refine tabs_rest (fun (i : Nat) (v : Value) => ∃ t, v = .int (redF (fun x _ => x * q + 1) 0 ((ss.map (fun p : Int × Tok => p.1)).getD i 0).toNat) t) (.inl rfl) ?hd (fun tb => .inr ⟨_, .head _, rfl, _, rfl⟩) ?turn ?fin
  case hd => intro p hp q hq; rw [List.mem_singleton.mp hq]; exact hne p hp
  case turn =>
    clear NN FF N1
    intro i v I oI C oC D m₂ ys h tk tb E' htb hd3 hi hv hy hC hx F' N' ne'
    obtain ⟨c, tc, hc2, rfl, hcn⟩ : ∃ (c : Nat) (tc : Tok), ss[i]? = some ((c : Int), tc) ∧ v = .int (c : Int) tc ∧ c < 1000 := by
      rw [List.getElem?_toArray, List.getElem?_map] at hv
      cases e : ss[i]? with
      | none => rw [e] at hv; cases hv
      | some p =>
        rw [e] at hv
        have h1 := hsn p (List.mem_of_getElem? e)
        have h2 : ((p.1.toNat : Nat) : Int) = p.1 := Int.toNat_of_nonneg h1.1
        refine ⟨p.1.toNat, p.2, by rw [h2], ?_, by omega⟩
        rw [h2]
        exact (Option.some.inj hv).symm
    have hcg : ((ss.map (fun p : Int × Tok => p.1)).getD i 0).toNat = c := by rw [List.getD_eq_getElem?_getD, List.getElem?_map, hc2]; rfl
    clear hv
    k_steps
    rename News _ _ _ _ => NN
    rename Fr _ _ _ _ => FF
    with_reducible refine Stop.go ?_
    refine' tab_use (news := (I, oI) :: (C, oC) :: (D, LCg.lst ys) :: (lS, intsO ss nS) :: (Dr, LCg.lst (intsV ks)) :: (Dl, strsO lz cl) :: (P, strsO zs kz) :: (lA, intsO am nA) :: (L + 1 + 1 + 1 + 1 + 1 + 1, oc) :: (L + 1 + 1 + 1 + 1 + 1, o2) :: (L + 1 + 1 + 1 + 1, o3) :: tl) (p_terms w mean mg mb c q _ _ hcn ?kq) ?kB FF X NN T rfl rfl hc1 htb hd3 ?kd ?ku ?_
    case kq => exact PySem.intBits_le_iff.mpr (by omega)
    case kB => k_asm
    case kd => (walk_at "m_room")
    case ku => (walk_at "m_units")
    rintro r9 h9 tk9 tb9 F9 N9 ht9 hd9 ⟨t9, rfl⟩
    k_steps
    with_reducible refine Stop.go ?_
    exact ⟨_, _, tb9, rfl, F9, N9, ht9, hd9, t9, by rw [hcg]⟩
  case fin =>
    clear NN FF N1
    intro ys tb htb hd hlen hv
    obtain ⟨hs', rfl, eh⟩ := ints_of2 hlen hv
    clear hv hlen
    k_steps
    rename News _ _ _ _ => NN
    rename Fr _ _ _ _ => FF
    with_reducible refine Stop.go ?_
    refine iter_own FF NN (.head _) ?_
    intro I h1 F1 N1' l1
    clear FF NN
    rw [show (intsV ss).toArray.size = 6 by rw [List.size_toArray]; unfold intsV; rw [List.length_map, hss], hook_list (by rw [List.length_map]; exact hss)] at eh
    obtain ⟨⟨v0, t0⟩, hr, rfl⟩ : ∃ p hr, hs' = p :: hr := by
      cases hs' with
      | nil => have h6 := congrArg List.length eh; unfold hookL at h6; rw [List.length_map, List.length_map, List.length_map, hss] at h6; cases h6
      | cons p hr => exact ⟨p, hr, rfl⟩
    k_steps
    with_reducible refine Stop.go ?_
    refine' it_use (p_redmul w mean mg mb v0 t0 hr ?kb) ?kB2 F1 X N1' (.head _) T rfl rfl (fun p hp => Nat.ne_of_lt (l1 p hp)) ?kd2 ?ku2 ?_
    case kb =>
      intro p hp
      refine hhk _ ?_
      rw [← eh]
      exact List.mem_map.mpr ⟨p, .tail _ hp, rfl⟩
    case kB2 => k_asm
    case kd2 => (walk_at "m_room")
    case ku2 => (walk_at "m_units")
    rintro r9 h9 tk9 F9 N9 ⟨t9, rfl⟩
    clear F1 N1'
    rw [mulF_prodL v0 t0 hr, eh]
    generalize hH : prodL (hookL q (ss.map (·.1))) = H at hmo hlaw ⊢
    generalize hO : kdfLook (ordW (am.map (·.1)) (ks.map (·.1)) q 6) 63 0 = O at hmo hlaw ⊢
    k_steps
    with_reducible refine Stop.go ?_
    rename News _ _ _ _ => NN
    rename Fr _ _ _ _ => FF
    have po := p_orders w mean mg mb q tq lA Dr am ks ham hks hq hk63
    rw [hO] at po
    refine' pure_use po ?b1 FF X NN T rfl rfl ⟨⟨_, (NN (lA, intsO am nA) (by k_mem)).1, rfl, nA, rfl⟩, ⟨_, (NN (Dr, LCg.lst (intsV ks)) (by k_mem)).1, rfl, _, rfl⟩⟩ ?d1 ?u1 ?_
    case b1 => k_asm
    case d1 => (walk_at "m_room")
    case u1 => (walk_at "m_units")
    rintro r9 h9 tk9 le9 ⟨t9, rfl⟩ F9 N9
    clear FF NN
    k_steps
    with_reducible refine Stop.go ?_
    refine' pure_use (p_mul w mean mg mb O H _ _ hmo) ?b2 F9 X N9 T rfl rfl True.intro ?d2 ?u2 ?_
    case b2 => k_asm
    case d2 => (walk_at "m_room")
    case u2 => (walk_at "m_units")
    rintro r8 h8 tk8 le8 ⟨t8, rfl⟩ F8 N8
    clear F9 N9
    k_steps
    with_reducible refine Stop.go ?_
    refine' pure_use (p_product w mean mg mb q _ hq.1 hq.2) ?b3 F8 X N8 T rfl rfl True.intro ?d3 ?u3 ?_
    case b3 => k_asm
    case d3 => (walk_at "m_room")
    case u3 => (walk_at "m_units")
    rintro r7 h7 tk7 le7 ⟨t7, rfl⟩ F7 N7
    clear F8 N8
    rw [hlaw]
    k_steps
    rw [show (prodN q 6 == prodN q 6) = true from beq_self_eq_true _]
    exact next _ _ _ _ F7 (fun p hp => N7 p (by repeat (first | with_reducible assumption | refine List.mem_cons_of_mem _ ?_))) htb (fun p hp => hd p (by repeat (first | with_reducible assumption | refine List.mem_cons_of_mem _ ?_)))
end
end
-- LA
example : True := by
  w_top off
  k_with_none
  exact trivial
section
set_option maxHeartbeats 8000000
section
theorem zs_getD {zs : List (Str × Tok)} {ms : List Str} (e : zs.map (·.1) = ms) (i : Nat) : (zs.getD i (S1, 0)).1 = ms.getD i S1 := by
  subst e
  rw [List.getD_eq_getElem?_getD, List.getD_eq_getElem?_getD, List.getElem?_map]
  cases zs[i]? <;> rfl
theorem zs_mem {zs : List (Str × Tok)} {i : Nat} (h : i < zs.length) : zs.getD i (S1, 0) ∈ zs := by
  rw [List.getD_eq_getElem?_getD, List.getElem?_eq_getElem h]
  exact List.getElem_mem _
variable {w : World} {mean : ExcName → Option Value} {mg mb : Str → Option Value} {dp un : Nat} {gd : Option (List Code)} {outer : List Env} {base g : Heap} {Q : Flow → Shared → Prop} {E : Value → Shared → Prop} {s : Shared} {L : Nat}
  (B : Below (AR dp un gd outer) base outer g) (X : (KK w).In g) (T : Top topProg LL mean mg mb g) (hdp : dp + 30 < 900) (hun : un + 10 * 30 < 9000) (hc1 : CodeHd g 233 229) (hc2 : CodeHd g 83 79)
include B X T hdp hun hc1 hc2
theorem law_all {o1 o2 o3 o4 o5 o6 : Obj} {sl : Addr} {vs : List Value} {ns : List Int} (hE : PassesOwn (model PG w) ((AR dp un gd outer).deeper (lawEnv w.params L)) (lawEnv w.params L) E) (hl : g.IsList sl vs.toArray) (hvs : IntsAre vs ns) (hlen : ns.length ≤ 63) (h79 : 79 < L) (h229 : 229 < L) (F : Fr g L s.heap fun _ => none)
    (N : News g L s.heap [(L + 1 + 1 + 1 + 1 + 1 + 1, o1), (L + 1 + 1 + 1 + 1 + 1, o2), (L + 1 + 1 + 1 + 1, o3), (L + 1 + 1 + 1, o4), (L + 1 + 1, o5), (L + 1, o6), (229, tabObj #[]), (79, tabObj #[])])
    (d1 : o1.data = .cell none) (d2 : o2.data = .cell none) (d3 : o3.data = .cell none) (d4 : o4.data = .cell none) (d5 : o5.data = .cell none) (d6 : o6.data = .cell (some (.ref sl)))
    (next : ∀ (h' : Heap) (tk : Nat) (m : Str → Option Value) (ps : Array Value) (tb : List (Addr × Obj)), Fr g L h' m → News g L h' ((79, tabObj ps) :: tb) → TabAt tb → Q (.ret (.bool true)) { s with heap := h', toks := tk }) :
    wpAny (model PG w) ((AR dp un gd outer).deeper (lawEnv w.params L)) (execs (lawBody w.params) (lawEnv w.params L)) Q E s := by
  refine law_0 B X T hdp hun hc1 hc2 hl hvs hlen h79 h229 F N d1 d2 d3 d4 d5 d6 ?_
  intro h1 tk1 lN lA lR D mt nt o3' o4' F1 N1 d4' ⟨q, tq, d3', hq1, hq2⟩ hmt hnt hlN hlA hlR hD
  refine law_1 B X T hdp hun hc1 hc2 hE h79 h229 F1 N1 d5 d4' hmt hnt hlN hlA hlR hD ?_
  intro h2 tk2 nA nR am rs o5' F2 N2 J
  obtain ⟨p, ok⟩ := law_ok (nt.map (·.1))
  refine law_2 B X T hdp hun hc1 hc2 (p := p) h79 h229 F2 N2 d1 d2 d4' hmt hnt hlN hlA hlR hD J.lb.le ok.hg ok.hcom ok.h6 ok.run ok.psz ok.plt ?_
  intro h3 tk3 P Dl kz cl zs ps o2' tl F3 N3 d2' hzs ti ht6 hrt hord hP
  have hz6 : zs.length = 6 := by have := congrArg List.length hzs; rw [List.length_map, ok.h6] at this; exact this
  have hr6 : rs.length = 6 := by have := congrArg List.length J.rows; rwa [List.length_map, rowsF_length] at this
  have hlz : (p.toList.map fun i => zs.getD i (S1, 0)).map (·.1) = lzF (nt.map (·.1)) p := by
    rw [List.map_map]
    exact List.map_congr_left fun i _ => zs_getD hzs i
  have hrow : rowS rs = rowsF (abF (nt.map (·.1))) 6 := J.rows
  have hlzm : ∀ q ∈ p.toList.map fun i => zs.getD i (S1, 0), q ∈ zs := fun q hq => by
    obtain ⟨i, hi, rfl⟩ := List.mem_map.mp hq
    exact zs_mem (by rw [hz6]; exact ok.plt i hi)
  have N3' : News g L h3 ((Dl, strsO (p.toList.map fun i => zs.getD i (S1, 0)) cl) :: (P, strsO zs kz) :: (lR, rowsO rs nR) :: (lA, intsO am nA) :: (L + 1 + 1 + 1 + 1 + 1 + 1, o1) :: (L + 1 + 1 + 1 + 1 + 1, o2') :: (L + 1 + 1 + 1 + 1, o3') :: (229, tabObj #[]) :: (D, LCg.lst (intsV nt)) :: (lN, strsO mt 0) :: (L + 1 + 1 + 1, o4') :: (L + 1 + 1, o5') :: (L + 1, o6) :: (79, tabObj ps) :: tl) := fun q hq => by
    iterate 14 (rcases List.mem_cons.mp hq with rfl | hq; · exact N3 _ (by k_mem))
    exact N3 q (by repeat (first | with_reducible assumption | refine List.mem_cons_of_mem _ ?_))
  refine law_3 B X T hdp hun hc1 hc2 (p2 := p) (n0 := tk3) F3 N3' d2' ?hrows hz6 ?hl6 hr6 ?hok ?run ok.plt ?heq ?hrl ?hrn ?hin ⟨Nat.le_refl _⟩ ?_
  case hrows => intro q hq; have := hrt q hq; repeat (first | with_reducible assumption | refine List.mem_cons_of_mem _ ?_)
  case hl6 => rw [List.length_map, Array.length_toList, ok.psz]
  case hok => rw [hlz]; exact ok.hok
  case run => rw [hrow]; exact ok.run2
  case heq => rw [hlz, hrow]; exact ok.heq
  case hrl =>
    intro r hr x hx
    refine ok.hrl (r.2.1.map (·.1)) ?_ x.1 (List.mem_map.mpr ⟨x, hx, rfl⟩)
    rw [← hrow]
    exact List.mem_map.mpr ⟨r, hr, rfl⟩
  case hrn =>
    intro r hr
    have := ok.hrn (r.2.1.map (·.1)) (by rw [← hrow]; exact List.mem_map.mpr ⟨r, hr, rfl⟩)
    rwa [List.length_map] at this
  case hin => intro x hx; rw [hlz]; rw [hzs] at hx; exact ok.hin x hx
  intro h4 tk4 lS Dr ks F4 N4 hks lb4 hord4 hDr
  rw [hzs, hlz] at hks
  have hn0 : 0 < tk3 := by
    have h0 : 0 < zs.length := by rw [hz6]; decide
    exact Nat.lt_of_le_of_lt (Nat.zero_le _) (ti.lt _ (List.getElem_mem h0))
  refine law_4 B X T hdp hun hc1 hc2 (n0 := tk3) hE F4 N4 d1 d2' hz6 ?gl6 hlzm ti lb4 hn0 ?hsh ?ht6 hord4 hDr ?h6 ?_
  case gl6 => rw [List.length_map, Array.length_toList, ok.psz]
  case hsh => rw [hzs]; exact ok.hsh
  case ht6 =>
    intro q hq
    rcases List.mem_cons.mp hq with rfl | hq; · exact hD.2.2.1
    iterate 5 (rcases List.mem_cons.mp hq with rfl | hq; · (clear hord hord4 hP hDr hD; show (_ : Nat) ≠ _; dsimp only; omega))
    exact ht6 q hq
  case h6 =>
    refine ⟨?_, ?_, ?_, h229⟩
    · exact Nat.ne_of_gt hord.2.2.2.2.2.1
    · exact hP.2.2.2.2.1
    · clear hord hord4 hP hDr hD; omega
  intro h5 tk5 nS u ss oc F5 N5 hss lb5
  rw [hzs, hlz] at hss
  have hsl : ss.length = 6 := by have := congrArg List.length hss; rw [List.length_map, List.length_map, ok.h6] at this; exact this
  have hkl : ks.length = 6 := by have := congrArg List.length hks; rw [List.length_map, List.length_map, ok.h6] at this; exact this
  have hal : am.length = 6 := by have := congrArg List.length J.am; simpa using this
  have N5' : News g L h5 ((lS, intsO ss nS) :: (Dr, LCg.lst (intsV ks)) :: (Dl, strsO (p.toList.map fun i => zs.getD i (S1, 0)) cl) :: (P, strsO zs kz) :: (lA, intsO am nA) :: (L + 1 + 1 + 1 + 1 + 1 + 1, oc) :: (L + 1 + 1 + 1 + 1 + 1, o2') :: (L + 1 + 1 + 1 + 1, o3') :: (229, tabObj #[]) :: [(79, tabObj ps)]) := fun q hq => by
    iterate 10 (rcases List.mem_cons.mp hq with rfl | hq; · exact N5 _ (by k_mem))
    exact nomatch hq
  refine law_5 B X T hdp hun hc1 hc2 F5 N5' d3' ⟨hq1, hq2⟩ hsl ?hsn hal hkl ?hk63 ?hhk ?hmo ?hlaw ?hne ?_
  case hsn => intro x hx; exact ok.hsn x.1 (by show x.1 ∈ (madeF _).map _; rw [← hss]; exact List.mem_map.mpr ⟨x, hx, rfl⟩)
  case hk63 => rw [J.am, hks]; exact ok.hk63 q hq1 hq2
  case hhk => rw [hss]; exact ok.hhk q hq1 hq2
  case hmo => rw [J.am, hks, hss]; exact ok.hmo q hq1 hq2
  case hlaw => rw [J.am, hks, hss]; exact ok.hlaw q hq1 hq2
  case hne =>
    intro x hx
    rcases List.mem_cons.mp hx with rfl | hx; · exact Nat.ne_of_gt hord4.2.2.2.2.2.1
    rcases List.mem_cons.mp hx with rfl | hx; · exact Ne.symm hDr.2.2.2.2.2.2
    rcases List.mem_cons.mp hx with rfl | hx; · exact Nat.ne_of_gt hord.2.2.2.2.2.2.1
    rcases List.mem_cons.mp hx with rfl | hx; · exact hP.2.2.2.2.2.2.2.2.2.2.1
    clear hord hord4 hP hDr hD
    iterate 5 (rcases List.mem_cons.mp hx with rfl | hx; · (show (_ : Nat) ≠ _; dsimp only; omega))
    exact nomatch hx
  intro h6 tk6 m tb F6 N6 ht _
  exact next h6 tk6 m ps tb F6 N6 ht
end
end
-- L0
example : True := by
  w_top off
  k_with_none
  exact trivial
section
set_option maxHeartbeats 8000000
section
noncomputable def codeOfFn (K : Frag) (f : Addr) : Option Value := match K.lookup f with
  | some ⟨_, _, .func fd, _⟩ => some fd.code
  | _ => none
theorem code_of_fn {K : Frag} {h : Heap} {f : Addr} {o : Obj} {fd : FuncData} {c : Value} (X : K.In h) (ho : h.get? f = some o) (hd : o.data = .func fd) (e : codeOfFn K f = some c) : fd.code = c := by
  unfold codeOfFn at e
  split at e
  · rename_i hfo
    have e2 := X _ _ hfo
    rw [ho] at e2
    cases e2
    cases hd
    exact Option.some.inj e
  · cases e
theorem law_holds : PySem.Challenge.rw_ik0053_01.Holds := by
  have IF := @law_all
  dsimp only [PG, KK, LL, lawEnv] at IF
  refine hd ?_
  k_fill
  intro w s₀ s₁ mg mb G Y fa o pm cd doc dV kV ho hd hcd hD hmg hg args vals as hpre hlay hrd hwl hlo
  have KX := km_in_of Y
  km_tabs Y
  have X := (Ground.X G).1
  have V := (Ground.X G).2
  refine Ground.open G ?_
  intro T B D TE TW
  try (refine guard_noD D (by decide +kernel) ?_; clear D)
  km_lay T hmg ho hd cd
  have efa : fa = 249 := by
    have e0 : nsIn (Mine.hd.heap_1 w.params) mainGlobals (Str.ofString "law") = some (some (.ref 249)) := by kernel_rfl
    have e1 := mg_of KX (Top.g T) e0
    rw [hmg] at e1
    injection e1 with e1
    injection e1
  have efo : cd = .ref 248 := code_of_fn (c := .ref 248) (f := fa) KX ho hd (by rw [efa]; kernel_rfl)
  clear hmg
  subst efo
  subst efa
  specialize @IF w
  generalize hsc : lawScope w.params = sc at IF
  generalize hbo : lawBody w.params = bo at IF
  conv at hsc => lhs; whnf
  conv at hbo => lhs; whnf
  subst hsc hbo
  wrow_args hpre hlay hrd hwl hlo
  all_goals (
    first | refine callC_kw (enter_call ?_) | refine enter_call ?_
    w_top on
    kn_posts
    w_call any ho hd hcd hD T F
    clear hd
    kn_ghosts F T
    k_drop
    skip)
  rename Below _ _ _ _ => B9
  rename Frag.In _ _ => X9
  rename Top _ _ _ _ _ _ => T9
  rename News _ _ _ _ => N9
  rename Fr _ _ _ _ => F9
  rename 229 < _ ∧ 79 < _ => l9
  rename ¬ _ < _ => hc9
  dsimp only
  unfold callerA
  refine' IF (dp := 1 + claimMargin) (un := 4) (gd := some []) (outer := []) B9 X9 T9 ?hdp ?hun ?hc1 ?hc2 ?hE ?hl ?hvs ?hlen l9.2 l9.1 ?F ?N ?d1 ?d2 ?d3 ?d4 ?d5 ?d6 ?next
  case hdp => decide
  case hun => decide
  case hc1 => assumption
  case hc2 => assumption
  case hE => passes_own
  case N => exact N9
  case hl => assumption
  case hvs => assumption
  case hlen => omega
  case F => with_unfolding_all exact F9
  case d1 => with_unfolding_all assumption
  case d2 => with_unfolding_all assumption
  case d3 => with_unfolding_all assumption
  case d4 => with_unfolding_all assumption
  case d5 => with_unfolding_all assumption
  case d6 => with_unfolding_all assumption
  case next =>
    intro h' tk m ps tb F' N' ht
    refine ⟨?_, ?_, GrownAt.of N' (.head _), trivial⟩
    · dsimp only
      have hk9 := F'.keep
      wrow_close
    rcases ht with rfl | ⟨c', oc, vs', t', rfl, _⟩
    · exact GrownAt.of N' (.tail _ (.head _))
    · exact GrownAt.of N' (.tail _ (.head _))
end
end
end Mine
theorem PySem.Challenge.cw_ik0053_01_holds : PySem.Challenge.rw_ik0053_01.Holds := by
  exact Mine.law_holds
